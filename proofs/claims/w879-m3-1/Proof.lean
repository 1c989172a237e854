import JvmDerived
import JvmDerived.Pilot.@@N@@Statement
import JvmDerived.Pilot.@@N@@Code
set_option linter.unusedVariables false
set_option linter.unusedSimpArgs false
namespace Jvm.Pilot.@@N@@
open Jvm Jvm.ClassFile Sem Op Lib Jvm.Free Jvm.Stand Jvm.LawKit Jvm.RoadKit Bundle Jvm.Pilot.@@N@@.Jvm.D
theorem own_b1 {v A K : Int32} (h : v < A) (d : ¬ (K < A)) : v < K := by rw [Int32.lt_iff_toInt_lt] at *; omega
theorem own_b2 {v A K : Int32} (h : v < A) (d : A.toInt ≤ K.toInt + 1) : ¬ (K < v) := by rw [Int32.lt_iff_toInt_lt] at *; omega
theorem own_b3 {v A K : Int32} (h : ¬ (v < A)) (d : ¬ (A < K)) : ¬ (v < K) := by rw [Int32.lt_iff_toInt_lt] at *; omega
theorem own_b4 {v A K : Int32} (h : ¬ (v < A)) (d : K < A) : K < v := by rw [Int32.lt_iff_toInt_lt] at *; omega
theorem own_b5 {v A K : Int32} (h : A < v) (d : K.toInt ≤ A.toInt + 1) : ¬ (v < K) := by rw [Int32.lt_iff_toInt_lt] at *; omega
theorem own_b6 {v A K : Int32} (h : A < v) (d : ¬ (A < K)) : K < v := by rw [Int32.lt_iff_toInt_lt] at *; omega
theorem own_b7 {v A K : Int32} (h : ¬ (A < v)) (d : A < K) : v < K := by rw [Int32.lt_iff_toInt_lt] at *; omega
theorem own_b8 {v A K : Int32} (h : ¬ (A < v)) (d : ¬ (K < A)) : ¬ (K < v) := by rw [Int32.lt_iff_toInt_lt] at *; omega
theorem own_w {Z : State} {a0 : Array Value} (hw : ∀ d ∈ tables_1, d.before a0 Z = true) (i : Nat) {d : Jvm.Cond} (h : tables_1[i]? = some d) : d.before a0 Z = true := hw d (List.mem_of_getElem? h)
theorem own_fldI {args : Array Value} {s : State} {t : Term} {x : Addr} {C n d : String} {k : Int32} (ht : t.eval args s none [] s = some (.ref x)) (h : (Jvm.Cond.eq (.field t C n d) (.int k)).value args s none s [] = some true) : s.fieldOf? x C n d = some (.int k) := by
  obtain ⟨u, v, e1, e2, -, -⟩ := cmp_v (Or.inl h)
  have e3 : (Term.field t C n d).eval args s none [] s = s.fieldOf? x C n d := fld_at ht
  cases (show some (Value.int k) = some v from e2)
  rw [e3] at e1
  cases u <;> simp [Jvm.Cond.value, Term.eval, ht, e1] at h
  rw [e1, h]
theorem own_fldR {args : Array Value} {s : State} {t u : Term} {x y : Addr} {C n d : String} (ht : t.eval args s none [] s = some (.ref x)) (hu : u.eval args s none [] s = some (.ref y)) (h : (Jvm.Cond.eq (.field t C n d) u).value args s none s [] = some true) : s.fieldOf? x C n d = some (.ref y) := by
  obtain ⟨v, w, e1, e2, -, -⟩ := cmp_v (Or.inl h)
  have e3 : (Term.field t C n d).eval args s none [] s = s.fieldOf? x C n d := fld_at ht
  rw [e3] at e1
  cases v <;> simp [Jvm.Cond.value, Term.eval, ht, hu, e1] at h
  rw [e1, h]
def own_t (i len cut g : Int32) : Int32 := if i < len then (if i < cut then (if (0 : Int32) < g then 1 else 0) else 0) else 0
theorem own_t1 {i len cut g : Int32} (h1 : i < len) (h2 : i < cut) (h3 : (0 : Int32) < g) : own_t i len cut g = (1 : Int32) := by unfold own_t; rw [if_pos h1, if_pos h2, if_pos h3]
theorem own_t0a {i len cut g : Int32} (h1 : ¬ (i < len)) : own_t i len cut g = (0 : Int32) := by unfold own_t; rw [if_neg h1]
theorem own_t0b {i len cut g : Int32} (h2 : ¬ (i < cut)) : own_t i len cut g = (0 : Int32) := by unfold own_t; by_cases h1 : i < len <;> simp [h1, h2]
theorem own_t0c {i len cut g : Int32} (h3 : ¬ ((0 : Int32) < g)) : own_t i len cut g = (0 : Int32) := by unfold own_t; by_cases h1 : i < len <;> by_cases h2 : i < cut <;> simp [h1, h2, h3]
theorem d0_0 : decode method_2_code 0 = .ok (.iload_n 0, 1) := by decide +kernel
theorem d0_1 : decode method_2_code 1 = .ok (.ifCond .ne 7, 3) := by decide +kernel
theorem d0_4 : decode method_2_code 4 = .ok (.iconst 0, 1) := by decide +kernel
theorem d0_5 : decode method_2_code 5 = .ok (.newarray .int, 2) := by decide +kernel
theorem d0_7 : decode method_2_code 7 = .ok (.areturn, 1) := by decide +kernel
theorem pn_0 : plainName "com/example/favonius/favonius/eval/TopicRankingRelevantInTopPinLaw" = true := by first | (simp [plainName, overriddenIn]; done) | decide +kernel
theorem ef_rm_make0 (m : MethodId) (x0 : Int32) (x1 : Int32) (x2 : Int32) (x3 : Int32) (x4 : Int32) : entryFrame m #[(.int x0), (.int x1), (.int x2), (.int x3), (.int x4)] 5 = mkF m 0 #[.val (.int x0), .val (.int x1), .val (.int x2), .val (.int x3), .val (.int x4)] [] := by first | (simp [entryFrame, mkF, argsToLocals, Value.category]; done) | rfl
def Q_rm_make0 (Z : State) (ga : Int32) (gb : Int32) (gc : Int32) (gd : Int32) (h0 : Heap) (n0 : Nat) (v : Option Value) (h : Heap) (L : List Loc) : Prop := (∃ (r : Addr) (k : ClassId), (v = some (.ref r)) ∧ (Fr n0 L) ∧ (Keep h0 h []) ∧ (h0.size ≤ r) ∧ (Arv Z h r k .int (0 : Int32) [] (.int (0 : Int32))))
set_option maxRecDepth 65536 in
set_option maxHeartbeats 40000000 in
theorem rm_make0 (l : Launch) (Z : State) (a0 : Array Value) (hw : ∀ d ∈ tables_1, d.before a0 Z = true) (ws : List Jvm.Cond) (ga : Int32) (gb : Int32) (gc : Int32) (gd : Int32) (h0 : Heap) (n0 : Nat) (O0 : Old Z n0 h0) :
    MetFree l (⟨"com/example/favonius/favonius/eval/TopicRankingRelevantInTopPinLaw", "make", "(IIIII)[I"⟩ : MethodName) (head1 (Jvm.Cond.code (⟨"com/example/favonius/favonius/eval/TopicRankingRelevantInTopPinLaw", "make", "(IIIII)[I"⟩ : MethodName) method_2_code 5 (some (.array .int)) :: ws) ({ frames := 0, cells := 1, slots := 0, locals := 0 } : Room)) (fun a U => a = #[(.int (0 : Int32)), (.int ga), (.int gb), (.int gc), (.int gd)] ∧ Z.Warmed39 U.vm ∧ U.heap = h0) (fun _ _ _ _ _ => True) (fun _ U o U' => ∃ v L, o = .returned v ∧ Q_rm_make0 Z ga gb gc gd h0 n0 v U'.heap L ∧ FrameEnd U o U' L ({ frames := 0, cells := 1, slots := 0, locals := 0 } : Room).cells ({ frames := 0, cells := 1, slots := 0, locals := 0 } : Room).slots) := by
  refine MetFree.of_bodySF (plainFor_of_name pn_0) hisR ?_
  intro p e s m args below meth c s₁ Bd hml0 hP hK
  obtain ⟨rfl, hZ, hh⟩ := hP
  have hx := Bd.exec
  have hby := Bd.bytes
  have hml : c.maxLocals = 5 := hml0
  have hown : s.vm.findClass "com/example/favonius/favonius/eval/TopicRankingRelevantInTopPinLaw" = some m.cls := findClass_of_methodNamed Bd.named
  have hnm := (name_of_methodNamed Bd.named Bd.method).1
  have X0 : Stand p l e ({ frames := 0, cells := 1, slots := 0, locals := 0 } : Room) s m #[(.int (0 : Int32)), (.int ga), (.int gb), (.int gc), (.int gd)] below meth c s₁ [] 0 0 := Stand.of_body Bd
  have e0 : s₁.heap = h0 := by rw [← hh, Bd.state]; rfl
  have N0 := Fr.nil n0
  have K0 : Keep h0 h0 [] := Keep.refl _ _
  have pre0 : ∀ t, Steps p.tables e below (s₁.setTop (mkF m 0 #[.val (.int (0 : Int32)), .val (.int ga), .val (.int gb), .val (.int gc), .val (.int gd)] [])) t → Steps p.tables e below (s₁.setTop (entryFrame m #[(.int (0 : Int32)), (.int ga), (.int gb), (.int gc), (.int gd)] 5)) t := fun t k => castTop (ef_rm_make0 m (0 : Int32) ga gb gc gd) k
  obtain ⟨T1, h1, k1, X1, e1, E1, A1, B1, st1⟩ := newPE X0 hx hZ (own_w hw 5 rfl) e0 (g := (mkF m 5 #[.val (.int (0 : Int32)), .val (.int ga), .val (.int gb), .val (.int gc), .val (.int gd)] [(.int (0 : Int32))])) rfl (hb hby d0_5) rfl (by decide) (cap := 0) (by decide) (by decide) (by decide) (by decide) (ad := "[I") (by first | rfl | decide)
  obtain ⟨b1, g1⟩ : ∃ z, z = h0.size := ⟨_, rfl⟩
  have ge_b1 : n0 ≤ b1 := by rw [g1, ← O0.1]; exact O0.2.1
  have sz_b1 : h0.size ≤ b1 := by rw [g1]; exact K0.1
  rw [← g1] at A1 B1 st1
  have O2 := O0.ext E1
  have K3 : Keep h0 h1 [] := K0.ext E1
  have F1 : Arv Z h1 b1 k1 .int (0 : Int32) [] (.int (0 : Int32)) := (Arv.new A1 (by decide)).pad (pad_rep [] (.int (0 : Int32)) 0)
  have S4 : ∀ t, Steps p.tables e below (T1.setTop (mkF m 7 #[.val (.int (0 : Int32)), .val (.int ga), .val (.int gb), .val (.int gc), .val (.int gd)] [(.ref b1)])) t → Steps p.tables e below (s₁.setTop (mkF m 0 #[.val (.int (0 : Int32)), .val (.int ga), .val (.int gb), .val (.int gc), .val (.int gd)] [])) t := by
    intro t kt
    refine XS.iloadN X0.here hx rfl (hb hby d0_0) rfl ?_
    refine XS.ifNo X0.here hx rfl (hb hby d0_1) rfl ((if0 _ _).trans (teq ((by decide) : (0 : Int32) = (0 : Int32))).2) ?_
    refine XS.iconst X0.here hx rfl (hb hby d0_4) ?_
    show Steps p.tables e below (s₁.setTop (mkF m 5 #[.val (.int (0 : Int32)), .val (.int ga), .val (.int gb), .val (.int gc), .val (.int gd)] [(.int (0 : Int32))])) _
    refine st1 _ ?_
    exact kt
  obtain ⟨fs, hr, hrun, hended, hW, hsame⟩ := X1.leave (v := some (.ref b1)) (fun h => by rw [Bd.returns] at h; cases h)
  refine ⟨_, _, pre0 _ (S4 _ ?_), hrun, hended, _, _, rfl, ?_, ⟨_, rfl⟩, hW, hsame.mono (by decide) (by decide)⟩
  · exact retOut X1 hx Bd.returns rfl (Or.inr (Or.inr (Or.inr (Or.inr ⟨rfl, rfl, rfl⟩)))) (hb hby d0_7) hr
  · show Q_rm_make0 Z ga gb gc gd h0 n0 _ T1.heap _
    rw [e1]
    exact ⟨b1, k1, rfl, N0, K3, sz_b1, F1⟩
theorem d0_8 : decode method_2_code 8 = .ok (.iload_n 0, 1) := by decide +kernel
theorem d0_9 : decode method_2_code 9 = .ok (.iconst 1, 1) := by decide +kernel
theorem d0_10 : decode method_2_code 10 = .ok (.if_icmp .ne 11, 3) := by decide +kernel
theorem d0_13 : decode method_2_code 13 = .ok (.iconst 1, 1) := by decide +kernel
theorem d0_14 : decode method_2_code 14 = .ok (.newarray .int, 2) := by decide +kernel
theorem d0_16 : decode method_2_code 16 = .ok (.dup, 1) := by decide +kernel
theorem d0_17 : decode method_2_code 17 = .ok (.iconst 0, 1) := by decide +kernel
theorem d0_18 : decode method_2_code 18 = .ok (.iload_n 1, 1) := by decide +kernel
theorem d0_19 : decode method_2_code 19 = .ok (.iastore, 1) := by decide +kernel
theorem d0_20 : decode method_2_code 20 = .ok (.areturn, 1) := by decide +kernel
theorem ef_rm_make1 (m : MethodId) (x0 : Int32) (x1 : Int32) (x2 : Int32) (x3 : Int32) (x4 : Int32) : entryFrame m #[(.int x0), (.int x1), (.int x2), (.int x3), (.int x4)] 5 = mkF m 0 #[.val (.int x0), .val (.int x1), .val (.int x2), .val (.int x3), .val (.int x4)] [] := by first | (simp [entryFrame, mkF, argsToLocals, Value.category]; done) | rfl
def Q_rm_make1 (Z : State) (ga : Int32) (gb : Int32) (gc : Int32) (gd : Int32) (h0 : Heap) (n0 : Nat) (v : Option Value) (h : Heap) (L : List Loc) : Prop := (∃ (r : Addr) (k : ClassId), (v = some (.ref r)) ∧ (Fr n0 L) ∧ (Keep h0 h []) ∧ (h0.size ≤ r) ∧ (Arv Z h r k .int (1 : Int32) [(.int ga)] (.int (0 : Int32))))
set_option maxRecDepth 65536 in
set_option maxHeartbeats 40000000 in
theorem rm_make1 (l : Launch) (Z : State) (a0 : Array Value) (hw : ∀ d ∈ tables_1, d.before a0 Z = true) (ws : List Jvm.Cond) (ga : Int32) (gb : Int32) (gc : Int32) (gd : Int32) (h0 : Heap) (n0 : Nat) (O0 : Old Z n0 h0) :
    MetFree l (⟨"com/example/favonius/favonius/eval/TopicRankingRelevantInTopPinLaw", "make", "(IIIII)[I"⟩ : MethodName) (head1 (Jvm.Cond.code (⟨"com/example/favonius/favonius/eval/TopicRankingRelevantInTopPinLaw", "make", "(IIIII)[I"⟩ : MethodName) method_2_code 5 (some (.array .int)) :: ws) ({ frames := 0, cells := 1, slots := 1, locals := 0 } : Room)) (fun a U => a = #[(.int (1 : Int32)), (.int ga), (.int gb), (.int gc), (.int gd)] ∧ Z.Warmed39 U.vm ∧ U.heap = h0) (fun _ _ _ _ _ => True) (fun _ U o U' => ∃ v L, o = .returned v ∧ Q_rm_make1 Z ga gb gc gd h0 n0 v U'.heap L ∧ FrameEnd U o U' L ({ frames := 0, cells := 1, slots := 1, locals := 0 } : Room).cells ({ frames := 0, cells := 1, slots := 1, locals := 0 } : Room).slots) := by
  refine MetFree.of_bodySF (plainFor_of_name pn_0) hisR ?_
  intro p e s m args below meth c s₁ Bd hml0 hP hK
  obtain ⟨rfl, hZ, hh⟩ := hP
  have hx := Bd.exec
  have hby := Bd.bytes
  have hml : c.maxLocals = 5 := hml0
  have hown : s.vm.findClass "com/example/favonius/favonius/eval/TopicRankingRelevantInTopPinLaw" = some m.cls := findClass_of_methodNamed Bd.named
  have hnm := (name_of_methodNamed Bd.named Bd.method).1
  have X0 : Stand p l e ({ frames := 0, cells := 1, slots := 1, locals := 0 } : Room) s m #[(.int (1 : Int32)), (.int ga), (.int gb), (.int gc), (.int gd)] below meth c s₁ [] 0 0 := Stand.of_body Bd
  have e0 : s₁.heap = h0 := by rw [← hh, Bd.state]; rfl
  have N0 := Fr.nil n0
  have K0 : Keep h0 h0 [] := Keep.refl _ _
  have pre0 : ∀ t, Steps p.tables e below (s₁.setTop (mkF m 0 #[.val (.int (1 : Int32)), .val (.int ga), .val (.int gb), .val (.int gc), .val (.int gd)] [])) t → Steps p.tables e below (s₁.setTop (entryFrame m #[(.int (1 : Int32)), (.int ga), (.int gb), (.int gc), (.int gd)] 5)) t := fun t k => castTop (ef_rm_make1 m (1 : Int32) ga gb gc gd) k
  obtain ⟨T1, h1, k1, X1, e1, E1, A1, B1, st1⟩ := newPE X0 hx hZ (own_w hw 5 rfl) e0 (g := (mkF m 14 #[.val (.int (1 : Int32)), .val (.int ga), .val (.int gb), .val (.int gc), .val (.int gd)] [(.int (1 : Int32))])) rfl (hb hby d0_14) rfl (by decide) (cap := 1) (by decide) (by decide) (by decide) (by decide) (ad := "[I") (by first | rfl | decide)
  obtain ⟨b1, g1⟩ : ∃ z, z = h0.size := ⟨_, rfl⟩
  have ge_b1 : n0 ≤ b1 := by rw [g1, ← O0.1]; exact O0.2.1
  have sz_b1 : h0.size ≤ b1 := by rw [g1]; exact K0.1
  rw [← g1] at A1 B1 st1
  have O2 := O0.ext E1
  have K3 : Keep h0 h1 [] := K0.ext E1
  have F1 : Arv Z h1 b1 k1 .int (1 : Int32) [(.int (0 : Int32))] (.int (0 : Int32)) := (Arv.new A1 (by decide)).pad (pad_rep [] (.int (0 : Int32)) 1)
  obtain ⟨cl4, Ar4, q4, Sz4, Nn4, Hh4, Gg4⟩ := id F1
  have in4 : ¬ ((0 : Int32) < 0 ∨ cl4.slots.size ≤ ((0 : Int32)).toNatClampNeg) := inb_of Sz4 ⟨by decide, by decide⟩
  obtain ⟨T4, h4, X4, e4, W4, st4⟩ := stI X1 hx hZ e1 Ar4 (j := (0 : Int32)) in4 (g := (mkF m 19 #[.val (.int (1 : Int32)), .val (.int ga), .val (.int gb), .val (.int gc), .val (.int gd)] [(.int ga), (.int (0 : Int32)), (.ref b1), (.ref b1)])) rfl rfl (hb hby d0_19)
  have O5 := O2.wr W4 ge_b1
  have K6 : Keep h0 h4 [] := K3.wr W4 (Or.inr sz_b1)
  have N7 := Fr.snoc X4 N0 ge_b1
  have F4 : Arv Z h4 b1 k1 .int (1 : Int32) [(.int ga)] (.int (0 : Int32)) := Arv.set Ar4 q4 Sz4 Nn4 Hh4 Gg4 rfl W4 0 rfl (Nat.le_of_ble_eq_true rfl)
  have S8 : ∀ t, Steps p.tables e below (T4.setTop (mkF m 20 #[.val (.int (1 : Int32)), .val (.int ga), .val (.int gb), .val (.int gc), .val (.int gd)] [(.ref b1)])) t → Steps p.tables e below (s₁.setTop (mkF m 0 #[.val (.int (1 : Int32)), .val (.int ga), .val (.int gb), .val (.int gc), .val (.int gd)] [])) t := by
    intro t kt
    refine XS.iloadN X0.here hx rfl (hb hby d0_0) rfl ?_
    refine XS.ifYes X0.here hx rfl (pc0 := 1) (pc' := 8) rfl (hb hby d0_1) rfl ((if0 _ _).trans (feq ((by decide) : ¬ ((1 : Int32) = (0 : Int32)))).2) (by decide) (by decide) ?_
    refine XS.iloadN X0.here hx rfl (hb hby d0_8) rfl ?_
    refine XS.iconst X0.here hx rfl (hb hby d0_9) ?_
    refine XS.icmpNo X0.here hx rfl (hb hby d0_10) rfl (teq ((by decide) : (1 : Int32) = (1 : Int32))).2 ?_
    refine XS.iconst X0.here hx rfl (hb hby d0_13) ?_
    show Steps p.tables e below (s₁.setTop (mkF m 14 #[.val (.int (1 : Int32)), .val (.int ga), .val (.int gb), .val (.int gc), .val (.int gd)] [(.int (1 : Int32))])) _
    refine st1 _ ?_
    refine XS.dup X1.here hx rfl (hb hby d0_16) rfl rfl ?_
    refine XS.iconst X1.here hx rfl (hb hby d0_17) ?_
    refine XS.iloadN X1.here hx rfl (hb hby d0_18) rfl ?_
    show Steps p.tables e below (T1.setTop (mkF m 19 #[.val (.int (1 : Int32)), .val (.int ga), .val (.int gb), .val (.int gc), .val (.int gd)] [(.int ga), (.int (0 : Int32)), (.ref b1), (.ref b1)])) _
    refine st4 _ ?_
    exact kt
  obtain ⟨fs, hr, hrun, hended, hW, hsame⟩ := X4.leave (v := some (.ref b1)) (fun h => by rw [Bd.returns] at h; cases h)
  refine ⟨_, _, pre0 _ (S8 _ ?_), hrun, hended, _, _, rfl, ?_, ⟨_, rfl⟩, hW, hsame.mono (by decide) (by decide)⟩
  · exact retOut X4 hx Bd.returns rfl (Or.inr (Or.inr (Or.inr (Or.inr ⟨rfl, rfl, rfl⟩)))) (hb hby d0_20) hr
  · show Q_rm_make1 Z ga gb gc gd h0 n0 _ T4.heap _
    rw [e4]
    exact ⟨b1, k1, rfl, N7, K6, sz_b1, F4⟩
theorem d0_21 : decode method_2_code 21 = .ok (.iload_n 0, 1) := by decide +kernel
theorem d0_22 : decode method_2_code 22 = .ok (.iconst 2, 1) := by decide +kernel
theorem d0_23 : decode method_2_code 23 = .ok (.if_icmp .ne 15, 3) := by decide +kernel
theorem d0_26 : decode method_2_code 26 = .ok (.iconst 2, 1) := by decide +kernel
theorem d0_27 : decode method_2_code 27 = .ok (.newarray .int, 2) := by decide +kernel
theorem d0_29 : decode method_2_code 29 = .ok (.dup, 1) := by decide +kernel
theorem d0_30 : decode method_2_code 30 = .ok (.iconst 0, 1) := by decide +kernel
theorem d0_31 : decode method_2_code 31 = .ok (.iload_n 1, 1) := by decide +kernel
theorem d0_32 : decode method_2_code 32 = .ok (.iastore, 1) := by decide +kernel
theorem d0_33 : decode method_2_code 33 = .ok (.dup, 1) := by decide +kernel
theorem d0_34 : decode method_2_code 34 = .ok (.iconst 1, 1) := by decide +kernel
theorem d0_35 : decode method_2_code 35 = .ok (.iload_n 2, 1) := by decide +kernel
theorem d0_36 : decode method_2_code 36 = .ok (.iastore, 1) := by decide +kernel
theorem d0_37 : decode method_2_code 37 = .ok (.areturn, 1) := by decide +kernel
theorem ef_rm_make2 (m : MethodId) (x0 : Int32) (x1 : Int32) (x2 : Int32) (x3 : Int32) (x4 : Int32) : entryFrame m #[(.int x0), (.int x1), (.int x2), (.int x3), (.int x4)] 5 = mkF m 0 #[.val (.int x0), .val (.int x1), .val (.int x2), .val (.int x3), .val (.int x4)] [] := by first | (simp [entryFrame, mkF, argsToLocals, Value.category]; done) | rfl
def Q_rm_make2 (Z : State) (ga : Int32) (gb : Int32) (gc : Int32) (gd : Int32) (h0 : Heap) (n0 : Nat) (v : Option Value) (h : Heap) (L : List Loc) : Prop := (∃ (r : Addr) (k : ClassId), (v = some (.ref r)) ∧ (Fr n0 L) ∧ (Keep h0 h []) ∧ (h0.size ≤ r) ∧ (Arv Z h r k .int (2 : Int32) [(.int ga), (.int gb)] (.int (0 : Int32))))
set_option maxRecDepth 65536 in
set_option maxHeartbeats 40000000 in
theorem rm_make2 (l : Launch) (Z : State) (a0 : Array Value) (hw : ∀ d ∈ tables_1, d.before a0 Z = true) (ws : List Jvm.Cond) (ga : Int32) (gb : Int32) (gc : Int32) (gd : Int32) (h0 : Heap) (n0 : Nat) (O0 : Old Z n0 h0) :
    MetFree l (⟨"com/example/favonius/favonius/eval/TopicRankingRelevantInTopPinLaw", "make", "(IIIII)[I"⟩ : MethodName) (head1 (Jvm.Cond.code (⟨"com/example/favonius/favonius/eval/TopicRankingRelevantInTopPinLaw", "make", "(IIIII)[I"⟩ : MethodName) method_2_code 5 (some (.array .int)) :: ws) ({ frames := 0, cells := 1, slots := 2, locals := 0 } : Room)) (fun a U => a = #[(.int (2 : Int32)), (.int ga), (.int gb), (.int gc), (.int gd)] ∧ Z.Warmed39 U.vm ∧ U.heap = h0) (fun _ _ _ _ _ => True) (fun _ U o U' => ∃ v L, o = .returned v ∧ Q_rm_make2 Z ga gb gc gd h0 n0 v U'.heap L ∧ FrameEnd U o U' L ({ frames := 0, cells := 1, slots := 2, locals := 0 } : Room).cells ({ frames := 0, cells := 1, slots := 2, locals := 0 } : Room).slots) := by
  refine MetFree.of_bodySF (plainFor_of_name pn_0) hisR ?_
  intro p e s m args below meth c s₁ Bd hml0 hP hK
  obtain ⟨rfl, hZ, hh⟩ := hP
  have hx := Bd.exec
  have hby := Bd.bytes
  have hml : c.maxLocals = 5 := hml0
  have hown : s.vm.findClass "com/example/favonius/favonius/eval/TopicRankingRelevantInTopPinLaw" = some m.cls := findClass_of_methodNamed Bd.named
  have hnm := (name_of_methodNamed Bd.named Bd.method).1
  have X0 : Stand p l e ({ frames := 0, cells := 1, slots := 2, locals := 0 } : Room) s m #[(.int (2 : Int32)), (.int ga), (.int gb), (.int gc), (.int gd)] below meth c s₁ [] 0 0 := Stand.of_body Bd
  have e0 : s₁.heap = h0 := by rw [← hh, Bd.state]; rfl
  have N0 := Fr.nil n0
  have K0 : Keep h0 h0 [] := Keep.refl _ _
  have pre0 : ∀ t, Steps p.tables e below (s₁.setTop (mkF m 0 #[.val (.int (2 : Int32)), .val (.int ga), .val (.int gb), .val (.int gc), .val (.int gd)] [])) t → Steps p.tables e below (s₁.setTop (entryFrame m #[(.int (2 : Int32)), (.int ga), (.int gb), (.int gc), (.int gd)] 5)) t := fun t k => castTop (ef_rm_make2 m (2 : Int32) ga gb gc gd) k
  obtain ⟨T1, h1, k1, X1, e1, E1, A1, B1, st1⟩ := newPE X0 hx hZ (own_w hw 5 rfl) e0 (g := (mkF m 27 #[.val (.int (2 : Int32)), .val (.int ga), .val (.int gb), .val (.int gc), .val (.int gd)] [(.int (2 : Int32))])) rfl (hb hby d0_27) rfl (by decide) (cap := 2) (by decide) (by decide) (by decide) (by decide) (ad := "[I") (by first | rfl | decide)
  obtain ⟨b1, g1⟩ : ∃ z, z = h0.size := ⟨_, rfl⟩
  have ge_b1 : n0 ≤ b1 := by rw [g1, ← O0.1]; exact O0.2.1
  have sz_b1 : h0.size ≤ b1 := by rw [g1]; exact K0.1
  rw [← g1] at A1 B1 st1
  have O2 := O0.ext E1
  have K3 : Keep h0 h1 [] := K0.ext E1
  have F1 : Arv Z h1 b1 k1 .int (2 : Int32) [(.int (0 : Int32)), (.int (0 : Int32))] (.int (0 : Int32)) := (Arv.new A1 (by decide)).pad (pad_rep [] (.int (0 : Int32)) 2)
  obtain ⟨cl4, Ar4, q4, Sz4, Nn4, Hh4, Gg4⟩ := id F1
  have in4 : ¬ ((0 : Int32) < 0 ∨ cl4.slots.size ≤ ((0 : Int32)).toNatClampNeg) := inb_of Sz4 ⟨by decide, by decide⟩
  obtain ⟨T4, h4, X4, e4, W4, st4⟩ := stI X1 hx hZ e1 Ar4 (j := (0 : Int32)) in4 (g := (mkF m 32 #[.val (.int (2 : Int32)), .val (.int ga), .val (.int gb), .val (.int gc), .val (.int gd)] [(.int ga), (.int (0 : Int32)), (.ref b1), (.ref b1)])) rfl rfl (hb hby d0_32)
  have O5 := O2.wr W4 ge_b1
  have K6 : Keep h0 h4 [] := K3.wr W4 (Or.inr sz_b1)
  have N7 := Fr.snoc X4 N0 ge_b1
  have F4 : Arv Z h4 b1 k1 .int (2 : Int32) [(.int ga), (.int (0 : Int32))] (.int (0 : Int32)) := Arv.set Ar4 q4 Sz4 Nn4 Hh4 Gg4 rfl W4 0 rfl (Nat.le_of_ble_eq_true rfl)
  obtain ⟨cl8, Ar8, q8, Sz8, Nn8, Hh8, Gg8⟩ := id F4
  have in8 : ¬ ((1 : Int32) < 0 ∨ cl8.slots.size ≤ ((1 : Int32)).toNatClampNeg) := inb_of Sz8 ⟨by decide, by decide⟩
  obtain ⟨T8, h8, X8, e8, W8, st8⟩ := stI X4 hx hZ e4 Ar8 (j := (1 : Int32)) in8 (g := (mkF m 36 #[.val (.int (2 : Int32)), .val (.int ga), .val (.int gb), .val (.int gc), .val (.int gd)] [(.int gb), (.int (1 : Int32)), (.ref b1), (.ref b1)])) rfl rfl (hb hby d0_36)
  have O9 := O5.wr W8 ge_b1
  have K10 : Keep h0 h8 [] := K6.wr W8 (Or.inr sz_b1)
  have N11 := Fr.snoc X8 N7 ge_b1
  have F8 : Arv Z h8 b1 k1 .int (2 : Int32) [(.int ga), (.int gb)] (.int (0 : Int32)) := Arv.set Ar8 q8 Sz8 Nn8 Hh8 Gg8 rfl W8 1 rfl (Nat.le_of_ble_eq_true rfl)
  have S12 : ∀ t, Steps p.tables e below (T8.setTop (mkF m 37 #[.val (.int (2 : Int32)), .val (.int ga), .val (.int gb), .val (.int gc), .val (.int gd)] [(.ref b1)])) t → Steps p.tables e below (s₁.setTop (mkF m 0 #[.val (.int (2 : Int32)), .val (.int ga), .val (.int gb), .val (.int gc), .val (.int gd)] [])) t := by
    intro t kt
    refine XS.iloadN X0.here hx rfl (hb hby d0_0) rfl ?_
    refine XS.ifYes X0.here hx rfl (pc0 := 1) (pc' := 8) rfl (hb hby d0_1) rfl ((if0 _ _).trans (feq ((by decide) : ¬ ((2 : Int32) = (0 : Int32)))).2) (by decide) (by decide) ?_
    refine XS.iloadN X0.here hx rfl (hb hby d0_8) rfl ?_
    refine XS.iconst X0.here hx rfl (hb hby d0_9) ?_
    refine XS.icmpYes X0.here hx rfl (pc0 := 10) (pc' := 21) rfl (hb hby d0_10) rfl (feq ((by decide) : ¬ ((2 : Int32) = (1 : Int32)))).2 (by decide) (by decide) ?_
    refine XS.iloadN X0.here hx rfl (hb hby d0_21) rfl ?_
    show Steps p.tables e below (s₁.setTop (mkF m 22 #[.val (.int (2 : Int32)), .val (.int ga), .val (.int gb), .val (.int gc), .val (.int gd)] [(.int (2 : Int32))])) _
    refine XS.iconst X0.here hx rfl (hb hby d0_22) ?_
    refine XS.icmpNo X0.here hx rfl (hb hby d0_23) rfl (teq ((by decide) : (2 : Int32) = (2 : Int32))).2 ?_
    refine XS.iconst X0.here hx rfl (hb hby d0_26) ?_
    show Steps p.tables e below (s₁.setTop (mkF m 27 #[.val (.int (2 : Int32)), .val (.int ga), .val (.int gb), .val (.int gc), .val (.int gd)] [(.int (2 : Int32))])) _
    refine st1 _ ?_
    refine XS.dup X1.here hx rfl (hb hby d0_29) rfl rfl ?_
    refine XS.iconst X1.here hx rfl (hb hby d0_30) ?_
    refine XS.iloadN X1.here hx rfl (hb hby d0_31) rfl ?_
    show Steps p.tables e below (T1.setTop (mkF m 32 #[.val (.int (2 : Int32)), .val (.int ga), .val (.int gb), .val (.int gc), .val (.int gd)] [(.int ga), (.int (0 : Int32)), (.ref b1), (.ref b1)])) _
    refine st4 _ ?_
    refine XS.dup X4.here hx rfl (hb hby d0_33) rfl rfl ?_
    refine XS.iconst X4.here hx rfl (hb hby d0_34) ?_
    refine XS.iloadN X4.here hx rfl (hb hby d0_35) rfl ?_
    show Steps p.tables e below (T4.setTop (mkF m 36 #[.val (.int (2 : Int32)), .val (.int ga), .val (.int gb), .val (.int gc), .val (.int gd)] [(.int gb), (.int (1 : Int32)), (.ref b1), (.ref b1)])) _
    refine st8 _ ?_
    exact kt
  obtain ⟨fs, hr, hrun, hended, hW, hsame⟩ := X8.leave (v := some (.ref b1)) (fun h => by rw [Bd.returns] at h; cases h)
  refine ⟨_, _, pre0 _ (S12 _ ?_), hrun, hended, _, _, rfl, ?_, ⟨_, rfl⟩, hW, hsame.mono (by decide) (by decide)⟩
  · exact retOut X8 hx Bd.returns rfl (Or.inr (Or.inr (Or.inr (Or.inr ⟨rfl, rfl, rfl⟩)))) (hb hby d0_37) hr
  · show Q_rm_make2 Z ga gb gc gd h0 n0 _ T8.heap _
    rw [e8]
    exact ⟨b1, k1, rfl, N11, K10, sz_b1, F8⟩
theorem d0_38 : decode method_2_code 38 = .ok (.iload_n 0, 1) := by decide +kernel
theorem d0_39 : decode method_2_code 39 = .ok (.iconst 3, 1) := by decide +kernel
theorem d0_40 : decode method_2_code 40 = .ok (.if_icmp .ne 19, 3) := by decide +kernel
theorem d0_43 : decode method_2_code 43 = .ok (.iconst 3, 1) := by decide +kernel
theorem d0_44 : decode method_2_code 44 = .ok (.newarray .int, 2) := by decide +kernel
theorem d0_46 : decode method_2_code 46 = .ok (.dup, 1) := by decide +kernel
theorem d0_47 : decode method_2_code 47 = .ok (.iconst 0, 1) := by decide +kernel
theorem d0_48 : decode method_2_code 48 = .ok (.iload_n 1, 1) := by decide +kernel
theorem d0_49 : decode method_2_code 49 = .ok (.iastore, 1) := by decide +kernel
theorem d0_50 : decode method_2_code 50 = .ok (.dup, 1) := by decide +kernel
theorem d0_51 : decode method_2_code 51 = .ok (.iconst 1, 1) := by decide +kernel
theorem d0_52 : decode method_2_code 52 = .ok (.iload_n 2, 1) := by decide +kernel
theorem d0_53 : decode method_2_code 53 = .ok (.iastore, 1) := by decide +kernel
theorem d0_54 : decode method_2_code 54 = .ok (.dup, 1) := by decide +kernel
theorem d0_55 : decode method_2_code 55 = .ok (.iconst 2, 1) := by decide +kernel
theorem d0_56 : decode method_2_code 56 = .ok (.iload_n 3, 1) := by decide +kernel
theorem d0_57 : decode method_2_code 57 = .ok (.iastore, 1) := by decide +kernel
theorem d0_58 : decode method_2_code 58 = .ok (.areturn, 1) := by decide +kernel
theorem ef_rm_make3 (m : MethodId) (x0 : Int32) (x1 : Int32) (x2 : Int32) (x3 : Int32) (x4 : Int32) : entryFrame m #[(.int x0), (.int x1), (.int x2), (.int x3), (.int x4)] 5 = mkF m 0 #[.val (.int x0), .val (.int x1), .val (.int x2), .val (.int x3), .val (.int x4)] [] := by first | (simp [entryFrame, mkF, argsToLocals, Value.category]; done) | rfl
def Q_rm_make3 (Z : State) (ga : Int32) (gb : Int32) (gc : Int32) (gd : Int32) (h0 : Heap) (n0 : Nat) (v : Option Value) (h : Heap) (L : List Loc) : Prop := (∃ (r : Addr) (k : ClassId), (v = some (.ref r)) ∧ (Fr n0 L) ∧ (Keep h0 h []) ∧ (h0.size ≤ r) ∧ (Arv Z h r k .int (3 : Int32) [(.int ga), (.int gb), (.int gc)] (.int (0 : Int32))))
set_option maxRecDepth 65536 in
set_option maxHeartbeats 40000000 in
theorem rm_make3 (l : Launch) (Z : State) (a0 : Array Value) (hw : ∀ d ∈ tables_1, d.before a0 Z = true) (ws : List Jvm.Cond) (ga : Int32) (gb : Int32) (gc : Int32) (gd : Int32) (h0 : Heap) (n0 : Nat) (O0 : Old Z n0 h0) :
    MetFree l (⟨"com/example/favonius/favonius/eval/TopicRankingRelevantInTopPinLaw", "make", "(IIIII)[I"⟩ : MethodName) (head1 (Jvm.Cond.code (⟨"com/example/favonius/favonius/eval/TopicRankingRelevantInTopPinLaw", "make", "(IIIII)[I"⟩ : MethodName) method_2_code 5 (some (.array .int)) :: ws) ({ frames := 0, cells := 1, slots := 3, locals := 0 } : Room)) (fun a U => a = #[(.int (3 : Int32)), (.int ga), (.int gb), (.int gc), (.int gd)] ∧ Z.Warmed39 U.vm ∧ U.heap = h0) (fun _ _ _ _ _ => True) (fun _ U o U' => ∃ v L, o = .returned v ∧ Q_rm_make3 Z ga gb gc gd h0 n0 v U'.heap L ∧ FrameEnd U o U' L ({ frames := 0, cells := 1, slots := 3, locals := 0 } : Room).cells ({ frames := 0, cells := 1, slots := 3, locals := 0 } : Room).slots) := by
  refine MetFree.of_bodySF (plainFor_of_name pn_0) hisR ?_
  intro p e s m args below meth c s₁ Bd hml0 hP hK
  obtain ⟨rfl, hZ, hh⟩ := hP
  have hx := Bd.exec
  have hby := Bd.bytes
  have hml : c.maxLocals = 5 := hml0
  have hown : s.vm.findClass "com/example/favonius/favonius/eval/TopicRankingRelevantInTopPinLaw" = some m.cls := findClass_of_methodNamed Bd.named
  have hnm := (name_of_methodNamed Bd.named Bd.method).1
  have X0 : Stand p l e ({ frames := 0, cells := 1, slots := 3, locals := 0 } : Room) s m #[(.int (3 : Int32)), (.int ga), (.int gb), (.int gc), (.int gd)] below meth c s₁ [] 0 0 := Stand.of_body Bd
  have e0 : s₁.heap = h0 := by rw [← hh, Bd.state]; rfl
  have N0 := Fr.nil n0
  have K0 : Keep h0 h0 [] := Keep.refl _ _
  have pre0 : ∀ t, Steps p.tables e below (s₁.setTop (mkF m 0 #[.val (.int (3 : Int32)), .val (.int ga), .val (.int gb), .val (.int gc), .val (.int gd)] [])) t → Steps p.tables e below (s₁.setTop (entryFrame m #[(.int (3 : Int32)), (.int ga), (.int gb), (.int gc), (.int gd)] 5)) t := fun t k => castTop (ef_rm_make3 m (3 : Int32) ga gb gc gd) k
  obtain ⟨T1, h1, k1, X1, e1, E1, A1, B1, st1⟩ := newPE X0 hx hZ (own_w hw 5 rfl) e0 (g := (mkF m 44 #[.val (.int (3 : Int32)), .val (.int ga), .val (.int gb), .val (.int gc), .val (.int gd)] [(.int (3 : Int32))])) rfl (hb hby d0_44) rfl (by decide) (cap := 3) (by decide) (by decide) (by decide) (by decide) (ad := "[I") (by first | rfl | decide)
  obtain ⟨b1, g1⟩ : ∃ z, z = h0.size := ⟨_, rfl⟩
  have ge_b1 : n0 ≤ b1 := by rw [g1, ← O0.1]; exact O0.2.1
  have sz_b1 : h0.size ≤ b1 := by rw [g1]; exact K0.1
  rw [← g1] at A1 B1 st1
  have O2 := O0.ext E1
  have K3 : Keep h0 h1 [] := K0.ext E1
  have F1 : Arv Z h1 b1 k1 .int (3 : Int32) [(.int (0 : Int32)), (.int (0 : Int32)), (.int (0 : Int32))] (.int (0 : Int32)) := (Arv.new A1 (by decide)).pad (pad_rep [] (.int (0 : Int32)) 3)
  obtain ⟨cl4, Ar4, q4, Sz4, Nn4, Hh4, Gg4⟩ := id F1
  have in4 : ¬ ((0 : Int32) < 0 ∨ cl4.slots.size ≤ ((0 : Int32)).toNatClampNeg) := inb_of Sz4 ⟨by decide, by decide⟩
  obtain ⟨T4, h4, X4, e4, W4, st4⟩ := stI X1 hx hZ e1 Ar4 (j := (0 : Int32)) in4 (g := (mkF m 49 #[.val (.int (3 : Int32)), .val (.int ga), .val (.int gb), .val (.int gc), .val (.int gd)] [(.int ga), (.int (0 : Int32)), (.ref b1), (.ref b1)])) rfl rfl (hb hby d0_49)
  have O5 := O2.wr W4 ge_b1
  have K6 : Keep h0 h4 [] := K3.wr W4 (Or.inr sz_b1)
  have N7 := Fr.snoc X4 N0 ge_b1
  have F4 : Arv Z h4 b1 k1 .int (3 : Int32) [(.int ga), (.int (0 : Int32)), (.int (0 : Int32))] (.int (0 : Int32)) := Arv.set Ar4 q4 Sz4 Nn4 Hh4 Gg4 rfl W4 0 rfl (Nat.le_of_ble_eq_true rfl)
  obtain ⟨cl8, Ar8, q8, Sz8, Nn8, Hh8, Gg8⟩ := id F4
  have in8 : ¬ ((1 : Int32) < 0 ∨ cl8.slots.size ≤ ((1 : Int32)).toNatClampNeg) := inb_of Sz8 ⟨by decide, by decide⟩
  obtain ⟨T8, h8, X8, e8, W8, st8⟩ := stI X4 hx hZ e4 Ar8 (j := (1 : Int32)) in8 (g := (mkF m 53 #[.val (.int (3 : Int32)), .val (.int ga), .val (.int gb), .val (.int gc), .val (.int gd)] [(.int gb), (.int (1 : Int32)), (.ref b1), (.ref b1)])) rfl rfl (hb hby d0_53)
  have O9 := O5.wr W8 ge_b1
  have K10 : Keep h0 h8 [] := K6.wr W8 (Or.inr sz_b1)
  have N11 := Fr.snoc X8 N7 ge_b1
  have F8 : Arv Z h8 b1 k1 .int (3 : Int32) [(.int ga), (.int gb), (.int (0 : Int32))] (.int (0 : Int32)) := Arv.set Ar8 q8 Sz8 Nn8 Hh8 Gg8 rfl W8 1 rfl (Nat.le_of_ble_eq_true rfl)
  obtain ⟨cl12, Ar12, q12, Sz12, Nn12, Hh12, Gg12⟩ := id F8
  have in12 : ¬ ((2 : Int32) < 0 ∨ cl12.slots.size ≤ ((2 : Int32)).toNatClampNeg) := inb_of Sz12 ⟨by decide, by decide⟩
  obtain ⟨T12, h12, X12, e12, W12, st12⟩ := stI X8 hx hZ e8 Ar12 (j := (2 : Int32)) in12 (g := (mkF m 57 #[.val (.int (3 : Int32)), .val (.int ga), .val (.int gb), .val (.int gc), .val (.int gd)] [(.int gc), (.int (2 : Int32)), (.ref b1), (.ref b1)])) rfl rfl (hb hby d0_57)
  have O13 := O9.wr W12 ge_b1
  have K14 : Keep h0 h12 [] := K10.wr W12 (Or.inr sz_b1)
  have N15 := Fr.snoc X12 N11 ge_b1
  have F12 : Arv Z h12 b1 k1 .int (3 : Int32) [(.int ga), (.int gb), (.int gc)] (.int (0 : Int32)) := Arv.set Ar12 q12 Sz12 Nn12 Hh12 Gg12 rfl W12 2 rfl (Nat.le_of_ble_eq_true rfl)
  have S16 : ∀ t, Steps p.tables e below (T12.setTop (mkF m 58 #[.val (.int (3 : Int32)), .val (.int ga), .val (.int gb), .val (.int gc), .val (.int gd)] [(.ref b1)])) t → Steps p.tables e below (s₁.setTop (mkF m 0 #[.val (.int (3 : Int32)), .val (.int ga), .val (.int gb), .val (.int gc), .val (.int gd)] [])) t := by
    intro t kt
    refine XS.iloadN X0.here hx rfl (hb hby d0_0) rfl ?_
    refine XS.ifYes X0.here hx rfl (pc0 := 1) (pc' := 8) rfl (hb hby d0_1) rfl ((if0 _ _).trans (feq ((by decide) : ¬ ((3 : Int32) = (0 : Int32)))).2) (by decide) (by decide) ?_
    refine XS.iloadN X0.here hx rfl (hb hby d0_8) rfl ?_
    refine XS.iconst X0.here hx rfl (hb hby d0_9) ?_
    refine XS.icmpYes X0.here hx rfl (pc0 := 10) (pc' := 21) rfl (hb hby d0_10) rfl (feq ((by decide) : ¬ ((3 : Int32) = (1 : Int32)))).2 (by decide) (by decide) ?_
    refine XS.iloadN X0.here hx rfl (hb hby d0_21) rfl ?_
    show Steps p.tables e below (s₁.setTop (mkF m 22 #[.val (.int (3 : Int32)), .val (.int ga), .val (.int gb), .val (.int gc), .val (.int gd)] [(.int (3 : Int32))])) _
    refine XS.iconst X0.here hx rfl (hb hby d0_22) ?_
    refine XS.icmpYes X0.here hx rfl (pc0 := 23) (pc' := 38) rfl (hb hby d0_23) rfl (feq ((by decide) : ¬ ((3 : Int32) = (2 : Int32)))).2 (by decide) (by decide) ?_
    refine XS.iloadN X0.here hx rfl (hb hby d0_38) rfl ?_
    refine XS.iconst X0.here hx rfl (hb hby d0_39) ?_
    refine XS.icmpNo X0.here hx rfl (hb hby d0_40) rfl (teq ((by decide) : (3 : Int32) = (3 : Int32))).2 ?_
    refine XS.iconst X0.here hx rfl (hb hby d0_43) ?_
    show Steps p.tables e below (s₁.setTop (mkF m 44 #[.val (.int (3 : Int32)), .val (.int ga), .val (.int gb), .val (.int gc), .val (.int gd)] [(.int (3 : Int32))])) _
    refine st1 _ ?_
    refine XS.dup X1.here hx rfl (hb hby d0_46) rfl rfl ?_
    refine XS.iconst X1.here hx rfl (hb hby d0_47) ?_
    refine XS.iloadN X1.here hx rfl (hb hby d0_48) rfl ?_
    show Steps p.tables e below (T1.setTop (mkF m 49 #[.val (.int (3 : Int32)), .val (.int ga), .val (.int gb), .val (.int gc), .val (.int gd)] [(.int ga), (.int (0 : Int32)), (.ref b1), (.ref b1)])) _
    refine st4 _ ?_
    refine XS.dup X4.here hx rfl (hb hby d0_50) rfl rfl ?_
    refine XS.iconst X4.here hx rfl (hb hby d0_51) ?_
    refine XS.iloadN X4.here hx rfl (hb hby d0_52) rfl ?_
    show Steps p.tables e below (T4.setTop (mkF m 53 #[.val (.int (3 : Int32)), .val (.int ga), .val (.int gb), .val (.int gc), .val (.int gd)] [(.int gb), (.int (1 : Int32)), (.ref b1), (.ref b1)])) _
    refine st8 _ ?_
    refine XS.dup X8.here hx rfl (hb hby d0_54) rfl rfl ?_
    refine XS.iconst X8.here hx rfl (hb hby d0_55) ?_
    refine XS.iloadN X8.here hx rfl (hb hby d0_56) rfl ?_
    show Steps p.tables e below (T8.setTop (mkF m 57 #[.val (.int (3 : Int32)), .val (.int ga), .val (.int gb), .val (.int gc), .val (.int gd)] [(.int gc), (.int (2 : Int32)), (.ref b1), (.ref b1)])) _
    refine st12 _ ?_
    exact kt
  obtain ⟨fs, hr, hrun, hended, hW, hsame⟩ := X12.leave (v := some (.ref b1)) (fun h => by rw [Bd.returns] at h; cases h)
  refine ⟨_, _, pre0 _ (S16 _ ?_), hrun, hended, _, _, rfl, ?_, ⟨_, rfl⟩, hW, hsame.mono (by decide) (by decide)⟩
  · exact retOut X12 hx Bd.returns rfl (Or.inr (Or.inr (Or.inr (Or.inr ⟨rfl, rfl, rfl⟩)))) (hb hby d0_58) hr
  · show Q_rm_make3 Z ga gb gc gd h0 n0 _ T12.heap _
    rw [e12]
    exact ⟨b1, k1, rfl, N15, K14, sz_b1, F12⟩
theorem d0_59 : decode method_2_code 59 = .ok (.iconst 4, 1) := by decide +kernel
theorem d0_60 : decode method_2_code 60 = .ok (.newarray .int, 2) := by decide +kernel
theorem d0_62 : decode method_2_code 62 = .ok (.dup, 1) := by decide +kernel
theorem d0_63 : decode method_2_code 63 = .ok (.iconst 0, 1) := by decide +kernel
theorem d0_64 : decode method_2_code 64 = .ok (.iload_n 1, 1) := by decide +kernel
theorem d0_65 : decode method_2_code 65 = .ok (.iastore, 1) := by decide +kernel
theorem d0_66 : decode method_2_code 66 = .ok (.dup, 1) := by decide +kernel
theorem d0_67 : decode method_2_code 67 = .ok (.iconst 1, 1) := by decide +kernel
theorem d0_68 : decode method_2_code 68 = .ok (.iload_n 2, 1) := by decide +kernel
theorem d0_69 : decode method_2_code 69 = .ok (.iastore, 1) := by decide +kernel
theorem d0_70 : decode method_2_code 70 = .ok (.dup, 1) := by decide +kernel
theorem d0_71 : decode method_2_code 71 = .ok (.iconst 2, 1) := by decide +kernel
theorem d0_72 : decode method_2_code 72 = .ok (.iload_n 3, 1) := by decide +kernel
theorem d0_73 : decode method_2_code 73 = .ok (.iastore, 1) := by decide +kernel
theorem d0_74 : decode method_2_code 74 = .ok (.dup, 1) := by decide +kernel
theorem d0_75 : decode method_2_code 75 = .ok (.iconst 3, 1) := by decide +kernel
theorem d0_76 : decode method_2_code 76 = .ok (.iload 4, 2) := by decide +kernel
theorem d0_78 : decode method_2_code 78 = .ok (.iastore, 1) := by decide +kernel
theorem d0_79 : decode method_2_code 79 = .ok (.areturn, 1) := by decide +kernel
theorem ef_rm_make4 (m : MethodId) (x0 : Int32) (x1 : Int32) (x2 : Int32) (x3 : Int32) (x4 : Int32) : entryFrame m #[(.int x0), (.int x1), (.int x2), (.int x3), (.int x4)] 5 = mkF m 0 #[.val (.int x0), .val (.int x1), .val (.int x2), .val (.int x3), .val (.int x4)] [] := by first | (simp [entryFrame, mkF, argsToLocals, Value.category]; done) | rfl
def Q_rm_make4 (Z : State) (ga : Int32) (gb : Int32) (gc : Int32) (gd : Int32) (h0 : Heap) (n0 : Nat) (v : Option Value) (h : Heap) (L : List Loc) : Prop := (∃ (r : Addr) (k : ClassId), (v = some (.ref r)) ∧ (Fr n0 L) ∧ (Keep h0 h []) ∧ (h0.size ≤ r) ∧ (Arv Z h r k .int (4 : Int32) [(.int ga), (.int gb), (.int gc), (.int gd)] (.int (0 : Int32))))
set_option maxRecDepth 65536 in
set_option maxHeartbeats 40000000 in
theorem rm_make4 (l : Launch) (Z : State) (a0 : Array Value) (hw : ∀ d ∈ tables_1, d.before a0 Z = true) (ws : List Jvm.Cond) (ga : Int32) (gb : Int32) (gc : Int32) (gd : Int32) (h0 : Heap) (n0 : Nat) (O0 : Old Z n0 h0) :
    MetFree l (⟨"com/example/favonius/favonius/eval/TopicRankingRelevantInTopPinLaw", "make", "(IIIII)[I"⟩ : MethodName) (head1 (Jvm.Cond.code (⟨"com/example/favonius/favonius/eval/TopicRankingRelevantInTopPinLaw", "make", "(IIIII)[I"⟩ : MethodName) method_2_code 5 (some (.array .int)) :: ws) ({ frames := 0, cells := 1, slots := 4, locals := 0 } : Room)) (fun a U => a = #[(.int (4 : Int32)), (.int ga), (.int gb), (.int gc), (.int gd)] ∧ Z.Warmed39 U.vm ∧ U.heap = h0) (fun _ _ _ _ _ => True) (fun _ U o U' => ∃ v L, o = .returned v ∧ Q_rm_make4 Z ga gb gc gd h0 n0 v U'.heap L ∧ FrameEnd U o U' L ({ frames := 0, cells := 1, slots := 4, locals := 0 } : Room).cells ({ frames := 0, cells := 1, slots := 4, locals := 0 } : Room).slots) := by
  refine MetFree.of_bodySF (plainFor_of_name pn_0) hisR ?_
  intro p e s m args below meth c s₁ Bd hml0 hP hK
  obtain ⟨rfl, hZ, hh⟩ := hP
  have hx := Bd.exec
  have hby := Bd.bytes
  have hml : c.maxLocals = 5 := hml0
  have hown : s.vm.findClass "com/example/favonius/favonius/eval/TopicRankingRelevantInTopPinLaw" = some m.cls := findClass_of_methodNamed Bd.named
  have hnm := (name_of_methodNamed Bd.named Bd.method).1
  have X0 : Stand p l e ({ frames := 0, cells := 1, slots := 4, locals := 0 } : Room) s m #[(.int (4 : Int32)), (.int ga), (.int gb), (.int gc), (.int gd)] below meth c s₁ [] 0 0 := Stand.of_body Bd
  have e0 : s₁.heap = h0 := by rw [← hh, Bd.state]; rfl
  have N0 := Fr.nil n0
  have K0 : Keep h0 h0 [] := Keep.refl _ _
  have pre0 : ∀ t, Steps p.tables e below (s₁.setTop (mkF m 0 #[.val (.int (4 : Int32)), .val (.int ga), .val (.int gb), .val (.int gc), .val (.int gd)] [])) t → Steps p.tables e below (s₁.setTop (entryFrame m #[(.int (4 : Int32)), (.int ga), (.int gb), (.int gc), (.int gd)] 5)) t := fun t k => castTop (ef_rm_make4 m (4 : Int32) ga gb gc gd) k
  obtain ⟨T1, h1, k1, X1, e1, E1, A1, B1, st1⟩ := newPE X0 hx hZ (own_w hw 5 rfl) e0 (g := (mkF m 60 #[.val (.int (4 : Int32)), .val (.int ga), .val (.int gb), .val (.int gc), .val (.int gd)] [(.int (4 : Int32))])) rfl (hb hby d0_60) rfl (by decide) (cap := 4) (by decide) (by decide) (by decide) (by decide) (ad := "[I") (by first | rfl | decide)
  obtain ⟨b1, g1⟩ : ∃ z, z = h0.size := ⟨_, rfl⟩
  have ge_b1 : n0 ≤ b1 := by rw [g1, ← O0.1]; exact O0.2.1
  have sz_b1 : h0.size ≤ b1 := by rw [g1]; exact K0.1
  rw [← g1] at A1 B1 st1
  have O2 := O0.ext E1
  have K3 : Keep h0 h1 [] := K0.ext E1
  have F1 : Arv Z h1 b1 k1 .int (4 : Int32) [(.int (0 : Int32)), (.int (0 : Int32)), (.int (0 : Int32)), (.int (0 : Int32))] (.int (0 : Int32)) := (Arv.new A1 (by decide)).pad (pad_rep [] (.int (0 : Int32)) 4)
  obtain ⟨cl4, Ar4, q4, Sz4, Nn4, Hh4, Gg4⟩ := id F1
  have in4 : ¬ ((0 : Int32) < 0 ∨ cl4.slots.size ≤ ((0 : Int32)).toNatClampNeg) := inb_of Sz4 ⟨by decide, by decide⟩
  obtain ⟨T4, h4, X4, e4, W4, st4⟩ := stI X1 hx hZ e1 Ar4 (j := (0 : Int32)) in4 (g := (mkF m 65 #[.val (.int (4 : Int32)), .val (.int ga), .val (.int gb), .val (.int gc), .val (.int gd)] [(.int ga), (.int (0 : Int32)), (.ref b1), (.ref b1)])) rfl rfl (hb hby d0_65)
  have O5 := O2.wr W4 ge_b1
  have K6 : Keep h0 h4 [] := K3.wr W4 (Or.inr sz_b1)
  have N7 := Fr.snoc X4 N0 ge_b1
  have F4 : Arv Z h4 b1 k1 .int (4 : Int32) [(.int ga), (.int (0 : Int32)), (.int (0 : Int32)), (.int (0 : Int32))] (.int (0 : Int32)) := Arv.set Ar4 q4 Sz4 Nn4 Hh4 Gg4 rfl W4 0 rfl (Nat.le_of_ble_eq_true rfl)
  obtain ⟨cl8, Ar8, q8, Sz8, Nn8, Hh8, Gg8⟩ := id F4
  have in8 : ¬ ((1 : Int32) < 0 ∨ cl8.slots.size ≤ ((1 : Int32)).toNatClampNeg) := inb_of Sz8 ⟨by decide, by decide⟩
  obtain ⟨T8, h8, X8, e8, W8, st8⟩ := stI X4 hx hZ e4 Ar8 (j := (1 : Int32)) in8 (g := (mkF m 69 #[.val (.int (4 : Int32)), .val (.int ga), .val (.int gb), .val (.int gc), .val (.int gd)] [(.int gb), (.int (1 : Int32)), (.ref b1), (.ref b1)])) rfl rfl (hb hby d0_69)
  have O9 := O5.wr W8 ge_b1
  have K10 : Keep h0 h8 [] := K6.wr W8 (Or.inr sz_b1)
  have N11 := Fr.snoc X8 N7 ge_b1
  have F8 : Arv Z h8 b1 k1 .int (4 : Int32) [(.int ga), (.int gb), (.int (0 : Int32)), (.int (0 : Int32))] (.int (0 : Int32)) := Arv.set Ar8 q8 Sz8 Nn8 Hh8 Gg8 rfl W8 1 rfl (Nat.le_of_ble_eq_true rfl)
  obtain ⟨cl12, Ar12, q12, Sz12, Nn12, Hh12, Gg12⟩ := id F8
  have in12 : ¬ ((2 : Int32) < 0 ∨ cl12.slots.size ≤ ((2 : Int32)).toNatClampNeg) := inb_of Sz12 ⟨by decide, by decide⟩
  obtain ⟨T12, h12, X12, e12, W12, st12⟩ := stI X8 hx hZ e8 Ar12 (j := (2 : Int32)) in12 (g := (mkF m 73 #[.val (.int (4 : Int32)), .val (.int ga), .val (.int gb), .val (.int gc), .val (.int gd)] [(.int gc), (.int (2 : Int32)), (.ref b1), (.ref b1)])) rfl rfl (hb hby d0_73)
  have O13 := O9.wr W12 ge_b1
  have K14 : Keep h0 h12 [] := K10.wr W12 (Or.inr sz_b1)
  have N15 := Fr.snoc X12 N11 ge_b1
  have F12 : Arv Z h12 b1 k1 .int (4 : Int32) [(.int ga), (.int gb), (.int gc), (.int (0 : Int32))] (.int (0 : Int32)) := Arv.set Ar12 q12 Sz12 Nn12 Hh12 Gg12 rfl W12 2 rfl (Nat.le_of_ble_eq_true rfl)
  obtain ⟨cl16, Ar16, q16, Sz16, Nn16, Hh16, Gg16⟩ := id F12
  have in16 : ¬ ((3 : Int32) < 0 ∨ cl16.slots.size ≤ ((3 : Int32)).toNatClampNeg) := inb_of Sz16 ⟨by decide, by decide⟩
  obtain ⟨T16, h16, X16, e16, W16, st16⟩ := stI X12 hx hZ e12 Ar16 (j := (3 : Int32)) in16 (g := (mkF m 78 #[.val (.int (4 : Int32)), .val (.int ga), .val (.int gb), .val (.int gc), .val (.int gd)] [(.int gd), (.int (3 : Int32)), (.ref b1), (.ref b1)])) rfl rfl (hb hby d0_78)
  have O17 := O13.wr W16 ge_b1
  have K18 : Keep h0 h16 [] := K14.wr W16 (Or.inr sz_b1)
  have N19 := Fr.snoc X16 N15 ge_b1
  have F16 : Arv Z h16 b1 k1 .int (4 : Int32) [(.int ga), (.int gb), (.int gc), (.int gd)] (.int (0 : Int32)) := Arv.set Ar16 q16 Sz16 Nn16 Hh16 Gg16 rfl W16 3 rfl (Nat.le_of_ble_eq_true rfl)
  have S20 : ∀ t, Steps p.tables e below (T16.setTop (mkF m 79 #[.val (.int (4 : Int32)), .val (.int ga), .val (.int gb), .val (.int gc), .val (.int gd)] [(.ref b1)])) t → Steps p.tables e below (s₁.setTop (mkF m 0 #[.val (.int (4 : Int32)), .val (.int ga), .val (.int gb), .val (.int gc), .val (.int gd)] [])) t := by
    intro t kt
    refine XS.iloadN X0.here hx rfl (hb hby d0_0) rfl ?_
    refine XS.ifYes X0.here hx rfl (pc0 := 1) (pc' := 8) rfl (hb hby d0_1) rfl ((if0 _ _).trans (feq ((by decide) : ¬ ((4 : Int32) = (0 : Int32)))).2) (by decide) (by decide) ?_
    refine XS.iloadN X0.here hx rfl (hb hby d0_8) rfl ?_
    refine XS.iconst X0.here hx rfl (hb hby d0_9) ?_
    refine XS.icmpYes X0.here hx rfl (pc0 := 10) (pc' := 21) rfl (hb hby d0_10) rfl (feq ((by decide) : ¬ ((4 : Int32) = (1 : Int32)))).2 (by decide) (by decide) ?_
    refine XS.iloadN X0.here hx rfl (hb hby d0_21) rfl ?_
    show Steps p.tables e below (s₁.setTop (mkF m 22 #[.val (.int (4 : Int32)), .val (.int ga), .val (.int gb), .val (.int gc), .val (.int gd)] [(.int (4 : Int32))])) _
    refine XS.iconst X0.here hx rfl (hb hby d0_22) ?_
    refine XS.icmpYes X0.here hx rfl (pc0 := 23) (pc' := 38) rfl (hb hby d0_23) rfl (feq ((by decide) : ¬ ((4 : Int32) = (2 : Int32)))).2 (by decide) (by decide) ?_
    refine XS.iloadN X0.here hx rfl (hb hby d0_38) rfl ?_
    refine XS.iconst X0.here hx rfl (hb hby d0_39) ?_
    refine XS.icmpYes X0.here hx rfl (pc0 := 40) (pc' := 59) rfl (hb hby d0_40) rfl (feq ((by decide) : ¬ ((4 : Int32) = (3 : Int32)))).2 (by decide) (by decide) ?_
    refine XS.iconst X0.here hx rfl (hb hby d0_59) ?_
    show Steps p.tables e below (s₁.setTop (mkF m 60 #[.val (.int (4 : Int32)), .val (.int ga), .val (.int gb), .val (.int gc), .val (.int gd)] [(.int (4 : Int32))])) _
    refine st1 _ ?_
    refine XS.dup X1.here hx rfl (hb hby d0_62) rfl rfl ?_
    refine XS.iconst X1.here hx rfl (hb hby d0_63) ?_
    refine XS.iloadN X1.here hx rfl (hb hby d0_64) rfl ?_
    show Steps p.tables e below (T1.setTop (mkF m 65 #[.val (.int (4 : Int32)), .val (.int ga), .val (.int gb), .val (.int gc), .val (.int gd)] [(.int ga), (.int (0 : Int32)), (.ref b1), (.ref b1)])) _
    refine st4 _ ?_
    refine XS.dup X4.here hx rfl (hb hby d0_66) rfl rfl ?_
    refine XS.iconst X4.here hx rfl (hb hby d0_67) ?_
    refine XS.iloadN X4.here hx rfl (hb hby d0_68) rfl ?_
    show Steps p.tables e below (T4.setTop (mkF m 69 #[.val (.int (4 : Int32)), .val (.int ga), .val (.int gb), .val (.int gc), .val (.int gd)] [(.int gb), (.int (1 : Int32)), (.ref b1), (.ref b1)])) _
    refine st8 _ ?_
    refine XS.dup X8.here hx rfl (hb hby d0_70) rfl rfl ?_
    refine XS.iconst X8.here hx rfl (hb hby d0_71) ?_
    refine XS.iloadN X8.here hx rfl (hb hby d0_72) rfl ?_
    show Steps p.tables e below (T8.setTop (mkF m 73 #[.val (.int (4 : Int32)), .val (.int ga), .val (.int gb), .val (.int gc), .val (.int gd)] [(.int gc), (.int (2 : Int32)), (.ref b1), (.ref b1)])) _
    refine st12 _ ?_
    refine XS.dup X12.here hx rfl (hb hby d0_74) rfl rfl ?_
    refine XS.iconst X12.here hx rfl (hb hby d0_75) ?_
    refine XS.iload X12.here hx rfl (hb hby d0_76) rfl ?_
    show Steps p.tables e below (T12.setTop (mkF m 78 #[.val (.int (4 : Int32)), .val (.int ga), .val (.int gb), .val (.int gc), .val (.int gd)] [(.int gd), (.int (3 : Int32)), (.ref b1), (.ref b1)])) _
    refine st16 _ ?_
    exact kt
  obtain ⟨fs, hr, hrun, hended, hW, hsame⟩ := X16.leave (v := some (.ref b1)) (fun h => by rw [Bd.returns] at h; cases h)
  refine ⟨_, _, pre0 _ (S20 _ ?_), hrun, hended, _, _, rfl, ?_, ⟨_, rfl⟩, hW, hsame.mono (by decide) (by decide)⟩
  · exact retOut X16 hx Bd.returns rfl (Or.inr (Or.inr (Or.inr (Or.inr ⟨rfl, rfl, rfl⟩)))) (hb hby d0_79) hr
  · show Q_rm_make4 Z ga gb gc gd h0 n0 _ T16.heap _
    rw [e16]
    exact ⟨b1, k1, rfl, N19, K18, sz_b1, F16⟩
theorem d1_0 : decode jdk_22_method_1_code 0 = .ok (.aload_n 0, 1) := by decide +kernel
theorem d1_1 : decode jdk_22_method_1_code 1 = .ok (.invokespecial 1, 3) := by decide +kernel
theorem d1_4 : decode jdk_22_method_1_code 4 = .ok (.return_, 1) := by decide +kernel
theorem pn_1 : plainName "java/util/AbstractCollection" = true := by first | (simp [plainName, overriddenIn]; done) | decide +kernel
theorem ef_rm_acinit (m : MethodId) (x0 : Addr) : entryFrame m #[(.ref x0)] 1 = mkF m 0 #[.val (.ref x0)] [] := by first | (simp [entryFrame, mkF, argsToLocals, Value.category]; done) | rfl
def Q_rm_acinit (Z : State) (a' : Addr) (h0 : Heap) (n0 : Nat) (v : Option Value) (h : Heap) (L : List Loc) : Prop := ((v = none) ∧ (Fr n0 L) ∧ (h = h0))
set_option maxRecDepth 65536 in
set_option maxHeartbeats 40000000 in
theorem rm_acinit (l : Launch) (Z : State) (a0 : Array Value) (hw : ∀ d ∈ tables_1, d.before a0 Z = true) (ws : List Jvm.Cond) (a' : Addr) (h0 : Heap) (n0 : Nat) (O0 : Old Z n0 h0) :
    MetFree l (⟨"java/util/AbstractCollection", "<init>", "()V"⟩ : MethodName) (head1 (Jvm.Cond.code (⟨"java/util/AbstractCollection", "<init>", "()V"⟩ : MethodName) jdk_22_method_1_code 1 none :: ws) ({ frames := 1, cells := 0, slots := 0, locals := 12 } : Room)) (fun a U => a = #[(.ref a')] ∧ Z.Warmed39 U.vm ∧ U.heap = h0) (fun _ _ _ _ _ => True) (fun _ U o U' => ∃ v L, o = .returned v ∧ Q_rm_acinit Z a' h0 n0 v U'.heap L ∧ FrameEnd U o U' L ({ frames := 1, cells := 0, slots := 0, locals := 12 } : Room).cells ({ frames := 1, cells := 0, slots := 0, locals := 12 } : Room).slots) := by
  refine MetFree.of_bodySF (plainFor_of_name pn_1) hisR ?_
  intro p e s m args below meth c s₁ Bd hml0 hP hK
  obtain ⟨rfl, hZ, hh⟩ := hP
  have hx := Bd.exec
  have hby := Bd.bytes
  have hml : c.maxLocals = 1 := hml0
  have hown : s.vm.findClass "java/util/AbstractCollection" = some m.cls := findClass_of_methodNamed Bd.named
  have hnm := (name_of_methodNamed Bd.named Bd.method).1
  have X0 : Stand p l e ({ frames := 1, cells := 0, slots := 0, locals := 12 } : Room) s m #[(.ref a')] below meth c s₁ [] 0 0 := Stand.of_body Bd
  have e0 : s₁.heap = h0 := by rw [← hh, Bd.state]; rfl
  have N0 := Fr.nil n0
  have pre0 : ∀ t, Steps p.tables e below (s₁.setTop (mkF m 0 #[.val (.ref a')] [])) t → Steps p.tables e below (s₁.setTop (entryFrame m #[(.ref a')] 1)) t := fun t k => castTop (ef_rm_acinit m a') k
  obtain ⟨T1, X1, e1, st1⟩ := initO X0 hx hZ hown (own_w hw 24 rfl) (own_w hw 25 rfl) (own_w hw 26 rfl) e0 (g := (mkF m 1 #[.val (.ref a')] [(.ref a')])) rfl (by rw [hml]; rfl) rfl (hb hby d1_1) (by decide) (W := 0) (by show 2 * 0 + _ ≤ _; exact Nat.le_of_eq rfl) (by decide)
  have S2 : ∀ t, Steps p.tables e below (T1.setTop (mkF m 4 #[.val (.ref a')] [])) t → Steps p.tables e below (s₁.setTop (mkF m 0 #[.val (.ref a')] [])) t := by
    intro t kt
    refine XS.aloadN X0.here hx rfl (hb hby d1_0) rfl rfl ?_
    show Steps p.tables e below (s₁.setTop (mkF m 1 #[.val (.ref a')] [(.ref a')])) _
    refine st1 _ ?_
    exact kt
  obtain ⟨fs, hr, hrun, hended, hW, hsame⟩ := X1.leave (v := none) (fun _ => rfl)
  refine ⟨_, _, pre0 _ (S2 _ ?_), hrun, hended, _, _, rfl, ?_, ⟨_, rfl⟩, hW, hsame.mono (by decide) (by decide)⟩
  · exact X1.returnOut hx Bd.returns (hb hby d1_4) hr
  · show Q_rm_acinit Z a' h0 n0 _ T1.heap _
    rw [e1]
    exact ⟨rfl, N0, rfl⟩
theorem d2_0 : decode jdk_39_method_1_code 0 = .ok (.aload_n 0, 1) := by decide +kernel
theorem d2_1 : decode jdk_39_method_1_code 1 = .ok (.invokespecial 1, 3) := by decide +kernel
theorem pd_0 : parseMethodDescriptor "()V" = some ⟨[], none⟩ := by decide +kernel
theorem d2_4 : decode jdk_39_method_1_code 4 = .ok (.aload_n 0, 1) := by decide +kernel
theorem d2_5 : decode jdk_39_method_1_code 5 = .ok (.iconst 0, 1) := by decide +kernel
theorem d2_6 : decode jdk_39_method_1_code 6 = .ok (.putfield 7, 3) := by decide +kernel
theorem d2_9 : decode jdk_39_method_1_code 9 = .ok (.return_, 1) := by decide +kernel
theorem pn_2 : plainName "java/util/AbstractList" = true := by first | (simp [plainName, overriddenIn]; done) | decide +kernel
theorem ef_rm_abinit (m : MethodId) (x0 : Addr) : entryFrame m #[(.ref x0)] 1 = mkF m 0 #[.val (.ref x0)] [] := by first | (simp [entryFrame, mkF, argsToLocals, Value.category]; done) | rfl
def Q_rm_abinit (Z : State) (a' : Addr) (h0 : Heap) (n0 : Nat) (v : Option Value) (h : Heap) (L : List Loc) : Prop := ((v = none) ∧ (Fr n0 L) ∧ (Keep h0 h [a']) ∧ (Fld Z h a' "java/util/AbstractList" "modCount" "I" (.int (0 : Int32))) ∧ (Fld Z h a' "java/util/ArrayList" "elementData" "[Ljava/lang/Object;" .null) ∧ (Fld Z h a' "java/util/ArrayList" "size" "I" (.int (0 : Int32))))
set_option maxRecDepth 65536 in
set_option maxHeartbeats 40000000 in
theorem rm_abinit (l : Launch) (Z : State) (a0 : Array Value) (hw : ∀ d ∈ tables_1, d.before a0 Z = true) (ws : List Jvm.Cond) (a' : Addr) (h0 : Heap) (n0 : Nat) (O0 : Old Z n0 h0) (E_a : Exa Z h0 a' "java/util/ArrayList") (g_a : n0 ≤ a') (F_m : Fld Z h0 a' "java/util/AbstractList" "modCount" "I" (.int (0 : Int32))) (F_e : Fld Z h0 a' "java/util/ArrayList" "elementData" "[Ljava/lang/Object;" .null) (F_s : Fld Z h0 a' "java/util/ArrayList" "size" "I" (.int (0 : Int32))) :
    MetFree l (⟨"java/util/AbstractList", "<init>", "()V"⟩ : MethodName) (head1 (Jvm.Cond.code (⟨"java/util/AbstractList", "<init>", "()V"⟩ : MethodName) jdk_39_method_1_code 1 none :: ws) ({ frames := 2, cells := 0, slots := 0, locals := 24 } : Room)) (fun a U => a = #[(.ref a')] ∧ Z.Warmed39 U.vm ∧ U.heap = h0) (fun _ _ _ _ _ => True) (fun _ U o U' => ∃ v L, o = .returned v ∧ Q_rm_abinit Z a' h0 n0 v U'.heap L ∧ FrameEnd U o U' L ({ frames := 2, cells := 0, slots := 0, locals := 24 } : Room).cells ({ frames := 2, cells := 0, slots := 0, locals := 24 } : Room).slots) := by
  refine MetFree.of_bodySF (plainFor_of_name pn_2) hisR ?_
  intro p e s m args below meth c s₁ Bd hml0 hP hK
  obtain ⟨rfl, hZ, hh⟩ := hP
  have hx := Bd.exec
  have hby := Bd.bytes
  have hml : c.maxLocals = 1 := hml0
  have hown : s.vm.findClass "java/util/AbstractList" = some m.cls := findClass_of_methodNamed Bd.named
  have hnm := (name_of_methodNamed Bd.named Bd.method).1
  have X0 : Stand p l e ({ frames := 2, cells := 0, slots := 0, locals := 24 } : Room) s m #[(.ref a')] below meth c s₁ [] 0 0 := Stand.of_body Bd
  have e0 : s₁.heap = h0 := by rw [← hh, Bd.state]; rfl
  have N0 := Fr.nil n0
  have K0 : Keep h0 h0 [a'] := Keep.refl _ _
  have pre0 : ∀ t, Steps p.tables e below (s₁.setTop (mkF m 0 #[.val (.ref a')] [])) t → Steps p.tables e below (s₁.setTop (entryFrame m #[(.ref a')] 1)) t := fun t k => castTop (ef_rm_abinit m a') k
  obtain ⟨_, _, ⟨T1, L1, k1, n1⟩, -, X1, ⟨Lc1, hQ1, l1, y1, z1⟩, st1⟩ := X0.specialBack hx (y := (⟨"java/util/AbstractCollection", "<init>", "()V"⟩ : MethodName)) rfl hown (mvT hZ (own_w hw 18 rfl)) (mvT hZ (own_w hw 19 rfl)) (mvT hZ (own_w hw 23 rfl)) (by decide) (backOf (W := 0) (rm_acinit l Z a0 hw [] a' h0 n0 O0 ) hZ (own_w hw 23 rfl) (own_w hw 22 rfl) (by decide) (by decide)) (g := (mkF m 1 #[.val (.ref a')] [(.ref a')])) rfl (by rw [hml]; rfl) (Steps.refl _) (a := a') (argsL := []) (rest := []) (lenOf pd_0 rfl) rfl (by show 2 * 0 + _ ≤ _; exact Nat.le_of_eq rfl) (hb hby d2_1) (fun _ _ => ⟨rfl, e0, (by decide : 0 + 0 ≤ _), (by decide : 0 + 0 ≤ _)⟩)
  dsimp only [Pt.U, Pt.locs, Pt.cells, Pt.slots] at X1 l1 y1 z1 st1 hQ1
  subst l1 y1 z1
  obtain ⟨rfl, N2, k3⟩ := hQ1
  have N4 := Fr.app N0 N2
  obtain ⟨T5, h5, X5, e5, W5, st5⟩ := putF X1 hx hZ hown (host := "") (Or.inl (own_w hw 27 rfl)) Via.refl k3 F_m E_a (Or.inl (own_w hw 28 rfl)) (own_w hw 7 rfl) (ty := .int) (by decide) rfl rfl (g := (mkF m 6 #[.val (.ref a')] [(.int (0 : Int32)), (.ref a')])) rfl rfl (hb hby d2_6)
  have O6 := O0.wr W5 g_a
  have K7 : Keep h0 h5 [a'] := K0.wr W5 (Or.inl (List.mem_of_getElem? (i := 0) rfl))
  have N8 := Fr.snoc X5 N4 g_a
  have F5 : Fld Z h5 a' "java/util/AbstractList" "modCount" "I" (.int (0 : Int32)) := Fld.same W5 F_m
  have S9 : ∀ t, Steps p.tables e below (T5.setTop (mkF m 9 #[.val (.ref a')] [])) t → Steps p.tables e below (s₁.setTop (mkF m 0 #[.val (.ref a')] [])) t := by
    intro t kt
    refine XS.aloadN X0.here hx rfl (hb hby d2_0) rfl rfl ?_
    show Steps p.tables e below (s₁.setTop (mkF m 1 #[.val (.ref a')] [(.ref a')])) _
    refine st1.trans ?_
    refine XS.aloadN X1.here hx rfl (hb hby d2_4) rfl rfl ?_
    refine XS.iconst X1.here hx rfl (hb hby d2_5) ?_
    show Steps p.tables e below (T1.setTop (mkF m 6 #[.val (.ref a')] [(.int (0 : Int32)), (.ref a')])) _
    refine st5 _ ?_
    exact kt
  obtain ⟨fs, hr, hrun, hended, hW, hsame⟩ := X5.leave (v := none) (fun _ => rfl)
  have f10 := (Fld.other W5 F_e (Or.inr (slot_ne (Or.inl (own_w hw 31 rfl)) (Or.inl (own_w hw 28 rfl)) (by decide) (t := (.array (.object "java/lang/Object"))) (t' := .int) (by decide) (by decide))))
  have f11 := (Fld.other W5 F_s (Or.inr (slot_ne (Or.inl (own_w hw 49 rfl)) (Or.inl (own_w hw 28 rfl)) (by decide) (t := .int) (t' := .int) (by decide) (by decide))))
  refine ⟨_, _, pre0 _ (S9 _ ?_), hrun, hended, _, _, rfl, ?_, ⟨_, rfl⟩, hW, hsame.mono (by decide) (by decide)⟩
  · exact X5.returnOut hx Bd.returns (hb hby d2_9) hr
  · show Q_rm_abinit Z a' h0 n0 _ T5.heap _
    rw [e5]
    exact ⟨rfl, N8, K7, F5, f10, f11⟩
theorem d3_0 : decode jdk_38_method_2_code 0 = .ok (.aload_n 0, 1) := by decide +kernel
theorem d3_1 : decode jdk_38_method_2_code 1 = .ok (.invokespecial 1, 3) := by decide +kernel
theorem d3_4 : decode jdk_38_method_2_code 4 = .ok (.aload_n 0, 1) := by decide +kernel
theorem d3_5 : decode jdk_38_method_2_code 5 = .ok (.getstatic 39, 3) := by decide +kernel
theorem d3_8 : decode jdk_38_method_2_code 8 = .ok (.putfield 9, 3) := by decide +kernel
theorem d3_11 : decode jdk_38_method_2_code 11 = .ok (.return_, 1) := by decide +kernel
theorem pn_3 : plainName "java/util/ArrayList" = true := by first | (simp [plainName, overriddenIn]; done) | decide +kernel
theorem ef_rm_alinit (m : MethodId) (x0 : Addr) : entryFrame m #[(.ref x0)] 1 = mkF m 0 #[.val (.ref x0)] [] := by first | (simp [entryFrame, mkF, argsToLocals, Value.category]; done) | rfl
def Q_rm_alinit (Z : State) (a' : Addr) (wD : Addr) (h0 : Heap) (n0 : Nat) (v : Option Value) (h : Heap) (L : List Loc) : Prop := ((v = none) ∧ (Fr n0 L) ∧ (Keep h0 h [a']) ∧ (Fld Z h a' "java/util/AbstractList" "modCount" "I" (.int (0 : Int32))) ∧ (Fld Z h a' "java/util/ArrayList" "size" "I" (.int (0 : Int32))))
set_option maxRecDepth 65536 in
set_option maxHeartbeats 40000000 in
theorem rm_alinit (l : Launch) (Z : State) (a0 : Array Value) (hw : ∀ d ∈ tables_1, d.before a0 Z = true) (ws : List Jvm.Cond) (a' : Addr) (wD : Addr) (h0 : Heap) (n0 : Nat) (O0 : Old Z n0 h0) (E_a : Exa Z h0 a' "java/util/ArrayList") (g_a : n0 ≤ a') (F_m : Fld Z h0 a' "java/util/AbstractList" "modCount" "I" (.int (0 : Int32))) (F_e : Fld Z h0 a' "java/util/ArrayList" "elementData" "[Ljava/lang/Object;" .null) (F_s : Fld Z h0 a' "java/util/ArrayList" "size" "I" (.int (0 : Int32))) (S_D : Sta Z Z.heap "java/util/ArrayList" "DEFAULTCAPACITY_EMPTY_ELEMENTDATA" "[Ljava/lang/Object;" (.ref wD)) :
    MetFree l (⟨"java/util/ArrayList", "<init>", "()V"⟩ : MethodName) (head1 (Jvm.Cond.code (⟨"java/util/ArrayList", "<init>", "()V"⟩ : MethodName) jdk_38_method_2_code 1 none :: ws) ({ frames := 3, cells := 0, slots := 0, locals := 36 } : Room)) (fun a U => a = #[(.ref a')] ∧ Z.Warmed39 U.vm ∧ U.heap = h0) (fun _ _ _ _ _ => True) (fun _ U o U' => ∃ v L, o = .returned v ∧ Q_rm_alinit Z a' wD h0 n0 v U'.heap L ∧ FrameEnd U o U' L ({ frames := 3, cells := 0, slots := 0, locals := 36 } : Room).cells ({ frames := 3, cells := 0, slots := 0, locals := 36 } : Room).slots) := by
  refine MetFree.of_bodySF (plainFor_of_name pn_3) hisR ?_
  intro p e s m args below meth c s₁ Bd hml0 hP hK
  obtain ⟨rfl, hZ, hh⟩ := hP
  have hx := Bd.exec
  have hby := Bd.bytes
  have hml : c.maxLocals = 1 := hml0
  have hown : s.vm.findClass "java/util/ArrayList" = some m.cls := findClass_of_methodNamed Bd.named
  have hnm := (name_of_methodNamed Bd.named Bd.method).1
  have X0 : Stand p l e ({ frames := 3, cells := 0, slots := 0, locals := 36 } : Room) s m #[(.ref a')] below meth c s₁ [] 0 0 := Stand.of_body Bd
  have e0 : s₁.heap = h0 := by rw [← hh, Bd.state]; rfl
  have N0 := Fr.nil n0
  have K0 : Keep h0 h0 [a'] := Keep.refl _ _
  have pre0 : ∀ t, Steps p.tables e below (s₁.setTop (mkF m 0 #[.val (.ref a')] [])) t → Steps p.tables e below (s₁.setTop (entryFrame m #[(.ref a')] 1)) t := fun t k => castTop (ef_rm_alinit m a') k
  obtain ⟨_, _, ⟨T1, L1, k1, n1⟩, -, X1, ⟨Lc1, hQ1, l1, y1, z1⟩, st1⟩ := X0.specialBack hx (y := (⟨"java/util/AbstractList", "<init>", "()V"⟩ : MethodName)) rfl hown (mvT hZ (own_w hw 12 rfl)) (mvT hZ (own_w hw 13 rfl)) (mvT hZ (own_w hw 17 rfl)) (by decide) (backOf (W := 0) (rm_abinit l Z a0 hw [] a' h0 n0 O0 E_a g_a F_m F_e F_s) hZ (own_w hw 17 rfl) (own_w hw 16 rfl) (by decide) (by decide)) (g := (mkF m 1 #[.val (.ref a')] [(.ref a')])) rfl (by rw [hml]; rfl) (Steps.refl _) (a := a') (argsL := []) (rest := []) (lenOf pd_0 rfl) rfl (by show 2 * 0 + _ ≤ _; exact Nat.le_of_eq rfl) (hb hby d3_1) (fun _ _ => ⟨rfl, e0, (by decide : 0 + 0 ≤ _), (by decide : 0 + 0 ≤ _)⟩)
  dsimp only [Pt.U, Pt.locs, Pt.cells, Pt.slots] at X1 l1 y1 z1 st1 hQ1
  subst l1 y1 z1
  obtain ⟨rfl, N2, k3, f4, f5, f6⟩ := hQ1
  have N7 := Fr.app N0 N2
  have O8 := O0.keep k3 (allS g_a all0)
  have K9 : Keep h0 T1.heap [a'] := K0.trans k3 (allS (Or.inl (List.mem_of_getElem? (i := 0) rfl)) all0)
  obtain ⟨T10, X10, e10, st10⟩ := getS2 X1 hx hZ hown (host := "") (Or.inl (own_w hw 29 rfl)) Via.refl rfl (S_D.ext O8.2) (g := (mkF m 5 #[.val (.ref a')] [(.ref a')])) rfl (hb hby d3_5)
  have f11 := (Exa.keep E_a k3)
  obtain ⟨T12, h12, X12, e12, W12, st12⟩ := putF X10 hx hZ hown (host := "") (Or.inl (own_w hw 30 rfl)) Via.refl e10 f5 f11 (Or.inl (own_w hw 31 rfl)) (own_w hw 7 rfl) (ty := (.array (.object "java/lang/Object"))) (by decide) rfl rfl (g := (mkF m 8 #[.val (.ref a')] [(.ref wD), (.ref a')])) rfl rfl (hb hby d3_8)
  have O13 := O8.wr W12 g_a
  have K14 : Keep h0 h12 [a'] := K9.wr W12 (Or.inl (List.mem_of_getElem? (i := 0) rfl))
  have N15 := Fr.snoc X12 N7 g_a
  have F12 : Fld Z h12 a' "java/util/ArrayList" "elementData" "[Ljava/lang/Object;" (.ref wD) := Fld.same W12 f5
  have S16 : ∀ t, Steps p.tables e below (T12.setTop (mkF m 11 #[.val (.ref a')] [])) t → Steps p.tables e below (s₁.setTop (mkF m 0 #[.val (.ref a')] [])) t := by
    intro t kt
    refine XS.aloadN X0.here hx rfl (hb hby d3_0) rfl rfl ?_
    show Steps p.tables e below (s₁.setTop (mkF m 1 #[.val (.ref a')] [(.ref a')])) _
    refine st1.trans ?_
    refine XS.aloadN X1.here hx rfl (hb hby d3_4) rfl rfl ?_
    show Steps p.tables e below (T1.setTop (mkF m 5 #[.val (.ref a')] [(.ref a')])) _
    refine st10 _ ?_
    show Steps p.tables e below (T10.setTop (mkF m 8 #[.val (.ref a')] [(.ref wD), (.ref a')])) _
    refine st12 _ ?_
    exact kt
  obtain ⟨fs, hr, hrun, hended, hW, hsame⟩ := X12.leave (v := none) (fun _ => rfl)
  have f17 := (Fld.other W12 f4 (Or.inr (slot_ne (Or.inl (own_w hw 28 rfl)) (Or.inl (own_w hw 31 rfl)) (by decide) (t := .int) (t' := (.array (.object "java/lang/Object"))) (by decide) (by decide))))
  have f18 := (Fld.other W12 f6 (Or.inr (slot_ne (Or.inl (own_w hw 49 rfl)) (Or.inl (own_w hw 31 rfl)) (by decide) (t := .int) (t' := (.array (.object "java/lang/Object"))) (by decide) (by decide))))
  refine ⟨_, _, pre0 _ (S16 _ ?_), hrun, hended, _, _, rfl, ?_, ⟨_, rfl⟩, hW, hsame.mono (by decide) (by decide)⟩
  · exact X12.returnOut hx Bd.returns (hb hby d3_11) hr
  · show Q_rm_alinit Z a' wD h0 n0 _ T12.heap _
    rw [e12]
    exact ⟨rfl, N15, K14, f17, f18⟩
theorem d4_0 : decode jdk_38_method_8_code 0 = .ok (.aload_n 0, 1) := by decide +kernel
theorem d4_1 : decode jdk_38_method_8_code 1 = .ok (.getfield 48, 3) := by decide +kernel
theorem d4_4 : decode jdk_38_method_8_code 4 = .ok (.ireturn, 1) := by decide +kernel
theorem ef_rm_size (m : MethodId) (x0 : Addr) : entryFrame m #[(.ref x0)] 1 = mkF m 0 #[.val (.ref x0)] [] := by first | (simp [entryFrame, mkF, argsToLocals, Value.category]; done) | rfl
def Q_rm_size (Z : State) (a' : Addr) (h0 : Heap) (n0 : Nat) (v : Option Value) (h : Heap) (L : List Loc) : Prop := ((v = some (.int (0 : Int32))) ∧ (Fr n0 L) ∧ (h = h0))
set_option maxRecDepth 65536 in
set_option maxHeartbeats 40000000 in
theorem rm_size (l : Launch) (Z : State) (a0 : Array Value) (hw : ∀ d ∈ tables_1, d.before a0 Z = true) (ws : List Jvm.Cond) (a' : Addr) (h0 : Heap) (n0 : Nat) (O0 : Old Z n0 h0) (F_s : Fld Z h0 a' "java/util/ArrayList" "size" "I" (.int (0 : Int32))) :
    MetFree l (⟨"java/util/ArrayList", "size", "()I"⟩ : MethodName) (head1 (Jvm.Cond.code (⟨"java/util/ArrayList", "size", "()I"⟩ : MethodName) jdk_38_method_8_code 1 (some .int) :: ws) ({ frames := 0, cells := 0, slots := 0, locals := 0 } : Room)) (fun a U => a = #[(.ref a')] ∧ Z.Warmed39 U.vm ∧ U.heap = h0) (fun _ _ _ _ _ => True) (fun _ U o U' => ∃ v L, o = .returned v ∧ Q_rm_size Z a' h0 n0 v U'.heap L ∧ FrameEnd U o U' L ({ frames := 0, cells := 0, slots := 0, locals := 0 } : Room).cells ({ frames := 0, cells := 0, slots := 0, locals := 0 } : Room).slots) := by
  refine MetFree.of_bodySF (plainFor_of_name pn_3) hisR ?_
  intro p e s m args below meth c s₁ Bd hml0 hP hK
  obtain ⟨rfl, hZ, hh⟩ := hP
  have hx := Bd.exec
  have hby := Bd.bytes
  have hml : c.maxLocals = 1 := hml0
  have hown : s.vm.findClass "java/util/ArrayList" = some m.cls := findClass_of_methodNamed Bd.named
  have hnm := (name_of_methodNamed Bd.named Bd.method).1
  have X0 : Stand p l e ({ frames := 0, cells := 0, slots := 0, locals := 0 } : Room) s m #[(.ref a')] below meth c s₁ [] 0 0 := Stand.of_body Bd
  have e0 : s₁.heap = h0 := by rw [← hh, Bd.state]; rfl
  have N0 := Fr.nil n0
  have pre0 : ∀ t, Steps p.tables e below (s₁.setTop (mkF m 0 #[.val (.ref a')] [])) t → Steps p.tables e below (s₁.setTop (entryFrame m #[(.ref a')] 1)) t := fun t k => castTop (ef_rm_size m a') k
  obtain ⟨T1, X1, e1, st1⟩ := getF X0 hx hZ hown (host := "") (Or.inl (own_w hw 48 rfl)) Via.refl e0 F_s (g := (mkF m 1 #[.val (.ref a')] [(.ref a')])) rfl rfl (hb hby d4_1)
  have S2 : ∀ t, Steps p.tables e below (T1.setTop (mkF m 4 #[.val (.ref a')] [(.int (0 : Int32))])) t → Steps p.tables e below (s₁.setTop (mkF m 0 #[.val (.ref a')] [])) t := by
    intro t kt
    refine XS.aloadN X0.here hx rfl (hb hby d4_0) rfl rfl ?_
    show Steps p.tables e below (s₁.setTop (mkF m 1 #[.val (.ref a')] [(.ref a')])) _
    refine st1 _ ?_
    exact kt
  obtain ⟨fs, hr, hrun, hended, hW, hsame⟩ := X1.leave (v := some (.int (0 : Int32))) (fun h => by rw [Bd.returns] at h; cases h)
  refine ⟨_, _, pre0 _ (S2 _ ?_), hrun, hended, _, _, rfl, ?_, ⟨_, rfl⟩, hW, hsame.mono (by decide) (by decide)⟩
  · exact retOut X1 hx Bd.returns rfl (Or.inl ⟨rfl, Or.inl rfl, _, rfl⟩) (hb hby d4_4) hr
  · show Q_rm_size Z a' h0 n0 _ T1.heap _
    rw [e1]
    exact ⟨rfl, N0, rfl⟩
theorem d5_0 : decode jdk_49_method_1_code 0 = .ok (.aload_n 0, 1) := by decide +kernel
theorem d5_1 : decode jdk_49_method_1_code 1 = .ok (.aload_n 1, 1) := by decide +kernel
theorem d5_2 : decode jdk_49_method_1_code 2 = .ok (.putfield 1, 3) := by decide +kernel
theorem d5_5 : decode jdk_49_method_1_code 5 = .ok (.aload_n 0, 1) := by decide +kernel
theorem d5_6 : decode jdk_49_method_1_code 6 = .ok (.invokespecial 7, 3) := by decide +kernel
theorem d5_9 : decode jdk_49_method_1_code 9 = .ok (.aload_n 0, 1) := by decide +kernel
theorem d5_10 : decode jdk_49_method_1_code 10 = .ok (.iconst (-1), 1) := by decide +kernel
theorem d5_11 : decode jdk_49_method_1_code 11 = .ok (.putfield 13, 3) := by decide +kernel
theorem d5_14 : decode jdk_49_method_1_code 14 = .ok (.aload_n 0, 1) := by decide +kernel
theorem d5_15 : decode jdk_49_method_1_code 15 = .ok (.aload_n 0, 1) := by decide +kernel
theorem d5_16 : decode jdk_49_method_1_code 16 = .ok (.getfield 1, 3) := by decide +kernel
theorem d5_19 : decode jdk_49_method_1_code 19 = .ok (.getfield 17, 3) := by decide +kernel
theorem d5_22 : decode jdk_49_method_1_code 22 = .ok (.putfield 22, 3) := by decide +kernel
theorem d5_25 : decode jdk_49_method_1_code 25 = .ok (.return_, 1) := by decide +kernel
theorem pn_4 : plainName "java/util/ArrayList$Itr" = true := by first | (simp [plainName, overriddenIn]; done) | decide +kernel
theorem ef_rm_itinit (m : MethodId) (x0 : Addr) (x1 : Addr) : entryFrame m #[(.ref x0), (.ref x1)] 2 = mkF m 0 #[.val (.ref x0), .val (.ref x1)] [] := by first | (simp [entryFrame, mkF, argsToLocals, Value.category]; done) | rfl
def Q_rm_itinit (Z : State) (a' : Addr) (c' : Addr) (h0 : Heap) (n0 : Nat) (v : Option Value) (h : Heap) (L : List Loc) : Prop := ((v = none) ∧ (Fr n0 L) ∧ (Keep h0 h [a']) ∧ (Fld Z h a' "java/util/ArrayList$Itr" "this$0" "Ljava/util/ArrayList;" (.ref c')) ∧ (Fld Z h a' "java/util/ArrayList$Itr" "cursor" "I" (.int (0 : Int32))))
set_option maxRecDepth 65536 in
set_option maxHeartbeats 40000000 in
theorem rm_itinit (l : Launch) (Z : State) (a0 : Array Value) (hw : ∀ d ∈ tables_1, d.before a0 Z = true) (ws : List Jvm.Cond) (a' : Addr) (c' : Addr) (h0 : Heap) (n0 : Nat) (O0 : Old Z n0 h0) (E_a : Exa Z h0 a' "java/util/ArrayList$Itr") (g_a : n0 ≤ a') (F_c : Fld Z h0 c' "java/util/AbstractList" "modCount" "I" (.int (0 : Int32))) (n_ca : c' ≠ a') (F_this_a : Fld Z h0 a' "java/util/ArrayList$Itr" "this$0" "Ljava/util/ArrayList;" .null) (F_lastRet_a : Fld Z h0 a' "java/util/ArrayList$Itr" "lastRet" "I" (.int (0 : Int32))) (F_expectedModCount_a : Fld Z h0 a' "java/util/ArrayList$Itr" "expectedModCount" "I" (.int (0 : Int32))) (F_cursor_a : Fld Z h0 a' "java/util/ArrayList$Itr" "cursor" "I" (.int (0 : Int32))) :
    MetFree l (⟨"java/util/ArrayList$Itr", "<init>", "(Ljava/util/ArrayList;)V"⟩ : MethodName) (head1 (Jvm.Cond.code (⟨"java/util/ArrayList$Itr", "<init>", "(Ljava/util/ArrayList;)V"⟩ : MethodName) jdk_49_method_1_code 2 none :: ws) ({ frames := 1, cells := 0, slots := 0, locals := 12 } : Room)) (fun a U => a = #[(.ref a'), (.ref c')] ∧ Z.Warmed39 U.vm ∧ U.heap = h0) (fun _ _ _ _ _ => True) (fun _ U o U' => ∃ v L, o = .returned v ∧ Q_rm_itinit Z a' c' h0 n0 v U'.heap L ∧ FrameEnd U o U' L ({ frames := 1, cells := 0, slots := 0, locals := 12 } : Room).cells ({ frames := 1, cells := 0, slots := 0, locals := 12 } : Room).slots) := by
  refine MetFree.of_bodySF (plainFor_of_name pn_4) hisR ?_
  intro p e s m args below meth c s₁ Bd hml0 hP hK
  obtain ⟨rfl, hZ, hh⟩ := hP
  have hx := Bd.exec
  have hby := Bd.bytes
  have hml : c.maxLocals = 2 := hml0
  have hown : s.vm.findClass "java/util/ArrayList$Itr" = some m.cls := findClass_of_methodNamed Bd.named
  have hnm := (name_of_methodNamed Bd.named Bd.method).1
  have X0 : Stand p l e ({ frames := 1, cells := 0, slots := 0, locals := 12 } : Room) s m #[(.ref a'), (.ref c')] below meth c s₁ [] 0 0 := Stand.of_body Bd
  have e0 : s₁.heap = h0 := by rw [← hh, Bd.state]; rfl
  have N0 := Fr.nil n0
  have K0 : Keep h0 h0 [a'] := Keep.refl _ _
  have pre0 : ∀ t, Steps p.tables e below (s₁.setTop (mkF m 0 #[.val (.ref a'), .val (.ref c')] [])) t → Steps p.tables e below (s₁.setTop (entryFrame m #[(.ref a'), (.ref c')] 2)) t := fun t k => castTop (ef_rm_itinit m a' c') k
  obtain ⟨T1, h1, X1, e1, W1, st1⟩ := putF X0 hx hZ hown (host := "") (Or.inl (own_w hw 65 rfl)) Via.refl e0 F_this_a E_a (Or.inr ⟨(own_w hw 66 rfl), rfl, hnm⟩) (own_w hw 59 rfl) (ty := (.object "java/util/ArrayList")) (by decide) rfl rfl (g := (mkF m 2 #[.val (.ref a'), .val (.ref c')] [(.ref c'), (.ref a')])) rfl rfl (hb hby d5_2)
  have O2 := O0.wr W1 g_a
  have K3 : Keep h0 h1 [a'] := K0.wr W1 (Or.inl (List.mem_of_getElem? (i := 0) rfl))
  have N4 := Fr.snoc X1 N0 g_a
  have F1 : Fld Z h1 a' "java/util/ArrayList$Itr" "this$0" "Ljava/util/ArrayList;" (.ref c') := Fld.same W1 F_this_a
  obtain ⟨T5, X5, e5, st5⟩ := initO X1 hx hZ hown (own_w hw 67 rfl) (own_w hw 25 rfl) (own_w hw 26 rfl) e1 (g := (mkF m 6 #[.val (.ref a'), .val (.ref c')] [(.ref a')])) rfl (by rw [hml]; rfl) rfl (hb hby d5_6) (by decide) (W := 0) (by show 2 * 0 + _ ≤ _; exact Nat.le_of_eq rfl) (by decide)
  have f6 := (Fld.other W1 F_lastRet_a (Or.inr (slot_ne (Or.inl (own_w hw 69 rfl)) (Or.inr (own_w hw 66 rfl)) (by decide) (t := .int) (t' := (.object "java/util/ArrayList")) (by decide) (by decide))))
  have f7 := (Exa.wr W1 E_a)
  obtain ⟨T8, h8, X8, e8, W8, st8⟩ := putF X5 hx hZ hown (host := "") (Or.inl (own_w hw 68 rfl)) Via.refl e5 f6 f7 (Or.inl (own_w hw 69 rfl)) (own_w hw 59 rfl) (ty := .int) (by decide) rfl rfl (g := (mkF m 11 #[.val (.ref a'), .val (.ref c')] [(.int (-1 : Int32)), (.ref a')])) rfl rfl (hb hby d5_11)
  have O9 := O2.wr W8 g_a
  have K10 : Keep h0 h8 [a'] := K3.wr W8 (Or.inl (List.mem_of_getElem? (i := 0) rfl))
  have N11 := Fr.snoc X8 N4 g_a
  have F8 : Fld Z h8 a' "java/util/ArrayList$Itr" "lastRet" "I" (.int (-1 : Int32)) := Fld.same W8 f6
  have f12 := (Fld.other W8 F1 (Or.inr (slot_ne (Or.inr (own_w hw 66 rfl)) (Or.inl (own_w hw 69 rfl)) (by decide) (t := (.object "java/util/ArrayList")) (t' := .int) (by decide) (by decide))))
  obtain ⟨T13, X13, e13, st13⟩ := getF X8 hx hZ hown (host := "") (Or.inl (own_w hw 65 rfl)) Via.refl e8 f12 (g := (mkF m 16 #[.val (.ref a'), .val (.ref c')] [(.ref a'), (.ref a')])) rfl rfl (hb hby d5_16)
  have f14 := (Fld.other W8 (Fld.other W1 F_c (Or.inl n_ca)) (Or.inl n_ca))
  obtain ⟨T15, X15, e15, st15⟩ := getF X13 hx hZ hown (host := "") (Or.inl (own_w hw 70 rfl)) (Via.of (own_w hw 71 rfl)) e13 f14 (g := (mkF m 19 #[.val (.ref a'), .val (.ref c')] [(.ref c'), (.ref a')])) rfl rfl (hb hby d5_19)
  have f16 := (Fld.other W8 (Fld.other W1 F_expectedModCount_a (Or.inr (slot_ne (Or.inl (own_w hw 73 rfl)) (Or.inr (own_w hw 66 rfl)) (by decide) (t := .int) (t' := (.object "java/util/ArrayList")) (by decide) (by decide)))) (Or.inr (slot_ne (Or.inl (own_w hw 73 rfl)) (Or.inl (own_w hw 69 rfl)) (by decide) (t := .int) (t' := .int) (by decide) (by decide))))
  have f17 := (Exa.wr W8 f7)
  obtain ⟨T18, h18, X18, e18, W18, st18⟩ := putF X15 hx hZ hown (host := "") (Or.inl (own_w hw 72 rfl)) Via.refl e15 f16 f17 (Or.inl (own_w hw 73 rfl)) (own_w hw 59 rfl) (ty := .int) (by decide) rfl rfl (g := (mkF m 22 #[.val (.ref a'), .val (.ref c')] [(.int (0 : Int32)), (.ref a')])) rfl rfl (hb hby d5_22)
  have O19 := O9.wr W18 g_a
  have K20 : Keep h0 h18 [a'] := K10.wr W18 (Or.inl (List.mem_of_getElem? (i := 0) rfl))
  have N21 := Fr.snoc X18 N11 g_a
  have F18 : Fld Z h18 a' "java/util/ArrayList$Itr" "expectedModCount" "I" (.int (0 : Int32)) := Fld.same W18 f16
  have S22 : ∀ t, Steps p.tables e below (T18.setTop (mkF m 25 #[.val (.ref a'), .val (.ref c')] [])) t → Steps p.tables e below (s₁.setTop (mkF m 0 #[.val (.ref a'), .val (.ref c')] [])) t := by
    intro t kt
    refine XS.aloadN X0.here hx rfl (hb hby d5_0) rfl rfl ?_
    refine XS.aloadN X0.here hx rfl (hb hby d5_1) rfl rfl ?_
    show Steps p.tables e below (s₁.setTop (mkF m 2 #[.val (.ref a'), .val (.ref c')] [(.ref c'), (.ref a')])) _
    refine st1 _ ?_
    refine XS.aloadN X1.here hx rfl (hb hby d5_5) rfl rfl ?_
    show Steps p.tables e below (T1.setTop (mkF m 6 #[.val (.ref a'), .val (.ref c')] [(.ref a')])) _
    refine st5 _ ?_
    refine XS.aloadN X5.here hx rfl (hb hby d5_9) rfl rfl ?_
    refine XS.iconst X5.here hx rfl (hb hby d5_10) ?_
    show Steps p.tables e below (T5.setTop (mkF m 11 #[.val (.ref a'), .val (.ref c')] [(.int (-1 : Int32)), (.ref a')])) _
    refine st8 _ ?_
    refine XS.aloadN X8.here hx rfl (hb hby d5_14) rfl rfl ?_
    refine XS.aloadN X8.here hx rfl (hb hby d5_15) rfl rfl ?_
    show Steps p.tables e below (T8.setTop (mkF m 16 #[.val (.ref a'), .val (.ref c')] [(.ref a'), (.ref a')])) _
    refine st13 _ ?_
    show Steps p.tables e below (T13.setTop (mkF m 19 #[.val (.ref a'), .val (.ref c')] [(.ref c'), (.ref a')])) _
    refine st15 _ ?_
    show Steps p.tables e below (T15.setTop (mkF m 22 #[.val (.ref a'), .val (.ref c')] [(.int (0 : Int32)), (.ref a')])) _
    refine st18 _ ?_
    exact kt
  obtain ⟨fs, hr, hrun, hended, hW, hsame⟩ := X18.leave (v := none) (fun _ => rfl)
  have f23 := (Fld.other W18 f12 (Or.inr (slot_ne (Or.inr (own_w hw 66 rfl)) (Or.inl (own_w hw 73 rfl)) (by decide) (t := (.object "java/util/ArrayList")) (t' := .int) (by decide) (by decide))))
  have f24 := (Fld.other W18 (Fld.other W8 (Fld.other W1 F_cursor_a (Or.inr (slot_ne (Or.inl (own_w hw 84 rfl)) (Or.inr (own_w hw 66 rfl)) (by decide) (t := .int) (t' := (.object "java/util/ArrayList")) (by decide) (by decide)))) (Or.inr (slot_ne (Or.inl (own_w hw 84 rfl)) (Or.inl (own_w hw 69 rfl)) (by decide) (t := .int) (t' := .int) (by decide) (by decide)))) (Or.inr (slot_ne (Or.inl (own_w hw 84 rfl)) (Or.inl (own_w hw 73 rfl)) (by decide) (t := .int) (t' := .int) (by decide) (by decide))))
  refine ⟨_, _, pre0 _ (S22 _ ?_), hrun, hended, _, _, rfl, ?_, ⟨_, rfl⟩, hW, hsame.mono (by decide) (by decide)⟩
  · exact X18.returnOut hx Bd.returns (hb hby d5_25) hr
  · show Q_rm_itinit Z a' c' h0 n0 _ T18.heap _
    rw [e18]
    exact ⟨rfl, N21, K20, f23, f24⟩
theorem d6_0 : decode jdk_38_method_55_code 0 = .ok (.new 267, 3) := by decide +kernel
theorem d6_3 : decode jdk_38_method_55_code 3 = .ok (.dup, 1) := by decide +kernel
theorem d6_4 : decode jdk_38_method_55_code 4 = .ok (.aload_n 0, 1) := by decide +kernel
theorem d6_5 : decode jdk_38_method_55_code 5 = .ok (.invokespecial 269, 3) := by decide +kernel
theorem pd_1 : parseMethodDescriptor "(Ljava/util/ArrayList;)V" = some ⟨[(.object "java/util/ArrayList")], none⟩ := by decide +kernel
theorem d6_8 : decode jdk_38_method_55_code 8 = .ok (.areturn, 1) := by decide +kernel
theorem ef_rm_iter (m : MethodId) (x0 : Addr) : entryFrame m #[(.ref x0)] 1 = mkF m 0 #[.val (.ref x0)] [] := by first | (simp [entryFrame, mkF, argsToLocals, Value.category]; done) | rfl
def Q_rm_iter (Z : State) (a' : Addr) (h0 : Heap) (n0 : Nat) (v : Option Value) (h : Heap) (L : List Loc) : Prop := (∃ (r : Addr), (v = some (.ref r)) ∧ (Fr n0 L) ∧ (Keep h0 h []) ∧ (h0.size ≤ r) ∧ (Exa Z h r "java/util/ArrayList$Itr") ∧ (Fld Z h r "java/util/ArrayList$Itr" "this$0" "Ljava/util/ArrayList;" (.ref a')) ∧ (Fld Z h r "java/util/ArrayList$Itr" "cursor" "I" (.int (0 : Int32))))
set_option maxRecDepth 65536 in
set_option maxHeartbeats 40000000 in
theorem rm_iter (l : Launch) (Z : State) (a0 : Array Value) (hw : ∀ d ∈ tables_1, d.before a0 Z = true) (ws : List Jvm.Cond) (a' : Addr) (h0 : Heap) (n0 : Nat) (O0 : Old Z n0 h0) (F_m : Fld Z h0 a' "java/util/AbstractList" "modCount" "I" (.int (0 : Int32))) :
    MetFree l (⟨"java/util/ArrayList", "iterator", "()Ljava/util/Iterator;"⟩ : MethodName) (head1 (Jvm.Cond.code (⟨"java/util/ArrayList", "iterator", "()Ljava/util/Iterator;"⟩ : MethodName) jdk_38_method_55_code 1 (some (.object "java/util/Iterator")) :: ws) ({ frames := 2, cells := 1, slots := 4, locals := 26 } : Room)) (fun a U => a = #[(.ref a')] ∧ Z.Warmed39 U.vm ∧ U.heap = h0) (fun _ _ _ _ _ => True) (fun _ U o U' => ∃ v L, o = .returned v ∧ Q_rm_iter Z a' h0 n0 v U'.heap L ∧ FrameEnd U o U' L ({ frames := 2, cells := 1, slots := 4, locals := 26 } : Room).cells ({ frames := 2, cells := 1, slots := 4, locals := 26 } : Room).slots) := by
  refine MetFree.of_bodySF (plainFor_of_name pn_3) hisR ?_
  intro p e s m args below meth c s₁ Bd hml0 hP hK
  obtain ⟨rfl, hZ, hh⟩ := hP
  have hx := Bd.exec
  have hby := Bd.bytes
  have hml : c.maxLocals = 1 := hml0
  have hown : s.vm.findClass "java/util/ArrayList" = some m.cls := findClass_of_methodNamed Bd.named
  have hnm := (name_of_methodNamed Bd.named Bd.method).1
  have X0 : Stand p l e ({ frames := 2, cells := 1, slots := 4, locals := 26 } : Room) s m #[(.ref a')] below meth c s₁ [] 0 0 := Stand.of_body Bd
  have e0 : s₁.heap = h0 := by rw [← hh, Bd.state]; rfl
  have N0 := Fr.nil n0
  have K0 : Keep h0 h0 [] := Keep.refl _ _
  have pre0 : ∀ t, Steps p.tables e below (s₁.setTop (mkF m 0 #[.val (.ref a')] [])) t → Steps p.tables e below (s₁.setTop (entryFrame m #[(.ref a')] 1)) t := fun t k => castTop (ef_rm_iter m a') k
  obtain ⟨T1, h1, X1, e1, E1, A1, D1, -, st1⟩ := newO X0 hx hZ hown (own_w hw 58 rfl) (own_w hw 59 rfl) (own_w hw 60 rfl) e0 (g := (mkF m 0 #[.val (.ref a')] [])) rfl (hb hby d6_0) (by decide) (by decide)
  obtain ⟨b1, g1⟩ : ∃ z, z = h0.size := ⟨_, rfl⟩
  have ge_b1 : n0 ≤ b1 := by rw [g1, ← O0.1]; exact O0.2.1
  have sz_b1 : h0.size ≤ b1 := by rw [g1]; exact K0.1
  have ne2 : a' ≠ b1 := Nat.ne_of_lt (Nat.lt_of_lt_of_le (Fld.lt F_m) (Nat.le_of_eq g1.symm))
  rw [← g1] at A1 D1 st1
  have O3 := O0.ext E1
  have K4 : Keep h0 h1 [] := K0.ext E1
  have F5 : Fld Z h1 b1 "java/util/ArrayList$Itr" "this$0" "Ljava/util/ArrayList;" .null := D1 (Or.inr (own_w hw 66 rfl)) (ty := (.object "java/util/ArrayList")) (by decide)
  have F6 : Fld Z h1 b1 "java/util/ArrayList$Itr" "lastRet" "I" (.int (0 : Int32)) := D1 (Or.inl (own_w hw 69 rfl)) (ty := .int) (by decide)
  have F7 : Fld Z h1 b1 "java/util/ArrayList$Itr" "expectedModCount" "I" (.int (0 : Int32)) := D1 (Or.inl (own_w hw 73 rfl)) (ty := .int) (by decide)
  have F8 : Fld Z h1 b1 "java/util/ArrayList$Itr" "cursor" "I" (.int (0 : Int32)) := D1 (Or.inl (own_w hw 84 rfl)) (ty := .int) (by decide)
  have f10 := (Fld.ext E1 F_m)
  obtain ⟨_, _, ⟨T9, L9, k9, n9⟩, -, X9, ⟨Lc9, hQ9, l9, y9, z9⟩, st9⟩ := X1.specialBack hx (y := (⟨"java/util/ArrayList$Itr", "<init>", "(Ljava/util/ArrayList;)V"⟩ : MethodName)) rfl hown (mvT hZ (own_w hw 61 rfl)) (mvT hZ (own_w hw 62 rfl)) (mvT hZ (own_w hw 64 rfl)) (by decide) (backOf (W := 1) (rm_itinit l Z a0 hw [] b1 a' h1 n0 O3 A1 ge_b1 f10 ne2 F5 F6 F7 F8) hZ (own_w hw 64 rfl) (own_w hw 60 rfl) (by decide) (by decide)) (g := (mkF m 5 #[.val (.ref a')] [(.ref a'), (.ref b1), (.ref b1)])) rfl (by rw [hml]; rfl) (Steps.refl _) (a := b1) (argsL := [(.ref a')]) (rest := [(.ref b1)]) (lenOf pd_1 rfl) rfl (by show 2 * 0 + _ ≤ _; exact Nat.le_of_eq rfl) (hb hby d6_5) (fun _ _ => ⟨rfl, e1, (by decide : 1 + 0 ≤ _), (by decide : 4 + 0 ≤ _)⟩)
  dsimp only [Pt.U, Pt.locs, Pt.cells, Pt.slots] at X9 l9 y9 z9 st9 hQ9
  subst l9 y9 z9
  obtain ⟨rfl, N11, k12, f13, f14⟩ := hQ9
  have N15 := Fr.app N0 N11
  have O16 := O3.keep k12 (allS ge_b1 all0)
  have K17 : Keep h0 T9.heap [] := K4.trans k12 (allS (Or.inr sz_b1) all0)
  have S18 : ∀ t, Steps p.tables e below (T9.setTop (mkF m 8 #[.val (.ref a')] [(.ref b1)])) t → Steps p.tables e below (s₁.setTop (mkF m 0 #[.val (.ref a')] [])) t := by
    intro t kt
    refine st1 _ ?_
    refine XS.dup X1.here hx rfl (hb hby d6_3) rfl rfl ?_
    refine XS.aloadN X1.here hx rfl (hb hby d6_4) rfl rfl ?_
    show Steps p.tables e below (T1.setTop (mkF m 5 #[.val (.ref a')] [(.ref a'), (.ref b1), (.ref b1)])) _
    refine st9.trans ?_
    exact kt
  obtain ⟨fs, hr, hrun, hended, hW, hsame⟩ := X9.leave (v := some (.ref b1)) (fun h => by rw [Bd.returns] at h; cases h)
  have f19 := (Exa.keep A1 k12)
  refine ⟨_, _, pre0 _ (S18 _ ?_), hrun, hended, _, _, rfl, ?_, ⟨_, rfl⟩, hW, hsame.mono (by decide) (by decide)⟩
  · exact retOut X9 hx Bd.returns rfl (Or.inr (Or.inr (Or.inr (Or.inr ⟨rfl, rfl, rfl⟩)))) (hb hby d6_8) hr
  · show Q_rm_iter Z a' h0 n0 _ T9.heap _
    exact ⟨b1, rfl, N15, K17, sz_b1, f19, f13, f14⟩
theorem d7_0 : decode jdk_49_method_2_code 0 = .ok (.aload_n 0, 1) := by decide +kernel
theorem d7_1 : decode jdk_49_method_2_code 1 = .ok (.getfield 25, 3) := by decide +kernel
theorem d7_4 : decode jdk_49_method_2_code 4 = .ok (.aload_n 0, 1) := by decide +kernel
theorem d7_5 : decode jdk_49_method_2_code 5 = .ok (.getfield 1, 3) := by decide +kernel
theorem d7_8 : decode jdk_49_method_2_code 8 = .ok (.getfield 28, 3) := by decide +kernel
theorem d7_11 : decode jdk_49_method_2_code 11 = .ok (.if_icmp .eq 7, 3) := by decide +kernel
theorem d7_18 : decode jdk_49_method_2_code 18 = .ok (.iconst 0, 1) := by decide +kernel
theorem d7_19 : decode jdk_49_method_2_code 19 = .ok (.ireturn, 1) := by decide +kernel
theorem ef_rm_hasnext (m : MethodId) (x0 : Addr) : entryFrame m #[(.ref x0)] 1 = mkF m 0 #[.val (.ref x0)] [] := by first | (simp [entryFrame, mkF, argsToLocals, Value.category]; done) | rfl
def Q_rm_hasnext (Z : State) (a' : Addr) (c' : Addr) (h0 : Heap) (n0 : Nat) (v : Option Value) (h : Heap) (L : List Loc) : Prop := ((v = some (.int (0 : Int32))) ∧ (Fr n0 L) ∧ (h = h0))
set_option maxRecDepth 65536 in
set_option maxHeartbeats 40000000 in
theorem rm_hasnext (l : Launch) (Z : State) (a0 : Array Value) (hw : ∀ d ∈ tables_1, d.before a0 Z = true) (ws : List Jvm.Cond) (a' : Addr) (c' : Addr) (h0 : Heap) (n0 : Nat) (O0 : Old Z n0 h0) (F_t : Fld Z h0 a' "java/util/ArrayList$Itr" "this$0" "Ljava/util/ArrayList;" (.ref c')) (F_c : Fld Z h0 a' "java/util/ArrayList$Itr" "cursor" "I" (.int (0 : Int32))) (F_s : Fld Z h0 c' "java/util/ArrayList" "size" "I" (.int (0 : Int32))) :
    MetFree l (⟨"java/util/ArrayList$Itr", "hasNext", "()Z"⟩ : MethodName) (head1 (Jvm.Cond.code (⟨"java/util/ArrayList$Itr", "hasNext", "()Z"⟩ : MethodName) jdk_49_method_2_code 1 (some .boolean) :: ws) ({ frames := 0, cells := 0, slots := 0, locals := 0 } : Room)) (fun a U => a = #[(.ref a')] ∧ Z.Warmed39 U.vm ∧ U.heap = h0) (fun _ _ _ _ _ => True) (fun _ U o U' => ∃ v L, o = .returned v ∧ Q_rm_hasnext Z a' c' h0 n0 v U'.heap L ∧ FrameEnd U o U' L ({ frames := 0, cells := 0, slots := 0, locals := 0 } : Room).cells ({ frames := 0, cells := 0, slots := 0, locals := 0 } : Room).slots) := by
  refine MetFree.of_bodySF (plainFor_of_name pn_4) hisR ?_
  intro p e s m args below meth c s₁ Bd hml0 hP hK
  obtain ⟨rfl, hZ, hh⟩ := hP
  have hx := Bd.exec
  have hby := Bd.bytes
  have hml : c.maxLocals = 1 := hml0
  have hown : s.vm.findClass "java/util/ArrayList$Itr" = some m.cls := findClass_of_methodNamed Bd.named
  have hnm := (name_of_methodNamed Bd.named Bd.method).1
  have X0 : Stand p l e ({ frames := 0, cells := 0, slots := 0, locals := 0 } : Room) s m #[(.ref a')] below meth c s₁ [] 0 0 := Stand.of_body Bd
  have e0 : s₁.heap = h0 := by rw [← hh, Bd.state]; rfl
  have N0 := Fr.nil n0
  have pre0 : ∀ t, Steps p.tables e below (s₁.setTop (mkF m 0 #[.val (.ref a')] [])) t → Steps p.tables e below (s₁.setTop (entryFrame m #[(.ref a')] 1)) t := fun t k => castTop (ef_rm_hasnext m a') k
  obtain ⟨T1, X1, e1, st1⟩ := getF X0 hx hZ hown (host := "") (Or.inl (own_w hw 83 rfl)) Via.refl e0 F_c (g := (mkF m 1 #[.val (.ref a')] [(.ref a')])) rfl rfl (hb hby d7_1)
  obtain ⟨T2, X2, e2, st2⟩ := getF X1 hx hZ hown (host := "") (Or.inl (own_w hw 65 rfl)) Via.refl e1 F_t (g := (mkF m 5 #[.val (.ref a')] [(.ref a'), (.int (0 : Int32))])) rfl rfl (hb hby d7_5)
  obtain ⟨T3, X3, e3, st3⟩ := getF X2 hx hZ hown (Or.inr (own_w hw 85 rfl)) Via.refl e2 F_s (g := (mkF m 8 #[.val (.ref a')] [(.ref c'), (.int (0 : Int32))])) rfl rfl (hb hby d7_8)
  have S4 : ∀ t, Steps p.tables e below (T3.setTop (mkF m 19 #[.val (.ref a')] [(.int (0 : Int32))])) t → Steps p.tables e below (s₁.setTop (mkF m 0 #[.val (.ref a')] [])) t := by
    intro t kt
    refine XS.aloadN X0.here hx rfl (hb hby d7_0) rfl rfl ?_
    show Steps p.tables e below (s₁.setTop (mkF m 1 #[.val (.ref a')] [(.ref a')])) _
    refine st1 _ ?_
    refine XS.aloadN X1.here hx rfl (hb hby d7_4) rfl rfl ?_
    show Steps p.tables e below (T1.setTop (mkF m 5 #[.val (.ref a')] [(.ref a'), (.int (0 : Int32))])) _
    refine st2 _ ?_
    show Steps p.tables e below (T2.setTop (mkF m 8 #[.val (.ref a')] [(.ref c'), (.int (0 : Int32))])) _
    refine st3 _ ?_
    refine XS.icmpYes X3.here hx rfl (pc0 := 11) (pc' := 18) rfl (hb hby d7_11) rfl (teq ((by decide) : (0 : Int32) = (0 : Int32))).1 (by decide) (by decide) ?_
    refine XS.iconst X3.here hx rfl (hb hby d7_18) ?_
    exact kt
  obtain ⟨fs, hr, hrun, hended, hW, hsame⟩ := X3.leave (v := some (.int (0 : Int32))) (fun h => by rw [Bd.returns] at h; cases h)
  refine ⟨_, _, pre0 _ (S4 _ ?_), hrun, hended, _, _, rfl, ?_, ⟨_, rfl⟩, hW, hsame.mono (by decide) (by decide)⟩
  · exact retN X3 hx (t := .boolean) Bd.returns (by simp) (hb hby d7_19) hr
  · show Q_rm_hasnext Z a' c' h0 n0 _ T3.heap _
    rw [e3]
    exact ⟨rfl, N0, rfl⟩
theorem d8_0 : decode jdk_2529_method_6_code 0 = .ok (.iload_n 1, 1) := by decide +kernel
theorem d8_1 : decode jdk_2529_method_6_code 1 = .ok (.istore 4, 2) := by decide +kernel
theorem d8_3 : decode jdk_2529_method_6_code 3 = .ok (.iinc 4 1, 3) := by decide +kernel
theorem d8_6 : decode jdk_2529_method_6_code 6 = .ok (.iload 4, 2) := by decide +kernel
theorem d8_8 : decode jdk_2529_method_6_code 8 = .ok (.iload_n 2, 1) := by decide +kernel
theorem d8_9 : decode jdk_2529_method_6_code 9 = .ok (.if_icmp .ge 58, 3) := by decide +kernel
theorem d8_67 : decode jdk_2529_method_6_code 67 = .ok (.return_, 1) := by decide +kernel
theorem pn_5 : plainName "java/util/DualPivotQuicksort" = true := by first | (simp [plainName, overriddenIn]; done) | decide +kernel
theorem ef_rm_ins (m : MethodId) (x0 : Addr) (x1 : Int32) (x2 : Int32) : entryFrame m #[(.ref x0), (.int x1), (.int x2)] 6 = mkF m 0 #[.val (.ref x0), .val (.int x1), .val (.int x2), .unset, .unset, .unset] [] := by first | (simp [entryFrame, mkF, argsToLocals, Value.category]; done) | rfl
def Q_rm_ins (Z : State) (a' : Addr) (h0 : Heap) (n0 : Nat) (v : Option Value) (h : Heap) (L : List Loc) : Prop := ((v = none) ∧ (Fr n0 L) ∧ (h = h0))
set_option maxRecDepth 65536 in
set_option maxHeartbeats 40000000 in
theorem rm_ins (l : Launch) (Z : State) (a0 : Array Value) (hw : ∀ d ∈ tables_1, d.before a0 Z = true) (ws : List Jvm.Cond) (a' : Addr) (h0 : Heap) (n0 : Nat) (O0 : Old Z n0 h0) :
    MetFree l (⟨"java/util/DualPivotQuicksort", "insertionSort", "([III)V"⟩ : MethodName) (head1 (Jvm.Cond.code (⟨"java/util/DualPivotQuicksort", "insertionSort", "([III)V"⟩ : MethodName) jdk_2529_method_6_code 6 none :: ws) ({ frames := 0, cells := 0, slots := 0, locals := 0 } : Room)) (fun a U => a = #[(.ref a'), (.int (0 : Int32)), (.int (0 : Int32))] ∧ Z.Warmed39 U.vm ∧ U.heap = h0) (fun _ _ _ _ _ => True) (fun _ U o U' => ∃ v L, o = .returned v ∧ Q_rm_ins Z a' h0 n0 v U'.heap L ∧ FrameEnd U o U' L ({ frames := 0, cells := 0, slots := 0, locals := 0 } : Room).cells ({ frames := 0, cells := 0, slots := 0, locals := 0 } : Room).slots) := by
  refine MetFree.of_bodySF (plainFor_of_name pn_5) hisR ?_
  intro p e s m args below meth c s₁ Bd hml0 hP hK
  obtain ⟨rfl, hZ, hh⟩ := hP
  have hx := Bd.exec
  have hby := Bd.bytes
  have hml : c.maxLocals = 6 := hml0
  have hown : s.vm.findClass "java/util/DualPivotQuicksort" = some m.cls := findClass_of_methodNamed Bd.named
  have hnm := (name_of_methodNamed Bd.named Bd.method).1
  have X0 : Stand p l e ({ frames := 0, cells := 0, slots := 0, locals := 0 } : Room) s m #[(.ref a'), (.int (0 : Int32)), (.int (0 : Int32))] below meth c s₁ [] 0 0 := Stand.of_body Bd
  have e0 : s₁.heap = h0 := by rw [← hh, Bd.state]; rfl
  have N0 := Fr.nil n0
  have pre0 : ∀ t, Steps p.tables e below (s₁.setTop (mkF m 0 #[.val (.ref a'), .val (.int (0 : Int32)), .val (.int (0 : Int32)), .unset, .unset, .unset] [])) t → Steps p.tables e below (s₁.setTop (entryFrame m #[(.ref a'), (.int (0 : Int32)), (.int (0 : Int32))] 6)) t := fun t k => castTop (ef_rm_ins m a' (0 : Int32) (0 : Int32)) k
  have S1 : ∀ t, Steps p.tables e below (s₁.setTop (mkF m 67 #[.val (.ref a'), .val (.int (0 : Int32)), .val (.int (0 : Int32)), .unset, .val (.int (1 : Int32)), .unset] [])) t → Steps p.tables e below (s₁.setTop (mkF m 0 #[.val (.ref a'), .val (.int (0 : Int32)), .val (.int (0 : Int32)), .unset, .unset, .unset] [])) t := by
    intro t kt
    refine XS.iloadN X0.here hx rfl (hb hby d8_0) rfl ?_
    refine XS.istore X0.here hx rfl (hb hby d8_1) rfl (l' := #[.val (.ref a'), .val (.int (0 : Int32)), .val (.int (0 : Int32)), .unset, .val (.int (0 : Int32)), .unset]) rfl ?_
    refine XS.iinc X0.here hx rfl (hb hby d8_3) rfl (l' := #[.val (.ref a'), .val (.int (0 : Int32)), .val (.int (0 : Int32)), .unset, .val (.int (1 : Int32)), .unset]) rfl ?_
    refine XS.iload X0.here hx rfl (hb hby d8_6) rfl ?_
    refine XS.iloadN X0.here hx rfl (hb hby d8_8) rfl ?_
    refine XS.icmpYes X0.here hx rfl (pc0 := 9) (pc' := 67) rfl (hb hby d8_9) rfl (flt ((by decide) : ¬ ((1 : Int32) < (0 : Int32)))).2.1 (by decide) (by decide) ?_
    exact kt
  obtain ⟨fs, hr, hrun, hended, hW, hsame⟩ := X0.leave (v := none) (fun _ => rfl)
  refine ⟨_, _, pre0 _ (S1 _ ?_), hrun, hended, _, _, rfl, ?_, ⟨_, rfl⟩, hW, hsame.mono (by decide) (by decide)⟩
  · exact X0.returnOut hx Bd.returns (hb hby d8_67) hr
  · show Q_rm_ins Z a' h0 n0 _ s₁.heap _
    rw [e0]
    exact ⟨rfl, N0, rfl⟩
theorem d9_0 : decode jdk_2529_method_4_code 0 = .ok (.iload 4, 2) := by decide +kernel
theorem d9_2 : decode jdk_2529_method_4_code 2 = .ok (.iconst 1, 1) := by decide +kernel
theorem d9_3 : decode jdk_2529_method_4_code 3 = .ok (.isub, 1) := by decide +kernel
theorem d9_4 : decode jdk_2529_method_4_code 4 = .ok (.istore 5, 2) := by decide +kernel
theorem d9_6 : decode jdk_2529_method_4_code 6 = .ok (.iload 4, 2) := by decide +kernel
theorem d9_8 : decode jdk_2529_method_4_code 8 = .ok (.iload_n 3, 1) := by decide +kernel
theorem d9_9 : decode jdk_2529_method_4_code 9 = .ok (.isub, 1) := by decide +kernel
theorem d9_10 : decode jdk_2529_method_4_code 10 = .ok (.istore 6, 2) := by decide +kernel
theorem d9_12 : decode jdk_2529_method_4_code 12 = .ok (.iload 6, 2) := by decide +kernel
theorem d9_14 : decode jdk_2529_method_4_code 14 = .ok (.bipush 65, 2) := by decide +kernel
theorem d9_16 : decode jdk_2529_method_4_code 16 = .ok (.iload_n 2, 1) := by decide +kernel
theorem d9_17 : decode jdk_2529_method_4_code 17 = .ok (.iadd, 1) := by decide +kernel
theorem d9_18 : decode jdk_2529_method_4_code 18 = .ok (.if_icmp .ge 28, 3) := by decide +kernel
theorem d9_21 : decode jdk_2529_method_4_code 21 = .ok (.iload_n 2, 1) := by decide +kernel
theorem d9_22 : decode jdk_2529_method_4_code 22 = .ok (.iconst 1, 1) := by decide +kernel
theorem d9_23 : decode jdk_2529_method_4_code 23 = .ok (.iand, 1) := by decide +kernel
theorem d9_24 : decode jdk_2529_method_4_code 24 = .ok (.ifCond .le 22, 3) := by decide +kernel
theorem d9_46 : decode jdk_2529_method_4_code 46 = .ok (.iload 6, 2) := by decide +kernel
theorem d9_48 : decode jdk_2529_method_4_code 48 = .ok (.bipush 44, 2) := by decide +kernel
theorem d9_50 : decode jdk_2529_method_4_code 50 = .ok (.if_icmp .ge 11, 3) := by decide +kernel
theorem d9_53 : decode jdk_2529_method_4_code 53 = .ok (.aload_n 1, 1) := by decide +kernel
theorem d9_54 : decode jdk_2529_method_4_code 54 = .ok (.iload_n 3, 1) := by decide +kernel
theorem d9_55 : decode jdk_2529_method_4_code 55 = .ok (.iload 4, 2) := by decide +kernel
theorem d9_57 : decode jdk_2529_method_4_code 57 = .ok (.invokestatic 34, 3) := by decide +kernel
theorem pd_2 : parseMethodDescriptor "([III)V" = some ⟨[(.array .int), .int, .int], none⟩ := by decide +kernel
theorem d9_60 : decode jdk_2529_method_4_code 60 = .ok (.return_, 1) := by decide +kernel
theorem ef_rm_sort2 (m : MethodId) (x1 : Addr) (x2 : Int32) (x3 : Int32) (x4 : Int32) : entryFrame m #[.null, (.ref x1), (.int x2), (.int x3), (.int x4)] 21 = mkF m 0 #[.val .null, .val (.ref x1), .val (.int x2), .val (.int x3), .val (.int x4), .unset, .unset, .unset, .unset, .unset, .unset, .unset, .unset, .unset, .unset, .unset, .unset, .unset, .unset, .unset, .unset] [] := by first | (simp [entryFrame, mkF, argsToLocals, Value.category]; done) | rfl
def Q_rm_sort2 (Z : State) (a' : Addr) (h0 : Heap) (n0 : Nat) (v : Option Value) (h : Heap) (L : List Loc) : Prop := ((v = none) ∧ (Fr n0 L) ∧ (h = h0))
set_option maxRecDepth 65536 in
set_option maxHeartbeats 40000000 in
theorem rm_sort2 (l : Launch) (Z : State) (a0 : Array Value) (hw : ∀ d ∈ tables_1, d.before a0 Z = true) (ws : List Jvm.Cond) (a' : Addr) (h0 : Heap) (n0 : Nat) (O0 : Old Z n0 h0) :
    MetFree l (⟨"java/util/DualPivotQuicksort", "sort", "(Ljava/util/DualPivotQuicksort$Sorter;[IIII)V"⟩ : MethodName) (head1 (Jvm.Cond.code (⟨"java/util/DualPivotQuicksort", "sort", "(Ljava/util/DualPivotQuicksort$Sorter;[IIII)V"⟩ : MethodName) jdk_2529_method_4_code 21 none :: ws) ({ frames := 1, cells := 0, slots := 0, locals := 17 } : Room)) (fun a U => a = #[.null, (.ref a'), (.int (0 : Int32)), (.int (0 : Int32)), (.int (0 : Int32))] ∧ Z.Warmed39 U.vm ∧ U.heap = h0) (fun _ _ _ _ _ => True) (fun _ U o U' => ∃ v L, o = .returned v ∧ Q_rm_sort2 Z a' h0 n0 v U'.heap L ∧ FrameEnd U o U' L ({ frames := 1, cells := 0, slots := 0, locals := 17 } : Room).cells ({ frames := 1, cells := 0, slots := 0, locals := 17 } : Room).slots) := by
  refine MetFree.of_bodySF (plainFor_of_name pn_5) hisR ?_
  intro p e s m args below meth c s₁ Bd hml0 hP hK
  obtain ⟨rfl, hZ, hh⟩ := hP
  have hx := Bd.exec
  have hby := Bd.bytes
  have hml : c.maxLocals = 21 := hml0
  have hown : s.vm.findClass "java/util/DualPivotQuicksort" = some m.cls := findClass_of_methodNamed Bd.named
  have hnm := (name_of_methodNamed Bd.named Bd.method).1
  have X0 : Stand p l e ({ frames := 1, cells := 0, slots := 0, locals := 17 } : Room) s m #[.null, (.ref a'), (.int (0 : Int32)), (.int (0 : Int32)), (.int (0 : Int32))] below meth c s₁ [] 0 0 := Stand.of_body Bd
  have e0 : s₁.heap = h0 := by rw [← hh, Bd.state]; rfl
  have N0 := Fr.nil n0
  have pre0 : ∀ t, Steps p.tables e below (s₁.setTop (mkF m 0 #[.val .null, .val (.ref a'), .val (.int (0 : Int32)), .val (.int (0 : Int32)), .val (.int (0 : Int32)), .unset, .unset, .unset, .unset, .unset, .unset, .unset, .unset, .unset, .unset, .unset, .unset, .unset, .unset, .unset, .unset] [])) t → Steps p.tables e below (s₁.setTop (entryFrame m #[.null, (.ref a'), (.int (0 : Int32)), (.int (0 : Int32)), (.int (0 : Int32))] 21)) t := fun t k => castTop (ef_rm_sort2 m a' (0 : Int32) (0 : Int32) (0 : Int32)) k
  obtain ⟨_, _, ⟨T1, L1, k1, n1⟩, -, X1, ⟨Lc1, hQ1, l1, y1, z1⟩, st1⟩ := Jvm.LawKit.callS X0 hx (y := (⟨"java/util/DualPivotQuicksort", "insertionSort", "([III)V"⟩ : MethodName)) hown (mvT hZ (own_w hw 97 rfl)) (mvT hZ (own_w hw 98 rfl)) (mvT hZ (own_w hw 92 rfl)) (mvT hZ (own_w hw 99 rfl)) (by decide) (backOf (W := 0) (rm_ins l Z a0 hw [] a' h0 n0 O0 ) hZ (own_w hw 99 rfl) (own_w hw 92 rfl) (by decide) (by decide)) (g := (mkF m 57 #[.val .null, .val (.ref a'), .val (.int (0 : Int32)), .val (.int (0 : Int32)), .val (.int (0 : Int32)), .val (.int (-1 : Int32)), .val (.int (0 : Int32)), .unset, .unset, .unset, .unset, .unset, .unset, .unset, .unset, .unset, .unset, .unset, .unset, .unset, .unset] [(.int (0 : Int32)), (.int (0 : Int32)), (.ref a')])) rfl (by rw [hml]; rfl) (argsL := [(.ref a'), (.int (0 : Int32)), (.int (0 : Int32))]) (rest := []) (lenOf pd_2 rfl) rfl (by show 2 * 0 + _ ≤ _; exact Nat.le_of_eq rfl) (hb hby d9_57) (fun _ _ => ⟨rfl, e0, (by decide : 0 + 0 ≤ _), (by decide : 0 + 0 ≤ _)⟩)
  dsimp only [Pt.U, Pt.locs, Pt.cells, Pt.slots] at X1 l1 y1 z1 st1 hQ1
  subst l1 y1 z1
  obtain ⟨rfl, N2, k3⟩ := hQ1
  have N4 := Fr.app N0 N2
  have S5 : ∀ t, Steps p.tables e below (T1.setTop (mkF m 60 #[.val .null, .val (.ref a'), .val (.int (0 : Int32)), .val (.int (0 : Int32)), .val (.int (0 : Int32)), .val (.int (-1 : Int32)), .val (.int (0 : Int32)), .unset, .unset, .unset, .unset, .unset, .unset, .unset, .unset, .unset, .unset, .unset, .unset, .unset, .unset] [])) t → Steps p.tables e below (s₁.setTop (mkF m 0 #[.val .null, .val (.ref a'), .val (.int (0 : Int32)), .val (.int (0 : Int32)), .val (.int (0 : Int32)), .unset, .unset, .unset, .unset, .unset, .unset, .unset, .unset, .unset, .unset, .unset, .unset, .unset, .unset, .unset, .unset] [])) t := by
    intro t kt
    refine XS.iload X0.here hx rfl (hb hby d9_0) rfl ?_
    refine XS.iconst X0.here hx rfl (hb hby d9_2) ?_
    refine XS.isub X0.here hx rfl (hb hby d9_3) rfl ?_
    refine XS.istore X0.here hx rfl (hb hby d9_4) rfl (l' := #[.val .null, .val (.ref a'), .val (.int (0 : Int32)), .val (.int (0 : Int32)), .val (.int (0 : Int32)), .val (.int (-1 : Int32)), .unset, .unset, .unset, .unset, .unset, .unset, .unset, .unset, .unset, .unset, .unset, .unset, .unset, .unset, .unset]) rfl ?_
    refine XS.iload X0.here hx rfl (hb hby d9_6) rfl ?_
    refine XS.iloadN X0.here hx rfl (hb hby d9_8) rfl ?_
    show Steps p.tables e below (s₁.setTop (mkF m 9 #[.val .null, .val (.ref a'), .val (.int (0 : Int32)), .val (.int (0 : Int32)), .val (.int (0 : Int32)), .val (.int (-1 : Int32)), .unset, .unset, .unset, .unset, .unset, .unset, .unset, .unset, .unset, .unset, .unset, .unset, .unset, .unset, .unset] [(.int (0 : Int32)), (.int (0 : Int32))])) _
    refine XS.isub X0.here hx rfl (hb hby d9_9) rfl ?_
    refine XS.istore X0.here hx rfl (hb hby d9_10) rfl (l' := #[.val .null, .val (.ref a'), .val (.int (0 : Int32)), .val (.int (0 : Int32)), .val (.int (0 : Int32)), .val (.int (-1 : Int32)), .val (.int (0 : Int32)), .unset, .unset, .unset, .unset, .unset, .unset, .unset, .unset, .unset, .unset, .unset, .unset, .unset, .unset]) rfl ?_
    refine XS.iload X0.here hx rfl (hb hby d9_12) rfl ?_
    refine XS.bipush X0.here hx rfl (hb hby d9_14) ?_
    refine XS.iloadN X0.here hx rfl (hb hby d9_16) rfl ?_
    refine XS.iadd X0.here hx rfl (hb hby d9_17) rfl ?_
    show Steps p.tables e below (s₁.setTop (mkF m 18 #[.val .null, .val (.ref a'), .val (.int (0 : Int32)), .val (.int (0 : Int32)), .val (.int (0 : Int32)), .val (.int (-1 : Int32)), .val (.int (0 : Int32)), .unset, .unset, .unset, .unset, .unset, .unset, .unset, .unset, .unset, .unset, .unset, .unset, .unset, .unset] [(.int (65 : Int32)), (.int (0 : Int32))])) _
    refine XS.icmpNo X0.here hx rfl (hb hby d9_18) rfl (tlt ((by decide) : (0 : Int32) < (65 : Int32))).2.1 ?_
    refine XS.iloadN X0.here hx rfl (hb hby d9_21) rfl ?_
    refine XS.iconst X0.here hx rfl (hb hby d9_22) ?_
    refine XS.iand X0.here hx rfl (hb hby d9_23) rfl ?_
    refine XS.ifYes X0.here hx rfl (pc0 := 24) (pc' := 46) rfl (hb hby d9_24) rfl ((if0 _ _).trans (flt ((by decide) : ¬ ((0 : Int32) < (0 : Int32)))).2.2.2) (by decide) (by decide) ?_
    refine XS.iload X0.here hx rfl (hb hby d9_46) rfl ?_
    show Steps p.tables e below (s₁.setTop (mkF m 48 #[.val .null, .val (.ref a'), .val (.int (0 : Int32)), .val (.int (0 : Int32)), .val (.int (0 : Int32)), .val (.int (-1 : Int32)), .val (.int (0 : Int32)), .unset, .unset, .unset, .unset, .unset, .unset, .unset, .unset, .unset, .unset, .unset, .unset, .unset, .unset] [(.int (0 : Int32))])) _
    refine XS.bipush X0.here hx rfl (hb hby d9_48) ?_
    refine XS.icmpNo X0.here hx rfl (hb hby d9_50) rfl (tlt ((by decide) : (0 : Int32) < (44 : Int32))).2.1 ?_
    refine XS.aloadN X0.here hx rfl (hb hby d9_53) rfl rfl ?_
    refine XS.iloadN X0.here hx rfl (hb hby d9_54) rfl ?_
    refine XS.iload X0.here hx rfl (hb hby d9_55) rfl ?_
    show Steps p.tables e below (s₁.setTop (mkF m 57 #[.val .null, .val (.ref a'), .val (.int (0 : Int32)), .val (.int (0 : Int32)), .val (.int (0 : Int32)), .val (.int (-1 : Int32)), .val (.int (0 : Int32)), .unset, .unset, .unset, .unset, .unset, .unset, .unset, .unset, .unset, .unset, .unset, .unset, .unset, .unset] [(.int (0 : Int32)), (.int (0 : Int32)), (.ref a')])) _
    refine st1 _ ?_
    exact kt
  obtain ⟨fs, hr, hrun, hended, hW, hsame⟩ := X1.leave (v := none) (fun _ => rfl)
  refine ⟨_, _, pre0 _ (S5 _ ?_), hrun, hended, _, _, rfl, ?_, ⟨_, rfl⟩, hW, hsame.mono (by decide) (by decide)⟩
  · exact X1.returnOut hx Bd.returns (hb hby d9_60) hr
  · show Q_rm_sort2 Z a' h0 n0 _ T1.heap _
    rw [k3]
    exact ⟨rfl, N4, rfl⟩
theorem d10_0 : decode jdk_2529_method_3_code 0 = .ok (.iload_n 3, 1) := by decide +kernel
theorem d10_1 : decode jdk_2529_method_3_code 1 = .ok (.iload_n 2, 1) := by decide +kernel
theorem d10_2 : decode jdk_2529_method_3_code 2 = .ok (.isub, 1) := by decide +kernel
theorem d10_3 : decode jdk_2529_method_3_code 3 = .ok (.istore 4, 2) := by decide +kernel
theorem d10_5 : decode jdk_2529_method_3_code 5 = .ok (.iload_n 1, 1) := by decide +kernel
theorem d10_6 : decode jdk_2529_method_3_code 6 = .ok (.iconst 1, 1) := by decide +kernel
theorem d10_7 : decode jdk_2529_method_3_code 7 = .ok (.if_icmp .le 61, 3) := by decide +kernel
theorem d10_68 : decode jdk_2529_method_3_code 68 = .ok (.aconst_null, 1) := by decide +kernel
theorem d10_69 : decode jdk_2529_method_3_code 69 = .ok (.aload_n 0, 1) := by decide +kernel
theorem d10_70 : decode jdk_2529_method_3_code 70 = .ok (.iconst 0, 1) := by decide +kernel
theorem d10_71 : decode jdk_2529_method_3_code 71 = .ok (.iload_n 2, 1) := by decide +kernel
theorem d10_72 : decode jdk_2529_method_3_code 72 = .ok (.iload_n 3, 1) := by decide +kernel
theorem d10_73 : decode jdk_2529_method_3_code 73 = .ok (.invokestatic 26, 3) := by decide +kernel
theorem pd_3 : parseMethodDescriptor "(Ljava/util/DualPivotQuicksort$Sorter;[IIII)V" = some ⟨[(.object "java/util/DualPivotQuicksort$Sorter"), (.array .int), .int, .int, .int], none⟩ := by decide +kernel
theorem d10_76 : decode jdk_2529_method_3_code 76 = .ok (.return_, 1) := by decide +kernel
theorem ef_rm_sort1 (m : MethodId) (x0 : Addr) (x1 : Int32) (x2 : Int32) (x3 : Int32) : entryFrame m #[(.ref x0), (.int x1), (.int x2), (.int x3)] 7 = mkF m 0 #[.val (.ref x0), .val (.int x1), .val (.int x2), .val (.int x3), .unset, .unset, .unset] [] := by first | (simp [entryFrame, mkF, argsToLocals, Value.category]; done) | rfl
def Q_rm_sort1 (Z : State) (a' : Addr) (h0 : Heap) (n0 : Nat) (v : Option Value) (h : Heap) (L : List Loc) : Prop := ((v = none) ∧ (Fr n0 L) ∧ (h = h0))
set_option maxRecDepth 65536 in
set_option maxHeartbeats 40000000 in
theorem rm_sort1 (l : Launch) (Z : State) (a0 : Array Value) (hw : ∀ d ∈ tables_1, d.before a0 Z = true) (ws : List Jvm.Cond) (a' : Addr) (h0 : Heap) (n0 : Nat) (O0 : Old Z n0 h0) :
    MetFree l (⟨"java/util/DualPivotQuicksort", "sort", "([IIII)V"⟩ : MethodName) (head1 (Jvm.Cond.code (⟨"java/util/DualPivotQuicksort", "sort", "([IIII)V"⟩ : MethodName) jdk_2529_method_3_code 7 none :: ws) ({ frames := 2, cells := 0, slots := 0, locals := 49 } : Room)) (fun a U => a = #[(.ref a'), (.int (0 : Int32)), (.int (0 : Int32)), (.int (0 : Int32))] ∧ Z.Warmed39 U.vm ∧ U.heap = h0) (fun _ _ _ _ _ => True) (fun _ U o U' => ∃ v L, o = .returned v ∧ Q_rm_sort1 Z a' h0 n0 v U'.heap L ∧ FrameEnd U o U' L ({ frames := 2, cells := 0, slots := 0, locals := 49 } : Room).cells ({ frames := 2, cells := 0, slots := 0, locals := 49 } : Room).slots) := by
  refine MetFree.of_bodySF (plainFor_of_name pn_5) hisR ?_
  intro p e s m args below meth c s₁ Bd hml0 hP hK
  obtain ⟨rfl, hZ, hh⟩ := hP
  have hx := Bd.exec
  have hby := Bd.bytes
  have hml : c.maxLocals = 7 := hml0
  have hown : s.vm.findClass "java/util/DualPivotQuicksort" = some m.cls := findClass_of_methodNamed Bd.named
  have hnm := (name_of_methodNamed Bd.named Bd.method).1
  have X0 : Stand p l e ({ frames := 2, cells := 0, slots := 0, locals := 49 } : Room) s m #[(.ref a'), (.int (0 : Int32)), (.int (0 : Int32)), (.int (0 : Int32))] below meth c s₁ [] 0 0 := Stand.of_body Bd
  have e0 : s₁.heap = h0 := by rw [← hh, Bd.state]; rfl
  have N0 := Fr.nil n0
  have pre0 : ∀ t, Steps p.tables e below (s₁.setTop (mkF m 0 #[.val (.ref a'), .val (.int (0 : Int32)), .val (.int (0 : Int32)), .val (.int (0 : Int32)), .unset, .unset, .unset] [])) t → Steps p.tables e below (s₁.setTop (entryFrame m #[(.ref a'), (.int (0 : Int32)), (.int (0 : Int32)), (.int (0 : Int32))] 7)) t := fun t k => castTop (ef_rm_sort1 m a' (0 : Int32) (0 : Int32) (0 : Int32)) k
  obtain ⟨_, _, ⟨T1, L1, k1, n1⟩, -, X1, ⟨Lc1, hQ1, l1, y1, z1⟩, st1⟩ := Jvm.LawKit.callS X0 hx (y := (⟨"java/util/DualPivotQuicksort", "sort", "(Ljava/util/DualPivotQuicksort$Sorter;[IIII)V"⟩ : MethodName)) hown (mvT hZ (own_w hw 94 rfl)) (mvT hZ (own_w hw 95 rfl)) (mvT hZ (own_w hw 92 rfl)) (mvT hZ (own_w hw 96 rfl)) (by decide) (backOf (W := 0) (rm_sort2 l Z a0 hw [] a' h0 n0 O0 ) hZ (own_w hw 96 rfl) (own_w hw 92 rfl) (by decide) (by decide)) (g := (mkF m 73 #[.val (.ref a'), .val (.int (0 : Int32)), .val (.int (0 : Int32)), .val (.int (0 : Int32)), .val (.int (0 : Int32)), .unset, .unset] [(.int (0 : Int32)), (.int (0 : Int32)), (.int (0 : Int32)), (.ref a'), .null])) rfl (by rw [hml]; rfl) (argsL := [.null, (.ref a'), (.int (0 : Int32)), (.int (0 : Int32)), (.int (0 : Int32))]) (rest := []) (lenOf pd_3 rfl) rfl (by show 2 * 0 + _ ≤ _; exact Nat.le_of_eq rfl) (hb hby d10_73) (fun _ _ => ⟨rfl, e0, (by decide : 0 + 0 ≤ _), (by decide : 0 + 0 ≤ _)⟩)
  dsimp only [Pt.U, Pt.locs, Pt.cells, Pt.slots] at X1 l1 y1 z1 st1 hQ1
  subst l1 y1 z1
  obtain ⟨rfl, N2, k3⟩ := hQ1
  have N4 := Fr.app N0 N2
  have S5 : ∀ t, Steps p.tables e below (T1.setTop (mkF m 76 #[.val (.ref a'), .val (.int (0 : Int32)), .val (.int (0 : Int32)), .val (.int (0 : Int32)), .val (.int (0 : Int32)), .unset, .unset] [])) t → Steps p.tables e below (s₁.setTop (mkF m 0 #[.val (.ref a'), .val (.int (0 : Int32)), .val (.int (0 : Int32)), .val (.int (0 : Int32)), .unset, .unset, .unset] [])) t := by
    intro t kt
    refine XS.iloadN X0.here hx rfl (hb hby d10_0) rfl ?_
    refine XS.iloadN X0.here hx rfl (hb hby d10_1) rfl ?_
    refine XS.isub X0.here hx rfl (hb hby d10_2) rfl ?_
    refine XS.istore X0.here hx rfl (hb hby d10_3) rfl (l' := #[.val (.ref a'), .val (.int (0 : Int32)), .val (.int (0 : Int32)), .val (.int (0 : Int32)), .val (.int (0 : Int32)), .unset, .unset]) rfl ?_
    refine XS.iloadN X0.here hx rfl (hb hby d10_5) rfl ?_
    refine XS.iconst X0.here hx rfl (hb hby d10_6) ?_
    show Steps p.tables e below (s₁.setTop (mkF m 7 #[.val (.ref a'), .val (.int (0 : Int32)), .val (.int (0 : Int32)), .val (.int (0 : Int32)), .val (.int (0 : Int32)), .unset, .unset] [(.int (1 : Int32)), (.int (0 : Int32))])) _
    refine XS.icmpYes X0.here hx rfl (pc0 := 7) (pc' := 68) rfl (hb hby d10_7) rfl (flt ((by decide) : ¬ ((1 : Int32) < (0 : Int32)))).2.2.2 (by decide) (by decide) ?_
    refine XS.aconstNull X0.here hx rfl (hb hby d10_68) ?_
    refine XS.aloadN X0.here hx rfl (hb hby d10_69) rfl rfl ?_
    refine XS.iconst X0.here hx rfl (hb hby d10_70) ?_
    refine XS.iloadN X0.here hx rfl (hb hby d10_71) rfl ?_
    refine XS.iloadN X0.here hx rfl (hb hby d10_72) rfl ?_
    show Steps p.tables e below (s₁.setTop (mkF m 73 #[.val (.ref a'), .val (.int (0 : Int32)), .val (.int (0 : Int32)), .val (.int (0 : Int32)), .val (.int (0 : Int32)), .unset, .unset] [(.int (0 : Int32)), (.int (0 : Int32)), (.int (0 : Int32)), (.ref a'), .null])) _
    refine st1 _ ?_
    exact kt
  obtain ⟨fs, hr, hrun, hended, hW, hsame⟩ := X1.leave (v := none) (fun _ => rfl)
  refine ⟨_, _, pre0 _ (S5 _ ?_), hrun, hended, _, _, rfl, ?_, ⟨_, rfl⟩, hW, hsame.mono (by decide) (by decide)⟩
  · exact X1.returnOut hx Bd.returns (hb hby d10_76) hr
  · show Q_rm_sort1 Z a' h0 n0 _ T1.heap _
    rw [k3]
    exact ⟨rfl, N4, rfl⟩
theorem d11_0 : decode jdk_65_method_2_code 0 = .ok (.aload_n 0, 1) := by decide +kernel
theorem d11_1 : decode jdk_65_method_2_code 1 = .ok (.iconst 0, 1) := by decide +kernel
theorem d11_2 : decode jdk_65_method_2_code 2 = .ok (.iconst 0, 1) := by decide +kernel
theorem d11_3 : decode jdk_65_method_2_code 3 = .ok (.aload_n 0, 1) := by decide +kernel
theorem d11_4 : decode jdk_65_method_2_code 4 = .ok (.arraylength, 1) := by decide +kernel
theorem d11_5 : decode jdk_65_method_2_code 5 = .ok (.invokestatic 7, 3) := by decide +kernel
theorem pd_4 : parseMethodDescriptor "([IIII)V" = some ⟨[(.array .int), .int, .int, .int], none⟩ := by decide +kernel
theorem d11_8 : decode jdk_65_method_2_code 8 = .ok (.return_, 1) := by decide +kernel
theorem pn_6 : plainName "java/util/Arrays" = true := by first | (simp [plainName, overriddenIn]; done) | decide +kernel
theorem ef_rm_sort0 (m : MethodId) (x0 : Addr) : entryFrame m #[(.ref x0)] 1 = mkF m 0 #[.val (.ref x0)] [] := by first | (simp [entryFrame, mkF, argsToLocals, Value.category]; done) | rfl
def Q_rm_sort0 (Z : State) (a' : Addr) (k' : ClassId) (h0 : Heap) (n0 : Nat) (v : Option Value) (h : Heap) (L : List Loc) : Prop := ((v = none) ∧ (Fr n0 L) ∧ (h = h0))
set_option maxRecDepth 65536 in
set_option maxHeartbeats 40000000 in
theorem rm_sort0 (l : Launch) (Z : State) (a0 : Array Value) (hw : ∀ d ∈ tables_1, d.before a0 Z = true) (ws : List Jvm.Cond) (a' : Addr) (k' : ClassId) (h0 : Heap) (n0 : Nat) (O0 : Old Z n0 h0) (A_a : Arv Z h0 a' k' .int (0 : Int32) [] (.int (0 : Int32))) :
    MetFree l (⟨"java/util/Arrays", "sort", "([I)V"⟩ : MethodName) (head1 (Jvm.Cond.code (⟨"java/util/Arrays", "sort", "([I)V"⟩ : MethodName) jdk_65_method_2_code 1 none :: ws) ({ frames := 3, cells := 0, slots := 0, locals := 67 } : Room)) (fun a U => a = #[(.ref a')] ∧ Z.Warmed39 U.vm ∧ U.heap = h0) (fun _ _ _ _ _ => True) (fun _ U o U' => ∃ v L, o = .returned v ∧ Q_rm_sort0 Z a' k' h0 n0 v U'.heap L ∧ FrameEnd U o U' L ({ frames := 3, cells := 0, slots := 0, locals := 67 } : Room).cells ({ frames := 3, cells := 0, slots := 0, locals := 67 } : Room).slots) := by
  refine MetFree.of_bodySF (plainFor_of_name pn_6) hisR ?_
  intro p e s m args below meth c s₁ Bd hml0 hP hK
  obtain ⟨rfl, hZ, hh⟩ := hP
  have hx := Bd.exec
  have hby := Bd.bytes
  have hml : c.maxLocals = 1 := hml0
  have hown : s.vm.findClass "java/util/Arrays" = some m.cls := findClass_of_methodNamed Bd.named
  have hnm := (name_of_methodNamed Bd.named Bd.method).1
  have X0 : Stand p l e ({ frames := 3, cells := 0, slots := 0, locals := 67 } : Room) s m #[(.ref a')] below meth c s₁ [] 0 0 := Stand.of_body Bd
  have e0 : s₁.heap = h0 := by rw [← hh, Bd.state]; rfl
  have N0 := Fr.nil n0
  have pre0 : ∀ t, Steps p.tables e below (s₁.setTop (mkF m 0 #[.val (.ref a')] [])) t → Steps p.tables e below (s₁.setTop (entryFrame m #[(.ref a')] 1)) t := fun t k => castTop (ef_rm_sort0 m a') k
  obtain ⟨cl1, Ar1, -, Sz1, Nn1, -, -⟩ := id A_a
  obtain ⟨_, _, ⟨T2, L2, k2, n2⟩, -, X2, ⟨Lc2, hQ2, l2, y2, z2⟩, st2⟩ := Jvm.LawKit.callS X0 hx (y := (⟨"java/util/DualPivotQuicksort", "sort", "([IIII)V"⟩ : MethodName)) hown (mvT hZ (own_w hw 90 rfl)) (mvT hZ (own_w hw 91 rfl)) (mvT hZ (own_w hw 92 rfl)) (mvT hZ (own_w hw 93 rfl)) (by decide) (backOf (W := 0) (rm_sort1 l Z a0 hw [] a' h0 n0 O0 ) hZ (own_w hw 93 rfl) (own_w hw 92 rfl) (by decide) (by decide)) (g := (mkF m 5 #[.val (.ref a')] [(.int (0 : Int32)), (.int (0 : Int32)), (.int (0 : Int32)), (.ref a')])) rfl (by rw [hml]; rfl) (argsL := [(.ref a'), (.int (0 : Int32)), (.int (0 : Int32)), (.int (0 : Int32))]) (rest := []) (lenOf pd_4 rfl) rfl (by show 2 * 0 + _ ≤ _; exact Nat.le_of_eq rfl) (hb hby d11_5) (fun _ _ => ⟨rfl, e0, (by decide : 0 + 0 ≤ _), (by decide : 0 + 0 ≤ _)⟩)
  dsimp only [Pt.U, Pt.locs, Pt.cells, Pt.slots] at X2 l2 y2 z2 st2 hQ2
  subst l2 y2 z2
  obtain ⟨rfl, N3, k4⟩ := hQ2
  have N5 := Fr.app N0 N3
  have S6 : ∀ t, Steps p.tables e below (T2.setTop (mkF m 8 #[.val (.ref a')] [])) t → Steps p.tables e below (s₁.setTop (mkF m 0 #[.val (.ref a')] [])) t := by
    intro t kt
    refine XS.aloadN X0.here hx rfl (hb hby d11_0) rfl rfl ?_
    refine XS.iconst X0.here hx rfl (hb hby d11_1) ?_
    refine XS.iconst X0.here hx rfl (hb hby d11_2) ?_
    refine XS.aloadN X0.here hx rfl (hb hby d11_3) rfl rfl ?_
    show Steps p.tables e below (s₁.setTop (mkF m 4 #[.val (.ref a')] [(.ref a'), (.int (0 : Int32)), (.int (0 : Int32)), (.ref a')])) _
    refine X0.arraylength hx (by rw [e0]; exact Ar1.1) (State.isArrayOf_alike hZ.alike Ar1.2.1) (g := (mkF m 4 #[.val (.ref a')] [(.ref a'), (.int (0 : Int32)), (.int (0 : Int32)), (.ref a')])) rfl rfl (hb hby d11_4) _ ?_
    rw [len_of Sz1 Nn1]
    show Steps p.tables e below (s₁.setTop (mkF m 5 #[.val (.ref a')] [(.int (0 : Int32)), (.int (0 : Int32)), (.int (0 : Int32)), (.ref a')])) _
    refine st2 _ ?_
    exact kt
  obtain ⟨fs, hr, hrun, hended, hW, hsame⟩ := X2.leave (v := none) (fun _ => rfl)
  refine ⟨_, _, pre0 _ (S6 _ ?_), hrun, hended, _, _, rfl, ?_, ⟨_, rfl⟩, hW, hsame.mono (by decide) (by decide)⟩
  · exact X2.returnOut hx Bd.returns (hb hby d11_8) hr
  · show Q_rm_sort0 Z a' k' h0 n0 _ T2.heap _
    rw [k4]
    exact ⟨rfl, N5, rfl⟩
theorem d12_0 : decode prog_14_method_1_code 0 = .ok (.aload_n 0, 1) := by decide +kernel
theorem d12_1 : decode prog_14_method_1_code 1 = .ok (.invokespecial 1, 3) := by decide +kernel
theorem d12_4 : decode prog_14_method_1_code 4 = .ok (.aload_n 2, 1) := by decide +kernel
theorem d12_5 : decode prog_14_method_1_code 5 = .ok (.invokeinterface 7 1, 5) := by decide +kernel
theorem pd_5 : parseMethodDescriptor "()I" = some ⟨[], some .int⟩ := by decide +kernel
theorem d12_10 : decode prog_14_method_1_code 10 = .ok (.newarray .int, 2) := by decide +kernel
theorem d12_12 : decode prog_14_method_1_code 12 = .ok (.astore_n 3, 1) := by decide +kernel
theorem d12_13 : decode prog_14_method_1_code 13 = .ok (.iconst 0, 1) := by decide +kernel
theorem d12_14 : decode prog_14_method_1_code 14 = .ok (.istore 4, 2) := by decide +kernel
theorem d12_16 : decode prog_14_method_1_code 16 = .ok (.aload_n 2, 1) := by decide +kernel
theorem d12_17 : decode prog_14_method_1_code 17 = .ok (.invokeinterface 13 1, 5) := by decide +kernel
theorem pd_6 : parseMethodDescriptor "()Ljava/util/Iterator;" = some ⟨[], some (.object "java/util/Iterator")⟩ := by decide +kernel
theorem d12_22 : decode prog_14_method_1_code 22 = .ok (.astore 5, 2) := by decide +kernel
theorem d12_24 : decode prog_14_method_1_code 24 = .ok (.aload 5, 2) := by decide +kernel
theorem d12_26 : decode prog_14_method_1_code 26 = .ok (.invokeinterface 17 1, 5) := by decide +kernel
theorem pd_7 : parseMethodDescriptor "()Z" = some ⟨[], some .boolean⟩ := by decide +kernel
theorem d12_31 : decode prog_14_method_1_code 31 = .ok (.ifCond .eq 30, 3) := by decide +kernel
theorem d12_61 : decode prog_14_method_1_code 61 = .ok (.aload_n 3, 1) := by decide +kernel
theorem d12_62 : decode prog_14_method_1_code 62 = .ok (.invokestatic 32, 3) := by decide +kernel
theorem pd_8 : parseMethodDescriptor "([I)V" = some ⟨[(.array .int)], none⟩ := by decide +kernel
theorem d12_65 : decode prog_14_method_1_code 65 = .ok (.aload_n 3, 1) := by decide +kernel
theorem d12_66 : decode prog_14_method_1_code 66 = .ok (.arraylength, 1) := by decide +kernel
theorem d12_67 : decode prog_14_method_1_code 67 = .ok (.newarray .int, 2) := by decide +kernel
theorem d12_69 : decode prog_14_method_1_code 69 = .ok (.astore 5, 2) := by decide +kernel
theorem d12_71 : decode prog_14_method_1_code 71 = .ok (.iconst 0, 1) := by decide +kernel
theorem d12_72 : decode prog_14_method_1_code 72 = .ok (.istore 6, 2) := by decide +kernel
theorem d12_74 : decode prog_14_method_1_code 74 = .ok (.iconst 0, 1) := by decide +kernel
theorem d12_75 : decode prog_14_method_1_code 75 = .ok (.istore 7, 2) := by decide +kernel
theorem d12_77 : decode prog_14_method_1_code 77 = .ok (.iload 7, 2) := by decide +kernel
theorem d12_79 : decode prog_14_method_1_code 79 = .ok (.aload_n 3, 1) := by decide +kernel
theorem d12_80 : decode prog_14_method_1_code 80 = .ok (.arraylength, 1) := by decide +kernel
theorem d12_81 : decode prog_14_method_1_code 81 = .ok (.if_icmp .ge 34, 3) := by decide +kernel
theorem d12_115 : decode prog_14_method_1_code 115 = .ok (.aload_n 0, 1) := by decide +kernel
theorem d12_116 : decode prog_14_method_1_code 116 = .ok (.aload_n 1, 1) := by decide +kernel
theorem d12_117 : decode prog_14_method_1_code 117 = .ok (.putfield 38, 3) := by decide +kernel
theorem d12_120 : decode prog_14_method_1_code 120 = .ok (.aload_n 0, 1) := by decide +kernel
theorem d12_121 : decode prog_14_method_1_code 121 = .ok (.aload 5, 2) := by decide +kernel
theorem d12_123 : decode prog_14_method_1_code 123 = .ok (.putfield 44, 3) := by decide +kernel
theorem d12_126 : decode prog_14_method_1_code 126 = .ok (.aload_n 0, 1) := by decide +kernel
theorem d12_127 : decode prog_14_method_1_code 127 = .ok (.iload 6, 2) := by decide +kernel
theorem d12_129 : decode prog_14_method_1_code 129 = .ok (.putfield 47, 3) := by decide +kernel
theorem d12_132 : decode prog_14_method_1_code 132 = .ok (.return_, 1) := by decide +kernel
theorem pn_7 : plainName "com/example/favonius/favonius/eval/TopicRanking" = true := by first | (simp [plainName, overriddenIn]; done) | decide +kernel
theorem ef_rm_trinit (m : MethodId) (x0 : Addr) (x1 : Addr) (x2 : Addr) : entryFrame m #[(.ref x0), (.ref x1), (.ref x2)] 8 = mkF m 0 #[.val (.ref x0), .val (.ref x1), .val (.ref x2), .unset, .unset, .unset, .unset, .unset] [] := by first | (simp [entryFrame, mkF, argsToLocals, Value.category]; done) | rfl
def Q_rm_trinit (Z : State) (a' : Addr) (r : Addr) (c' : Addr) (h0 : Heap) (n0 : Nat) (v : Option Value) (h : Heap) (L : List Loc) : Prop := ((v = none) ∧ (Fr n0 L) ∧ (Keep h0 h [a']) ∧ (Fld Z h a' "com/example/favonius/favonius/eval/TopicRanking" "retrieved" "[I" (.ref r)))
set_option maxRecDepth 65536 in
set_option maxHeartbeats 40000000 in
theorem rm_trinit (l : Launch) (Z : State) (a0 : Array Value) (hw : ∀ d ∈ tables_1, d.before a0 Z = true) (ws : List Jvm.Cond) (a' : Addr) (r : Addr) (c' : Addr) (h0 : Heap) (n0 : Nat) (O0 : Old Z n0 h0) (E_a : Exa Z h0 a' "com/example/favonius/favonius/eval/TopicRanking") (g_a : n0 ≤ a') (E_c : Exa Z h0 c' "java/util/ArrayList") (F_cs : Fld Z h0 c' "java/util/ArrayList" "size" "I" (.int (0 : Int32))) (F_cm : Fld Z h0 c' "java/util/AbstractList" "modCount" "I" (.int (0 : Int32))) (n_ca : c' ≠ a') (F_r : Fld Z h0 a' "com/example/favonius/favonius/eval/TopicRanking" "retrieved" "[I" .null) (F_i : Fld Z h0 a' "com/example/favonius/favonius/eval/TopicRanking" "ideal" "[I" .null) (F_n : Fld Z h0 a' "com/example/favonius/favonius/eval/TopicRanking" "relevant" "I" (.int (0 : Int32))) :
    MetFree l (⟨"com/example/favonius/favonius/eval/TopicRanking", "<init>", "([ILjava/util/Collection;)V"⟩ : MethodName) (head1 (Jvm.Cond.code (⟨"com/example/favonius/favonius/eval/TopicRanking", "<init>", "([ILjava/util/Collection;)V"⟩ : MethodName) prog_14_method_1_code 8 none :: ws) ({ frames := 4, cells := 3, slots := 4, locals := 79 } : Room)) (fun a U => a = #[(.ref a'), (.ref r), (.ref c')] ∧ Z.Warmed39 U.vm ∧ U.heap = h0) (fun _ _ _ _ _ => True) (fun _ U o U' => ∃ v L, o = .returned v ∧ Q_rm_trinit Z a' r c' h0 n0 v U'.heap L ∧ FrameEnd U o U' L ({ frames := 4, cells := 3, slots := 4, locals := 79 } : Room).cells ({ frames := 4, cells := 3, slots := 4, locals := 79 } : Room).slots) := by
  refine MetFree.of_bodySF (plainFor_of_name pn_7) hisR ?_
  intro p e s m args below meth c s₁ Bd hml0 hP hK
  obtain ⟨rfl, hZ, hh⟩ := hP
  have hx := Bd.exec
  have hby := Bd.bytes
  have hml : c.maxLocals = 8 := hml0
  have hown : s.vm.findClass "com/example/favonius/favonius/eval/TopicRanking" = some m.cls := findClass_of_methodNamed Bd.named
  have hnm := (name_of_methodNamed Bd.named Bd.method).1
  have X0 : Stand p l e ({ frames := 4, cells := 3, slots := 4, locals := 79 } : Room) s m #[(.ref a'), (.ref r), (.ref c')] below meth c s₁ [] 0 0 := Stand.of_body Bd
  have e0 : s₁.heap = h0 := by rw [← hh, Bd.state]; rfl
  have N0 := Fr.nil n0
  have K0 : Keep h0 h0 [a'] := Keep.refl _ _
  have pre0 : ∀ t, Steps p.tables e below (s₁.setTop (mkF m 0 #[.val (.ref a'), .val (.ref r), .val (.ref c'), .unset, .unset, .unset, .unset, .unset] [])) t → Steps p.tables e below (s₁.setTop (entryFrame m #[(.ref a'), (.ref r), (.ref c')] 8)) t := fun t k => castTop (ef_rm_trinit m a' r c') k
  obtain ⟨T1, X1, e1, st1⟩ := initO X0 hx hZ hown (own_w hw 38 rfl) (own_w hw 25 rfl) (own_w hw 26 rfl) e0 (g := (mkF m 1 #[.val (.ref a'), .val (.ref r), .val (.ref c'), .unset, .unset, .unset, .unset, .unset] [(.ref a')])) rfl (by rw [hml]; rfl) rfl (hb hby d12_1) (by decide) (W := 0) (by show 2 * 0 + _ ≤ _; exact Nat.le_of_eq rfl) (by decide)
  obtain ⟨cq2, kq2, q2a, q2b, q2c⟩ := isOf hZ e1 E_c
  obtain ⟨_, _, ⟨T2, L2, k2, n2⟩, -, X2, ⟨Lc2, hQ2, l2, y2, z2⟩, st2⟩ := X1.interfaceBack hx (xi := (⟨"java/util/Collection", "size", "()I"⟩ : MethodName)) (y := (⟨"java/util/ArrayList", "size", "()I"⟩ : MethodName)) hown (mvT hZ (own_w hw 39 rfl)) (mvT hZ (own_w hw 40 rfl)) (mvT hZ (own_w hw 41 rfl)) (mvT hZ (own_w hw 42 rfl)) (mvT hZ (own_w hw 43 rfl)) (mvT hZ (own_w hw 44 rfl)) (mvT hZ (own_w hw 45 rfl)) (mvT hZ (own_w hw 46 rfl)) (by decide) (backOf (W := 0) (rm_size l Z a0 hw [] c' h0 n0 O0 F_cs) hZ (own_w hw 47 rfl) (own_w hw 8 rfl) (by decide) (by decide)) q2a q2b q2c (g := (mkF m 5 #[.val (.ref a'), .val (.ref r), .val (.ref c'), .unset, .unset, .unset, .unset, .unset] [(.ref c')])) rfl (by rw [hml]; rfl) (Steps.refl _) (argsL := []) (rest := []) (lenOf pd_5 rfl) rfl (by show 2 * 0 + _ ≤ _; exact Nat.le_of_eq rfl) (hb hby d12_5) (fun _ _ => ⟨rfl, e1, (by decide : 0 + 0 ≤ _), (by decide : 0 + 0 ≤ _)⟩)
  dsimp only [Pt.U, Pt.locs, Pt.cells, Pt.slots] at X2 l2 y2 z2 st2 hQ2
  subst l2 y2 z2
  obtain ⟨rfl, N3, k4⟩ := hQ2
  have N5 := Fr.app N0 N3
  obtain ⟨T6, h6, k6, X6, e6, E6, A6, B6, st6⟩ := newPE X2 hx hZ (own_w hw 5 rfl) k4 (g := (mkF m 10 #[.val (.ref a'), .val (.ref r), .val (.ref c'), .unset, .unset, .unset, .unset, .unset] [(.int (0 : Int32))])) rfl (hb hby d12_10) rfl (by decide) (cap := 0) (by decide) (by decide) (by decide) (by decide) (ad := "[I") (by first | rfl | decide)
  obtain ⟨b6, g6⟩ : ∃ z, z = h0.size := ⟨_, rfl⟩
  have ge_b6 : n0 ≤ b6 := by rw [g6, ← O0.1]; exact O0.2.1
  have sz_b6 : h0.size ≤ b6 := by rw [g6]; exact K0.1
  have ne7 : a' ≠ b6 := Nat.ne_of_lt (Nat.lt_of_lt_of_le (Exa.lt E_a) (Nat.le_of_eq g6.symm))
  have ne8 : c' ≠ b6 := Nat.ne_of_lt (Nat.lt_of_lt_of_le (Exa.lt E_c) (Nat.le_of_eq g6.symm))
  rw [← g6] at A6 B6 st6
  have O9 := O0.ext E6
  have K10 : Keep h0 h6 [a'] := K0.ext E6
  have F6 : Arv Z h6 b6 k6 .int (0 : Int32) [] (.int (0 : Int32)) := (Arv.new A6 (by decide)).pad (pad_rep [] (.int (0 : Int32)) 0)
  have f12 := (Exa.ext E6 E_c)
  have f13 := (Fld.ext E6 F_cm)
  obtain ⟨cq11, kq11, q11a, q11b, q11c⟩ := isOf hZ e6 f12
  obtain ⟨_, _, ⟨T11, L11, k11, n11⟩, -, X11, ⟨Lc11, hQ11, l11, y11, z11⟩, st11⟩ := X6.interfaceBack hx (xi := (⟨"java/util/Collection", "iterator", "()Ljava/util/Iterator;"⟩ : MethodName)) (y := (⟨"java/util/ArrayList", "iterator", "()Ljava/util/Iterator;"⟩ : MethodName)) hown (mvT hZ (own_w hw 50 rfl)) (mvT hZ (own_w hw 51 rfl)) (mvT hZ (own_w hw 52 rfl)) (mvT hZ (own_w hw 53 rfl)) (mvT hZ (own_w hw 54 rfl)) (mvT hZ (own_w hw 55 rfl)) (mvT hZ (own_w hw 56 rfl)) (mvT hZ (own_w hw 46 rfl)) (by decide) (backOf (W := 0) (rm_iter l Z a0 hw [] c' h6 n0 O9 f13) hZ (own_w hw 57 rfl) (own_w hw 8 rfl) (by decide) (by decide)) q11a q11b q11c (g := (mkF m 17 #[.val (.ref a'), .val (.ref r), .val (.ref c'), .val (.ref b6), .val (.int (0 : Int32)), .unset, .unset, .unset] [(.ref c')])) rfl (by rw [hml]; rfl) (Steps.refl _) (argsL := []) (rest := []) (lenOf pd_6 rfl) rfl (by show 2 * 0 + _ ≤ _; exact Nat.le_of_eq rfl) (hb hby d12_17) (fun _ _ => ⟨rfl, e6, (by decide : 1 + 1 ≤ _), (by decide : 0 + 4 ≤ _)⟩)
  dsimp only [Pt.U, Pt.locs, Pt.cells, Pt.slots] at X11 l11 y11 z11 st11 hQ11
  subst l11 y11 z11
  obtain ⟨x14, rfl, N15, k16, f17, f18, f19, f20⟩ := hQ11
  have N21 := Fr.app N5 N15
  have ge22 : n0 ≤ x14 := by rw [← O9.1]; exact Nat.le_trans O9.2.1 f17
  have sz22 : h0.size ≤ x14 := Nat.le_trans K10.1 f17
  have f23 := (Exa.ext E6 E_a)
  have ne24 : a' ≠ x14 := Nat.ne_of_lt (Nat.lt_of_lt_of_le (Exa.lt f23) f17)
  have ne25 : c' ≠ x14 := Nat.ne_of_lt (Nat.lt_of_lt_of_le (Exa.lt f12) f17)
  have ne26 : b6 ≠ x14 := Nat.ne_of_lt (Nat.lt_of_lt_of_le (Exa.lt B6) f17)
  have O27 := O9.keep k16 all0
  have K28 : Keep h0 T11.heap [a'] := K10.trans k16 all0
  have f30 := (Fld.keep (Fld.ext E6 F_cs) k16 nin0)
  obtain ⟨cq29, kq29, q29a, q29b, q29c⟩ := isOf hZ rfl f18
  obtain ⟨_, _, ⟨T29, L29, k29, n29⟩, -, X29, ⟨Lc29, hQ29, l29, y29, z29⟩, st29⟩ := X11.interfaceBack hx (xi := (⟨"java/util/Iterator", "hasNext", "()Z"⟩ : MethodName)) (y := (⟨"java/util/ArrayList$Itr", "hasNext", "()Z"⟩ : MethodName)) hown (mvT hZ (own_w hw 74 rfl)) (mvT hZ (own_w hw 75 rfl)) (mvT hZ (own_w hw 76 rfl)) (mvT hZ (own_w hw 77 rfl)) (mvT hZ (own_w hw 78 rfl)) (mvT hZ (own_w hw 79 rfl)) (mvT hZ (own_w hw 80 rfl)) (mvT hZ (own_w hw 81 rfl)) (by decide) (backOf (W := 0) (rm_hasnext l Z a0 hw [] x14 c' T11.heap n0 O27 f19 f20 f30) hZ (own_w hw 82 rfl) (own_w hw 60 rfl) (by decide) (by decide)) q29a q29b q29c (g := (mkF m 26 #[.val (.ref a'), .val (.ref r), .val (.ref c'), .val (.ref b6), .val (.int (0 : Int32)), .val (.ref x14), .unset, .unset] [(.ref x14)])) rfl (by rw [hml]; rfl) (Steps.refl _) (argsL := []) (rest := []) (lenOf pd_7 rfl) rfl (by show 2 * 0 + _ ≤ _; exact Nat.le_of_eq rfl) (hb hby d12_26) (fun _ _ => ⟨rfl, rfl, (by decide : 2 + 0 ≤ _), (by decide : 4 + 0 ≤ _)⟩)
  dsimp only [Pt.U, Pt.locs, Pt.cells, Pt.slots] at X29 l29 y29 z29 st29 hQ29
  subst l29 y29 z29
  obtain ⟨rfl, N31, k32⟩ := hQ29
  have N33 := Fr.app N21 N31
  have f35 := (Arv.keep F6 k16 nin0)
  obtain ⟨_, _, ⟨T34, L34, k34, n34⟩, -, X34, ⟨Lc34, hQ34, l34, y34, z34⟩, st34⟩ := Jvm.LawKit.callS X29 hx (y := (⟨"java/util/Arrays", "sort", "([I)V"⟩ : MethodName)) hown (mvT hZ (own_w hw 86 rfl)) (mvT hZ (own_w hw 87 rfl)) (mvT hZ (own_w hw 88 rfl)) (mvT hZ (own_w hw 89 rfl)) (by decide) (backOf (W := 0) (rm_sort0 l Z a0 hw [] b6 k6 T11.heap n0 O27 f35) hZ (own_w hw 89 rfl) (own_w hw 88 rfl) (by decide) (by decide)) (g := (mkF m 62 #[.val (.ref a'), .val (.ref r), .val (.ref c'), .val (.ref b6), .val (.int (0 : Int32)), .val (.ref x14), .unset, .unset] [(.ref b6)])) rfl (by rw [hml]; rfl) (argsL := [(.ref b6)]) (rest := []) (lenOf pd_8 rfl) rfl (by show 2 * 0 + _ ≤ _; exact Nat.le_of_eq rfl) (hb hby d12_62) (fun _ _ => ⟨rfl, k32, (by decide : 2 + 0 ≤ _), (by decide : 4 + 0 ≤ _)⟩)
  dsimp only [Pt.U, Pt.locs, Pt.cells, Pt.slots] at X34 l34 y34 z34 st34 hQ34
  subst l34 y34 z34
  obtain ⟨rfl, N36, k37⟩ := hQ34
  have N38 := Fr.app N33 N36
  obtain ⟨cl39, Ar39, -, Sz39, Nn39, -, -⟩ := id f35
  obtain ⟨T40, h40, k40, X40, e40, E40, A40, B40, st40⟩ := newPE X34 hx hZ (own_w hw 5 rfl) k37 (g := (mkF m 67 #[.val (.ref a'), .val (.ref r), .val (.ref c'), .val (.ref b6), .val (.int (0 : Int32)), .val (.ref x14), .unset, .unset] [(.int (0 : Int32))])) rfl (hb hby d12_67) rfl (by decide) (cap := 0) (by decide) (by decide) (by decide) (by decide) (ad := "[I") (by first | rfl | decide)
  obtain ⟨b40, g40⟩ : ∃ z, z = T11.heap.size := ⟨_, rfl⟩
  have ge_b40 : n0 ≤ b40 := by rw [g40, ← O27.1]; exact O27.2.1
  have sz_b40 : h0.size ≤ b40 := by rw [g40]; exact K28.1
  have f41 := (Exa.keep f23 k16)
  have ne42 : a' ≠ b40 := Nat.ne_of_lt (Nat.lt_of_lt_of_le (Exa.lt f41) (Nat.le_of_eq g40.symm))
  have f43 := (Exa.keep f12 k16)
  have ne44 : c' ≠ b40 := Nat.ne_of_lt (Nat.lt_of_lt_of_le (Exa.lt f43) (Nat.le_of_eq g40.symm))
  have f45 := (Exa.keep B6 k16)
  have ne46 : b6 ≠ b40 := Nat.ne_of_lt (Nat.lt_of_lt_of_le (Exa.lt f45) (Nat.le_of_eq g40.symm))
  have ne47 : x14 ≠ b40 := Nat.ne_of_lt (Nat.lt_of_lt_of_le (Exa.lt f18) (Nat.le_of_eq g40.symm))
  rw [← g40] at A40 B40 st40
  have O48 := O27.ext E40
  have K49 : Keep h0 h40 [a'] := K28.ext E40
  have F40 : Arv Z h40 b40 k40 .int (0 : Int32) [] (.int (0 : Int32)) := (Arv.new A40 (by decide)).pad (pad_rep [] (.int (0 : Int32)) 0)
  have f50 := (Arv.ext f35 E40)
  obtain ⟨cl51, Ar51, -, Sz51, Nn51, -, -⟩ := id f50
  have f52 := (Fld.ext E40 (Fld.keep (Fld.ext E6 F_r) k16 nin0))
  have f53 := (Exa.ext E40 f41)
  obtain ⟨T54, h54, X54, e54, W54, st54⟩ := putF X40 hx hZ hown (host := "") (Or.inl (own_w hw 100 rfl)) Via.refl e40 f52 f53 (Or.inr ⟨(own_w hw 101 rfl), rfl, hnm⟩) (own_w hw 33 rfl) (ty := (.array .int)) (by decide) rfl rfl (g := (mkF m 117 #[.val (.ref a'), .val (.ref r), .val (.ref c'), .val (.ref b6), .val (.int (0 : Int32)), .val (.ref b40), .val (.int (0 : Int32)), .val (.int (0 : Int32))] [(.ref r), (.ref a')])) rfl rfl (hb hby d12_117)
  have O55 := O48.wr W54 g_a
  have K56 : Keep h0 h54 [a'] := K49.wr W54 (Or.inl (List.mem_of_getElem? (i := 0) rfl))
  have N57 := Fr.snoc X54 N38 g_a
  have F54 : Fld Z h54 a' "com/example/favonius/favonius/eval/TopicRanking" "retrieved" "[I" (.ref r) := Fld.same W54 f52
  have f58 := (Fld.other W54 (Fld.ext E40 (Fld.keep (Fld.ext E6 F_i) k16 nin0)) (Or.inr (slot_ne (Or.inr (own_w hw 103 rfl)) (Or.inr (own_w hw 101 rfl)) (by decide) (t := (.array .int)) (t' := (.array .int)) (by decide) (by decide))))
  have f59 := (Exa.wr W54 f53)
  obtain ⟨T60, h60, X60, e60, W60, st60⟩ := putF X54 hx hZ hown (host := "") (Or.inl (own_w hw 102 rfl)) Via.refl e54 f58 f59 (Or.inr ⟨(own_w hw 103 rfl), rfl, hnm⟩) (own_w hw 33 rfl) (ty := (.array .int)) (by decide) rfl rfl (g := (mkF m 123 #[.val (.ref a'), .val (.ref r), .val (.ref c'), .val (.ref b6), .val (.int (0 : Int32)), .val (.ref b40), .val (.int (0 : Int32)), .val (.int (0 : Int32))] [(.ref b40), (.ref a')])) rfl rfl (hb hby d12_123)
  have O61 := O55.wr W60 g_a
  have K62 : Keep h0 h60 [a'] := K56.wr W60 (Or.inl (List.mem_of_getElem? (i := 0) rfl))
  have N63 := Fr.snoc X60 N57 g_a
  have F60 : Fld Z h60 a' "com/example/favonius/favonius/eval/TopicRanking" "ideal" "[I" (.ref b40) := Fld.same W60 f58
  have f64 := (Fld.other W60 (Fld.other W54 (Fld.ext E40 (Fld.keep (Fld.ext E6 F_n) k16 nin0)) (Or.inr (slot_ne (Or.inr (own_w hw 105 rfl)) (Or.inr (own_w hw 101 rfl)) (by decide) (t := .int) (t' := (.array .int)) (by decide) (by decide)))) (Or.inr (slot_ne (Or.inr (own_w hw 105 rfl)) (Or.inr (own_w hw 103 rfl)) (by decide) (t := .int) (t' := (.array .int)) (by decide) (by decide))))
  have f65 := (Exa.wr W60 f59)
  obtain ⟨T66, h66, X66, e66, W66, st66⟩ := putF X60 hx hZ hown (host := "") (Or.inl (own_w hw 104 rfl)) Via.refl e60 f64 f65 (Or.inr ⟨(own_w hw 105 rfl), rfl, hnm⟩) (own_w hw 33 rfl) (ty := .int) (by decide) rfl rfl (g := (mkF m 129 #[.val (.ref a'), .val (.ref r), .val (.ref c'), .val (.ref b6), .val (.int (0 : Int32)), .val (.ref b40), .val (.int (0 : Int32)), .val (.int (0 : Int32))] [(.int (0 : Int32)), (.ref a')])) rfl rfl (hb hby d12_129)
  have O67 := O61.wr W66 g_a
  have K68 : Keep h0 h66 [a'] := K62.wr W66 (Or.inl (List.mem_of_getElem? (i := 0) rfl))
  have N69 := Fr.snoc X66 N63 g_a
  have F66 : Fld Z h66 a' "com/example/favonius/favonius/eval/TopicRanking" "relevant" "I" (.int (0 : Int32)) := Fld.same W66 f64
  have S70 : ∀ t, Steps p.tables e below (T66.setTop (mkF m 132 #[.val (.ref a'), .val (.ref r), .val (.ref c'), .val (.ref b6), .val (.int (0 : Int32)), .val (.ref b40), .val (.int (0 : Int32)), .val (.int (0 : Int32))] [])) t → Steps p.tables e below (s₁.setTop (mkF m 0 #[.val (.ref a'), .val (.ref r), .val (.ref c'), .unset, .unset, .unset, .unset, .unset] [])) t := by
    intro t kt
    refine XS.aloadN X0.here hx rfl (hb hby d12_0) rfl rfl ?_
    show Steps p.tables e below (s₁.setTop (mkF m 1 #[.val (.ref a'), .val (.ref r), .val (.ref c'), .unset, .unset, .unset, .unset, .unset] [(.ref a')])) _
    refine st1 _ ?_
    refine XS.aloadN X1.here hx rfl (hb hby d12_4) rfl rfl ?_
    show Steps p.tables e below (T1.setTop (mkF m 5 #[.val (.ref a'), .val (.ref r), .val (.ref c'), .unset, .unset, .unset, .unset, .unset] [(.ref c')])) _
    refine st2.trans ?_
    show Steps p.tables e below (T2.setTop (mkF m 10 #[.val (.ref a'), .val (.ref r), .val (.ref c'), .unset, .unset, .unset, .unset, .unset] [(.int (0 : Int32))])) _
    refine st6 _ ?_
    refine XS.astoreN X6.here hx rfl (hb hby d12_12) rfl rfl (l' := #[.val (.ref a'), .val (.ref r), .val (.ref c'), .val (.ref b6), .unset, .unset, .unset, .unset]) rfl ?_
    refine XS.iconst X6.here hx rfl (hb hby d12_13) ?_
    refine XS.istore X6.here hx rfl (hb hby d12_14) rfl (l' := #[.val (.ref a'), .val (.ref r), .val (.ref c'), .val (.ref b6), .val (.int (0 : Int32)), .unset, .unset, .unset]) rfl ?_
    refine XS.aloadN X6.here hx rfl (hb hby d12_16) rfl rfl ?_
    show Steps p.tables e below (T6.setTop (mkF m 17 #[.val (.ref a'), .val (.ref r), .val (.ref c'), .val (.ref b6), .val (.int (0 : Int32)), .unset, .unset, .unset] [(.ref c')])) _
    refine st11.trans ?_
    refine XS.astore X11.here hx rfl (hb hby d12_22) rfl rfl (l' := #[.val (.ref a'), .val (.ref r), .val (.ref c'), .val (.ref b6), .val (.int (0 : Int32)), .val (.ref x14), .unset, .unset]) rfl ?_
    refine XS.aload X11.here hx rfl (hb hby d12_24) rfl rfl ?_
    show Steps p.tables e below (T11.setTop (mkF m 26 #[.val (.ref a'), .val (.ref r), .val (.ref c'), .val (.ref b6), .val (.int (0 : Int32)), .val (.ref x14), .unset, .unset] [(.ref x14)])) _
    refine st29.trans ?_
    refine XS.ifYes X29.here hx rfl (pc0 := 31) (pc' := 61) rfl (hb hby d12_31) rfl ((if0 _ _).trans (teq ((by decide) : (0 : Int32) = (0 : Int32))).1) (by decide) (by decide) ?_
    refine XS.aloadN X29.here hx rfl (hb hby d12_61) rfl rfl ?_
    show Steps p.tables e below (T29.setTop (mkF m 62 #[.val (.ref a'), .val (.ref r), .val (.ref c'), .val (.ref b6), .val (.int (0 : Int32)), .val (.ref x14), .unset, .unset] [(.ref b6)])) _
    refine st34 _ ?_
    refine XS.aloadN X34.here hx rfl (hb hby d12_65) rfl rfl ?_
    show Steps p.tables e below (T34.setTop (mkF m 66 #[.val (.ref a'), .val (.ref r), .val (.ref c'), .val (.ref b6), .val (.int (0 : Int32)), .val (.ref x14), .unset, .unset] [(.ref b6)])) _
    refine X34.arraylength hx (by rw [k37]; exact Ar39.1) (State.isArrayOf_alike hZ.alike Ar39.2.1) (g := (mkF m 66 #[.val (.ref a'), .val (.ref r), .val (.ref c'), .val (.ref b6), .val (.int (0 : Int32)), .val (.ref x14), .unset, .unset] [(.ref b6)])) rfl rfl (hb hby d12_66) _ ?_
    rw [len_of Sz39 Nn39]
    show Steps p.tables e below (T34.setTop (mkF m 67 #[.val (.ref a'), .val (.ref r), .val (.ref c'), .val (.ref b6), .val (.int (0 : Int32)), .val (.ref x14), .unset, .unset] [(.int (0 : Int32))])) _
    refine st40 _ ?_
    refine XS.astore X40.here hx rfl (hb hby d12_69) rfl rfl (l' := #[.val (.ref a'), .val (.ref r), .val (.ref c'), .val (.ref b6), .val (.int (0 : Int32)), .val (.ref b40), .unset, .unset]) rfl ?_
    refine XS.iconst X40.here hx rfl (hb hby d12_71) ?_
    refine XS.istore X40.here hx rfl (hb hby d12_72) rfl (l' := #[.val (.ref a'), .val (.ref r), .val (.ref c'), .val (.ref b6), .val (.int (0 : Int32)), .val (.ref b40), .val (.int (0 : Int32)), .unset]) rfl ?_
    refine XS.iconst X40.here hx rfl (hb hby d12_74) ?_
    refine XS.istore X40.here hx rfl (hb hby d12_75) rfl (l' := #[.val (.ref a'), .val (.ref r), .val (.ref c'), .val (.ref b6), .val (.int (0 : Int32)), .val (.ref b40), .val (.int (0 : Int32)), .val (.int (0 : Int32))]) rfl ?_
    show Steps p.tables e below (T40.setTop (mkF m 77 #[.val (.ref a'), .val (.ref r), .val (.ref c'), .val (.ref b6), .val (.int (0 : Int32)), .val (.ref b40), .val (.int (0 : Int32)), .val (.int (0 : Int32))] [])) _
    refine XS.iload X40.here hx rfl (hb hby d12_77) rfl ?_
    refine XS.aloadN X40.here hx rfl (hb hby d12_79) rfl rfl ?_
    show Steps p.tables e below (T40.setTop (mkF m 80 #[.val (.ref a'), .val (.ref r), .val (.ref c'), .val (.ref b6), .val (.int (0 : Int32)), .val (.ref b40), .val (.int (0 : Int32)), .val (.int (0 : Int32))] [(.ref b6), (.int (0 : Int32))])) _
    refine X40.arraylength hx (by rw [e40]; exact Ar51.1) (State.isArrayOf_alike hZ.alike Ar51.2.1) (g := (mkF m 80 #[.val (.ref a'), .val (.ref r), .val (.ref c'), .val (.ref b6), .val (.int (0 : Int32)), .val (.ref b40), .val (.int (0 : Int32)), .val (.int (0 : Int32))] [(.ref b6), (.int (0 : Int32))])) rfl rfl (hb hby d12_80) _ ?_
    rw [len_of Sz51 Nn51]
    refine XS.icmpYes X40.here hx rfl (pc0 := 81) (pc' := 115) rfl (hb hby d12_81) rfl (flt ((by decide) : ¬ ((0 : Int32) < (0 : Int32)))).2.1 (by decide) (by decide) ?_
    refine XS.aloadN X40.here hx rfl (hb hby d12_115) rfl rfl ?_
    refine XS.aloadN X40.here hx rfl (hb hby d12_116) rfl rfl ?_
    show Steps p.tables e below (T40.setTop (mkF m 117 #[.val (.ref a'), .val (.ref r), .val (.ref c'), .val (.ref b6), .val (.int (0 : Int32)), .val (.ref b40), .val (.int (0 : Int32)), .val (.int (0 : Int32))] [(.ref r), (.ref a')])) _
    refine st54 _ ?_
    refine XS.aloadN X54.here hx rfl (hb hby d12_120) rfl rfl ?_
    refine XS.aload X54.here hx rfl (hb hby d12_121) rfl rfl ?_
    show Steps p.tables e below (T54.setTop (mkF m 123 #[.val (.ref a'), .val (.ref r), .val (.ref c'), .val (.ref b6), .val (.int (0 : Int32)), .val (.ref b40), .val (.int (0 : Int32)), .val (.int (0 : Int32))] [(.ref b40), (.ref a')])) _
    refine st60 _ ?_
    refine XS.aloadN X60.here hx rfl (hb hby d12_126) rfl rfl ?_
    refine XS.iload X60.here hx rfl (hb hby d12_127) rfl ?_
    show Steps p.tables e below (T60.setTop (mkF m 129 #[.val (.ref a'), .val (.ref r), .val (.ref c'), .val (.ref b6), .val (.int (0 : Int32)), .val (.ref b40), .val (.int (0 : Int32)), .val (.int (0 : Int32))] [(.int (0 : Int32)), (.ref a')])) _
    refine st66 _ ?_
    exact kt
  obtain ⟨fs, hr, hrun, hended, hW, hsame⟩ := X66.leave (v := none) (fun _ => rfl)
  have f71 := (Fld.other W66 (Fld.other W60 F54 (Or.inr (slot_ne (Or.inr (own_w hw 101 rfl)) (Or.inr (own_w hw 103 rfl)) (by decide) (t := (.array .int)) (t' := (.array .int)) (by decide) (by decide)))) (Or.inr (slot_ne (Or.inr (own_w hw 101 rfl)) (Or.inr (own_w hw 105 rfl)) (by decide) (t := (.array .int)) (t' := .int) (by decide) (by decide))))
  refine ⟨_, _, pre0 _ (S70 _ ?_), hrun, hended, _, _, rfl, ?_, ⟨_, rfl⟩, hW, hsame.mono (by decide) (by decide)⟩
  · exact X66.returnOut hx Bd.returns (hb hby d12_132) hr
  · show Q_rm_trinit Z a' r c' h0 n0 _ T66.heap _
    rw [e66]
    exact ⟨rfl, N69, K68, f71⟩
theorem d13_0 : decode method_3_code 0 = .ok (.iload_n 0, 1) := by decide +kernel
theorem d13_1 : decode method_3_code 1 = .ok (.iload_n 1, 1) := by decide +kernel
theorem d13_2 : decode method_3_code 2 = .ok (.if_icmp .ge 14, 3) := by decide +kernel
theorem d13_5 : decode method_3_code 5 = .ok (.iload_n 2, 1) := by decide +kernel
theorem d13_6 : decode method_3_code 6 = .ok (.iload_n 0, 1) := by decide +kernel
theorem d13_7 : decode method_3_code 7 = .ok (.if_icmp .le 9, 3) := by decide +kernel
theorem d13_10 : decode method_3_code 10 = .ok (.iload_n 3, 1) := by decide +kernel
theorem d13_11 : decode method_3_code 11 = .ok (.ifCond .le 5, 3) := by decide +kernel
theorem d13_14 : decode method_3_code 14 = .ok (.iconst 1, 1) := by decide +kernel
theorem d13_15 : decode method_3_code 15 = .ok (.ireturn, 1) := by decide +kernel
theorem d13_16 : decode method_3_code 16 = .ok (.iconst 0, 1) := by decide +kernel
theorem d13_17 : decode method_3_code 17 = .ok (.ireturn, 1) := by decide +kernel
theorem ef_rm_term (m : MethodId) (x0 : Int32) (x1 : Int32) (x2 : Int32) (x3 : Int32) : entryFrame m #[(.int x0), (.int x1), (.int x2), (.int x3)] 4 = mkF m 0 #[.val (.int x0), .val (.int x1), .val (.int x2), .val (.int x3)] [] := by first | (simp [entryFrame, mkF, argsToLocals, Value.category]; done) | rfl
def Q_rm_term (Z : State) (p0 : Int32) (p1 : Int32) (p2 : Int32) (p3 : Int32) (h0 : Heap) (n0 : Nat) (v : Option Value) (h : Heap) (L : List Loc) : Prop := ((v = some (.int (own_t p0 p1 p2 p3))) ∧ (Fr n0 L) ∧ (h = h0))
set_option maxRecDepth 65536 in
set_option maxHeartbeats 40000000 in
theorem rm_term (l : Launch) (Z : State) (a0 : Array Value) (hw : ∀ d ∈ tables_1, d.before a0 Z = true) (ws : List Jvm.Cond) (p0 : Int32) (p1 : Int32) (p2 : Int32) (p3 : Int32) (h0 : Heap) (n0 : Nat) (O0 : Old Z n0 h0) :
    MetFree l (⟨"com/example/favonius/favonius/eval/TopicRankingRelevantInTopPinLaw", "term", "(IIII)I"⟩ : MethodName) (head1 (Jvm.Cond.code (⟨"com/example/favonius/favonius/eval/TopicRankingRelevantInTopPinLaw", "term", "(IIII)I"⟩ : MethodName) method_3_code 4 (some .int) :: ws) ({ frames := 0, cells := 0, slots := 0, locals := 0 } : Room)) (fun a U => a = #[(.int p0), (.int p1), (.int p2), (.int p3)] ∧ Z.Warmed39 U.vm ∧ U.heap = h0) (fun _ _ _ _ _ => True) (fun _ U o U' => ∃ v L, o = .returned v ∧ Q_rm_term Z p0 p1 p2 p3 h0 n0 v U'.heap L ∧ FrameEnd U o U' L ({ frames := 0, cells := 0, slots := 0, locals := 0 } : Room).cells ({ frames := 0, cells := 0, slots := 0, locals := 0 } : Room).slots) := by
  refine MetFree.of_bodySF (plainFor_of_name pn_0) hisR ?_
  intro p e s m args below meth c s₁ Bd hml0 hP hK
  obtain ⟨rfl, hZ, hh⟩ := hP
  have hx := Bd.exec
  have hby := Bd.bytes
  have hml : c.maxLocals = 4 := hml0
  have hown : s.vm.findClass "com/example/favonius/favonius/eval/TopicRankingRelevantInTopPinLaw" = some m.cls := findClass_of_methodNamed Bd.named
  have hnm := (name_of_methodNamed Bd.named Bd.method).1
  have X0 : Stand p l e ({ frames := 0, cells := 0, slots := 0, locals := 0 } : Room) s m #[(.int p0), (.int p1), (.int p2), (.int p3)] below meth c s₁ [] 0 0 := Stand.of_body Bd
  have e0 : s₁.heap = h0 := by rw [← hh, Bd.state]; rfl
  have N0 := Fr.nil n0
  have pre0 : ∀ t, Steps p.tables e below (s₁.setTop (mkF m 0 #[.val (.int p0), .val (.int p1), .val (.int p2), .val (.int p3)] [])) t → Steps p.tables e below (s₁.setTop (entryFrame m #[(.int p0), (.int p1), (.int p2), (.int p3)] 4)) t := fun t k => castTop (ef_rm_term m p0 p1 p2 p3) k
  have S1 : ∀ t, Steps p.tables e below (s₁.setTop (mkF m 2 #[.val (.int p0), .val (.int p1), .val (.int p2), .val (.int p3)] [(.int p1), (.int p0)])) t → Steps p.tables e below (s₁.setTop (mkF m 0 #[.val (.int p0), .val (.int p1), .val (.int p2), .val (.int p3)] [])) t := by
    intro t kt
    refine XS.iloadN X0.here hx rfl (hb hby d13_0) rfl ?_
    refine XS.iloadN X0.here hx rfl (hb hby d13_1) rfl ?_
    exact kt
  rcases Decidable.em (p0 < p1) with c2 | c2
  · have S3 : ∀ t, Steps p.tables e below (s₁.setTop (mkF m 7 #[.val (.int p0), .val (.int p1), .val (.int p2), .val (.int p3)] [(.int p0), (.int p2)])) t → Steps p.tables e below (s₁.setTop (mkF m 0 #[.val (.int p0), .val (.int p1), .val (.int p2), .val (.int p3)] [])) t := by
      intro t kt
      refine S1 t ?_
      refine XS.icmpNo X0.here hx rfl (hb hby d13_2) rfl (tlt (c2 : p0 < p1)).2.1 ?_
      refine XS.iloadN X0.here hx rfl (hb hby d13_5) rfl ?_
      refine XS.iloadN X0.here hx rfl (hb hby d13_6) rfl ?_
      exact kt
    rcases Decidable.em (p0 < p2) with c4 | c4
    · have S5 : ∀ t, Steps p.tables e below (s₁.setTop (mkF m 11 #[.val (.int p0), .val (.int p1), .val (.int p2), .val (.int p3)] [(.int p3)])) t → Steps p.tables e below (s₁.setTop (mkF m 0 #[.val (.int p0), .val (.int p1), .val (.int p2), .val (.int p3)] [])) t := by
        intro t kt
        refine S3 t ?_
        refine XS.icmpNo X0.here hx rfl (hb hby d13_7) rfl (tlt (c4 : p0 < p2)).2.2.2 ?_
        refine XS.iloadN X0.here hx rfl (hb hby d13_10) rfl ?_
        exact kt
      rcases Decidable.em ((0 : Int32) < p3) with c6 | c6
      · have S7 : ∀ t, Steps p.tables e below (s₁.setTop (mkF m 15 #[.val (.int p0), .val (.int p1), .val (.int p2), .val (.int p3)] [(.int (1 : Int32))])) t → Steps p.tables e below (s₁.setTop (mkF m 0 #[.val (.int p0), .val (.int p1), .val (.int p2), .val (.int p3)] [])) t := by
          intro t kt
          refine S5 t ?_
          refine XS.ifNo X0.here hx rfl (hb hby d13_11) rfl ((if0 _ _).trans (tlt (c6 : (0 : Int32) < p3)).2.2.2) ?_
          refine XS.iconst X0.here hx rfl (hb hby d13_14) ?_
          exact kt
        obtain ⟨fs, hr, hrun, hended, hW, hsame⟩ := X0.leave (v := some (.int (1 : Int32))) (fun h => by rw [Bd.returns] at h; cases h)
        refine ⟨_, _, pre0 _ (S7 _ ?_), hrun, hended, _, _, rfl, ?_, ⟨_, rfl⟩, hW, hsame.mono (by decide) (by decide)⟩
        · exact retOut X0 hx Bd.returns rfl (Or.inl ⟨rfl, Or.inl rfl, _, rfl⟩) (hb hby d13_15) hr
        · show Q_rm_term Z p0 p1 p2 p3 h0 n0 _ s₁.heap _
          rw [e0]
          exact ⟨(congrArg (fun z => some (Value.int z)) (own_t1 c2 c4 c6).symm), N0, rfl⟩
      · have S8 : ∀ t, Steps p.tables e below (s₁.setTop (mkF m 17 #[.val (.int p0), .val (.int p1), .val (.int p2), .val (.int p3)] [(.int (0 : Int32))])) t → Steps p.tables e below (s₁.setTop (mkF m 0 #[.val (.int p0), .val (.int p1), .val (.int p2), .val (.int p3)] [])) t := by
          intro t kt
          refine S5 t ?_
          refine XS.ifYes X0.here hx rfl (pc0 := 11) (pc' := 16) rfl (hb hby d13_11) rfl ((if0 _ _).trans (flt (c6 : ¬ ((0 : Int32) < p3))).2.2.2) (by decide) (by decide) ?_
          refine XS.iconst X0.here hx rfl (hb hby d13_16) ?_
          exact kt
        obtain ⟨fs, hr, hrun, hended, hW, hsame⟩ := X0.leave (v := some (.int (0 : Int32))) (fun h => by rw [Bd.returns] at h; cases h)
        refine ⟨_, _, pre0 _ (S8 _ ?_), hrun, hended, _, _, rfl, ?_, ⟨_, rfl⟩, hW, hsame.mono (by decide) (by decide)⟩
        · exact retOut X0 hx Bd.returns rfl (Or.inl ⟨rfl, Or.inl rfl, _, rfl⟩) (hb hby d13_17) hr
        · show Q_rm_term Z p0 p1 p2 p3 h0 n0 _ s₁.heap _
          rw [e0]
          exact ⟨(congrArg (fun z => some (Value.int z)) (own_t0c c6).symm), N0, rfl⟩
    · have S9 : ∀ t, Steps p.tables e below (s₁.setTop (mkF m 17 #[.val (.int p0), .val (.int p1), .val (.int p2), .val (.int p3)] [(.int (0 : Int32))])) t → Steps p.tables e below (s₁.setTop (mkF m 0 #[.val (.int p0), .val (.int p1), .val (.int p2), .val (.int p3)] [])) t := by
        intro t kt
        refine S3 t ?_
        refine XS.icmpYes X0.here hx rfl (pc0 := 7) (pc' := 16) rfl (hb hby d13_7) rfl (flt (c4 : ¬ (p0 < p2))).2.2.2 (by decide) (by decide) ?_
        refine XS.iconst X0.here hx rfl (hb hby d13_16) ?_
        exact kt
      obtain ⟨fs, hr, hrun, hended, hW, hsame⟩ := X0.leave (v := some (.int (0 : Int32))) (fun h => by rw [Bd.returns] at h; cases h)
      refine ⟨_, _, pre0 _ (S9 _ ?_), hrun, hended, _, _, rfl, ?_, ⟨_, rfl⟩, hW, hsame.mono (by decide) (by decide)⟩
      · exact retOut X0 hx Bd.returns rfl (Or.inl ⟨rfl, Or.inl rfl, _, rfl⟩) (hb hby d13_17) hr
      · show Q_rm_term Z p0 p1 p2 p3 h0 n0 _ s₁.heap _
        rw [e0]
        exact ⟨(congrArg (fun z => some (Value.int z)) (own_t0b c4).symm), N0, rfl⟩
  · have S10 : ∀ t, Steps p.tables e below (s₁.setTop (mkF m 17 #[.val (.int p0), .val (.int p1), .val (.int p2), .val (.int p3)] [(.int (0 : Int32))])) t → Steps p.tables e below (s₁.setTop (mkF m 0 #[.val (.int p0), .val (.int p1), .val (.int p2), .val (.int p3)] [])) t := by
      intro t kt
      refine S1 t ?_
      refine XS.icmpYes X0.here hx rfl (pc0 := 2) (pc' := 16) rfl (hb hby d13_2) rfl (flt (c2 : ¬ (p0 < p1))).2.1 (by decide) (by decide) ?_
      refine XS.iconst X0.here hx rfl (hb hby d13_16) ?_
      exact kt
    obtain ⟨fs, hr, hrun, hended, hW, hsame⟩ := X0.leave (v := some (.int (0 : Int32))) (fun h => by rw [Bd.returns] at h; cases h)
    refine ⟨_, _, pre0 _ (S10 _ ?_), hrun, hended, _, _, rfl, ?_, ⟨_, rfl⟩, hW, hsame.mono (by decide) (by decide)⟩
    · exact retOut X0 hx Bd.returns rfl (Or.inl ⟨rfl, Or.inl rfl, _, rfl⟩) (hb hby d13_17) hr
    · show Q_rm_term Z p0 p1 p2 p3 h0 n0 _ s₁.heap _
      rw [e0]
      exact ⟨(congrArg (fun z => some (Value.int z)) (own_t0a c2).symm), N0, rfl⟩
theorem d14_0 : decode jdk_29_method_69_code 0 = .ok (.iload_n 0, 1) := by decide +kernel
theorem d14_1 : decode jdk_29_method_69_code 1 = .ok (.iload_n 1, 1) := by decide +kernel
theorem d14_2 : decode jdk_29_method_69_code 2 = .ok (.if_icmp .gt 7, 3) := by decide +kernel
theorem d14_9 : decode jdk_29_method_69_code 9 = .ok (.iload_n 1, 1) := by decide +kernel
theorem d14_10 : decode jdk_29_method_69_code 10 = .ok (.ireturn, 1) := by decide +kernel
theorem d14_5 : decode jdk_29_method_69_code 5 = .ok (.iload_n 0, 1) := by decide +kernel
theorem d14_6 : decode jdk_29_method_69_code 6 = .ok (.goto 4, 3) := by decide +kernel
theorem ef_rm_min (m : MethodId) (x0 : Int32) (x1 : Int32) : entryFrame m #[(.int x0), (.int x1)] 2 = mkF m 0 #[.val (.int x0), .val (.int x1)] [] := by first | (simp [entryFrame, mkF, argsToLocals, Value.category]; done) | rfl
def Q_rm_min (Z : State) (a' : Int32) (b : Int32) (h0 : Heap) (n0 : Nat) (v : Option Value) (h : Heap) (L : List Loc) : Prop := ((b < a') ∧ (v = some (.int b)) ∧ (Fr n0 L) ∧ (h = h0)) ∨ ((¬ (b < a')) ∧ (v = some (.int a')) ∧ (Fr n0 L) ∧ (h = h0))
set_option maxRecDepth 65536 in
set_option maxHeartbeats 40000000 in
theorem rm_min (l : Launch) (Z : State) (a0 : Array Value) (hw : ∀ d ∈ tables_1, d.before a0 Z = true) (ws : List Jvm.Cond) (a' : Int32) (b : Int32) (h0 : Heap) (n0 : Nat) (O0 : Old Z n0 h0) :
    MetFree l (⟨"java/lang/Math", "min", "(II)I"⟩ : MethodName) (head1 (Jvm.Cond.code (⟨"java/lang/Math", "min", "(II)I"⟩ : MethodName) jdk_29_method_69_code 2 (some .int) :: ws) ({ frames := 0, cells := 0, slots := 0, locals := 0 } : Room)) (fun a U => a = #[(.int a'), (.int b)] ∧ Z.Warmed39 U.vm ∧ U.heap = h0) (fun _ _ _ _ _ => True) (fun _ U o U' => ∃ v L, o = .returned v ∧ Q_rm_min Z a' b h0 n0 v U'.heap L ∧ FrameEnd U o U' L ({ frames := 0, cells := 0, slots := 0, locals := 0 } : Room).cells ({ frames := 0, cells := 0, slots := 0, locals := 0 } : Room).slots) := by
  refine MetFree.of_bodySF (Jvm.Free.JP.mathPlain rfl (by decide +kernel)) hisR ?_
  intro p e s m args below meth c s₁ Bd hml0 hP hK
  obtain ⟨rfl, hZ, hh⟩ := hP
  have hx := Bd.exec
  have hby := Bd.bytes
  have hml : c.maxLocals = 2 := hml0
  have hown : s.vm.findClass "java/lang/Math" = some m.cls := findClass_of_methodNamed Bd.named
  have hnm := (name_of_methodNamed Bd.named Bd.method).1
  have X0 : Stand p l e ({ frames := 0, cells := 0, slots := 0, locals := 0 } : Room) s m #[(.int a'), (.int b)] below meth c s₁ [] 0 0 := Stand.of_body Bd
  have e0 : s₁.heap = h0 := by rw [← hh, Bd.state]; rfl
  have N0 := Fr.nil n0
  have pre0 : ∀ t, Steps p.tables e below (s₁.setTop (mkF m 0 #[.val (.int a'), .val (.int b)] [])) t → Steps p.tables e below (s₁.setTop (entryFrame m #[(.int a'), (.int b)] 2)) t := fun t k => castTop (ef_rm_min m a' b) k
  have S1 : ∀ t, Steps p.tables e below (s₁.setTop (mkF m 2 #[.val (.int a'), .val (.int b)] [(.int b), (.int a')])) t → Steps p.tables e below (s₁.setTop (mkF m 0 #[.val (.int a'), .val (.int b)] [])) t := by
    intro t kt
    refine XS.iloadN X0.here hx rfl (hb hby d14_0) rfl ?_
    refine XS.iloadN X0.here hx rfl (hb hby d14_1) rfl ?_
    exact kt
  rcases Decidable.em (b < a') with c2 | c2
  · have S3 : ∀ t, Steps p.tables e below (s₁.setTop (mkF m 10 #[.val (.int a'), .val (.int b)] [(.int b)])) t → Steps p.tables e below (s₁.setTop (mkF m 0 #[.val (.int a'), .val (.int b)] [])) t := by
      intro t kt
      refine S1 t ?_
      refine XS.icmpYes X0.here hx rfl (pc0 := 2) (pc' := 9) rfl (hb hby d14_2) rfl (tlt (c2 : b < a')).2.2.1 (by decide) (by decide) ?_
      refine XS.iloadN X0.here hx rfl (hb hby d14_9) rfl ?_
      exact kt
    obtain ⟨fs, hr, hrun, hended, hW, hsame⟩ := X0.leave (v := some (.int b)) (fun h => by rw [Bd.returns] at h; cases h)
    refine ⟨_, _, pre0 _ (S3 _ ?_), hrun, hended, _, _, rfl, ?_, ⟨_, rfl⟩, hW, hsame.mono (by decide) (by decide)⟩
    · exact retOut X0 hx Bd.returns rfl (Or.inl ⟨rfl, Or.inl rfl, _, rfl⟩) (hb hby d14_10) hr
    · show Q_rm_min Z a' b h0 n0 _ s₁.heap _
      rw [e0]
      exact Or.inl ⟨c2, rfl, N0, rfl⟩
  · have S4 : ∀ t, Steps p.tables e below (s₁.setTop (mkF m 10 #[.val (.int a'), .val (.int b)] [(.int a')])) t → Steps p.tables e below (s₁.setTop (mkF m 0 #[.val (.int a'), .val (.int b)] [])) t := by
      intro t kt
      refine S1 t ?_
      refine XS.icmpNo X0.here hx rfl (hb hby d14_2) rfl (flt (c2 : ¬ (b < a'))).2.2.1 ?_
      refine XS.iloadN X0.here hx rfl (hb hby d14_5) rfl ?_
      refine XS.goto X0.here hx rfl (pc0 := 6) (pc' := 10) rfl (hb hby d14_6) (by decide) (by decide) ?_
      exact kt
    obtain ⟨fs, hr, hrun, hended, hW, hsame⟩ := X0.leave (v := some (.int a')) (fun h => by rw [Bd.returns] at h; cases h)
    refine ⟨_, _, pre0 _ (S4 _ ?_), hrun, hended, _, _, rfl, ?_, ⟨_, rfl⟩, hW, hsame.mono (by decide) (by decide)⟩
    · exact retOut X0 hx Bd.returns rfl (Or.inl ⟨rfl, Or.inl rfl, _, rfl⟩) (hb hby d14_10) hr
    · show Q_rm_min Z a' b h0 n0 _ s₁.heap _
      rw [e0]
      exact Or.inr (⟨c2, rfl, N0, rfl⟩)
theorem d15_0 : decode prog_14_method_5_code 0 = .ok (.iconst 0, 1) := by decide +kernel
theorem d15_1 : decode prog_14_method_5_code 1 = .ok (.istore_n 2, 1) := by decide +kernel
theorem d15_2 : decode prog_14_method_5_code 2 = .ok (.iconst 1, 1) := by decide +kernel
theorem d15_3 : decode prog_14_method_5_code 3 = .ok (.istore_n 3, 1) := by decide +kernel
theorem d15_4 : decode prog_14_method_5_code 4 = .ok (.iload_n 3, 1) := by decide +kernel
theorem d15_5 : decode prog_14_method_5_code 5 = .ok (.iload_n 1, 1) := by decide +kernel
theorem d15_6 : decode prog_14_method_5_code 6 = .ok (.aload_n 0, 1) := by decide +kernel
theorem d15_7 : decode prog_14_method_5_code 7 = .ok (.getfield 38, 3) := by decide +kernel
theorem d15_10 : decode prog_14_method_5_code 10 = .ok (.arraylength, 1) := by decide +kernel
theorem d15_11 : decode prog_14_method_5_code 11 = .ok (.invokestatic 51, 3) := by decide +kernel
theorem pd_9 : parseMethodDescriptor "(II)I" = some ⟨[.int, .int], some .int⟩ := by decide +kernel
theorem d15_14 : decode prog_14_method_5_code 14 = .ok (.if_icmp .gt 20, 3) := by decide +kernel
theorem d15_34 : decode prog_14_method_5_code 34 = .ok (.iload_n 2, 1) := by decide +kernel
theorem d15_35 : decode prog_14_method_5_code 35 = .ok (.ireturn, 1) := by decide +kernel
theorem ef_rm_top0 (m : MethodId) (x0 : Addr) (x1 : Int32) : entryFrame m #[(.ref x0), (.int x1)] 4 = mkF m 0 #[.val (.ref x0), .val (.int x1), .unset, .unset] [] := by first | (simp [entryFrame, mkF, argsToLocals, Value.category]; done) | rfl
def Q_rm_top0 (Z : State) (t' : Addr) (cut : Int32) (r : Addr) (k' : ClassId) (h0 : Heap) (n0 : Nat) (v : Option Value) (h : Heap) (L : List Loc) : Prop := ((v = some (.int (0 : Int32))) ∧ (Fr n0 L) ∧ (h = h0))
set_option maxRecDepth 65536 in
set_option maxHeartbeats 40000000 in
theorem rm_top0 (l : Launch) (Z : State) (a0 : Array Value) (hw : ∀ d ∈ tables_1, d.before a0 Z = true) (ws : List Jvm.Cond) (t' : Addr) (cut : Int32) (r : Addr) (k' : ClassId) (h0 : Heap) (n0 : Nat) (O0 : Old Z n0 h0) (E_t : Exa Z h0 t' "com/example/favonius/favonius/eval/TopicRanking") (F_r : Fld Z h0 t' "com/example/favonius/favonius/eval/TopicRanking" "retrieved" "[I" (.ref r)) (A_r : Arv Z h0 r k' .int (0 : Int32) [] (.int (0 : Int32))) :
    MetFree l (⟨"com/example/favonius/favonius/eval/TopicRanking", "relevantInTop", "(I)I"⟩ : MethodName) (head1 (Jvm.Cond.code (⟨"com/example/favonius/favonius/eval/TopicRanking", "relevantInTop", "(I)I"⟩ : MethodName) prog_14_method_5_code 4 (some .int) :: ws) ({ frames := 1, cells := 0, slots := 0, locals := 14 } : Room)) (fun a U => a = #[(.ref t'), (.int cut)] ∧ Z.Warmed39 U.vm ∧ U.heap = h0) (fun _ _ _ _ _ => True) (fun _ U o U' => ∃ v L, o = .returned v ∧ Q_rm_top0 Z t' cut r k' h0 n0 v U'.heap L ∧ FrameEnd U o U' L ({ frames := 1, cells := 0, slots := 0, locals := 14 } : Room).cells ({ frames := 1, cells := 0, slots := 0, locals := 14 } : Room).slots) := by
  refine MetFree.of_bodySF (plainFor_of_name pn_7) hisR ?_
  intro p e s m args below meth c s₁ Bd hml0 hP hK
  obtain ⟨rfl, hZ, hh⟩ := hP
  have hx := Bd.exec
  have hby := Bd.bytes
  have hml : c.maxLocals = 4 := hml0
  have hown : s.vm.findClass "com/example/favonius/favonius/eval/TopicRanking" = some m.cls := findClass_of_methodNamed Bd.named
  have hnm := (name_of_methodNamed Bd.named Bd.method).1
  have X0 : Stand p l e ({ frames := 1, cells := 0, slots := 0, locals := 14 } : Room) s m #[(.ref t'), (.int cut)] below meth c s₁ [] 0 0 := Stand.of_body Bd
  have e0 : s₁.heap = h0 := by rw [← hh, Bd.state]; rfl
  have N0 := Fr.nil n0
  have pre0 : ∀ t, Steps p.tables e below (s₁.setTop (mkF m 0 #[.val (.ref t'), .val (.int cut), .unset, .unset] [])) t → Steps p.tables e below (s₁.setTop (entryFrame m #[(.ref t'), (.int cut)] 4)) t := fun t k => castTop (ef_rm_top0 m t' cut) k
  obtain ⟨T1, X1, e1, st1⟩ := getF X0 hx hZ hown (host := "") (Or.inl (own_w hw 100 rfl)) Via.refl e0 F_r (g := (mkF m 7 #[.val (.ref t'), .val (.int cut), .val (.int (0 : Int32)), .val (.int (1 : Int32))] [(.ref t'), (.int cut), (.int (1 : Int32))])) rfl rfl (hb hby d15_7)
  obtain ⟨cl2, Ar2, -, Sz2, Nn2, -, -⟩ := id A_r
  obtain ⟨_, _, ⟨T3, L3, k3, n3⟩, -, X3, ⟨Lc3, hQ3, l3, y3, z3⟩, st3⟩ := Jvm.LawKit.callS X1 hx (y := (⟨"java/lang/Math", "min", "(II)I"⟩ : MethodName)) hown (mvT hZ (own_w hw 114 rfl)) (mvT hZ (own_w hw 115 rfl)) (mvT hZ (own_w hw 116 rfl)) (mvT hZ (own_w hw 117 rfl)) (by decide) (backOf (W := 1) (rm_min l Z a0 hw [] cut (0 : Int32) h0 n0 O0 ) hZ (own_w hw 117 rfl) (own_w hw 116 rfl) (by decide) (by decide)) (g := (mkF m 11 #[.val (.ref t'), .val (.int cut), .val (.int (0 : Int32)), .val (.int (1 : Int32))] [(.int (0 : Int32)), (.int cut), (.int (1 : Int32))])) rfl (by rw [hml]; rfl) (argsL := [(.int cut), (.int (0 : Int32))]) (rest := [(.int (1 : Int32))]) (lenOf pd_9 rfl) rfl (by show 2 * 0 + _ ≤ _; exact Nat.le_of_eq rfl) (hb hby d15_11) (fun _ _ => ⟨rfl, e1, (by decide : 0 + 0 ≤ _), (by decide : 0 + 0 ≤ _)⟩)
  dsimp only [Pt.U, Pt.locs, Pt.cells, Pt.slots] at X3 l3 y3 z3 st3 hQ3
  subst l3 y3 z3
  rcases hQ3 with ⟨c4, rfl, N5, k6⟩ | ⟨c7, rfl, N8, k9⟩
  · have N10 := Fr.app N0 N5
    have S11 : ∀ t, Steps p.tables e below (T3.setTop (mkF m 35 #[.val (.ref t'), .val (.int cut), .val (.int (0 : Int32)), .val (.int (1 : Int32))] [(.int (0 : Int32))])) t → Steps p.tables e below (s₁.setTop (mkF m 0 #[.val (.ref t'), .val (.int cut), .unset, .unset] [])) t := by
      intro t kt
      refine XS.iconst X0.here hx rfl (hb hby d15_0) ?_
      refine XS.istoreN X0.here hx rfl (hb hby d15_1) rfl (l' := #[.val (.ref t'), .val (.int cut), .val (.int (0 : Int32)), .unset]) rfl ?_
      refine XS.iconst X0.here hx rfl (hb hby d15_2) ?_
      refine XS.istoreN X0.here hx rfl (hb hby d15_3) rfl (l' := #[.val (.ref t'), .val (.int cut), .val (.int (0 : Int32)), .val (.int (1 : Int32))]) rfl ?_
      refine XS.iloadN X0.here hx rfl (hb hby d15_4) rfl ?_
      refine XS.iloadN X0.here hx rfl (hb hby d15_5) rfl ?_
      show Steps p.tables e below (s₁.setTop (mkF m 6 #[.val (.ref t'), .val (.int cut), .val (.int (0 : Int32)), .val (.int (1 : Int32))] [(.int cut), (.int (1 : Int32))])) _
      refine XS.aloadN X0.here hx rfl (hb hby d15_6) rfl rfl ?_
      show Steps p.tables e below (s₁.setTop (mkF m 7 #[.val (.ref t'), .val (.int cut), .val (.int (0 : Int32)), .val (.int (1 : Int32))] [(.ref t'), (.int cut), (.int (1 : Int32))])) _
      refine st1 _ ?_
      show Steps p.tables e below (T1.setTop (mkF m 10 #[.val (.ref t'), .val (.int cut), .val (.int (0 : Int32)), .val (.int (1 : Int32))] [(.ref r), (.int cut), (.int (1 : Int32))])) _
      refine X1.arraylength hx (by rw [e1]; exact Ar2.1) (State.isArrayOf_alike hZ.alike Ar2.2.1) (g := (mkF m 10 #[.val (.ref t'), .val (.int cut), .val (.int (0 : Int32)), .val (.int (1 : Int32))] [(.ref r), (.int cut), (.int (1 : Int32))])) rfl rfl (hb hby d15_10) _ ?_
      rw [len_of Sz2 Nn2]
      show Steps p.tables e below (T1.setTop (mkF m 11 #[.val (.ref t'), .val (.int cut), .val (.int (0 : Int32)), .val (.int (1 : Int32))] [(.int (0 : Int32)), (.int cut), (.int (1 : Int32))])) _
      refine st3 _ ?_
      refine XS.icmpYes X3.here hx rfl (pc0 := 14) (pc' := 34) rfl (hb hby d15_14) rfl (tlt ((by decide) : (0 : Int32) < (1 : Int32))).2.2.1 (by decide) (by decide) ?_
      refine XS.iloadN X3.here hx rfl (hb hby d15_34) rfl ?_
      exact kt
    obtain ⟨fs, hr, hrun, hended, hW, hsame⟩ := X3.leave (v := some (.int (0 : Int32))) (fun h => by rw [Bd.returns] at h; cases h)
    refine ⟨_, _, pre0 _ (S11 _ ?_), hrun, hended, _, _, rfl, ?_, ⟨_, rfl⟩, hW, hsame.mono (by decide) (by decide)⟩
    · exact retOut X3 hx Bd.returns rfl (Or.inl ⟨rfl, Or.inl rfl, _, rfl⟩) (hb hby d15_35) hr
    · show Q_rm_top0 Z t' cut r k' h0 n0 _ T3.heap _
      rw [k6]
      exact ⟨rfl, N10, rfl⟩
  · have N12 := Fr.app N0 N8
    have S13 : ∀ t, Steps p.tables e below (T3.setTop (mkF m 35 #[.val (.ref t'), .val (.int cut), .val (.int (0 : Int32)), .val (.int (1 : Int32))] [(.int (0 : Int32))])) t → Steps p.tables e below (s₁.setTop (mkF m 0 #[.val (.ref t'), .val (.int cut), .unset, .unset] [])) t := by
      intro t kt
      refine XS.iconst X0.here hx rfl (hb hby d15_0) ?_
      refine XS.istoreN X0.here hx rfl (hb hby d15_1) rfl (l' := #[.val (.ref t'), .val (.int cut), .val (.int (0 : Int32)), .unset]) rfl ?_
      refine XS.iconst X0.here hx rfl (hb hby d15_2) ?_
      refine XS.istoreN X0.here hx rfl (hb hby d15_3) rfl (l' := #[.val (.ref t'), .val (.int cut), .val (.int (0 : Int32)), .val (.int (1 : Int32))]) rfl ?_
      refine XS.iloadN X0.here hx rfl (hb hby d15_4) rfl ?_
      refine XS.iloadN X0.here hx rfl (hb hby d15_5) rfl ?_
      show Steps p.tables e below (s₁.setTop (mkF m 6 #[.val (.ref t'), .val (.int cut), .val (.int (0 : Int32)), .val (.int (1 : Int32))] [(.int cut), (.int (1 : Int32))])) _
      refine XS.aloadN X0.here hx rfl (hb hby d15_6) rfl rfl ?_
      show Steps p.tables e below (s₁.setTop (mkF m 7 #[.val (.ref t'), .val (.int cut), .val (.int (0 : Int32)), .val (.int (1 : Int32))] [(.ref t'), (.int cut), (.int (1 : Int32))])) _
      refine st1 _ ?_
      show Steps p.tables e below (T1.setTop (mkF m 10 #[.val (.ref t'), .val (.int cut), .val (.int (0 : Int32)), .val (.int (1 : Int32))] [(.ref r), (.int cut), (.int (1 : Int32))])) _
      refine X1.arraylength hx (by rw [e1]; exact Ar2.1) (State.isArrayOf_alike hZ.alike Ar2.2.1) (g := (mkF m 10 #[.val (.ref t'), .val (.int cut), .val (.int (0 : Int32)), .val (.int (1 : Int32))] [(.ref r), (.int cut), (.int (1 : Int32))])) rfl rfl (hb hby d15_10) _ ?_
      rw [len_of Sz2 Nn2]
      show Steps p.tables e below (T1.setTop (mkF m 11 #[.val (.ref t'), .val (.int cut), .val (.int (0 : Int32)), .val (.int (1 : Int32))] [(.int (0 : Int32)), (.int cut), (.int (1 : Int32))])) _
      refine st3 _ ?_
      refine XS.icmpYes X3.here hx rfl (pc0 := 14) (pc' := 34) rfl (hb hby d15_14) rfl (tlt ((own_b7 c7 (by decide)) : cut < (1 : Int32))).2.2.1 (by decide) (by decide) ?_
      refine XS.iloadN X3.here hx rfl (hb hby d15_34) rfl ?_
      exact kt
    obtain ⟨fs, hr, hrun, hended, hW, hsame⟩ := X3.leave (v := some (.int (0 : Int32))) (fun h => by rw [Bd.returns] at h; cases h)
    refine ⟨_, _, pre0 _ (S13 _ ?_), hrun, hended, _, _, rfl, ?_, ⟨_, rfl⟩, hW, hsame.mono (by decide) (by decide)⟩
    · exact retOut X3 hx Bd.returns rfl (Or.inl ⟨rfl, Or.inl rfl, _, rfl⟩) (hb hby d15_35) hr
    · show Q_rm_top0 Z t' cut r k' h0 n0 _ T3.heap _
      rw [k9]
      exact ⟨rfl, N12, rfl⟩
theorem d16_0 : decode prog_14_method_3_code 0 = .ok (.aload_n 0, 1) := by decide +kernel
theorem d16_1 : decode prog_14_method_3_code 1 = .ok (.getfield 38, 3) := by decide +kernel
theorem d16_4 : decode prog_14_method_3_code 4 = .ok (.iload_n 1, 1) := by decide +kernel
theorem d16_5 : decode prog_14_method_3_code 5 = .ok (.iconst 1, 1) := by decide +kernel
theorem d16_6 : decode prog_14_method_3_code 6 = .ok (.isub, 1) := by decide +kernel
theorem d16_7 : decode prog_14_method_3_code 7 = .ok (.iaload, 1) := by decide +kernel
theorem d16_8 : decode prog_14_method_3_code 8 = .ok (.ireturn, 1) := by decide +kernel
theorem ef_rm_grade1_1 (m : MethodId) (x0 : Addr) (x1 : Int32) : entryFrame m #[(.ref x0), (.int x1)] 2 = mkF m 0 #[.val (.ref x0), .val (.int x1)] [] := by first | (simp [entryFrame, mkF, argsToLocals, Value.category]; done) | rfl
def Q_rm_grade1_1 (Z : State) (t' : Addr) (r : Addr) (k' : ClassId) (ga : Int32) (h0 : Heap) (n0 : Nat) (v : Option Value) (h : Heap) (L : List Loc) : Prop := ((v = some (.int ga)) ∧ (Fr n0 L) ∧ (h = h0))
set_option maxRecDepth 65536 in
set_option maxHeartbeats 40000000 in
theorem rm_grade1_1 (l : Launch) (Z : State) (a0 : Array Value) (hw : ∀ d ∈ tables_1, d.before a0 Z = true) (ws : List Jvm.Cond) (t' : Addr) (r : Addr) (k' : ClassId) (ga : Int32) (h0 : Heap) (n0 : Nat) (O0 : Old Z n0 h0) (F_r : Fld Z h0 t' "com/example/favonius/favonius/eval/TopicRanking" "retrieved" "[I" (.ref r)) (A_r : Arv Z h0 r k' .int (1 : Int32) [(.int ga)] (.int (0 : Int32))) :
    MetFree l (⟨"com/example/favonius/favonius/eval/TopicRanking", "gradeAt", "(I)I"⟩ : MethodName) (head1 (Jvm.Cond.code (⟨"com/example/favonius/favonius/eval/TopicRanking", "gradeAt", "(I)I"⟩ : MethodName) prog_14_method_3_code 2 (some .int) :: ws) ({ frames := 0, cells := 0, slots := 0, locals := 0 } : Room)) (fun a U => a = #[(.ref t'), (.int (1 : Int32))] ∧ Z.Warmed39 U.vm ∧ U.heap = h0) (fun _ _ _ _ _ => True) (fun _ U o U' => ∃ v L, o = .returned v ∧ Q_rm_grade1_1 Z t' r k' ga h0 n0 v U'.heap L ∧ FrameEnd U o U' L ({ frames := 0, cells := 0, slots := 0, locals := 0 } : Room).cells ({ frames := 0, cells := 0, slots := 0, locals := 0 } : Room).slots) := by
  refine MetFree.of_bodySF (plainFor_of_name pn_7) hisR ?_
  intro p e s m args below meth c s₁ Bd hml0 hP hK
  obtain ⟨rfl, hZ, hh⟩ := hP
  have hx := Bd.exec
  have hby := Bd.bytes
  have hml : c.maxLocals = 2 := hml0
  have hown : s.vm.findClass "com/example/favonius/favonius/eval/TopicRanking" = some m.cls := findClass_of_methodNamed Bd.named
  have hnm := (name_of_methodNamed Bd.named Bd.method).1
  have X0 : Stand p l e ({ frames := 0, cells := 0, slots := 0, locals := 0 } : Room) s m #[(.ref t'), (.int (1 : Int32))] below meth c s₁ [] 0 0 := Stand.of_body Bd
  have e0 : s₁.heap = h0 := by rw [← hh, Bd.state]; rfl
  have N0 := Fr.nil n0
  have pre0 : ∀ t, Steps p.tables e below (s₁.setTop (mkF m 0 #[.val (.ref t'), .val (.int (1 : Int32))] [])) t → Steps p.tables e below (s₁.setTop (entryFrame m #[(.ref t'), (.int (1 : Int32))] 2)) t := fun t k => castTop (ef_rm_grade1_1 m t' (1 : Int32)) k
  obtain ⟨T1, X1, e1, st1⟩ := getF X0 hx hZ hown (host := "") (Or.inl (own_w hw 100 rfl)) Via.refl e0 F_r (g := (mkF m 1 #[.val (.ref t'), .val (.int (1 : Int32))] [(.ref t')])) rfl rfl (hb hby d16_1)
  obtain ⟨cl2, Ar2, q2, Sz2, Nn2, Hh2, Gg2⟩ := id A_r
  have in2 : ¬ ((0 : Int32) < 0 ∨ cl2.slots.size ≤ ((0 : Int32)).toNatClampNeg) := by exact inb_of Sz2 ⟨by decide, by decide⟩
  have at2 : cl2.slots[((0 : Int32)).toNatClampNeg]? = some (.int ga) := by
    refine Has.at Hh2 in2 ?_
    rfl
  have S3 : ∀ t, Steps p.tables e below (T1.setTop (mkF m 8 #[.val (.ref t'), .val (.int (1 : Int32))] [(.int ga)])) t → Steps p.tables e below (s₁.setTop (mkF m 0 #[.val (.ref t'), .val (.int (1 : Int32))] [])) t := by
    intro t kt
    refine XS.aloadN X0.here hx rfl (hb hby d16_0) rfl rfl ?_
    show Steps p.tables e below (s₁.setTop (mkF m 1 #[.val (.ref t'), .val (.int (1 : Int32))] [(.ref t')])) _
    refine st1 _ ?_
    refine XS.iloadN X1.here hx rfl (hb hby d16_4) rfl ?_
    refine XS.iconst X1.here hx rfl (hb hby d16_5) ?_
    refine XS.isub X1.here hx rfl (hb hby d16_6) rfl ?_
    show Steps p.tables e below (T1.setTop (mkF m 7 #[.val (.ref t'), .val (.int (1 : Int32))] [(.int (0 : Int32)), (.ref r)])) _
    refine X1.iaload hx (j := (0 : Int32)) (v := (.int ga)) (by rw [e1]; exact Ar2.1) (State.isArrayOf_alike hZ.alike Ar2.2.1) Ar2.2.2 in2 at2 (g := (mkF m 7 #[.val (.ref t'), .val (.int (1 : Int32))] [(.int (0 : Int32)), (.ref r)])) rfl rfl (hb hby d16_7) _ ?_
    exact kt
  obtain ⟨fs, hr, hrun, hended, hW, hsame⟩ := X1.leave (v := some (.int ga)) (fun h => by rw [Bd.returns] at h; cases h)
  refine ⟨_, _, pre0 _ (S3 _ ?_), hrun, hended, _, _, rfl, ?_, ⟨_, rfl⟩, hW, hsame.mono (by decide) (by decide)⟩
  · exact retOut X1 hx Bd.returns rfl (Or.inl ⟨rfl, Or.inl rfl, _, rfl⟩) (hb hby d16_8) hr
  · show Q_rm_grade1_1 Z t' r k' ga h0 n0 _ T1.heap _
    rw [e1]
    exact ⟨rfl, N0, rfl⟩
theorem d15_17 : decode prog_14_method_5_code 17 = .ok (.aload_n 0, 1) := by decide +kernel
theorem d15_18 : decode prog_14_method_5_code 18 = .ok (.iload_n 3, 1) := by decide +kernel
theorem d15_19 : decode prog_14_method_5_code 19 = .ok (.invokevirtual 57, 3) := by decide +kernel
theorem pd_10 : parseMethodDescriptor "(I)I" = some ⟨[.int], some .int⟩ := by decide +kernel
theorem d15_22 : decode prog_14_method_5_code 22 = .ok (.ifCond .le 6, 3) := by decide +kernel
theorem d15_25 : decode prog_14_method_5_code 25 = .ok (.iinc 2 1, 3) := by decide +kernel
theorem d15_28 : decode prog_14_method_5_code 28 = .ok (.iinc 3 1, 3) := by decide +kernel
theorem d15_31 : decode prog_14_method_5_code 31 = .ok (.goto (-27), 3) := by decide +kernel
theorem ef_rm_top1 (m : MethodId) (x0 : Addr) (x1 : Int32) : entryFrame m #[(.ref x0), (.int x1)] 4 = mkF m 0 #[.val (.ref x0), .val (.int x1), .unset, .unset] [] := by first | (simp [entryFrame, mkF, argsToLocals, Value.category]; done) | rfl
def Q_rm_top1 (Z : State) (t' : Addr) (cut : Int32) (r : Addr) (k' : ClassId) (ga : Int32) (h0 : Heap) (n0 : Nat) (v : Option Value) (h : Heap) (L : List Loc) : Prop := ((v = some (.int (own_t (0 : Int32) (1 : Int32) cut ga))) ∧ (Fr n0 L) ∧ (h = h0))
set_option maxRecDepth 65536 in
set_option maxHeartbeats 40000000 in
theorem rm_top1 (l : Launch) (Z : State) (a0 : Array Value) (hw : ∀ d ∈ tables_1, d.before a0 Z = true) (ws : List Jvm.Cond) (t' : Addr) (cut : Int32) (r : Addr) (k' : ClassId) (ga : Int32) (h0 : Heap) (n0 : Nat) (O0 : Old Z n0 h0) (E_t : Exa Z h0 t' "com/example/favonius/favonius/eval/TopicRanking") (F_r : Fld Z h0 t' "com/example/favonius/favonius/eval/TopicRanking" "retrieved" "[I" (.ref r)) (A_r : Arv Z h0 r k' .int (1 : Int32) [(.int ga)] (.int (0 : Int32))) :
    MetFree l (⟨"com/example/favonius/favonius/eval/TopicRanking", "relevantInTop", "(I)I"⟩ : MethodName) (head1 (Jvm.Cond.code (⟨"com/example/favonius/favonius/eval/TopicRanking", "relevantInTop", "(I)I"⟩ : MethodName) prog_14_method_5_code 4 (some .int) :: ws) ({ frames := 1, cells := 0, slots := 0, locals := 14 } : Room)) (fun a U => a = #[(.ref t'), (.int cut)] ∧ Z.Warmed39 U.vm ∧ U.heap = h0) (fun _ _ _ _ _ => True) (fun _ U o U' => ∃ v L, o = .returned v ∧ Q_rm_top1 Z t' cut r k' ga h0 n0 v U'.heap L ∧ FrameEnd U o U' L ({ frames := 1, cells := 0, slots := 0, locals := 14 } : Room).cells ({ frames := 1, cells := 0, slots := 0, locals := 14 } : Room).slots) := by
  refine MetFree.of_bodySF (plainFor_of_name pn_7) hisR ?_
  intro p e s m args below meth c s₁ Bd hml0 hP hK
  obtain ⟨rfl, hZ, hh⟩ := hP
  have hx := Bd.exec
  have hby := Bd.bytes
  have hml : c.maxLocals = 4 := hml0
  have hown : s.vm.findClass "com/example/favonius/favonius/eval/TopicRanking" = some m.cls := findClass_of_methodNamed Bd.named
  have hnm := (name_of_methodNamed Bd.named Bd.method).1
  have X0 : Stand p l e ({ frames := 1, cells := 0, slots := 0, locals := 14 } : Room) s m #[(.ref t'), (.int cut)] below meth c s₁ [] 0 0 := Stand.of_body Bd
  have e0 : s₁.heap = h0 := by rw [← hh, Bd.state]; rfl
  have N0 := Fr.nil n0
  have pre0 : ∀ t, Steps p.tables e below (s₁.setTop (mkF m 0 #[.val (.ref t'), .val (.int cut), .unset, .unset] [])) t → Steps p.tables e below (s₁.setTop (entryFrame m #[(.ref t'), (.int cut)] 4)) t := fun t k => castTop (ef_rm_top1 m t' cut) k
  obtain ⟨T1, X1, e1, st1⟩ := getF X0 hx hZ hown (host := "") (Or.inl (own_w hw 100 rfl)) Via.refl e0 F_r (g := (mkF m 7 #[.val (.ref t'), .val (.int cut), .val (.int (0 : Int32)), .val (.int (1 : Int32))] [(.ref t'), (.int cut), (.int (1 : Int32))])) rfl rfl (hb hby d15_7)
  obtain ⟨cl2, Ar2, -, Sz2, Nn2, -, -⟩ := id A_r
  obtain ⟨_, _, ⟨T3, L3, k3, n3⟩, -, X3, ⟨Lc3, hQ3, l3, y3, z3⟩, st3⟩ := Jvm.LawKit.callS X1 hx (y := (⟨"java/lang/Math", "min", "(II)I"⟩ : MethodName)) hown (mvT hZ (own_w hw 114 rfl)) (mvT hZ (own_w hw 115 rfl)) (mvT hZ (own_w hw 116 rfl)) (mvT hZ (own_w hw 117 rfl)) (by decide) (backOf (W := 1) (rm_min l Z a0 hw [] cut (1 : Int32) h0 n0 O0 ) hZ (own_w hw 117 rfl) (own_w hw 116 rfl) (by decide) (by decide)) (g := (mkF m 11 #[.val (.ref t'), .val (.int cut), .val (.int (0 : Int32)), .val (.int (1 : Int32))] [(.int (1 : Int32)), (.int cut), (.int (1 : Int32))])) rfl (by rw [hml]; rfl) (argsL := [(.int cut), (.int (1 : Int32))]) (rest := [(.int (1 : Int32))]) (lenOf pd_9 rfl) rfl (by show 2 * 0 + _ ≤ _; exact Nat.le_of_eq rfl) (hb hby d15_11) (fun _ _ => ⟨rfl, e1, (by decide : 0 + 0 ≤ _), (by decide : 0 + 0 ≤ _)⟩)
  dsimp only [Pt.U, Pt.locs, Pt.cells, Pt.slots] at X3 l3 y3 z3 st3 hQ3
  subst l3 y3 z3
  rcases hQ3 with ⟨c4, rfl, N5, k6⟩ | ⟨c7, rfl, N8, k9⟩
  · have N10 := Fr.app N0 N5
    obtain ⟨cq11, kq11, q11a, q11b, q11c⟩ := isOf hZ k6 E_t
    obtain ⟨_, _, ⟨T11, L11, k11, n11⟩, -, X11, ⟨Lc11, hQ11, l11, y11, z11⟩, st11⟩ := X3.virtualBack hx (y := (⟨"com/example/favonius/favonius/eval/TopicRanking", "gradeAt", "(I)I"⟩ : MethodName)) (z := (⟨"com/example/favonius/favonius/eval/TopicRanking", "gradeAt", "(I)I"⟩ : MethodName)) hown (mvT hZ (own_w hw 118 rfl)) (mvT hZ (own_w hw 119 rfl)) (notFace_of_selects (args := #[]) (mvT hZ (own_w hw 121 rfl))) (mvT hZ (own_w hw 121 rfl)) (mvT hZ (own_w hw 120 rfl)) (by decide) (backOf (W := 0) (rm_grade1_1 l Z a0 hw [] t' r k' ga h0 n0 O0 F_r A_r) hZ (own_w hw 122 rfl) (own_w hw 34 rfl) (by decide) (by decide)) q11a q11c (g := (mkF m 19 #[.val (.ref t'), .val (.int cut), .val (.int (0 : Int32)), .val (.int (1 : Int32))] [(.int (1 : Int32)), (.ref t')])) rfl (by rw [hml]; rfl) (Steps.refl _) (argsL := [(.int (1 : Int32))]) (rest := []) (lenOf pd_10 rfl) rfl (by show 2 * 0 + _ ≤ _; exact Nat.le_of_eq rfl) (hb hby d15_19) (fun _ _ => ⟨rfl, k6, (by decide : 0 + 0 ≤ _), (by decide : 0 + 0 ≤ _)⟩)
    dsimp only [Pt.U, Pt.locs, Pt.cells, Pt.slots] at X11 l11 y11 z11 st11 hQ11
    subst l11 y11 z11
    obtain ⟨rfl, N12, k13⟩ := hQ11
    have N14 := Fr.app N10 N12
    have S15 : ∀ t, Steps p.tables e below (T11.setTop (mkF m 22 #[.val (.ref t'), .val (.int cut), .val (.int (0 : Int32)), .val (.int (1 : Int32))] [(.int ga)])) t → Steps p.tables e below (s₁.setTop (mkF m 0 #[.val (.ref t'), .val (.int cut), .unset, .unset] [])) t := by
      intro t kt
      refine XS.iconst X0.here hx rfl (hb hby d15_0) ?_
      refine XS.istoreN X0.here hx rfl (hb hby d15_1) rfl (l' := #[.val (.ref t'), .val (.int cut), .val (.int (0 : Int32)), .unset]) rfl ?_
      refine XS.iconst X0.here hx rfl (hb hby d15_2) ?_
      refine XS.istoreN X0.here hx rfl (hb hby d15_3) rfl (l' := #[.val (.ref t'), .val (.int cut), .val (.int (0 : Int32)), .val (.int (1 : Int32))]) rfl ?_
      refine XS.iloadN X0.here hx rfl (hb hby d15_4) rfl ?_
      refine XS.iloadN X0.here hx rfl (hb hby d15_5) rfl ?_
      show Steps p.tables e below (s₁.setTop (mkF m 6 #[.val (.ref t'), .val (.int cut), .val (.int (0 : Int32)), .val (.int (1 : Int32))] [(.int cut), (.int (1 : Int32))])) _
      refine XS.aloadN X0.here hx rfl (hb hby d15_6) rfl rfl ?_
      show Steps p.tables e below (s₁.setTop (mkF m 7 #[.val (.ref t'), .val (.int cut), .val (.int (0 : Int32)), .val (.int (1 : Int32))] [(.ref t'), (.int cut), (.int (1 : Int32))])) _
      refine st1 _ ?_
      show Steps p.tables e below (T1.setTop (mkF m 10 #[.val (.ref t'), .val (.int cut), .val (.int (0 : Int32)), .val (.int (1 : Int32))] [(.ref r), (.int cut), (.int (1 : Int32))])) _
      refine X1.arraylength hx (by rw [e1]; exact Ar2.1) (State.isArrayOf_alike hZ.alike Ar2.2.1) (g := (mkF m 10 #[.val (.ref t'), .val (.int cut), .val (.int (0 : Int32)), .val (.int (1 : Int32))] [(.ref r), (.int cut), (.int (1 : Int32))])) rfl rfl (hb hby d15_10) _ ?_
      rw [len_of Sz2 Nn2]
      show Steps p.tables e below (T1.setTop (mkF m 11 #[.val (.ref t'), .val (.int cut), .val (.int (0 : Int32)), .val (.int (1 : Int32))] [(.int (1 : Int32)), (.int cut), (.int (1 : Int32))])) _
      refine st3 _ ?_
      refine XS.icmpNo X3.here hx rfl (hb hby d15_14) rfl (flt ((by decide) : ¬ ((1 : Int32) < (1 : Int32)))).2.2.1 ?_
      refine XS.aloadN X3.here hx rfl (hb hby d15_17) rfl rfl ?_
      refine XS.iloadN X3.here hx rfl (hb hby d15_18) rfl ?_
      show Steps p.tables e below (T3.setTop (mkF m 19 #[.val (.ref t'), .val (.int cut), .val (.int (0 : Int32)), .val (.int (1 : Int32))] [(.int (1 : Int32)), (.ref t')])) _
      refine st11.trans ?_
      exact kt
    have S16 : ∀ t, Steps p.tables e below (T11.setTop (mkF m 28 #[.val (.ref t'), .val (.int cut), .val (.int ((0 : Int32) + (own_t (0 : Int32) (1 : Int32) cut ga))), .val (.int (1 : Int32))] [])) t → Steps p.tables e below (s₁.setTop (mkF m 0 #[.val (.ref t'), .val (.int cut), .unset, .unset] [])) t := by
      intro t kt
      rcases Decidable.em ((0 : Int32) < ga) with c17 | c17
      · rw [own_t1 (by decide : (0 : Int32) < (1 : Int32)) (own_b6 c4 (by decide)) c17] at kt
        refine S15 t ?_
        refine XS.ifNo X11.here hx rfl (hb hby d15_22) rfl ((if0 _ _).trans (tlt (c17 : (0 : Int32) < ga)).2.2.2) ?_
        refine XS.iinc X11.here hx rfl (hb hby d15_25) rfl (l' := #[.val (.ref t'), .val (.int cut), .val (.int (1 : Int32)), .val (.int (1 : Int32))]) rfl ?_
        exact kt
      · rw [own_t0c c17, Int32.add_zero] at kt
        refine S15 t ?_
        refine XS.ifYes X11.here hx rfl (pc0 := 22) (pc' := 28) rfl (hb hby d15_22) rfl ((if0 _ _).trans (flt (c17 : ¬ ((0 : Int32) < ga))).2.2.2) (by decide) (by decide) ?_
        exact kt
    obtain ⟨T18, X18, e18, st18⟩ := getF X11 hx hZ hown (host := "") (Or.inl (own_w hw 100 rfl)) Via.refl k13 F_r (g := (mkF m 7 #[.val (.ref t'), .val (.int cut), .val (.int ((0 : Int32) + (own_t (0 : Int32) (1 : Int32) cut ga))), .val (.int (2 : Int32))] [(.ref t'), (.int cut), (.int (2 : Int32))])) rfl rfl (hb hby d15_7)
    obtain ⟨cl19, Ar19, -, Sz19, Nn19, -, -⟩ := id A_r
    obtain ⟨_, _, ⟨T20, L20, k20, n20⟩, -, X20, ⟨Lc20, hQ20, l20, y20, z20⟩, st20⟩ := Jvm.LawKit.callS X18 hx (y := (⟨"java/lang/Math", "min", "(II)I"⟩ : MethodName)) hown (mvT hZ (own_w hw 114 rfl)) (mvT hZ (own_w hw 115 rfl)) (mvT hZ (own_w hw 116 rfl)) (mvT hZ (own_w hw 117 rfl)) (by decide) (backOf (W := 1) (rm_min l Z a0 hw [] cut (1 : Int32) h0 n0 O0 ) hZ (own_w hw 117 rfl) (own_w hw 116 rfl) (by decide) (by decide)) (g := (mkF m 11 #[.val (.ref t'), .val (.int cut), .val (.int ((0 : Int32) + (own_t (0 : Int32) (1 : Int32) cut ga))), .val (.int (2 : Int32))] [(.int (1 : Int32)), (.int cut), (.int (2 : Int32))])) rfl (by rw [hml]; rfl) (argsL := [(.int cut), (.int (1 : Int32))]) (rest := [(.int (2 : Int32))]) (lenOf pd_9 rfl) rfl (by show 2 * 0 + _ ≤ _; exact Nat.le_of_eq rfl) (hb hby d15_11) (fun _ _ => ⟨rfl, e18, (by decide : 0 + 0 ≤ _), (by decide : 0 + 0 ≤ _)⟩)
    dsimp only [Pt.U, Pt.locs, Pt.cells, Pt.slots] at X20 l20 y20 z20 st20 hQ20
    subst l20 y20 z20
    rcases hQ20 with ⟨c21, rfl, N22, k23⟩ | ⟨c24, rfl, N25, k26⟩
    · have N27 := Fr.app N14 N22
      have S28 : ∀ t, Steps p.tables e below (T20.setTop (mkF m 35 #[.val (.ref t'), .val (.int cut), .val (.int ((0 : Int32) + (own_t (0 : Int32) (1 : Int32) cut ga))), .val (.int (2 : Int32))] [(.int ((0 : Int32) + (own_t (0 : Int32) (1 : Int32) cut ga)))])) t → Steps p.tables e below (s₁.setTop (mkF m 0 #[.val (.ref t'), .val (.int cut), .unset, .unset] [])) t := by
        intro t kt
        refine S16 t ?_
        refine XS.iinc X11.here hx rfl (hb hby d15_28) rfl (l' := #[.val (.ref t'), .val (.int cut), .val (.int ((0 : Int32) + (own_t (0 : Int32) (1 : Int32) cut ga))), .val (.int (2 : Int32))]) rfl ?_
        refine XS.goto X11.here hx rfl (pc0 := 31) (pc' := 4) rfl (hb hby d15_31) (by decide) (by decide) ?_
        refine XS.iloadN X11.here hx rfl (hb hby d15_4) rfl ?_
        refine XS.iloadN X11.here hx rfl (hb hby d15_5) rfl ?_
        refine XS.aloadN X11.here hx rfl (hb hby d15_6) rfl rfl ?_
        show Steps p.tables e below (T11.setTop (mkF m 7 #[.val (.ref t'), .val (.int cut), .val (.int ((0 : Int32) + (own_t (0 : Int32) (1 : Int32) cut ga))), .val (.int (2 : Int32))] [(.ref t'), (.int cut), (.int (2 : Int32))])) _
        refine st18 _ ?_
        show Steps p.tables e below (T18.setTop (mkF m 10 #[.val (.ref t'), .val (.int cut), .val (.int ((0 : Int32) + (own_t (0 : Int32) (1 : Int32) cut ga))), .val (.int (2 : Int32))] [(.ref r), (.int cut), (.int (2 : Int32))])) _
        refine X18.arraylength hx (by rw [e18]; exact Ar19.1) (State.isArrayOf_alike hZ.alike Ar19.2.1) (g := (mkF m 10 #[.val (.ref t'), .val (.int cut), .val (.int ((0 : Int32) + (own_t (0 : Int32) (1 : Int32) cut ga))), .val (.int (2 : Int32))] [(.ref r), (.int cut), (.int (2 : Int32))])) rfl rfl (hb hby d15_10) _ ?_
        rw [len_of Sz19 Nn19]
        show Steps p.tables e below (T18.setTop (mkF m 11 #[.val (.ref t'), .val (.int cut), .val (.int ((0 : Int32) + (own_t (0 : Int32) (1 : Int32) cut ga))), .val (.int (2 : Int32))] [(.int (1 : Int32)), (.int cut), (.int (2 : Int32))])) _
        refine st20 _ ?_
        refine XS.icmpYes X20.here hx rfl (pc0 := 14) (pc' := 34) rfl (hb hby d15_14) rfl (tlt ((by decide) : (1 : Int32) < (2 : Int32))).2.2.1 (by decide) (by decide) ?_
        refine XS.iloadN X20.here hx rfl (hb hby d15_34) rfl ?_
        exact kt
      obtain ⟨fs, hr, hrun, hended, hW, hsame⟩ := X20.leave (v := some (.int ((0 : Int32) + (own_t (0 : Int32) (1 : Int32) cut ga)))) (fun h => by rw [Bd.returns] at h; cases h)
      refine ⟨_, _, pre0 _ (S28 _ ?_), hrun, hended, _, _, rfl, ?_, ⟨_, rfl⟩, hW, hsame.mono (by decide) (by decide)⟩
      · exact retOut X20 hx Bd.returns rfl (Or.inl ⟨rfl, Or.inl rfl, _, rfl⟩) (hb hby d15_35) hr
      · show Q_rm_top1 Z t' cut r k' ga h0 n0 _ T20.heap _
        rw [k23]
        exact ⟨(congrArg (fun z => some (Value.int z)) (by simp only [Int32.add_zero, Int32.zero_add])), N27, rfl⟩
    · exact absurd (c4 : (1 : Int32) < cut) c24
  · have N29 := Fr.app N0 N8
    have S30 : ∀ t, Steps p.tables e below (T3.setTop (mkF m 14 #[.val (.ref t'), .val (.int cut), .val (.int (0 : Int32)), .val (.int (1 : Int32))] [(.int cut), (.int (1 : Int32))])) t → Steps p.tables e below (s₁.setTop (mkF m 0 #[.val (.ref t'), .val (.int cut), .unset, .unset] [])) t := by
      intro t kt
      refine XS.iconst X0.here hx rfl (hb hby d15_0) ?_
      refine XS.istoreN X0.here hx rfl (hb hby d15_1) rfl (l' := #[.val (.ref t'), .val (.int cut), .val (.int (0 : Int32)), .unset]) rfl ?_
      refine XS.iconst X0.here hx rfl (hb hby d15_2) ?_
      refine XS.istoreN X0.here hx rfl (hb hby d15_3) rfl (l' := #[.val (.ref t'), .val (.int cut), .val (.int (0 : Int32)), .val (.int (1 : Int32))]) rfl ?_
      refine XS.iloadN X0.here hx rfl (hb hby d15_4) rfl ?_
      refine XS.iloadN X0.here hx rfl (hb hby d15_5) rfl ?_
      show Steps p.tables e below (s₁.setTop (mkF m 6 #[.val (.ref t'), .val (.int cut), .val (.int (0 : Int32)), .val (.int (1 : Int32))] [(.int cut), (.int (1 : Int32))])) _
      refine XS.aloadN X0.here hx rfl (hb hby d15_6) rfl rfl ?_
      show Steps p.tables e below (s₁.setTop (mkF m 7 #[.val (.ref t'), .val (.int cut), .val (.int (0 : Int32)), .val (.int (1 : Int32))] [(.ref t'), (.int cut), (.int (1 : Int32))])) _
      refine st1 _ ?_
      show Steps p.tables e below (T1.setTop (mkF m 10 #[.val (.ref t'), .val (.int cut), .val (.int (0 : Int32)), .val (.int (1 : Int32))] [(.ref r), (.int cut), (.int (1 : Int32))])) _
      refine X1.arraylength hx (by rw [e1]; exact Ar2.1) (State.isArrayOf_alike hZ.alike Ar2.2.1) (g := (mkF m 10 #[.val (.ref t'), .val (.int cut), .val (.int (0 : Int32)), .val (.int (1 : Int32))] [(.ref r), (.int cut), (.int (1 : Int32))])) rfl rfl (hb hby d15_10) _ ?_
      rw [len_of Sz2 Nn2]
      show Steps p.tables e below (T1.setTop (mkF m 11 #[.val (.ref t'), .val (.int cut), .val (.int (0 : Int32)), .val (.int (1 : Int32))] [(.int (1 : Int32)), (.int cut), (.int (1 : Int32))])) _
      refine st3 _ ?_
      exact kt
    rcases Decidable.em (cut < (1 : Int32)) with c31 | c31
    · have S32 : ∀ t, Steps p.tables e below (T3.setTop (mkF m 35 #[.val (.ref t'), .val (.int cut), .val (.int (0 : Int32)), .val (.int (1 : Int32))] [(.int (0 : Int32))])) t → Steps p.tables e below (s₁.setTop (mkF m 0 #[.val (.ref t'), .val (.int cut), .unset, .unset] [])) t := by
        intro t kt
        refine S30 t ?_
        refine XS.icmpYes X3.here hx rfl (pc0 := 14) (pc' := 34) rfl (hb hby d15_14) rfl (tlt (c31 : cut < (1 : Int32))).2.2.1 (by decide) (by decide) ?_
        refine XS.iloadN X3.here hx rfl (hb hby d15_34) rfl ?_
        exact kt
      have u33 : own_t (0 : Int32) (1 : Int32) cut ga = (0 : Int32) := own_t0b (own_b2 c31 (by decide))
      obtain ⟨fs, hr, hrun, hended, hW, hsame⟩ := X3.leave (v := some (.int (0 : Int32))) (fun h => by rw [Bd.returns] at h; cases h)
      refine ⟨_, _, pre0 _ (S32 _ ?_), hrun, hended, _, _, rfl, ?_, ⟨_, rfl⟩, hW, hsame.mono (by decide) (by decide)⟩
      · exact retOut X3 hx Bd.returns rfl (Or.inl ⟨rfl, Or.inl rfl, _, rfl⟩) (hb hby d15_35) hr
      · show Q_rm_top1 Z t' cut r k' ga h0 n0 _ T3.heap _
        rw [k9]
        exact ⟨(congrArg (fun z => some (Value.int z)) (by rw [u33] <;> decide)), N29, rfl⟩
    · obtain ⟨cq34, kq34, q34a, q34b, q34c⟩ := isOf hZ k9 E_t
      obtain ⟨_, _, ⟨T34, L34, k34, n34⟩, -, X34, ⟨Lc34, hQ34, l34, y34, z34⟩, st34⟩ := X3.virtualBack hx (y := (⟨"com/example/favonius/favonius/eval/TopicRanking", "gradeAt", "(I)I"⟩ : MethodName)) (z := (⟨"com/example/favonius/favonius/eval/TopicRanking", "gradeAt", "(I)I"⟩ : MethodName)) hown (mvT hZ (own_w hw 118 rfl)) (mvT hZ (own_w hw 119 rfl)) (notFace_of_selects (args := #[]) (mvT hZ (own_w hw 121 rfl))) (mvT hZ (own_w hw 121 rfl)) (mvT hZ (own_w hw 120 rfl)) (by decide) (backOf (W := 0) (rm_grade1_1 l Z a0 hw [] t' r k' ga h0 n0 O0 F_r A_r) hZ (own_w hw 122 rfl) (own_w hw 34 rfl) (by decide) (by decide)) q34a q34c (g := (mkF m 19 #[.val (.ref t'), .val (.int cut), .val (.int (0 : Int32)), .val (.int (1 : Int32))] [(.int (1 : Int32)), (.ref t')])) rfl (by rw [hml]; rfl) (Steps.refl _) (argsL := [(.int (1 : Int32))]) (rest := []) (lenOf pd_10 rfl) rfl (by show 2 * 0 + _ ≤ _; exact Nat.le_of_eq rfl) (hb hby d15_19) (fun _ _ => ⟨rfl, k9, (by decide : 0 + 0 ≤ _), (by decide : 0 + 0 ≤ _)⟩)
      dsimp only [Pt.U, Pt.locs, Pt.cells, Pt.slots] at X34 l34 y34 z34 st34 hQ34
      subst l34 y34 z34
      obtain ⟨rfl, N35, k36⟩ := hQ34
      have N37 := Fr.app N29 N35
      have S38 : ∀ t, Steps p.tables e below (T34.setTop (mkF m 22 #[.val (.ref t'), .val (.int cut), .val (.int (0 : Int32)), .val (.int (1 : Int32))] [(.int ga)])) t → Steps p.tables e below (s₁.setTop (mkF m 0 #[.val (.ref t'), .val (.int cut), .unset, .unset] [])) t := by
        intro t kt
        refine S30 t ?_
        refine XS.icmpNo X3.here hx rfl (hb hby d15_14) rfl (flt (c31 : ¬ (cut < (1 : Int32)))).2.2.1 ?_
        refine XS.aloadN X3.here hx rfl (hb hby d15_17) rfl rfl ?_
        refine XS.iloadN X3.here hx rfl (hb hby d15_18) rfl ?_
        show Steps p.tables e below (T3.setTop (mkF m 19 #[.val (.ref t'), .val (.int cut), .val (.int (0 : Int32)), .val (.int (1 : Int32))] [(.int (1 : Int32)), (.ref t')])) _
        refine st34.trans ?_
        exact kt
      have S39 : ∀ t, Steps p.tables e below (T34.setTop (mkF m 28 #[.val (.ref t'), .val (.int cut), .val (.int ((0 : Int32) + (own_t (0 : Int32) (1 : Int32) cut ga))), .val (.int (1 : Int32))] [])) t → Steps p.tables e below (s₁.setTop (mkF m 0 #[.val (.ref t'), .val (.int cut), .unset, .unset] [])) t := by
        intro t kt
        rcases Decidable.em ((0 : Int32) < ga) with c40 | c40
        · rw [own_t1 (by decide : (0 : Int32) < (1 : Int32)) (own_b4 c31 (by decide)) c40] at kt
          refine S38 t ?_
          refine XS.ifNo X34.here hx rfl (hb hby d15_22) rfl ((if0 _ _).trans (tlt (c40 : (0 : Int32) < ga)).2.2.2) ?_
          refine XS.iinc X34.here hx rfl (hb hby d15_25) rfl (l' := #[.val (.ref t'), .val (.int cut), .val (.int (1 : Int32)), .val (.int (1 : Int32))]) rfl ?_
          exact kt
        · rw [own_t0c c40, Int32.add_zero] at kt
          refine S38 t ?_
          refine XS.ifYes X34.here hx rfl (pc0 := 22) (pc' := 28) rfl (hb hby d15_22) rfl ((if0 _ _).trans (flt (c40 : ¬ ((0 : Int32) < ga))).2.2.2) (by decide) (by decide) ?_
          exact kt
      obtain ⟨T41, X41, e41, st41⟩ := getF X34 hx hZ hown (host := "") (Or.inl (own_w hw 100 rfl)) Via.refl k36 F_r (g := (mkF m 7 #[.val (.ref t'), .val (.int cut), .val (.int ((0 : Int32) + (own_t (0 : Int32) (1 : Int32) cut ga))), .val (.int (2 : Int32))] [(.ref t'), (.int cut), (.int (2 : Int32))])) rfl rfl (hb hby d15_7)
      obtain ⟨cl42, Ar42, -, Sz42, Nn42, -, -⟩ := id A_r
      obtain ⟨_, _, ⟨T43, L43, k43, n43⟩, -, X43, ⟨Lc43, hQ43, l43, y43, z43⟩, st43⟩ := Jvm.LawKit.callS X41 hx (y := (⟨"java/lang/Math", "min", "(II)I"⟩ : MethodName)) hown (mvT hZ (own_w hw 114 rfl)) (mvT hZ (own_w hw 115 rfl)) (mvT hZ (own_w hw 116 rfl)) (mvT hZ (own_w hw 117 rfl)) (by decide) (backOf (W := 1) (rm_min l Z a0 hw [] cut (1 : Int32) h0 n0 O0 ) hZ (own_w hw 117 rfl) (own_w hw 116 rfl) (by decide) (by decide)) (g := (mkF m 11 #[.val (.ref t'), .val (.int cut), .val (.int ((0 : Int32) + (own_t (0 : Int32) (1 : Int32) cut ga))), .val (.int (2 : Int32))] [(.int (1 : Int32)), (.int cut), (.int (2 : Int32))])) rfl (by rw [hml]; rfl) (argsL := [(.int cut), (.int (1 : Int32))]) (rest := [(.int (2 : Int32))]) (lenOf pd_9 rfl) rfl (by show 2 * 0 + _ ≤ _; exact Nat.le_of_eq rfl) (hb hby d15_11) (fun _ _ => ⟨rfl, e41, (by decide : 0 + 0 ≤ _), (by decide : 0 + 0 ≤ _)⟩)
      dsimp only [Pt.U, Pt.locs, Pt.cells, Pt.slots] at X43 l43 y43 z43 st43 hQ43
      subst l43 y43 z43
      rcases hQ43 with ⟨c44, rfl, N45, k46⟩ | ⟨c47, rfl, N48, k49⟩
      · exact absurd c44 (c7 : ¬ ((1 : Int32) < cut))
      · have N50 := Fr.app N37 N48
        have S51 : ∀ t, Steps p.tables e below (T43.setTop (mkF m 35 #[.val (.ref t'), .val (.int cut), .val (.int ((0 : Int32) + (own_t (0 : Int32) (1 : Int32) cut ga))), .val (.int (2 : Int32))] [(.int ((0 : Int32) + (own_t (0 : Int32) (1 : Int32) cut ga)))])) t → Steps p.tables e below (s₁.setTop (mkF m 0 #[.val (.ref t'), .val (.int cut), .unset, .unset] [])) t := by
          intro t kt
          refine S39 t ?_
          refine XS.iinc X34.here hx rfl (hb hby d15_28) rfl (l' := #[.val (.ref t'), .val (.int cut), .val (.int ((0 : Int32) + (own_t (0 : Int32) (1 : Int32) cut ga))), .val (.int (2 : Int32))]) rfl ?_
          refine XS.goto X34.here hx rfl (pc0 := 31) (pc' := 4) rfl (hb hby d15_31) (by decide) (by decide) ?_
          refine XS.iloadN X34.here hx rfl (hb hby d15_4) rfl ?_
          refine XS.iloadN X34.here hx rfl (hb hby d15_5) rfl ?_
          refine XS.aloadN X34.here hx rfl (hb hby d15_6) rfl rfl ?_
          show Steps p.tables e below (T34.setTop (mkF m 7 #[.val (.ref t'), .val (.int cut), .val (.int ((0 : Int32) + (own_t (0 : Int32) (1 : Int32) cut ga))), .val (.int (2 : Int32))] [(.ref t'), (.int cut), (.int (2 : Int32))])) _
          refine st41 _ ?_
          show Steps p.tables e below (T41.setTop (mkF m 10 #[.val (.ref t'), .val (.int cut), .val (.int ((0 : Int32) + (own_t (0 : Int32) (1 : Int32) cut ga))), .val (.int (2 : Int32))] [(.ref r), (.int cut), (.int (2 : Int32))])) _
          refine X41.arraylength hx (by rw [e41]; exact Ar42.1) (State.isArrayOf_alike hZ.alike Ar42.2.1) (g := (mkF m 10 #[.val (.ref t'), .val (.int cut), .val (.int ((0 : Int32) + (own_t (0 : Int32) (1 : Int32) cut ga))), .val (.int (2 : Int32))] [(.ref r), (.int cut), (.int (2 : Int32))])) rfl rfl (hb hby d15_10) _ ?_
          rw [len_of Sz42 Nn42]
          show Steps p.tables e below (T41.setTop (mkF m 11 #[.val (.ref t'), .val (.int cut), .val (.int ((0 : Int32) + (own_t (0 : Int32) (1 : Int32) cut ga))), .val (.int (2 : Int32))] [(.int (1 : Int32)), (.int cut), (.int (2 : Int32))])) _
          refine st43 _ ?_
          refine XS.icmpYes X43.here hx rfl (pc0 := 14) (pc' := 34) rfl (hb hby d15_14) rfl (tlt ((own_b7 c47 (by decide)) : cut < (2 : Int32))).2.2.1 (by decide) (by decide) ?_
          refine XS.iloadN X43.here hx rfl (hb hby d15_34) rfl ?_
          exact kt
        obtain ⟨fs, hr, hrun, hended, hW, hsame⟩ := X43.leave (v := some (.int ((0 : Int32) + (own_t (0 : Int32) (1 : Int32) cut ga)))) (fun h => by rw [Bd.returns] at h; cases h)
        refine ⟨_, _, pre0 _ (S51 _ ?_), hrun, hended, _, _, rfl, ?_, ⟨_, rfl⟩, hW, hsame.mono (by decide) (by decide)⟩
        · exact retOut X43 hx Bd.returns rfl (Or.inl ⟨rfl, Or.inl rfl, _, rfl⟩) (hb hby d15_35) hr
        · show Q_rm_top1 Z t' cut r k' ga h0 n0 _ T43.heap _
          rw [k49]
          exact ⟨(congrArg (fun z => some (Value.int z)) (by simp only [Int32.add_zero, Int32.zero_add])), N50, rfl⟩
theorem ef_rm_grade2_1 (m : MethodId) (x0 : Addr) (x1 : Int32) : entryFrame m #[(.ref x0), (.int x1)] 2 = mkF m 0 #[.val (.ref x0), .val (.int x1)] [] := by first | (simp [entryFrame, mkF, argsToLocals, Value.category]; done) | rfl
def Q_rm_grade2_1 (Z : State) (t' : Addr) (r : Addr) (k' : ClassId) (ga : Int32) (gb : Int32) (h0 : Heap) (n0 : Nat) (v : Option Value) (h : Heap) (L : List Loc) : Prop := ((v = some (.int ga)) ∧ (Fr n0 L) ∧ (h = h0))
set_option maxRecDepth 65536 in
set_option maxHeartbeats 40000000 in
theorem rm_grade2_1 (l : Launch) (Z : State) (a0 : Array Value) (hw : ∀ d ∈ tables_1, d.before a0 Z = true) (ws : List Jvm.Cond) (t' : Addr) (r : Addr) (k' : ClassId) (ga : Int32) (gb : Int32) (h0 : Heap) (n0 : Nat) (O0 : Old Z n0 h0) (F_r : Fld Z h0 t' "com/example/favonius/favonius/eval/TopicRanking" "retrieved" "[I" (.ref r)) (A_r : Arv Z h0 r k' .int (2 : Int32) [(.int ga), (.int gb)] (.int (0 : Int32))) :
    MetFree l (⟨"com/example/favonius/favonius/eval/TopicRanking", "gradeAt", "(I)I"⟩ : MethodName) (head1 (Jvm.Cond.code (⟨"com/example/favonius/favonius/eval/TopicRanking", "gradeAt", "(I)I"⟩ : MethodName) prog_14_method_3_code 2 (some .int) :: ws) ({ frames := 0, cells := 0, slots := 0, locals := 0 } : Room)) (fun a U => a = #[(.ref t'), (.int (1 : Int32))] ∧ Z.Warmed39 U.vm ∧ U.heap = h0) (fun _ _ _ _ _ => True) (fun _ U o U' => ∃ v L, o = .returned v ∧ Q_rm_grade2_1 Z t' r k' ga gb h0 n0 v U'.heap L ∧ FrameEnd U o U' L ({ frames := 0, cells := 0, slots := 0, locals := 0 } : Room).cells ({ frames := 0, cells := 0, slots := 0, locals := 0 } : Room).slots) := by
  refine MetFree.of_bodySF (plainFor_of_name pn_7) hisR ?_
  intro p e s m args below meth c s₁ Bd hml0 hP hK
  obtain ⟨rfl, hZ, hh⟩ := hP
  have hx := Bd.exec
  have hby := Bd.bytes
  have hml : c.maxLocals = 2 := hml0
  have hown : s.vm.findClass "com/example/favonius/favonius/eval/TopicRanking" = some m.cls := findClass_of_methodNamed Bd.named
  have hnm := (name_of_methodNamed Bd.named Bd.method).1
  have X0 : Stand p l e ({ frames := 0, cells := 0, slots := 0, locals := 0 } : Room) s m #[(.ref t'), (.int (1 : Int32))] below meth c s₁ [] 0 0 := Stand.of_body Bd
  have e0 : s₁.heap = h0 := by rw [← hh, Bd.state]; rfl
  have N0 := Fr.nil n0
  have pre0 : ∀ t, Steps p.tables e below (s₁.setTop (mkF m 0 #[.val (.ref t'), .val (.int (1 : Int32))] [])) t → Steps p.tables e below (s₁.setTop (entryFrame m #[(.ref t'), (.int (1 : Int32))] 2)) t := fun t k => castTop (ef_rm_grade2_1 m t' (1 : Int32)) k
  obtain ⟨T1, X1, e1, st1⟩ := getF X0 hx hZ hown (host := "") (Or.inl (own_w hw 100 rfl)) Via.refl e0 F_r (g := (mkF m 1 #[.val (.ref t'), .val (.int (1 : Int32))] [(.ref t')])) rfl rfl (hb hby d16_1)
  obtain ⟨cl2, Ar2, q2, Sz2, Nn2, Hh2, Gg2⟩ := id A_r
  have in2 : ¬ ((0 : Int32) < 0 ∨ cl2.slots.size ≤ ((0 : Int32)).toNatClampNeg) := by exact inb_of Sz2 ⟨by decide, by decide⟩
  have at2 : cl2.slots[((0 : Int32)).toNatClampNeg]? = some (.int ga) := by
    refine Has.at Hh2 in2 ?_
    rfl
  have S3 : ∀ t, Steps p.tables e below (T1.setTop (mkF m 8 #[.val (.ref t'), .val (.int (1 : Int32))] [(.int ga)])) t → Steps p.tables e below (s₁.setTop (mkF m 0 #[.val (.ref t'), .val (.int (1 : Int32))] [])) t := by
    intro t kt
    refine XS.aloadN X0.here hx rfl (hb hby d16_0) rfl rfl ?_
    show Steps p.tables e below (s₁.setTop (mkF m 1 #[.val (.ref t'), .val (.int (1 : Int32))] [(.ref t')])) _
    refine st1 _ ?_
    refine XS.iloadN X1.here hx rfl (hb hby d16_4) rfl ?_
    refine XS.iconst X1.here hx rfl (hb hby d16_5) ?_
    refine XS.isub X1.here hx rfl (hb hby d16_6) rfl ?_
    show Steps p.tables e below (T1.setTop (mkF m 7 #[.val (.ref t'), .val (.int (1 : Int32))] [(.int (0 : Int32)), (.ref r)])) _
    refine X1.iaload hx (j := (0 : Int32)) (v := (.int ga)) (by rw [e1]; exact Ar2.1) (State.isArrayOf_alike hZ.alike Ar2.2.1) Ar2.2.2 in2 at2 (g := (mkF m 7 #[.val (.ref t'), .val (.int (1 : Int32))] [(.int (0 : Int32)), (.ref r)])) rfl rfl (hb hby d16_7) _ ?_
    exact kt
  obtain ⟨fs, hr, hrun, hended, hW, hsame⟩ := X1.leave (v := some (.int ga)) (fun h => by rw [Bd.returns] at h; cases h)
  refine ⟨_, _, pre0 _ (S3 _ ?_), hrun, hended, _, _, rfl, ?_, ⟨_, rfl⟩, hW, hsame.mono (by decide) (by decide)⟩
  · exact retOut X1 hx Bd.returns rfl (Or.inl ⟨rfl, Or.inl rfl, _, rfl⟩) (hb hby d16_8) hr
  · show Q_rm_grade2_1 Z t' r k' ga gb h0 n0 _ T1.heap _
    rw [e1]
    exact ⟨rfl, N0, rfl⟩
theorem ef_rm_grade2_2 (m : MethodId) (x0 : Addr) (x1 : Int32) : entryFrame m #[(.ref x0), (.int x1)] 2 = mkF m 0 #[.val (.ref x0), .val (.int x1)] [] := by first | (simp [entryFrame, mkF, argsToLocals, Value.category]; done) | rfl
def Q_rm_grade2_2 (Z : State) (t' : Addr) (r : Addr) (k' : ClassId) (ga : Int32) (gb : Int32) (h0 : Heap) (n0 : Nat) (v : Option Value) (h : Heap) (L : List Loc) : Prop := ((v = some (.int gb)) ∧ (Fr n0 L) ∧ (h = h0))
set_option maxRecDepth 65536 in
set_option maxHeartbeats 40000000 in
theorem rm_grade2_2 (l : Launch) (Z : State) (a0 : Array Value) (hw : ∀ d ∈ tables_1, d.before a0 Z = true) (ws : List Jvm.Cond) (t' : Addr) (r : Addr) (k' : ClassId) (ga : Int32) (gb : Int32) (h0 : Heap) (n0 : Nat) (O0 : Old Z n0 h0) (F_r : Fld Z h0 t' "com/example/favonius/favonius/eval/TopicRanking" "retrieved" "[I" (.ref r)) (A_r : Arv Z h0 r k' .int (2 : Int32) [(.int ga), (.int gb)] (.int (0 : Int32))) :
    MetFree l (⟨"com/example/favonius/favonius/eval/TopicRanking", "gradeAt", "(I)I"⟩ : MethodName) (head1 (Jvm.Cond.code (⟨"com/example/favonius/favonius/eval/TopicRanking", "gradeAt", "(I)I"⟩ : MethodName) prog_14_method_3_code 2 (some .int) :: ws) ({ frames := 0, cells := 0, slots := 0, locals := 0 } : Room)) (fun a U => a = #[(.ref t'), (.int (2 : Int32))] ∧ Z.Warmed39 U.vm ∧ U.heap = h0) (fun _ _ _ _ _ => True) (fun _ U o U' => ∃ v L, o = .returned v ∧ Q_rm_grade2_2 Z t' r k' ga gb h0 n0 v U'.heap L ∧ FrameEnd U o U' L ({ frames := 0, cells := 0, slots := 0, locals := 0 } : Room).cells ({ frames := 0, cells := 0, slots := 0, locals := 0 } : Room).slots) := by
  refine MetFree.of_bodySF (plainFor_of_name pn_7) hisR ?_
  intro p e s m args below meth c s₁ Bd hml0 hP hK
  obtain ⟨rfl, hZ, hh⟩ := hP
  have hx := Bd.exec
  have hby := Bd.bytes
  have hml : c.maxLocals = 2 := hml0
  have hown : s.vm.findClass "com/example/favonius/favonius/eval/TopicRanking" = some m.cls := findClass_of_methodNamed Bd.named
  have hnm := (name_of_methodNamed Bd.named Bd.method).1
  have X0 : Stand p l e ({ frames := 0, cells := 0, slots := 0, locals := 0 } : Room) s m #[(.ref t'), (.int (2 : Int32))] below meth c s₁ [] 0 0 := Stand.of_body Bd
  have e0 : s₁.heap = h0 := by rw [← hh, Bd.state]; rfl
  have N0 := Fr.nil n0
  have pre0 : ∀ t, Steps p.tables e below (s₁.setTop (mkF m 0 #[.val (.ref t'), .val (.int (2 : Int32))] [])) t → Steps p.tables e below (s₁.setTop (entryFrame m #[(.ref t'), (.int (2 : Int32))] 2)) t := fun t k => castTop (ef_rm_grade2_2 m t' (2 : Int32)) k
  obtain ⟨T1, X1, e1, st1⟩ := getF X0 hx hZ hown (host := "") (Or.inl (own_w hw 100 rfl)) Via.refl e0 F_r (g := (mkF m 1 #[.val (.ref t'), .val (.int (2 : Int32))] [(.ref t')])) rfl rfl (hb hby d16_1)
  obtain ⟨cl2, Ar2, q2, Sz2, Nn2, Hh2, Gg2⟩ := id A_r
  have in2 : ¬ ((1 : Int32) < 0 ∨ cl2.slots.size ≤ ((1 : Int32)).toNatClampNeg) := by exact inb_of Sz2 ⟨by decide, by decide⟩
  have at2 : cl2.slots[((1 : Int32)).toNatClampNeg]? = some (.int gb) := by
    refine Has.at Hh2 in2 ?_
    rfl
  have S3 : ∀ t, Steps p.tables e below (T1.setTop (mkF m 8 #[.val (.ref t'), .val (.int (2 : Int32))] [(.int gb)])) t → Steps p.tables e below (s₁.setTop (mkF m 0 #[.val (.ref t'), .val (.int (2 : Int32))] [])) t := by
    intro t kt
    refine XS.aloadN X0.here hx rfl (hb hby d16_0) rfl rfl ?_
    show Steps p.tables e below (s₁.setTop (mkF m 1 #[.val (.ref t'), .val (.int (2 : Int32))] [(.ref t')])) _
    refine st1 _ ?_
    refine XS.iloadN X1.here hx rfl (hb hby d16_4) rfl ?_
    refine XS.iconst X1.here hx rfl (hb hby d16_5) ?_
    refine XS.isub X1.here hx rfl (hb hby d16_6) rfl ?_
    show Steps p.tables e below (T1.setTop (mkF m 7 #[.val (.ref t'), .val (.int (2 : Int32))] [(.int (1 : Int32)), (.ref r)])) _
    refine X1.iaload hx (j := (1 : Int32)) (v := (.int gb)) (by rw [e1]; exact Ar2.1) (State.isArrayOf_alike hZ.alike Ar2.2.1) Ar2.2.2 in2 at2 (g := (mkF m 7 #[.val (.ref t'), .val (.int (2 : Int32))] [(.int (1 : Int32)), (.ref r)])) rfl rfl (hb hby d16_7) _ ?_
    exact kt
  obtain ⟨fs, hr, hrun, hended, hW, hsame⟩ := X1.leave (v := some (.int gb)) (fun h => by rw [Bd.returns] at h; cases h)
  refine ⟨_, _, pre0 _ (S3 _ ?_), hrun, hended, _, _, rfl, ?_, ⟨_, rfl⟩, hW, hsame.mono (by decide) (by decide)⟩
  · exact retOut X1 hx Bd.returns rfl (Or.inl ⟨rfl, Or.inl rfl, _, rfl⟩) (hb hby d16_8) hr
  · show Q_rm_grade2_2 Z t' r k' ga gb h0 n0 _ T1.heap _
    rw [e1]
    exact ⟨rfl, N0, rfl⟩
theorem ef_rm_top2 (m : MethodId) (x0 : Addr) (x1 : Int32) : entryFrame m #[(.ref x0), (.int x1)] 4 = mkF m 0 #[.val (.ref x0), .val (.int x1), .unset, .unset] [] := by first | (simp [entryFrame, mkF, argsToLocals, Value.category]; done) | rfl
def Q_rm_top2 (Z : State) (t' : Addr) (cut : Int32) (r : Addr) (k' : ClassId) (ga : Int32) (gb : Int32) (h0 : Heap) (n0 : Nat) (v : Option Value) (h : Heap) (L : List Loc) : Prop := ((v = some (.int ((own_t (0 : Int32) (2 : Int32) cut ga) + (own_t (1 : Int32) (2 : Int32) cut gb)))) ∧ (Fr n0 L) ∧ (h = h0))
set_option maxRecDepth 65536 in
set_option maxHeartbeats 40000000 in
theorem rm_top2 (l : Launch) (Z : State) (a0 : Array Value) (hw : ∀ d ∈ tables_1, d.before a0 Z = true) (ws : List Jvm.Cond) (t' : Addr) (cut : Int32) (r : Addr) (k' : ClassId) (ga : Int32) (gb : Int32) (h0 : Heap) (n0 : Nat) (O0 : Old Z n0 h0) (E_t : Exa Z h0 t' "com/example/favonius/favonius/eval/TopicRanking") (F_r : Fld Z h0 t' "com/example/favonius/favonius/eval/TopicRanking" "retrieved" "[I" (.ref r)) (A_r : Arv Z h0 r k' .int (2 : Int32) [(.int ga), (.int gb)] (.int (0 : Int32))) :
    MetFree l (⟨"com/example/favonius/favonius/eval/TopicRanking", "relevantInTop", "(I)I"⟩ : MethodName) (head1 (Jvm.Cond.code (⟨"com/example/favonius/favonius/eval/TopicRanking", "relevantInTop", "(I)I"⟩ : MethodName) prog_14_method_5_code 4 (some .int) :: ws) ({ frames := 1, cells := 0, slots := 0, locals := 14 } : Room)) (fun a U => a = #[(.ref t'), (.int cut)] ∧ Z.Warmed39 U.vm ∧ U.heap = h0) (fun _ _ _ _ _ => True) (fun _ U o U' => ∃ v L, o = .returned v ∧ Q_rm_top2 Z t' cut r k' ga gb h0 n0 v U'.heap L ∧ FrameEnd U o U' L ({ frames := 1, cells := 0, slots := 0, locals := 14 } : Room).cells ({ frames := 1, cells := 0, slots := 0, locals := 14 } : Room).slots) := by
  refine MetFree.of_bodySF (plainFor_of_name pn_7) hisR ?_
  intro p e s m args below meth c s₁ Bd hml0 hP hK
  obtain ⟨rfl, hZ, hh⟩ := hP
  have hx := Bd.exec
  have hby := Bd.bytes
  have hml : c.maxLocals = 4 := hml0
  have hown : s.vm.findClass "com/example/favonius/favonius/eval/TopicRanking" = some m.cls := findClass_of_methodNamed Bd.named
  have hnm := (name_of_methodNamed Bd.named Bd.method).1
  have X0 : Stand p l e ({ frames := 1, cells := 0, slots := 0, locals := 14 } : Room) s m #[(.ref t'), (.int cut)] below meth c s₁ [] 0 0 := Stand.of_body Bd
  have e0 : s₁.heap = h0 := by rw [← hh, Bd.state]; rfl
  have N0 := Fr.nil n0
  have pre0 : ∀ t, Steps p.tables e below (s₁.setTop (mkF m 0 #[.val (.ref t'), .val (.int cut), .unset, .unset] [])) t → Steps p.tables e below (s₁.setTop (entryFrame m #[(.ref t'), (.int cut)] 4)) t := fun t k => castTop (ef_rm_top2 m t' cut) k
  obtain ⟨T1, X1, e1, st1⟩ := getF X0 hx hZ hown (host := "") (Or.inl (own_w hw 100 rfl)) Via.refl e0 F_r (g := (mkF m 7 #[.val (.ref t'), .val (.int cut), .val (.int (0 : Int32)), .val (.int (1 : Int32))] [(.ref t'), (.int cut), (.int (1 : Int32))])) rfl rfl (hb hby d15_7)
  obtain ⟨cl2, Ar2, -, Sz2, Nn2, -, -⟩ := id A_r
  obtain ⟨_, _, ⟨T3, L3, k3, n3⟩, -, X3, ⟨Lc3, hQ3, l3, y3, z3⟩, st3⟩ := Jvm.LawKit.callS X1 hx (y := (⟨"java/lang/Math", "min", "(II)I"⟩ : MethodName)) hown (mvT hZ (own_w hw 114 rfl)) (mvT hZ (own_w hw 115 rfl)) (mvT hZ (own_w hw 116 rfl)) (mvT hZ (own_w hw 117 rfl)) (by decide) (backOf (W := 1) (rm_min l Z a0 hw [] cut (2 : Int32) h0 n0 O0 ) hZ (own_w hw 117 rfl) (own_w hw 116 rfl) (by decide) (by decide)) (g := (mkF m 11 #[.val (.ref t'), .val (.int cut), .val (.int (0 : Int32)), .val (.int (1 : Int32))] [(.int (2 : Int32)), (.int cut), (.int (1 : Int32))])) rfl (by rw [hml]; rfl) (argsL := [(.int cut), (.int (2 : Int32))]) (rest := [(.int (1 : Int32))]) (lenOf pd_9 rfl) rfl (by show 2 * 0 + _ ≤ _; exact Nat.le_of_eq rfl) (hb hby d15_11) (fun _ _ => ⟨rfl, e1, (by decide : 0 + 0 ≤ _), (by decide : 0 + 0 ≤ _)⟩)
  dsimp only [Pt.U, Pt.locs, Pt.cells, Pt.slots] at X3 l3 y3 z3 st3 hQ3
  subst l3 y3 z3
  rcases hQ3 with ⟨c4, rfl, N5, k6⟩ | ⟨c7, rfl, N8, k9⟩
  · have N10 := Fr.app N0 N5
    obtain ⟨cq11, kq11, q11a, q11b, q11c⟩ := isOf hZ k6 E_t
    obtain ⟨_, _, ⟨T11, L11, k11, n11⟩, -, X11, ⟨Lc11, hQ11, l11, y11, z11⟩, st11⟩ := X3.virtualBack hx (y := (⟨"com/example/favonius/favonius/eval/TopicRanking", "gradeAt", "(I)I"⟩ : MethodName)) (z := (⟨"com/example/favonius/favonius/eval/TopicRanking", "gradeAt", "(I)I"⟩ : MethodName)) hown (mvT hZ (own_w hw 118 rfl)) (mvT hZ (own_w hw 119 rfl)) (notFace_of_selects (args := #[]) (mvT hZ (own_w hw 121 rfl))) (mvT hZ (own_w hw 121 rfl)) (mvT hZ (own_w hw 120 rfl)) (by decide) (backOf (W := 0) (rm_grade2_1 l Z a0 hw [] t' r k' ga gb h0 n0 O0 F_r A_r) hZ (own_w hw 122 rfl) (own_w hw 34 rfl) (by decide) (by decide)) q11a q11c (g := (mkF m 19 #[.val (.ref t'), .val (.int cut), .val (.int (0 : Int32)), .val (.int (1 : Int32))] [(.int (1 : Int32)), (.ref t')])) rfl (by rw [hml]; rfl) (Steps.refl _) (argsL := [(.int (1 : Int32))]) (rest := []) (lenOf pd_10 rfl) rfl (by show 2 * 0 + _ ≤ _; exact Nat.le_of_eq rfl) (hb hby d15_19) (fun _ _ => ⟨rfl, k6, (by decide : 0 + 0 ≤ _), (by decide : 0 + 0 ≤ _)⟩)
    dsimp only [Pt.U, Pt.locs, Pt.cells, Pt.slots] at X11 l11 y11 z11 st11 hQ11
    subst l11 y11 z11
    obtain ⟨rfl, N12, k13⟩ := hQ11
    have N14 := Fr.app N10 N12
    have S15 : ∀ t, Steps p.tables e below (T11.setTop (mkF m 22 #[.val (.ref t'), .val (.int cut), .val (.int (0 : Int32)), .val (.int (1 : Int32))] [(.int ga)])) t → Steps p.tables e below (s₁.setTop (mkF m 0 #[.val (.ref t'), .val (.int cut), .unset, .unset] [])) t := by
      intro t kt
      refine XS.iconst X0.here hx rfl (hb hby d15_0) ?_
      refine XS.istoreN X0.here hx rfl (hb hby d15_1) rfl (l' := #[.val (.ref t'), .val (.int cut), .val (.int (0 : Int32)), .unset]) rfl ?_
      refine XS.iconst X0.here hx rfl (hb hby d15_2) ?_
      refine XS.istoreN X0.here hx rfl (hb hby d15_3) rfl (l' := #[.val (.ref t'), .val (.int cut), .val (.int (0 : Int32)), .val (.int (1 : Int32))]) rfl ?_
      refine XS.iloadN X0.here hx rfl (hb hby d15_4) rfl ?_
      refine XS.iloadN X0.here hx rfl (hb hby d15_5) rfl ?_
      show Steps p.tables e below (s₁.setTop (mkF m 6 #[.val (.ref t'), .val (.int cut), .val (.int (0 : Int32)), .val (.int (1 : Int32))] [(.int cut), (.int (1 : Int32))])) _
      refine XS.aloadN X0.here hx rfl (hb hby d15_6) rfl rfl ?_
      show Steps p.tables e below (s₁.setTop (mkF m 7 #[.val (.ref t'), .val (.int cut), .val (.int (0 : Int32)), .val (.int (1 : Int32))] [(.ref t'), (.int cut), (.int (1 : Int32))])) _
      refine st1 _ ?_
      show Steps p.tables e below (T1.setTop (mkF m 10 #[.val (.ref t'), .val (.int cut), .val (.int (0 : Int32)), .val (.int (1 : Int32))] [(.ref r), (.int cut), (.int (1 : Int32))])) _
      refine X1.arraylength hx (by rw [e1]; exact Ar2.1) (State.isArrayOf_alike hZ.alike Ar2.2.1) (g := (mkF m 10 #[.val (.ref t'), .val (.int cut), .val (.int (0 : Int32)), .val (.int (1 : Int32))] [(.ref r), (.int cut), (.int (1 : Int32))])) rfl rfl (hb hby d15_10) _ ?_
      rw [len_of Sz2 Nn2]
      show Steps p.tables e below (T1.setTop (mkF m 11 #[.val (.ref t'), .val (.int cut), .val (.int (0 : Int32)), .val (.int (1 : Int32))] [(.int (2 : Int32)), (.int cut), (.int (1 : Int32))])) _
      refine st3 _ ?_
      refine XS.icmpNo X3.here hx rfl (hb hby d15_14) rfl (flt ((by decide) : ¬ ((2 : Int32) < (1 : Int32)))).2.2.1 ?_
      refine XS.aloadN X3.here hx rfl (hb hby d15_17) rfl rfl ?_
      refine XS.iloadN X3.here hx rfl (hb hby d15_18) rfl ?_
      show Steps p.tables e below (T3.setTop (mkF m 19 #[.val (.ref t'), .val (.int cut), .val (.int (0 : Int32)), .val (.int (1 : Int32))] [(.int (1 : Int32)), (.ref t')])) _
      refine st11.trans ?_
      exact kt
    have S16 : ∀ t, Steps p.tables e below (T11.setTop (mkF m 28 #[.val (.ref t'), .val (.int cut), .val (.int ((0 : Int32) + (own_t (0 : Int32) (2 : Int32) cut ga))), .val (.int (1 : Int32))] [])) t → Steps p.tables e below (s₁.setTop (mkF m 0 #[.val (.ref t'), .val (.int cut), .unset, .unset] [])) t := by
      intro t kt
      rcases Decidable.em ((0 : Int32) < ga) with c17 | c17
      · rw [own_t1 (by decide : (0 : Int32) < (2 : Int32)) (own_b6 c4 (by decide)) c17] at kt
        refine S15 t ?_
        refine XS.ifNo X11.here hx rfl (hb hby d15_22) rfl ((if0 _ _).trans (tlt (c17 : (0 : Int32) < ga)).2.2.2) ?_
        refine XS.iinc X11.here hx rfl (hb hby d15_25) rfl (l' := #[.val (.ref t'), .val (.int cut), .val (.int (1 : Int32)), .val (.int (1 : Int32))]) rfl ?_
        exact kt
      · rw [own_t0c c17, Int32.add_zero] at kt
        refine S15 t ?_
        refine XS.ifYes X11.here hx rfl (pc0 := 22) (pc' := 28) rfl (hb hby d15_22) rfl ((if0 _ _).trans (flt (c17 : ¬ ((0 : Int32) < ga))).2.2.2) (by decide) (by decide) ?_
        exact kt
    obtain ⟨T18, X18, e18, st18⟩ := getF X11 hx hZ hown (host := "") (Or.inl (own_w hw 100 rfl)) Via.refl k13 F_r (g := (mkF m 7 #[.val (.ref t'), .val (.int cut), .val (.int ((0 : Int32) + (own_t (0 : Int32) (2 : Int32) cut ga))), .val (.int (2 : Int32))] [(.ref t'), (.int cut), (.int (2 : Int32))])) rfl rfl (hb hby d15_7)
    obtain ⟨cl19, Ar19, -, Sz19, Nn19, -, -⟩ := id A_r
    obtain ⟨_, _, ⟨T20, L20, k20, n20⟩, -, X20, ⟨Lc20, hQ20, l20, y20, z20⟩, st20⟩ := Jvm.LawKit.callS X18 hx (y := (⟨"java/lang/Math", "min", "(II)I"⟩ : MethodName)) hown (mvT hZ (own_w hw 114 rfl)) (mvT hZ (own_w hw 115 rfl)) (mvT hZ (own_w hw 116 rfl)) (mvT hZ (own_w hw 117 rfl)) (by decide) (backOf (W := 1) (rm_min l Z a0 hw [] cut (2 : Int32) h0 n0 O0 ) hZ (own_w hw 117 rfl) (own_w hw 116 rfl) (by decide) (by decide)) (g := (mkF m 11 #[.val (.ref t'), .val (.int cut), .val (.int ((0 : Int32) + (own_t (0 : Int32) (2 : Int32) cut ga))), .val (.int (2 : Int32))] [(.int (2 : Int32)), (.int cut), (.int (2 : Int32))])) rfl (by rw [hml]; rfl) (argsL := [(.int cut), (.int (2 : Int32))]) (rest := [(.int (2 : Int32))]) (lenOf pd_9 rfl) rfl (by show 2 * 0 + _ ≤ _; exact Nat.le_of_eq rfl) (hb hby d15_11) (fun _ _ => ⟨rfl, e18, (by decide : 0 + 0 ≤ _), (by decide : 0 + 0 ≤ _)⟩)
    dsimp only [Pt.U, Pt.locs, Pt.cells, Pt.slots] at X20 l20 y20 z20 st20 hQ20
    subst l20 y20 z20
    rcases hQ20 with ⟨c21, rfl, N22, k23⟩ | ⟨c24, rfl, N25, k26⟩
    · have N27 := Fr.app N14 N22
      obtain ⟨cq28, kq28, q28a, q28b, q28c⟩ := isOf hZ k23 E_t
      obtain ⟨_, _, ⟨T28, L28, k28, n28⟩, -, X28, ⟨Lc28, hQ28, l28, y28, z28⟩, st28⟩ := X20.virtualBack hx (y := (⟨"com/example/favonius/favonius/eval/TopicRanking", "gradeAt", "(I)I"⟩ : MethodName)) (z := (⟨"com/example/favonius/favonius/eval/TopicRanking", "gradeAt", "(I)I"⟩ : MethodName)) hown (mvT hZ (own_w hw 118 rfl)) (mvT hZ (own_w hw 119 rfl)) (notFace_of_selects (args := #[]) (mvT hZ (own_w hw 121 rfl))) (mvT hZ (own_w hw 121 rfl)) (mvT hZ (own_w hw 120 rfl)) (by decide) (backOf (W := 0) (rm_grade2_2 l Z a0 hw [] t' r k' ga gb h0 n0 O0 F_r A_r) hZ (own_w hw 122 rfl) (own_w hw 34 rfl) (by decide) (by decide)) q28a q28c (g := (mkF m 19 #[.val (.ref t'), .val (.int cut), .val (.int ((0 : Int32) + (own_t (0 : Int32) (2 : Int32) cut ga))), .val (.int (2 : Int32))] [(.int (2 : Int32)), (.ref t')])) rfl (by rw [hml]; rfl) (Steps.refl _) (argsL := [(.int (2 : Int32))]) (rest := []) (lenOf pd_10 rfl) rfl (by show 2 * 0 + _ ≤ _; exact Nat.le_of_eq rfl) (hb hby d15_19) (fun _ _ => ⟨rfl, k23, (by decide : 0 + 0 ≤ _), (by decide : 0 + 0 ≤ _)⟩)
      dsimp only [Pt.U, Pt.locs, Pt.cells, Pt.slots] at X28 l28 y28 z28 st28 hQ28
      subst l28 y28 z28
      obtain ⟨rfl, N29, k30⟩ := hQ28
      have N31 := Fr.app N27 N29
      have S32 : ∀ t, Steps p.tables e below (T28.setTop (mkF m 22 #[.val (.ref t'), .val (.int cut), .val (.int ((0 : Int32) + (own_t (0 : Int32) (2 : Int32) cut ga))), .val (.int (2 : Int32))] [(.int gb)])) t → Steps p.tables e below (s₁.setTop (mkF m 0 #[.val (.ref t'), .val (.int cut), .unset, .unset] [])) t := by
        intro t kt
        refine S16 t ?_
        refine XS.iinc X11.here hx rfl (hb hby d15_28) rfl (l' := #[.val (.ref t'), .val (.int cut), .val (.int ((0 : Int32) + (own_t (0 : Int32) (2 : Int32) cut ga))), .val (.int (2 : Int32))]) rfl ?_
        refine XS.goto X11.here hx rfl (pc0 := 31) (pc' := 4) rfl (hb hby d15_31) (by decide) (by decide) ?_
        refine XS.iloadN X11.here hx rfl (hb hby d15_4) rfl ?_
        refine XS.iloadN X11.here hx rfl (hb hby d15_5) rfl ?_
        refine XS.aloadN X11.here hx rfl (hb hby d15_6) rfl rfl ?_
        show Steps p.tables e below (T11.setTop (mkF m 7 #[.val (.ref t'), .val (.int cut), .val (.int ((0 : Int32) + (own_t (0 : Int32) (2 : Int32) cut ga))), .val (.int (2 : Int32))] [(.ref t'), (.int cut), (.int (2 : Int32))])) _
        refine st18 _ ?_
        show Steps p.tables e below (T18.setTop (mkF m 10 #[.val (.ref t'), .val (.int cut), .val (.int ((0 : Int32) + (own_t (0 : Int32) (2 : Int32) cut ga))), .val (.int (2 : Int32))] [(.ref r), (.int cut), (.int (2 : Int32))])) _
        refine X18.arraylength hx (by rw [e18]; exact Ar19.1) (State.isArrayOf_alike hZ.alike Ar19.2.1) (g := (mkF m 10 #[.val (.ref t'), .val (.int cut), .val (.int ((0 : Int32) + (own_t (0 : Int32) (2 : Int32) cut ga))), .val (.int (2 : Int32))] [(.ref r), (.int cut), (.int (2 : Int32))])) rfl rfl (hb hby d15_10) _ ?_
        rw [len_of Sz19 Nn19]
        show Steps p.tables e below (T18.setTop (mkF m 11 #[.val (.ref t'), .val (.int cut), .val (.int ((0 : Int32) + (own_t (0 : Int32) (2 : Int32) cut ga))), .val (.int (2 : Int32))] [(.int (2 : Int32)), (.int cut), (.int (2 : Int32))])) _
        refine st20 _ ?_
        refine XS.icmpNo X20.here hx rfl (hb hby d15_14) rfl (flt ((by decide) : ¬ ((2 : Int32) < (2 : Int32)))).2.2.1 ?_
        refine XS.aloadN X20.here hx rfl (hb hby d15_17) rfl rfl ?_
        refine XS.iloadN X20.here hx rfl (hb hby d15_18) rfl ?_
        show Steps p.tables e below (T20.setTop (mkF m 19 #[.val (.ref t'), .val (.int cut), .val (.int ((0 : Int32) + (own_t (0 : Int32) (2 : Int32) cut ga))), .val (.int (2 : Int32))] [(.int (2 : Int32)), (.ref t')])) _
        refine st28.trans ?_
        exact kt
      have S33 : ∀ t, Steps p.tables e below (T28.setTop (mkF m 28 #[.val (.ref t'), .val (.int cut), .val (.int (((0 : Int32) + (own_t (0 : Int32) (2 : Int32) cut ga)) + (own_t (1 : Int32) (2 : Int32) cut gb))), .val (.int (2 : Int32))] [])) t → Steps p.tables e below (s₁.setTop (mkF m 0 #[.val (.ref t'), .val (.int cut), .unset, .unset] [])) t := by
        intro t kt
        rcases Decidable.em ((0 : Int32) < gb) with c34 | c34
        · rw [own_t1 (by decide : (1 : Int32) < (2 : Int32)) (own_b6 c21 (by decide)) c34] at kt
          refine S32 t ?_
          refine XS.ifNo X28.here hx rfl (hb hby d15_22) rfl ((if0 _ _).trans (tlt (c34 : (0 : Int32) < gb)).2.2.2) ?_
          refine XS.iinc X28.here hx rfl (hb hby d15_25) rfl (l' := #[.val (.ref t'), .val (.int cut), .val (.int (((0 : Int32) + (own_t (0 : Int32) (2 : Int32) cut ga)) + (1 : Int32))), .val (.int (2 : Int32))]) rfl ?_
          exact kt
        · rw [own_t0c c34, Int32.add_zero] at kt
          refine S32 t ?_
          refine XS.ifYes X28.here hx rfl (pc0 := 22) (pc' := 28) rfl (hb hby d15_22) rfl ((if0 _ _).trans (flt (c34 : ¬ ((0 : Int32) < gb))).2.2.2) (by decide) (by decide) ?_
          exact kt
      obtain ⟨T35, X35, e35, st35⟩ := getF X28 hx hZ hown (host := "") (Or.inl (own_w hw 100 rfl)) Via.refl k30 F_r (g := (mkF m 7 #[.val (.ref t'), .val (.int cut), .val (.int (((0 : Int32) + (own_t (0 : Int32) (2 : Int32) cut ga)) + (own_t (1 : Int32) (2 : Int32) cut gb))), .val (.int (3 : Int32))] [(.ref t'), (.int cut), (.int (3 : Int32))])) rfl rfl (hb hby d15_7)
      obtain ⟨cl36, Ar36, -, Sz36, Nn36, -, -⟩ := id A_r
      obtain ⟨_, _, ⟨T37, L37, k37, n37⟩, -, X37, ⟨Lc37, hQ37, l37, y37, z37⟩, st37⟩ := Jvm.LawKit.callS X35 hx (y := (⟨"java/lang/Math", "min", "(II)I"⟩ : MethodName)) hown (mvT hZ (own_w hw 114 rfl)) (mvT hZ (own_w hw 115 rfl)) (mvT hZ (own_w hw 116 rfl)) (mvT hZ (own_w hw 117 rfl)) (by decide) (backOf (W := 1) (rm_min l Z a0 hw [] cut (2 : Int32) h0 n0 O0 ) hZ (own_w hw 117 rfl) (own_w hw 116 rfl) (by decide) (by decide)) (g := (mkF m 11 #[.val (.ref t'), .val (.int cut), .val (.int (((0 : Int32) + (own_t (0 : Int32) (2 : Int32) cut ga)) + (own_t (1 : Int32) (2 : Int32) cut gb))), .val (.int (3 : Int32))] [(.int (2 : Int32)), (.int cut), (.int (3 : Int32))])) rfl (by rw [hml]; rfl) (argsL := [(.int cut), (.int (2 : Int32))]) (rest := [(.int (3 : Int32))]) (lenOf pd_9 rfl) rfl (by show 2 * 0 + _ ≤ _; exact Nat.le_of_eq rfl) (hb hby d15_11) (fun _ _ => ⟨rfl, e35, (by decide : 0 + 0 ≤ _), (by decide : 0 + 0 ≤ _)⟩)
      dsimp only [Pt.U, Pt.locs, Pt.cells, Pt.slots] at X37 l37 y37 z37 st37 hQ37
      subst l37 y37 z37
      rcases hQ37 with ⟨c38, rfl, N39, k40⟩ | ⟨c41, rfl, N42, k43⟩
      · have N44 := Fr.app N31 N39
        have S45 : ∀ t, Steps p.tables e below (T37.setTop (mkF m 35 #[.val (.ref t'), .val (.int cut), .val (.int (((0 : Int32) + (own_t (0 : Int32) (2 : Int32) cut ga)) + (own_t (1 : Int32) (2 : Int32) cut gb))), .val (.int (3 : Int32))] [(.int (((0 : Int32) + (own_t (0 : Int32) (2 : Int32) cut ga)) + (own_t (1 : Int32) (2 : Int32) cut gb)))])) t → Steps p.tables e below (s₁.setTop (mkF m 0 #[.val (.ref t'), .val (.int cut), .unset, .unset] [])) t := by
          intro t kt
          refine S33 t ?_
          refine XS.iinc X28.here hx rfl (hb hby d15_28) rfl (l' := #[.val (.ref t'), .val (.int cut), .val (.int (((0 : Int32) + (own_t (0 : Int32) (2 : Int32) cut ga)) + (own_t (1 : Int32) (2 : Int32) cut gb))), .val (.int (3 : Int32))]) rfl ?_
          refine XS.goto X28.here hx rfl (pc0 := 31) (pc' := 4) rfl (hb hby d15_31) (by decide) (by decide) ?_
          refine XS.iloadN X28.here hx rfl (hb hby d15_4) rfl ?_
          refine XS.iloadN X28.here hx rfl (hb hby d15_5) rfl ?_
          refine XS.aloadN X28.here hx rfl (hb hby d15_6) rfl rfl ?_
          show Steps p.tables e below (T28.setTop (mkF m 7 #[.val (.ref t'), .val (.int cut), .val (.int (((0 : Int32) + (own_t (0 : Int32) (2 : Int32) cut ga)) + (own_t (1 : Int32) (2 : Int32) cut gb))), .val (.int (3 : Int32))] [(.ref t'), (.int cut), (.int (3 : Int32))])) _
          refine st35 _ ?_
          show Steps p.tables e below (T35.setTop (mkF m 10 #[.val (.ref t'), .val (.int cut), .val (.int (((0 : Int32) + (own_t (0 : Int32) (2 : Int32) cut ga)) + (own_t (1 : Int32) (2 : Int32) cut gb))), .val (.int (3 : Int32))] [(.ref r), (.int cut), (.int (3 : Int32))])) _
          refine X35.arraylength hx (by rw [e35]; exact Ar36.1) (State.isArrayOf_alike hZ.alike Ar36.2.1) (g := (mkF m 10 #[.val (.ref t'), .val (.int cut), .val (.int (((0 : Int32) + (own_t (0 : Int32) (2 : Int32) cut ga)) + (own_t (1 : Int32) (2 : Int32) cut gb))), .val (.int (3 : Int32))] [(.ref r), (.int cut), (.int (3 : Int32))])) rfl rfl (hb hby d15_10) _ ?_
          rw [len_of Sz36 Nn36]
          show Steps p.tables e below (T35.setTop (mkF m 11 #[.val (.ref t'), .val (.int cut), .val (.int (((0 : Int32) + (own_t (0 : Int32) (2 : Int32) cut ga)) + (own_t (1 : Int32) (2 : Int32) cut gb))), .val (.int (3 : Int32))] [(.int (2 : Int32)), (.int cut), (.int (3 : Int32))])) _
          refine st37 _ ?_
          refine XS.icmpYes X37.here hx rfl (pc0 := 14) (pc' := 34) rfl (hb hby d15_14) rfl (tlt ((by decide) : (2 : Int32) < (3 : Int32))).2.2.1 (by decide) (by decide) ?_
          refine XS.iloadN X37.here hx rfl (hb hby d15_34) rfl ?_
          exact kt
        obtain ⟨fs, hr, hrun, hended, hW, hsame⟩ := X37.leave (v := some (.int (((0 : Int32) + (own_t (0 : Int32) (2 : Int32) cut ga)) + (own_t (1 : Int32) (2 : Int32) cut gb)))) (fun h => by rw [Bd.returns] at h; cases h)
        refine ⟨_, _, pre0 _ (S45 _ ?_), hrun, hended, _, _, rfl, ?_, ⟨_, rfl⟩, hW, hsame.mono (by decide) (by decide)⟩
        · exact retOut X37 hx Bd.returns rfl (Or.inl ⟨rfl, Or.inl rfl, _, rfl⟩) (hb hby d15_35) hr
        · show Q_rm_top2 Z t' cut r k' ga gb h0 n0 _ T37.heap _
          rw [k40]
          exact ⟨(congrArg (fun z => some (Value.int z)) (by simp only [Int32.add_zero, Int32.zero_add])), N44, rfl⟩
      · exact absurd (c21 : (2 : Int32) < cut) c41
    · exact absurd (c4 : (2 : Int32) < cut) c24
  · have N46 := Fr.app N0 N8
    have S47 : ∀ t, Steps p.tables e below (T3.setTop (mkF m 14 #[.val (.ref t'), .val (.int cut), .val (.int (0 : Int32)), .val (.int (1 : Int32))] [(.int cut), (.int (1 : Int32))])) t → Steps p.tables e below (s₁.setTop (mkF m 0 #[.val (.ref t'), .val (.int cut), .unset, .unset] [])) t := by
      intro t kt
      refine XS.iconst X0.here hx rfl (hb hby d15_0) ?_
      refine XS.istoreN X0.here hx rfl (hb hby d15_1) rfl (l' := #[.val (.ref t'), .val (.int cut), .val (.int (0 : Int32)), .unset]) rfl ?_
      refine XS.iconst X0.here hx rfl (hb hby d15_2) ?_
      refine XS.istoreN X0.here hx rfl (hb hby d15_3) rfl (l' := #[.val (.ref t'), .val (.int cut), .val (.int (0 : Int32)), .val (.int (1 : Int32))]) rfl ?_
      refine XS.iloadN X0.here hx rfl (hb hby d15_4) rfl ?_
      refine XS.iloadN X0.here hx rfl (hb hby d15_5) rfl ?_
      show Steps p.tables e below (s₁.setTop (mkF m 6 #[.val (.ref t'), .val (.int cut), .val (.int (0 : Int32)), .val (.int (1 : Int32))] [(.int cut), (.int (1 : Int32))])) _
      refine XS.aloadN X0.here hx rfl (hb hby d15_6) rfl rfl ?_
      show Steps p.tables e below (s₁.setTop (mkF m 7 #[.val (.ref t'), .val (.int cut), .val (.int (0 : Int32)), .val (.int (1 : Int32))] [(.ref t'), (.int cut), (.int (1 : Int32))])) _
      refine st1 _ ?_
      show Steps p.tables e below (T1.setTop (mkF m 10 #[.val (.ref t'), .val (.int cut), .val (.int (0 : Int32)), .val (.int (1 : Int32))] [(.ref r), (.int cut), (.int (1 : Int32))])) _
      refine X1.arraylength hx (by rw [e1]; exact Ar2.1) (State.isArrayOf_alike hZ.alike Ar2.2.1) (g := (mkF m 10 #[.val (.ref t'), .val (.int cut), .val (.int (0 : Int32)), .val (.int (1 : Int32))] [(.ref r), (.int cut), (.int (1 : Int32))])) rfl rfl (hb hby d15_10) _ ?_
      rw [len_of Sz2 Nn2]
      show Steps p.tables e below (T1.setTop (mkF m 11 #[.val (.ref t'), .val (.int cut), .val (.int (0 : Int32)), .val (.int (1 : Int32))] [(.int (2 : Int32)), (.int cut), (.int (1 : Int32))])) _
      refine st3 _ ?_
      exact kt
    rcases Decidable.em (cut < (1 : Int32)) with c48 | c48
    · have S49 : ∀ t, Steps p.tables e below (T3.setTop (mkF m 35 #[.val (.ref t'), .val (.int cut), .val (.int (0 : Int32)), .val (.int (1 : Int32))] [(.int (0 : Int32))])) t → Steps p.tables e below (s₁.setTop (mkF m 0 #[.val (.ref t'), .val (.int cut), .unset, .unset] [])) t := by
        intro t kt
        refine S47 t ?_
        refine XS.icmpYes X3.here hx rfl (pc0 := 14) (pc' := 34) rfl (hb hby d15_14) rfl (tlt (c48 : cut < (1 : Int32))).2.2.1 (by decide) (by decide) ?_
        refine XS.iloadN X3.here hx rfl (hb hby d15_34) rfl ?_
        exact kt
      have u50 : own_t (0 : Int32) (2 : Int32) cut ga = (0 : Int32) := own_t0b (own_b2 c48 (by decide))
      have u51 : own_t (1 : Int32) (2 : Int32) cut gb = (0 : Int32) := own_t0b (own_b2 c48 (by decide))
      obtain ⟨fs, hr, hrun, hended, hW, hsame⟩ := X3.leave (v := some (.int (0 : Int32))) (fun h => by rw [Bd.returns] at h; cases h)
      refine ⟨_, _, pre0 _ (S49 _ ?_), hrun, hended, _, _, rfl, ?_, ⟨_, rfl⟩, hW, hsame.mono (by decide) (by decide)⟩
      · exact retOut X3 hx Bd.returns rfl (Or.inl ⟨rfl, Or.inl rfl, _, rfl⟩) (hb hby d15_35) hr
      · show Q_rm_top2 Z t' cut r k' ga gb h0 n0 _ T3.heap _
        rw [k9]
        exact ⟨(congrArg (fun z => some (Value.int z)) (by rw [u50, u51] <;> decide)), N46, rfl⟩
    · obtain ⟨cq52, kq52, q52a, q52b, q52c⟩ := isOf hZ k9 E_t
      obtain ⟨_, _, ⟨T52, L52, k52, n52⟩, -, X52, ⟨Lc52, hQ52, l52, y52, z52⟩, st52⟩ := X3.virtualBack hx (y := (⟨"com/example/favonius/favonius/eval/TopicRanking", "gradeAt", "(I)I"⟩ : MethodName)) (z := (⟨"com/example/favonius/favonius/eval/TopicRanking", "gradeAt", "(I)I"⟩ : MethodName)) hown (mvT hZ (own_w hw 118 rfl)) (mvT hZ (own_w hw 119 rfl)) (notFace_of_selects (args := #[]) (mvT hZ (own_w hw 121 rfl))) (mvT hZ (own_w hw 121 rfl)) (mvT hZ (own_w hw 120 rfl)) (by decide) (backOf (W := 0) (rm_grade2_1 l Z a0 hw [] t' r k' ga gb h0 n0 O0 F_r A_r) hZ (own_w hw 122 rfl) (own_w hw 34 rfl) (by decide) (by decide)) q52a q52c (g := (mkF m 19 #[.val (.ref t'), .val (.int cut), .val (.int (0 : Int32)), .val (.int (1 : Int32))] [(.int (1 : Int32)), (.ref t')])) rfl (by rw [hml]; rfl) (Steps.refl _) (argsL := [(.int (1 : Int32))]) (rest := []) (lenOf pd_10 rfl) rfl (by show 2 * 0 + _ ≤ _; exact Nat.le_of_eq rfl) (hb hby d15_19) (fun _ _ => ⟨rfl, k9, (by decide : 0 + 0 ≤ _), (by decide : 0 + 0 ≤ _)⟩)
      dsimp only [Pt.U, Pt.locs, Pt.cells, Pt.slots] at X52 l52 y52 z52 st52 hQ52
      subst l52 y52 z52
      obtain ⟨rfl, N53, k54⟩ := hQ52
      have N55 := Fr.app N46 N53
      have S56 : ∀ t, Steps p.tables e below (T52.setTop (mkF m 22 #[.val (.ref t'), .val (.int cut), .val (.int (0 : Int32)), .val (.int (1 : Int32))] [(.int ga)])) t → Steps p.tables e below (s₁.setTop (mkF m 0 #[.val (.ref t'), .val (.int cut), .unset, .unset] [])) t := by
        intro t kt
        refine S47 t ?_
        refine XS.icmpNo X3.here hx rfl (hb hby d15_14) rfl (flt (c48 : ¬ (cut < (1 : Int32)))).2.2.1 ?_
        refine XS.aloadN X3.here hx rfl (hb hby d15_17) rfl rfl ?_
        refine XS.iloadN X3.here hx rfl (hb hby d15_18) rfl ?_
        show Steps p.tables e below (T3.setTop (mkF m 19 #[.val (.ref t'), .val (.int cut), .val (.int (0 : Int32)), .val (.int (1 : Int32))] [(.int (1 : Int32)), (.ref t')])) _
        refine st52.trans ?_
        exact kt
      have S57 : ∀ t, Steps p.tables e below (T52.setTop (mkF m 28 #[.val (.ref t'), .val (.int cut), .val (.int ((0 : Int32) + (own_t (0 : Int32) (2 : Int32) cut ga))), .val (.int (1 : Int32))] [])) t → Steps p.tables e below (s₁.setTop (mkF m 0 #[.val (.ref t'), .val (.int cut), .unset, .unset] [])) t := by
        intro t kt
        rcases Decidable.em ((0 : Int32) < ga) with c58 | c58
        · rw [own_t1 (by decide : (0 : Int32) < (2 : Int32)) (own_b4 c48 (by decide)) c58] at kt
          refine S56 t ?_
          refine XS.ifNo X52.here hx rfl (hb hby d15_22) rfl ((if0 _ _).trans (tlt (c58 : (0 : Int32) < ga)).2.2.2) ?_
          refine XS.iinc X52.here hx rfl (hb hby d15_25) rfl (l' := #[.val (.ref t'), .val (.int cut), .val (.int (1 : Int32)), .val (.int (1 : Int32))]) rfl ?_
          exact kt
        · rw [own_t0c c58, Int32.add_zero] at kt
          refine S56 t ?_
          refine XS.ifYes X52.here hx rfl (pc0 := 22) (pc' := 28) rfl (hb hby d15_22) rfl ((if0 _ _).trans (flt (c58 : ¬ ((0 : Int32) < ga))).2.2.2) (by decide) (by decide) ?_
          exact kt
      obtain ⟨T59, X59, e59, st59⟩ := getF X52 hx hZ hown (host := "") (Or.inl (own_w hw 100 rfl)) Via.refl k54 F_r (g := (mkF m 7 #[.val (.ref t'), .val (.int cut), .val (.int ((0 : Int32) + (own_t (0 : Int32) (2 : Int32) cut ga))), .val (.int (2 : Int32))] [(.ref t'), (.int cut), (.int (2 : Int32))])) rfl rfl (hb hby d15_7)
      obtain ⟨cl60, Ar60, -, Sz60, Nn60, -, -⟩ := id A_r
      obtain ⟨_, _, ⟨T61, L61, k61, n61⟩, -, X61, ⟨Lc61, hQ61, l61, y61, z61⟩, st61⟩ := Jvm.LawKit.callS X59 hx (y := (⟨"java/lang/Math", "min", "(II)I"⟩ : MethodName)) hown (mvT hZ (own_w hw 114 rfl)) (mvT hZ (own_w hw 115 rfl)) (mvT hZ (own_w hw 116 rfl)) (mvT hZ (own_w hw 117 rfl)) (by decide) (backOf (W := 1) (rm_min l Z a0 hw [] cut (2 : Int32) h0 n0 O0 ) hZ (own_w hw 117 rfl) (own_w hw 116 rfl) (by decide) (by decide)) (g := (mkF m 11 #[.val (.ref t'), .val (.int cut), .val (.int ((0 : Int32) + (own_t (0 : Int32) (2 : Int32) cut ga))), .val (.int (2 : Int32))] [(.int (2 : Int32)), (.int cut), (.int (2 : Int32))])) rfl (by rw [hml]; rfl) (argsL := [(.int cut), (.int (2 : Int32))]) (rest := [(.int (2 : Int32))]) (lenOf pd_9 rfl) rfl (by show 2 * 0 + _ ≤ _; exact Nat.le_of_eq rfl) (hb hby d15_11) (fun _ _ => ⟨rfl, e59, (by decide : 0 + 0 ≤ _), (by decide : 0 + 0 ≤ _)⟩)
      dsimp only [Pt.U, Pt.locs, Pt.cells, Pt.slots] at X61 l61 y61 z61 st61 hQ61
      subst l61 y61 z61
      rcases hQ61 with ⟨c62, rfl, N63, k64⟩ | ⟨c65, rfl, N66, k67⟩
      · exact absurd c62 (c7 : ¬ ((2 : Int32) < cut))
      · have N68 := Fr.app N55 N66
        have S69 : ∀ t, Steps p.tables e below (T61.setTop (mkF m 14 #[.val (.ref t'), .val (.int cut), .val (.int ((0 : Int32) + (own_t (0 : Int32) (2 : Int32) cut ga))), .val (.int (2 : Int32))] [(.int cut), (.int (2 : Int32))])) t → Steps p.tables e below (s₁.setTop (mkF m 0 #[.val (.ref t'), .val (.int cut), .unset, .unset] [])) t := by
          intro t kt
          refine S57 t ?_
          refine XS.iinc X52.here hx rfl (hb hby d15_28) rfl (l' := #[.val (.ref t'), .val (.int cut), .val (.int ((0 : Int32) + (own_t (0 : Int32) (2 : Int32) cut ga))), .val (.int (2 : Int32))]) rfl ?_
          refine XS.goto X52.here hx rfl (pc0 := 31) (pc' := 4) rfl (hb hby d15_31) (by decide) (by decide) ?_
          refine XS.iloadN X52.here hx rfl (hb hby d15_4) rfl ?_
          refine XS.iloadN X52.here hx rfl (hb hby d15_5) rfl ?_
          refine XS.aloadN X52.here hx rfl (hb hby d15_6) rfl rfl ?_
          show Steps p.tables e below (T52.setTop (mkF m 7 #[.val (.ref t'), .val (.int cut), .val (.int ((0 : Int32) + (own_t (0 : Int32) (2 : Int32) cut ga))), .val (.int (2 : Int32))] [(.ref t'), (.int cut), (.int (2 : Int32))])) _
          refine st59 _ ?_
          show Steps p.tables e below (T59.setTop (mkF m 10 #[.val (.ref t'), .val (.int cut), .val (.int ((0 : Int32) + (own_t (0 : Int32) (2 : Int32) cut ga))), .val (.int (2 : Int32))] [(.ref r), (.int cut), (.int (2 : Int32))])) _
          refine X59.arraylength hx (by rw [e59]; exact Ar60.1) (State.isArrayOf_alike hZ.alike Ar60.2.1) (g := (mkF m 10 #[.val (.ref t'), .val (.int cut), .val (.int ((0 : Int32) + (own_t (0 : Int32) (2 : Int32) cut ga))), .val (.int (2 : Int32))] [(.ref r), (.int cut), (.int (2 : Int32))])) rfl rfl (hb hby d15_10) _ ?_
          rw [len_of Sz60 Nn60]
          show Steps p.tables e below (T59.setTop (mkF m 11 #[.val (.ref t'), .val (.int cut), .val (.int ((0 : Int32) + (own_t (0 : Int32) (2 : Int32) cut ga))), .val (.int (2 : Int32))] [(.int (2 : Int32)), (.int cut), (.int (2 : Int32))])) _
          refine st61 _ ?_
          exact kt
        rcases Decidable.em (cut < (2 : Int32)) with c70 | c70
        · have S71 : ∀ t, Steps p.tables e below (T61.setTop (mkF m 35 #[.val (.ref t'), .val (.int cut), .val (.int ((0 : Int32) + (own_t (0 : Int32) (2 : Int32) cut ga))), .val (.int (2 : Int32))] [(.int ((0 : Int32) + (own_t (0 : Int32) (2 : Int32) cut ga)))])) t → Steps p.tables e below (s₁.setTop (mkF m 0 #[.val (.ref t'), .val (.int cut), .unset, .unset] [])) t := by
            intro t kt
            refine S69 t ?_
            refine XS.icmpYes X61.here hx rfl (pc0 := 14) (pc' := 34) rfl (hb hby d15_14) rfl (tlt (c70 : cut < (2 : Int32))).2.2.1 (by decide) (by decide) ?_
            refine XS.iloadN X61.here hx rfl (hb hby d15_34) rfl ?_
            exact kt
          have u72 : own_t (1 : Int32) (2 : Int32) cut gb = (0 : Int32) := own_t0b (own_b2 c70 (by decide))
          obtain ⟨fs, hr, hrun, hended, hW, hsame⟩ := X61.leave (v := some (.int ((0 : Int32) + (own_t (0 : Int32) (2 : Int32) cut ga)))) (fun h => by rw [Bd.returns] at h; cases h)
          refine ⟨_, _, pre0 _ (S71 _ ?_), hrun, hended, _, _, rfl, ?_, ⟨_, rfl⟩, hW, hsame.mono (by decide) (by decide)⟩
          · exact retOut X61 hx Bd.returns rfl (Or.inl ⟨rfl, Or.inl rfl, _, rfl⟩) (hb hby d15_35) hr
          · show Q_rm_top2 Z t' cut r k' ga gb h0 n0 _ T61.heap _
            rw [k67]
            exact ⟨(congrArg (fun z => some (Value.int z)) (by simp only [u72, Int32.add_zero, Int32.zero_add])), N68, rfl⟩
        · obtain ⟨cq73, kq73, q73a, q73b, q73c⟩ := isOf hZ k67 E_t
          obtain ⟨_, _, ⟨T73, L73, k73, n73⟩, -, X73, ⟨Lc73, hQ73, l73, y73, z73⟩, st73⟩ := X61.virtualBack hx (y := (⟨"com/example/favonius/favonius/eval/TopicRanking", "gradeAt", "(I)I"⟩ : MethodName)) (z := (⟨"com/example/favonius/favonius/eval/TopicRanking", "gradeAt", "(I)I"⟩ : MethodName)) hown (mvT hZ (own_w hw 118 rfl)) (mvT hZ (own_w hw 119 rfl)) (notFace_of_selects (args := #[]) (mvT hZ (own_w hw 121 rfl))) (mvT hZ (own_w hw 121 rfl)) (mvT hZ (own_w hw 120 rfl)) (by decide) (backOf (W := 0) (rm_grade2_2 l Z a0 hw [] t' r k' ga gb h0 n0 O0 F_r A_r) hZ (own_w hw 122 rfl) (own_w hw 34 rfl) (by decide) (by decide)) q73a q73c (g := (mkF m 19 #[.val (.ref t'), .val (.int cut), .val (.int ((0 : Int32) + (own_t (0 : Int32) (2 : Int32) cut ga))), .val (.int (2 : Int32))] [(.int (2 : Int32)), (.ref t')])) rfl (by rw [hml]; rfl) (Steps.refl _) (argsL := [(.int (2 : Int32))]) (rest := []) (lenOf pd_10 rfl) rfl (by show 2 * 0 + _ ≤ _; exact Nat.le_of_eq rfl) (hb hby d15_19) (fun _ _ => ⟨rfl, k67, (by decide : 0 + 0 ≤ _), (by decide : 0 + 0 ≤ _)⟩)
          dsimp only [Pt.U, Pt.locs, Pt.cells, Pt.slots] at X73 l73 y73 z73 st73 hQ73
          subst l73 y73 z73
          obtain ⟨rfl, N74, k75⟩ := hQ73
          have N76 := Fr.app N68 N74
          have S77 : ∀ t, Steps p.tables e below (T73.setTop (mkF m 22 #[.val (.ref t'), .val (.int cut), .val (.int ((0 : Int32) + (own_t (0 : Int32) (2 : Int32) cut ga))), .val (.int (2 : Int32))] [(.int gb)])) t → Steps p.tables e below (s₁.setTop (mkF m 0 #[.val (.ref t'), .val (.int cut), .unset, .unset] [])) t := by
            intro t kt
            refine S69 t ?_
            refine XS.icmpNo X61.here hx rfl (hb hby d15_14) rfl (flt (c70 : ¬ (cut < (2 : Int32)))).2.2.1 ?_
            refine XS.aloadN X61.here hx rfl (hb hby d15_17) rfl rfl ?_
            refine XS.iloadN X61.here hx rfl (hb hby d15_18) rfl ?_
            show Steps p.tables e below (T61.setTop (mkF m 19 #[.val (.ref t'), .val (.int cut), .val (.int ((0 : Int32) + (own_t (0 : Int32) (2 : Int32) cut ga))), .val (.int (2 : Int32))] [(.int (2 : Int32)), (.ref t')])) _
            refine st73.trans ?_
            exact kt
          have S78 : ∀ t, Steps p.tables e below (T73.setTop (mkF m 28 #[.val (.ref t'), .val (.int cut), .val (.int (((0 : Int32) + (own_t (0 : Int32) (2 : Int32) cut ga)) + (own_t (1 : Int32) (2 : Int32) cut gb))), .val (.int (2 : Int32))] [])) t → Steps p.tables e below (s₁.setTop (mkF m 0 #[.val (.ref t'), .val (.int cut), .unset, .unset] [])) t := by
            intro t kt
            rcases Decidable.em ((0 : Int32) < gb) with c79 | c79
            · rw [own_t1 (by decide : (1 : Int32) < (2 : Int32)) (own_b4 c70 (by decide)) c79] at kt
              refine S77 t ?_
              refine XS.ifNo X73.here hx rfl (hb hby d15_22) rfl ((if0 _ _).trans (tlt (c79 : (0 : Int32) < gb)).2.2.2) ?_
              refine XS.iinc X73.here hx rfl (hb hby d15_25) rfl (l' := #[.val (.ref t'), .val (.int cut), .val (.int (((0 : Int32) + (own_t (0 : Int32) (2 : Int32) cut ga)) + (1 : Int32))), .val (.int (2 : Int32))]) rfl ?_
              exact kt
            · rw [own_t0c c79, Int32.add_zero] at kt
              refine S77 t ?_
              refine XS.ifYes X73.here hx rfl (pc0 := 22) (pc' := 28) rfl (hb hby d15_22) rfl ((if0 _ _).trans (flt (c79 : ¬ ((0 : Int32) < gb))).2.2.2) (by decide) (by decide) ?_
              exact kt
          obtain ⟨T80, X80, e80, st80⟩ := getF X73 hx hZ hown (host := "") (Or.inl (own_w hw 100 rfl)) Via.refl k75 F_r (g := (mkF m 7 #[.val (.ref t'), .val (.int cut), .val (.int (((0 : Int32) + (own_t (0 : Int32) (2 : Int32) cut ga)) + (own_t (1 : Int32) (2 : Int32) cut gb))), .val (.int (3 : Int32))] [(.ref t'), (.int cut), (.int (3 : Int32))])) rfl rfl (hb hby d15_7)
          obtain ⟨cl81, Ar81, -, Sz81, Nn81, -, -⟩ := id A_r
          obtain ⟨_, _, ⟨T82, L82, k82, n82⟩, -, X82, ⟨Lc82, hQ82, l82, y82, z82⟩, st82⟩ := Jvm.LawKit.callS X80 hx (y := (⟨"java/lang/Math", "min", "(II)I"⟩ : MethodName)) hown (mvT hZ (own_w hw 114 rfl)) (mvT hZ (own_w hw 115 rfl)) (mvT hZ (own_w hw 116 rfl)) (mvT hZ (own_w hw 117 rfl)) (by decide) (backOf (W := 1) (rm_min l Z a0 hw [] cut (2 : Int32) h0 n0 O0 ) hZ (own_w hw 117 rfl) (own_w hw 116 rfl) (by decide) (by decide)) (g := (mkF m 11 #[.val (.ref t'), .val (.int cut), .val (.int (((0 : Int32) + (own_t (0 : Int32) (2 : Int32) cut ga)) + (own_t (1 : Int32) (2 : Int32) cut gb))), .val (.int (3 : Int32))] [(.int (2 : Int32)), (.int cut), (.int (3 : Int32))])) rfl (by rw [hml]; rfl) (argsL := [(.int cut), (.int (2 : Int32))]) (rest := [(.int (3 : Int32))]) (lenOf pd_9 rfl) rfl (by show 2 * 0 + _ ≤ _; exact Nat.le_of_eq rfl) (hb hby d15_11) (fun _ _ => ⟨rfl, e80, (by decide : 0 + 0 ≤ _), (by decide : 0 + 0 ≤ _)⟩)
          dsimp only [Pt.U, Pt.locs, Pt.cells, Pt.slots] at X82 l82 y82 z82 st82 hQ82
          subst l82 y82 z82
          rcases hQ82 with ⟨c83, rfl, N84, k85⟩ | ⟨c86, rfl, N87, k88⟩
          · exact absurd c83 (c65 : ¬ ((2 : Int32) < cut))
          · have N89 := Fr.app N76 N87
            have S90 : ∀ t, Steps p.tables e below (T82.setTop (mkF m 35 #[.val (.ref t'), .val (.int cut), .val (.int (((0 : Int32) + (own_t (0 : Int32) (2 : Int32) cut ga)) + (own_t (1 : Int32) (2 : Int32) cut gb))), .val (.int (3 : Int32))] [(.int (((0 : Int32) + (own_t (0 : Int32) (2 : Int32) cut ga)) + (own_t (1 : Int32) (2 : Int32) cut gb)))])) t → Steps p.tables e below (s₁.setTop (mkF m 0 #[.val (.ref t'), .val (.int cut), .unset, .unset] [])) t := by
              intro t kt
              refine S78 t ?_
              refine XS.iinc X73.here hx rfl (hb hby d15_28) rfl (l' := #[.val (.ref t'), .val (.int cut), .val (.int (((0 : Int32) + (own_t (0 : Int32) (2 : Int32) cut ga)) + (own_t (1 : Int32) (2 : Int32) cut gb))), .val (.int (3 : Int32))]) rfl ?_
              refine XS.goto X73.here hx rfl (pc0 := 31) (pc' := 4) rfl (hb hby d15_31) (by decide) (by decide) ?_
              refine XS.iloadN X73.here hx rfl (hb hby d15_4) rfl ?_
              refine XS.iloadN X73.here hx rfl (hb hby d15_5) rfl ?_
              refine XS.aloadN X73.here hx rfl (hb hby d15_6) rfl rfl ?_
              show Steps p.tables e below (T73.setTop (mkF m 7 #[.val (.ref t'), .val (.int cut), .val (.int (((0 : Int32) + (own_t (0 : Int32) (2 : Int32) cut ga)) + (own_t (1 : Int32) (2 : Int32) cut gb))), .val (.int (3 : Int32))] [(.ref t'), (.int cut), (.int (3 : Int32))])) _
              refine st80 _ ?_
              show Steps p.tables e below (T80.setTop (mkF m 10 #[.val (.ref t'), .val (.int cut), .val (.int (((0 : Int32) + (own_t (0 : Int32) (2 : Int32) cut ga)) + (own_t (1 : Int32) (2 : Int32) cut gb))), .val (.int (3 : Int32))] [(.ref r), (.int cut), (.int (3 : Int32))])) _
              refine X80.arraylength hx (by rw [e80]; exact Ar81.1) (State.isArrayOf_alike hZ.alike Ar81.2.1) (g := (mkF m 10 #[.val (.ref t'), .val (.int cut), .val (.int (((0 : Int32) + (own_t (0 : Int32) (2 : Int32) cut ga)) + (own_t (1 : Int32) (2 : Int32) cut gb))), .val (.int (3 : Int32))] [(.ref r), (.int cut), (.int (3 : Int32))])) rfl rfl (hb hby d15_10) _ ?_
              rw [len_of Sz81 Nn81]
              show Steps p.tables e below (T80.setTop (mkF m 11 #[.val (.ref t'), .val (.int cut), .val (.int (((0 : Int32) + (own_t (0 : Int32) (2 : Int32) cut ga)) + (own_t (1 : Int32) (2 : Int32) cut gb))), .val (.int (3 : Int32))] [(.int (2 : Int32)), (.int cut), (.int (3 : Int32))])) _
              refine st82 _ ?_
              refine XS.icmpYes X82.here hx rfl (pc0 := 14) (pc' := 34) rfl (hb hby d15_14) rfl (tlt ((own_b7 c86 (by decide)) : cut < (3 : Int32))).2.2.1 (by decide) (by decide) ?_
              refine XS.iloadN X82.here hx rfl (hb hby d15_34) rfl ?_
              exact kt
            obtain ⟨fs, hr, hrun, hended, hW, hsame⟩ := X82.leave (v := some (.int (((0 : Int32) + (own_t (0 : Int32) (2 : Int32) cut ga)) + (own_t (1 : Int32) (2 : Int32) cut gb)))) (fun h => by rw [Bd.returns] at h; cases h)
            refine ⟨_, _, pre0 _ (S90 _ ?_), hrun, hended, _, _, rfl, ?_, ⟨_, rfl⟩, hW, hsame.mono (by decide) (by decide)⟩
            · exact retOut X82 hx Bd.returns rfl (Or.inl ⟨rfl, Or.inl rfl, _, rfl⟩) (hb hby d15_35) hr
            · show Q_rm_top2 Z t' cut r k' ga gb h0 n0 _ T82.heap _
              rw [k88]
              exact ⟨(congrArg (fun z => some (Value.int z)) (by simp only [Int32.add_zero, Int32.zero_add])), N89, rfl⟩
theorem ef_rm_grade3_1 (m : MethodId) (x0 : Addr) (x1 : Int32) : entryFrame m #[(.ref x0), (.int x1)] 2 = mkF m 0 #[.val (.ref x0), .val (.int x1)] [] := by first | (simp [entryFrame, mkF, argsToLocals, Value.category]; done) | rfl
def Q_rm_grade3_1 (Z : State) (t' : Addr) (r : Addr) (k' : ClassId) (ga : Int32) (gb : Int32) (gc : Int32) (h0 : Heap) (n0 : Nat) (v : Option Value) (h : Heap) (L : List Loc) : Prop := ((v = some (.int ga)) ∧ (Fr n0 L) ∧ (h = h0))
set_option maxRecDepth 65536 in
set_option maxHeartbeats 40000000 in
theorem rm_grade3_1 (l : Launch) (Z : State) (a0 : Array Value) (hw : ∀ d ∈ tables_1, d.before a0 Z = true) (ws : List Jvm.Cond) (t' : Addr) (r : Addr) (k' : ClassId) (ga : Int32) (gb : Int32) (gc : Int32) (h0 : Heap) (n0 : Nat) (O0 : Old Z n0 h0) (F_r : Fld Z h0 t' "com/example/favonius/favonius/eval/TopicRanking" "retrieved" "[I" (.ref r)) (A_r : Arv Z h0 r k' .int (3 : Int32) [(.int ga), (.int gb), (.int gc)] (.int (0 : Int32))) :
    MetFree l (⟨"com/example/favonius/favonius/eval/TopicRanking", "gradeAt", "(I)I"⟩ : MethodName) (head1 (Jvm.Cond.code (⟨"com/example/favonius/favonius/eval/TopicRanking", "gradeAt", "(I)I"⟩ : MethodName) prog_14_method_3_code 2 (some .int) :: ws) ({ frames := 0, cells := 0, slots := 0, locals := 0 } : Room)) (fun a U => a = #[(.ref t'), (.int (1 : Int32))] ∧ Z.Warmed39 U.vm ∧ U.heap = h0) (fun _ _ _ _ _ => True) (fun _ U o U' => ∃ v L, o = .returned v ∧ Q_rm_grade3_1 Z t' r k' ga gb gc h0 n0 v U'.heap L ∧ FrameEnd U o U' L ({ frames := 0, cells := 0, slots := 0, locals := 0 } : Room).cells ({ frames := 0, cells := 0, slots := 0, locals := 0 } : Room).slots) := by
  refine MetFree.of_bodySF (plainFor_of_name pn_7) hisR ?_
  intro p e s m args below meth c s₁ Bd hml0 hP hK
  obtain ⟨rfl, hZ, hh⟩ := hP
  have hx := Bd.exec
  have hby := Bd.bytes
  have hml : c.maxLocals = 2 := hml0
  have hown : s.vm.findClass "com/example/favonius/favonius/eval/TopicRanking" = some m.cls := findClass_of_methodNamed Bd.named
  have hnm := (name_of_methodNamed Bd.named Bd.method).1
  have X0 : Stand p l e ({ frames := 0, cells := 0, slots := 0, locals := 0 } : Room) s m #[(.ref t'), (.int (1 : Int32))] below meth c s₁ [] 0 0 := Stand.of_body Bd
  have e0 : s₁.heap = h0 := by rw [← hh, Bd.state]; rfl
  have N0 := Fr.nil n0
  have pre0 : ∀ t, Steps p.tables e below (s₁.setTop (mkF m 0 #[.val (.ref t'), .val (.int (1 : Int32))] [])) t → Steps p.tables e below (s₁.setTop (entryFrame m #[(.ref t'), (.int (1 : Int32))] 2)) t := fun t k => castTop (ef_rm_grade3_1 m t' (1 : Int32)) k
  obtain ⟨T1, X1, e1, st1⟩ := getF X0 hx hZ hown (host := "") (Or.inl (own_w hw 100 rfl)) Via.refl e0 F_r (g := (mkF m 1 #[.val (.ref t'), .val (.int (1 : Int32))] [(.ref t')])) rfl rfl (hb hby d16_1)
  obtain ⟨cl2, Ar2, q2, Sz2, Nn2, Hh2, Gg2⟩ := id A_r
  have in2 : ¬ ((0 : Int32) < 0 ∨ cl2.slots.size ≤ ((0 : Int32)).toNatClampNeg) := by exact inb_of Sz2 ⟨by decide, by decide⟩
  have at2 : cl2.slots[((0 : Int32)).toNatClampNeg]? = some (.int ga) := by
    refine Has.at Hh2 in2 ?_
    rfl
  have S3 : ∀ t, Steps p.tables e below (T1.setTop (mkF m 8 #[.val (.ref t'), .val (.int (1 : Int32))] [(.int ga)])) t → Steps p.tables e below (s₁.setTop (mkF m 0 #[.val (.ref t'), .val (.int (1 : Int32))] [])) t := by
    intro t kt
    refine XS.aloadN X0.here hx rfl (hb hby d16_0) rfl rfl ?_
    show Steps p.tables e below (s₁.setTop (mkF m 1 #[.val (.ref t'), .val (.int (1 : Int32))] [(.ref t')])) _
    refine st1 _ ?_
    refine XS.iloadN X1.here hx rfl (hb hby d16_4) rfl ?_
    refine XS.iconst X1.here hx rfl (hb hby d16_5) ?_
    refine XS.isub X1.here hx rfl (hb hby d16_6) rfl ?_
    show Steps p.tables e below (T1.setTop (mkF m 7 #[.val (.ref t'), .val (.int (1 : Int32))] [(.int (0 : Int32)), (.ref r)])) _
    refine X1.iaload hx (j := (0 : Int32)) (v := (.int ga)) (by rw [e1]; exact Ar2.1) (State.isArrayOf_alike hZ.alike Ar2.2.1) Ar2.2.2 in2 at2 (g := (mkF m 7 #[.val (.ref t'), .val (.int (1 : Int32))] [(.int (0 : Int32)), (.ref r)])) rfl rfl (hb hby d16_7) _ ?_
    exact kt
  obtain ⟨fs, hr, hrun, hended, hW, hsame⟩ := X1.leave (v := some (.int ga)) (fun h => by rw [Bd.returns] at h; cases h)
  refine ⟨_, _, pre0 _ (S3 _ ?_), hrun, hended, _, _, rfl, ?_, ⟨_, rfl⟩, hW, hsame.mono (by decide) (by decide)⟩
  · exact retOut X1 hx Bd.returns rfl (Or.inl ⟨rfl, Or.inl rfl, _, rfl⟩) (hb hby d16_8) hr
  · show Q_rm_grade3_1 Z t' r k' ga gb gc h0 n0 _ T1.heap _
    rw [e1]
    exact ⟨rfl, N0, rfl⟩
theorem ef_rm_grade3_2 (m : MethodId) (x0 : Addr) (x1 : Int32) : entryFrame m #[(.ref x0), (.int x1)] 2 = mkF m 0 #[.val (.ref x0), .val (.int x1)] [] := by first | (simp [entryFrame, mkF, argsToLocals, Value.category]; done) | rfl
def Q_rm_grade3_2 (Z : State) (t' : Addr) (r : Addr) (k' : ClassId) (ga : Int32) (gb : Int32) (gc : Int32) (h0 : Heap) (n0 : Nat) (v : Option Value) (h : Heap) (L : List Loc) : Prop := ((v = some (.int gb)) ∧ (Fr n0 L) ∧ (h = h0))
set_option maxRecDepth 65536 in
set_option maxHeartbeats 40000000 in
theorem rm_grade3_2 (l : Launch) (Z : State) (a0 : Array Value) (hw : ∀ d ∈ tables_1, d.before a0 Z = true) (ws : List Jvm.Cond) (t' : Addr) (r : Addr) (k' : ClassId) (ga : Int32) (gb : Int32) (gc : Int32) (h0 : Heap) (n0 : Nat) (O0 : Old Z n0 h0) (F_r : Fld Z h0 t' "com/example/favonius/favonius/eval/TopicRanking" "retrieved" "[I" (.ref r)) (A_r : Arv Z h0 r k' .int (3 : Int32) [(.int ga), (.int gb), (.int gc)] (.int (0 : Int32))) :
    MetFree l (⟨"com/example/favonius/favonius/eval/TopicRanking", "gradeAt", "(I)I"⟩ : MethodName) (head1 (Jvm.Cond.code (⟨"com/example/favonius/favonius/eval/TopicRanking", "gradeAt", "(I)I"⟩ : MethodName) prog_14_method_3_code 2 (some .int) :: ws) ({ frames := 0, cells := 0, slots := 0, locals := 0 } : Room)) (fun a U => a = #[(.ref t'), (.int (2 : Int32))] ∧ Z.Warmed39 U.vm ∧ U.heap = h0) (fun _ _ _ _ _ => True) (fun _ U o U' => ∃ v L, o = .returned v ∧ Q_rm_grade3_2 Z t' r k' ga gb gc h0 n0 v U'.heap L ∧ FrameEnd U o U' L ({ frames := 0, cells := 0, slots := 0, locals := 0 } : Room).cells ({ frames := 0, cells := 0, slots := 0, locals := 0 } : Room).slots) := by
  refine MetFree.of_bodySF (plainFor_of_name pn_7) hisR ?_
  intro p e s m args below meth c s₁ Bd hml0 hP hK
  obtain ⟨rfl, hZ, hh⟩ := hP
  have hx := Bd.exec
  have hby := Bd.bytes
  have hml : c.maxLocals = 2 := hml0
  have hown : s.vm.findClass "com/example/favonius/favonius/eval/TopicRanking" = some m.cls := findClass_of_methodNamed Bd.named
  have hnm := (name_of_methodNamed Bd.named Bd.method).1
  have X0 : Stand p l e ({ frames := 0, cells := 0, slots := 0, locals := 0 } : Room) s m #[(.ref t'), (.int (2 : Int32))] below meth c s₁ [] 0 0 := Stand.of_body Bd
  have e0 : s₁.heap = h0 := by rw [← hh, Bd.state]; rfl
  have N0 := Fr.nil n0
  have pre0 : ∀ t, Steps p.tables e below (s₁.setTop (mkF m 0 #[.val (.ref t'), .val (.int (2 : Int32))] [])) t → Steps p.tables e below (s₁.setTop (entryFrame m #[(.ref t'), (.int (2 : Int32))] 2)) t := fun t k => castTop (ef_rm_grade3_2 m t' (2 : Int32)) k
  obtain ⟨T1, X1, e1, st1⟩ := getF X0 hx hZ hown (host := "") (Or.inl (own_w hw 100 rfl)) Via.refl e0 F_r (g := (mkF m 1 #[.val (.ref t'), .val (.int (2 : Int32))] [(.ref t')])) rfl rfl (hb hby d16_1)
  obtain ⟨cl2, Ar2, q2, Sz2, Nn2, Hh2, Gg2⟩ := id A_r
  have in2 : ¬ ((1 : Int32) < 0 ∨ cl2.slots.size ≤ ((1 : Int32)).toNatClampNeg) := by exact inb_of Sz2 ⟨by decide, by decide⟩
  have at2 : cl2.slots[((1 : Int32)).toNatClampNeg]? = some (.int gb) := by
    refine Has.at Hh2 in2 ?_
    rfl
  have S3 : ∀ t, Steps p.tables e below (T1.setTop (mkF m 8 #[.val (.ref t'), .val (.int (2 : Int32))] [(.int gb)])) t → Steps p.tables e below (s₁.setTop (mkF m 0 #[.val (.ref t'), .val (.int (2 : Int32))] [])) t := by
    intro t kt
    refine XS.aloadN X0.here hx rfl (hb hby d16_0) rfl rfl ?_
    show Steps p.tables e below (s₁.setTop (mkF m 1 #[.val (.ref t'), .val (.int (2 : Int32))] [(.ref t')])) _
    refine st1 _ ?_
    refine XS.iloadN X1.here hx rfl (hb hby d16_4) rfl ?_
    refine XS.iconst X1.here hx rfl (hb hby d16_5) ?_
    refine XS.isub X1.here hx rfl (hb hby d16_6) rfl ?_
    show Steps p.tables e below (T1.setTop (mkF m 7 #[.val (.ref t'), .val (.int (2 : Int32))] [(.int (1 : Int32)), (.ref r)])) _
    refine X1.iaload hx (j := (1 : Int32)) (v := (.int gb)) (by rw [e1]; exact Ar2.1) (State.isArrayOf_alike hZ.alike Ar2.2.1) Ar2.2.2 in2 at2 (g := (mkF m 7 #[.val (.ref t'), .val (.int (2 : Int32))] [(.int (1 : Int32)), (.ref r)])) rfl rfl (hb hby d16_7) _ ?_
    exact kt
  obtain ⟨fs, hr, hrun, hended, hW, hsame⟩ := X1.leave (v := some (.int gb)) (fun h => by rw [Bd.returns] at h; cases h)
  refine ⟨_, _, pre0 _ (S3 _ ?_), hrun, hended, _, _, rfl, ?_, ⟨_, rfl⟩, hW, hsame.mono (by decide) (by decide)⟩
  · exact retOut X1 hx Bd.returns rfl (Or.inl ⟨rfl, Or.inl rfl, _, rfl⟩) (hb hby d16_8) hr
  · show Q_rm_grade3_2 Z t' r k' ga gb gc h0 n0 _ T1.heap _
    rw [e1]
    exact ⟨rfl, N0, rfl⟩
theorem ef_rm_grade3_3 (m : MethodId) (x0 : Addr) (x1 : Int32) : entryFrame m #[(.ref x0), (.int x1)] 2 = mkF m 0 #[.val (.ref x0), .val (.int x1)] [] := by first | (simp [entryFrame, mkF, argsToLocals, Value.category]; done) | rfl
def Q_rm_grade3_3 (Z : State) (t' : Addr) (r : Addr) (k' : ClassId) (ga : Int32) (gb : Int32) (gc : Int32) (h0 : Heap) (n0 : Nat) (v : Option Value) (h : Heap) (L : List Loc) : Prop := ((v = some (.int gc)) ∧ (Fr n0 L) ∧ (h = h0))
set_option maxRecDepth 65536 in
set_option maxHeartbeats 40000000 in
theorem rm_grade3_3 (l : Launch) (Z : State) (a0 : Array Value) (hw : ∀ d ∈ tables_1, d.before a0 Z = true) (ws : List Jvm.Cond) (t' : Addr) (r : Addr) (k' : ClassId) (ga : Int32) (gb : Int32) (gc : Int32) (h0 : Heap) (n0 : Nat) (O0 : Old Z n0 h0) (F_r : Fld Z h0 t' "com/example/favonius/favonius/eval/TopicRanking" "retrieved" "[I" (.ref r)) (A_r : Arv Z h0 r k' .int (3 : Int32) [(.int ga), (.int gb), (.int gc)] (.int (0 : Int32))) :
    MetFree l (⟨"com/example/favonius/favonius/eval/TopicRanking", "gradeAt", "(I)I"⟩ : MethodName) (head1 (Jvm.Cond.code (⟨"com/example/favonius/favonius/eval/TopicRanking", "gradeAt", "(I)I"⟩ : MethodName) prog_14_method_3_code 2 (some .int) :: ws) ({ frames := 0, cells := 0, slots := 0, locals := 0 } : Room)) (fun a U => a = #[(.ref t'), (.int (3 : Int32))] ∧ Z.Warmed39 U.vm ∧ U.heap = h0) (fun _ _ _ _ _ => True) (fun _ U o U' => ∃ v L, o = .returned v ∧ Q_rm_grade3_3 Z t' r k' ga gb gc h0 n0 v U'.heap L ∧ FrameEnd U o U' L ({ frames := 0, cells := 0, slots := 0, locals := 0 } : Room).cells ({ frames := 0, cells := 0, slots := 0, locals := 0 } : Room).slots) := by
  refine MetFree.of_bodySF (plainFor_of_name pn_7) hisR ?_
  intro p e s m args below meth c s₁ Bd hml0 hP hK
  obtain ⟨rfl, hZ, hh⟩ := hP
  have hx := Bd.exec
  have hby := Bd.bytes
  have hml : c.maxLocals = 2 := hml0
  have hown : s.vm.findClass "com/example/favonius/favonius/eval/TopicRanking" = some m.cls := findClass_of_methodNamed Bd.named
  have hnm := (name_of_methodNamed Bd.named Bd.method).1
  have X0 : Stand p l e ({ frames := 0, cells := 0, slots := 0, locals := 0 } : Room) s m #[(.ref t'), (.int (3 : Int32))] below meth c s₁ [] 0 0 := Stand.of_body Bd
  have e0 : s₁.heap = h0 := by rw [← hh, Bd.state]; rfl
  have N0 := Fr.nil n0
  have pre0 : ∀ t, Steps p.tables e below (s₁.setTop (mkF m 0 #[.val (.ref t'), .val (.int (3 : Int32))] [])) t → Steps p.tables e below (s₁.setTop (entryFrame m #[(.ref t'), (.int (3 : Int32))] 2)) t := fun t k => castTop (ef_rm_grade3_3 m t' (3 : Int32)) k
  obtain ⟨T1, X1, e1, st1⟩ := getF X0 hx hZ hown (host := "") (Or.inl (own_w hw 100 rfl)) Via.refl e0 F_r (g := (mkF m 1 #[.val (.ref t'), .val (.int (3 : Int32))] [(.ref t')])) rfl rfl (hb hby d16_1)
  obtain ⟨cl2, Ar2, q2, Sz2, Nn2, Hh2, Gg2⟩ := id A_r
  have in2 : ¬ ((2 : Int32) < 0 ∨ cl2.slots.size ≤ ((2 : Int32)).toNatClampNeg) := by exact inb_of Sz2 ⟨by decide, by decide⟩
  have at2 : cl2.slots[((2 : Int32)).toNatClampNeg]? = some (.int gc) := by
    refine Has.at Hh2 in2 ?_
    rfl
  have S3 : ∀ t, Steps p.tables e below (T1.setTop (mkF m 8 #[.val (.ref t'), .val (.int (3 : Int32))] [(.int gc)])) t → Steps p.tables e below (s₁.setTop (mkF m 0 #[.val (.ref t'), .val (.int (3 : Int32))] [])) t := by
    intro t kt
    refine XS.aloadN X0.here hx rfl (hb hby d16_0) rfl rfl ?_
    show Steps p.tables e below (s₁.setTop (mkF m 1 #[.val (.ref t'), .val (.int (3 : Int32))] [(.ref t')])) _
    refine st1 _ ?_
    refine XS.iloadN X1.here hx rfl (hb hby d16_4) rfl ?_
    refine XS.iconst X1.here hx rfl (hb hby d16_5) ?_
    refine XS.isub X1.here hx rfl (hb hby d16_6) rfl ?_
    show Steps p.tables e below (T1.setTop (mkF m 7 #[.val (.ref t'), .val (.int (3 : Int32))] [(.int (2 : Int32)), (.ref r)])) _
    refine X1.iaload hx (j := (2 : Int32)) (v := (.int gc)) (by rw [e1]; exact Ar2.1) (State.isArrayOf_alike hZ.alike Ar2.2.1) Ar2.2.2 in2 at2 (g := (mkF m 7 #[.val (.ref t'), .val (.int (3 : Int32))] [(.int (2 : Int32)), (.ref r)])) rfl rfl (hb hby d16_7) _ ?_
    exact kt
  obtain ⟨fs, hr, hrun, hended, hW, hsame⟩ := X1.leave (v := some (.int gc)) (fun h => by rw [Bd.returns] at h; cases h)
  refine ⟨_, _, pre0 _ (S3 _ ?_), hrun, hended, _, _, rfl, ?_, ⟨_, rfl⟩, hW, hsame.mono (by decide) (by decide)⟩
  · exact retOut X1 hx Bd.returns rfl (Or.inl ⟨rfl, Or.inl rfl, _, rfl⟩) (hb hby d16_8) hr
  · show Q_rm_grade3_3 Z t' r k' ga gb gc h0 n0 _ T1.heap _
    rw [e1]
    exact ⟨rfl, N0, rfl⟩
theorem ef_rm_top3 (m : MethodId) (x0 : Addr) (x1 : Int32) : entryFrame m #[(.ref x0), (.int x1)] 4 = mkF m 0 #[.val (.ref x0), .val (.int x1), .unset, .unset] [] := by first | (simp [entryFrame, mkF, argsToLocals, Value.category]; done) | rfl
def Q_rm_top3 (Z : State) (t' : Addr) (cut : Int32) (r : Addr) (k' : ClassId) (ga : Int32) (gb : Int32) (gc : Int32) (h0 : Heap) (n0 : Nat) (v : Option Value) (h : Heap) (L : List Loc) : Prop := ((v = some (.int (((own_t (0 : Int32) (3 : Int32) cut ga) + (own_t (1 : Int32) (3 : Int32) cut gb)) + (own_t (2 : Int32) (3 : Int32) cut gc)))) ∧ (Fr n0 L) ∧ (h = h0))
set_option maxRecDepth 65536 in
set_option maxHeartbeats 40000000 in
theorem rm_top3 (l : Launch) (Z : State) (a0 : Array Value) (hw : ∀ d ∈ tables_1, d.before a0 Z = true) (ws : List Jvm.Cond) (t' : Addr) (cut : Int32) (r : Addr) (k' : ClassId) (ga : Int32) (gb : Int32) (gc : Int32) (h0 : Heap) (n0 : Nat) (O0 : Old Z n0 h0) (E_t : Exa Z h0 t' "com/example/favonius/favonius/eval/TopicRanking") (F_r : Fld Z h0 t' "com/example/favonius/favonius/eval/TopicRanking" "retrieved" "[I" (.ref r)) (A_r : Arv Z h0 r k' .int (3 : Int32) [(.int ga), (.int gb), (.int gc)] (.int (0 : Int32))) :
    MetFree l (⟨"com/example/favonius/favonius/eval/TopicRanking", "relevantInTop", "(I)I"⟩ : MethodName) (head1 (Jvm.Cond.code (⟨"com/example/favonius/favonius/eval/TopicRanking", "relevantInTop", "(I)I"⟩ : MethodName) prog_14_method_5_code 4 (some .int) :: ws) ({ frames := 1, cells := 0, slots := 0, locals := 14 } : Room)) (fun a U => a = #[(.ref t'), (.int cut)] ∧ Z.Warmed39 U.vm ∧ U.heap = h0) (fun _ _ _ _ _ => True) (fun _ U o U' => ∃ v L, o = .returned v ∧ Q_rm_top3 Z t' cut r k' ga gb gc h0 n0 v U'.heap L ∧ FrameEnd U o U' L ({ frames := 1, cells := 0, slots := 0, locals := 14 } : Room).cells ({ frames := 1, cells := 0, slots := 0, locals := 14 } : Room).slots) := by
  refine MetFree.of_bodySF (plainFor_of_name pn_7) hisR ?_
  intro p e s m args below meth c s₁ Bd hml0 hP hK
  obtain ⟨rfl, hZ, hh⟩ := hP
  have hx := Bd.exec
  have hby := Bd.bytes
  have hml : c.maxLocals = 4 := hml0
  have hown : s.vm.findClass "com/example/favonius/favonius/eval/TopicRanking" = some m.cls := findClass_of_methodNamed Bd.named
  have hnm := (name_of_methodNamed Bd.named Bd.method).1
  have X0 : Stand p l e ({ frames := 1, cells := 0, slots := 0, locals := 14 } : Room) s m #[(.ref t'), (.int cut)] below meth c s₁ [] 0 0 := Stand.of_body Bd
  have e0 : s₁.heap = h0 := by rw [← hh, Bd.state]; rfl
  have N0 := Fr.nil n0
  have pre0 : ∀ t, Steps p.tables e below (s₁.setTop (mkF m 0 #[.val (.ref t'), .val (.int cut), .unset, .unset] [])) t → Steps p.tables e below (s₁.setTop (entryFrame m #[(.ref t'), (.int cut)] 4)) t := fun t k => castTop (ef_rm_top3 m t' cut) k
  obtain ⟨T1, X1, e1, st1⟩ := getF X0 hx hZ hown (host := "") (Or.inl (own_w hw 100 rfl)) Via.refl e0 F_r (g := (mkF m 7 #[.val (.ref t'), .val (.int cut), .val (.int (0 : Int32)), .val (.int (1 : Int32))] [(.ref t'), (.int cut), (.int (1 : Int32))])) rfl rfl (hb hby d15_7)
  obtain ⟨cl2, Ar2, -, Sz2, Nn2, -, -⟩ := id A_r
  obtain ⟨_, _, ⟨T3, L3, k3, n3⟩, -, X3, ⟨Lc3, hQ3, l3, y3, z3⟩, st3⟩ := Jvm.LawKit.callS X1 hx (y := (⟨"java/lang/Math", "min", "(II)I"⟩ : MethodName)) hown (mvT hZ (own_w hw 114 rfl)) (mvT hZ (own_w hw 115 rfl)) (mvT hZ (own_w hw 116 rfl)) (mvT hZ (own_w hw 117 rfl)) (by decide) (backOf (W := 1) (rm_min l Z a0 hw [] cut (3 : Int32) h0 n0 O0 ) hZ (own_w hw 117 rfl) (own_w hw 116 rfl) (by decide) (by decide)) (g := (mkF m 11 #[.val (.ref t'), .val (.int cut), .val (.int (0 : Int32)), .val (.int (1 : Int32))] [(.int (3 : Int32)), (.int cut), (.int (1 : Int32))])) rfl (by rw [hml]; rfl) (argsL := [(.int cut), (.int (3 : Int32))]) (rest := [(.int (1 : Int32))]) (lenOf pd_9 rfl) rfl (by show 2 * 0 + _ ≤ _; exact Nat.le_of_eq rfl) (hb hby d15_11) (fun _ _ => ⟨rfl, e1, (by decide : 0 + 0 ≤ _), (by decide : 0 + 0 ≤ _)⟩)
  dsimp only [Pt.U, Pt.locs, Pt.cells, Pt.slots] at X3 l3 y3 z3 st3 hQ3
  subst l3 y3 z3
  rcases hQ3 with ⟨c4, rfl, N5, k6⟩ | ⟨c7, rfl, N8, k9⟩
  · have N10 := Fr.app N0 N5
    obtain ⟨cq11, kq11, q11a, q11b, q11c⟩ := isOf hZ k6 E_t
    obtain ⟨_, _, ⟨T11, L11, k11, n11⟩, -, X11, ⟨Lc11, hQ11, l11, y11, z11⟩, st11⟩ := X3.virtualBack hx (y := (⟨"com/example/favonius/favonius/eval/TopicRanking", "gradeAt", "(I)I"⟩ : MethodName)) (z := (⟨"com/example/favonius/favonius/eval/TopicRanking", "gradeAt", "(I)I"⟩ : MethodName)) hown (mvT hZ (own_w hw 118 rfl)) (mvT hZ (own_w hw 119 rfl)) (notFace_of_selects (args := #[]) (mvT hZ (own_w hw 121 rfl))) (mvT hZ (own_w hw 121 rfl)) (mvT hZ (own_w hw 120 rfl)) (by decide) (backOf (W := 0) (rm_grade3_1 l Z a0 hw [] t' r k' ga gb gc h0 n0 O0 F_r A_r) hZ (own_w hw 122 rfl) (own_w hw 34 rfl) (by decide) (by decide)) q11a q11c (g := (mkF m 19 #[.val (.ref t'), .val (.int cut), .val (.int (0 : Int32)), .val (.int (1 : Int32))] [(.int (1 : Int32)), (.ref t')])) rfl (by rw [hml]; rfl) (Steps.refl _) (argsL := [(.int (1 : Int32))]) (rest := []) (lenOf pd_10 rfl) rfl (by show 2 * 0 + _ ≤ _; exact Nat.le_of_eq rfl) (hb hby d15_19) (fun _ _ => ⟨rfl, k6, (by decide : 0 + 0 ≤ _), (by decide : 0 + 0 ≤ _)⟩)
    dsimp only [Pt.U, Pt.locs, Pt.cells, Pt.slots] at X11 l11 y11 z11 st11 hQ11
    subst l11 y11 z11
    obtain ⟨rfl, N12, k13⟩ := hQ11
    have N14 := Fr.app N10 N12
    have S15 : ∀ t, Steps p.tables e below (T11.setTop (mkF m 22 #[.val (.ref t'), .val (.int cut), .val (.int (0 : Int32)), .val (.int (1 : Int32))] [(.int ga)])) t → Steps p.tables e below (s₁.setTop (mkF m 0 #[.val (.ref t'), .val (.int cut), .unset, .unset] [])) t := by
      intro t kt
      refine XS.iconst X0.here hx rfl (hb hby d15_0) ?_
      refine XS.istoreN X0.here hx rfl (hb hby d15_1) rfl (l' := #[.val (.ref t'), .val (.int cut), .val (.int (0 : Int32)), .unset]) rfl ?_
      refine XS.iconst X0.here hx rfl (hb hby d15_2) ?_
      refine XS.istoreN X0.here hx rfl (hb hby d15_3) rfl (l' := #[.val (.ref t'), .val (.int cut), .val (.int (0 : Int32)), .val (.int (1 : Int32))]) rfl ?_
      refine XS.iloadN X0.here hx rfl (hb hby d15_4) rfl ?_
      refine XS.iloadN X0.here hx rfl (hb hby d15_5) rfl ?_
      show Steps p.tables e below (s₁.setTop (mkF m 6 #[.val (.ref t'), .val (.int cut), .val (.int (0 : Int32)), .val (.int (1 : Int32))] [(.int cut), (.int (1 : Int32))])) _
      refine XS.aloadN X0.here hx rfl (hb hby d15_6) rfl rfl ?_
      show Steps p.tables e below (s₁.setTop (mkF m 7 #[.val (.ref t'), .val (.int cut), .val (.int (0 : Int32)), .val (.int (1 : Int32))] [(.ref t'), (.int cut), (.int (1 : Int32))])) _
      refine st1 _ ?_
      show Steps p.tables e below (T1.setTop (mkF m 10 #[.val (.ref t'), .val (.int cut), .val (.int (0 : Int32)), .val (.int (1 : Int32))] [(.ref r), (.int cut), (.int (1 : Int32))])) _
      refine X1.arraylength hx (by rw [e1]; exact Ar2.1) (State.isArrayOf_alike hZ.alike Ar2.2.1) (g := (mkF m 10 #[.val (.ref t'), .val (.int cut), .val (.int (0 : Int32)), .val (.int (1 : Int32))] [(.ref r), (.int cut), (.int (1 : Int32))])) rfl rfl (hb hby d15_10) _ ?_
      rw [len_of Sz2 Nn2]
      show Steps p.tables e below (T1.setTop (mkF m 11 #[.val (.ref t'), .val (.int cut), .val (.int (0 : Int32)), .val (.int (1 : Int32))] [(.int (3 : Int32)), (.int cut), (.int (1 : Int32))])) _
      refine st3 _ ?_
      refine XS.icmpNo X3.here hx rfl (hb hby d15_14) rfl (flt ((by decide) : ¬ ((3 : Int32) < (1 : Int32)))).2.2.1 ?_
      refine XS.aloadN X3.here hx rfl (hb hby d15_17) rfl rfl ?_
      refine XS.iloadN X3.here hx rfl (hb hby d15_18) rfl ?_
      show Steps p.tables e below (T3.setTop (mkF m 19 #[.val (.ref t'), .val (.int cut), .val (.int (0 : Int32)), .val (.int (1 : Int32))] [(.int (1 : Int32)), (.ref t')])) _
      refine st11.trans ?_
      exact kt
    have S16 : ∀ t, Steps p.tables e below (T11.setTop (mkF m 28 #[.val (.ref t'), .val (.int cut), .val (.int ((0 : Int32) + (own_t (0 : Int32) (3 : Int32) cut ga))), .val (.int (1 : Int32))] [])) t → Steps p.tables e below (s₁.setTop (mkF m 0 #[.val (.ref t'), .val (.int cut), .unset, .unset] [])) t := by
      intro t kt
      rcases Decidable.em ((0 : Int32) < ga) with c17 | c17
      · rw [own_t1 (by decide : (0 : Int32) < (3 : Int32)) (own_b6 c4 (by decide)) c17] at kt
        refine S15 t ?_
        refine XS.ifNo X11.here hx rfl (hb hby d15_22) rfl ((if0 _ _).trans (tlt (c17 : (0 : Int32) < ga)).2.2.2) ?_
        refine XS.iinc X11.here hx rfl (hb hby d15_25) rfl (l' := #[.val (.ref t'), .val (.int cut), .val (.int (1 : Int32)), .val (.int (1 : Int32))]) rfl ?_
        exact kt
      · rw [own_t0c c17, Int32.add_zero] at kt
        refine S15 t ?_
        refine XS.ifYes X11.here hx rfl (pc0 := 22) (pc' := 28) rfl (hb hby d15_22) rfl ((if0 _ _).trans (flt (c17 : ¬ ((0 : Int32) < ga))).2.2.2) (by decide) (by decide) ?_
        exact kt
    obtain ⟨T18, X18, e18, st18⟩ := getF X11 hx hZ hown (host := "") (Or.inl (own_w hw 100 rfl)) Via.refl k13 F_r (g := (mkF m 7 #[.val (.ref t'), .val (.int cut), .val (.int ((0 : Int32) + (own_t (0 : Int32) (3 : Int32) cut ga))), .val (.int (2 : Int32))] [(.ref t'), (.int cut), (.int (2 : Int32))])) rfl rfl (hb hby d15_7)
    obtain ⟨cl19, Ar19, -, Sz19, Nn19, -, -⟩ := id A_r
    obtain ⟨_, _, ⟨T20, L20, k20, n20⟩, -, X20, ⟨Lc20, hQ20, l20, y20, z20⟩, st20⟩ := Jvm.LawKit.callS X18 hx (y := (⟨"java/lang/Math", "min", "(II)I"⟩ : MethodName)) hown (mvT hZ (own_w hw 114 rfl)) (mvT hZ (own_w hw 115 rfl)) (mvT hZ (own_w hw 116 rfl)) (mvT hZ (own_w hw 117 rfl)) (by decide) (backOf (W := 1) (rm_min l Z a0 hw [] cut (3 : Int32) h0 n0 O0 ) hZ (own_w hw 117 rfl) (own_w hw 116 rfl) (by decide) (by decide)) (g := (mkF m 11 #[.val (.ref t'), .val (.int cut), .val (.int ((0 : Int32) + (own_t (0 : Int32) (3 : Int32) cut ga))), .val (.int (2 : Int32))] [(.int (3 : Int32)), (.int cut), (.int (2 : Int32))])) rfl (by rw [hml]; rfl) (argsL := [(.int cut), (.int (3 : Int32))]) (rest := [(.int (2 : Int32))]) (lenOf pd_9 rfl) rfl (by show 2 * 0 + _ ≤ _; exact Nat.le_of_eq rfl) (hb hby d15_11) (fun _ _ => ⟨rfl, e18, (by decide : 0 + 0 ≤ _), (by decide : 0 + 0 ≤ _)⟩)
    dsimp only [Pt.U, Pt.locs, Pt.cells, Pt.slots] at X20 l20 y20 z20 st20 hQ20
    subst l20 y20 z20
    rcases hQ20 with ⟨c21, rfl, N22, k23⟩ | ⟨c24, rfl, N25, k26⟩
    · have N27 := Fr.app N14 N22
      obtain ⟨cq28, kq28, q28a, q28b, q28c⟩ := isOf hZ k23 E_t
      obtain ⟨_, _, ⟨T28, L28, k28, n28⟩, -, X28, ⟨Lc28, hQ28, l28, y28, z28⟩, st28⟩ := X20.virtualBack hx (y := (⟨"com/example/favonius/favonius/eval/TopicRanking", "gradeAt", "(I)I"⟩ : MethodName)) (z := (⟨"com/example/favonius/favonius/eval/TopicRanking", "gradeAt", "(I)I"⟩ : MethodName)) hown (mvT hZ (own_w hw 118 rfl)) (mvT hZ (own_w hw 119 rfl)) (notFace_of_selects (args := #[]) (mvT hZ (own_w hw 121 rfl))) (mvT hZ (own_w hw 121 rfl)) (mvT hZ (own_w hw 120 rfl)) (by decide) (backOf (W := 0) (rm_grade3_2 l Z a0 hw [] t' r k' ga gb gc h0 n0 O0 F_r A_r) hZ (own_w hw 122 rfl) (own_w hw 34 rfl) (by decide) (by decide)) q28a q28c (g := (mkF m 19 #[.val (.ref t'), .val (.int cut), .val (.int ((0 : Int32) + (own_t (0 : Int32) (3 : Int32) cut ga))), .val (.int (2 : Int32))] [(.int (2 : Int32)), (.ref t')])) rfl (by rw [hml]; rfl) (Steps.refl _) (argsL := [(.int (2 : Int32))]) (rest := []) (lenOf pd_10 rfl) rfl (by show 2 * 0 + _ ≤ _; exact Nat.le_of_eq rfl) (hb hby d15_19) (fun _ _ => ⟨rfl, k23, (by decide : 0 + 0 ≤ _), (by decide : 0 + 0 ≤ _)⟩)
      dsimp only [Pt.U, Pt.locs, Pt.cells, Pt.slots] at X28 l28 y28 z28 st28 hQ28
      subst l28 y28 z28
      obtain ⟨rfl, N29, k30⟩ := hQ28
      have N31 := Fr.app N27 N29
      have S32 : ∀ t, Steps p.tables e below (T28.setTop (mkF m 22 #[.val (.ref t'), .val (.int cut), .val (.int ((0 : Int32) + (own_t (0 : Int32) (3 : Int32) cut ga))), .val (.int (2 : Int32))] [(.int gb)])) t → Steps p.tables e below (s₁.setTop (mkF m 0 #[.val (.ref t'), .val (.int cut), .unset, .unset] [])) t := by
        intro t kt
        refine S16 t ?_
        refine XS.iinc X11.here hx rfl (hb hby d15_28) rfl (l' := #[.val (.ref t'), .val (.int cut), .val (.int ((0 : Int32) + (own_t (0 : Int32) (3 : Int32) cut ga))), .val (.int (2 : Int32))]) rfl ?_
        refine XS.goto X11.here hx rfl (pc0 := 31) (pc' := 4) rfl (hb hby d15_31) (by decide) (by decide) ?_
        refine XS.iloadN X11.here hx rfl (hb hby d15_4) rfl ?_
        refine XS.iloadN X11.here hx rfl (hb hby d15_5) rfl ?_
        refine XS.aloadN X11.here hx rfl (hb hby d15_6) rfl rfl ?_
        show Steps p.tables e below (T11.setTop (mkF m 7 #[.val (.ref t'), .val (.int cut), .val (.int ((0 : Int32) + (own_t (0 : Int32) (3 : Int32) cut ga))), .val (.int (2 : Int32))] [(.ref t'), (.int cut), (.int (2 : Int32))])) _
        refine st18 _ ?_
        show Steps p.tables e below (T18.setTop (mkF m 10 #[.val (.ref t'), .val (.int cut), .val (.int ((0 : Int32) + (own_t (0 : Int32) (3 : Int32) cut ga))), .val (.int (2 : Int32))] [(.ref r), (.int cut), (.int (2 : Int32))])) _
        refine X18.arraylength hx (by rw [e18]; exact Ar19.1) (State.isArrayOf_alike hZ.alike Ar19.2.1) (g := (mkF m 10 #[.val (.ref t'), .val (.int cut), .val (.int ((0 : Int32) + (own_t (0 : Int32) (3 : Int32) cut ga))), .val (.int (2 : Int32))] [(.ref r), (.int cut), (.int (2 : Int32))])) rfl rfl (hb hby d15_10) _ ?_
        rw [len_of Sz19 Nn19]
        show Steps p.tables e below (T18.setTop (mkF m 11 #[.val (.ref t'), .val (.int cut), .val (.int ((0 : Int32) + (own_t (0 : Int32) (3 : Int32) cut ga))), .val (.int (2 : Int32))] [(.int (3 : Int32)), (.int cut), (.int (2 : Int32))])) _
        refine st20 _ ?_
        refine XS.icmpNo X20.here hx rfl (hb hby d15_14) rfl (flt ((by decide) : ¬ ((3 : Int32) < (2 : Int32)))).2.2.1 ?_
        refine XS.aloadN X20.here hx rfl (hb hby d15_17) rfl rfl ?_
        refine XS.iloadN X20.here hx rfl (hb hby d15_18) rfl ?_
        show Steps p.tables e below (T20.setTop (mkF m 19 #[.val (.ref t'), .val (.int cut), .val (.int ((0 : Int32) + (own_t (0 : Int32) (3 : Int32) cut ga))), .val (.int (2 : Int32))] [(.int (2 : Int32)), (.ref t')])) _
        refine st28.trans ?_
        exact kt
      have S33 : ∀ t, Steps p.tables e below (T28.setTop (mkF m 28 #[.val (.ref t'), .val (.int cut), .val (.int (((0 : Int32) + (own_t (0 : Int32) (3 : Int32) cut ga)) + (own_t (1 : Int32) (3 : Int32) cut gb))), .val (.int (2 : Int32))] [])) t → Steps p.tables e below (s₁.setTop (mkF m 0 #[.val (.ref t'), .val (.int cut), .unset, .unset] [])) t := by
        intro t kt
        rcases Decidable.em ((0 : Int32) < gb) with c34 | c34
        · rw [own_t1 (by decide : (1 : Int32) < (3 : Int32)) (own_b6 c21 (by decide)) c34] at kt
          refine S32 t ?_
          refine XS.ifNo X28.here hx rfl (hb hby d15_22) rfl ((if0 _ _).trans (tlt (c34 : (0 : Int32) < gb)).2.2.2) ?_
          refine XS.iinc X28.here hx rfl (hb hby d15_25) rfl (l' := #[.val (.ref t'), .val (.int cut), .val (.int (((0 : Int32) + (own_t (0 : Int32) (3 : Int32) cut ga)) + (1 : Int32))), .val (.int (2 : Int32))]) rfl ?_
          exact kt
        · rw [own_t0c c34, Int32.add_zero] at kt
          refine S32 t ?_
          refine XS.ifYes X28.here hx rfl (pc0 := 22) (pc' := 28) rfl (hb hby d15_22) rfl ((if0 _ _).trans (flt (c34 : ¬ ((0 : Int32) < gb))).2.2.2) (by decide) (by decide) ?_
          exact kt
      obtain ⟨T35, X35, e35, st35⟩ := getF X28 hx hZ hown (host := "") (Or.inl (own_w hw 100 rfl)) Via.refl k30 F_r (g := (mkF m 7 #[.val (.ref t'), .val (.int cut), .val (.int (((0 : Int32) + (own_t (0 : Int32) (3 : Int32) cut ga)) + (own_t (1 : Int32) (3 : Int32) cut gb))), .val (.int (3 : Int32))] [(.ref t'), (.int cut), (.int (3 : Int32))])) rfl rfl (hb hby d15_7)
      obtain ⟨cl36, Ar36, -, Sz36, Nn36, -, -⟩ := id A_r
      obtain ⟨_, _, ⟨T37, L37, k37, n37⟩, -, X37, ⟨Lc37, hQ37, l37, y37, z37⟩, st37⟩ := Jvm.LawKit.callS X35 hx (y := (⟨"java/lang/Math", "min", "(II)I"⟩ : MethodName)) hown (mvT hZ (own_w hw 114 rfl)) (mvT hZ (own_w hw 115 rfl)) (mvT hZ (own_w hw 116 rfl)) (mvT hZ (own_w hw 117 rfl)) (by decide) (backOf (W := 1) (rm_min l Z a0 hw [] cut (3 : Int32) h0 n0 O0 ) hZ (own_w hw 117 rfl) (own_w hw 116 rfl) (by decide) (by decide)) (g := (mkF m 11 #[.val (.ref t'), .val (.int cut), .val (.int (((0 : Int32) + (own_t (0 : Int32) (3 : Int32) cut ga)) + (own_t (1 : Int32) (3 : Int32) cut gb))), .val (.int (3 : Int32))] [(.int (3 : Int32)), (.int cut), (.int (3 : Int32))])) rfl (by rw [hml]; rfl) (argsL := [(.int cut), (.int (3 : Int32))]) (rest := [(.int (3 : Int32))]) (lenOf pd_9 rfl) rfl (by show 2 * 0 + _ ≤ _; exact Nat.le_of_eq rfl) (hb hby d15_11) (fun _ _ => ⟨rfl, e35, (by decide : 0 + 0 ≤ _), (by decide : 0 + 0 ≤ _)⟩)
      dsimp only [Pt.U, Pt.locs, Pt.cells, Pt.slots] at X37 l37 y37 z37 st37 hQ37
      subst l37 y37 z37
      rcases hQ37 with ⟨c38, rfl, N39, k40⟩ | ⟨c41, rfl, N42, k43⟩
      · have N44 := Fr.app N31 N39
        obtain ⟨cq45, kq45, q45a, q45b, q45c⟩ := isOf hZ k40 E_t
        obtain ⟨_, _, ⟨T45, L45, k45, n45⟩, -, X45, ⟨Lc45, hQ45, l45, y45, z45⟩, st45⟩ := X37.virtualBack hx (y := (⟨"com/example/favonius/favonius/eval/TopicRanking", "gradeAt", "(I)I"⟩ : MethodName)) (z := (⟨"com/example/favonius/favonius/eval/TopicRanking", "gradeAt", "(I)I"⟩ : MethodName)) hown (mvT hZ (own_w hw 118 rfl)) (mvT hZ (own_w hw 119 rfl)) (notFace_of_selects (args := #[]) (mvT hZ (own_w hw 121 rfl))) (mvT hZ (own_w hw 121 rfl)) (mvT hZ (own_w hw 120 rfl)) (by decide) (backOf (W := 0) (rm_grade3_3 l Z a0 hw [] t' r k' ga gb gc h0 n0 O0 F_r A_r) hZ (own_w hw 122 rfl) (own_w hw 34 rfl) (by decide) (by decide)) q45a q45c (g := (mkF m 19 #[.val (.ref t'), .val (.int cut), .val (.int (((0 : Int32) + (own_t (0 : Int32) (3 : Int32) cut ga)) + (own_t (1 : Int32) (3 : Int32) cut gb))), .val (.int (3 : Int32))] [(.int (3 : Int32)), (.ref t')])) rfl (by rw [hml]; rfl) (Steps.refl _) (argsL := [(.int (3 : Int32))]) (rest := []) (lenOf pd_10 rfl) rfl (by show 2 * 0 + _ ≤ _; exact Nat.le_of_eq rfl) (hb hby d15_19) (fun _ _ => ⟨rfl, k40, (by decide : 0 + 0 ≤ _), (by decide : 0 + 0 ≤ _)⟩)
        dsimp only [Pt.U, Pt.locs, Pt.cells, Pt.slots] at X45 l45 y45 z45 st45 hQ45
        subst l45 y45 z45
        obtain ⟨rfl, N46, k47⟩ := hQ45
        have N48 := Fr.app N44 N46
        have S49 : ∀ t, Steps p.tables e below (T45.setTop (mkF m 22 #[.val (.ref t'), .val (.int cut), .val (.int (((0 : Int32) + (own_t (0 : Int32) (3 : Int32) cut ga)) + (own_t (1 : Int32) (3 : Int32) cut gb))), .val (.int (3 : Int32))] [(.int gc)])) t → Steps p.tables e below (s₁.setTop (mkF m 0 #[.val (.ref t'), .val (.int cut), .unset, .unset] [])) t := by
          intro t kt
          refine S33 t ?_
          refine XS.iinc X28.here hx rfl (hb hby d15_28) rfl (l' := #[.val (.ref t'), .val (.int cut), .val (.int (((0 : Int32) + (own_t (0 : Int32) (3 : Int32) cut ga)) + (own_t (1 : Int32) (3 : Int32) cut gb))), .val (.int (3 : Int32))]) rfl ?_
          refine XS.goto X28.here hx rfl (pc0 := 31) (pc' := 4) rfl (hb hby d15_31) (by decide) (by decide) ?_
          refine XS.iloadN X28.here hx rfl (hb hby d15_4) rfl ?_
          refine XS.iloadN X28.here hx rfl (hb hby d15_5) rfl ?_
          refine XS.aloadN X28.here hx rfl (hb hby d15_6) rfl rfl ?_
          show Steps p.tables e below (T28.setTop (mkF m 7 #[.val (.ref t'), .val (.int cut), .val (.int (((0 : Int32) + (own_t (0 : Int32) (3 : Int32) cut ga)) + (own_t (1 : Int32) (3 : Int32) cut gb))), .val (.int (3 : Int32))] [(.ref t'), (.int cut), (.int (3 : Int32))])) _
          refine st35 _ ?_
          show Steps p.tables e below (T35.setTop (mkF m 10 #[.val (.ref t'), .val (.int cut), .val (.int (((0 : Int32) + (own_t (0 : Int32) (3 : Int32) cut ga)) + (own_t (1 : Int32) (3 : Int32) cut gb))), .val (.int (3 : Int32))] [(.ref r), (.int cut), (.int (3 : Int32))])) _
          refine X35.arraylength hx (by rw [e35]; exact Ar36.1) (State.isArrayOf_alike hZ.alike Ar36.2.1) (g := (mkF m 10 #[.val (.ref t'), .val (.int cut), .val (.int (((0 : Int32) + (own_t (0 : Int32) (3 : Int32) cut ga)) + (own_t (1 : Int32) (3 : Int32) cut gb))), .val (.int (3 : Int32))] [(.ref r), (.int cut), (.int (3 : Int32))])) rfl rfl (hb hby d15_10) _ ?_
          rw [len_of Sz36 Nn36]
          show Steps p.tables e below (T35.setTop (mkF m 11 #[.val (.ref t'), .val (.int cut), .val (.int (((0 : Int32) + (own_t (0 : Int32) (3 : Int32) cut ga)) + (own_t (1 : Int32) (3 : Int32) cut gb))), .val (.int (3 : Int32))] [(.int (3 : Int32)), (.int cut), (.int (3 : Int32))])) _
          refine st37 _ ?_
          refine XS.icmpNo X37.here hx rfl (hb hby d15_14) rfl (flt ((by decide) : ¬ ((3 : Int32) < (3 : Int32)))).2.2.1 ?_
          refine XS.aloadN X37.here hx rfl (hb hby d15_17) rfl rfl ?_
          refine XS.iloadN X37.here hx rfl (hb hby d15_18) rfl ?_
          show Steps p.tables e below (T37.setTop (mkF m 19 #[.val (.ref t'), .val (.int cut), .val (.int (((0 : Int32) + (own_t (0 : Int32) (3 : Int32) cut ga)) + (own_t (1 : Int32) (3 : Int32) cut gb))), .val (.int (3 : Int32))] [(.int (3 : Int32)), (.ref t')])) _
          refine st45.trans ?_
          exact kt
        have S50 : ∀ t, Steps p.tables e below (T45.setTop (mkF m 28 #[.val (.ref t'), .val (.int cut), .val (.int ((((0 : Int32) + (own_t (0 : Int32) (3 : Int32) cut ga)) + (own_t (1 : Int32) (3 : Int32) cut gb)) + (own_t (2 : Int32) (3 : Int32) cut gc))), .val (.int (3 : Int32))] [])) t → Steps p.tables e below (s₁.setTop (mkF m 0 #[.val (.ref t'), .val (.int cut), .unset, .unset] [])) t := by
          intro t kt
          rcases Decidable.em ((0 : Int32) < gc) with c51 | c51
          · rw [own_t1 (by decide : (2 : Int32) < (3 : Int32)) (own_b6 c38 (by decide)) c51] at kt
            refine S49 t ?_
            refine XS.ifNo X45.here hx rfl (hb hby d15_22) rfl ((if0 _ _).trans (tlt (c51 : (0 : Int32) < gc)).2.2.2) ?_
            refine XS.iinc X45.here hx rfl (hb hby d15_25) rfl (l' := #[.val (.ref t'), .val (.int cut), .val (.int ((((0 : Int32) + (own_t (0 : Int32) (3 : Int32) cut ga)) + (own_t (1 : Int32) (3 : Int32) cut gb)) + (1 : Int32))), .val (.int (3 : Int32))]) rfl ?_
            exact kt
          · rw [own_t0c c51, Int32.add_zero] at kt
            refine S49 t ?_
            refine XS.ifYes X45.here hx rfl (pc0 := 22) (pc' := 28) rfl (hb hby d15_22) rfl ((if0 _ _).trans (flt (c51 : ¬ ((0 : Int32) < gc))).2.2.2) (by decide) (by decide) ?_
            exact kt
        obtain ⟨T52, X52, e52, st52⟩ := getF X45 hx hZ hown (host := "") (Or.inl (own_w hw 100 rfl)) Via.refl k47 F_r (g := (mkF m 7 #[.val (.ref t'), .val (.int cut), .val (.int ((((0 : Int32) + (own_t (0 : Int32) (3 : Int32) cut ga)) + (own_t (1 : Int32) (3 : Int32) cut gb)) + (own_t (2 : Int32) (3 : Int32) cut gc))), .val (.int (4 : Int32))] [(.ref t'), (.int cut), (.int (4 : Int32))])) rfl rfl (hb hby d15_7)
        obtain ⟨cl53, Ar53, -, Sz53, Nn53, -, -⟩ := id A_r
        obtain ⟨_, _, ⟨T54, L54, k54, n54⟩, -, X54, ⟨Lc54, hQ54, l54, y54, z54⟩, st54⟩ := Jvm.LawKit.callS X52 hx (y := (⟨"java/lang/Math", "min", "(II)I"⟩ : MethodName)) hown (mvT hZ (own_w hw 114 rfl)) (mvT hZ (own_w hw 115 rfl)) (mvT hZ (own_w hw 116 rfl)) (mvT hZ (own_w hw 117 rfl)) (by decide) (backOf (W := 1) (rm_min l Z a0 hw [] cut (3 : Int32) h0 n0 O0 ) hZ (own_w hw 117 rfl) (own_w hw 116 rfl) (by decide) (by decide)) (g := (mkF m 11 #[.val (.ref t'), .val (.int cut), .val (.int ((((0 : Int32) + (own_t (0 : Int32) (3 : Int32) cut ga)) + (own_t (1 : Int32) (3 : Int32) cut gb)) + (own_t (2 : Int32) (3 : Int32) cut gc))), .val (.int (4 : Int32))] [(.int (3 : Int32)), (.int cut), (.int (4 : Int32))])) rfl (by rw [hml]; rfl) (argsL := [(.int cut), (.int (3 : Int32))]) (rest := [(.int (4 : Int32))]) (lenOf pd_9 rfl) rfl (by show 2 * 0 + _ ≤ _; exact Nat.le_of_eq rfl) (hb hby d15_11) (fun _ _ => ⟨rfl, e52, (by decide : 0 + 0 ≤ _), (by decide : 0 + 0 ≤ _)⟩)
        dsimp only [Pt.U, Pt.locs, Pt.cells, Pt.slots] at X54 l54 y54 z54 st54 hQ54
        subst l54 y54 z54
        rcases hQ54 with ⟨c55, rfl, N56, k57⟩ | ⟨c58, rfl, N59, k60⟩
        · have N61 := Fr.app N48 N56
          have S62 : ∀ t, Steps p.tables e below (T54.setTop (mkF m 35 #[.val (.ref t'), .val (.int cut), .val (.int ((((0 : Int32) + (own_t (0 : Int32) (3 : Int32) cut ga)) + (own_t (1 : Int32) (3 : Int32) cut gb)) + (own_t (2 : Int32) (3 : Int32) cut gc))), .val (.int (4 : Int32))] [(.int ((((0 : Int32) + (own_t (0 : Int32) (3 : Int32) cut ga)) + (own_t (1 : Int32) (3 : Int32) cut gb)) + (own_t (2 : Int32) (3 : Int32) cut gc)))])) t → Steps p.tables e below (s₁.setTop (mkF m 0 #[.val (.ref t'), .val (.int cut), .unset, .unset] [])) t := by
            intro t kt
            refine S50 t ?_
            refine XS.iinc X45.here hx rfl (hb hby d15_28) rfl (l' := #[.val (.ref t'), .val (.int cut), .val (.int ((((0 : Int32) + (own_t (0 : Int32) (3 : Int32) cut ga)) + (own_t (1 : Int32) (3 : Int32) cut gb)) + (own_t (2 : Int32) (3 : Int32) cut gc))), .val (.int (4 : Int32))]) rfl ?_
            refine XS.goto X45.here hx rfl (pc0 := 31) (pc' := 4) rfl (hb hby d15_31) (by decide) (by decide) ?_
            refine XS.iloadN X45.here hx rfl (hb hby d15_4) rfl ?_
            refine XS.iloadN X45.here hx rfl (hb hby d15_5) rfl ?_
            refine XS.aloadN X45.here hx rfl (hb hby d15_6) rfl rfl ?_
            show Steps p.tables e below (T45.setTop (mkF m 7 #[.val (.ref t'), .val (.int cut), .val (.int ((((0 : Int32) + (own_t (0 : Int32) (3 : Int32) cut ga)) + (own_t (1 : Int32) (3 : Int32) cut gb)) + (own_t (2 : Int32) (3 : Int32) cut gc))), .val (.int (4 : Int32))] [(.ref t'), (.int cut), (.int (4 : Int32))])) _
            refine st52 _ ?_
            show Steps p.tables e below (T52.setTop (mkF m 10 #[.val (.ref t'), .val (.int cut), .val (.int ((((0 : Int32) + (own_t (0 : Int32) (3 : Int32) cut ga)) + (own_t (1 : Int32) (3 : Int32) cut gb)) + (own_t (2 : Int32) (3 : Int32) cut gc))), .val (.int (4 : Int32))] [(.ref r), (.int cut), (.int (4 : Int32))])) _
            refine X52.arraylength hx (by rw [e52]; exact Ar53.1) (State.isArrayOf_alike hZ.alike Ar53.2.1) (g := (mkF m 10 #[.val (.ref t'), .val (.int cut), .val (.int ((((0 : Int32) + (own_t (0 : Int32) (3 : Int32) cut ga)) + (own_t (1 : Int32) (3 : Int32) cut gb)) + (own_t (2 : Int32) (3 : Int32) cut gc))), .val (.int (4 : Int32))] [(.ref r), (.int cut), (.int (4 : Int32))])) rfl rfl (hb hby d15_10) _ ?_
            rw [len_of Sz53 Nn53]
            show Steps p.tables e below (T52.setTop (mkF m 11 #[.val (.ref t'), .val (.int cut), .val (.int ((((0 : Int32) + (own_t (0 : Int32) (3 : Int32) cut ga)) + (own_t (1 : Int32) (3 : Int32) cut gb)) + (own_t (2 : Int32) (3 : Int32) cut gc))), .val (.int (4 : Int32))] [(.int (3 : Int32)), (.int cut), (.int (4 : Int32))])) _
            refine st54 _ ?_
            refine XS.icmpYes X54.here hx rfl (pc0 := 14) (pc' := 34) rfl (hb hby d15_14) rfl (tlt ((by decide) : (3 : Int32) < (4 : Int32))).2.2.1 (by decide) (by decide) ?_
            refine XS.iloadN X54.here hx rfl (hb hby d15_34) rfl ?_
            exact kt
          obtain ⟨fs, hr, hrun, hended, hW, hsame⟩ := X54.leave (v := some (.int ((((0 : Int32) + (own_t (0 : Int32) (3 : Int32) cut ga)) + (own_t (1 : Int32) (3 : Int32) cut gb)) + (own_t (2 : Int32) (3 : Int32) cut gc)))) (fun h => by rw [Bd.returns] at h; cases h)
          refine ⟨_, _, pre0 _ (S62 _ ?_), hrun, hended, _, _, rfl, ?_, ⟨_, rfl⟩, hW, hsame.mono (by decide) (by decide)⟩
          · exact retOut X54 hx Bd.returns rfl (Or.inl ⟨rfl, Or.inl rfl, _, rfl⟩) (hb hby d15_35) hr
          · show Q_rm_top3 Z t' cut r k' ga gb gc h0 n0 _ T54.heap _
            rw [k57]
            exact ⟨(congrArg (fun z => some (Value.int z)) (by simp only [Int32.add_zero, Int32.zero_add])), N61, rfl⟩
        · exact absurd (c38 : (3 : Int32) < cut) c58
      · exact absurd (c21 : (3 : Int32) < cut) c41
    · exact absurd (c4 : (3 : Int32) < cut) c24
  · have N63 := Fr.app N0 N8
    have S64 : ∀ t, Steps p.tables e below (T3.setTop (mkF m 14 #[.val (.ref t'), .val (.int cut), .val (.int (0 : Int32)), .val (.int (1 : Int32))] [(.int cut), (.int (1 : Int32))])) t → Steps p.tables e below (s₁.setTop (mkF m 0 #[.val (.ref t'), .val (.int cut), .unset, .unset] [])) t := by
      intro t kt
      refine XS.iconst X0.here hx rfl (hb hby d15_0) ?_
      refine XS.istoreN X0.here hx rfl (hb hby d15_1) rfl (l' := #[.val (.ref t'), .val (.int cut), .val (.int (0 : Int32)), .unset]) rfl ?_
      refine XS.iconst X0.here hx rfl (hb hby d15_2) ?_
      refine XS.istoreN X0.here hx rfl (hb hby d15_3) rfl (l' := #[.val (.ref t'), .val (.int cut), .val (.int (0 : Int32)), .val (.int (1 : Int32))]) rfl ?_
      refine XS.iloadN X0.here hx rfl (hb hby d15_4) rfl ?_
      refine XS.iloadN X0.here hx rfl (hb hby d15_5) rfl ?_
      show Steps p.tables e below (s₁.setTop (mkF m 6 #[.val (.ref t'), .val (.int cut), .val (.int (0 : Int32)), .val (.int (1 : Int32))] [(.int cut), (.int (1 : Int32))])) _
      refine XS.aloadN X0.here hx rfl (hb hby d15_6) rfl rfl ?_
      show Steps p.tables e below (s₁.setTop (mkF m 7 #[.val (.ref t'), .val (.int cut), .val (.int (0 : Int32)), .val (.int (1 : Int32))] [(.ref t'), (.int cut), (.int (1 : Int32))])) _
      refine st1 _ ?_
      show Steps p.tables e below (T1.setTop (mkF m 10 #[.val (.ref t'), .val (.int cut), .val (.int (0 : Int32)), .val (.int (1 : Int32))] [(.ref r), (.int cut), (.int (1 : Int32))])) _
      refine X1.arraylength hx (by rw [e1]; exact Ar2.1) (State.isArrayOf_alike hZ.alike Ar2.2.1) (g := (mkF m 10 #[.val (.ref t'), .val (.int cut), .val (.int (0 : Int32)), .val (.int (1 : Int32))] [(.ref r), (.int cut), (.int (1 : Int32))])) rfl rfl (hb hby d15_10) _ ?_
      rw [len_of Sz2 Nn2]
      show Steps p.tables e below (T1.setTop (mkF m 11 #[.val (.ref t'), .val (.int cut), .val (.int (0 : Int32)), .val (.int (1 : Int32))] [(.int (3 : Int32)), (.int cut), (.int (1 : Int32))])) _
      refine st3 _ ?_
      exact kt
    rcases Decidable.em (cut < (1 : Int32)) with c65 | c65
    · have S66 : ∀ t, Steps p.tables e below (T3.setTop (mkF m 35 #[.val (.ref t'), .val (.int cut), .val (.int (0 : Int32)), .val (.int (1 : Int32))] [(.int (0 : Int32))])) t → Steps p.tables e below (s₁.setTop (mkF m 0 #[.val (.ref t'), .val (.int cut), .unset, .unset] [])) t := by
        intro t kt
        refine S64 t ?_
        refine XS.icmpYes X3.here hx rfl (pc0 := 14) (pc' := 34) rfl (hb hby d15_14) rfl (tlt (c65 : cut < (1 : Int32))).2.2.1 (by decide) (by decide) ?_
        refine XS.iloadN X3.here hx rfl (hb hby d15_34) rfl ?_
        exact kt
      have u67 : own_t (0 : Int32) (3 : Int32) cut ga = (0 : Int32) := own_t0b (own_b2 c65 (by decide))
      have u68 : own_t (1 : Int32) (3 : Int32) cut gb = (0 : Int32) := own_t0b (own_b2 c65 (by decide))
      have u69 : own_t (2 : Int32) (3 : Int32) cut gc = (0 : Int32) := own_t0b (own_b2 c65 (by decide))
      obtain ⟨fs, hr, hrun, hended, hW, hsame⟩ := X3.leave (v := some (.int (0 : Int32))) (fun h => by rw [Bd.returns] at h; cases h)
      refine ⟨_, _, pre0 _ (S66 _ ?_), hrun, hended, _, _, rfl, ?_, ⟨_, rfl⟩, hW, hsame.mono (by decide) (by decide)⟩
      · exact retOut X3 hx Bd.returns rfl (Or.inl ⟨rfl, Or.inl rfl, _, rfl⟩) (hb hby d15_35) hr
      · show Q_rm_top3 Z t' cut r k' ga gb gc h0 n0 _ T3.heap _
        rw [k9]
        exact ⟨(congrArg (fun z => some (Value.int z)) (by rw [u67, u68, u69] <;> decide)), N63, rfl⟩
    · obtain ⟨cq70, kq70, q70a, q70b, q70c⟩ := isOf hZ k9 E_t
      obtain ⟨_, _, ⟨T70, L70, k70, n70⟩, -, X70, ⟨Lc70, hQ70, l70, y70, z70⟩, st70⟩ := X3.virtualBack hx (y := (⟨"com/example/favonius/favonius/eval/TopicRanking", "gradeAt", "(I)I"⟩ : MethodName)) (z := (⟨"com/example/favonius/favonius/eval/TopicRanking", "gradeAt", "(I)I"⟩ : MethodName)) hown (mvT hZ (own_w hw 118 rfl)) (mvT hZ (own_w hw 119 rfl)) (notFace_of_selects (args := #[]) (mvT hZ (own_w hw 121 rfl))) (mvT hZ (own_w hw 121 rfl)) (mvT hZ (own_w hw 120 rfl)) (by decide) (backOf (W := 0) (rm_grade3_1 l Z a0 hw [] t' r k' ga gb gc h0 n0 O0 F_r A_r) hZ (own_w hw 122 rfl) (own_w hw 34 rfl) (by decide) (by decide)) q70a q70c (g := (mkF m 19 #[.val (.ref t'), .val (.int cut), .val (.int (0 : Int32)), .val (.int (1 : Int32))] [(.int (1 : Int32)), (.ref t')])) rfl (by rw [hml]; rfl) (Steps.refl _) (argsL := [(.int (1 : Int32))]) (rest := []) (lenOf pd_10 rfl) rfl (by show 2 * 0 + _ ≤ _; exact Nat.le_of_eq rfl) (hb hby d15_19) (fun _ _ => ⟨rfl, k9, (by decide : 0 + 0 ≤ _), (by decide : 0 + 0 ≤ _)⟩)
      dsimp only [Pt.U, Pt.locs, Pt.cells, Pt.slots] at X70 l70 y70 z70 st70 hQ70
      subst l70 y70 z70
      obtain ⟨rfl, N71, k72⟩ := hQ70
      have N73 := Fr.app N63 N71
      have S74 : ∀ t, Steps p.tables e below (T70.setTop (mkF m 22 #[.val (.ref t'), .val (.int cut), .val (.int (0 : Int32)), .val (.int (1 : Int32))] [(.int ga)])) t → Steps p.tables e below (s₁.setTop (mkF m 0 #[.val (.ref t'), .val (.int cut), .unset, .unset] [])) t := by
        intro t kt
        refine S64 t ?_
        refine XS.icmpNo X3.here hx rfl (hb hby d15_14) rfl (flt (c65 : ¬ (cut < (1 : Int32)))).2.2.1 ?_
        refine XS.aloadN X3.here hx rfl (hb hby d15_17) rfl rfl ?_
        refine XS.iloadN X3.here hx rfl (hb hby d15_18) rfl ?_
        show Steps p.tables e below (T3.setTop (mkF m 19 #[.val (.ref t'), .val (.int cut), .val (.int (0 : Int32)), .val (.int (1 : Int32))] [(.int (1 : Int32)), (.ref t')])) _
        refine st70.trans ?_
        exact kt
      have S75 : ∀ t, Steps p.tables e below (T70.setTop (mkF m 28 #[.val (.ref t'), .val (.int cut), .val (.int ((0 : Int32) + (own_t (0 : Int32) (3 : Int32) cut ga))), .val (.int (1 : Int32))] [])) t → Steps p.tables e below (s₁.setTop (mkF m 0 #[.val (.ref t'), .val (.int cut), .unset, .unset] [])) t := by
        intro t kt
        rcases Decidable.em ((0 : Int32) < ga) with c76 | c76
        · rw [own_t1 (by decide : (0 : Int32) < (3 : Int32)) (own_b4 c65 (by decide)) c76] at kt
          refine S74 t ?_
          refine XS.ifNo X70.here hx rfl (hb hby d15_22) rfl ((if0 _ _).trans (tlt (c76 : (0 : Int32) < ga)).2.2.2) ?_
          refine XS.iinc X70.here hx rfl (hb hby d15_25) rfl (l' := #[.val (.ref t'), .val (.int cut), .val (.int (1 : Int32)), .val (.int (1 : Int32))]) rfl ?_
          exact kt
        · rw [own_t0c c76, Int32.add_zero] at kt
          refine S74 t ?_
          refine XS.ifYes X70.here hx rfl (pc0 := 22) (pc' := 28) rfl (hb hby d15_22) rfl ((if0 _ _).trans (flt (c76 : ¬ ((0 : Int32) < ga))).2.2.2) (by decide) (by decide) ?_
          exact kt
      obtain ⟨T77, X77, e77, st77⟩ := getF X70 hx hZ hown (host := "") (Or.inl (own_w hw 100 rfl)) Via.refl k72 F_r (g := (mkF m 7 #[.val (.ref t'), .val (.int cut), .val (.int ((0 : Int32) + (own_t (0 : Int32) (3 : Int32) cut ga))), .val (.int (2 : Int32))] [(.ref t'), (.int cut), (.int (2 : Int32))])) rfl rfl (hb hby d15_7)
      obtain ⟨cl78, Ar78, -, Sz78, Nn78, -, -⟩ := id A_r
      obtain ⟨_, _, ⟨T79, L79, k79, n79⟩, -, X79, ⟨Lc79, hQ79, l79, y79, z79⟩, st79⟩ := Jvm.LawKit.callS X77 hx (y := (⟨"java/lang/Math", "min", "(II)I"⟩ : MethodName)) hown (mvT hZ (own_w hw 114 rfl)) (mvT hZ (own_w hw 115 rfl)) (mvT hZ (own_w hw 116 rfl)) (mvT hZ (own_w hw 117 rfl)) (by decide) (backOf (W := 1) (rm_min l Z a0 hw [] cut (3 : Int32) h0 n0 O0 ) hZ (own_w hw 117 rfl) (own_w hw 116 rfl) (by decide) (by decide)) (g := (mkF m 11 #[.val (.ref t'), .val (.int cut), .val (.int ((0 : Int32) + (own_t (0 : Int32) (3 : Int32) cut ga))), .val (.int (2 : Int32))] [(.int (3 : Int32)), (.int cut), (.int (2 : Int32))])) rfl (by rw [hml]; rfl) (argsL := [(.int cut), (.int (3 : Int32))]) (rest := [(.int (2 : Int32))]) (lenOf pd_9 rfl) rfl (by show 2 * 0 + _ ≤ _; exact Nat.le_of_eq rfl) (hb hby d15_11) (fun _ _ => ⟨rfl, e77, (by decide : 0 + 0 ≤ _), (by decide : 0 + 0 ≤ _)⟩)
      dsimp only [Pt.U, Pt.locs, Pt.cells, Pt.slots] at X79 l79 y79 z79 st79 hQ79
      subst l79 y79 z79
      rcases hQ79 with ⟨c80, rfl, N81, k82⟩ | ⟨c83, rfl, N84, k85⟩
      · exact absurd c80 (c7 : ¬ ((3 : Int32) < cut))
      · have N86 := Fr.app N73 N84
        have S87 : ∀ t, Steps p.tables e below (T79.setTop (mkF m 14 #[.val (.ref t'), .val (.int cut), .val (.int ((0 : Int32) + (own_t (0 : Int32) (3 : Int32) cut ga))), .val (.int (2 : Int32))] [(.int cut), (.int (2 : Int32))])) t → Steps p.tables e below (s₁.setTop (mkF m 0 #[.val (.ref t'), .val (.int cut), .unset, .unset] [])) t := by
          intro t kt
          refine S75 t ?_
          refine XS.iinc X70.here hx rfl (hb hby d15_28) rfl (l' := #[.val (.ref t'), .val (.int cut), .val (.int ((0 : Int32) + (own_t (0 : Int32) (3 : Int32) cut ga))), .val (.int (2 : Int32))]) rfl ?_
          refine XS.goto X70.here hx rfl (pc0 := 31) (pc' := 4) rfl (hb hby d15_31) (by decide) (by decide) ?_
          refine XS.iloadN X70.here hx rfl (hb hby d15_4) rfl ?_
          refine XS.iloadN X70.here hx rfl (hb hby d15_5) rfl ?_
          refine XS.aloadN X70.here hx rfl (hb hby d15_6) rfl rfl ?_
          show Steps p.tables e below (T70.setTop (mkF m 7 #[.val (.ref t'), .val (.int cut), .val (.int ((0 : Int32) + (own_t (0 : Int32) (3 : Int32) cut ga))), .val (.int (2 : Int32))] [(.ref t'), (.int cut), (.int (2 : Int32))])) _
          refine st77 _ ?_
          show Steps p.tables e below (T77.setTop (mkF m 10 #[.val (.ref t'), .val (.int cut), .val (.int ((0 : Int32) + (own_t (0 : Int32) (3 : Int32) cut ga))), .val (.int (2 : Int32))] [(.ref r), (.int cut), (.int (2 : Int32))])) _
          refine X77.arraylength hx (by rw [e77]; exact Ar78.1) (State.isArrayOf_alike hZ.alike Ar78.2.1) (g := (mkF m 10 #[.val (.ref t'), .val (.int cut), .val (.int ((0 : Int32) + (own_t (0 : Int32) (3 : Int32) cut ga))), .val (.int (2 : Int32))] [(.ref r), (.int cut), (.int (2 : Int32))])) rfl rfl (hb hby d15_10) _ ?_
          rw [len_of Sz78 Nn78]
          show Steps p.tables e below (T77.setTop (mkF m 11 #[.val (.ref t'), .val (.int cut), .val (.int ((0 : Int32) + (own_t (0 : Int32) (3 : Int32) cut ga))), .val (.int (2 : Int32))] [(.int (3 : Int32)), (.int cut), (.int (2 : Int32))])) _
          refine st79 _ ?_
          exact kt
        rcases Decidable.em (cut < (2 : Int32)) with c88 | c88
        · have S89 : ∀ t, Steps p.tables e below (T79.setTop (mkF m 35 #[.val (.ref t'), .val (.int cut), .val (.int ((0 : Int32) + (own_t (0 : Int32) (3 : Int32) cut ga))), .val (.int (2 : Int32))] [(.int ((0 : Int32) + (own_t (0 : Int32) (3 : Int32) cut ga)))])) t → Steps p.tables e below (s₁.setTop (mkF m 0 #[.val (.ref t'), .val (.int cut), .unset, .unset] [])) t := by
            intro t kt
            refine S87 t ?_
            refine XS.icmpYes X79.here hx rfl (pc0 := 14) (pc' := 34) rfl (hb hby d15_14) rfl (tlt (c88 : cut < (2 : Int32))).2.2.1 (by decide) (by decide) ?_
            refine XS.iloadN X79.here hx rfl (hb hby d15_34) rfl ?_
            exact kt
          have u90 : own_t (1 : Int32) (3 : Int32) cut gb = (0 : Int32) := own_t0b (own_b2 c88 (by decide))
          have u91 : own_t (2 : Int32) (3 : Int32) cut gc = (0 : Int32) := own_t0b (own_b2 c88 (by decide))
          obtain ⟨fs, hr, hrun, hended, hW, hsame⟩ := X79.leave (v := some (.int ((0 : Int32) + (own_t (0 : Int32) (3 : Int32) cut ga)))) (fun h => by rw [Bd.returns] at h; cases h)
          refine ⟨_, _, pre0 _ (S89 _ ?_), hrun, hended, _, _, rfl, ?_, ⟨_, rfl⟩, hW, hsame.mono (by decide) (by decide)⟩
          · exact retOut X79 hx Bd.returns rfl (Or.inl ⟨rfl, Or.inl rfl, _, rfl⟩) (hb hby d15_35) hr
          · show Q_rm_top3 Z t' cut r k' ga gb gc h0 n0 _ T79.heap _
            rw [k85]
            exact ⟨(congrArg (fun z => some (Value.int z)) (by simp only [u90, u91, Int32.add_zero, Int32.zero_add])), N86, rfl⟩
        · obtain ⟨cq92, kq92, q92a, q92b, q92c⟩ := isOf hZ k85 E_t
          obtain ⟨_, _, ⟨T92, L92, k92, n92⟩, -, X92, ⟨Lc92, hQ92, l92, y92, z92⟩, st92⟩ := X79.virtualBack hx (y := (⟨"com/example/favonius/favonius/eval/TopicRanking", "gradeAt", "(I)I"⟩ : MethodName)) (z := (⟨"com/example/favonius/favonius/eval/TopicRanking", "gradeAt", "(I)I"⟩ : MethodName)) hown (mvT hZ (own_w hw 118 rfl)) (mvT hZ (own_w hw 119 rfl)) (notFace_of_selects (args := #[]) (mvT hZ (own_w hw 121 rfl))) (mvT hZ (own_w hw 121 rfl)) (mvT hZ (own_w hw 120 rfl)) (by decide) (backOf (W := 0) (rm_grade3_2 l Z a0 hw [] t' r k' ga gb gc h0 n0 O0 F_r A_r) hZ (own_w hw 122 rfl) (own_w hw 34 rfl) (by decide) (by decide)) q92a q92c (g := (mkF m 19 #[.val (.ref t'), .val (.int cut), .val (.int ((0 : Int32) + (own_t (0 : Int32) (3 : Int32) cut ga))), .val (.int (2 : Int32))] [(.int (2 : Int32)), (.ref t')])) rfl (by rw [hml]; rfl) (Steps.refl _) (argsL := [(.int (2 : Int32))]) (rest := []) (lenOf pd_10 rfl) rfl (by show 2 * 0 + _ ≤ _; exact Nat.le_of_eq rfl) (hb hby d15_19) (fun _ _ => ⟨rfl, k85, (by decide : 0 + 0 ≤ _), (by decide : 0 + 0 ≤ _)⟩)
          dsimp only [Pt.U, Pt.locs, Pt.cells, Pt.slots] at X92 l92 y92 z92 st92 hQ92
          subst l92 y92 z92
          obtain ⟨rfl, N93, k94⟩ := hQ92
          have N95 := Fr.app N86 N93
          have S96 : ∀ t, Steps p.tables e below (T92.setTop (mkF m 22 #[.val (.ref t'), .val (.int cut), .val (.int ((0 : Int32) + (own_t (0 : Int32) (3 : Int32) cut ga))), .val (.int (2 : Int32))] [(.int gb)])) t → Steps p.tables e below (s₁.setTop (mkF m 0 #[.val (.ref t'), .val (.int cut), .unset, .unset] [])) t := by
            intro t kt
            refine S87 t ?_
            refine XS.icmpNo X79.here hx rfl (hb hby d15_14) rfl (flt (c88 : ¬ (cut < (2 : Int32)))).2.2.1 ?_
            refine XS.aloadN X79.here hx rfl (hb hby d15_17) rfl rfl ?_
            refine XS.iloadN X79.here hx rfl (hb hby d15_18) rfl ?_
            show Steps p.tables e below (T79.setTop (mkF m 19 #[.val (.ref t'), .val (.int cut), .val (.int ((0 : Int32) + (own_t (0 : Int32) (3 : Int32) cut ga))), .val (.int (2 : Int32))] [(.int (2 : Int32)), (.ref t')])) _
            refine st92.trans ?_
            exact kt
          have S97 : ∀ t, Steps p.tables e below (T92.setTop (mkF m 28 #[.val (.ref t'), .val (.int cut), .val (.int (((0 : Int32) + (own_t (0 : Int32) (3 : Int32) cut ga)) + (own_t (1 : Int32) (3 : Int32) cut gb))), .val (.int (2 : Int32))] [])) t → Steps p.tables e below (s₁.setTop (mkF m 0 #[.val (.ref t'), .val (.int cut), .unset, .unset] [])) t := by
            intro t kt
            rcases Decidable.em ((0 : Int32) < gb) with c98 | c98
            · rw [own_t1 (by decide : (1 : Int32) < (3 : Int32)) (own_b4 c88 (by decide)) c98] at kt
              refine S96 t ?_
              refine XS.ifNo X92.here hx rfl (hb hby d15_22) rfl ((if0 _ _).trans (tlt (c98 : (0 : Int32) < gb)).2.2.2) ?_
              refine XS.iinc X92.here hx rfl (hb hby d15_25) rfl (l' := #[.val (.ref t'), .val (.int cut), .val (.int (((0 : Int32) + (own_t (0 : Int32) (3 : Int32) cut ga)) + (1 : Int32))), .val (.int (2 : Int32))]) rfl ?_
              exact kt
            · rw [own_t0c c98, Int32.add_zero] at kt
              refine S96 t ?_
              refine XS.ifYes X92.here hx rfl (pc0 := 22) (pc' := 28) rfl (hb hby d15_22) rfl ((if0 _ _).trans (flt (c98 : ¬ ((0 : Int32) < gb))).2.2.2) (by decide) (by decide) ?_
              exact kt
          obtain ⟨T99, X99, e99, st99⟩ := getF X92 hx hZ hown (host := "") (Or.inl (own_w hw 100 rfl)) Via.refl k94 F_r (g := (mkF m 7 #[.val (.ref t'), .val (.int cut), .val (.int (((0 : Int32) + (own_t (0 : Int32) (3 : Int32) cut ga)) + (own_t (1 : Int32) (3 : Int32) cut gb))), .val (.int (3 : Int32))] [(.ref t'), (.int cut), (.int (3 : Int32))])) rfl rfl (hb hby d15_7)
          obtain ⟨cl100, Ar100, -, Sz100, Nn100, -, -⟩ := id A_r
          obtain ⟨_, _, ⟨T101, L101, k101, n101⟩, -, X101, ⟨Lc101, hQ101, l101, y101, z101⟩, st101⟩ := Jvm.LawKit.callS X99 hx (y := (⟨"java/lang/Math", "min", "(II)I"⟩ : MethodName)) hown (mvT hZ (own_w hw 114 rfl)) (mvT hZ (own_w hw 115 rfl)) (mvT hZ (own_w hw 116 rfl)) (mvT hZ (own_w hw 117 rfl)) (by decide) (backOf (W := 1) (rm_min l Z a0 hw [] cut (3 : Int32) h0 n0 O0 ) hZ (own_w hw 117 rfl) (own_w hw 116 rfl) (by decide) (by decide)) (g := (mkF m 11 #[.val (.ref t'), .val (.int cut), .val (.int (((0 : Int32) + (own_t (0 : Int32) (3 : Int32) cut ga)) + (own_t (1 : Int32) (3 : Int32) cut gb))), .val (.int (3 : Int32))] [(.int (3 : Int32)), (.int cut), (.int (3 : Int32))])) rfl (by rw [hml]; rfl) (argsL := [(.int cut), (.int (3 : Int32))]) (rest := [(.int (3 : Int32))]) (lenOf pd_9 rfl) rfl (by show 2 * 0 + _ ≤ _; exact Nat.le_of_eq rfl) (hb hby d15_11) (fun _ _ => ⟨rfl, e99, (by decide : 0 + 0 ≤ _), (by decide : 0 + 0 ≤ _)⟩)
          dsimp only [Pt.U, Pt.locs, Pt.cells, Pt.slots] at X101 l101 y101 z101 st101 hQ101
          subst l101 y101 z101
          rcases hQ101 with ⟨c102, rfl, N103, k104⟩ | ⟨c105, rfl, N106, k107⟩
          · exact absurd c102 (c83 : ¬ ((3 : Int32) < cut))
          · have N108 := Fr.app N95 N106
            have S109 : ∀ t, Steps p.tables e below (T101.setTop (mkF m 14 #[.val (.ref t'), .val (.int cut), .val (.int (((0 : Int32) + (own_t (0 : Int32) (3 : Int32) cut ga)) + (own_t (1 : Int32) (3 : Int32) cut gb))), .val (.int (3 : Int32))] [(.int cut), (.int (3 : Int32))])) t → Steps p.tables e below (s₁.setTop (mkF m 0 #[.val (.ref t'), .val (.int cut), .unset, .unset] [])) t := by
              intro t kt
              refine S97 t ?_
              refine XS.iinc X92.here hx rfl (hb hby d15_28) rfl (l' := #[.val (.ref t'), .val (.int cut), .val (.int (((0 : Int32) + (own_t (0 : Int32) (3 : Int32) cut ga)) + (own_t (1 : Int32) (3 : Int32) cut gb))), .val (.int (3 : Int32))]) rfl ?_
              refine XS.goto X92.here hx rfl (pc0 := 31) (pc' := 4) rfl (hb hby d15_31) (by decide) (by decide) ?_
              refine XS.iloadN X92.here hx rfl (hb hby d15_4) rfl ?_
              refine XS.iloadN X92.here hx rfl (hb hby d15_5) rfl ?_
              refine XS.aloadN X92.here hx rfl (hb hby d15_6) rfl rfl ?_
              show Steps p.tables e below (T92.setTop (mkF m 7 #[.val (.ref t'), .val (.int cut), .val (.int (((0 : Int32) + (own_t (0 : Int32) (3 : Int32) cut ga)) + (own_t (1 : Int32) (3 : Int32) cut gb))), .val (.int (3 : Int32))] [(.ref t'), (.int cut), (.int (3 : Int32))])) _
              refine st99 _ ?_
              show Steps p.tables e below (T99.setTop (mkF m 10 #[.val (.ref t'), .val (.int cut), .val (.int (((0 : Int32) + (own_t (0 : Int32) (3 : Int32) cut ga)) + (own_t (1 : Int32) (3 : Int32) cut gb))), .val (.int (3 : Int32))] [(.ref r), (.int cut), (.int (3 : Int32))])) _
              refine X99.arraylength hx (by rw [e99]; exact Ar100.1) (State.isArrayOf_alike hZ.alike Ar100.2.1) (g := (mkF m 10 #[.val (.ref t'), .val (.int cut), .val (.int (((0 : Int32) + (own_t (0 : Int32) (3 : Int32) cut ga)) + (own_t (1 : Int32) (3 : Int32) cut gb))), .val (.int (3 : Int32))] [(.ref r), (.int cut), (.int (3 : Int32))])) rfl rfl (hb hby d15_10) _ ?_
              rw [len_of Sz100 Nn100]
              show Steps p.tables e below (T99.setTop (mkF m 11 #[.val (.ref t'), .val (.int cut), .val (.int (((0 : Int32) + (own_t (0 : Int32) (3 : Int32) cut ga)) + (own_t (1 : Int32) (3 : Int32) cut gb))), .val (.int (3 : Int32))] [(.int (3 : Int32)), (.int cut), (.int (3 : Int32))])) _
              refine st101 _ ?_
              exact kt
            rcases Decidable.em (cut < (3 : Int32)) with c110 | c110
            · have S111 : ∀ t, Steps p.tables e below (T101.setTop (mkF m 35 #[.val (.ref t'), .val (.int cut), .val (.int (((0 : Int32) + (own_t (0 : Int32) (3 : Int32) cut ga)) + (own_t (1 : Int32) (3 : Int32) cut gb))), .val (.int (3 : Int32))] [(.int (((0 : Int32) + (own_t (0 : Int32) (3 : Int32) cut ga)) + (own_t (1 : Int32) (3 : Int32) cut gb)))])) t → Steps p.tables e below (s₁.setTop (mkF m 0 #[.val (.ref t'), .val (.int cut), .unset, .unset] [])) t := by
                intro t kt
                refine S109 t ?_
                refine XS.icmpYes X101.here hx rfl (pc0 := 14) (pc' := 34) rfl (hb hby d15_14) rfl (tlt (c110 : cut < (3 : Int32))).2.2.1 (by decide) (by decide) ?_
                refine XS.iloadN X101.here hx rfl (hb hby d15_34) rfl ?_
                exact kt
              have u112 : own_t (2 : Int32) (3 : Int32) cut gc = (0 : Int32) := own_t0b (own_b2 c110 (by decide))
              obtain ⟨fs, hr, hrun, hended, hW, hsame⟩ := X101.leave (v := some (.int (((0 : Int32) + (own_t (0 : Int32) (3 : Int32) cut ga)) + (own_t (1 : Int32) (3 : Int32) cut gb)))) (fun h => by rw [Bd.returns] at h; cases h)
              refine ⟨_, _, pre0 _ (S111 _ ?_), hrun, hended, _, _, rfl, ?_, ⟨_, rfl⟩, hW, hsame.mono (by decide) (by decide)⟩
              · exact retOut X101 hx Bd.returns rfl (Or.inl ⟨rfl, Or.inl rfl, _, rfl⟩) (hb hby d15_35) hr
              · show Q_rm_top3 Z t' cut r k' ga gb gc h0 n0 _ T101.heap _
                rw [k107]
                exact ⟨(congrArg (fun z => some (Value.int z)) (by simp only [u112, Int32.add_zero, Int32.zero_add])), N108, rfl⟩
            · obtain ⟨cq113, kq113, q113a, q113b, q113c⟩ := isOf hZ k107 E_t
              obtain ⟨_, _, ⟨T113, L113, k113, n113⟩, -, X113, ⟨Lc113, hQ113, l113, y113, z113⟩, st113⟩ := X101.virtualBack hx (y := (⟨"com/example/favonius/favonius/eval/TopicRanking", "gradeAt", "(I)I"⟩ : MethodName)) (z := (⟨"com/example/favonius/favonius/eval/TopicRanking", "gradeAt", "(I)I"⟩ : MethodName)) hown (mvT hZ (own_w hw 118 rfl)) (mvT hZ (own_w hw 119 rfl)) (notFace_of_selects (args := #[]) (mvT hZ (own_w hw 121 rfl))) (mvT hZ (own_w hw 121 rfl)) (mvT hZ (own_w hw 120 rfl)) (by decide) (backOf (W := 0) (rm_grade3_3 l Z a0 hw [] t' r k' ga gb gc h0 n0 O0 F_r A_r) hZ (own_w hw 122 rfl) (own_w hw 34 rfl) (by decide) (by decide)) q113a q113c (g := (mkF m 19 #[.val (.ref t'), .val (.int cut), .val (.int (((0 : Int32) + (own_t (0 : Int32) (3 : Int32) cut ga)) + (own_t (1 : Int32) (3 : Int32) cut gb))), .val (.int (3 : Int32))] [(.int (3 : Int32)), (.ref t')])) rfl (by rw [hml]; rfl) (Steps.refl _) (argsL := [(.int (3 : Int32))]) (rest := []) (lenOf pd_10 rfl) rfl (by show 2 * 0 + _ ≤ _; exact Nat.le_of_eq rfl) (hb hby d15_19) (fun _ _ => ⟨rfl, k107, (by decide : 0 + 0 ≤ _), (by decide : 0 + 0 ≤ _)⟩)
              dsimp only [Pt.U, Pt.locs, Pt.cells, Pt.slots] at X113 l113 y113 z113 st113 hQ113
              subst l113 y113 z113
              obtain ⟨rfl, N114, k115⟩ := hQ113
              have N116 := Fr.app N108 N114
              have S117 : ∀ t, Steps p.tables e below (T113.setTop (mkF m 22 #[.val (.ref t'), .val (.int cut), .val (.int (((0 : Int32) + (own_t (0 : Int32) (3 : Int32) cut ga)) + (own_t (1 : Int32) (3 : Int32) cut gb))), .val (.int (3 : Int32))] [(.int gc)])) t → Steps p.tables e below (s₁.setTop (mkF m 0 #[.val (.ref t'), .val (.int cut), .unset, .unset] [])) t := by
                intro t kt
                refine S109 t ?_
                refine XS.icmpNo X101.here hx rfl (hb hby d15_14) rfl (flt (c110 : ¬ (cut < (3 : Int32)))).2.2.1 ?_
                refine XS.aloadN X101.here hx rfl (hb hby d15_17) rfl rfl ?_
                refine XS.iloadN X101.here hx rfl (hb hby d15_18) rfl ?_
                show Steps p.tables e below (T101.setTop (mkF m 19 #[.val (.ref t'), .val (.int cut), .val (.int (((0 : Int32) + (own_t (0 : Int32) (3 : Int32) cut ga)) + (own_t (1 : Int32) (3 : Int32) cut gb))), .val (.int (3 : Int32))] [(.int (3 : Int32)), (.ref t')])) _
                refine st113.trans ?_
                exact kt
              have S118 : ∀ t, Steps p.tables e below (T113.setTop (mkF m 28 #[.val (.ref t'), .val (.int cut), .val (.int ((((0 : Int32) + (own_t (0 : Int32) (3 : Int32) cut ga)) + (own_t (1 : Int32) (3 : Int32) cut gb)) + (own_t (2 : Int32) (3 : Int32) cut gc))), .val (.int (3 : Int32))] [])) t → Steps p.tables e below (s₁.setTop (mkF m 0 #[.val (.ref t'), .val (.int cut), .unset, .unset] [])) t := by
                intro t kt
                rcases Decidable.em ((0 : Int32) < gc) with c119 | c119
                · rw [own_t1 (by decide : (2 : Int32) < (3 : Int32)) (own_b4 c110 (by decide)) c119] at kt
                  refine S117 t ?_
                  refine XS.ifNo X113.here hx rfl (hb hby d15_22) rfl ((if0 _ _).trans (tlt (c119 : (0 : Int32) < gc)).2.2.2) ?_
                  refine XS.iinc X113.here hx rfl (hb hby d15_25) rfl (l' := #[.val (.ref t'), .val (.int cut), .val (.int ((((0 : Int32) + (own_t (0 : Int32) (3 : Int32) cut ga)) + (own_t (1 : Int32) (3 : Int32) cut gb)) + (1 : Int32))), .val (.int (3 : Int32))]) rfl ?_
                  exact kt
                · rw [own_t0c c119, Int32.add_zero] at kt
                  refine S117 t ?_
                  refine XS.ifYes X113.here hx rfl (pc0 := 22) (pc' := 28) rfl (hb hby d15_22) rfl ((if0 _ _).trans (flt (c119 : ¬ ((0 : Int32) < gc))).2.2.2) (by decide) (by decide) ?_
                  exact kt
              obtain ⟨T120, X120, e120, st120⟩ := getF X113 hx hZ hown (host := "") (Or.inl (own_w hw 100 rfl)) Via.refl k115 F_r (g := (mkF m 7 #[.val (.ref t'), .val (.int cut), .val (.int ((((0 : Int32) + (own_t (0 : Int32) (3 : Int32) cut ga)) + (own_t (1 : Int32) (3 : Int32) cut gb)) + (own_t (2 : Int32) (3 : Int32) cut gc))), .val (.int (4 : Int32))] [(.ref t'), (.int cut), (.int (4 : Int32))])) rfl rfl (hb hby d15_7)
              obtain ⟨cl121, Ar121, -, Sz121, Nn121, -, -⟩ := id A_r
              obtain ⟨_, _, ⟨T122, L122, k122, n122⟩, -, X122, ⟨Lc122, hQ122, l122, y122, z122⟩, st122⟩ := Jvm.LawKit.callS X120 hx (y := (⟨"java/lang/Math", "min", "(II)I"⟩ : MethodName)) hown (mvT hZ (own_w hw 114 rfl)) (mvT hZ (own_w hw 115 rfl)) (mvT hZ (own_w hw 116 rfl)) (mvT hZ (own_w hw 117 rfl)) (by decide) (backOf (W := 1) (rm_min l Z a0 hw [] cut (3 : Int32) h0 n0 O0 ) hZ (own_w hw 117 rfl) (own_w hw 116 rfl) (by decide) (by decide)) (g := (mkF m 11 #[.val (.ref t'), .val (.int cut), .val (.int ((((0 : Int32) + (own_t (0 : Int32) (3 : Int32) cut ga)) + (own_t (1 : Int32) (3 : Int32) cut gb)) + (own_t (2 : Int32) (3 : Int32) cut gc))), .val (.int (4 : Int32))] [(.int (3 : Int32)), (.int cut), (.int (4 : Int32))])) rfl (by rw [hml]; rfl) (argsL := [(.int cut), (.int (3 : Int32))]) (rest := [(.int (4 : Int32))]) (lenOf pd_9 rfl) rfl (by show 2 * 0 + _ ≤ _; exact Nat.le_of_eq rfl) (hb hby d15_11) (fun _ _ => ⟨rfl, e120, (by decide : 0 + 0 ≤ _), (by decide : 0 + 0 ≤ _)⟩)
              dsimp only [Pt.U, Pt.locs, Pt.cells, Pt.slots] at X122 l122 y122 z122 st122 hQ122
              subst l122 y122 z122
              rcases hQ122 with ⟨c123, rfl, N124, k125⟩ | ⟨c126, rfl, N127, k128⟩
              · exact absurd c123 (c105 : ¬ ((3 : Int32) < cut))
              · have N129 := Fr.app N116 N127
                have S130 : ∀ t, Steps p.tables e below (T122.setTop (mkF m 35 #[.val (.ref t'), .val (.int cut), .val (.int ((((0 : Int32) + (own_t (0 : Int32) (3 : Int32) cut ga)) + (own_t (1 : Int32) (3 : Int32) cut gb)) + (own_t (2 : Int32) (3 : Int32) cut gc))), .val (.int (4 : Int32))] [(.int ((((0 : Int32) + (own_t (0 : Int32) (3 : Int32) cut ga)) + (own_t (1 : Int32) (3 : Int32) cut gb)) + (own_t (2 : Int32) (3 : Int32) cut gc)))])) t → Steps p.tables e below (s₁.setTop (mkF m 0 #[.val (.ref t'), .val (.int cut), .unset, .unset] [])) t := by
                  intro t kt
                  refine S118 t ?_
                  refine XS.iinc X113.here hx rfl (hb hby d15_28) rfl (l' := #[.val (.ref t'), .val (.int cut), .val (.int ((((0 : Int32) + (own_t (0 : Int32) (3 : Int32) cut ga)) + (own_t (1 : Int32) (3 : Int32) cut gb)) + (own_t (2 : Int32) (3 : Int32) cut gc))), .val (.int (4 : Int32))]) rfl ?_
                  refine XS.goto X113.here hx rfl (pc0 := 31) (pc' := 4) rfl (hb hby d15_31) (by decide) (by decide) ?_
                  refine XS.iloadN X113.here hx rfl (hb hby d15_4) rfl ?_
                  refine XS.iloadN X113.here hx rfl (hb hby d15_5) rfl ?_
                  refine XS.aloadN X113.here hx rfl (hb hby d15_6) rfl rfl ?_
                  show Steps p.tables e below (T113.setTop (mkF m 7 #[.val (.ref t'), .val (.int cut), .val (.int ((((0 : Int32) + (own_t (0 : Int32) (3 : Int32) cut ga)) + (own_t (1 : Int32) (3 : Int32) cut gb)) + (own_t (2 : Int32) (3 : Int32) cut gc))), .val (.int (4 : Int32))] [(.ref t'), (.int cut), (.int (4 : Int32))])) _
                  refine st120 _ ?_
                  show Steps p.tables e below (T120.setTop (mkF m 10 #[.val (.ref t'), .val (.int cut), .val (.int ((((0 : Int32) + (own_t (0 : Int32) (3 : Int32) cut ga)) + (own_t (1 : Int32) (3 : Int32) cut gb)) + (own_t (2 : Int32) (3 : Int32) cut gc))), .val (.int (4 : Int32))] [(.ref r), (.int cut), (.int (4 : Int32))])) _
                  refine X120.arraylength hx (by rw [e120]; exact Ar121.1) (State.isArrayOf_alike hZ.alike Ar121.2.1) (g := (mkF m 10 #[.val (.ref t'), .val (.int cut), .val (.int ((((0 : Int32) + (own_t (0 : Int32) (3 : Int32) cut ga)) + (own_t (1 : Int32) (3 : Int32) cut gb)) + (own_t (2 : Int32) (3 : Int32) cut gc))), .val (.int (4 : Int32))] [(.ref r), (.int cut), (.int (4 : Int32))])) rfl rfl (hb hby d15_10) _ ?_
                  rw [len_of Sz121 Nn121]
                  show Steps p.tables e below (T120.setTop (mkF m 11 #[.val (.ref t'), .val (.int cut), .val (.int ((((0 : Int32) + (own_t (0 : Int32) (3 : Int32) cut ga)) + (own_t (1 : Int32) (3 : Int32) cut gb)) + (own_t (2 : Int32) (3 : Int32) cut gc))), .val (.int (4 : Int32))] [(.int (3 : Int32)), (.int cut), (.int (4 : Int32))])) _
                  refine st122 _ ?_
                  refine XS.icmpYes X122.here hx rfl (pc0 := 14) (pc' := 34) rfl (hb hby d15_14) rfl (tlt ((own_b7 c126 (by decide)) : cut < (4 : Int32))).2.2.1 (by decide) (by decide) ?_
                  refine XS.iloadN X122.here hx rfl (hb hby d15_34) rfl ?_
                  exact kt
                obtain ⟨fs, hr, hrun, hended, hW, hsame⟩ := X122.leave (v := some (.int ((((0 : Int32) + (own_t (0 : Int32) (3 : Int32) cut ga)) + (own_t (1 : Int32) (3 : Int32) cut gb)) + (own_t (2 : Int32) (3 : Int32) cut gc)))) (fun h => by rw [Bd.returns] at h; cases h)
                refine ⟨_, _, pre0 _ (S130 _ ?_), hrun, hended, _, _, rfl, ?_, ⟨_, rfl⟩, hW, hsame.mono (by decide) (by decide)⟩
                · exact retOut X122 hx Bd.returns rfl (Or.inl ⟨rfl, Or.inl rfl, _, rfl⟩) (hb hby d15_35) hr
                · show Q_rm_top3 Z t' cut r k' ga gb gc h0 n0 _ T122.heap _
                  rw [k128]
                  exact ⟨(congrArg (fun z => some (Value.int z)) (by simp only [Int32.add_zero, Int32.zero_add])), N129, rfl⟩
theorem ef_rm_grade4_1 (m : MethodId) (x0 : Addr) (x1 : Int32) : entryFrame m #[(.ref x0), (.int x1)] 2 = mkF m 0 #[.val (.ref x0), .val (.int x1)] [] := by first | (simp [entryFrame, mkF, argsToLocals, Value.category]; done) | rfl
def Q_rm_grade4_1 (Z : State) (t' : Addr) (r : Addr) (k' : ClassId) (ga : Int32) (gb : Int32) (gc : Int32) (gd : Int32) (h0 : Heap) (n0 : Nat) (v : Option Value) (h : Heap) (L : List Loc) : Prop := ((v = some (.int ga)) ∧ (Fr n0 L) ∧ (h = h0))
set_option maxRecDepth 65536 in
set_option maxHeartbeats 40000000 in
theorem rm_grade4_1 (l : Launch) (Z : State) (a0 : Array Value) (hw : ∀ d ∈ tables_1, d.before a0 Z = true) (ws : List Jvm.Cond) (t' : Addr) (r : Addr) (k' : ClassId) (ga : Int32) (gb : Int32) (gc : Int32) (gd : Int32) (h0 : Heap) (n0 : Nat) (O0 : Old Z n0 h0) (F_r : Fld Z h0 t' "com/example/favonius/favonius/eval/TopicRanking" "retrieved" "[I" (.ref r)) (A_r : Arv Z h0 r k' .int (4 : Int32) [(.int ga), (.int gb), (.int gc), (.int gd)] (.int (0 : Int32))) :
    MetFree l (⟨"com/example/favonius/favonius/eval/TopicRanking", "gradeAt", "(I)I"⟩ : MethodName) (head1 (Jvm.Cond.code (⟨"com/example/favonius/favonius/eval/TopicRanking", "gradeAt", "(I)I"⟩ : MethodName) prog_14_method_3_code 2 (some .int) :: ws) ({ frames := 0, cells := 0, slots := 0, locals := 0 } : Room)) (fun a U => a = #[(.ref t'), (.int (1 : Int32))] ∧ Z.Warmed39 U.vm ∧ U.heap = h0) (fun _ _ _ _ _ => True) (fun _ U o U' => ∃ v L, o = .returned v ∧ Q_rm_grade4_1 Z t' r k' ga gb gc gd h0 n0 v U'.heap L ∧ FrameEnd U o U' L ({ frames := 0, cells := 0, slots := 0, locals := 0 } : Room).cells ({ frames := 0, cells := 0, slots := 0, locals := 0 } : Room).slots) := by
  refine MetFree.of_bodySF (plainFor_of_name pn_7) hisR ?_
  intro p e s m args below meth c s₁ Bd hml0 hP hK
  obtain ⟨rfl, hZ, hh⟩ := hP
  have hx := Bd.exec
  have hby := Bd.bytes
  have hml : c.maxLocals = 2 := hml0
  have hown : s.vm.findClass "com/example/favonius/favonius/eval/TopicRanking" = some m.cls := findClass_of_methodNamed Bd.named
  have hnm := (name_of_methodNamed Bd.named Bd.method).1
  have X0 : Stand p l e ({ frames := 0, cells := 0, slots := 0, locals := 0 } : Room) s m #[(.ref t'), (.int (1 : Int32))] below meth c s₁ [] 0 0 := Stand.of_body Bd
  have e0 : s₁.heap = h0 := by rw [← hh, Bd.state]; rfl
  have N0 := Fr.nil n0
  have pre0 : ∀ t, Steps p.tables e below (s₁.setTop (mkF m 0 #[.val (.ref t'), .val (.int (1 : Int32))] [])) t → Steps p.tables e below (s₁.setTop (entryFrame m #[(.ref t'), (.int (1 : Int32))] 2)) t := fun t k => castTop (ef_rm_grade4_1 m t' (1 : Int32)) k
  obtain ⟨T1, X1, e1, st1⟩ := getF X0 hx hZ hown (host := "") (Or.inl (own_w hw 100 rfl)) Via.refl e0 F_r (g := (mkF m 1 #[.val (.ref t'), .val (.int (1 : Int32))] [(.ref t')])) rfl rfl (hb hby d16_1)
  obtain ⟨cl2, Ar2, q2, Sz2, Nn2, Hh2, Gg2⟩ := id A_r
  have in2 : ¬ ((0 : Int32) < 0 ∨ cl2.slots.size ≤ ((0 : Int32)).toNatClampNeg) := by exact inb_of Sz2 ⟨by decide, by decide⟩
  have at2 : cl2.slots[((0 : Int32)).toNatClampNeg]? = some (.int ga) := by
    refine Has.at Hh2 in2 ?_
    rfl
  have S3 : ∀ t, Steps p.tables e below (T1.setTop (mkF m 8 #[.val (.ref t'), .val (.int (1 : Int32))] [(.int ga)])) t → Steps p.tables e below (s₁.setTop (mkF m 0 #[.val (.ref t'), .val (.int (1 : Int32))] [])) t := by
    intro t kt
    refine XS.aloadN X0.here hx rfl (hb hby d16_0) rfl rfl ?_
    show Steps p.tables e below (s₁.setTop (mkF m 1 #[.val (.ref t'), .val (.int (1 : Int32))] [(.ref t')])) _
    refine st1 _ ?_
    refine XS.iloadN X1.here hx rfl (hb hby d16_4) rfl ?_
    refine XS.iconst X1.here hx rfl (hb hby d16_5) ?_
    refine XS.isub X1.here hx rfl (hb hby d16_6) rfl ?_
    show Steps p.tables e below (T1.setTop (mkF m 7 #[.val (.ref t'), .val (.int (1 : Int32))] [(.int (0 : Int32)), (.ref r)])) _
    refine X1.iaload hx (j := (0 : Int32)) (v := (.int ga)) (by rw [e1]; exact Ar2.1) (State.isArrayOf_alike hZ.alike Ar2.2.1) Ar2.2.2 in2 at2 (g := (mkF m 7 #[.val (.ref t'), .val (.int (1 : Int32))] [(.int (0 : Int32)), (.ref r)])) rfl rfl (hb hby d16_7) _ ?_
    exact kt
  obtain ⟨fs, hr, hrun, hended, hW, hsame⟩ := X1.leave (v := some (.int ga)) (fun h => by rw [Bd.returns] at h; cases h)
  refine ⟨_, _, pre0 _ (S3 _ ?_), hrun, hended, _, _, rfl, ?_, ⟨_, rfl⟩, hW, hsame.mono (by decide) (by decide)⟩
  · exact retOut X1 hx Bd.returns rfl (Or.inl ⟨rfl, Or.inl rfl, _, rfl⟩) (hb hby d16_8) hr
  · show Q_rm_grade4_1 Z t' r k' ga gb gc gd h0 n0 _ T1.heap _
    rw [e1]
    exact ⟨rfl, N0, rfl⟩
theorem ef_rm_grade4_2 (m : MethodId) (x0 : Addr) (x1 : Int32) : entryFrame m #[(.ref x0), (.int x1)] 2 = mkF m 0 #[.val (.ref x0), .val (.int x1)] [] := by first | (simp [entryFrame, mkF, argsToLocals, Value.category]; done) | rfl
def Q_rm_grade4_2 (Z : State) (t' : Addr) (r : Addr) (k' : ClassId) (ga : Int32) (gb : Int32) (gc : Int32) (gd : Int32) (h0 : Heap) (n0 : Nat) (v : Option Value) (h : Heap) (L : List Loc) : Prop := ((v = some (.int gb)) ∧ (Fr n0 L) ∧ (h = h0))
set_option maxRecDepth 65536 in
set_option maxHeartbeats 40000000 in
theorem rm_grade4_2 (l : Launch) (Z : State) (a0 : Array Value) (hw : ∀ d ∈ tables_1, d.before a0 Z = true) (ws : List Jvm.Cond) (t' : Addr) (r : Addr) (k' : ClassId) (ga : Int32) (gb : Int32) (gc : Int32) (gd : Int32) (h0 : Heap) (n0 : Nat) (O0 : Old Z n0 h0) (F_r : Fld Z h0 t' "com/example/favonius/favonius/eval/TopicRanking" "retrieved" "[I" (.ref r)) (A_r : Arv Z h0 r k' .int (4 : Int32) [(.int ga), (.int gb), (.int gc), (.int gd)] (.int (0 : Int32))) :
    MetFree l (⟨"com/example/favonius/favonius/eval/TopicRanking", "gradeAt", "(I)I"⟩ : MethodName) (head1 (Jvm.Cond.code (⟨"com/example/favonius/favonius/eval/TopicRanking", "gradeAt", "(I)I"⟩ : MethodName) prog_14_method_3_code 2 (some .int) :: ws) ({ frames := 0, cells := 0, slots := 0, locals := 0 } : Room)) (fun a U => a = #[(.ref t'), (.int (2 : Int32))] ∧ Z.Warmed39 U.vm ∧ U.heap = h0) (fun _ _ _ _ _ => True) (fun _ U o U' => ∃ v L, o = .returned v ∧ Q_rm_grade4_2 Z t' r k' ga gb gc gd h0 n0 v U'.heap L ∧ FrameEnd U o U' L ({ frames := 0, cells := 0, slots := 0, locals := 0 } : Room).cells ({ frames := 0, cells := 0, slots := 0, locals := 0 } : Room).slots) := by
  refine MetFree.of_bodySF (plainFor_of_name pn_7) hisR ?_
  intro p e s m args below meth c s₁ Bd hml0 hP hK
  obtain ⟨rfl, hZ, hh⟩ := hP
  have hx := Bd.exec
  have hby := Bd.bytes
  have hml : c.maxLocals = 2 := hml0
  have hown : s.vm.findClass "com/example/favonius/favonius/eval/TopicRanking" = some m.cls := findClass_of_methodNamed Bd.named
  have hnm := (name_of_methodNamed Bd.named Bd.method).1
  have X0 : Stand p l e ({ frames := 0, cells := 0, slots := 0, locals := 0 } : Room) s m #[(.ref t'), (.int (2 : Int32))] below meth c s₁ [] 0 0 := Stand.of_body Bd
  have e0 : s₁.heap = h0 := by rw [← hh, Bd.state]; rfl
  have N0 := Fr.nil n0
  have pre0 : ∀ t, Steps p.tables e below (s₁.setTop (mkF m 0 #[.val (.ref t'), .val (.int (2 : Int32))] [])) t → Steps p.tables e below (s₁.setTop (entryFrame m #[(.ref t'), (.int (2 : Int32))] 2)) t := fun t k => castTop (ef_rm_grade4_2 m t' (2 : Int32)) k
  obtain ⟨T1, X1, e1, st1⟩ := getF X0 hx hZ hown (host := "") (Or.inl (own_w hw 100 rfl)) Via.refl e0 F_r (g := (mkF m 1 #[.val (.ref t'), .val (.int (2 : Int32))] [(.ref t')])) rfl rfl (hb hby d16_1)
  obtain ⟨cl2, Ar2, q2, Sz2, Nn2, Hh2, Gg2⟩ := id A_r
  have in2 : ¬ ((1 : Int32) < 0 ∨ cl2.slots.size ≤ ((1 : Int32)).toNatClampNeg) := by exact inb_of Sz2 ⟨by decide, by decide⟩
  have at2 : cl2.slots[((1 : Int32)).toNatClampNeg]? = some (.int gb) := by
    refine Has.at Hh2 in2 ?_
    rfl
  have S3 : ∀ t, Steps p.tables e below (T1.setTop (mkF m 8 #[.val (.ref t'), .val (.int (2 : Int32))] [(.int gb)])) t → Steps p.tables e below (s₁.setTop (mkF m 0 #[.val (.ref t'), .val (.int (2 : Int32))] [])) t := by
    intro t kt
    refine XS.aloadN X0.here hx rfl (hb hby d16_0) rfl rfl ?_
    show Steps p.tables e below (s₁.setTop (mkF m 1 #[.val (.ref t'), .val (.int (2 : Int32))] [(.ref t')])) _
    refine st1 _ ?_
    refine XS.iloadN X1.here hx rfl (hb hby d16_4) rfl ?_
    refine XS.iconst X1.here hx rfl (hb hby d16_5) ?_
    refine XS.isub X1.here hx rfl (hb hby d16_6) rfl ?_
    show Steps p.tables e below (T1.setTop (mkF m 7 #[.val (.ref t'), .val (.int (2 : Int32))] [(.int (1 : Int32)), (.ref r)])) _
    refine X1.iaload hx (j := (1 : Int32)) (v := (.int gb)) (by rw [e1]; exact Ar2.1) (State.isArrayOf_alike hZ.alike Ar2.2.1) Ar2.2.2 in2 at2 (g := (mkF m 7 #[.val (.ref t'), .val (.int (2 : Int32))] [(.int (1 : Int32)), (.ref r)])) rfl rfl (hb hby d16_7) _ ?_
    exact kt
  obtain ⟨fs, hr, hrun, hended, hW, hsame⟩ := X1.leave (v := some (.int gb)) (fun h => by rw [Bd.returns] at h; cases h)
  refine ⟨_, _, pre0 _ (S3 _ ?_), hrun, hended, _, _, rfl, ?_, ⟨_, rfl⟩, hW, hsame.mono (by decide) (by decide)⟩
  · exact retOut X1 hx Bd.returns rfl (Or.inl ⟨rfl, Or.inl rfl, _, rfl⟩) (hb hby d16_8) hr
  · show Q_rm_grade4_2 Z t' r k' ga gb gc gd h0 n0 _ T1.heap _
    rw [e1]
    exact ⟨rfl, N0, rfl⟩
theorem ef_rm_grade4_3 (m : MethodId) (x0 : Addr) (x1 : Int32) : entryFrame m #[(.ref x0), (.int x1)] 2 = mkF m 0 #[.val (.ref x0), .val (.int x1)] [] := by first | (simp [entryFrame, mkF, argsToLocals, Value.category]; done) | rfl
def Q_rm_grade4_3 (Z : State) (t' : Addr) (r : Addr) (k' : ClassId) (ga : Int32) (gb : Int32) (gc : Int32) (gd : Int32) (h0 : Heap) (n0 : Nat) (v : Option Value) (h : Heap) (L : List Loc) : Prop := ((v = some (.int gc)) ∧ (Fr n0 L) ∧ (h = h0))
set_option maxRecDepth 65536 in
set_option maxHeartbeats 40000000 in
theorem rm_grade4_3 (l : Launch) (Z : State) (a0 : Array Value) (hw : ∀ d ∈ tables_1, d.before a0 Z = true) (ws : List Jvm.Cond) (t' : Addr) (r : Addr) (k' : ClassId) (ga : Int32) (gb : Int32) (gc : Int32) (gd : Int32) (h0 : Heap) (n0 : Nat) (O0 : Old Z n0 h0) (F_r : Fld Z h0 t' "com/example/favonius/favonius/eval/TopicRanking" "retrieved" "[I" (.ref r)) (A_r : Arv Z h0 r k' .int (4 : Int32) [(.int ga), (.int gb), (.int gc), (.int gd)] (.int (0 : Int32))) :
    MetFree l (⟨"com/example/favonius/favonius/eval/TopicRanking", "gradeAt", "(I)I"⟩ : MethodName) (head1 (Jvm.Cond.code (⟨"com/example/favonius/favonius/eval/TopicRanking", "gradeAt", "(I)I"⟩ : MethodName) prog_14_method_3_code 2 (some .int) :: ws) ({ frames := 0, cells := 0, slots := 0, locals := 0 } : Room)) (fun a U => a = #[(.ref t'), (.int (3 : Int32))] ∧ Z.Warmed39 U.vm ∧ U.heap = h0) (fun _ _ _ _ _ => True) (fun _ U o U' => ∃ v L, o = .returned v ∧ Q_rm_grade4_3 Z t' r k' ga gb gc gd h0 n0 v U'.heap L ∧ FrameEnd U o U' L ({ frames := 0, cells := 0, slots := 0, locals := 0 } : Room).cells ({ frames := 0, cells := 0, slots := 0, locals := 0 } : Room).slots) := by
  refine MetFree.of_bodySF (plainFor_of_name pn_7) hisR ?_
  intro p e s m args below meth c s₁ Bd hml0 hP hK
  obtain ⟨rfl, hZ, hh⟩ := hP
  have hx := Bd.exec
  have hby := Bd.bytes
  have hml : c.maxLocals = 2 := hml0
  have hown : s.vm.findClass "com/example/favonius/favonius/eval/TopicRanking" = some m.cls := findClass_of_methodNamed Bd.named
  have hnm := (name_of_methodNamed Bd.named Bd.method).1
  have X0 : Stand p l e ({ frames := 0, cells := 0, slots := 0, locals := 0 } : Room) s m #[(.ref t'), (.int (3 : Int32))] below meth c s₁ [] 0 0 := Stand.of_body Bd
  have e0 : s₁.heap = h0 := by rw [← hh, Bd.state]; rfl
  have N0 := Fr.nil n0
  have pre0 : ∀ t, Steps p.tables e below (s₁.setTop (mkF m 0 #[.val (.ref t'), .val (.int (3 : Int32))] [])) t → Steps p.tables e below (s₁.setTop (entryFrame m #[(.ref t'), (.int (3 : Int32))] 2)) t := fun t k => castTop (ef_rm_grade4_3 m t' (3 : Int32)) k
  obtain ⟨T1, X1, e1, st1⟩ := getF X0 hx hZ hown (host := "") (Or.inl (own_w hw 100 rfl)) Via.refl e0 F_r (g := (mkF m 1 #[.val (.ref t'), .val (.int (3 : Int32))] [(.ref t')])) rfl rfl (hb hby d16_1)
  obtain ⟨cl2, Ar2, q2, Sz2, Nn2, Hh2, Gg2⟩ := id A_r
  have in2 : ¬ ((2 : Int32) < 0 ∨ cl2.slots.size ≤ ((2 : Int32)).toNatClampNeg) := by exact inb_of Sz2 ⟨by decide, by decide⟩
  have at2 : cl2.slots[((2 : Int32)).toNatClampNeg]? = some (.int gc) := by
    refine Has.at Hh2 in2 ?_
    rfl
  have S3 : ∀ t, Steps p.tables e below (T1.setTop (mkF m 8 #[.val (.ref t'), .val (.int (3 : Int32))] [(.int gc)])) t → Steps p.tables e below (s₁.setTop (mkF m 0 #[.val (.ref t'), .val (.int (3 : Int32))] [])) t := by
    intro t kt
    refine XS.aloadN X0.here hx rfl (hb hby d16_0) rfl rfl ?_
    show Steps p.tables e below (s₁.setTop (mkF m 1 #[.val (.ref t'), .val (.int (3 : Int32))] [(.ref t')])) _
    refine st1 _ ?_
    refine XS.iloadN X1.here hx rfl (hb hby d16_4) rfl ?_
    refine XS.iconst X1.here hx rfl (hb hby d16_5) ?_
    refine XS.isub X1.here hx rfl (hb hby d16_6) rfl ?_
    show Steps p.tables e below (T1.setTop (mkF m 7 #[.val (.ref t'), .val (.int (3 : Int32))] [(.int (2 : Int32)), (.ref r)])) _
    refine X1.iaload hx (j := (2 : Int32)) (v := (.int gc)) (by rw [e1]; exact Ar2.1) (State.isArrayOf_alike hZ.alike Ar2.2.1) Ar2.2.2 in2 at2 (g := (mkF m 7 #[.val (.ref t'), .val (.int (3 : Int32))] [(.int (2 : Int32)), (.ref r)])) rfl rfl (hb hby d16_7) _ ?_
    exact kt
  obtain ⟨fs, hr, hrun, hended, hW, hsame⟩ := X1.leave (v := some (.int gc)) (fun h => by rw [Bd.returns] at h; cases h)
  refine ⟨_, _, pre0 _ (S3 _ ?_), hrun, hended, _, _, rfl, ?_, ⟨_, rfl⟩, hW, hsame.mono (by decide) (by decide)⟩
  · exact retOut X1 hx Bd.returns rfl (Or.inl ⟨rfl, Or.inl rfl, _, rfl⟩) (hb hby d16_8) hr
  · show Q_rm_grade4_3 Z t' r k' ga gb gc gd h0 n0 _ T1.heap _
    rw [e1]
    exact ⟨rfl, N0, rfl⟩
theorem ef_rm_grade4_4 (m : MethodId) (x0 : Addr) (x1 : Int32) : entryFrame m #[(.ref x0), (.int x1)] 2 = mkF m 0 #[.val (.ref x0), .val (.int x1)] [] := by first | (simp [entryFrame, mkF, argsToLocals, Value.category]; done) | rfl
def Q_rm_grade4_4 (Z : State) (t' : Addr) (r : Addr) (k' : ClassId) (ga : Int32) (gb : Int32) (gc : Int32) (gd : Int32) (h0 : Heap) (n0 : Nat) (v : Option Value) (h : Heap) (L : List Loc) : Prop := ((v = some (.int gd)) ∧ (Fr n0 L) ∧ (h = h0))
set_option maxRecDepth 65536 in
set_option maxHeartbeats 40000000 in
theorem rm_grade4_4 (l : Launch) (Z : State) (a0 : Array Value) (hw : ∀ d ∈ tables_1, d.before a0 Z = true) (ws : List Jvm.Cond) (t' : Addr) (r : Addr) (k' : ClassId) (ga : Int32) (gb : Int32) (gc : Int32) (gd : Int32) (h0 : Heap) (n0 : Nat) (O0 : Old Z n0 h0) (F_r : Fld Z h0 t' "com/example/favonius/favonius/eval/TopicRanking" "retrieved" "[I" (.ref r)) (A_r : Arv Z h0 r k' .int (4 : Int32) [(.int ga), (.int gb), (.int gc), (.int gd)] (.int (0 : Int32))) :
    MetFree l (⟨"com/example/favonius/favonius/eval/TopicRanking", "gradeAt", "(I)I"⟩ : MethodName) (head1 (Jvm.Cond.code (⟨"com/example/favonius/favonius/eval/TopicRanking", "gradeAt", "(I)I"⟩ : MethodName) prog_14_method_3_code 2 (some .int) :: ws) ({ frames := 0, cells := 0, slots := 0, locals := 0 } : Room)) (fun a U => a = #[(.ref t'), (.int (4 : Int32))] ∧ Z.Warmed39 U.vm ∧ U.heap = h0) (fun _ _ _ _ _ => True) (fun _ U o U' => ∃ v L, o = .returned v ∧ Q_rm_grade4_4 Z t' r k' ga gb gc gd h0 n0 v U'.heap L ∧ FrameEnd U o U' L ({ frames := 0, cells := 0, slots := 0, locals := 0 } : Room).cells ({ frames := 0, cells := 0, slots := 0, locals := 0 } : Room).slots) := by
  refine MetFree.of_bodySF (plainFor_of_name pn_7) hisR ?_
  intro p e s m args below meth c s₁ Bd hml0 hP hK
  obtain ⟨rfl, hZ, hh⟩ := hP
  have hx := Bd.exec
  have hby := Bd.bytes
  have hml : c.maxLocals = 2 := hml0
  have hown : s.vm.findClass "com/example/favonius/favonius/eval/TopicRanking" = some m.cls := findClass_of_methodNamed Bd.named
  have hnm := (name_of_methodNamed Bd.named Bd.method).1
  have X0 : Stand p l e ({ frames := 0, cells := 0, slots := 0, locals := 0 } : Room) s m #[(.ref t'), (.int (4 : Int32))] below meth c s₁ [] 0 0 := Stand.of_body Bd
  have e0 : s₁.heap = h0 := by rw [← hh, Bd.state]; rfl
  have N0 := Fr.nil n0
  have pre0 : ∀ t, Steps p.tables e below (s₁.setTop (mkF m 0 #[.val (.ref t'), .val (.int (4 : Int32))] [])) t → Steps p.tables e below (s₁.setTop (entryFrame m #[(.ref t'), (.int (4 : Int32))] 2)) t := fun t k => castTop (ef_rm_grade4_4 m t' (4 : Int32)) k
  obtain ⟨T1, X1, e1, st1⟩ := getF X0 hx hZ hown (host := "") (Or.inl (own_w hw 100 rfl)) Via.refl e0 F_r (g := (mkF m 1 #[.val (.ref t'), .val (.int (4 : Int32))] [(.ref t')])) rfl rfl (hb hby d16_1)
  obtain ⟨cl2, Ar2, q2, Sz2, Nn2, Hh2, Gg2⟩ := id A_r
  have in2 : ¬ ((3 : Int32) < 0 ∨ cl2.slots.size ≤ ((3 : Int32)).toNatClampNeg) := by exact inb_of Sz2 ⟨by decide, by decide⟩
  have at2 : cl2.slots[((3 : Int32)).toNatClampNeg]? = some (.int gd) := by
    refine Has.at Hh2 in2 ?_
    rfl
  have S3 : ∀ t, Steps p.tables e below (T1.setTop (mkF m 8 #[.val (.ref t'), .val (.int (4 : Int32))] [(.int gd)])) t → Steps p.tables e below (s₁.setTop (mkF m 0 #[.val (.ref t'), .val (.int (4 : Int32))] [])) t := by
    intro t kt
    refine XS.aloadN X0.here hx rfl (hb hby d16_0) rfl rfl ?_
    show Steps p.tables e below (s₁.setTop (mkF m 1 #[.val (.ref t'), .val (.int (4 : Int32))] [(.ref t')])) _
    refine st1 _ ?_
    refine XS.iloadN X1.here hx rfl (hb hby d16_4) rfl ?_
    refine XS.iconst X1.here hx rfl (hb hby d16_5) ?_
    refine XS.isub X1.here hx rfl (hb hby d16_6) rfl ?_
    show Steps p.tables e below (T1.setTop (mkF m 7 #[.val (.ref t'), .val (.int (4 : Int32))] [(.int (3 : Int32)), (.ref r)])) _
    refine X1.iaload hx (j := (3 : Int32)) (v := (.int gd)) (by rw [e1]; exact Ar2.1) (State.isArrayOf_alike hZ.alike Ar2.2.1) Ar2.2.2 in2 at2 (g := (mkF m 7 #[.val (.ref t'), .val (.int (4 : Int32))] [(.int (3 : Int32)), (.ref r)])) rfl rfl (hb hby d16_7) _ ?_
    exact kt
  obtain ⟨fs, hr, hrun, hended, hW, hsame⟩ := X1.leave (v := some (.int gd)) (fun h => by rw [Bd.returns] at h; cases h)
  refine ⟨_, _, pre0 _ (S3 _ ?_), hrun, hended, _, _, rfl, ?_, ⟨_, rfl⟩, hW, hsame.mono (by decide) (by decide)⟩
  · exact retOut X1 hx Bd.returns rfl (Or.inl ⟨rfl, Or.inl rfl, _, rfl⟩) (hb hby d16_8) hr
  · show Q_rm_grade4_4 Z t' r k' ga gb gc gd h0 n0 _ T1.heap _
    rw [e1]
    exact ⟨rfl, N0, rfl⟩
theorem ef_rm_top4 (m : MethodId) (x0 : Addr) (x1 : Int32) : entryFrame m #[(.ref x0), (.int x1)] 4 = mkF m 0 #[.val (.ref x0), .val (.int x1), .unset, .unset] [] := by first | (simp [entryFrame, mkF, argsToLocals, Value.category]; done) | rfl
def Q_rm_top4 (Z : State) (t' : Addr) (cut : Int32) (r : Addr) (k' : ClassId) (ga : Int32) (gb : Int32) (gc : Int32) (gd : Int32) (h0 : Heap) (n0 : Nat) (v : Option Value) (h : Heap) (L : List Loc) : Prop := ((v = some (.int ((((own_t (0 : Int32) (4 : Int32) cut ga) + (own_t (1 : Int32) (4 : Int32) cut gb)) + (own_t (2 : Int32) (4 : Int32) cut gc)) + (own_t (3 : Int32) (4 : Int32) cut gd)))) ∧ (Fr n0 L) ∧ (h = h0))
set_option maxRecDepth 65536 in
set_option maxHeartbeats 40000000 in
theorem rm_top4 (l : Launch) (Z : State) (a0 : Array Value) (hw : ∀ d ∈ tables_1, d.before a0 Z = true) (ws : List Jvm.Cond) (t' : Addr) (cut : Int32) (r : Addr) (k' : ClassId) (ga : Int32) (gb : Int32) (gc : Int32) (gd : Int32) (h0 : Heap) (n0 : Nat) (O0 : Old Z n0 h0) (E_t : Exa Z h0 t' "com/example/favonius/favonius/eval/TopicRanking") (F_r : Fld Z h0 t' "com/example/favonius/favonius/eval/TopicRanking" "retrieved" "[I" (.ref r)) (A_r : Arv Z h0 r k' .int (4 : Int32) [(.int ga), (.int gb), (.int gc), (.int gd)] (.int (0 : Int32))) :
    MetFree l (⟨"com/example/favonius/favonius/eval/TopicRanking", "relevantInTop", "(I)I"⟩ : MethodName) (head1 (Jvm.Cond.code (⟨"com/example/favonius/favonius/eval/TopicRanking", "relevantInTop", "(I)I"⟩ : MethodName) prog_14_method_5_code 4 (some .int) :: ws) ({ frames := 1, cells := 0, slots := 0, locals := 14 } : Room)) (fun a U => a = #[(.ref t'), (.int cut)] ∧ Z.Warmed39 U.vm ∧ U.heap = h0) (fun _ _ _ _ _ => True) (fun _ U o U' => ∃ v L, o = .returned v ∧ Q_rm_top4 Z t' cut r k' ga gb gc gd h0 n0 v U'.heap L ∧ FrameEnd U o U' L ({ frames := 1, cells := 0, slots := 0, locals := 14 } : Room).cells ({ frames := 1, cells := 0, slots := 0, locals := 14 } : Room).slots) := by
  refine MetFree.of_bodySF (plainFor_of_name pn_7) hisR ?_
  intro p e s m args below meth c s₁ Bd hml0 hP hK
  obtain ⟨rfl, hZ, hh⟩ := hP
  have hx := Bd.exec
  have hby := Bd.bytes
  have hml : c.maxLocals = 4 := hml0
  have hown : s.vm.findClass "com/example/favonius/favonius/eval/TopicRanking" = some m.cls := findClass_of_methodNamed Bd.named
  have hnm := (name_of_methodNamed Bd.named Bd.method).1
  have X0 : Stand p l e ({ frames := 1, cells := 0, slots := 0, locals := 14 } : Room) s m #[(.ref t'), (.int cut)] below meth c s₁ [] 0 0 := Stand.of_body Bd
  have e0 : s₁.heap = h0 := by rw [← hh, Bd.state]; rfl
  have N0 := Fr.nil n0
  have pre0 : ∀ t, Steps p.tables e below (s₁.setTop (mkF m 0 #[.val (.ref t'), .val (.int cut), .unset, .unset] [])) t → Steps p.tables e below (s₁.setTop (entryFrame m #[(.ref t'), (.int cut)] 4)) t := fun t k => castTop (ef_rm_top4 m t' cut) k
  obtain ⟨T1, X1, e1, st1⟩ := getF X0 hx hZ hown (host := "") (Or.inl (own_w hw 100 rfl)) Via.refl e0 F_r (g := (mkF m 7 #[.val (.ref t'), .val (.int cut), .val (.int (0 : Int32)), .val (.int (1 : Int32))] [(.ref t'), (.int cut), (.int (1 : Int32))])) rfl rfl (hb hby d15_7)
  obtain ⟨cl2, Ar2, -, Sz2, Nn2, -, -⟩ := id A_r
  obtain ⟨_, _, ⟨T3, L3, k3, n3⟩, -, X3, ⟨Lc3, hQ3, l3, y3, z3⟩, st3⟩ := Jvm.LawKit.callS X1 hx (y := (⟨"java/lang/Math", "min", "(II)I"⟩ : MethodName)) hown (mvT hZ (own_w hw 114 rfl)) (mvT hZ (own_w hw 115 rfl)) (mvT hZ (own_w hw 116 rfl)) (mvT hZ (own_w hw 117 rfl)) (by decide) (backOf (W := 1) (rm_min l Z a0 hw [] cut (4 : Int32) h0 n0 O0 ) hZ (own_w hw 117 rfl) (own_w hw 116 rfl) (by decide) (by decide)) (g := (mkF m 11 #[.val (.ref t'), .val (.int cut), .val (.int (0 : Int32)), .val (.int (1 : Int32))] [(.int (4 : Int32)), (.int cut), (.int (1 : Int32))])) rfl (by rw [hml]; rfl) (argsL := [(.int cut), (.int (4 : Int32))]) (rest := [(.int (1 : Int32))]) (lenOf pd_9 rfl) rfl (by show 2 * 0 + _ ≤ _; exact Nat.le_of_eq rfl) (hb hby d15_11) (fun _ _ => ⟨rfl, e1, (by decide : 0 + 0 ≤ _), (by decide : 0 + 0 ≤ _)⟩)
  dsimp only [Pt.U, Pt.locs, Pt.cells, Pt.slots] at X3 l3 y3 z3 st3 hQ3
  subst l3 y3 z3
  rcases hQ3 with ⟨c4, rfl, N5, k6⟩ | ⟨c7, rfl, N8, k9⟩
  · have N10 := Fr.app N0 N5
    obtain ⟨cq11, kq11, q11a, q11b, q11c⟩ := isOf hZ k6 E_t
    obtain ⟨_, _, ⟨T11, L11, k11, n11⟩, -, X11, ⟨Lc11, hQ11, l11, y11, z11⟩, st11⟩ := X3.virtualBack hx (y := (⟨"com/example/favonius/favonius/eval/TopicRanking", "gradeAt", "(I)I"⟩ : MethodName)) (z := (⟨"com/example/favonius/favonius/eval/TopicRanking", "gradeAt", "(I)I"⟩ : MethodName)) hown (mvT hZ (own_w hw 118 rfl)) (mvT hZ (own_w hw 119 rfl)) (notFace_of_selects (args := #[]) (mvT hZ (own_w hw 121 rfl))) (mvT hZ (own_w hw 121 rfl)) (mvT hZ (own_w hw 120 rfl)) (by decide) (backOf (W := 0) (rm_grade4_1 l Z a0 hw [] t' r k' ga gb gc gd h0 n0 O0 F_r A_r) hZ (own_w hw 122 rfl) (own_w hw 34 rfl) (by decide) (by decide)) q11a q11c (g := (mkF m 19 #[.val (.ref t'), .val (.int cut), .val (.int (0 : Int32)), .val (.int (1 : Int32))] [(.int (1 : Int32)), (.ref t')])) rfl (by rw [hml]; rfl) (Steps.refl _) (argsL := [(.int (1 : Int32))]) (rest := []) (lenOf pd_10 rfl) rfl (by show 2 * 0 + _ ≤ _; exact Nat.le_of_eq rfl) (hb hby d15_19) (fun _ _ => ⟨rfl, k6, (by decide : 0 + 0 ≤ _), (by decide : 0 + 0 ≤ _)⟩)
    dsimp only [Pt.U, Pt.locs, Pt.cells, Pt.slots] at X11 l11 y11 z11 st11 hQ11
    subst l11 y11 z11
    obtain ⟨rfl, N12, k13⟩ := hQ11
    have N14 := Fr.app N10 N12
    have S15 : ∀ t, Steps p.tables e below (T11.setTop (mkF m 22 #[.val (.ref t'), .val (.int cut), .val (.int (0 : Int32)), .val (.int (1 : Int32))] [(.int ga)])) t → Steps p.tables e below (s₁.setTop (mkF m 0 #[.val (.ref t'), .val (.int cut), .unset, .unset] [])) t := by
      intro t kt
      refine XS.iconst X0.here hx rfl (hb hby d15_0) ?_
      refine XS.istoreN X0.here hx rfl (hb hby d15_1) rfl (l' := #[.val (.ref t'), .val (.int cut), .val (.int (0 : Int32)), .unset]) rfl ?_
      refine XS.iconst X0.here hx rfl (hb hby d15_2) ?_
      refine XS.istoreN X0.here hx rfl (hb hby d15_3) rfl (l' := #[.val (.ref t'), .val (.int cut), .val (.int (0 : Int32)), .val (.int (1 : Int32))]) rfl ?_
      refine XS.iloadN X0.here hx rfl (hb hby d15_4) rfl ?_
      refine XS.iloadN X0.here hx rfl (hb hby d15_5) rfl ?_
      show Steps p.tables e below (s₁.setTop (mkF m 6 #[.val (.ref t'), .val (.int cut), .val (.int (0 : Int32)), .val (.int (1 : Int32))] [(.int cut), (.int (1 : Int32))])) _
      refine XS.aloadN X0.here hx rfl (hb hby d15_6) rfl rfl ?_
      show Steps p.tables e below (s₁.setTop (mkF m 7 #[.val (.ref t'), .val (.int cut), .val (.int (0 : Int32)), .val (.int (1 : Int32))] [(.ref t'), (.int cut), (.int (1 : Int32))])) _
      refine st1 _ ?_
      show Steps p.tables e below (T1.setTop (mkF m 10 #[.val (.ref t'), .val (.int cut), .val (.int (0 : Int32)), .val (.int (1 : Int32))] [(.ref r), (.int cut), (.int (1 : Int32))])) _
      refine X1.arraylength hx (by rw [e1]; exact Ar2.1) (State.isArrayOf_alike hZ.alike Ar2.2.1) (g := (mkF m 10 #[.val (.ref t'), .val (.int cut), .val (.int (0 : Int32)), .val (.int (1 : Int32))] [(.ref r), (.int cut), (.int (1 : Int32))])) rfl rfl (hb hby d15_10) _ ?_
      rw [len_of Sz2 Nn2]
      show Steps p.tables e below (T1.setTop (mkF m 11 #[.val (.ref t'), .val (.int cut), .val (.int (0 : Int32)), .val (.int (1 : Int32))] [(.int (4 : Int32)), (.int cut), (.int (1 : Int32))])) _
      refine st3 _ ?_
      refine XS.icmpNo X3.here hx rfl (hb hby d15_14) rfl (flt ((by decide) : ¬ ((4 : Int32) < (1 : Int32)))).2.2.1 ?_
      refine XS.aloadN X3.here hx rfl (hb hby d15_17) rfl rfl ?_
      refine XS.iloadN X3.here hx rfl (hb hby d15_18) rfl ?_
      show Steps p.tables e below (T3.setTop (mkF m 19 #[.val (.ref t'), .val (.int cut), .val (.int (0 : Int32)), .val (.int (1 : Int32))] [(.int (1 : Int32)), (.ref t')])) _
      refine st11.trans ?_
      exact kt
    have S16 : ∀ t, Steps p.tables e below (T11.setTop (mkF m 28 #[.val (.ref t'), .val (.int cut), .val (.int ((0 : Int32) + (own_t (0 : Int32) (4 : Int32) cut ga))), .val (.int (1 : Int32))] [])) t → Steps p.tables e below (s₁.setTop (mkF m 0 #[.val (.ref t'), .val (.int cut), .unset, .unset] [])) t := by
      intro t kt
      rcases Decidable.em ((0 : Int32) < ga) with c17 | c17
      · rw [own_t1 (by decide : (0 : Int32) < (4 : Int32)) (own_b6 c4 (by decide)) c17] at kt
        refine S15 t ?_
        refine XS.ifNo X11.here hx rfl (hb hby d15_22) rfl ((if0 _ _).trans (tlt (c17 : (0 : Int32) < ga)).2.2.2) ?_
        refine XS.iinc X11.here hx rfl (hb hby d15_25) rfl (l' := #[.val (.ref t'), .val (.int cut), .val (.int (1 : Int32)), .val (.int (1 : Int32))]) rfl ?_
        exact kt
      · rw [own_t0c c17, Int32.add_zero] at kt
        refine S15 t ?_
        refine XS.ifYes X11.here hx rfl (pc0 := 22) (pc' := 28) rfl (hb hby d15_22) rfl ((if0 _ _).trans (flt (c17 : ¬ ((0 : Int32) < ga))).2.2.2) (by decide) (by decide) ?_
        exact kt
    obtain ⟨T18, X18, e18, st18⟩ := getF X11 hx hZ hown (host := "") (Or.inl (own_w hw 100 rfl)) Via.refl k13 F_r (g := (mkF m 7 #[.val (.ref t'), .val (.int cut), .val (.int ((0 : Int32) + (own_t (0 : Int32) (4 : Int32) cut ga))), .val (.int (2 : Int32))] [(.ref t'), (.int cut), (.int (2 : Int32))])) rfl rfl (hb hby d15_7)
    obtain ⟨cl19, Ar19, -, Sz19, Nn19, -, -⟩ := id A_r
    obtain ⟨_, _, ⟨T20, L20, k20, n20⟩, -, X20, ⟨Lc20, hQ20, l20, y20, z20⟩, st20⟩ := Jvm.LawKit.callS X18 hx (y := (⟨"java/lang/Math", "min", "(II)I"⟩ : MethodName)) hown (mvT hZ (own_w hw 114 rfl)) (mvT hZ (own_w hw 115 rfl)) (mvT hZ (own_w hw 116 rfl)) (mvT hZ (own_w hw 117 rfl)) (by decide) (backOf (W := 1) (rm_min l Z a0 hw [] cut (4 : Int32) h0 n0 O0 ) hZ (own_w hw 117 rfl) (own_w hw 116 rfl) (by decide) (by decide)) (g := (mkF m 11 #[.val (.ref t'), .val (.int cut), .val (.int ((0 : Int32) + (own_t (0 : Int32) (4 : Int32) cut ga))), .val (.int (2 : Int32))] [(.int (4 : Int32)), (.int cut), (.int (2 : Int32))])) rfl (by rw [hml]; rfl) (argsL := [(.int cut), (.int (4 : Int32))]) (rest := [(.int (2 : Int32))]) (lenOf pd_9 rfl) rfl (by show 2 * 0 + _ ≤ _; exact Nat.le_of_eq rfl) (hb hby d15_11) (fun _ _ => ⟨rfl, e18, (by decide : 0 + 0 ≤ _), (by decide : 0 + 0 ≤ _)⟩)
    dsimp only [Pt.U, Pt.locs, Pt.cells, Pt.slots] at X20 l20 y20 z20 st20 hQ20
    subst l20 y20 z20
    rcases hQ20 with ⟨c21, rfl, N22, k23⟩ | ⟨c24, rfl, N25, k26⟩
    · have N27 := Fr.app N14 N22
      obtain ⟨cq28, kq28, q28a, q28b, q28c⟩ := isOf hZ k23 E_t
      obtain ⟨_, _, ⟨T28, L28, k28, n28⟩, -, X28, ⟨Lc28, hQ28, l28, y28, z28⟩, st28⟩ := X20.virtualBack hx (y := (⟨"com/example/favonius/favonius/eval/TopicRanking", "gradeAt", "(I)I"⟩ : MethodName)) (z := (⟨"com/example/favonius/favonius/eval/TopicRanking", "gradeAt", "(I)I"⟩ : MethodName)) hown (mvT hZ (own_w hw 118 rfl)) (mvT hZ (own_w hw 119 rfl)) (notFace_of_selects (args := #[]) (mvT hZ (own_w hw 121 rfl))) (mvT hZ (own_w hw 121 rfl)) (mvT hZ (own_w hw 120 rfl)) (by decide) (backOf (W := 0) (rm_grade4_2 l Z a0 hw [] t' r k' ga gb gc gd h0 n0 O0 F_r A_r) hZ (own_w hw 122 rfl) (own_w hw 34 rfl) (by decide) (by decide)) q28a q28c (g := (mkF m 19 #[.val (.ref t'), .val (.int cut), .val (.int ((0 : Int32) + (own_t (0 : Int32) (4 : Int32) cut ga))), .val (.int (2 : Int32))] [(.int (2 : Int32)), (.ref t')])) rfl (by rw [hml]; rfl) (Steps.refl _) (argsL := [(.int (2 : Int32))]) (rest := []) (lenOf pd_10 rfl) rfl (by show 2 * 0 + _ ≤ _; exact Nat.le_of_eq rfl) (hb hby d15_19) (fun _ _ => ⟨rfl, k23, (by decide : 0 + 0 ≤ _), (by decide : 0 + 0 ≤ _)⟩)
      dsimp only [Pt.U, Pt.locs, Pt.cells, Pt.slots] at X28 l28 y28 z28 st28 hQ28
      subst l28 y28 z28
      obtain ⟨rfl, N29, k30⟩ := hQ28
      have N31 := Fr.app N27 N29
      have S32 : ∀ t, Steps p.tables e below (T28.setTop (mkF m 22 #[.val (.ref t'), .val (.int cut), .val (.int ((0 : Int32) + (own_t (0 : Int32) (4 : Int32) cut ga))), .val (.int (2 : Int32))] [(.int gb)])) t → Steps p.tables e below (s₁.setTop (mkF m 0 #[.val (.ref t'), .val (.int cut), .unset, .unset] [])) t := by
        intro t kt
        refine S16 t ?_
        refine XS.iinc X11.here hx rfl (hb hby d15_28) rfl (l' := #[.val (.ref t'), .val (.int cut), .val (.int ((0 : Int32) + (own_t (0 : Int32) (4 : Int32) cut ga))), .val (.int (2 : Int32))]) rfl ?_
        refine XS.goto X11.here hx rfl (pc0 := 31) (pc' := 4) rfl (hb hby d15_31) (by decide) (by decide) ?_
        refine XS.iloadN X11.here hx rfl (hb hby d15_4) rfl ?_
        refine XS.iloadN X11.here hx rfl (hb hby d15_5) rfl ?_
        refine XS.aloadN X11.here hx rfl (hb hby d15_6) rfl rfl ?_
        show Steps p.tables e below (T11.setTop (mkF m 7 #[.val (.ref t'), .val (.int cut), .val (.int ((0 : Int32) + (own_t (0 : Int32) (4 : Int32) cut ga))), .val (.int (2 : Int32))] [(.ref t'), (.int cut), (.int (2 : Int32))])) _
        refine st18 _ ?_
        show Steps p.tables e below (T18.setTop (mkF m 10 #[.val (.ref t'), .val (.int cut), .val (.int ((0 : Int32) + (own_t (0 : Int32) (4 : Int32) cut ga))), .val (.int (2 : Int32))] [(.ref r), (.int cut), (.int (2 : Int32))])) _
        refine X18.arraylength hx (by rw [e18]; exact Ar19.1) (State.isArrayOf_alike hZ.alike Ar19.2.1) (g := (mkF m 10 #[.val (.ref t'), .val (.int cut), .val (.int ((0 : Int32) + (own_t (0 : Int32) (4 : Int32) cut ga))), .val (.int (2 : Int32))] [(.ref r), (.int cut), (.int (2 : Int32))])) rfl rfl (hb hby d15_10) _ ?_
        rw [len_of Sz19 Nn19]
        show Steps p.tables e below (T18.setTop (mkF m 11 #[.val (.ref t'), .val (.int cut), .val (.int ((0 : Int32) + (own_t (0 : Int32) (4 : Int32) cut ga))), .val (.int (2 : Int32))] [(.int (4 : Int32)), (.int cut), (.int (2 : Int32))])) _
        refine st20 _ ?_
        refine XS.icmpNo X20.here hx rfl (hb hby d15_14) rfl (flt ((by decide) : ¬ ((4 : Int32) < (2 : Int32)))).2.2.1 ?_
        refine XS.aloadN X20.here hx rfl (hb hby d15_17) rfl rfl ?_
        refine XS.iloadN X20.here hx rfl (hb hby d15_18) rfl ?_
        show Steps p.tables e below (T20.setTop (mkF m 19 #[.val (.ref t'), .val (.int cut), .val (.int ((0 : Int32) + (own_t (0 : Int32) (4 : Int32) cut ga))), .val (.int (2 : Int32))] [(.int (2 : Int32)), (.ref t')])) _
        refine st28.trans ?_
        exact kt
      have S33 : ∀ t, Steps p.tables e below (T28.setTop (mkF m 28 #[.val (.ref t'), .val (.int cut), .val (.int (((0 : Int32) + (own_t (0 : Int32) (4 : Int32) cut ga)) + (own_t (1 : Int32) (4 : Int32) cut gb))), .val (.int (2 : Int32))] [])) t → Steps p.tables e below (s₁.setTop (mkF m 0 #[.val (.ref t'), .val (.int cut), .unset, .unset] [])) t := by
        intro t kt
        rcases Decidable.em ((0 : Int32) < gb) with c34 | c34
        · rw [own_t1 (by decide : (1 : Int32) < (4 : Int32)) (own_b6 c21 (by decide)) c34] at kt
          refine S32 t ?_
          refine XS.ifNo X28.here hx rfl (hb hby d15_22) rfl ((if0 _ _).trans (tlt (c34 : (0 : Int32) < gb)).2.2.2) ?_
          refine XS.iinc X28.here hx rfl (hb hby d15_25) rfl (l' := #[.val (.ref t'), .val (.int cut), .val (.int (((0 : Int32) + (own_t (0 : Int32) (4 : Int32) cut ga)) + (1 : Int32))), .val (.int (2 : Int32))]) rfl ?_
          exact kt
        · rw [own_t0c c34, Int32.add_zero] at kt
          refine S32 t ?_
          refine XS.ifYes X28.here hx rfl (pc0 := 22) (pc' := 28) rfl (hb hby d15_22) rfl ((if0 _ _).trans (flt (c34 : ¬ ((0 : Int32) < gb))).2.2.2) (by decide) (by decide) ?_
          exact kt
      obtain ⟨T35, X35, e35, st35⟩ := getF X28 hx hZ hown (host := "") (Or.inl (own_w hw 100 rfl)) Via.refl k30 F_r (g := (mkF m 7 #[.val (.ref t'), .val (.int cut), .val (.int (((0 : Int32) + (own_t (0 : Int32) (4 : Int32) cut ga)) + (own_t (1 : Int32) (4 : Int32) cut gb))), .val (.int (3 : Int32))] [(.ref t'), (.int cut), (.int (3 : Int32))])) rfl rfl (hb hby d15_7)
      obtain ⟨cl36, Ar36, -, Sz36, Nn36, -, -⟩ := id A_r
      obtain ⟨_, _, ⟨T37, L37, k37, n37⟩, -, X37, ⟨Lc37, hQ37, l37, y37, z37⟩, st37⟩ := Jvm.LawKit.callS X35 hx (y := (⟨"java/lang/Math", "min", "(II)I"⟩ : MethodName)) hown (mvT hZ (own_w hw 114 rfl)) (mvT hZ (own_w hw 115 rfl)) (mvT hZ (own_w hw 116 rfl)) (mvT hZ (own_w hw 117 rfl)) (by decide) (backOf (W := 1) (rm_min l Z a0 hw [] cut (4 : Int32) h0 n0 O0 ) hZ (own_w hw 117 rfl) (own_w hw 116 rfl) (by decide) (by decide)) (g := (mkF m 11 #[.val (.ref t'), .val (.int cut), .val (.int (((0 : Int32) + (own_t (0 : Int32) (4 : Int32) cut ga)) + (own_t (1 : Int32) (4 : Int32) cut gb))), .val (.int (3 : Int32))] [(.int (4 : Int32)), (.int cut), (.int (3 : Int32))])) rfl (by rw [hml]; rfl) (argsL := [(.int cut), (.int (4 : Int32))]) (rest := [(.int (3 : Int32))]) (lenOf pd_9 rfl) rfl (by show 2 * 0 + _ ≤ _; exact Nat.le_of_eq rfl) (hb hby d15_11) (fun _ _ => ⟨rfl, e35, (by decide : 0 + 0 ≤ _), (by decide : 0 + 0 ≤ _)⟩)
      dsimp only [Pt.U, Pt.locs, Pt.cells, Pt.slots] at X37 l37 y37 z37 st37 hQ37
      subst l37 y37 z37
      rcases hQ37 with ⟨c38, rfl, N39, k40⟩ | ⟨c41, rfl, N42, k43⟩
      · have N44 := Fr.app N31 N39
        obtain ⟨cq45, kq45, q45a, q45b, q45c⟩ := isOf hZ k40 E_t
        obtain ⟨_, _, ⟨T45, L45, k45, n45⟩, -, X45, ⟨Lc45, hQ45, l45, y45, z45⟩, st45⟩ := X37.virtualBack hx (y := (⟨"com/example/favonius/favonius/eval/TopicRanking", "gradeAt", "(I)I"⟩ : MethodName)) (z := (⟨"com/example/favonius/favonius/eval/TopicRanking", "gradeAt", "(I)I"⟩ : MethodName)) hown (mvT hZ (own_w hw 118 rfl)) (mvT hZ (own_w hw 119 rfl)) (notFace_of_selects (args := #[]) (mvT hZ (own_w hw 121 rfl))) (mvT hZ (own_w hw 121 rfl)) (mvT hZ (own_w hw 120 rfl)) (by decide) (backOf (W := 0) (rm_grade4_3 l Z a0 hw [] t' r k' ga gb gc gd h0 n0 O0 F_r A_r) hZ (own_w hw 122 rfl) (own_w hw 34 rfl) (by decide) (by decide)) q45a q45c (g := (mkF m 19 #[.val (.ref t'), .val (.int cut), .val (.int (((0 : Int32) + (own_t (0 : Int32) (4 : Int32) cut ga)) + (own_t (1 : Int32) (4 : Int32) cut gb))), .val (.int (3 : Int32))] [(.int (3 : Int32)), (.ref t')])) rfl (by rw [hml]; rfl) (Steps.refl _) (argsL := [(.int (3 : Int32))]) (rest := []) (lenOf pd_10 rfl) rfl (by show 2 * 0 + _ ≤ _; exact Nat.le_of_eq rfl) (hb hby d15_19) (fun _ _ => ⟨rfl, k40, (by decide : 0 + 0 ≤ _), (by decide : 0 + 0 ≤ _)⟩)
        dsimp only [Pt.U, Pt.locs, Pt.cells, Pt.slots] at X45 l45 y45 z45 st45 hQ45
        subst l45 y45 z45
        obtain ⟨rfl, N46, k47⟩ := hQ45
        have N48 := Fr.app N44 N46
        have S49 : ∀ t, Steps p.tables e below (T45.setTop (mkF m 22 #[.val (.ref t'), .val (.int cut), .val (.int (((0 : Int32) + (own_t (0 : Int32) (4 : Int32) cut ga)) + (own_t (1 : Int32) (4 : Int32) cut gb))), .val (.int (3 : Int32))] [(.int gc)])) t → Steps p.tables e below (s₁.setTop (mkF m 0 #[.val (.ref t'), .val (.int cut), .unset, .unset] [])) t := by
          intro t kt
          refine S33 t ?_
          refine XS.iinc X28.here hx rfl (hb hby d15_28) rfl (l' := #[.val (.ref t'), .val (.int cut), .val (.int (((0 : Int32) + (own_t (0 : Int32) (4 : Int32) cut ga)) + (own_t (1 : Int32) (4 : Int32) cut gb))), .val (.int (3 : Int32))]) rfl ?_
          refine XS.goto X28.here hx rfl (pc0 := 31) (pc' := 4) rfl (hb hby d15_31) (by decide) (by decide) ?_
          refine XS.iloadN X28.here hx rfl (hb hby d15_4) rfl ?_
          refine XS.iloadN X28.here hx rfl (hb hby d15_5) rfl ?_
          refine XS.aloadN X28.here hx rfl (hb hby d15_6) rfl rfl ?_
          show Steps p.tables e below (T28.setTop (mkF m 7 #[.val (.ref t'), .val (.int cut), .val (.int (((0 : Int32) + (own_t (0 : Int32) (4 : Int32) cut ga)) + (own_t (1 : Int32) (4 : Int32) cut gb))), .val (.int (3 : Int32))] [(.ref t'), (.int cut), (.int (3 : Int32))])) _
          refine st35 _ ?_
          show Steps p.tables e below (T35.setTop (mkF m 10 #[.val (.ref t'), .val (.int cut), .val (.int (((0 : Int32) + (own_t (0 : Int32) (4 : Int32) cut ga)) + (own_t (1 : Int32) (4 : Int32) cut gb))), .val (.int (3 : Int32))] [(.ref r), (.int cut), (.int (3 : Int32))])) _
          refine X35.arraylength hx (by rw [e35]; exact Ar36.1) (State.isArrayOf_alike hZ.alike Ar36.2.1) (g := (mkF m 10 #[.val (.ref t'), .val (.int cut), .val (.int (((0 : Int32) + (own_t (0 : Int32) (4 : Int32) cut ga)) + (own_t (1 : Int32) (4 : Int32) cut gb))), .val (.int (3 : Int32))] [(.ref r), (.int cut), (.int (3 : Int32))])) rfl rfl (hb hby d15_10) _ ?_
          rw [len_of Sz36 Nn36]
          show Steps p.tables e below (T35.setTop (mkF m 11 #[.val (.ref t'), .val (.int cut), .val (.int (((0 : Int32) + (own_t (0 : Int32) (4 : Int32) cut ga)) + (own_t (1 : Int32) (4 : Int32) cut gb))), .val (.int (3 : Int32))] [(.int (4 : Int32)), (.int cut), (.int (3 : Int32))])) _
          refine st37 _ ?_
          refine XS.icmpNo X37.here hx rfl (hb hby d15_14) rfl (flt ((by decide) : ¬ ((4 : Int32) < (3 : Int32)))).2.2.1 ?_
          refine XS.aloadN X37.here hx rfl (hb hby d15_17) rfl rfl ?_
          refine XS.iloadN X37.here hx rfl (hb hby d15_18) rfl ?_
          show Steps p.tables e below (T37.setTop (mkF m 19 #[.val (.ref t'), .val (.int cut), .val (.int (((0 : Int32) + (own_t (0 : Int32) (4 : Int32) cut ga)) + (own_t (1 : Int32) (4 : Int32) cut gb))), .val (.int (3 : Int32))] [(.int (3 : Int32)), (.ref t')])) _
          refine st45.trans ?_
          exact kt
        have S50 : ∀ t, Steps p.tables e below (T45.setTop (mkF m 28 #[.val (.ref t'), .val (.int cut), .val (.int ((((0 : Int32) + (own_t (0 : Int32) (4 : Int32) cut ga)) + (own_t (1 : Int32) (4 : Int32) cut gb)) + (own_t (2 : Int32) (4 : Int32) cut gc))), .val (.int (3 : Int32))] [])) t → Steps p.tables e below (s₁.setTop (mkF m 0 #[.val (.ref t'), .val (.int cut), .unset, .unset] [])) t := by
          intro t kt
          rcases Decidable.em ((0 : Int32) < gc) with c51 | c51
          · rw [own_t1 (by decide : (2 : Int32) < (4 : Int32)) (own_b6 c38 (by decide)) c51] at kt
            refine S49 t ?_
            refine XS.ifNo X45.here hx rfl (hb hby d15_22) rfl ((if0 _ _).trans (tlt (c51 : (0 : Int32) < gc)).2.2.2) ?_
            refine XS.iinc X45.here hx rfl (hb hby d15_25) rfl (l' := #[.val (.ref t'), .val (.int cut), .val (.int ((((0 : Int32) + (own_t (0 : Int32) (4 : Int32) cut ga)) + (own_t (1 : Int32) (4 : Int32) cut gb)) + (1 : Int32))), .val (.int (3 : Int32))]) rfl ?_
            exact kt
          · rw [own_t0c c51, Int32.add_zero] at kt
            refine S49 t ?_
            refine XS.ifYes X45.here hx rfl (pc0 := 22) (pc' := 28) rfl (hb hby d15_22) rfl ((if0 _ _).trans (flt (c51 : ¬ ((0 : Int32) < gc))).2.2.2) (by decide) (by decide) ?_
            exact kt
        obtain ⟨T52, X52, e52, st52⟩ := getF X45 hx hZ hown (host := "") (Or.inl (own_w hw 100 rfl)) Via.refl k47 F_r (g := (mkF m 7 #[.val (.ref t'), .val (.int cut), .val (.int ((((0 : Int32) + (own_t (0 : Int32) (4 : Int32) cut ga)) + (own_t (1 : Int32) (4 : Int32) cut gb)) + (own_t (2 : Int32) (4 : Int32) cut gc))), .val (.int (4 : Int32))] [(.ref t'), (.int cut), (.int (4 : Int32))])) rfl rfl (hb hby d15_7)
        obtain ⟨cl53, Ar53, -, Sz53, Nn53, -, -⟩ := id A_r
        obtain ⟨_, _, ⟨T54, L54, k54, n54⟩, -, X54, ⟨Lc54, hQ54, l54, y54, z54⟩, st54⟩ := Jvm.LawKit.callS X52 hx (y := (⟨"java/lang/Math", "min", "(II)I"⟩ : MethodName)) hown (mvT hZ (own_w hw 114 rfl)) (mvT hZ (own_w hw 115 rfl)) (mvT hZ (own_w hw 116 rfl)) (mvT hZ (own_w hw 117 rfl)) (by decide) (backOf (W := 1) (rm_min l Z a0 hw [] cut (4 : Int32) h0 n0 O0 ) hZ (own_w hw 117 rfl) (own_w hw 116 rfl) (by decide) (by decide)) (g := (mkF m 11 #[.val (.ref t'), .val (.int cut), .val (.int ((((0 : Int32) + (own_t (0 : Int32) (4 : Int32) cut ga)) + (own_t (1 : Int32) (4 : Int32) cut gb)) + (own_t (2 : Int32) (4 : Int32) cut gc))), .val (.int (4 : Int32))] [(.int (4 : Int32)), (.int cut), (.int (4 : Int32))])) rfl (by rw [hml]; rfl) (argsL := [(.int cut), (.int (4 : Int32))]) (rest := [(.int (4 : Int32))]) (lenOf pd_9 rfl) rfl (by show 2 * 0 + _ ≤ _; exact Nat.le_of_eq rfl) (hb hby d15_11) (fun _ _ => ⟨rfl, e52, (by decide : 0 + 0 ≤ _), (by decide : 0 + 0 ≤ _)⟩)
        dsimp only [Pt.U, Pt.locs, Pt.cells, Pt.slots] at X54 l54 y54 z54 st54 hQ54
        subst l54 y54 z54
        rcases hQ54 with ⟨c55, rfl, N56, k57⟩ | ⟨c58, rfl, N59, k60⟩
        · have N61 := Fr.app N48 N56
          obtain ⟨cq62, kq62, q62a, q62b, q62c⟩ := isOf hZ k57 E_t
          obtain ⟨_, _, ⟨T62, L62, k62, n62⟩, -, X62, ⟨Lc62, hQ62, l62, y62, z62⟩, st62⟩ := X54.virtualBack hx (y := (⟨"com/example/favonius/favonius/eval/TopicRanking", "gradeAt", "(I)I"⟩ : MethodName)) (z := (⟨"com/example/favonius/favonius/eval/TopicRanking", "gradeAt", "(I)I"⟩ : MethodName)) hown (mvT hZ (own_w hw 118 rfl)) (mvT hZ (own_w hw 119 rfl)) (notFace_of_selects (args := #[]) (mvT hZ (own_w hw 121 rfl))) (mvT hZ (own_w hw 121 rfl)) (mvT hZ (own_w hw 120 rfl)) (by decide) (backOf (W := 0) (rm_grade4_4 l Z a0 hw [] t' r k' ga gb gc gd h0 n0 O0 F_r A_r) hZ (own_w hw 122 rfl) (own_w hw 34 rfl) (by decide) (by decide)) q62a q62c (g := (mkF m 19 #[.val (.ref t'), .val (.int cut), .val (.int ((((0 : Int32) + (own_t (0 : Int32) (4 : Int32) cut ga)) + (own_t (1 : Int32) (4 : Int32) cut gb)) + (own_t (2 : Int32) (4 : Int32) cut gc))), .val (.int (4 : Int32))] [(.int (4 : Int32)), (.ref t')])) rfl (by rw [hml]; rfl) (Steps.refl _) (argsL := [(.int (4 : Int32))]) (rest := []) (lenOf pd_10 rfl) rfl (by show 2 * 0 + _ ≤ _; exact Nat.le_of_eq rfl) (hb hby d15_19) (fun _ _ => ⟨rfl, k57, (by decide : 0 + 0 ≤ _), (by decide : 0 + 0 ≤ _)⟩)
          dsimp only [Pt.U, Pt.locs, Pt.cells, Pt.slots] at X62 l62 y62 z62 st62 hQ62
          subst l62 y62 z62
          obtain ⟨rfl, N63, k64⟩ := hQ62
          have N65 := Fr.app N61 N63
          have S66 : ∀ t, Steps p.tables e below (T62.setTop (mkF m 22 #[.val (.ref t'), .val (.int cut), .val (.int ((((0 : Int32) + (own_t (0 : Int32) (4 : Int32) cut ga)) + (own_t (1 : Int32) (4 : Int32) cut gb)) + (own_t (2 : Int32) (4 : Int32) cut gc))), .val (.int (4 : Int32))] [(.int gd)])) t → Steps p.tables e below (s₁.setTop (mkF m 0 #[.val (.ref t'), .val (.int cut), .unset, .unset] [])) t := by
            intro t kt
            refine S50 t ?_
            refine XS.iinc X45.here hx rfl (hb hby d15_28) rfl (l' := #[.val (.ref t'), .val (.int cut), .val (.int ((((0 : Int32) + (own_t (0 : Int32) (4 : Int32) cut ga)) + (own_t (1 : Int32) (4 : Int32) cut gb)) + (own_t (2 : Int32) (4 : Int32) cut gc))), .val (.int (4 : Int32))]) rfl ?_
            refine XS.goto X45.here hx rfl (pc0 := 31) (pc' := 4) rfl (hb hby d15_31) (by decide) (by decide) ?_
            refine XS.iloadN X45.here hx rfl (hb hby d15_4) rfl ?_
            refine XS.iloadN X45.here hx rfl (hb hby d15_5) rfl ?_
            refine XS.aloadN X45.here hx rfl (hb hby d15_6) rfl rfl ?_
            show Steps p.tables e below (T45.setTop (mkF m 7 #[.val (.ref t'), .val (.int cut), .val (.int ((((0 : Int32) + (own_t (0 : Int32) (4 : Int32) cut ga)) + (own_t (1 : Int32) (4 : Int32) cut gb)) + (own_t (2 : Int32) (4 : Int32) cut gc))), .val (.int (4 : Int32))] [(.ref t'), (.int cut), (.int (4 : Int32))])) _
            refine st52 _ ?_
            show Steps p.tables e below (T52.setTop (mkF m 10 #[.val (.ref t'), .val (.int cut), .val (.int ((((0 : Int32) + (own_t (0 : Int32) (4 : Int32) cut ga)) + (own_t (1 : Int32) (4 : Int32) cut gb)) + (own_t (2 : Int32) (4 : Int32) cut gc))), .val (.int (4 : Int32))] [(.ref r), (.int cut), (.int (4 : Int32))])) _
            refine X52.arraylength hx (by rw [e52]; exact Ar53.1) (State.isArrayOf_alike hZ.alike Ar53.2.1) (g := (mkF m 10 #[.val (.ref t'), .val (.int cut), .val (.int ((((0 : Int32) + (own_t (0 : Int32) (4 : Int32) cut ga)) + (own_t (1 : Int32) (4 : Int32) cut gb)) + (own_t (2 : Int32) (4 : Int32) cut gc))), .val (.int (4 : Int32))] [(.ref r), (.int cut), (.int (4 : Int32))])) rfl rfl (hb hby d15_10) _ ?_
            rw [len_of Sz53 Nn53]
            show Steps p.tables e below (T52.setTop (mkF m 11 #[.val (.ref t'), .val (.int cut), .val (.int ((((0 : Int32) + (own_t (0 : Int32) (4 : Int32) cut ga)) + (own_t (1 : Int32) (4 : Int32) cut gb)) + (own_t (2 : Int32) (4 : Int32) cut gc))), .val (.int (4 : Int32))] [(.int (4 : Int32)), (.int cut), (.int (4 : Int32))])) _
            refine st54 _ ?_
            refine XS.icmpNo X54.here hx rfl (hb hby d15_14) rfl (flt ((by decide) : ¬ ((4 : Int32) < (4 : Int32)))).2.2.1 ?_
            refine XS.aloadN X54.here hx rfl (hb hby d15_17) rfl rfl ?_
            refine XS.iloadN X54.here hx rfl (hb hby d15_18) rfl ?_
            show Steps p.tables e below (T54.setTop (mkF m 19 #[.val (.ref t'), .val (.int cut), .val (.int ((((0 : Int32) + (own_t (0 : Int32) (4 : Int32) cut ga)) + (own_t (1 : Int32) (4 : Int32) cut gb)) + (own_t (2 : Int32) (4 : Int32) cut gc))), .val (.int (4 : Int32))] [(.int (4 : Int32)), (.ref t')])) _
            refine st62.trans ?_
            exact kt
          have S67 : ∀ t, Steps p.tables e below (T62.setTop (mkF m 28 #[.val (.ref t'), .val (.int cut), .val (.int (((((0 : Int32) + (own_t (0 : Int32) (4 : Int32) cut ga)) + (own_t (1 : Int32) (4 : Int32) cut gb)) + (own_t (2 : Int32) (4 : Int32) cut gc)) + (own_t (3 : Int32) (4 : Int32) cut gd))), .val (.int (4 : Int32))] [])) t → Steps p.tables e below (s₁.setTop (mkF m 0 #[.val (.ref t'), .val (.int cut), .unset, .unset] [])) t := by
            intro t kt
            rcases Decidable.em ((0 : Int32) < gd) with c68 | c68
            · rw [own_t1 (by decide : (3 : Int32) < (4 : Int32)) (own_b6 c55 (by decide)) c68] at kt
              refine S66 t ?_
              refine XS.ifNo X62.here hx rfl (hb hby d15_22) rfl ((if0 _ _).trans (tlt (c68 : (0 : Int32) < gd)).2.2.2) ?_
              refine XS.iinc X62.here hx rfl (hb hby d15_25) rfl (l' := #[.val (.ref t'), .val (.int cut), .val (.int (((((0 : Int32) + (own_t (0 : Int32) (4 : Int32) cut ga)) + (own_t (1 : Int32) (4 : Int32) cut gb)) + (own_t (2 : Int32) (4 : Int32) cut gc)) + (1 : Int32))), .val (.int (4 : Int32))]) rfl ?_
              exact kt
            · rw [own_t0c c68, Int32.add_zero] at kt
              refine S66 t ?_
              refine XS.ifYes X62.here hx rfl (pc0 := 22) (pc' := 28) rfl (hb hby d15_22) rfl ((if0 _ _).trans (flt (c68 : ¬ ((0 : Int32) < gd))).2.2.2) (by decide) (by decide) ?_
              exact kt
          obtain ⟨T69, X69, e69, st69⟩ := getF X62 hx hZ hown (host := "") (Or.inl (own_w hw 100 rfl)) Via.refl k64 F_r (g := (mkF m 7 #[.val (.ref t'), .val (.int cut), .val (.int (((((0 : Int32) + (own_t (0 : Int32) (4 : Int32) cut ga)) + (own_t (1 : Int32) (4 : Int32) cut gb)) + (own_t (2 : Int32) (4 : Int32) cut gc)) + (own_t (3 : Int32) (4 : Int32) cut gd))), .val (.int (5 : Int32))] [(.ref t'), (.int cut), (.int (5 : Int32))])) rfl rfl (hb hby d15_7)
          obtain ⟨cl70, Ar70, -, Sz70, Nn70, -, -⟩ := id A_r
          obtain ⟨_, _, ⟨T71, L71, k71, n71⟩, -, X71, ⟨Lc71, hQ71, l71, y71, z71⟩, st71⟩ := Jvm.LawKit.callS X69 hx (y := (⟨"java/lang/Math", "min", "(II)I"⟩ : MethodName)) hown (mvT hZ (own_w hw 114 rfl)) (mvT hZ (own_w hw 115 rfl)) (mvT hZ (own_w hw 116 rfl)) (mvT hZ (own_w hw 117 rfl)) (by decide) (backOf (W := 1) (rm_min l Z a0 hw [] cut (4 : Int32) h0 n0 O0 ) hZ (own_w hw 117 rfl) (own_w hw 116 rfl) (by decide) (by decide)) (g := (mkF m 11 #[.val (.ref t'), .val (.int cut), .val (.int (((((0 : Int32) + (own_t (0 : Int32) (4 : Int32) cut ga)) + (own_t (1 : Int32) (4 : Int32) cut gb)) + (own_t (2 : Int32) (4 : Int32) cut gc)) + (own_t (3 : Int32) (4 : Int32) cut gd))), .val (.int (5 : Int32))] [(.int (4 : Int32)), (.int cut), (.int (5 : Int32))])) rfl (by rw [hml]; rfl) (argsL := [(.int cut), (.int (4 : Int32))]) (rest := [(.int (5 : Int32))]) (lenOf pd_9 rfl) rfl (by show 2 * 0 + _ ≤ _; exact Nat.le_of_eq rfl) (hb hby d15_11) (fun _ _ => ⟨rfl, e69, (by decide : 0 + 0 ≤ _), (by decide : 0 + 0 ≤ _)⟩)
          dsimp only [Pt.U, Pt.locs, Pt.cells, Pt.slots] at X71 l71 y71 z71 st71 hQ71
          subst l71 y71 z71
          rcases hQ71 with ⟨c72, rfl, N73, k74⟩ | ⟨c75, rfl, N76, k77⟩
          · have N78 := Fr.app N65 N73
            have S79 : ∀ t, Steps p.tables e below (T71.setTop (mkF m 35 #[.val (.ref t'), .val (.int cut), .val (.int (((((0 : Int32) + (own_t (0 : Int32) (4 : Int32) cut ga)) + (own_t (1 : Int32) (4 : Int32) cut gb)) + (own_t (2 : Int32) (4 : Int32) cut gc)) + (own_t (3 : Int32) (4 : Int32) cut gd))), .val (.int (5 : Int32))] [(.int (((((0 : Int32) + (own_t (0 : Int32) (4 : Int32) cut ga)) + (own_t (1 : Int32) (4 : Int32) cut gb)) + (own_t (2 : Int32) (4 : Int32) cut gc)) + (own_t (3 : Int32) (4 : Int32) cut gd)))])) t → Steps p.tables e below (s₁.setTop (mkF m 0 #[.val (.ref t'), .val (.int cut), .unset, .unset] [])) t := by
              intro t kt
              refine S67 t ?_
              refine XS.iinc X62.here hx rfl (hb hby d15_28) rfl (l' := #[.val (.ref t'), .val (.int cut), .val (.int (((((0 : Int32) + (own_t (0 : Int32) (4 : Int32) cut ga)) + (own_t (1 : Int32) (4 : Int32) cut gb)) + (own_t (2 : Int32) (4 : Int32) cut gc)) + (own_t (3 : Int32) (4 : Int32) cut gd))), .val (.int (5 : Int32))]) rfl ?_
              refine XS.goto X62.here hx rfl (pc0 := 31) (pc' := 4) rfl (hb hby d15_31) (by decide) (by decide) ?_
              refine XS.iloadN X62.here hx rfl (hb hby d15_4) rfl ?_
              refine XS.iloadN X62.here hx rfl (hb hby d15_5) rfl ?_
              refine XS.aloadN X62.here hx rfl (hb hby d15_6) rfl rfl ?_
              show Steps p.tables e below (T62.setTop (mkF m 7 #[.val (.ref t'), .val (.int cut), .val (.int (((((0 : Int32) + (own_t (0 : Int32) (4 : Int32) cut ga)) + (own_t (1 : Int32) (4 : Int32) cut gb)) + (own_t (2 : Int32) (4 : Int32) cut gc)) + (own_t (3 : Int32) (4 : Int32) cut gd))), .val (.int (5 : Int32))] [(.ref t'), (.int cut), (.int (5 : Int32))])) _
              refine st69 _ ?_
              show Steps p.tables e below (T69.setTop (mkF m 10 #[.val (.ref t'), .val (.int cut), .val (.int (((((0 : Int32) + (own_t (0 : Int32) (4 : Int32) cut ga)) + (own_t (1 : Int32) (4 : Int32) cut gb)) + (own_t (2 : Int32) (4 : Int32) cut gc)) + (own_t (3 : Int32) (4 : Int32) cut gd))), .val (.int (5 : Int32))] [(.ref r), (.int cut), (.int (5 : Int32))])) _
              refine X69.arraylength hx (by rw [e69]; exact Ar70.1) (State.isArrayOf_alike hZ.alike Ar70.2.1) (g := (mkF m 10 #[.val (.ref t'), .val (.int cut), .val (.int (((((0 : Int32) + (own_t (0 : Int32) (4 : Int32) cut ga)) + (own_t (1 : Int32) (4 : Int32) cut gb)) + (own_t (2 : Int32) (4 : Int32) cut gc)) + (own_t (3 : Int32) (4 : Int32) cut gd))), .val (.int (5 : Int32))] [(.ref r), (.int cut), (.int (5 : Int32))])) rfl rfl (hb hby d15_10) _ ?_
              rw [len_of Sz70 Nn70]
              show Steps p.tables e below (T69.setTop (mkF m 11 #[.val (.ref t'), .val (.int cut), .val (.int (((((0 : Int32) + (own_t (0 : Int32) (4 : Int32) cut ga)) + (own_t (1 : Int32) (4 : Int32) cut gb)) + (own_t (2 : Int32) (4 : Int32) cut gc)) + (own_t (3 : Int32) (4 : Int32) cut gd))), .val (.int (5 : Int32))] [(.int (4 : Int32)), (.int cut), (.int (5 : Int32))])) _
              refine st71 _ ?_
              refine XS.icmpYes X71.here hx rfl (pc0 := 14) (pc' := 34) rfl (hb hby d15_14) rfl (tlt ((by decide) : (4 : Int32) < (5 : Int32))).2.2.1 (by decide) (by decide) ?_
              refine XS.iloadN X71.here hx rfl (hb hby d15_34) rfl ?_
              exact kt
            obtain ⟨fs, hr, hrun, hended, hW, hsame⟩ := X71.leave (v := some (.int (((((0 : Int32) + (own_t (0 : Int32) (4 : Int32) cut ga)) + (own_t (1 : Int32) (4 : Int32) cut gb)) + (own_t (2 : Int32) (4 : Int32) cut gc)) + (own_t (3 : Int32) (4 : Int32) cut gd)))) (fun h => by rw [Bd.returns] at h; cases h)
            refine ⟨_, _, pre0 _ (S79 _ ?_), hrun, hended, _, _, rfl, ?_, ⟨_, rfl⟩, hW, hsame.mono (by decide) (by decide)⟩
            · exact retOut X71 hx Bd.returns rfl (Or.inl ⟨rfl, Or.inl rfl, _, rfl⟩) (hb hby d15_35) hr
            · show Q_rm_top4 Z t' cut r k' ga gb gc gd h0 n0 _ T71.heap _
              rw [k74]
              exact ⟨(congrArg (fun z => some (Value.int z)) (by simp only [Int32.add_zero, Int32.zero_add])), N78, rfl⟩
          · exact absurd (c55 : (4 : Int32) < cut) c75
        · exact absurd (c38 : (4 : Int32) < cut) c58
      · exact absurd (c21 : (4 : Int32) < cut) c41
    · exact absurd (c4 : (4 : Int32) < cut) c24
  · have N80 := Fr.app N0 N8
    have S81 : ∀ t, Steps p.tables e below (T3.setTop (mkF m 14 #[.val (.ref t'), .val (.int cut), .val (.int (0 : Int32)), .val (.int (1 : Int32))] [(.int cut), (.int (1 : Int32))])) t → Steps p.tables e below (s₁.setTop (mkF m 0 #[.val (.ref t'), .val (.int cut), .unset, .unset] [])) t := by
      intro t kt
      refine XS.iconst X0.here hx rfl (hb hby d15_0) ?_
      refine XS.istoreN X0.here hx rfl (hb hby d15_1) rfl (l' := #[.val (.ref t'), .val (.int cut), .val (.int (0 : Int32)), .unset]) rfl ?_
      refine XS.iconst X0.here hx rfl (hb hby d15_2) ?_
      refine XS.istoreN X0.here hx rfl (hb hby d15_3) rfl (l' := #[.val (.ref t'), .val (.int cut), .val (.int (0 : Int32)), .val (.int (1 : Int32))]) rfl ?_
      refine XS.iloadN X0.here hx rfl (hb hby d15_4) rfl ?_
      refine XS.iloadN X0.here hx rfl (hb hby d15_5) rfl ?_
      show Steps p.tables e below (s₁.setTop (mkF m 6 #[.val (.ref t'), .val (.int cut), .val (.int (0 : Int32)), .val (.int (1 : Int32))] [(.int cut), (.int (1 : Int32))])) _
      refine XS.aloadN X0.here hx rfl (hb hby d15_6) rfl rfl ?_
      show Steps p.tables e below (s₁.setTop (mkF m 7 #[.val (.ref t'), .val (.int cut), .val (.int (0 : Int32)), .val (.int (1 : Int32))] [(.ref t'), (.int cut), (.int (1 : Int32))])) _
      refine st1 _ ?_
      show Steps p.tables e below (T1.setTop (mkF m 10 #[.val (.ref t'), .val (.int cut), .val (.int (0 : Int32)), .val (.int (1 : Int32))] [(.ref r), (.int cut), (.int (1 : Int32))])) _
      refine X1.arraylength hx (by rw [e1]; exact Ar2.1) (State.isArrayOf_alike hZ.alike Ar2.2.1) (g := (mkF m 10 #[.val (.ref t'), .val (.int cut), .val (.int (0 : Int32)), .val (.int (1 : Int32))] [(.ref r), (.int cut), (.int (1 : Int32))])) rfl rfl (hb hby d15_10) _ ?_
      rw [len_of Sz2 Nn2]
      show Steps p.tables e below (T1.setTop (mkF m 11 #[.val (.ref t'), .val (.int cut), .val (.int (0 : Int32)), .val (.int (1 : Int32))] [(.int (4 : Int32)), (.int cut), (.int (1 : Int32))])) _
      refine st3 _ ?_
      exact kt
    rcases Decidable.em (cut < (1 : Int32)) with c82 | c82
    · have S83 : ∀ t, Steps p.tables e below (T3.setTop (mkF m 35 #[.val (.ref t'), .val (.int cut), .val (.int (0 : Int32)), .val (.int (1 : Int32))] [(.int (0 : Int32))])) t → Steps p.tables e below (s₁.setTop (mkF m 0 #[.val (.ref t'), .val (.int cut), .unset, .unset] [])) t := by
        intro t kt
        refine S81 t ?_
        refine XS.icmpYes X3.here hx rfl (pc0 := 14) (pc' := 34) rfl (hb hby d15_14) rfl (tlt (c82 : cut < (1 : Int32))).2.2.1 (by decide) (by decide) ?_
        refine XS.iloadN X3.here hx rfl (hb hby d15_34) rfl ?_
        exact kt
      have u84 : own_t (0 : Int32) (4 : Int32) cut ga = (0 : Int32) := own_t0b (own_b2 c82 (by decide))
      have u85 : own_t (1 : Int32) (4 : Int32) cut gb = (0 : Int32) := own_t0b (own_b2 c82 (by decide))
      have u86 : own_t (2 : Int32) (4 : Int32) cut gc = (0 : Int32) := own_t0b (own_b2 c82 (by decide))
      have u87 : own_t (3 : Int32) (4 : Int32) cut gd = (0 : Int32) := own_t0b (own_b2 c82 (by decide))
      obtain ⟨fs, hr, hrun, hended, hW, hsame⟩ := X3.leave (v := some (.int (0 : Int32))) (fun h => by rw [Bd.returns] at h; cases h)
      refine ⟨_, _, pre0 _ (S83 _ ?_), hrun, hended, _, _, rfl, ?_, ⟨_, rfl⟩, hW, hsame.mono (by decide) (by decide)⟩
      · exact retOut X3 hx Bd.returns rfl (Or.inl ⟨rfl, Or.inl rfl, _, rfl⟩) (hb hby d15_35) hr
      · show Q_rm_top4 Z t' cut r k' ga gb gc gd h0 n0 _ T3.heap _
        rw [k9]
        exact ⟨(congrArg (fun z => some (Value.int z)) (by rw [u84, u85, u86, u87] <;> decide)), N80, rfl⟩
    · obtain ⟨cq88, kq88, q88a, q88b, q88c⟩ := isOf hZ k9 E_t
      obtain ⟨_, _, ⟨T88, L88, k88, n88⟩, -, X88, ⟨Lc88, hQ88, l88, y88, z88⟩, st88⟩ := X3.virtualBack hx (y := (⟨"com/example/favonius/favonius/eval/TopicRanking", "gradeAt", "(I)I"⟩ : MethodName)) (z := (⟨"com/example/favonius/favonius/eval/TopicRanking", "gradeAt", "(I)I"⟩ : MethodName)) hown (mvT hZ (own_w hw 118 rfl)) (mvT hZ (own_w hw 119 rfl)) (notFace_of_selects (args := #[]) (mvT hZ (own_w hw 121 rfl))) (mvT hZ (own_w hw 121 rfl)) (mvT hZ (own_w hw 120 rfl)) (by decide) (backOf (W := 0) (rm_grade4_1 l Z a0 hw [] t' r k' ga gb gc gd h0 n0 O0 F_r A_r) hZ (own_w hw 122 rfl) (own_w hw 34 rfl) (by decide) (by decide)) q88a q88c (g := (mkF m 19 #[.val (.ref t'), .val (.int cut), .val (.int (0 : Int32)), .val (.int (1 : Int32))] [(.int (1 : Int32)), (.ref t')])) rfl (by rw [hml]; rfl) (Steps.refl _) (argsL := [(.int (1 : Int32))]) (rest := []) (lenOf pd_10 rfl) rfl (by show 2 * 0 + _ ≤ _; exact Nat.le_of_eq rfl) (hb hby d15_19) (fun _ _ => ⟨rfl, k9, (by decide : 0 + 0 ≤ _), (by decide : 0 + 0 ≤ _)⟩)
      dsimp only [Pt.U, Pt.locs, Pt.cells, Pt.slots] at X88 l88 y88 z88 st88 hQ88
      subst l88 y88 z88
      obtain ⟨rfl, N89, k90⟩ := hQ88
      have N91 := Fr.app N80 N89
      have S92 : ∀ t, Steps p.tables e below (T88.setTop (mkF m 22 #[.val (.ref t'), .val (.int cut), .val (.int (0 : Int32)), .val (.int (1 : Int32))] [(.int ga)])) t → Steps p.tables e below (s₁.setTop (mkF m 0 #[.val (.ref t'), .val (.int cut), .unset, .unset] [])) t := by
        intro t kt
        refine S81 t ?_
        refine XS.icmpNo X3.here hx rfl (hb hby d15_14) rfl (flt (c82 : ¬ (cut < (1 : Int32)))).2.2.1 ?_
        refine XS.aloadN X3.here hx rfl (hb hby d15_17) rfl rfl ?_
        refine XS.iloadN X3.here hx rfl (hb hby d15_18) rfl ?_
        show Steps p.tables e below (T3.setTop (mkF m 19 #[.val (.ref t'), .val (.int cut), .val (.int (0 : Int32)), .val (.int (1 : Int32))] [(.int (1 : Int32)), (.ref t')])) _
        refine st88.trans ?_
        exact kt
      have S93 : ∀ t, Steps p.tables e below (T88.setTop (mkF m 28 #[.val (.ref t'), .val (.int cut), .val (.int ((0 : Int32) + (own_t (0 : Int32) (4 : Int32) cut ga))), .val (.int (1 : Int32))] [])) t → Steps p.tables e below (s₁.setTop (mkF m 0 #[.val (.ref t'), .val (.int cut), .unset, .unset] [])) t := by
        intro t kt
        rcases Decidable.em ((0 : Int32) < ga) with c94 | c94
        · rw [own_t1 (by decide : (0 : Int32) < (4 : Int32)) (own_b4 c82 (by decide)) c94] at kt
          refine S92 t ?_
          refine XS.ifNo X88.here hx rfl (hb hby d15_22) rfl ((if0 _ _).trans (tlt (c94 : (0 : Int32) < ga)).2.2.2) ?_
          refine XS.iinc X88.here hx rfl (hb hby d15_25) rfl (l' := #[.val (.ref t'), .val (.int cut), .val (.int (1 : Int32)), .val (.int (1 : Int32))]) rfl ?_
          exact kt
        · rw [own_t0c c94, Int32.add_zero] at kt
          refine S92 t ?_
          refine XS.ifYes X88.here hx rfl (pc0 := 22) (pc' := 28) rfl (hb hby d15_22) rfl ((if0 _ _).trans (flt (c94 : ¬ ((0 : Int32) < ga))).2.2.2) (by decide) (by decide) ?_
          exact kt
      obtain ⟨T95, X95, e95, st95⟩ := getF X88 hx hZ hown (host := "") (Or.inl (own_w hw 100 rfl)) Via.refl k90 F_r (g := (mkF m 7 #[.val (.ref t'), .val (.int cut), .val (.int ((0 : Int32) + (own_t (0 : Int32) (4 : Int32) cut ga))), .val (.int (2 : Int32))] [(.ref t'), (.int cut), (.int (2 : Int32))])) rfl rfl (hb hby d15_7)
      obtain ⟨cl96, Ar96, -, Sz96, Nn96, -, -⟩ := id A_r
      obtain ⟨_, _, ⟨T97, L97, k97, n97⟩, -, X97, ⟨Lc97, hQ97, l97, y97, z97⟩, st97⟩ := Jvm.LawKit.callS X95 hx (y := (⟨"java/lang/Math", "min", "(II)I"⟩ : MethodName)) hown (mvT hZ (own_w hw 114 rfl)) (mvT hZ (own_w hw 115 rfl)) (mvT hZ (own_w hw 116 rfl)) (mvT hZ (own_w hw 117 rfl)) (by decide) (backOf (W := 1) (rm_min l Z a0 hw [] cut (4 : Int32) h0 n0 O0 ) hZ (own_w hw 117 rfl) (own_w hw 116 rfl) (by decide) (by decide)) (g := (mkF m 11 #[.val (.ref t'), .val (.int cut), .val (.int ((0 : Int32) + (own_t (0 : Int32) (4 : Int32) cut ga))), .val (.int (2 : Int32))] [(.int (4 : Int32)), (.int cut), (.int (2 : Int32))])) rfl (by rw [hml]; rfl) (argsL := [(.int cut), (.int (4 : Int32))]) (rest := [(.int (2 : Int32))]) (lenOf pd_9 rfl) rfl (by show 2 * 0 + _ ≤ _; exact Nat.le_of_eq rfl) (hb hby d15_11) (fun _ _ => ⟨rfl, e95, (by decide : 0 + 0 ≤ _), (by decide : 0 + 0 ≤ _)⟩)
      dsimp only [Pt.U, Pt.locs, Pt.cells, Pt.slots] at X97 l97 y97 z97 st97 hQ97
      subst l97 y97 z97
      rcases hQ97 with ⟨c98, rfl, N99, k100⟩ | ⟨c101, rfl, N102, k103⟩
      · exact absurd c98 (c7 : ¬ ((4 : Int32) < cut))
      · have N104 := Fr.app N91 N102
        have S105 : ∀ t, Steps p.tables e below (T97.setTop (mkF m 14 #[.val (.ref t'), .val (.int cut), .val (.int ((0 : Int32) + (own_t (0 : Int32) (4 : Int32) cut ga))), .val (.int (2 : Int32))] [(.int cut), (.int (2 : Int32))])) t → Steps p.tables e below (s₁.setTop (mkF m 0 #[.val (.ref t'), .val (.int cut), .unset, .unset] [])) t := by
          intro t kt
          refine S93 t ?_
          refine XS.iinc X88.here hx rfl (hb hby d15_28) rfl (l' := #[.val (.ref t'), .val (.int cut), .val (.int ((0 : Int32) + (own_t (0 : Int32) (4 : Int32) cut ga))), .val (.int (2 : Int32))]) rfl ?_
          refine XS.goto X88.here hx rfl (pc0 := 31) (pc' := 4) rfl (hb hby d15_31) (by decide) (by decide) ?_
          refine XS.iloadN X88.here hx rfl (hb hby d15_4) rfl ?_
          refine XS.iloadN X88.here hx rfl (hb hby d15_5) rfl ?_
          refine XS.aloadN X88.here hx rfl (hb hby d15_6) rfl rfl ?_
          show Steps p.tables e below (T88.setTop (mkF m 7 #[.val (.ref t'), .val (.int cut), .val (.int ((0 : Int32) + (own_t (0 : Int32) (4 : Int32) cut ga))), .val (.int (2 : Int32))] [(.ref t'), (.int cut), (.int (2 : Int32))])) _
          refine st95 _ ?_
          show Steps p.tables e below (T95.setTop (mkF m 10 #[.val (.ref t'), .val (.int cut), .val (.int ((0 : Int32) + (own_t (0 : Int32) (4 : Int32) cut ga))), .val (.int (2 : Int32))] [(.ref r), (.int cut), (.int (2 : Int32))])) _
          refine X95.arraylength hx (by rw [e95]; exact Ar96.1) (State.isArrayOf_alike hZ.alike Ar96.2.1) (g := (mkF m 10 #[.val (.ref t'), .val (.int cut), .val (.int ((0 : Int32) + (own_t (0 : Int32) (4 : Int32) cut ga))), .val (.int (2 : Int32))] [(.ref r), (.int cut), (.int (2 : Int32))])) rfl rfl (hb hby d15_10) _ ?_
          rw [len_of Sz96 Nn96]
          show Steps p.tables e below (T95.setTop (mkF m 11 #[.val (.ref t'), .val (.int cut), .val (.int ((0 : Int32) + (own_t (0 : Int32) (4 : Int32) cut ga))), .val (.int (2 : Int32))] [(.int (4 : Int32)), (.int cut), (.int (2 : Int32))])) _
          refine st97 _ ?_
          exact kt
        rcases Decidable.em (cut < (2 : Int32)) with c106 | c106
        · have S107 : ∀ t, Steps p.tables e below (T97.setTop (mkF m 35 #[.val (.ref t'), .val (.int cut), .val (.int ((0 : Int32) + (own_t (0 : Int32) (4 : Int32) cut ga))), .val (.int (2 : Int32))] [(.int ((0 : Int32) + (own_t (0 : Int32) (4 : Int32) cut ga)))])) t → Steps p.tables e below (s₁.setTop (mkF m 0 #[.val (.ref t'), .val (.int cut), .unset, .unset] [])) t := by
            intro t kt
            refine S105 t ?_
            refine XS.icmpYes X97.here hx rfl (pc0 := 14) (pc' := 34) rfl (hb hby d15_14) rfl (tlt (c106 : cut < (2 : Int32))).2.2.1 (by decide) (by decide) ?_
            refine XS.iloadN X97.here hx rfl (hb hby d15_34) rfl ?_
            exact kt
          have u108 : own_t (1 : Int32) (4 : Int32) cut gb = (0 : Int32) := own_t0b (own_b2 c106 (by decide))
          have u109 : own_t (2 : Int32) (4 : Int32) cut gc = (0 : Int32) := own_t0b (own_b2 c106 (by decide))
          have u110 : own_t (3 : Int32) (4 : Int32) cut gd = (0 : Int32) := own_t0b (own_b2 c106 (by decide))
          obtain ⟨fs, hr, hrun, hended, hW, hsame⟩ := X97.leave (v := some (.int ((0 : Int32) + (own_t (0 : Int32) (4 : Int32) cut ga)))) (fun h => by rw [Bd.returns] at h; cases h)
          refine ⟨_, _, pre0 _ (S107 _ ?_), hrun, hended, _, _, rfl, ?_, ⟨_, rfl⟩, hW, hsame.mono (by decide) (by decide)⟩
          · exact retOut X97 hx Bd.returns rfl (Or.inl ⟨rfl, Or.inl rfl, _, rfl⟩) (hb hby d15_35) hr
          · show Q_rm_top4 Z t' cut r k' ga gb gc gd h0 n0 _ T97.heap _
            rw [k103]
            exact ⟨(congrArg (fun z => some (Value.int z)) (by simp only [u108, u109, u110, Int32.add_zero, Int32.zero_add])), N104, rfl⟩
        · obtain ⟨cq111, kq111, q111a, q111b, q111c⟩ := isOf hZ k103 E_t
          obtain ⟨_, _, ⟨T111, L111, k111, n111⟩, -, X111, ⟨Lc111, hQ111, l111, y111, z111⟩, st111⟩ := X97.virtualBack hx (y := (⟨"com/example/favonius/favonius/eval/TopicRanking", "gradeAt", "(I)I"⟩ : MethodName)) (z := (⟨"com/example/favonius/favonius/eval/TopicRanking", "gradeAt", "(I)I"⟩ : MethodName)) hown (mvT hZ (own_w hw 118 rfl)) (mvT hZ (own_w hw 119 rfl)) (notFace_of_selects (args := #[]) (mvT hZ (own_w hw 121 rfl))) (mvT hZ (own_w hw 121 rfl)) (mvT hZ (own_w hw 120 rfl)) (by decide) (backOf (W := 0) (rm_grade4_2 l Z a0 hw [] t' r k' ga gb gc gd h0 n0 O0 F_r A_r) hZ (own_w hw 122 rfl) (own_w hw 34 rfl) (by decide) (by decide)) q111a q111c (g := (mkF m 19 #[.val (.ref t'), .val (.int cut), .val (.int ((0 : Int32) + (own_t (0 : Int32) (4 : Int32) cut ga))), .val (.int (2 : Int32))] [(.int (2 : Int32)), (.ref t')])) rfl (by rw [hml]; rfl) (Steps.refl _) (argsL := [(.int (2 : Int32))]) (rest := []) (lenOf pd_10 rfl) rfl (by show 2 * 0 + _ ≤ _; exact Nat.le_of_eq rfl) (hb hby d15_19) (fun _ _ => ⟨rfl, k103, (by decide : 0 + 0 ≤ _), (by decide : 0 + 0 ≤ _)⟩)
          dsimp only [Pt.U, Pt.locs, Pt.cells, Pt.slots] at X111 l111 y111 z111 st111 hQ111
          subst l111 y111 z111
          obtain ⟨rfl, N112, k113⟩ := hQ111
          have N114 := Fr.app N104 N112
          have S115 : ∀ t, Steps p.tables e below (T111.setTop (mkF m 22 #[.val (.ref t'), .val (.int cut), .val (.int ((0 : Int32) + (own_t (0 : Int32) (4 : Int32) cut ga))), .val (.int (2 : Int32))] [(.int gb)])) t → Steps p.tables e below (s₁.setTop (mkF m 0 #[.val (.ref t'), .val (.int cut), .unset, .unset] [])) t := by
            intro t kt
            refine S105 t ?_
            refine XS.icmpNo X97.here hx rfl (hb hby d15_14) rfl (flt (c106 : ¬ (cut < (2 : Int32)))).2.2.1 ?_
            refine XS.aloadN X97.here hx rfl (hb hby d15_17) rfl rfl ?_
            refine XS.iloadN X97.here hx rfl (hb hby d15_18) rfl ?_
            show Steps p.tables e below (T97.setTop (mkF m 19 #[.val (.ref t'), .val (.int cut), .val (.int ((0 : Int32) + (own_t (0 : Int32) (4 : Int32) cut ga))), .val (.int (2 : Int32))] [(.int (2 : Int32)), (.ref t')])) _
            refine st111.trans ?_
            exact kt
          have S116 : ∀ t, Steps p.tables e below (T111.setTop (mkF m 28 #[.val (.ref t'), .val (.int cut), .val (.int (((0 : Int32) + (own_t (0 : Int32) (4 : Int32) cut ga)) + (own_t (1 : Int32) (4 : Int32) cut gb))), .val (.int (2 : Int32))] [])) t → Steps p.tables e below (s₁.setTop (mkF m 0 #[.val (.ref t'), .val (.int cut), .unset, .unset] [])) t := by
            intro t kt
            rcases Decidable.em ((0 : Int32) < gb) with c117 | c117
            · rw [own_t1 (by decide : (1 : Int32) < (4 : Int32)) (own_b4 c106 (by decide)) c117] at kt
              refine S115 t ?_
              refine XS.ifNo X111.here hx rfl (hb hby d15_22) rfl ((if0 _ _).trans (tlt (c117 : (0 : Int32) < gb)).2.2.2) ?_
              refine XS.iinc X111.here hx rfl (hb hby d15_25) rfl (l' := #[.val (.ref t'), .val (.int cut), .val (.int (((0 : Int32) + (own_t (0 : Int32) (4 : Int32) cut ga)) + (1 : Int32))), .val (.int (2 : Int32))]) rfl ?_
              exact kt
            · rw [own_t0c c117, Int32.add_zero] at kt
              refine S115 t ?_
              refine XS.ifYes X111.here hx rfl (pc0 := 22) (pc' := 28) rfl (hb hby d15_22) rfl ((if0 _ _).trans (flt (c117 : ¬ ((0 : Int32) < gb))).2.2.2) (by decide) (by decide) ?_
              exact kt
          obtain ⟨T118, X118, e118, st118⟩ := getF X111 hx hZ hown (host := "") (Or.inl (own_w hw 100 rfl)) Via.refl k113 F_r (g := (mkF m 7 #[.val (.ref t'), .val (.int cut), .val (.int (((0 : Int32) + (own_t (0 : Int32) (4 : Int32) cut ga)) + (own_t (1 : Int32) (4 : Int32) cut gb))), .val (.int (3 : Int32))] [(.ref t'), (.int cut), (.int (3 : Int32))])) rfl rfl (hb hby d15_7)
          obtain ⟨cl119, Ar119, -, Sz119, Nn119, -, -⟩ := id A_r
          obtain ⟨_, _, ⟨T120, L120, k120, n120⟩, -, X120, ⟨Lc120, hQ120, l120, y120, z120⟩, st120⟩ := Jvm.LawKit.callS X118 hx (y := (⟨"java/lang/Math", "min", "(II)I"⟩ : MethodName)) hown (mvT hZ (own_w hw 114 rfl)) (mvT hZ (own_w hw 115 rfl)) (mvT hZ (own_w hw 116 rfl)) (mvT hZ (own_w hw 117 rfl)) (by decide) (backOf (W := 1) (rm_min l Z a0 hw [] cut (4 : Int32) h0 n0 O0 ) hZ (own_w hw 117 rfl) (own_w hw 116 rfl) (by decide) (by decide)) (g := (mkF m 11 #[.val (.ref t'), .val (.int cut), .val (.int (((0 : Int32) + (own_t (0 : Int32) (4 : Int32) cut ga)) + (own_t (1 : Int32) (4 : Int32) cut gb))), .val (.int (3 : Int32))] [(.int (4 : Int32)), (.int cut), (.int (3 : Int32))])) rfl (by rw [hml]; rfl) (argsL := [(.int cut), (.int (4 : Int32))]) (rest := [(.int (3 : Int32))]) (lenOf pd_9 rfl) rfl (by show 2 * 0 + _ ≤ _; exact Nat.le_of_eq rfl) (hb hby d15_11) (fun _ _ => ⟨rfl, e118, (by decide : 0 + 0 ≤ _), (by decide : 0 + 0 ≤ _)⟩)
          dsimp only [Pt.U, Pt.locs, Pt.cells, Pt.slots] at X120 l120 y120 z120 st120 hQ120
          subst l120 y120 z120
          rcases hQ120 with ⟨c121, rfl, N122, k123⟩ | ⟨c124, rfl, N125, k126⟩
          · exact absurd c121 (c101 : ¬ ((4 : Int32) < cut))
          · have N127 := Fr.app N114 N125
            have S128 : ∀ t, Steps p.tables e below (T120.setTop (mkF m 14 #[.val (.ref t'), .val (.int cut), .val (.int (((0 : Int32) + (own_t (0 : Int32) (4 : Int32) cut ga)) + (own_t (1 : Int32) (4 : Int32) cut gb))), .val (.int (3 : Int32))] [(.int cut), (.int (3 : Int32))])) t → Steps p.tables e below (s₁.setTop (mkF m 0 #[.val (.ref t'), .val (.int cut), .unset, .unset] [])) t := by
              intro t kt
              refine S116 t ?_
              refine XS.iinc X111.here hx rfl (hb hby d15_28) rfl (l' := #[.val (.ref t'), .val (.int cut), .val (.int (((0 : Int32) + (own_t (0 : Int32) (4 : Int32) cut ga)) + (own_t (1 : Int32) (4 : Int32) cut gb))), .val (.int (3 : Int32))]) rfl ?_
              refine XS.goto X111.here hx rfl (pc0 := 31) (pc' := 4) rfl (hb hby d15_31) (by decide) (by decide) ?_
              refine XS.iloadN X111.here hx rfl (hb hby d15_4) rfl ?_
              refine XS.iloadN X111.here hx rfl (hb hby d15_5) rfl ?_
              refine XS.aloadN X111.here hx rfl (hb hby d15_6) rfl rfl ?_
              show Steps p.tables e below (T111.setTop (mkF m 7 #[.val (.ref t'), .val (.int cut), .val (.int (((0 : Int32) + (own_t (0 : Int32) (4 : Int32) cut ga)) + (own_t (1 : Int32) (4 : Int32) cut gb))), .val (.int (3 : Int32))] [(.ref t'), (.int cut), (.int (3 : Int32))])) _
              refine st118 _ ?_
              show Steps p.tables e below (T118.setTop (mkF m 10 #[.val (.ref t'), .val (.int cut), .val (.int (((0 : Int32) + (own_t (0 : Int32) (4 : Int32) cut ga)) + (own_t (1 : Int32) (4 : Int32) cut gb))), .val (.int (3 : Int32))] [(.ref r), (.int cut), (.int (3 : Int32))])) _
              refine X118.arraylength hx (by rw [e118]; exact Ar119.1) (State.isArrayOf_alike hZ.alike Ar119.2.1) (g := (mkF m 10 #[.val (.ref t'), .val (.int cut), .val (.int (((0 : Int32) + (own_t (0 : Int32) (4 : Int32) cut ga)) + (own_t (1 : Int32) (4 : Int32) cut gb))), .val (.int (3 : Int32))] [(.ref r), (.int cut), (.int (3 : Int32))])) rfl rfl (hb hby d15_10) _ ?_
              rw [len_of Sz119 Nn119]
              show Steps p.tables e below (T118.setTop (mkF m 11 #[.val (.ref t'), .val (.int cut), .val (.int (((0 : Int32) + (own_t (0 : Int32) (4 : Int32) cut ga)) + (own_t (1 : Int32) (4 : Int32) cut gb))), .val (.int (3 : Int32))] [(.int (4 : Int32)), (.int cut), (.int (3 : Int32))])) _
              refine st120 _ ?_
              exact kt
            rcases Decidable.em (cut < (3 : Int32)) with c129 | c129
            · have S130 : ∀ t, Steps p.tables e below (T120.setTop (mkF m 35 #[.val (.ref t'), .val (.int cut), .val (.int (((0 : Int32) + (own_t (0 : Int32) (4 : Int32) cut ga)) + (own_t (1 : Int32) (4 : Int32) cut gb))), .val (.int (3 : Int32))] [(.int (((0 : Int32) + (own_t (0 : Int32) (4 : Int32) cut ga)) + (own_t (1 : Int32) (4 : Int32) cut gb)))])) t → Steps p.tables e below (s₁.setTop (mkF m 0 #[.val (.ref t'), .val (.int cut), .unset, .unset] [])) t := by
                intro t kt
                refine S128 t ?_
                refine XS.icmpYes X120.here hx rfl (pc0 := 14) (pc' := 34) rfl (hb hby d15_14) rfl (tlt (c129 : cut < (3 : Int32))).2.2.1 (by decide) (by decide) ?_
                refine XS.iloadN X120.here hx rfl (hb hby d15_34) rfl ?_
                exact kt
              have u131 : own_t (2 : Int32) (4 : Int32) cut gc = (0 : Int32) := own_t0b (own_b2 c129 (by decide))
              have u132 : own_t (3 : Int32) (4 : Int32) cut gd = (0 : Int32) := own_t0b (own_b2 c129 (by decide))
              obtain ⟨fs, hr, hrun, hended, hW, hsame⟩ := X120.leave (v := some (.int (((0 : Int32) + (own_t (0 : Int32) (4 : Int32) cut ga)) + (own_t (1 : Int32) (4 : Int32) cut gb)))) (fun h => by rw [Bd.returns] at h; cases h)
              refine ⟨_, _, pre0 _ (S130 _ ?_), hrun, hended, _, _, rfl, ?_, ⟨_, rfl⟩, hW, hsame.mono (by decide) (by decide)⟩
              · exact retOut X120 hx Bd.returns rfl (Or.inl ⟨rfl, Or.inl rfl, _, rfl⟩) (hb hby d15_35) hr
              · show Q_rm_top4 Z t' cut r k' ga gb gc gd h0 n0 _ T120.heap _
                rw [k126]
                exact ⟨(congrArg (fun z => some (Value.int z)) (by simp only [u131, u132, Int32.add_zero, Int32.zero_add])), N127, rfl⟩
            · obtain ⟨cq133, kq133, q133a, q133b, q133c⟩ := isOf hZ k126 E_t
              obtain ⟨_, _, ⟨T133, L133, k133, n133⟩, -, X133, ⟨Lc133, hQ133, l133, y133, z133⟩, st133⟩ := X120.virtualBack hx (y := (⟨"com/example/favonius/favonius/eval/TopicRanking", "gradeAt", "(I)I"⟩ : MethodName)) (z := (⟨"com/example/favonius/favonius/eval/TopicRanking", "gradeAt", "(I)I"⟩ : MethodName)) hown (mvT hZ (own_w hw 118 rfl)) (mvT hZ (own_w hw 119 rfl)) (notFace_of_selects (args := #[]) (mvT hZ (own_w hw 121 rfl))) (mvT hZ (own_w hw 121 rfl)) (mvT hZ (own_w hw 120 rfl)) (by decide) (backOf (W := 0) (rm_grade4_3 l Z a0 hw [] t' r k' ga gb gc gd h0 n0 O0 F_r A_r) hZ (own_w hw 122 rfl) (own_w hw 34 rfl) (by decide) (by decide)) q133a q133c (g := (mkF m 19 #[.val (.ref t'), .val (.int cut), .val (.int (((0 : Int32) + (own_t (0 : Int32) (4 : Int32) cut ga)) + (own_t (1 : Int32) (4 : Int32) cut gb))), .val (.int (3 : Int32))] [(.int (3 : Int32)), (.ref t')])) rfl (by rw [hml]; rfl) (Steps.refl _) (argsL := [(.int (3 : Int32))]) (rest := []) (lenOf pd_10 rfl) rfl (by show 2 * 0 + _ ≤ _; exact Nat.le_of_eq rfl) (hb hby d15_19) (fun _ _ => ⟨rfl, k126, (by decide : 0 + 0 ≤ _), (by decide : 0 + 0 ≤ _)⟩)
              dsimp only [Pt.U, Pt.locs, Pt.cells, Pt.slots] at X133 l133 y133 z133 st133 hQ133
              subst l133 y133 z133
              obtain ⟨rfl, N134, k135⟩ := hQ133
              have N136 := Fr.app N127 N134
              have S137 : ∀ t, Steps p.tables e below (T133.setTop (mkF m 22 #[.val (.ref t'), .val (.int cut), .val (.int (((0 : Int32) + (own_t (0 : Int32) (4 : Int32) cut ga)) + (own_t (1 : Int32) (4 : Int32) cut gb))), .val (.int (3 : Int32))] [(.int gc)])) t → Steps p.tables e below (s₁.setTop (mkF m 0 #[.val (.ref t'), .val (.int cut), .unset, .unset] [])) t := by
                intro t kt
                refine S128 t ?_
                refine XS.icmpNo X120.here hx rfl (hb hby d15_14) rfl (flt (c129 : ¬ (cut < (3 : Int32)))).2.2.1 ?_
                refine XS.aloadN X120.here hx rfl (hb hby d15_17) rfl rfl ?_
                refine XS.iloadN X120.here hx rfl (hb hby d15_18) rfl ?_
                show Steps p.tables e below (T120.setTop (mkF m 19 #[.val (.ref t'), .val (.int cut), .val (.int (((0 : Int32) + (own_t (0 : Int32) (4 : Int32) cut ga)) + (own_t (1 : Int32) (4 : Int32) cut gb))), .val (.int (3 : Int32))] [(.int (3 : Int32)), (.ref t')])) _
                refine st133.trans ?_
                exact kt
              have S138 : ∀ t, Steps p.tables e below (T133.setTop (mkF m 28 #[.val (.ref t'), .val (.int cut), .val (.int ((((0 : Int32) + (own_t (0 : Int32) (4 : Int32) cut ga)) + (own_t (1 : Int32) (4 : Int32) cut gb)) + (own_t (2 : Int32) (4 : Int32) cut gc))), .val (.int (3 : Int32))] [])) t → Steps p.tables e below (s₁.setTop (mkF m 0 #[.val (.ref t'), .val (.int cut), .unset, .unset] [])) t := by
                intro t kt
                rcases Decidable.em ((0 : Int32) < gc) with c139 | c139
                · rw [own_t1 (by decide : (2 : Int32) < (4 : Int32)) (own_b4 c129 (by decide)) c139] at kt
                  refine S137 t ?_
                  refine XS.ifNo X133.here hx rfl (hb hby d15_22) rfl ((if0 _ _).trans (tlt (c139 : (0 : Int32) < gc)).2.2.2) ?_
                  refine XS.iinc X133.here hx rfl (hb hby d15_25) rfl (l' := #[.val (.ref t'), .val (.int cut), .val (.int ((((0 : Int32) + (own_t (0 : Int32) (4 : Int32) cut ga)) + (own_t (1 : Int32) (4 : Int32) cut gb)) + (1 : Int32))), .val (.int (3 : Int32))]) rfl ?_
                  exact kt
                · rw [own_t0c c139, Int32.add_zero] at kt
                  refine S137 t ?_
                  refine XS.ifYes X133.here hx rfl (pc0 := 22) (pc' := 28) rfl (hb hby d15_22) rfl ((if0 _ _).trans (flt (c139 : ¬ ((0 : Int32) < gc))).2.2.2) (by decide) (by decide) ?_
                  exact kt
              obtain ⟨T140, X140, e140, st140⟩ := getF X133 hx hZ hown (host := "") (Or.inl (own_w hw 100 rfl)) Via.refl k135 F_r (g := (mkF m 7 #[.val (.ref t'), .val (.int cut), .val (.int ((((0 : Int32) + (own_t (0 : Int32) (4 : Int32) cut ga)) + (own_t (1 : Int32) (4 : Int32) cut gb)) + (own_t (2 : Int32) (4 : Int32) cut gc))), .val (.int (4 : Int32))] [(.ref t'), (.int cut), (.int (4 : Int32))])) rfl rfl (hb hby d15_7)
              obtain ⟨cl141, Ar141, -, Sz141, Nn141, -, -⟩ := id A_r
              obtain ⟨_, _, ⟨T142, L142, k142, n142⟩, -, X142, ⟨Lc142, hQ142, l142, y142, z142⟩, st142⟩ := Jvm.LawKit.callS X140 hx (y := (⟨"java/lang/Math", "min", "(II)I"⟩ : MethodName)) hown (mvT hZ (own_w hw 114 rfl)) (mvT hZ (own_w hw 115 rfl)) (mvT hZ (own_w hw 116 rfl)) (mvT hZ (own_w hw 117 rfl)) (by decide) (backOf (W := 1) (rm_min l Z a0 hw [] cut (4 : Int32) h0 n0 O0 ) hZ (own_w hw 117 rfl) (own_w hw 116 rfl) (by decide) (by decide)) (g := (mkF m 11 #[.val (.ref t'), .val (.int cut), .val (.int ((((0 : Int32) + (own_t (0 : Int32) (4 : Int32) cut ga)) + (own_t (1 : Int32) (4 : Int32) cut gb)) + (own_t (2 : Int32) (4 : Int32) cut gc))), .val (.int (4 : Int32))] [(.int (4 : Int32)), (.int cut), (.int (4 : Int32))])) rfl (by rw [hml]; rfl) (argsL := [(.int cut), (.int (4 : Int32))]) (rest := [(.int (4 : Int32))]) (lenOf pd_9 rfl) rfl (by show 2 * 0 + _ ≤ _; exact Nat.le_of_eq rfl) (hb hby d15_11) (fun _ _ => ⟨rfl, e140, (by decide : 0 + 0 ≤ _), (by decide : 0 + 0 ≤ _)⟩)
              dsimp only [Pt.U, Pt.locs, Pt.cells, Pt.slots] at X142 l142 y142 z142 st142 hQ142
              subst l142 y142 z142
              rcases hQ142 with ⟨c143, rfl, N144, k145⟩ | ⟨c146, rfl, N147, k148⟩
              · exact absurd c143 (c124 : ¬ ((4 : Int32) < cut))
              · have N149 := Fr.app N136 N147
                have S150 : ∀ t, Steps p.tables e below (T142.setTop (mkF m 14 #[.val (.ref t'), .val (.int cut), .val (.int ((((0 : Int32) + (own_t (0 : Int32) (4 : Int32) cut ga)) + (own_t (1 : Int32) (4 : Int32) cut gb)) + (own_t (2 : Int32) (4 : Int32) cut gc))), .val (.int (4 : Int32))] [(.int cut), (.int (4 : Int32))])) t → Steps p.tables e below (s₁.setTop (mkF m 0 #[.val (.ref t'), .val (.int cut), .unset, .unset] [])) t := by
                  intro t kt
                  refine S138 t ?_
                  refine XS.iinc X133.here hx rfl (hb hby d15_28) rfl (l' := #[.val (.ref t'), .val (.int cut), .val (.int ((((0 : Int32) + (own_t (0 : Int32) (4 : Int32) cut ga)) + (own_t (1 : Int32) (4 : Int32) cut gb)) + (own_t (2 : Int32) (4 : Int32) cut gc))), .val (.int (4 : Int32))]) rfl ?_
                  refine XS.goto X133.here hx rfl (pc0 := 31) (pc' := 4) rfl (hb hby d15_31) (by decide) (by decide) ?_
                  refine XS.iloadN X133.here hx rfl (hb hby d15_4) rfl ?_
                  refine XS.iloadN X133.here hx rfl (hb hby d15_5) rfl ?_
                  refine XS.aloadN X133.here hx rfl (hb hby d15_6) rfl rfl ?_
                  show Steps p.tables e below (T133.setTop (mkF m 7 #[.val (.ref t'), .val (.int cut), .val (.int ((((0 : Int32) + (own_t (0 : Int32) (4 : Int32) cut ga)) + (own_t (1 : Int32) (4 : Int32) cut gb)) + (own_t (2 : Int32) (4 : Int32) cut gc))), .val (.int (4 : Int32))] [(.ref t'), (.int cut), (.int (4 : Int32))])) _
                  refine st140 _ ?_
                  show Steps p.tables e below (T140.setTop (mkF m 10 #[.val (.ref t'), .val (.int cut), .val (.int ((((0 : Int32) + (own_t (0 : Int32) (4 : Int32) cut ga)) + (own_t (1 : Int32) (4 : Int32) cut gb)) + (own_t (2 : Int32) (4 : Int32) cut gc))), .val (.int (4 : Int32))] [(.ref r), (.int cut), (.int (4 : Int32))])) _
                  refine X140.arraylength hx (by rw [e140]; exact Ar141.1) (State.isArrayOf_alike hZ.alike Ar141.2.1) (g := (mkF m 10 #[.val (.ref t'), .val (.int cut), .val (.int ((((0 : Int32) + (own_t (0 : Int32) (4 : Int32) cut ga)) + (own_t (1 : Int32) (4 : Int32) cut gb)) + (own_t (2 : Int32) (4 : Int32) cut gc))), .val (.int (4 : Int32))] [(.ref r), (.int cut), (.int (4 : Int32))])) rfl rfl (hb hby d15_10) _ ?_
                  rw [len_of Sz141 Nn141]
                  show Steps p.tables e below (T140.setTop (mkF m 11 #[.val (.ref t'), .val (.int cut), .val (.int ((((0 : Int32) + (own_t (0 : Int32) (4 : Int32) cut ga)) + (own_t (1 : Int32) (4 : Int32) cut gb)) + (own_t (2 : Int32) (4 : Int32) cut gc))), .val (.int (4 : Int32))] [(.int (4 : Int32)), (.int cut), (.int (4 : Int32))])) _
                  refine st142 _ ?_
                  exact kt
                rcases Decidable.em (cut < (4 : Int32)) with c151 | c151
                · have S152 : ∀ t, Steps p.tables e below (T142.setTop (mkF m 35 #[.val (.ref t'), .val (.int cut), .val (.int ((((0 : Int32) + (own_t (0 : Int32) (4 : Int32) cut ga)) + (own_t (1 : Int32) (4 : Int32) cut gb)) + (own_t (2 : Int32) (4 : Int32) cut gc))), .val (.int (4 : Int32))] [(.int ((((0 : Int32) + (own_t (0 : Int32) (4 : Int32) cut ga)) + (own_t (1 : Int32) (4 : Int32) cut gb)) + (own_t (2 : Int32) (4 : Int32) cut gc)))])) t → Steps p.tables e below (s₁.setTop (mkF m 0 #[.val (.ref t'), .val (.int cut), .unset, .unset] [])) t := by
                    intro t kt
                    refine S150 t ?_
                    refine XS.icmpYes X142.here hx rfl (pc0 := 14) (pc' := 34) rfl (hb hby d15_14) rfl (tlt (c151 : cut < (4 : Int32))).2.2.1 (by decide) (by decide) ?_
                    refine XS.iloadN X142.here hx rfl (hb hby d15_34) rfl ?_
                    exact kt
                  have u153 : own_t (3 : Int32) (4 : Int32) cut gd = (0 : Int32) := own_t0b (own_b2 c151 (by decide))
                  obtain ⟨fs, hr, hrun, hended, hW, hsame⟩ := X142.leave (v := some (.int ((((0 : Int32) + (own_t (0 : Int32) (4 : Int32) cut ga)) + (own_t (1 : Int32) (4 : Int32) cut gb)) + (own_t (2 : Int32) (4 : Int32) cut gc)))) (fun h => by rw [Bd.returns] at h; cases h)
                  refine ⟨_, _, pre0 _ (S152 _ ?_), hrun, hended, _, _, rfl, ?_, ⟨_, rfl⟩, hW, hsame.mono (by decide) (by decide)⟩
                  · exact retOut X142 hx Bd.returns rfl (Or.inl ⟨rfl, Or.inl rfl, _, rfl⟩) (hb hby d15_35) hr
                  · show Q_rm_top4 Z t' cut r k' ga gb gc gd h0 n0 _ T142.heap _
                    rw [k148]
                    exact ⟨(congrArg (fun z => some (Value.int z)) (by simp only [u153, Int32.add_zero, Int32.zero_add])), N149, rfl⟩
                · obtain ⟨cq154, kq154, q154a, q154b, q154c⟩ := isOf hZ k148 E_t
                  obtain ⟨_, _, ⟨T154, L154, k154, n154⟩, -, X154, ⟨Lc154, hQ154, l154, y154, z154⟩, st154⟩ := X142.virtualBack hx (y := (⟨"com/example/favonius/favonius/eval/TopicRanking", "gradeAt", "(I)I"⟩ : MethodName)) (z := (⟨"com/example/favonius/favonius/eval/TopicRanking", "gradeAt", "(I)I"⟩ : MethodName)) hown (mvT hZ (own_w hw 118 rfl)) (mvT hZ (own_w hw 119 rfl)) (notFace_of_selects (args := #[]) (mvT hZ (own_w hw 121 rfl))) (mvT hZ (own_w hw 121 rfl)) (mvT hZ (own_w hw 120 rfl)) (by decide) (backOf (W := 0) (rm_grade4_4 l Z a0 hw [] t' r k' ga gb gc gd h0 n0 O0 F_r A_r) hZ (own_w hw 122 rfl) (own_w hw 34 rfl) (by decide) (by decide)) q154a q154c (g := (mkF m 19 #[.val (.ref t'), .val (.int cut), .val (.int ((((0 : Int32) + (own_t (0 : Int32) (4 : Int32) cut ga)) + (own_t (1 : Int32) (4 : Int32) cut gb)) + (own_t (2 : Int32) (4 : Int32) cut gc))), .val (.int (4 : Int32))] [(.int (4 : Int32)), (.ref t')])) rfl (by rw [hml]; rfl) (Steps.refl _) (argsL := [(.int (4 : Int32))]) (rest := []) (lenOf pd_10 rfl) rfl (by show 2 * 0 + _ ≤ _; exact Nat.le_of_eq rfl) (hb hby d15_19) (fun _ _ => ⟨rfl, k148, (by decide : 0 + 0 ≤ _), (by decide : 0 + 0 ≤ _)⟩)
                  dsimp only [Pt.U, Pt.locs, Pt.cells, Pt.slots] at X154 l154 y154 z154 st154 hQ154
                  subst l154 y154 z154
                  obtain ⟨rfl, N155, k156⟩ := hQ154
                  have N157 := Fr.app N149 N155
                  have S158 : ∀ t, Steps p.tables e below (T154.setTop (mkF m 22 #[.val (.ref t'), .val (.int cut), .val (.int ((((0 : Int32) + (own_t (0 : Int32) (4 : Int32) cut ga)) + (own_t (1 : Int32) (4 : Int32) cut gb)) + (own_t (2 : Int32) (4 : Int32) cut gc))), .val (.int (4 : Int32))] [(.int gd)])) t → Steps p.tables e below (s₁.setTop (mkF m 0 #[.val (.ref t'), .val (.int cut), .unset, .unset] [])) t := by
                    intro t kt
                    refine S150 t ?_
                    refine XS.icmpNo X142.here hx rfl (hb hby d15_14) rfl (flt (c151 : ¬ (cut < (4 : Int32)))).2.2.1 ?_
                    refine XS.aloadN X142.here hx rfl (hb hby d15_17) rfl rfl ?_
                    refine XS.iloadN X142.here hx rfl (hb hby d15_18) rfl ?_
                    show Steps p.tables e below (T142.setTop (mkF m 19 #[.val (.ref t'), .val (.int cut), .val (.int ((((0 : Int32) + (own_t (0 : Int32) (4 : Int32) cut ga)) + (own_t (1 : Int32) (4 : Int32) cut gb)) + (own_t (2 : Int32) (4 : Int32) cut gc))), .val (.int (4 : Int32))] [(.int (4 : Int32)), (.ref t')])) _
                    refine st154.trans ?_
                    exact kt
                  have S159 : ∀ t, Steps p.tables e below (T154.setTop (mkF m 28 #[.val (.ref t'), .val (.int cut), .val (.int (((((0 : Int32) + (own_t (0 : Int32) (4 : Int32) cut ga)) + (own_t (1 : Int32) (4 : Int32) cut gb)) + (own_t (2 : Int32) (4 : Int32) cut gc)) + (own_t (3 : Int32) (4 : Int32) cut gd))), .val (.int (4 : Int32))] [])) t → Steps p.tables e below (s₁.setTop (mkF m 0 #[.val (.ref t'), .val (.int cut), .unset, .unset] [])) t := by
                    intro t kt
                    rcases Decidable.em ((0 : Int32) < gd) with c160 | c160
                    · rw [own_t1 (by decide : (3 : Int32) < (4 : Int32)) (own_b4 c151 (by decide)) c160] at kt
                      refine S158 t ?_
                      refine XS.ifNo X154.here hx rfl (hb hby d15_22) rfl ((if0 _ _).trans (tlt (c160 : (0 : Int32) < gd)).2.2.2) ?_
                      refine XS.iinc X154.here hx rfl (hb hby d15_25) rfl (l' := #[.val (.ref t'), .val (.int cut), .val (.int (((((0 : Int32) + (own_t (0 : Int32) (4 : Int32) cut ga)) + (own_t (1 : Int32) (4 : Int32) cut gb)) + (own_t (2 : Int32) (4 : Int32) cut gc)) + (1 : Int32))), .val (.int (4 : Int32))]) rfl ?_
                      exact kt
                    · rw [own_t0c c160, Int32.add_zero] at kt
                      refine S158 t ?_
                      refine XS.ifYes X154.here hx rfl (pc0 := 22) (pc' := 28) rfl (hb hby d15_22) rfl ((if0 _ _).trans (flt (c160 : ¬ ((0 : Int32) < gd))).2.2.2) (by decide) (by decide) ?_
                      exact kt
                  obtain ⟨T161, X161, e161, st161⟩ := getF X154 hx hZ hown (host := "") (Or.inl (own_w hw 100 rfl)) Via.refl k156 F_r (g := (mkF m 7 #[.val (.ref t'), .val (.int cut), .val (.int (((((0 : Int32) + (own_t (0 : Int32) (4 : Int32) cut ga)) + (own_t (1 : Int32) (4 : Int32) cut gb)) + (own_t (2 : Int32) (4 : Int32) cut gc)) + (own_t (3 : Int32) (4 : Int32) cut gd))), .val (.int (5 : Int32))] [(.ref t'), (.int cut), (.int (5 : Int32))])) rfl rfl (hb hby d15_7)
                  obtain ⟨cl162, Ar162, -, Sz162, Nn162, -, -⟩ := id A_r
                  obtain ⟨_, _, ⟨T163, L163, k163, n163⟩, -, X163, ⟨Lc163, hQ163, l163, y163, z163⟩, st163⟩ := Jvm.LawKit.callS X161 hx (y := (⟨"java/lang/Math", "min", "(II)I"⟩ : MethodName)) hown (mvT hZ (own_w hw 114 rfl)) (mvT hZ (own_w hw 115 rfl)) (mvT hZ (own_w hw 116 rfl)) (mvT hZ (own_w hw 117 rfl)) (by decide) (backOf (W := 1) (rm_min l Z a0 hw [] cut (4 : Int32) h0 n0 O0 ) hZ (own_w hw 117 rfl) (own_w hw 116 rfl) (by decide) (by decide)) (g := (mkF m 11 #[.val (.ref t'), .val (.int cut), .val (.int (((((0 : Int32) + (own_t (0 : Int32) (4 : Int32) cut ga)) + (own_t (1 : Int32) (4 : Int32) cut gb)) + (own_t (2 : Int32) (4 : Int32) cut gc)) + (own_t (3 : Int32) (4 : Int32) cut gd))), .val (.int (5 : Int32))] [(.int (4 : Int32)), (.int cut), (.int (5 : Int32))])) rfl (by rw [hml]; rfl) (argsL := [(.int cut), (.int (4 : Int32))]) (rest := [(.int (5 : Int32))]) (lenOf pd_9 rfl) rfl (by show 2 * 0 + _ ≤ _; exact Nat.le_of_eq rfl) (hb hby d15_11) (fun _ _ => ⟨rfl, e161, (by decide : 0 + 0 ≤ _), (by decide : 0 + 0 ≤ _)⟩)
                  dsimp only [Pt.U, Pt.locs, Pt.cells, Pt.slots] at X163 l163 y163 z163 st163 hQ163
                  subst l163 y163 z163
                  rcases hQ163 with ⟨c164, rfl, N165, k166⟩ | ⟨c167, rfl, N168, k169⟩
                  · exact absurd c164 (c146 : ¬ ((4 : Int32) < cut))
                  · have N170 := Fr.app N157 N168
                    have S171 : ∀ t, Steps p.tables e below (T163.setTop (mkF m 35 #[.val (.ref t'), .val (.int cut), .val (.int (((((0 : Int32) + (own_t (0 : Int32) (4 : Int32) cut ga)) + (own_t (1 : Int32) (4 : Int32) cut gb)) + (own_t (2 : Int32) (4 : Int32) cut gc)) + (own_t (3 : Int32) (4 : Int32) cut gd))), .val (.int (5 : Int32))] [(.int (((((0 : Int32) + (own_t (0 : Int32) (4 : Int32) cut ga)) + (own_t (1 : Int32) (4 : Int32) cut gb)) + (own_t (2 : Int32) (4 : Int32) cut gc)) + (own_t (3 : Int32) (4 : Int32) cut gd)))])) t → Steps p.tables e below (s₁.setTop (mkF m 0 #[.val (.ref t'), .val (.int cut), .unset, .unset] [])) t := by
                      intro t kt
                      refine S159 t ?_
                      refine XS.iinc X154.here hx rfl (hb hby d15_28) rfl (l' := #[.val (.ref t'), .val (.int cut), .val (.int (((((0 : Int32) + (own_t (0 : Int32) (4 : Int32) cut ga)) + (own_t (1 : Int32) (4 : Int32) cut gb)) + (own_t (2 : Int32) (4 : Int32) cut gc)) + (own_t (3 : Int32) (4 : Int32) cut gd))), .val (.int (5 : Int32))]) rfl ?_
                      refine XS.goto X154.here hx rfl (pc0 := 31) (pc' := 4) rfl (hb hby d15_31) (by decide) (by decide) ?_
                      refine XS.iloadN X154.here hx rfl (hb hby d15_4) rfl ?_
                      refine XS.iloadN X154.here hx rfl (hb hby d15_5) rfl ?_
                      refine XS.aloadN X154.here hx rfl (hb hby d15_6) rfl rfl ?_
                      show Steps p.tables e below (T154.setTop (mkF m 7 #[.val (.ref t'), .val (.int cut), .val (.int (((((0 : Int32) + (own_t (0 : Int32) (4 : Int32) cut ga)) + (own_t (1 : Int32) (4 : Int32) cut gb)) + (own_t (2 : Int32) (4 : Int32) cut gc)) + (own_t (3 : Int32) (4 : Int32) cut gd))), .val (.int (5 : Int32))] [(.ref t'), (.int cut), (.int (5 : Int32))])) _
                      refine st161 _ ?_
                      show Steps p.tables e below (T161.setTop (mkF m 10 #[.val (.ref t'), .val (.int cut), .val (.int (((((0 : Int32) + (own_t (0 : Int32) (4 : Int32) cut ga)) + (own_t (1 : Int32) (4 : Int32) cut gb)) + (own_t (2 : Int32) (4 : Int32) cut gc)) + (own_t (3 : Int32) (4 : Int32) cut gd))), .val (.int (5 : Int32))] [(.ref r), (.int cut), (.int (5 : Int32))])) _
                      refine X161.arraylength hx (by rw [e161]; exact Ar162.1) (State.isArrayOf_alike hZ.alike Ar162.2.1) (g := (mkF m 10 #[.val (.ref t'), .val (.int cut), .val (.int (((((0 : Int32) + (own_t (0 : Int32) (4 : Int32) cut ga)) + (own_t (1 : Int32) (4 : Int32) cut gb)) + (own_t (2 : Int32) (4 : Int32) cut gc)) + (own_t (3 : Int32) (4 : Int32) cut gd))), .val (.int (5 : Int32))] [(.ref r), (.int cut), (.int (5 : Int32))])) rfl rfl (hb hby d15_10) _ ?_
                      rw [len_of Sz162 Nn162]
                      show Steps p.tables e below (T161.setTop (mkF m 11 #[.val (.ref t'), .val (.int cut), .val (.int (((((0 : Int32) + (own_t (0 : Int32) (4 : Int32) cut ga)) + (own_t (1 : Int32) (4 : Int32) cut gb)) + (own_t (2 : Int32) (4 : Int32) cut gc)) + (own_t (3 : Int32) (4 : Int32) cut gd))), .val (.int (5 : Int32))] [(.int (4 : Int32)), (.int cut), (.int (5 : Int32))])) _
                      refine st163 _ ?_
                      refine XS.icmpYes X163.here hx rfl (pc0 := 14) (pc' := 34) rfl (hb hby d15_14) rfl (tlt ((own_b7 c167 (by decide)) : cut < (5 : Int32))).2.2.1 (by decide) (by decide) ?_
                      refine XS.iloadN X163.here hx rfl (hb hby d15_34) rfl ?_
                      exact kt
                    obtain ⟨fs, hr, hrun, hended, hW, hsame⟩ := X163.leave (v := some (.int (((((0 : Int32) + (own_t (0 : Int32) (4 : Int32) cut ga)) + (own_t (1 : Int32) (4 : Int32) cut gb)) + (own_t (2 : Int32) (4 : Int32) cut gc)) + (own_t (3 : Int32) (4 : Int32) cut gd)))) (fun h => by rw [Bd.returns] at h; cases h)
                    refine ⟨_, _, pre0 _ (S171 _ ?_), hrun, hended, _, _, rfl, ?_, ⟨_, rfl⟩, hW, hsame.mono (by decide) (by decide)⟩
                    · exact retOut X163 hx Bd.returns rfl (Or.inl ⟨rfl, Or.inl rfl, _, rfl⟩) (hb hby d15_35) hr
                    · show Q_rm_top4 Z t' cut r k' ga gb gc gd h0 n0 _ T163.heap _
                      rw [k169]
                      exact ⟨(congrArg (fun z => some (Value.int z)) (by simp only [Int32.add_zero, Int32.zero_add])), N170, rfl⟩
theorem own_rem5 (x i : Int32) (h : i = ((x &&& (2147483647 : Int32)) % (5 : Int32))) : i = (0 : Int32) ∨ i = (1 : Int32) ∨ i = (2 : Int32) ∨ i = (3 : Int32) ∨ i = (4 : Int32) := by
  have a1 := c_and x 2147483647 (by decide)
  have a2 := (c_iremV (x &&& 2147483647) 5).1 a1.1 (by decide)
  rw [← h] at a2
  have a3 : (5 : Int32).toInt = 5 := by decide
  obtain ⟨b1, b2, -⟩ := a2
  rw [a3] at b2
  have key : ∀ n : Nat, n < 5 → i.toInt = (n : Int) → i = Int32.ofNat n := by
    intro n hn hi
    apply Int32.toInt_inj.mp
    rw [hi, Int32.toInt_ofNat_of_lt (by omega)]
  obtain ⟨n, hn⟩ := Int.eq_ofNat_of_zero_le b1
  have hlt : n < 5 := by omega
  have hk := key n hlt hn
  clear key hn b1 b2 a1 a3 h
  match n, hlt with
  | 0, _ => exact Or.inl hk
  | 1, _ => exact Or.inr (Or.inl hk)
  | 2, _ => exact Or.inr (Or.inr (Or.inl hk))
  | 3, _ => exact Or.inr (Or.inr (Or.inr (Or.inl hk)))
  | 4, _ => exact Or.inr (Or.inr (Or.inr (Or.inr (hk))))
theorem pd_11 : parseMethodDescriptor "(IIIII)[I" = some ⟨[.int, .int, .int, .int, .int], some (.array .int)⟩ := by decide +kernel
theorem pd_12 : parseMethodDescriptor "([ILjava/util/Collection;)V" = some ⟨[(.array .int), (.object "java/util/Collection")], none⟩ := by decide +kernel
theorem pd_13 : parseMethodDescriptor "(IIII)I" = some ⟨[.int, .int, .int, .int], some .int⟩ := by decide +kernel
theorem ef_rm_law (m : MethodId) (x0 : Int32) (x1 : Int32) (x2 : Int32) (x3 : Int32) (x4 : Int32) (x5 : Int32) : entryFrame m #[(.int x0), (.int x1), (.int x2), (.int x3), (.int x4), (.int x5)] maxLocals = mkF m 0 #[.val (.int x0), .val (.int x1), .val (.int x2), .val (.int x3), .val (.int x4), .val (.int x5), .unset, .unset, .unset, .unset, .unset] [] := by first | (simp [entryFrame, mkF, argsToLocals, Value.category, maxLocals]; done) | rfl
def Q_rm_law (Z : State) (ga : Int32) (gb : Int32) (gc : Int32) (gd : Int32) (cut : Int32) (sh : Int32) (wD : Addr) (h0 : Heap) (n0 : Nat) (v : Option Value) (h : Heap) (L : List Loc) : Prop := ((v = some (.int (1 : Int32))) ∧ (Fr n0 L))
set_option maxRecDepth 65536 in
set_option maxHeartbeats 40000000 in
theorem rm_law (l : Launch) (Z : State) (a0 : Array Value) (hw : ∀ d ∈ tables_1, d.before a0 Z = true) (ws : List Jvm.Cond) (ga : Int32) (gb : Int32) (gc : Int32) (gd : Int32) (cut : Int32) (sh : Int32) (wD : Addr) (h0 : Heap) (n0 : Nat) (O0 : Old Z n0 h0) (S_D : Sta Z Z.heap "java/util/ArrayList" "DEFAULTCAPACITY_EMPTY_ELEMENTDATA" "[Ljava/lang/Object;" (.ref wD)) :
    MetFree l x (head1 (Jvm.Cond.code x code maxLocals ret :: ws) room_1) (fun a U => a = #[(.int ga), (.int gb), (.int gc), (.int gd), (.int cut), (.int sh)] ∧ Z.Warmed39 U.vm ∧ U.heap = h0) (fun _ _ _ _ _ => True) (fun _ U o U' => ∃ v L, o = .returned v ∧ Q_rm_law Z ga gb gc gd cut sh wD h0 n0 v U'.heap L ∧ FrameEnd U o U' L room_1.cells room_1.slots) := by
  refine MetFree.of_bodySF (plainFor_of_name pn_0) hisR ?_
  intro p e s m args below meth c s₁ Bd hml0 hP hK
  obtain ⟨rfl, hZ, hh⟩ := hP
  have hx := Bd.exec
  have hby := Bd.bytes
  have hml : c.maxLocals = 11 := hml0
  have hown : s.vm.findClass "com/example/favonius/favonius/eval/TopicRankingRelevantInTopPinLaw" = some m.cls := findClass_of_methodNamed Bd.named
  have hnm := (name_of_methodNamed Bd.named Bd.method).1
  have X0 : Stand p l e room_1 s m #[(.int ga), (.int gb), (.int gc), (.int gd), (.int cut), (.int sh)] below meth c s₁ [] 0 0 := Stand.of_body Bd
  have e0 : s₁.heap = h0 := by rw [← hh, Bd.state]; rfl
  have N0 := Fr.nil n0
  have pre0 : ∀ t, Steps p.tables e below (s₁.setTop (mkF m 0 #[.val (.int ga), .val (.int gb), .val (.int gc), .val (.int gd), .val (.int cut), .val (.int sh), .unset, .unset, .unset, .unset, .unset] [])) t → Steps p.tables e below (s₁.setTop (entryFrame m #[(.int ga), (.int gb), (.int gc), (.int gd), (.int cut), (.int sh)] maxLocals)) t := fun t k => castTop (ef_rm_law m ga gb gc gd cut sh) k
  have S1 : ∀ t, Steps p.tables e below (s₁.setTop (mkF m 7 #[.val (.int ga), .val (.int gb), .val (.int gc), .val (.int gd), .val (.int cut), .val (.int sh), .unset, .unset, .unset, .unset, .unset] [(.int ((sh &&& (2147483647 : Int32)) % (5 : Int32)))])) t → Steps p.tables e below (s₁.setTop (mkF m 0 #[.val (.int ga), .val (.int gb), .val (.int gc), .val (.int gd), .val (.int cut), .val (.int sh), .unset, .unset, .unset, .unset, .unset] [])) t := by
    intro t kt
    refine XS.iload X0.here hx rfl (hb hby at_0) rfl ?_
    show Steps p.tables e below (s₁.setTop (mkF m 2 #[.val (.int ga), .val (.int gb), .val (.int gc), .val (.int gd), .val (.int cut), .val (.int sh), .unset, .unset, .unset, .unset, .unset] [(.int sh)])) _
    refine Jvm.Stand.ldcI (g := (mkF m 2 #[.val (.int ga), .val (.int gb), .val (.int gc), .val (.int gd), .val (.int cut), .val (.int sh), .unset, .unset, .unset, .unset, .unset] [(.int sh)])) X0 hx hown (mvT hZ (own_w hw 0 rfl)) rfl (hb hby at_2) ?_
    refine XS.iand X0.here hx rfl (hb hby at_4) rfl ?_
    refine XS.iconst X0.here hx rfl (hb hby at_5) ?_
    show Steps p.tables e below (s₁.setTop (mkF m 6 #[.val (.int ga), .val (.int gb), .val (.int gc), .val (.int gd), .val (.int cut), .val (.int sh), .unset, .unset, .unset, .unset, .unset] [(.int (5 : Int32)), (.int (sh &&& (2147483647 : Int32)))])) _
    refine Jvm.RoadKit.iremM (g := (mkF m 6 #[.val (.int ga), .val (.int gb), .val (.int gc), .val (.int gd), .val (.int cut), .val (.int sh), .unset, .unset, .unset, .unset, .unset] [(.int (5 : Int32)), (.int (sh &&& (2147483647 : Int32)))])) X0 hx rfl (hb hby at_6) rfl (by decide) ?_
    exact kt
  obtain ⟨iv, h_iv⟩ : ∃ z, z = ((sh &&& (2147483647 : Int32)) % (5 : Int32)) := ⟨_, rfl⟩
  have S2 : ∀ t, Steps p.tables e below (s₁.setTop (mkF m 7 #[.val (.int ga), .val (.int gb), .val (.int gc), .val (.int gd), .val (.int cut), .val (.int sh), .unset, .unset, .unset, .unset, .unset] [(.int iv)])) t → Steps p.tables e below (s₁.setTop (mkF m 0 #[.val (.int ga), .val (.int gb), .val (.int gc), .val (.int gd), .val (.int cut), .val (.int sh), .unset, .unset, .unset, .unset, .unset] [])) t := by rw [h_iv]; exact S1
  rcases own_rem5 sh iv h_iv with rfl | rfl | rfl | rfl | rfl
  · obtain ⟨_, _, ⟨T3, L3, k3, n3⟩, -, X3, ⟨Lc3, hQ3, l3, y3, z3⟩, st3⟩ := Jvm.LawKit.callS X0 hx (y := (⟨"com/example/favonius/favonius/eval/TopicRankingRelevantInTopPinLaw", "make", "(IIIII)[I"⟩ : MethodName)) hown (mvT hZ (own_w hw 1 rfl)) (mvT hZ (own_w hw 2 rfl)) (mvT hZ (own_w hw 3 rfl)) (mvT hZ (own_w hw 4 rfl)) (by decide) (backOf (W := 0) (rm_make0 l Z a0 hw [] ga gb gc gd h0 n0 O0 ) hZ (own_w hw 4 rfl) (own_w hw 3 rfl) (by decide) (by decide)) (g := (mkF m 15 #[.val (.int ga), .val (.int gb), .val (.int gc), .val (.int gd), .val (.int cut), .val (.int sh), .val (.int (0 : Int32)), .unset, .unset, .unset, .unset] [(.int gd), (.int gc), (.int gb), (.int ga), (.int (0 : Int32))])) rfl (by rw [hml]; rfl) (argsL := [(.int (0 : Int32)), (.int ga), (.int gb), (.int gc), (.int gd)]) (rest := []) (lenOf pd_11 rfl) rfl (by show 2 * 0 + _ ≤ _; exact Nat.le_of_eq rfl) (hb hby at_15) (fun _ _ => ⟨rfl, e0, (by decide : 0 + 1 ≤ _), (by decide : 0 + 0 ≤ _)⟩)
    dsimp only [Pt.U, Pt.locs, Pt.cells, Pt.slots] at X3 l3 y3 z3 st3 hQ3
    subst l3 y3 z3
    obtain ⟨x4, x5, rfl, N6, k7, f8, f9⟩ := hQ3
    have N10 := Fr.app N0 N6
    have ge11 : n0 ≤ x4 := by rw [← O0.1]; exact Nat.le_trans O0.2.1 f8
    have O12 := O0.keep k7 all0
    obtain ⟨T13, h13, X13, e13, E13, A13, D13, -, st13⟩ := newO X3 hx hZ hown (own_w hw 6 rfl) (own_w hw 7 rfl) (own_w hw 8 rfl) rfl (g := (mkF m 20 #[.val (.int ga), .val (.int gb), .val (.int gc), .val (.int gd), .val (.int cut), .val (.int sh), .val (.int (0 : Int32)), .val (.ref x4), .unset, .unset, .unset] [])) rfl (hb hby at_20) (by decide) (by decide)
    obtain ⟨b13, g13⟩ : ∃ z, z = T3.heap.size := ⟨_, rfl⟩
    have ge_b13 : n0 ≤ b13 := by rw [g13, ← O12.1]; exact O12.2.1
    have ne14 : x4 ≠ b13 := Nat.ne_of_lt (Nat.lt_of_lt_of_le (Arv.lt f9) (Nat.le_of_eq g13.symm))
    rw [← g13] at A13 D13 st13
    have O15 := O12.ext E13
    have F16 : Fld Z h13 b13 "java/util/AbstractList" "modCount" "I" (.int (0 : Int32)) := D13 (Or.inl (own_w hw 28 rfl)) (ty := .int) (by decide)
    have F17 : Fld Z h13 b13 "java/util/ArrayList" "elementData" "[Ljava/lang/Object;" .null := D13 (Or.inl (own_w hw 31 rfl)) (ty := (.array (.object "java/lang/Object"))) (by decide)
    have F18 : Fld Z h13 b13 "java/util/ArrayList" "size" "I" (.int (0 : Int32)) := D13 (Or.inl (own_w hw 49 rfl)) (ty := .int) (by decide)
    obtain ⟨_, _, ⟨T19, L19, k19, n19⟩, -, X19, ⟨Lc19, hQ19, l19, y19, z19⟩, st19⟩ := X13.specialBack hx (y := (⟨"java/util/ArrayList", "<init>", "()V"⟩ : MethodName)) rfl hown (mvT hZ (own_w hw 9 rfl)) (mvT hZ (own_w hw 10 rfl)) (mvT hZ (own_w hw 11 rfl)) (by decide) (backOf (W := 1) (rm_alinit l Z a0 hw [] b13 wD h13 n0 O15 A13 ge_b13 F16 F17 F18 S_D) hZ (own_w hw 11 rfl) (own_w hw 8 rfl) (by decide) (by decide)) (g := (mkF m 24 #[.val (.int ga), .val (.int gb), .val (.int gc), .val (.int gd), .val (.int cut), .val (.int sh), .val (.int (0 : Int32)), .val (.ref x4), .unset, .unset, .unset] [(.ref b13), (.ref b13)])) rfl (by rw [hml]; rfl) (Steps.refl _) (a := b13) (argsL := []) (rest := [(.ref b13)]) (lenOf pd_0 rfl) rfl (by show 2 * 0 + _ ≤ _; exact Nat.le_of_eq rfl) (hb hby at_24) (fun _ _ => ⟨rfl, e13, (by decide : 2 + 0 ≤ _), (by decide : 3 + 0 ≤ _)⟩)
    dsimp only [Pt.U, Pt.locs, Pt.cells, Pt.slots] at X19 l19 y19 z19 st19 hQ19
    subst l19 y19 z19
    obtain ⟨rfl, N20, k21, f22, f23⟩ := hQ19
    have N24 := Fr.app N10 N20
    have O25 := O15.keep k21 (allS ge_b13 all0)
    obtain ⟨T26, h26, X26, e26, E26, A26, D26, -, st26⟩ := newO X19 hx hZ hown (own_w hw 32 rfl) (own_w hw 33 rfl) (own_w hw 34 rfl) rfl (g := (mkF m 29 #[.val (.int ga), .val (.int gb), .val (.int gc), .val (.int gd), .val (.int cut), .val (.int sh), .val (.int (0 : Int32)), .val (.ref x4), .val (.ref b13), .unset, .unset] [])) rfl (hb hby at_29) (by decide) (by decide)
    obtain ⟨b26, g26⟩ : ∃ z, z = T19.heap.size := ⟨_, rfl⟩
    have ge_b26 : n0 ≤ b26 := by rw [g26, ← O25.1]; exact O25.2.1
    have f27 := (Arv.keep (Arv.ext f9 E13) k21 (ninS ne14 nin0))
    have ne28 : x4 ≠ b26 := Nat.ne_of_lt (Nat.lt_of_lt_of_le (Arv.lt f27) (Nat.le_of_eq g26.symm))
    have f29 := (Exa.keep A13 k21)
    have ne30 : b13 ≠ b26 := Nat.ne_of_lt (Nat.lt_of_lt_of_le (Exa.lt f29) (Nat.le_of_eq g26.symm))
    rw [← g26] at A26 D26 st26
    have O31 := O25.ext E26
    have F32 : Fld Z h26 b26 "com/example/favonius/favonius/eval/TopicRanking" "retrieved" "[I" .null := D26 (Or.inr (own_w hw 101 rfl)) (ty := (.array .int)) (by decide)
    have F33 : Fld Z h26 b26 "com/example/favonius/favonius/eval/TopicRanking" "ideal" "[I" .null := D26 (Or.inr (own_w hw 103 rfl)) (ty := (.array .int)) (by decide)
    have F34 : Fld Z h26 b26 "com/example/favonius/favonius/eval/TopicRanking" "relevant" "I" (.int (0 : Int32)) := D26 (Or.inr (own_w hw 105 rfl)) (ty := .int) (by decide)
    have f36 := (Exa.ext E26 f29)
    have f37 := (Fld.ext E26 f23)
    have f38 := (Fld.ext E26 f22)
    obtain ⟨_, _, ⟨T35, L35, k35, n35⟩, -, X35, ⟨Lc35, hQ35, l35, y35, z35⟩, st35⟩ := X26.specialBack hx (y := (⟨"com/example/favonius/favonius/eval/TopicRanking", "<init>", "([ILjava/util/Collection;)V"⟩ : MethodName)) rfl hown (mvT hZ (own_w hw 35 rfl)) (mvT hZ (own_w hw 36 rfl)) (mvT hZ (own_w hw 37 rfl)) (by decide) (backOf (W := 1) (rm_trinit l Z a0 hw [] b26 x4 b13 h26 n0 O31 A26 ge_b26 f36 f37 f38 ne30 F32 F33 F34) hZ (own_w hw 37 rfl) (own_w hw 34 rfl) (by decide) (by decide)) (g := (mkF m 37 #[.val (.int ga), .val (.int gb), .val (.int gc), .val (.int gd), .val (.int cut), .val (.int sh), .val (.int (0 : Int32)), .val (.ref x4), .val (.ref b13), .unset, .unset] [(.ref b13), (.ref x4), (.ref b26), (.ref b26)])) rfl (by rw [hml]; rfl) (Steps.refl _) (a := b26) (argsL := [(.ref x4), (.ref b13)]) (rest := [(.ref b26)]) (lenOf pd_12 rfl) rfl (by show 2 * 0 + _ ≤ _; exact Nat.le_of_eq rfl) (hb hby at_37) (fun _ _ => ⟨rfl, e26, (by decide : 3 + 3 ≤ _), (by decide : 6 + 4 ≤ _)⟩)
    dsimp only [Pt.U, Pt.locs, Pt.cells, Pt.slots] at X35 l35 y35 z35 st35 hQ35
    subst l35 y35 z35
    obtain ⟨rfl, N39, k40, f41⟩ := hQ35
    have N42 := Fr.app N24 N39
    have O43 := O31.keep k40 (allS ge_b26 all0)
    obtain ⟨_, _, ⟨T44, L44, k44, n44⟩, -, X44, ⟨Lc44, hQ44, l44, y44, z44⟩, st44⟩ := Jvm.LawKit.callS X35 hx (y := (⟨"com/example/favonius/favonius/eval/TopicRankingRelevantInTopPinLaw", "term", "(IIII)I"⟩ : MethodName)) hown (mvT hZ (own_w hw 106 rfl)) (mvT hZ (own_w hw 107 rfl)) (mvT hZ (own_w hw 3 rfl)) (mvT hZ (own_w hw 108 rfl)) (by decide) (backOf (W := 0) (rm_term l Z a0 hw [] (0 : Int32) (0 : Int32) cut ga T35.heap n0 O43 ) hZ (own_w hw 108 rfl) (own_w hw 3 rfl) (by decide) (by decide)) (g := (mkF m 48 #[.val (.int ga), .val (.int gb), .val (.int gc), .val (.int gd), .val (.int cut), .val (.int sh), .val (.int (0 : Int32)), .val (.ref x4), .val (.ref b13), .val (.ref b26), .unset] [(.int ga), (.int cut), (.int (0 : Int32)), (.int (0 : Int32))])) rfl (by rw [hml]; rfl) (argsL := [(.int (0 : Int32)), (.int (0 : Int32)), (.int cut), (.int ga)]) (rest := []) (lenOf pd_13 rfl) rfl (by show 2 * 0 + _ ≤ _; exact Nat.le_of_eq rfl) (hb hby at_48) (fun _ _ => ⟨rfl, rfl, (by decide : 6 + 0 ≤ _), (by decide : 10 + 0 ≤ _)⟩)
    dsimp only [Pt.U, Pt.locs, Pt.cells, Pt.slots] at X44 l44 y44 z44 st44 hQ44
    subst l44 y44 z44
    obtain ⟨rfl, N45, k46⟩ := hQ44
    have N47 := Fr.app N42 N45
    obtain ⟨_, _, ⟨T48, L48, k48, n48⟩, -, X48, ⟨Lc48, hQ48, l48, y48, z48⟩, st48⟩ := Jvm.LawKit.callS X44 hx (y := (⟨"com/example/favonius/favonius/eval/TopicRankingRelevantInTopPinLaw", "term", "(IIII)I"⟩ : MethodName)) hown (mvT hZ (own_w hw 106 rfl)) (mvT hZ (own_w hw 107 rfl)) (mvT hZ (own_w hw 3 rfl)) (mvT hZ (own_w hw 108 rfl)) (by decide) (backOf (W := 1) (rm_term l Z a0 hw [] (1 : Int32) (0 : Int32) cut gb T35.heap n0 O43 ) hZ (own_w hw 108 rfl) (own_w hw 3 rfl) (by decide) (by decide)) (g := (mkF m 57 #[.val (.int ga), .val (.int gb), .val (.int gc), .val (.int gd), .val (.int cut), .val (.int sh), .val (.int (0 : Int32)), .val (.ref x4), .val (.ref b13), .val (.ref b26), .unset] [(.int gb), (.int cut), (.int (0 : Int32)), (.int (1 : Int32)), (.int (own_t (0 : Int32) (0 : Int32) cut ga))])) rfl (by rw [hml]; rfl) (argsL := [(.int (1 : Int32)), (.int (0 : Int32)), (.int cut), (.int gb)]) (rest := [(.int (own_t (0 : Int32) (0 : Int32) cut ga))]) (lenOf pd_13 rfl) rfl (by show 2 * 0 + _ ≤ _; exact Nat.le_of_eq rfl) (hb hby at_57) (fun _ _ => ⟨rfl, k46, (by decide : 6 + 0 ≤ _), (by decide : 10 + 0 ≤ _)⟩)
    dsimp only [Pt.U, Pt.locs, Pt.cells, Pt.slots] at X48 l48 y48 z48 st48 hQ48
    subst l48 y48 z48
    obtain ⟨rfl, N49, k50⟩ := hQ48
    have N51 := Fr.app N47 N49
    obtain ⟨_, _, ⟨T52, L52, k52, n52⟩, -, X52, ⟨Lc52, hQ52, l52, y52, z52⟩, st52⟩ := Jvm.LawKit.callS X48 hx (y := (⟨"com/example/favonius/favonius/eval/TopicRankingRelevantInTopPinLaw", "term", "(IIII)I"⟩ : MethodName)) hown (mvT hZ (own_w hw 106 rfl)) (mvT hZ (own_w hw 107 rfl)) (mvT hZ (own_w hw 3 rfl)) (mvT hZ (own_w hw 108 rfl)) (by decide) (backOf (W := 1) (rm_term l Z a0 hw [] (2 : Int32) (0 : Int32) cut gc T35.heap n0 O43 ) hZ (own_w hw 108 rfl) (own_w hw 3 rfl) (by decide) (by decide)) (g := (mkF m 67 #[.val (.int ga), .val (.int gb), .val (.int gc), .val (.int gd), .val (.int cut), .val (.int sh), .val (.int (0 : Int32)), .val (.ref x4), .val (.ref b13), .val (.ref b26), .unset] [(.int gc), (.int cut), (.int (0 : Int32)), (.int (2 : Int32)), (.int ((own_t (0 : Int32) (0 : Int32) cut ga) + (own_t (1 : Int32) (0 : Int32) cut gb)))])) rfl (by rw [hml]; rfl) (argsL := [(.int (2 : Int32)), (.int (0 : Int32)), (.int cut), (.int gc)]) (rest := [(.int ((own_t (0 : Int32) (0 : Int32) cut ga) + (own_t (1 : Int32) (0 : Int32) cut gb)))]) (lenOf pd_13 rfl) rfl (by show 2 * 0 + _ ≤ _; exact Nat.le_of_eq rfl) (hb hby at_67) (fun _ _ => ⟨rfl, k50, (by decide : 6 + 0 ≤ _), (by decide : 10 + 0 ≤ _)⟩)
    dsimp only [Pt.U, Pt.locs, Pt.cells, Pt.slots] at X52 l52 y52 z52 st52 hQ52
    subst l52 y52 z52
    obtain ⟨rfl, N53, k54⟩ := hQ52
    have N55 := Fr.app N51 N53
    obtain ⟨_, _, ⟨T56, L56, k56, n56⟩, -, X56, ⟨Lc56, hQ56, l56, y56, z56⟩, st56⟩ := Jvm.LawKit.callS X52 hx (y := (⟨"com/example/favonius/favonius/eval/TopicRankingRelevantInTopPinLaw", "term", "(IIII)I"⟩ : MethodName)) hown (mvT hZ (own_w hw 106 rfl)) (mvT hZ (own_w hw 107 rfl)) (mvT hZ (own_w hw 3 rfl)) (mvT hZ (own_w hw 108 rfl)) (by decide) (backOf (W := 1) (rm_term l Z a0 hw [] (3 : Int32) (0 : Int32) cut gd T35.heap n0 O43 ) hZ (own_w hw 108 rfl) (own_w hw 3 rfl) (by decide) (by decide)) (g := (mkF m 77 #[.val (.int ga), .val (.int gb), .val (.int gc), .val (.int gd), .val (.int cut), .val (.int sh), .val (.int (0 : Int32)), .val (.ref x4), .val (.ref b13), .val (.ref b26), .unset] [(.int gd), (.int cut), (.int (0 : Int32)), (.int (3 : Int32)), (.int (((own_t (0 : Int32) (0 : Int32) cut ga) + (own_t (1 : Int32) (0 : Int32) cut gb)) + (own_t (2 : Int32) (0 : Int32) cut gc)))])) rfl (by rw [hml]; rfl) (argsL := [(.int (3 : Int32)), (.int (0 : Int32)), (.int cut), (.int gd)]) (rest := [(.int (((own_t (0 : Int32) (0 : Int32) cut ga) + (own_t (1 : Int32) (0 : Int32) cut gb)) + (own_t (2 : Int32) (0 : Int32) cut gc)))]) (lenOf pd_13 rfl) rfl (by show 2 * 0 + _ ≤ _; exact Nat.le_of_eq rfl) (hb hby at_77) (fun _ _ => ⟨rfl, k54, (by decide : 6 + 0 ≤ _), (by decide : 10 + 0 ≤ _)⟩)
    dsimp only [Pt.U, Pt.locs, Pt.cells, Pt.slots] at X56 l56 y56 z56 st56 hQ56
    subst l56 y56 z56
    obtain ⟨rfl, N57, k58⟩ := hQ56
    have N59 := Fr.app N55 N57
    have f61 := (Exa.keep A26 k40)
    have f62 := (Arv.keep (Arv.ext f27 E26) k40 (ninS ne28 nin0))
    obtain ⟨cq60, kq60, q60a, q60b, q60c⟩ := isOf hZ k58 f61
    obtain ⟨_, _, ⟨T60, L60, k60, n60⟩, -, X60, ⟨Lc60, hQ60, l60, y60, z60⟩, st60⟩ := X56.virtualBack hx (y := (⟨"com/example/favonius/favonius/eval/TopicRanking", "relevantInTop", "(I)I"⟩ : MethodName)) (z := (⟨"com/example/favonius/favonius/eval/TopicRanking", "relevantInTop", "(I)I"⟩ : MethodName)) hown (mvT hZ (own_w hw 109 rfl)) (mvT hZ (own_w hw 110 rfl)) (notFace_of_selects (args := #[]) (mvT hZ (own_w hw 112 rfl))) (mvT hZ (own_w hw 112 rfl)) (mvT hZ (own_w hw 111 rfl)) (by decide) (backOf (W := 0) (rm_top0 l Z a0 hw [] b26 cut x4 x5 T35.heap n0 O43 f61 f41 f62) hZ (own_w hw 113 rfl) (own_w hw 34 rfl) (by decide) (by decide)) q60a q60c (g := (mkF m 87 #[.val (.int ga), .val (.int gb), .val (.int gc), .val (.int gd), .val (.int cut), .val (.int sh), .val (.int (0 : Int32)), .val (.ref x4), .val (.ref b13), .val (.ref b26), .val (.int ((((own_t (0 : Int32) (0 : Int32) cut ga) + (own_t (1 : Int32) (0 : Int32) cut gb)) + (own_t (2 : Int32) (0 : Int32) cut gc)) + (own_t (3 : Int32) (0 : Int32) cut gd)))] [(.int cut), (.ref b26)])) rfl (by rw [hml]; rfl) (Steps.refl _) (argsL := [(.int cut)]) (rest := []) (lenOf pd_10 rfl) rfl (by show 2 * 0 + _ ≤ _; exact Nat.le_of_eq rfl) (hb hby at_87) (fun _ _ => ⟨rfl, k58, (by decide : 6 + 0 ≤ _), (by decide : 10 + 0 ≤ _)⟩)
    dsimp only [Pt.U, Pt.locs, Pt.cells, Pt.slots] at X60 l60 y60 z60 st60 hQ60
    subst l60 y60 z60
    obtain ⟨rfl, N63, k64⟩ := hQ60
    have N65 := Fr.app N59 N63
    have u66 : own_t (0 : Int32) (0 : Int32) cut ga = (0 : Int32) := own_t0a (by decide)
    have u67 : own_t (1 : Int32) (0 : Int32) cut gb = (0 : Int32) := own_t0a (by decide)
    have u68 : own_t (2 : Int32) (0 : Int32) cut gc = (0 : Int32) := own_t0a (by decide)
    have u69 : own_t (3 : Int32) (0 : Int32) cut gd = (0 : Int32) := own_t0a (by decide)
    have q70 : (0 : Int32) = ((((own_t (0 : Int32) (0 : Int32) cut ga) + (own_t (1 : Int32) (0 : Int32) cut gb)) + (own_t (2 : Int32) (0 : Int32) cut gc)) + (own_t (3 : Int32) (0 : Int32) cut gd)) := by rw [u66, u67, u68, u69]; decide
    have S71 : ∀ t, Steps p.tables e below (T60.setTop (mkF m 100 #[.val (.int ga), .val (.int gb), .val (.int gc), .val (.int gd), .val (.int cut), .val (.int sh), .val (.int (0 : Int32)), .val (.ref x4), .val (.ref b13), .val (.ref b26), .val (.int ((((own_t (0 : Int32) (0 : Int32) cut ga) + (own_t (1 : Int32) (0 : Int32) cut gb)) + (own_t (2 : Int32) (0 : Int32) cut gc)) + (own_t (3 : Int32) (0 : Int32) cut gd)))] [(.int (1 : Int32))])) t → Steps p.tables e below (s₁.setTop (mkF m 0 #[.val (.int ga), .val (.int gb), .val (.int gc), .val (.int gd), .val (.int cut), .val (.int sh), .unset, .unset, .unset, .unset, .unset] [])) t := by
      intro t kt
      refine S2 t ?_
      refine XS.istore X0.here hx rfl (hb hby at_7) rfl (l' := #[.val (.int ga), .val (.int gb), .val (.int gc), .val (.int gd), .val (.int cut), .val (.int sh), .val (.int (0 : Int32)), .unset, .unset, .unset, .unset]) rfl ?_
      refine XS.iload X0.here hx rfl (hb hby at_9) rfl ?_
      refine XS.iloadN X0.here hx rfl (hb hby at_11) rfl ?_
      refine XS.iloadN X0.here hx rfl (hb hby at_12) rfl ?_
      refine XS.iloadN X0.here hx rfl (hb hby at_13) rfl ?_
      refine XS.iloadN X0.here hx rfl (hb hby at_14) rfl ?_
      show Steps p.tables e below (s₁.setTop (mkF m 15 #[.val (.int ga), .val (.int gb), .val (.int gc), .val (.int gd), .val (.int cut), .val (.int sh), .val (.int (0 : Int32)), .unset, .unset, .unset, .unset] [(.int gd), (.int gc), (.int gb), (.int ga), (.int (0 : Int32))])) _
      refine st3 _ ?_
      refine XS.astore X3.here hx rfl (hb hby at_18) rfl rfl (l' := #[.val (.int ga), .val (.int gb), .val (.int gc), .val (.int gd), .val (.int cut), .val (.int sh), .val (.int (0 : Int32)), .val (.ref x4), .unset, .unset, .unset]) rfl ?_
      show Steps p.tables e below (T3.setTop (mkF m 20 #[.val (.int ga), .val (.int gb), .val (.int gc), .val (.int gd), .val (.int cut), .val (.int sh), .val (.int (0 : Int32)), .val (.ref x4), .unset, .unset, .unset] [])) _
      refine st13 _ ?_
      refine XS.dup X13.here hx rfl (hb hby at_23) rfl rfl ?_
      show Steps p.tables e below (T13.setTop (mkF m 24 #[.val (.int ga), .val (.int gb), .val (.int gc), .val (.int gd), .val (.int cut), .val (.int sh), .val (.int (0 : Int32)), .val (.ref x4), .unset, .unset, .unset] [(.ref b13), (.ref b13)])) _
      refine st19.trans ?_
      refine XS.astore X19.here hx rfl (hb hby at_27) rfl rfl (l' := #[.val (.int ga), .val (.int gb), .val (.int gc), .val (.int gd), .val (.int cut), .val (.int sh), .val (.int (0 : Int32)), .val (.ref x4), .val (.ref b13), .unset, .unset]) rfl ?_
      show Steps p.tables e below (T19.setTop (mkF m 29 #[.val (.int ga), .val (.int gb), .val (.int gc), .val (.int gd), .val (.int cut), .val (.int sh), .val (.int (0 : Int32)), .val (.ref x4), .val (.ref b13), .unset, .unset] [])) _
      refine st26 _ ?_
      refine XS.dup X26.here hx rfl (hb hby at_32) rfl rfl ?_
      refine XS.aload X26.here hx rfl (hb hby at_33) rfl rfl ?_
      refine XS.aload X26.here hx rfl (hb hby at_35) rfl rfl ?_
      show Steps p.tables e below (T26.setTop (mkF m 37 #[.val (.int ga), .val (.int gb), .val (.int gc), .val (.int gd), .val (.int cut), .val (.int sh), .val (.int (0 : Int32)), .val (.ref x4), .val (.ref b13), .unset, .unset] [(.ref b13), (.ref x4), (.ref b26), (.ref b26)])) _
      refine st35.trans ?_
      refine XS.astore X35.here hx rfl (hb hby at_40) rfl rfl (l' := #[.val (.int ga), .val (.int gb), .val (.int gc), .val (.int gd), .val (.int cut), .val (.int sh), .val (.int (0 : Int32)), .val (.ref x4), .val (.ref b13), .val (.ref b26), .unset]) rfl ?_
      refine XS.iconst X35.here hx rfl (hb hby at_42) ?_
      refine XS.iload X35.here hx rfl (hb hby at_43) rfl ?_
      refine XS.iload X35.here hx rfl (hb hby at_45) rfl ?_
      refine XS.iloadN X35.here hx rfl (hb hby at_47) rfl ?_
      show Steps p.tables e below (T35.setTop (mkF m 48 #[.val (.int ga), .val (.int gb), .val (.int gc), .val (.int gd), .val (.int cut), .val (.int sh), .val (.int (0 : Int32)), .val (.ref x4), .val (.ref b13), .val (.ref b26), .unset] [(.int ga), (.int cut), (.int (0 : Int32)), (.int (0 : Int32))])) _
      refine st44 _ ?_
      refine XS.iconst X44.here hx rfl (hb hby at_51) ?_
      refine XS.iload X44.here hx rfl (hb hby at_52) rfl ?_
      refine XS.iload X44.here hx rfl (hb hby at_54) rfl ?_
      refine XS.iloadN X44.here hx rfl (hb hby at_56) rfl ?_
      show Steps p.tables e below (T44.setTop (mkF m 57 #[.val (.int ga), .val (.int gb), .val (.int gc), .val (.int gd), .val (.int cut), .val (.int sh), .val (.int (0 : Int32)), .val (.ref x4), .val (.ref b13), .val (.ref b26), .unset] [(.int gb), (.int cut), (.int (0 : Int32)), (.int (1 : Int32)), (.int (own_t (0 : Int32) (0 : Int32) cut ga))])) _
      refine st48 _ ?_
      refine XS.iadd X48.here hx rfl (hb hby at_60) rfl ?_
      refine XS.iconst X48.here hx rfl (hb hby at_61) ?_
      refine XS.iload X48.here hx rfl (hb hby at_62) rfl ?_
      refine XS.iload X48.here hx rfl (hb hby at_64) rfl ?_
      refine XS.iloadN X48.here hx rfl (hb hby at_66) rfl ?_
      show Steps p.tables e below (T48.setTop (mkF m 67 #[.val (.int ga), .val (.int gb), .val (.int gc), .val (.int gd), .val (.int cut), .val (.int sh), .val (.int (0 : Int32)), .val (.ref x4), .val (.ref b13), .val (.ref b26), .unset] [(.int gc), (.int cut), (.int (0 : Int32)), (.int (2 : Int32)), (.int ((own_t (0 : Int32) (0 : Int32) cut ga) + (own_t (1 : Int32) (0 : Int32) cut gb)))])) _
      refine st52 _ ?_
      refine XS.iadd X52.here hx rfl (hb hby at_70) rfl ?_
      refine XS.iconst X52.here hx rfl (hb hby at_71) ?_
      refine XS.iload X52.here hx rfl (hb hby at_72) rfl ?_
      refine XS.iload X52.here hx rfl (hb hby at_74) rfl ?_
      refine XS.iloadN X52.here hx rfl (hb hby at_76) rfl ?_
      show Steps p.tables e below (T52.setTop (mkF m 77 #[.val (.int ga), .val (.int gb), .val (.int gc), .val (.int gd), .val (.int cut), .val (.int sh), .val (.int (0 : Int32)), .val (.ref x4), .val (.ref b13), .val (.ref b26), .unset] [(.int gd), (.int cut), (.int (0 : Int32)), (.int (3 : Int32)), (.int (((own_t (0 : Int32) (0 : Int32) cut ga) + (own_t (1 : Int32) (0 : Int32) cut gb)) + (own_t (2 : Int32) (0 : Int32) cut gc)))])) _
      refine st56 _ ?_
      refine XS.iadd X56.here hx rfl (hb hby at_80) rfl ?_
      refine XS.istore X56.here hx rfl (hb hby at_81) rfl (l' := #[.val (.int ga), .val (.int gb), .val (.int gc), .val (.int gd), .val (.int cut), .val (.int sh), .val (.int (0 : Int32)), .val (.ref x4), .val (.ref b13), .val (.ref b26), .val (.int ((((own_t (0 : Int32) (0 : Int32) cut ga) + (own_t (1 : Int32) (0 : Int32) cut gb)) + (own_t (2 : Int32) (0 : Int32) cut gc)) + (own_t (3 : Int32) (0 : Int32) cut gd)))]) rfl ?_
      refine XS.aload X56.here hx rfl (hb hby at_83) rfl rfl ?_
      refine XS.iload X56.here hx rfl (hb hby at_85) rfl ?_
      show Steps p.tables e below (T56.setTop (mkF m 87 #[.val (.int ga), .val (.int gb), .val (.int gc), .val (.int gd), .val (.int cut), .val (.int sh), .val (.int (0 : Int32)), .val (.ref x4), .val (.ref b13), .val (.ref b26), .val (.int ((((own_t (0 : Int32) (0 : Int32) cut ga) + (own_t (1 : Int32) (0 : Int32) cut gb)) + (own_t (2 : Int32) (0 : Int32) cut gc)) + (own_t (3 : Int32) (0 : Int32) cut gd)))] [(.int cut), (.ref b26)])) _
      refine st60.trans ?_
      refine XS.iload X60.here hx rfl (hb hby at_90) rfl ?_
      refine XS.icmpNo X60.here hx rfl (hb hby at_92) rfl (teq (q70 : (0 : Int32) = ((((own_t (0 : Int32) (0 : Int32) cut ga) + (own_t (1 : Int32) (0 : Int32) cut gb)) + (own_t (2 : Int32) (0 : Int32) cut gc)) + (own_t (3 : Int32) (0 : Int32) cut gd)))).2 ?_
      refine XS.iconst X60.here hx rfl (hb hby at_95) ?_
      refine XS.goto X60.here hx rfl (pc0 := 96) (pc' := 100) rfl (hb hby at_96) (by decide) (by decide) ?_
      exact kt
    obtain ⟨fs, hr, hrun, hended, hW, hsame⟩ := X60.leave (v := some (.int (1 : Int32))) (fun h => by rw [Bd.returns] at h; cases h)
    refine ⟨_, _, pre0 _ (S71 _ ?_), hrun, hended, _, _, rfl, ?_, ⟨_, rfl⟩, hW, hsame.mono (by decide) (by decide)⟩
    · exact retN X60 hx (t := .boolean) Bd.returns (by simp) (hb hby at_100) hr
    · show Q_rm_law Z ga gb gc gd cut sh wD h0 n0 _ T60.heap _
      rw [k64]
      exact ⟨rfl, N65⟩
  · obtain ⟨_, _, ⟨T72, L72, k72, n72⟩, -, X72, ⟨Lc72, hQ72, l72, y72, z72⟩, st72⟩ := Jvm.LawKit.callS X0 hx (y := (⟨"com/example/favonius/favonius/eval/TopicRankingRelevantInTopPinLaw", "make", "(IIIII)[I"⟩ : MethodName)) hown (mvT hZ (own_w hw 1 rfl)) (mvT hZ (own_w hw 2 rfl)) (mvT hZ (own_w hw 3 rfl)) (mvT hZ (own_w hw 4 rfl)) (by decide) (backOf (W := 0) (rm_make1 l Z a0 hw [] ga gb gc gd h0 n0 O0 ) hZ (own_w hw 4 rfl) (own_w hw 3 rfl) (by decide) (by decide)) (g := (mkF m 15 #[.val (.int ga), .val (.int gb), .val (.int gc), .val (.int gd), .val (.int cut), .val (.int sh), .val (.int (1 : Int32)), .unset, .unset, .unset, .unset] [(.int gd), (.int gc), (.int gb), (.int ga), (.int (1 : Int32))])) rfl (by rw [hml]; rfl) (argsL := [(.int (1 : Int32)), (.int ga), (.int gb), (.int gc), (.int gd)]) (rest := []) (lenOf pd_11 rfl) rfl (by show 2 * 0 + _ ≤ _; exact Nat.le_of_eq rfl) (hb hby at_15) (fun _ _ => ⟨rfl, e0, (by decide : 0 + 1 ≤ _), (by decide : 0 + 1 ≤ _)⟩)
    dsimp only [Pt.U, Pt.locs, Pt.cells, Pt.slots] at X72 l72 y72 z72 st72 hQ72
    subst l72 y72 z72
    obtain ⟨x73, x74, rfl, N75, k76, f77, f78⟩ := hQ72
    have N79 := Fr.app N0 N75
    have ge80 : n0 ≤ x73 := by rw [← O0.1]; exact Nat.le_trans O0.2.1 f77
    have O81 := O0.keep k76 all0
    obtain ⟨T82, h82, X82, e82, E82, A82, D82, -, st82⟩ := newO X72 hx hZ hown (own_w hw 6 rfl) (own_w hw 7 rfl) (own_w hw 8 rfl) rfl (g := (mkF m 20 #[.val (.int ga), .val (.int gb), .val (.int gc), .val (.int gd), .val (.int cut), .val (.int sh), .val (.int (1 : Int32)), .val (.ref x73), .unset, .unset, .unset] [])) rfl (hb hby at_20) (by decide) (by decide)
    obtain ⟨b82, g82⟩ : ∃ z, z = T72.heap.size := ⟨_, rfl⟩
    have ge_b82 : n0 ≤ b82 := by rw [g82, ← O81.1]; exact O81.2.1
    have ne83 : x73 ≠ b82 := Nat.ne_of_lt (Nat.lt_of_lt_of_le (Arv.lt f78) (Nat.le_of_eq g82.symm))
    rw [← g82] at A82 D82 st82
    have O84 := O81.ext E82
    have F85 : Fld Z h82 b82 "java/util/AbstractList" "modCount" "I" (.int (0 : Int32)) := D82 (Or.inl (own_w hw 28 rfl)) (ty := .int) (by decide)
    have F86 : Fld Z h82 b82 "java/util/ArrayList" "elementData" "[Ljava/lang/Object;" .null := D82 (Or.inl (own_w hw 31 rfl)) (ty := (.array (.object "java/lang/Object"))) (by decide)
    have F87 : Fld Z h82 b82 "java/util/ArrayList" "size" "I" (.int (0 : Int32)) := D82 (Or.inl (own_w hw 49 rfl)) (ty := .int) (by decide)
    obtain ⟨_, _, ⟨T88, L88, k88, n88⟩, -, X88, ⟨Lc88, hQ88, l88, y88, z88⟩, st88⟩ := X82.specialBack hx (y := (⟨"java/util/ArrayList", "<init>", "()V"⟩ : MethodName)) rfl hown (mvT hZ (own_w hw 9 rfl)) (mvT hZ (own_w hw 10 rfl)) (mvT hZ (own_w hw 11 rfl)) (by decide) (backOf (W := 1) (rm_alinit l Z a0 hw [] b82 wD h82 n0 O84 A82 ge_b82 F85 F86 F87 S_D) hZ (own_w hw 11 rfl) (own_w hw 8 rfl) (by decide) (by decide)) (g := (mkF m 24 #[.val (.int ga), .val (.int gb), .val (.int gc), .val (.int gd), .val (.int cut), .val (.int sh), .val (.int (1 : Int32)), .val (.ref x73), .unset, .unset, .unset] [(.ref b82), (.ref b82)])) rfl (by rw [hml]; rfl) (Steps.refl _) (a := b82) (argsL := []) (rest := [(.ref b82)]) (lenOf pd_0 rfl) rfl (by show 2 * 0 + _ ≤ _; exact Nat.le_of_eq rfl) (hb hby at_24) (fun _ _ => ⟨rfl, e82, (by decide : 2 + 0 ≤ _), (by decide : 4 + 0 ≤ _)⟩)
    dsimp only [Pt.U, Pt.locs, Pt.cells, Pt.slots] at X88 l88 y88 z88 st88 hQ88
    subst l88 y88 z88
    obtain ⟨rfl, N89, k90, f91, f92⟩ := hQ88
    have N93 := Fr.app N79 N89
    have O94 := O84.keep k90 (allS ge_b82 all0)
    obtain ⟨T95, h95, X95, e95, E95, A95, D95, -, st95⟩ := newO X88 hx hZ hown (own_w hw 32 rfl) (own_w hw 33 rfl) (own_w hw 34 rfl) rfl (g := (mkF m 29 #[.val (.int ga), .val (.int gb), .val (.int gc), .val (.int gd), .val (.int cut), .val (.int sh), .val (.int (1 : Int32)), .val (.ref x73), .val (.ref b82), .unset, .unset] [])) rfl (hb hby at_29) (by decide) (by decide)
    obtain ⟨b95, g95⟩ : ∃ z, z = T88.heap.size := ⟨_, rfl⟩
    have ge_b95 : n0 ≤ b95 := by rw [g95, ← O94.1]; exact O94.2.1
    have f96 := (Arv.keep (Arv.ext f78 E82) k90 (ninS ne83 nin0))
    have ne97 : x73 ≠ b95 := Nat.ne_of_lt (Nat.lt_of_lt_of_le (Arv.lt f96) (Nat.le_of_eq g95.symm))
    have f98 := (Exa.keep A82 k90)
    have ne99 : b82 ≠ b95 := Nat.ne_of_lt (Nat.lt_of_lt_of_le (Exa.lt f98) (Nat.le_of_eq g95.symm))
    rw [← g95] at A95 D95 st95
    have O100 := O94.ext E95
    have F101 : Fld Z h95 b95 "com/example/favonius/favonius/eval/TopicRanking" "retrieved" "[I" .null := D95 (Or.inr (own_w hw 101 rfl)) (ty := (.array .int)) (by decide)
    have F102 : Fld Z h95 b95 "com/example/favonius/favonius/eval/TopicRanking" "ideal" "[I" .null := D95 (Or.inr (own_w hw 103 rfl)) (ty := (.array .int)) (by decide)
    have F103 : Fld Z h95 b95 "com/example/favonius/favonius/eval/TopicRanking" "relevant" "I" (.int (0 : Int32)) := D95 (Or.inr (own_w hw 105 rfl)) (ty := .int) (by decide)
    have f105 := (Exa.ext E95 f98)
    have f106 := (Fld.ext E95 f92)
    have f107 := (Fld.ext E95 f91)
    obtain ⟨_, _, ⟨T104, L104, k104, n104⟩, -, X104, ⟨Lc104, hQ104, l104, y104, z104⟩, st104⟩ := X95.specialBack hx (y := (⟨"com/example/favonius/favonius/eval/TopicRanking", "<init>", "([ILjava/util/Collection;)V"⟩ : MethodName)) rfl hown (mvT hZ (own_w hw 35 rfl)) (mvT hZ (own_w hw 36 rfl)) (mvT hZ (own_w hw 37 rfl)) (by decide) (backOf (W := 1) (rm_trinit l Z a0 hw [] b95 x73 b82 h95 n0 O100 A95 ge_b95 f105 f106 f107 ne99 F101 F102 F103) hZ (own_w hw 37 rfl) (own_w hw 34 rfl) (by decide) (by decide)) (g := (mkF m 37 #[.val (.int ga), .val (.int gb), .val (.int gc), .val (.int gd), .val (.int cut), .val (.int sh), .val (.int (1 : Int32)), .val (.ref x73), .val (.ref b82), .unset, .unset] [(.ref b82), (.ref x73), (.ref b95), (.ref b95)])) rfl (by rw [hml]; rfl) (Steps.refl _) (a := b95) (argsL := [(.ref x73), (.ref b82)]) (rest := [(.ref b95)]) (lenOf pd_12 rfl) rfl (by show 2 * 0 + _ ≤ _; exact Nat.le_of_eq rfl) (hb hby at_37) (fun _ _ => ⟨rfl, e95, (by decide : 3 + 3 ≤ _), (by decide : 7 + 4 ≤ _)⟩)
    dsimp only [Pt.U, Pt.locs, Pt.cells, Pt.slots] at X104 l104 y104 z104 st104 hQ104
    subst l104 y104 z104
    obtain ⟨rfl, N108, k109, f110⟩ := hQ104
    have N111 := Fr.app N93 N108
    have O112 := O100.keep k109 (allS ge_b95 all0)
    obtain ⟨_, _, ⟨T113, L113, k113, n113⟩, -, X113, ⟨Lc113, hQ113, l113, y113, z113⟩, st113⟩ := Jvm.LawKit.callS X104 hx (y := (⟨"com/example/favonius/favonius/eval/TopicRankingRelevantInTopPinLaw", "term", "(IIII)I"⟩ : MethodName)) hown (mvT hZ (own_w hw 106 rfl)) (mvT hZ (own_w hw 107 rfl)) (mvT hZ (own_w hw 3 rfl)) (mvT hZ (own_w hw 108 rfl)) (by decide) (backOf (W := 0) (rm_term l Z a0 hw [] (0 : Int32) (1 : Int32) cut ga T104.heap n0 O112 ) hZ (own_w hw 108 rfl) (own_w hw 3 rfl) (by decide) (by decide)) (g := (mkF m 48 #[.val (.int ga), .val (.int gb), .val (.int gc), .val (.int gd), .val (.int cut), .val (.int sh), .val (.int (1 : Int32)), .val (.ref x73), .val (.ref b82), .val (.ref b95), .unset] [(.int ga), (.int cut), (.int (1 : Int32)), (.int (0 : Int32))])) rfl (by rw [hml]; rfl) (argsL := [(.int (0 : Int32)), (.int (1 : Int32)), (.int cut), (.int ga)]) (rest := []) (lenOf pd_13 rfl) rfl (by show 2 * 0 + _ ≤ _; exact Nat.le_of_eq rfl) (hb hby at_48) (fun _ _ => ⟨rfl, rfl, (by decide : 6 + 0 ≤ _), (by decide : 11 + 0 ≤ _)⟩)
    dsimp only [Pt.U, Pt.locs, Pt.cells, Pt.slots] at X113 l113 y113 z113 st113 hQ113
    subst l113 y113 z113
    obtain ⟨rfl, N114, k115⟩ := hQ113
    have N116 := Fr.app N111 N114
    obtain ⟨_, _, ⟨T117, L117, k117, n117⟩, -, X117, ⟨Lc117, hQ117, l117, y117, z117⟩, st117⟩ := Jvm.LawKit.callS X113 hx (y := (⟨"com/example/favonius/favonius/eval/TopicRankingRelevantInTopPinLaw", "term", "(IIII)I"⟩ : MethodName)) hown (mvT hZ (own_w hw 106 rfl)) (mvT hZ (own_w hw 107 rfl)) (mvT hZ (own_w hw 3 rfl)) (mvT hZ (own_w hw 108 rfl)) (by decide) (backOf (W := 1) (rm_term l Z a0 hw [] (1 : Int32) (1 : Int32) cut gb T104.heap n0 O112 ) hZ (own_w hw 108 rfl) (own_w hw 3 rfl) (by decide) (by decide)) (g := (mkF m 57 #[.val (.int ga), .val (.int gb), .val (.int gc), .val (.int gd), .val (.int cut), .val (.int sh), .val (.int (1 : Int32)), .val (.ref x73), .val (.ref b82), .val (.ref b95), .unset] [(.int gb), (.int cut), (.int (1 : Int32)), (.int (1 : Int32)), (.int (own_t (0 : Int32) (1 : Int32) cut ga))])) rfl (by rw [hml]; rfl) (argsL := [(.int (1 : Int32)), (.int (1 : Int32)), (.int cut), (.int gb)]) (rest := [(.int (own_t (0 : Int32) (1 : Int32) cut ga))]) (lenOf pd_13 rfl) rfl (by show 2 * 0 + _ ≤ _; exact Nat.le_of_eq rfl) (hb hby at_57) (fun _ _ => ⟨rfl, k115, (by decide : 6 + 0 ≤ _), (by decide : 11 + 0 ≤ _)⟩)
    dsimp only [Pt.U, Pt.locs, Pt.cells, Pt.slots] at X117 l117 y117 z117 st117 hQ117
    subst l117 y117 z117
    obtain ⟨rfl, N118, k119⟩ := hQ117
    have N120 := Fr.app N116 N118
    obtain ⟨_, _, ⟨T121, L121, k121, n121⟩, -, X121, ⟨Lc121, hQ121, l121, y121, z121⟩, st121⟩ := Jvm.LawKit.callS X117 hx (y := (⟨"com/example/favonius/favonius/eval/TopicRankingRelevantInTopPinLaw", "term", "(IIII)I"⟩ : MethodName)) hown (mvT hZ (own_w hw 106 rfl)) (mvT hZ (own_w hw 107 rfl)) (mvT hZ (own_w hw 3 rfl)) (mvT hZ (own_w hw 108 rfl)) (by decide) (backOf (W := 1) (rm_term l Z a0 hw [] (2 : Int32) (1 : Int32) cut gc T104.heap n0 O112 ) hZ (own_w hw 108 rfl) (own_w hw 3 rfl) (by decide) (by decide)) (g := (mkF m 67 #[.val (.int ga), .val (.int gb), .val (.int gc), .val (.int gd), .val (.int cut), .val (.int sh), .val (.int (1 : Int32)), .val (.ref x73), .val (.ref b82), .val (.ref b95), .unset] [(.int gc), (.int cut), (.int (1 : Int32)), (.int (2 : Int32)), (.int ((own_t (0 : Int32) (1 : Int32) cut ga) + (own_t (1 : Int32) (1 : Int32) cut gb)))])) rfl (by rw [hml]; rfl) (argsL := [(.int (2 : Int32)), (.int (1 : Int32)), (.int cut), (.int gc)]) (rest := [(.int ((own_t (0 : Int32) (1 : Int32) cut ga) + (own_t (1 : Int32) (1 : Int32) cut gb)))]) (lenOf pd_13 rfl) rfl (by show 2 * 0 + _ ≤ _; exact Nat.le_of_eq rfl) (hb hby at_67) (fun _ _ => ⟨rfl, k119, (by decide : 6 + 0 ≤ _), (by decide : 11 + 0 ≤ _)⟩)
    dsimp only [Pt.U, Pt.locs, Pt.cells, Pt.slots] at X121 l121 y121 z121 st121 hQ121
    subst l121 y121 z121
    obtain ⟨rfl, N122, k123⟩ := hQ121
    have N124 := Fr.app N120 N122
    obtain ⟨_, _, ⟨T125, L125, k125, n125⟩, -, X125, ⟨Lc125, hQ125, l125, y125, z125⟩, st125⟩ := Jvm.LawKit.callS X121 hx (y := (⟨"com/example/favonius/favonius/eval/TopicRankingRelevantInTopPinLaw", "term", "(IIII)I"⟩ : MethodName)) hown (mvT hZ (own_w hw 106 rfl)) (mvT hZ (own_w hw 107 rfl)) (mvT hZ (own_w hw 3 rfl)) (mvT hZ (own_w hw 108 rfl)) (by decide) (backOf (W := 1) (rm_term l Z a0 hw [] (3 : Int32) (1 : Int32) cut gd T104.heap n0 O112 ) hZ (own_w hw 108 rfl) (own_w hw 3 rfl) (by decide) (by decide)) (g := (mkF m 77 #[.val (.int ga), .val (.int gb), .val (.int gc), .val (.int gd), .val (.int cut), .val (.int sh), .val (.int (1 : Int32)), .val (.ref x73), .val (.ref b82), .val (.ref b95), .unset] [(.int gd), (.int cut), (.int (1 : Int32)), (.int (3 : Int32)), (.int (((own_t (0 : Int32) (1 : Int32) cut ga) + (own_t (1 : Int32) (1 : Int32) cut gb)) + (own_t (2 : Int32) (1 : Int32) cut gc)))])) rfl (by rw [hml]; rfl) (argsL := [(.int (3 : Int32)), (.int (1 : Int32)), (.int cut), (.int gd)]) (rest := [(.int (((own_t (0 : Int32) (1 : Int32) cut ga) + (own_t (1 : Int32) (1 : Int32) cut gb)) + (own_t (2 : Int32) (1 : Int32) cut gc)))]) (lenOf pd_13 rfl) rfl (by show 2 * 0 + _ ≤ _; exact Nat.le_of_eq rfl) (hb hby at_77) (fun _ _ => ⟨rfl, k123, (by decide : 6 + 0 ≤ _), (by decide : 11 + 0 ≤ _)⟩)
    dsimp only [Pt.U, Pt.locs, Pt.cells, Pt.slots] at X125 l125 y125 z125 st125 hQ125
    subst l125 y125 z125
    obtain ⟨rfl, N126, k127⟩ := hQ125
    have N128 := Fr.app N124 N126
    have f130 := (Exa.keep A95 k109)
    have f131 := (Arv.keep (Arv.ext f96 E95) k109 (ninS ne97 nin0))
    obtain ⟨cq129, kq129, q129a, q129b, q129c⟩ := isOf hZ k127 f130
    obtain ⟨_, _, ⟨T129, L129, k129, n129⟩, -, X129, ⟨Lc129, hQ129, l129, y129, z129⟩, st129⟩ := X125.virtualBack hx (y := (⟨"com/example/favonius/favonius/eval/TopicRanking", "relevantInTop", "(I)I"⟩ : MethodName)) (z := (⟨"com/example/favonius/favonius/eval/TopicRanking", "relevantInTop", "(I)I"⟩ : MethodName)) hown (mvT hZ (own_w hw 109 rfl)) (mvT hZ (own_w hw 110 rfl)) (notFace_of_selects (args := #[]) (mvT hZ (own_w hw 112 rfl))) (mvT hZ (own_w hw 112 rfl)) (mvT hZ (own_w hw 111 rfl)) (by decide) (backOf (W := 0) (rm_top1 l Z a0 hw [] b95 cut x73 x74 ga T104.heap n0 O112 f130 f110 f131) hZ (own_w hw 113 rfl) (own_w hw 34 rfl) (by decide) (by decide)) q129a q129c (g := (mkF m 87 #[.val (.int ga), .val (.int gb), .val (.int gc), .val (.int gd), .val (.int cut), .val (.int sh), .val (.int (1 : Int32)), .val (.ref x73), .val (.ref b82), .val (.ref b95), .val (.int ((((own_t (0 : Int32) (1 : Int32) cut ga) + (own_t (1 : Int32) (1 : Int32) cut gb)) + (own_t (2 : Int32) (1 : Int32) cut gc)) + (own_t (3 : Int32) (1 : Int32) cut gd)))] [(.int cut), (.ref b95)])) rfl (by rw [hml]; rfl) (Steps.refl _) (argsL := [(.int cut)]) (rest := []) (lenOf pd_10 rfl) rfl (by show 2 * 0 + _ ≤ _; exact Nat.le_of_eq rfl) (hb hby at_87) (fun _ _ => ⟨rfl, k127, (by decide : 6 + 0 ≤ _), (by decide : 11 + 0 ≤ _)⟩)
    dsimp only [Pt.U, Pt.locs, Pt.cells, Pt.slots] at X129 l129 y129 z129 st129 hQ129
    subst l129 y129 z129
    obtain ⟨rfl, N132, k133⟩ := hQ129
    have N134 := Fr.app N128 N132
    have u135 : own_t (1 : Int32) (1 : Int32) cut gb = (0 : Int32) := own_t0a (by decide)
    have u136 : own_t (2 : Int32) (1 : Int32) cut gc = (0 : Int32) := own_t0a (by decide)
    have u137 : own_t (3 : Int32) (1 : Int32) cut gd = (0 : Int32) := own_t0a (by decide)
    have q138 : (own_t (0 : Int32) (1 : Int32) cut ga) = ((((own_t (0 : Int32) (1 : Int32) cut ga) + (own_t (1 : Int32) (1 : Int32) cut gb)) + (own_t (2 : Int32) (1 : Int32) cut gc)) + (own_t (3 : Int32) (1 : Int32) cut gd)) := by rw [u135, u136, u137]; simp only [Int32.add_zero]
    have S139 : ∀ t, Steps p.tables e below (T129.setTop (mkF m 100 #[.val (.int ga), .val (.int gb), .val (.int gc), .val (.int gd), .val (.int cut), .val (.int sh), .val (.int (1 : Int32)), .val (.ref x73), .val (.ref b82), .val (.ref b95), .val (.int ((((own_t (0 : Int32) (1 : Int32) cut ga) + (own_t (1 : Int32) (1 : Int32) cut gb)) + (own_t (2 : Int32) (1 : Int32) cut gc)) + (own_t (3 : Int32) (1 : Int32) cut gd)))] [(.int (1 : Int32))])) t → Steps p.tables e below (s₁.setTop (mkF m 0 #[.val (.int ga), .val (.int gb), .val (.int gc), .val (.int gd), .val (.int cut), .val (.int sh), .unset, .unset, .unset, .unset, .unset] [])) t := by
      intro t kt
      refine S2 t ?_
      refine XS.istore X0.here hx rfl (hb hby at_7) rfl (l' := #[.val (.int ga), .val (.int gb), .val (.int gc), .val (.int gd), .val (.int cut), .val (.int sh), .val (.int (1 : Int32)), .unset, .unset, .unset, .unset]) rfl ?_
      refine XS.iload X0.here hx rfl (hb hby at_9) rfl ?_
      refine XS.iloadN X0.here hx rfl (hb hby at_11) rfl ?_
      refine XS.iloadN X0.here hx rfl (hb hby at_12) rfl ?_
      refine XS.iloadN X0.here hx rfl (hb hby at_13) rfl ?_
      refine XS.iloadN X0.here hx rfl (hb hby at_14) rfl ?_
      show Steps p.tables e below (s₁.setTop (mkF m 15 #[.val (.int ga), .val (.int gb), .val (.int gc), .val (.int gd), .val (.int cut), .val (.int sh), .val (.int (1 : Int32)), .unset, .unset, .unset, .unset] [(.int gd), (.int gc), (.int gb), (.int ga), (.int (1 : Int32))])) _
      refine st72 _ ?_
      refine XS.astore X72.here hx rfl (hb hby at_18) rfl rfl (l' := #[.val (.int ga), .val (.int gb), .val (.int gc), .val (.int gd), .val (.int cut), .val (.int sh), .val (.int (1 : Int32)), .val (.ref x73), .unset, .unset, .unset]) rfl ?_
      show Steps p.tables e below (T72.setTop (mkF m 20 #[.val (.int ga), .val (.int gb), .val (.int gc), .val (.int gd), .val (.int cut), .val (.int sh), .val (.int (1 : Int32)), .val (.ref x73), .unset, .unset, .unset] [])) _
      refine st82 _ ?_
      refine XS.dup X82.here hx rfl (hb hby at_23) rfl rfl ?_
      show Steps p.tables e below (T82.setTop (mkF m 24 #[.val (.int ga), .val (.int gb), .val (.int gc), .val (.int gd), .val (.int cut), .val (.int sh), .val (.int (1 : Int32)), .val (.ref x73), .unset, .unset, .unset] [(.ref b82), (.ref b82)])) _
      refine st88.trans ?_
      refine XS.astore X88.here hx rfl (hb hby at_27) rfl rfl (l' := #[.val (.int ga), .val (.int gb), .val (.int gc), .val (.int gd), .val (.int cut), .val (.int sh), .val (.int (1 : Int32)), .val (.ref x73), .val (.ref b82), .unset, .unset]) rfl ?_
      show Steps p.tables e below (T88.setTop (mkF m 29 #[.val (.int ga), .val (.int gb), .val (.int gc), .val (.int gd), .val (.int cut), .val (.int sh), .val (.int (1 : Int32)), .val (.ref x73), .val (.ref b82), .unset, .unset] [])) _
      refine st95 _ ?_
      refine XS.dup X95.here hx rfl (hb hby at_32) rfl rfl ?_
      refine XS.aload X95.here hx rfl (hb hby at_33) rfl rfl ?_
      refine XS.aload X95.here hx rfl (hb hby at_35) rfl rfl ?_
      show Steps p.tables e below (T95.setTop (mkF m 37 #[.val (.int ga), .val (.int gb), .val (.int gc), .val (.int gd), .val (.int cut), .val (.int sh), .val (.int (1 : Int32)), .val (.ref x73), .val (.ref b82), .unset, .unset] [(.ref b82), (.ref x73), (.ref b95), (.ref b95)])) _
      refine st104.trans ?_
      refine XS.astore X104.here hx rfl (hb hby at_40) rfl rfl (l' := #[.val (.int ga), .val (.int gb), .val (.int gc), .val (.int gd), .val (.int cut), .val (.int sh), .val (.int (1 : Int32)), .val (.ref x73), .val (.ref b82), .val (.ref b95), .unset]) rfl ?_
      refine XS.iconst X104.here hx rfl (hb hby at_42) ?_
      refine XS.iload X104.here hx rfl (hb hby at_43) rfl ?_
      refine XS.iload X104.here hx rfl (hb hby at_45) rfl ?_
      refine XS.iloadN X104.here hx rfl (hb hby at_47) rfl ?_
      show Steps p.tables e below (T104.setTop (mkF m 48 #[.val (.int ga), .val (.int gb), .val (.int gc), .val (.int gd), .val (.int cut), .val (.int sh), .val (.int (1 : Int32)), .val (.ref x73), .val (.ref b82), .val (.ref b95), .unset] [(.int ga), (.int cut), (.int (1 : Int32)), (.int (0 : Int32))])) _
      refine st113 _ ?_
      refine XS.iconst X113.here hx rfl (hb hby at_51) ?_
      refine XS.iload X113.here hx rfl (hb hby at_52) rfl ?_
      refine XS.iload X113.here hx rfl (hb hby at_54) rfl ?_
      refine XS.iloadN X113.here hx rfl (hb hby at_56) rfl ?_
      show Steps p.tables e below (T113.setTop (mkF m 57 #[.val (.int ga), .val (.int gb), .val (.int gc), .val (.int gd), .val (.int cut), .val (.int sh), .val (.int (1 : Int32)), .val (.ref x73), .val (.ref b82), .val (.ref b95), .unset] [(.int gb), (.int cut), (.int (1 : Int32)), (.int (1 : Int32)), (.int (own_t (0 : Int32) (1 : Int32) cut ga))])) _
      refine st117 _ ?_
      refine XS.iadd X117.here hx rfl (hb hby at_60) rfl ?_
      refine XS.iconst X117.here hx rfl (hb hby at_61) ?_
      refine XS.iload X117.here hx rfl (hb hby at_62) rfl ?_
      refine XS.iload X117.here hx rfl (hb hby at_64) rfl ?_
      refine XS.iloadN X117.here hx rfl (hb hby at_66) rfl ?_
      show Steps p.tables e below (T117.setTop (mkF m 67 #[.val (.int ga), .val (.int gb), .val (.int gc), .val (.int gd), .val (.int cut), .val (.int sh), .val (.int (1 : Int32)), .val (.ref x73), .val (.ref b82), .val (.ref b95), .unset] [(.int gc), (.int cut), (.int (1 : Int32)), (.int (2 : Int32)), (.int ((own_t (0 : Int32) (1 : Int32) cut ga) + (own_t (1 : Int32) (1 : Int32) cut gb)))])) _
      refine st121 _ ?_
      refine XS.iadd X121.here hx rfl (hb hby at_70) rfl ?_
      refine XS.iconst X121.here hx rfl (hb hby at_71) ?_
      refine XS.iload X121.here hx rfl (hb hby at_72) rfl ?_
      refine XS.iload X121.here hx rfl (hb hby at_74) rfl ?_
      refine XS.iloadN X121.here hx rfl (hb hby at_76) rfl ?_
      show Steps p.tables e below (T121.setTop (mkF m 77 #[.val (.int ga), .val (.int gb), .val (.int gc), .val (.int gd), .val (.int cut), .val (.int sh), .val (.int (1 : Int32)), .val (.ref x73), .val (.ref b82), .val (.ref b95), .unset] [(.int gd), (.int cut), (.int (1 : Int32)), (.int (3 : Int32)), (.int (((own_t (0 : Int32) (1 : Int32) cut ga) + (own_t (1 : Int32) (1 : Int32) cut gb)) + (own_t (2 : Int32) (1 : Int32) cut gc)))])) _
      refine st125 _ ?_
      refine XS.iadd X125.here hx rfl (hb hby at_80) rfl ?_
      refine XS.istore X125.here hx rfl (hb hby at_81) rfl (l' := #[.val (.int ga), .val (.int gb), .val (.int gc), .val (.int gd), .val (.int cut), .val (.int sh), .val (.int (1 : Int32)), .val (.ref x73), .val (.ref b82), .val (.ref b95), .val (.int ((((own_t (0 : Int32) (1 : Int32) cut ga) + (own_t (1 : Int32) (1 : Int32) cut gb)) + (own_t (2 : Int32) (1 : Int32) cut gc)) + (own_t (3 : Int32) (1 : Int32) cut gd)))]) rfl ?_
      refine XS.aload X125.here hx rfl (hb hby at_83) rfl rfl ?_
      refine XS.iload X125.here hx rfl (hb hby at_85) rfl ?_
      show Steps p.tables e below (T125.setTop (mkF m 87 #[.val (.int ga), .val (.int gb), .val (.int gc), .val (.int gd), .val (.int cut), .val (.int sh), .val (.int (1 : Int32)), .val (.ref x73), .val (.ref b82), .val (.ref b95), .val (.int ((((own_t (0 : Int32) (1 : Int32) cut ga) + (own_t (1 : Int32) (1 : Int32) cut gb)) + (own_t (2 : Int32) (1 : Int32) cut gc)) + (own_t (3 : Int32) (1 : Int32) cut gd)))] [(.int cut), (.ref b95)])) _
      refine st129.trans ?_
      refine XS.iload X129.here hx rfl (hb hby at_90) rfl ?_
      refine XS.icmpNo X129.here hx rfl (hb hby at_92) rfl (teq (q138 : (own_t (0 : Int32) (1 : Int32) cut ga) = ((((own_t (0 : Int32) (1 : Int32) cut ga) + (own_t (1 : Int32) (1 : Int32) cut gb)) + (own_t (2 : Int32) (1 : Int32) cut gc)) + (own_t (3 : Int32) (1 : Int32) cut gd)))).2 ?_
      refine XS.iconst X129.here hx rfl (hb hby at_95) ?_
      refine XS.goto X129.here hx rfl (pc0 := 96) (pc' := 100) rfl (hb hby at_96) (by decide) (by decide) ?_
      exact kt
    obtain ⟨fs, hr, hrun, hended, hW, hsame⟩ := X129.leave (v := some (.int (1 : Int32))) (fun h => by rw [Bd.returns] at h; cases h)
    refine ⟨_, _, pre0 _ (S139 _ ?_), hrun, hended, _, _, rfl, ?_, ⟨_, rfl⟩, hW, hsame.mono (by decide) (by decide)⟩
    · exact retN X129 hx (t := .boolean) Bd.returns (by simp) (hb hby at_100) hr
    · show Q_rm_law Z ga gb gc gd cut sh wD h0 n0 _ T129.heap _
      rw [k133]
      exact ⟨rfl, N134⟩
  · obtain ⟨_, _, ⟨T140, L140, k140, n140⟩, -, X140, ⟨Lc140, hQ140, l140, y140, z140⟩, st140⟩ := Jvm.LawKit.callS X0 hx (y := (⟨"com/example/favonius/favonius/eval/TopicRankingRelevantInTopPinLaw", "make", "(IIIII)[I"⟩ : MethodName)) hown (mvT hZ (own_w hw 1 rfl)) (mvT hZ (own_w hw 2 rfl)) (mvT hZ (own_w hw 3 rfl)) (mvT hZ (own_w hw 4 rfl)) (by decide) (backOf (W := 0) (rm_make2 l Z a0 hw [] ga gb gc gd h0 n0 O0 ) hZ (own_w hw 4 rfl) (own_w hw 3 rfl) (by decide) (by decide)) (g := (mkF m 15 #[.val (.int ga), .val (.int gb), .val (.int gc), .val (.int gd), .val (.int cut), .val (.int sh), .val (.int (2 : Int32)), .unset, .unset, .unset, .unset] [(.int gd), (.int gc), (.int gb), (.int ga), (.int (2 : Int32))])) rfl (by rw [hml]; rfl) (argsL := [(.int (2 : Int32)), (.int ga), (.int gb), (.int gc), (.int gd)]) (rest := []) (lenOf pd_11 rfl) rfl (by show 2 * 0 + _ ≤ _; exact Nat.le_of_eq rfl) (hb hby at_15) (fun _ _ => ⟨rfl, e0, (by decide : 0 + 1 ≤ _), (by decide : 0 + 2 ≤ _)⟩)
    dsimp only [Pt.U, Pt.locs, Pt.cells, Pt.slots] at X140 l140 y140 z140 st140 hQ140
    subst l140 y140 z140
    obtain ⟨x141, x142, rfl, N143, k144, f145, f146⟩ := hQ140
    have N147 := Fr.app N0 N143
    have ge148 : n0 ≤ x141 := by rw [← O0.1]; exact Nat.le_trans O0.2.1 f145
    have O149 := O0.keep k144 all0
    obtain ⟨T150, h150, X150, e150, E150, A150, D150, -, st150⟩ := newO X140 hx hZ hown (own_w hw 6 rfl) (own_w hw 7 rfl) (own_w hw 8 rfl) rfl (g := (mkF m 20 #[.val (.int ga), .val (.int gb), .val (.int gc), .val (.int gd), .val (.int cut), .val (.int sh), .val (.int (2 : Int32)), .val (.ref x141), .unset, .unset, .unset] [])) rfl (hb hby at_20) (by decide) (by decide)
    obtain ⟨b150, g150⟩ : ∃ z, z = T140.heap.size := ⟨_, rfl⟩
    have ge_b150 : n0 ≤ b150 := by rw [g150, ← O149.1]; exact O149.2.1
    have ne151 : x141 ≠ b150 := Nat.ne_of_lt (Nat.lt_of_lt_of_le (Arv.lt f146) (Nat.le_of_eq g150.symm))
    rw [← g150] at A150 D150 st150
    have O152 := O149.ext E150
    have F153 : Fld Z h150 b150 "java/util/AbstractList" "modCount" "I" (.int (0 : Int32)) := D150 (Or.inl (own_w hw 28 rfl)) (ty := .int) (by decide)
    have F154 : Fld Z h150 b150 "java/util/ArrayList" "elementData" "[Ljava/lang/Object;" .null := D150 (Or.inl (own_w hw 31 rfl)) (ty := (.array (.object "java/lang/Object"))) (by decide)
    have F155 : Fld Z h150 b150 "java/util/ArrayList" "size" "I" (.int (0 : Int32)) := D150 (Or.inl (own_w hw 49 rfl)) (ty := .int) (by decide)
    obtain ⟨_, _, ⟨T156, L156, k156, n156⟩, -, X156, ⟨Lc156, hQ156, l156, y156, z156⟩, st156⟩ := X150.specialBack hx (y := (⟨"java/util/ArrayList", "<init>", "()V"⟩ : MethodName)) rfl hown (mvT hZ (own_w hw 9 rfl)) (mvT hZ (own_w hw 10 rfl)) (mvT hZ (own_w hw 11 rfl)) (by decide) (backOf (W := 1) (rm_alinit l Z a0 hw [] b150 wD h150 n0 O152 A150 ge_b150 F153 F154 F155 S_D) hZ (own_w hw 11 rfl) (own_w hw 8 rfl) (by decide) (by decide)) (g := (mkF m 24 #[.val (.int ga), .val (.int gb), .val (.int gc), .val (.int gd), .val (.int cut), .val (.int sh), .val (.int (2 : Int32)), .val (.ref x141), .unset, .unset, .unset] [(.ref b150), (.ref b150)])) rfl (by rw [hml]; rfl) (Steps.refl _) (a := b150) (argsL := []) (rest := [(.ref b150)]) (lenOf pd_0 rfl) rfl (by show 2 * 0 + _ ≤ _; exact Nat.le_of_eq rfl) (hb hby at_24) (fun _ _ => ⟨rfl, e150, (by decide : 2 + 0 ≤ _), (by decide : 5 + 0 ≤ _)⟩)
    dsimp only [Pt.U, Pt.locs, Pt.cells, Pt.slots] at X156 l156 y156 z156 st156 hQ156
    subst l156 y156 z156
    obtain ⟨rfl, N157, k158, f159, f160⟩ := hQ156
    have N161 := Fr.app N147 N157
    have O162 := O152.keep k158 (allS ge_b150 all0)
    obtain ⟨T163, h163, X163, e163, E163, A163, D163, -, st163⟩ := newO X156 hx hZ hown (own_w hw 32 rfl) (own_w hw 33 rfl) (own_w hw 34 rfl) rfl (g := (mkF m 29 #[.val (.int ga), .val (.int gb), .val (.int gc), .val (.int gd), .val (.int cut), .val (.int sh), .val (.int (2 : Int32)), .val (.ref x141), .val (.ref b150), .unset, .unset] [])) rfl (hb hby at_29) (by decide) (by decide)
    obtain ⟨b163, g163⟩ : ∃ z, z = T156.heap.size := ⟨_, rfl⟩
    have ge_b163 : n0 ≤ b163 := by rw [g163, ← O162.1]; exact O162.2.1
    have f164 := (Arv.keep (Arv.ext f146 E150) k158 (ninS ne151 nin0))
    have ne165 : x141 ≠ b163 := Nat.ne_of_lt (Nat.lt_of_lt_of_le (Arv.lt f164) (Nat.le_of_eq g163.symm))
    have f166 := (Exa.keep A150 k158)
    have ne167 : b150 ≠ b163 := Nat.ne_of_lt (Nat.lt_of_lt_of_le (Exa.lt f166) (Nat.le_of_eq g163.symm))
    rw [← g163] at A163 D163 st163
    have O168 := O162.ext E163
    have F169 : Fld Z h163 b163 "com/example/favonius/favonius/eval/TopicRanking" "retrieved" "[I" .null := D163 (Or.inr (own_w hw 101 rfl)) (ty := (.array .int)) (by decide)
    have F170 : Fld Z h163 b163 "com/example/favonius/favonius/eval/TopicRanking" "ideal" "[I" .null := D163 (Or.inr (own_w hw 103 rfl)) (ty := (.array .int)) (by decide)
    have F171 : Fld Z h163 b163 "com/example/favonius/favonius/eval/TopicRanking" "relevant" "I" (.int (0 : Int32)) := D163 (Or.inr (own_w hw 105 rfl)) (ty := .int) (by decide)
    have f173 := (Exa.ext E163 f166)
    have f174 := (Fld.ext E163 f160)
    have f175 := (Fld.ext E163 f159)
    obtain ⟨_, _, ⟨T172, L172, k172, n172⟩, -, X172, ⟨Lc172, hQ172, l172, y172, z172⟩, st172⟩ := X163.specialBack hx (y := (⟨"com/example/favonius/favonius/eval/TopicRanking", "<init>", "([ILjava/util/Collection;)V"⟩ : MethodName)) rfl hown (mvT hZ (own_w hw 35 rfl)) (mvT hZ (own_w hw 36 rfl)) (mvT hZ (own_w hw 37 rfl)) (by decide) (backOf (W := 1) (rm_trinit l Z a0 hw [] b163 x141 b150 h163 n0 O168 A163 ge_b163 f173 f174 f175 ne167 F169 F170 F171) hZ (own_w hw 37 rfl) (own_w hw 34 rfl) (by decide) (by decide)) (g := (mkF m 37 #[.val (.int ga), .val (.int gb), .val (.int gc), .val (.int gd), .val (.int cut), .val (.int sh), .val (.int (2 : Int32)), .val (.ref x141), .val (.ref b150), .unset, .unset] [(.ref b150), (.ref x141), (.ref b163), (.ref b163)])) rfl (by rw [hml]; rfl) (Steps.refl _) (a := b163) (argsL := [(.ref x141), (.ref b150)]) (rest := [(.ref b163)]) (lenOf pd_12 rfl) rfl (by show 2 * 0 + _ ≤ _; exact Nat.le_of_eq rfl) (hb hby at_37) (fun _ _ => ⟨rfl, e163, (by decide : 3 + 3 ≤ _), (by decide : 8 + 4 ≤ _)⟩)
    dsimp only [Pt.U, Pt.locs, Pt.cells, Pt.slots] at X172 l172 y172 z172 st172 hQ172
    subst l172 y172 z172
    obtain ⟨rfl, N176, k177, f178⟩ := hQ172
    have N179 := Fr.app N161 N176
    have O180 := O168.keep k177 (allS ge_b163 all0)
    obtain ⟨_, _, ⟨T181, L181, k181, n181⟩, -, X181, ⟨Lc181, hQ181, l181, y181, z181⟩, st181⟩ := Jvm.LawKit.callS X172 hx (y := (⟨"com/example/favonius/favonius/eval/TopicRankingRelevantInTopPinLaw", "term", "(IIII)I"⟩ : MethodName)) hown (mvT hZ (own_w hw 106 rfl)) (mvT hZ (own_w hw 107 rfl)) (mvT hZ (own_w hw 3 rfl)) (mvT hZ (own_w hw 108 rfl)) (by decide) (backOf (W := 0) (rm_term l Z a0 hw [] (0 : Int32) (2 : Int32) cut ga T172.heap n0 O180 ) hZ (own_w hw 108 rfl) (own_w hw 3 rfl) (by decide) (by decide)) (g := (mkF m 48 #[.val (.int ga), .val (.int gb), .val (.int gc), .val (.int gd), .val (.int cut), .val (.int sh), .val (.int (2 : Int32)), .val (.ref x141), .val (.ref b150), .val (.ref b163), .unset] [(.int ga), (.int cut), (.int (2 : Int32)), (.int (0 : Int32))])) rfl (by rw [hml]; rfl) (argsL := [(.int (0 : Int32)), (.int (2 : Int32)), (.int cut), (.int ga)]) (rest := []) (lenOf pd_13 rfl) rfl (by show 2 * 0 + _ ≤ _; exact Nat.le_of_eq rfl) (hb hby at_48) (fun _ _ => ⟨rfl, rfl, (by decide : 6 + 0 ≤ _), (by decide : 12 + 0 ≤ _)⟩)
    dsimp only [Pt.U, Pt.locs, Pt.cells, Pt.slots] at X181 l181 y181 z181 st181 hQ181
    subst l181 y181 z181
    obtain ⟨rfl, N182, k183⟩ := hQ181
    have N184 := Fr.app N179 N182
    obtain ⟨_, _, ⟨T185, L185, k185, n185⟩, -, X185, ⟨Lc185, hQ185, l185, y185, z185⟩, st185⟩ := Jvm.LawKit.callS X181 hx (y := (⟨"com/example/favonius/favonius/eval/TopicRankingRelevantInTopPinLaw", "term", "(IIII)I"⟩ : MethodName)) hown (mvT hZ (own_w hw 106 rfl)) (mvT hZ (own_w hw 107 rfl)) (mvT hZ (own_w hw 3 rfl)) (mvT hZ (own_w hw 108 rfl)) (by decide) (backOf (W := 1) (rm_term l Z a0 hw [] (1 : Int32) (2 : Int32) cut gb T172.heap n0 O180 ) hZ (own_w hw 108 rfl) (own_w hw 3 rfl) (by decide) (by decide)) (g := (mkF m 57 #[.val (.int ga), .val (.int gb), .val (.int gc), .val (.int gd), .val (.int cut), .val (.int sh), .val (.int (2 : Int32)), .val (.ref x141), .val (.ref b150), .val (.ref b163), .unset] [(.int gb), (.int cut), (.int (2 : Int32)), (.int (1 : Int32)), (.int (own_t (0 : Int32) (2 : Int32) cut ga))])) rfl (by rw [hml]; rfl) (argsL := [(.int (1 : Int32)), (.int (2 : Int32)), (.int cut), (.int gb)]) (rest := [(.int (own_t (0 : Int32) (2 : Int32) cut ga))]) (lenOf pd_13 rfl) rfl (by show 2 * 0 + _ ≤ _; exact Nat.le_of_eq rfl) (hb hby at_57) (fun _ _ => ⟨rfl, k183, (by decide : 6 + 0 ≤ _), (by decide : 12 + 0 ≤ _)⟩)
    dsimp only [Pt.U, Pt.locs, Pt.cells, Pt.slots] at X185 l185 y185 z185 st185 hQ185
    subst l185 y185 z185
    obtain ⟨rfl, N186, k187⟩ := hQ185
    have N188 := Fr.app N184 N186
    obtain ⟨_, _, ⟨T189, L189, k189, n189⟩, -, X189, ⟨Lc189, hQ189, l189, y189, z189⟩, st189⟩ := Jvm.LawKit.callS X185 hx (y := (⟨"com/example/favonius/favonius/eval/TopicRankingRelevantInTopPinLaw", "term", "(IIII)I"⟩ : MethodName)) hown (mvT hZ (own_w hw 106 rfl)) (mvT hZ (own_w hw 107 rfl)) (mvT hZ (own_w hw 3 rfl)) (mvT hZ (own_w hw 108 rfl)) (by decide) (backOf (W := 1) (rm_term l Z a0 hw [] (2 : Int32) (2 : Int32) cut gc T172.heap n0 O180 ) hZ (own_w hw 108 rfl) (own_w hw 3 rfl) (by decide) (by decide)) (g := (mkF m 67 #[.val (.int ga), .val (.int gb), .val (.int gc), .val (.int gd), .val (.int cut), .val (.int sh), .val (.int (2 : Int32)), .val (.ref x141), .val (.ref b150), .val (.ref b163), .unset] [(.int gc), (.int cut), (.int (2 : Int32)), (.int (2 : Int32)), (.int ((own_t (0 : Int32) (2 : Int32) cut ga) + (own_t (1 : Int32) (2 : Int32) cut gb)))])) rfl (by rw [hml]; rfl) (argsL := [(.int (2 : Int32)), (.int (2 : Int32)), (.int cut), (.int gc)]) (rest := [(.int ((own_t (0 : Int32) (2 : Int32) cut ga) + (own_t (1 : Int32) (2 : Int32) cut gb)))]) (lenOf pd_13 rfl) rfl (by show 2 * 0 + _ ≤ _; exact Nat.le_of_eq rfl) (hb hby at_67) (fun _ _ => ⟨rfl, k187, (by decide : 6 + 0 ≤ _), (by decide : 12 + 0 ≤ _)⟩)
    dsimp only [Pt.U, Pt.locs, Pt.cells, Pt.slots] at X189 l189 y189 z189 st189 hQ189
    subst l189 y189 z189
    obtain ⟨rfl, N190, k191⟩ := hQ189
    have N192 := Fr.app N188 N190
    obtain ⟨_, _, ⟨T193, L193, k193, n193⟩, -, X193, ⟨Lc193, hQ193, l193, y193, z193⟩, st193⟩ := Jvm.LawKit.callS X189 hx (y := (⟨"com/example/favonius/favonius/eval/TopicRankingRelevantInTopPinLaw", "term", "(IIII)I"⟩ : MethodName)) hown (mvT hZ (own_w hw 106 rfl)) (mvT hZ (own_w hw 107 rfl)) (mvT hZ (own_w hw 3 rfl)) (mvT hZ (own_w hw 108 rfl)) (by decide) (backOf (W := 1) (rm_term l Z a0 hw [] (3 : Int32) (2 : Int32) cut gd T172.heap n0 O180 ) hZ (own_w hw 108 rfl) (own_w hw 3 rfl) (by decide) (by decide)) (g := (mkF m 77 #[.val (.int ga), .val (.int gb), .val (.int gc), .val (.int gd), .val (.int cut), .val (.int sh), .val (.int (2 : Int32)), .val (.ref x141), .val (.ref b150), .val (.ref b163), .unset] [(.int gd), (.int cut), (.int (2 : Int32)), (.int (3 : Int32)), (.int (((own_t (0 : Int32) (2 : Int32) cut ga) + (own_t (1 : Int32) (2 : Int32) cut gb)) + (own_t (2 : Int32) (2 : Int32) cut gc)))])) rfl (by rw [hml]; rfl) (argsL := [(.int (3 : Int32)), (.int (2 : Int32)), (.int cut), (.int gd)]) (rest := [(.int (((own_t (0 : Int32) (2 : Int32) cut ga) + (own_t (1 : Int32) (2 : Int32) cut gb)) + (own_t (2 : Int32) (2 : Int32) cut gc)))]) (lenOf pd_13 rfl) rfl (by show 2 * 0 + _ ≤ _; exact Nat.le_of_eq rfl) (hb hby at_77) (fun _ _ => ⟨rfl, k191, (by decide : 6 + 0 ≤ _), (by decide : 12 + 0 ≤ _)⟩)
    dsimp only [Pt.U, Pt.locs, Pt.cells, Pt.slots] at X193 l193 y193 z193 st193 hQ193
    subst l193 y193 z193
    obtain ⟨rfl, N194, k195⟩ := hQ193
    have N196 := Fr.app N192 N194
    have f198 := (Exa.keep A163 k177)
    have f199 := (Arv.keep (Arv.ext f164 E163) k177 (ninS ne165 nin0))
    obtain ⟨cq197, kq197, q197a, q197b, q197c⟩ := isOf hZ k195 f198
    obtain ⟨_, _, ⟨T197, L197, k197, n197⟩, -, X197, ⟨Lc197, hQ197, l197, y197, z197⟩, st197⟩ := X193.virtualBack hx (y := (⟨"com/example/favonius/favonius/eval/TopicRanking", "relevantInTop", "(I)I"⟩ : MethodName)) (z := (⟨"com/example/favonius/favonius/eval/TopicRanking", "relevantInTop", "(I)I"⟩ : MethodName)) hown (mvT hZ (own_w hw 109 rfl)) (mvT hZ (own_w hw 110 rfl)) (notFace_of_selects (args := #[]) (mvT hZ (own_w hw 112 rfl))) (mvT hZ (own_w hw 112 rfl)) (mvT hZ (own_w hw 111 rfl)) (by decide) (backOf (W := 0) (rm_top2 l Z a0 hw [] b163 cut x141 x142 ga gb T172.heap n0 O180 f198 f178 f199) hZ (own_w hw 113 rfl) (own_w hw 34 rfl) (by decide) (by decide)) q197a q197c (g := (mkF m 87 #[.val (.int ga), .val (.int gb), .val (.int gc), .val (.int gd), .val (.int cut), .val (.int sh), .val (.int (2 : Int32)), .val (.ref x141), .val (.ref b150), .val (.ref b163), .val (.int ((((own_t (0 : Int32) (2 : Int32) cut ga) + (own_t (1 : Int32) (2 : Int32) cut gb)) + (own_t (2 : Int32) (2 : Int32) cut gc)) + (own_t (3 : Int32) (2 : Int32) cut gd)))] [(.int cut), (.ref b163)])) rfl (by rw [hml]; rfl) (Steps.refl _) (argsL := [(.int cut)]) (rest := []) (lenOf pd_10 rfl) rfl (by show 2 * 0 + _ ≤ _; exact Nat.le_of_eq rfl) (hb hby at_87) (fun _ _ => ⟨rfl, k195, (by decide : 6 + 0 ≤ _), (by decide : 12 + 0 ≤ _)⟩)
    dsimp only [Pt.U, Pt.locs, Pt.cells, Pt.slots] at X197 l197 y197 z197 st197 hQ197
    subst l197 y197 z197
    obtain ⟨rfl, N200, k201⟩ := hQ197
    have N202 := Fr.app N196 N200
    have u203 : own_t (2 : Int32) (2 : Int32) cut gc = (0 : Int32) := own_t0a (by decide)
    have u204 : own_t (3 : Int32) (2 : Int32) cut gd = (0 : Int32) := own_t0a (by decide)
    have q205 : ((own_t (0 : Int32) (2 : Int32) cut ga) + (own_t (1 : Int32) (2 : Int32) cut gb)) = ((((own_t (0 : Int32) (2 : Int32) cut ga) + (own_t (1 : Int32) (2 : Int32) cut gb)) + (own_t (2 : Int32) (2 : Int32) cut gc)) + (own_t (3 : Int32) (2 : Int32) cut gd)) := by rw [u203, u204]; simp only [Int32.add_zero]
    have S206 : ∀ t, Steps p.tables e below (T197.setTop (mkF m 100 #[.val (.int ga), .val (.int gb), .val (.int gc), .val (.int gd), .val (.int cut), .val (.int sh), .val (.int (2 : Int32)), .val (.ref x141), .val (.ref b150), .val (.ref b163), .val (.int ((((own_t (0 : Int32) (2 : Int32) cut ga) + (own_t (1 : Int32) (2 : Int32) cut gb)) + (own_t (2 : Int32) (2 : Int32) cut gc)) + (own_t (3 : Int32) (2 : Int32) cut gd)))] [(.int (1 : Int32))])) t → Steps p.tables e below (s₁.setTop (mkF m 0 #[.val (.int ga), .val (.int gb), .val (.int gc), .val (.int gd), .val (.int cut), .val (.int sh), .unset, .unset, .unset, .unset, .unset] [])) t := by
      intro t kt
      refine S2 t ?_
      refine XS.istore X0.here hx rfl (hb hby at_7) rfl (l' := #[.val (.int ga), .val (.int gb), .val (.int gc), .val (.int gd), .val (.int cut), .val (.int sh), .val (.int (2 : Int32)), .unset, .unset, .unset, .unset]) rfl ?_
      refine XS.iload X0.here hx rfl (hb hby at_9) rfl ?_
      refine XS.iloadN X0.here hx rfl (hb hby at_11) rfl ?_
      refine XS.iloadN X0.here hx rfl (hb hby at_12) rfl ?_
      refine XS.iloadN X0.here hx rfl (hb hby at_13) rfl ?_
      refine XS.iloadN X0.here hx rfl (hb hby at_14) rfl ?_
      show Steps p.tables e below (s₁.setTop (mkF m 15 #[.val (.int ga), .val (.int gb), .val (.int gc), .val (.int gd), .val (.int cut), .val (.int sh), .val (.int (2 : Int32)), .unset, .unset, .unset, .unset] [(.int gd), (.int gc), (.int gb), (.int ga), (.int (2 : Int32))])) _
      refine st140 _ ?_
      refine XS.astore X140.here hx rfl (hb hby at_18) rfl rfl (l' := #[.val (.int ga), .val (.int gb), .val (.int gc), .val (.int gd), .val (.int cut), .val (.int sh), .val (.int (2 : Int32)), .val (.ref x141), .unset, .unset, .unset]) rfl ?_
      show Steps p.tables e below (T140.setTop (mkF m 20 #[.val (.int ga), .val (.int gb), .val (.int gc), .val (.int gd), .val (.int cut), .val (.int sh), .val (.int (2 : Int32)), .val (.ref x141), .unset, .unset, .unset] [])) _
      refine st150 _ ?_
      refine XS.dup X150.here hx rfl (hb hby at_23) rfl rfl ?_
      show Steps p.tables e below (T150.setTop (mkF m 24 #[.val (.int ga), .val (.int gb), .val (.int gc), .val (.int gd), .val (.int cut), .val (.int sh), .val (.int (2 : Int32)), .val (.ref x141), .unset, .unset, .unset] [(.ref b150), (.ref b150)])) _
      refine st156.trans ?_
      refine XS.astore X156.here hx rfl (hb hby at_27) rfl rfl (l' := #[.val (.int ga), .val (.int gb), .val (.int gc), .val (.int gd), .val (.int cut), .val (.int sh), .val (.int (2 : Int32)), .val (.ref x141), .val (.ref b150), .unset, .unset]) rfl ?_
      show Steps p.tables e below (T156.setTop (mkF m 29 #[.val (.int ga), .val (.int gb), .val (.int gc), .val (.int gd), .val (.int cut), .val (.int sh), .val (.int (2 : Int32)), .val (.ref x141), .val (.ref b150), .unset, .unset] [])) _
      refine st163 _ ?_
      refine XS.dup X163.here hx rfl (hb hby at_32) rfl rfl ?_
      refine XS.aload X163.here hx rfl (hb hby at_33) rfl rfl ?_
      refine XS.aload X163.here hx rfl (hb hby at_35) rfl rfl ?_
      show Steps p.tables e below (T163.setTop (mkF m 37 #[.val (.int ga), .val (.int gb), .val (.int gc), .val (.int gd), .val (.int cut), .val (.int sh), .val (.int (2 : Int32)), .val (.ref x141), .val (.ref b150), .unset, .unset] [(.ref b150), (.ref x141), (.ref b163), (.ref b163)])) _
      refine st172.trans ?_
      refine XS.astore X172.here hx rfl (hb hby at_40) rfl rfl (l' := #[.val (.int ga), .val (.int gb), .val (.int gc), .val (.int gd), .val (.int cut), .val (.int sh), .val (.int (2 : Int32)), .val (.ref x141), .val (.ref b150), .val (.ref b163), .unset]) rfl ?_
      refine XS.iconst X172.here hx rfl (hb hby at_42) ?_
      refine XS.iload X172.here hx rfl (hb hby at_43) rfl ?_
      refine XS.iload X172.here hx rfl (hb hby at_45) rfl ?_
      refine XS.iloadN X172.here hx rfl (hb hby at_47) rfl ?_
      show Steps p.tables e below (T172.setTop (mkF m 48 #[.val (.int ga), .val (.int gb), .val (.int gc), .val (.int gd), .val (.int cut), .val (.int sh), .val (.int (2 : Int32)), .val (.ref x141), .val (.ref b150), .val (.ref b163), .unset] [(.int ga), (.int cut), (.int (2 : Int32)), (.int (0 : Int32))])) _
      refine st181 _ ?_
      refine XS.iconst X181.here hx rfl (hb hby at_51) ?_
      refine XS.iload X181.here hx rfl (hb hby at_52) rfl ?_
      refine XS.iload X181.here hx rfl (hb hby at_54) rfl ?_
      refine XS.iloadN X181.here hx rfl (hb hby at_56) rfl ?_
      show Steps p.tables e below (T181.setTop (mkF m 57 #[.val (.int ga), .val (.int gb), .val (.int gc), .val (.int gd), .val (.int cut), .val (.int sh), .val (.int (2 : Int32)), .val (.ref x141), .val (.ref b150), .val (.ref b163), .unset] [(.int gb), (.int cut), (.int (2 : Int32)), (.int (1 : Int32)), (.int (own_t (0 : Int32) (2 : Int32) cut ga))])) _
      refine st185 _ ?_
      refine XS.iadd X185.here hx rfl (hb hby at_60) rfl ?_
      refine XS.iconst X185.here hx rfl (hb hby at_61) ?_
      refine XS.iload X185.here hx rfl (hb hby at_62) rfl ?_
      refine XS.iload X185.here hx rfl (hb hby at_64) rfl ?_
      refine XS.iloadN X185.here hx rfl (hb hby at_66) rfl ?_
      show Steps p.tables e below (T185.setTop (mkF m 67 #[.val (.int ga), .val (.int gb), .val (.int gc), .val (.int gd), .val (.int cut), .val (.int sh), .val (.int (2 : Int32)), .val (.ref x141), .val (.ref b150), .val (.ref b163), .unset] [(.int gc), (.int cut), (.int (2 : Int32)), (.int (2 : Int32)), (.int ((own_t (0 : Int32) (2 : Int32) cut ga) + (own_t (1 : Int32) (2 : Int32) cut gb)))])) _
      refine st189 _ ?_
      refine XS.iadd X189.here hx rfl (hb hby at_70) rfl ?_
      refine XS.iconst X189.here hx rfl (hb hby at_71) ?_
      refine XS.iload X189.here hx rfl (hb hby at_72) rfl ?_
      refine XS.iload X189.here hx rfl (hb hby at_74) rfl ?_
      refine XS.iloadN X189.here hx rfl (hb hby at_76) rfl ?_
      show Steps p.tables e below (T189.setTop (mkF m 77 #[.val (.int ga), .val (.int gb), .val (.int gc), .val (.int gd), .val (.int cut), .val (.int sh), .val (.int (2 : Int32)), .val (.ref x141), .val (.ref b150), .val (.ref b163), .unset] [(.int gd), (.int cut), (.int (2 : Int32)), (.int (3 : Int32)), (.int (((own_t (0 : Int32) (2 : Int32) cut ga) + (own_t (1 : Int32) (2 : Int32) cut gb)) + (own_t (2 : Int32) (2 : Int32) cut gc)))])) _
      refine st193 _ ?_
      refine XS.iadd X193.here hx rfl (hb hby at_80) rfl ?_
      refine XS.istore X193.here hx rfl (hb hby at_81) rfl (l' := #[.val (.int ga), .val (.int gb), .val (.int gc), .val (.int gd), .val (.int cut), .val (.int sh), .val (.int (2 : Int32)), .val (.ref x141), .val (.ref b150), .val (.ref b163), .val (.int ((((own_t (0 : Int32) (2 : Int32) cut ga) + (own_t (1 : Int32) (2 : Int32) cut gb)) + (own_t (2 : Int32) (2 : Int32) cut gc)) + (own_t (3 : Int32) (2 : Int32) cut gd)))]) rfl ?_
      refine XS.aload X193.here hx rfl (hb hby at_83) rfl rfl ?_
      refine XS.iload X193.here hx rfl (hb hby at_85) rfl ?_
      show Steps p.tables e below (T193.setTop (mkF m 87 #[.val (.int ga), .val (.int gb), .val (.int gc), .val (.int gd), .val (.int cut), .val (.int sh), .val (.int (2 : Int32)), .val (.ref x141), .val (.ref b150), .val (.ref b163), .val (.int ((((own_t (0 : Int32) (2 : Int32) cut ga) + (own_t (1 : Int32) (2 : Int32) cut gb)) + (own_t (2 : Int32) (2 : Int32) cut gc)) + (own_t (3 : Int32) (2 : Int32) cut gd)))] [(.int cut), (.ref b163)])) _
      refine st197.trans ?_
      refine XS.iload X197.here hx rfl (hb hby at_90) rfl ?_
      refine XS.icmpNo X197.here hx rfl (hb hby at_92) rfl (teq (q205 : ((own_t (0 : Int32) (2 : Int32) cut ga) + (own_t (1 : Int32) (2 : Int32) cut gb)) = ((((own_t (0 : Int32) (2 : Int32) cut ga) + (own_t (1 : Int32) (2 : Int32) cut gb)) + (own_t (2 : Int32) (2 : Int32) cut gc)) + (own_t (3 : Int32) (2 : Int32) cut gd)))).2 ?_
      refine XS.iconst X197.here hx rfl (hb hby at_95) ?_
      refine XS.goto X197.here hx rfl (pc0 := 96) (pc' := 100) rfl (hb hby at_96) (by decide) (by decide) ?_
      exact kt
    obtain ⟨fs, hr, hrun, hended, hW, hsame⟩ := X197.leave (v := some (.int (1 : Int32))) (fun h => by rw [Bd.returns] at h; cases h)
    refine ⟨_, _, pre0 _ (S206 _ ?_), hrun, hended, _, _, rfl, ?_, ⟨_, rfl⟩, hW, hsame.mono (by decide) (by decide)⟩
    · exact retN X197 hx (t := .boolean) Bd.returns (by simp) (hb hby at_100) hr
    · show Q_rm_law Z ga gb gc gd cut sh wD h0 n0 _ T197.heap _
      rw [k201]
      exact ⟨rfl, N202⟩
  · obtain ⟨_, _, ⟨T207, L207, k207, n207⟩, -, X207, ⟨Lc207, hQ207, l207, y207, z207⟩, st207⟩ := Jvm.LawKit.callS X0 hx (y := (⟨"com/example/favonius/favonius/eval/TopicRankingRelevantInTopPinLaw", "make", "(IIIII)[I"⟩ : MethodName)) hown (mvT hZ (own_w hw 1 rfl)) (mvT hZ (own_w hw 2 rfl)) (mvT hZ (own_w hw 3 rfl)) (mvT hZ (own_w hw 4 rfl)) (by decide) (backOf (W := 0) (rm_make3 l Z a0 hw [] ga gb gc gd h0 n0 O0 ) hZ (own_w hw 4 rfl) (own_w hw 3 rfl) (by decide) (by decide)) (g := (mkF m 15 #[.val (.int ga), .val (.int gb), .val (.int gc), .val (.int gd), .val (.int cut), .val (.int sh), .val (.int (3 : Int32)), .unset, .unset, .unset, .unset] [(.int gd), (.int gc), (.int gb), (.int ga), (.int (3 : Int32))])) rfl (by rw [hml]; rfl) (argsL := [(.int (3 : Int32)), (.int ga), (.int gb), (.int gc), (.int gd)]) (rest := []) (lenOf pd_11 rfl) rfl (by show 2 * 0 + _ ≤ _; exact Nat.le_of_eq rfl) (hb hby at_15) (fun _ _ => ⟨rfl, e0, (by decide : 0 + 1 ≤ _), (by decide : 0 + 3 ≤ _)⟩)
    dsimp only [Pt.U, Pt.locs, Pt.cells, Pt.slots] at X207 l207 y207 z207 st207 hQ207
    subst l207 y207 z207
    obtain ⟨x208, x209, rfl, N210, k211, f212, f213⟩ := hQ207
    have N214 := Fr.app N0 N210
    have ge215 : n0 ≤ x208 := by rw [← O0.1]; exact Nat.le_trans O0.2.1 f212
    have O216 := O0.keep k211 all0
    obtain ⟨T217, h217, X217, e217, E217, A217, D217, -, st217⟩ := newO X207 hx hZ hown (own_w hw 6 rfl) (own_w hw 7 rfl) (own_w hw 8 rfl) rfl (g := (mkF m 20 #[.val (.int ga), .val (.int gb), .val (.int gc), .val (.int gd), .val (.int cut), .val (.int sh), .val (.int (3 : Int32)), .val (.ref x208), .unset, .unset, .unset] [])) rfl (hb hby at_20) (by decide) (by decide)
    obtain ⟨b217, g217⟩ : ∃ z, z = T207.heap.size := ⟨_, rfl⟩
    have ge_b217 : n0 ≤ b217 := by rw [g217, ← O216.1]; exact O216.2.1
    have ne218 : x208 ≠ b217 := Nat.ne_of_lt (Nat.lt_of_lt_of_le (Arv.lt f213) (Nat.le_of_eq g217.symm))
    rw [← g217] at A217 D217 st217
    have O219 := O216.ext E217
    have F220 : Fld Z h217 b217 "java/util/AbstractList" "modCount" "I" (.int (0 : Int32)) := D217 (Or.inl (own_w hw 28 rfl)) (ty := .int) (by decide)
    have F221 : Fld Z h217 b217 "java/util/ArrayList" "elementData" "[Ljava/lang/Object;" .null := D217 (Or.inl (own_w hw 31 rfl)) (ty := (.array (.object "java/lang/Object"))) (by decide)
    have F222 : Fld Z h217 b217 "java/util/ArrayList" "size" "I" (.int (0 : Int32)) := D217 (Or.inl (own_w hw 49 rfl)) (ty := .int) (by decide)
    obtain ⟨_, _, ⟨T223, L223, k223, n223⟩, -, X223, ⟨Lc223, hQ223, l223, y223, z223⟩, st223⟩ := X217.specialBack hx (y := (⟨"java/util/ArrayList", "<init>", "()V"⟩ : MethodName)) rfl hown (mvT hZ (own_w hw 9 rfl)) (mvT hZ (own_w hw 10 rfl)) (mvT hZ (own_w hw 11 rfl)) (by decide) (backOf (W := 1) (rm_alinit l Z a0 hw [] b217 wD h217 n0 O219 A217 ge_b217 F220 F221 F222 S_D) hZ (own_w hw 11 rfl) (own_w hw 8 rfl) (by decide) (by decide)) (g := (mkF m 24 #[.val (.int ga), .val (.int gb), .val (.int gc), .val (.int gd), .val (.int cut), .val (.int sh), .val (.int (3 : Int32)), .val (.ref x208), .unset, .unset, .unset] [(.ref b217), (.ref b217)])) rfl (by rw [hml]; rfl) (Steps.refl _) (a := b217) (argsL := []) (rest := [(.ref b217)]) (lenOf pd_0 rfl) rfl (by show 2 * 0 + _ ≤ _; exact Nat.le_of_eq rfl) (hb hby at_24) (fun _ _ => ⟨rfl, e217, (by decide : 2 + 0 ≤ _), (by decide : 6 + 0 ≤ _)⟩)
    dsimp only [Pt.U, Pt.locs, Pt.cells, Pt.slots] at X223 l223 y223 z223 st223 hQ223
    subst l223 y223 z223
    obtain ⟨rfl, N224, k225, f226, f227⟩ := hQ223
    have N228 := Fr.app N214 N224
    have O229 := O219.keep k225 (allS ge_b217 all0)
    obtain ⟨T230, h230, X230, e230, E230, A230, D230, -, st230⟩ := newO X223 hx hZ hown (own_w hw 32 rfl) (own_w hw 33 rfl) (own_w hw 34 rfl) rfl (g := (mkF m 29 #[.val (.int ga), .val (.int gb), .val (.int gc), .val (.int gd), .val (.int cut), .val (.int sh), .val (.int (3 : Int32)), .val (.ref x208), .val (.ref b217), .unset, .unset] [])) rfl (hb hby at_29) (by decide) (by decide)
    obtain ⟨b230, g230⟩ : ∃ z, z = T223.heap.size := ⟨_, rfl⟩
    have ge_b230 : n0 ≤ b230 := by rw [g230, ← O229.1]; exact O229.2.1
    have f231 := (Arv.keep (Arv.ext f213 E217) k225 (ninS ne218 nin0))
    have ne232 : x208 ≠ b230 := Nat.ne_of_lt (Nat.lt_of_lt_of_le (Arv.lt f231) (Nat.le_of_eq g230.symm))
    have f233 := (Exa.keep A217 k225)
    have ne234 : b217 ≠ b230 := Nat.ne_of_lt (Nat.lt_of_lt_of_le (Exa.lt f233) (Nat.le_of_eq g230.symm))
    rw [← g230] at A230 D230 st230
    have O235 := O229.ext E230
    have F236 : Fld Z h230 b230 "com/example/favonius/favonius/eval/TopicRanking" "retrieved" "[I" .null := D230 (Or.inr (own_w hw 101 rfl)) (ty := (.array .int)) (by decide)
    have F237 : Fld Z h230 b230 "com/example/favonius/favonius/eval/TopicRanking" "ideal" "[I" .null := D230 (Or.inr (own_w hw 103 rfl)) (ty := (.array .int)) (by decide)
    have F238 : Fld Z h230 b230 "com/example/favonius/favonius/eval/TopicRanking" "relevant" "I" (.int (0 : Int32)) := D230 (Or.inr (own_w hw 105 rfl)) (ty := .int) (by decide)
    have f240 := (Exa.ext E230 f233)
    have f241 := (Fld.ext E230 f227)
    have f242 := (Fld.ext E230 f226)
    obtain ⟨_, _, ⟨T239, L239, k239, n239⟩, -, X239, ⟨Lc239, hQ239, l239, y239, z239⟩, st239⟩ := X230.specialBack hx (y := (⟨"com/example/favonius/favonius/eval/TopicRanking", "<init>", "([ILjava/util/Collection;)V"⟩ : MethodName)) rfl hown (mvT hZ (own_w hw 35 rfl)) (mvT hZ (own_w hw 36 rfl)) (mvT hZ (own_w hw 37 rfl)) (by decide) (backOf (W := 1) (rm_trinit l Z a0 hw [] b230 x208 b217 h230 n0 O235 A230 ge_b230 f240 f241 f242 ne234 F236 F237 F238) hZ (own_w hw 37 rfl) (own_w hw 34 rfl) (by decide) (by decide)) (g := (mkF m 37 #[.val (.int ga), .val (.int gb), .val (.int gc), .val (.int gd), .val (.int cut), .val (.int sh), .val (.int (3 : Int32)), .val (.ref x208), .val (.ref b217), .unset, .unset] [(.ref b217), (.ref x208), (.ref b230), (.ref b230)])) rfl (by rw [hml]; rfl) (Steps.refl _) (a := b230) (argsL := [(.ref x208), (.ref b217)]) (rest := [(.ref b230)]) (lenOf pd_12 rfl) rfl (by show 2 * 0 + _ ≤ _; exact Nat.le_of_eq rfl) (hb hby at_37) (fun _ _ => ⟨rfl, e230, (by decide : 3 + 3 ≤ _), (by decide : 9 + 4 ≤ _)⟩)
    dsimp only [Pt.U, Pt.locs, Pt.cells, Pt.slots] at X239 l239 y239 z239 st239 hQ239
    subst l239 y239 z239
    obtain ⟨rfl, N243, k244, f245⟩ := hQ239
    have N246 := Fr.app N228 N243
    have O247 := O235.keep k244 (allS ge_b230 all0)
    obtain ⟨_, _, ⟨T248, L248, k248, n248⟩, -, X248, ⟨Lc248, hQ248, l248, y248, z248⟩, st248⟩ := Jvm.LawKit.callS X239 hx (y := (⟨"com/example/favonius/favonius/eval/TopicRankingRelevantInTopPinLaw", "term", "(IIII)I"⟩ : MethodName)) hown (mvT hZ (own_w hw 106 rfl)) (mvT hZ (own_w hw 107 rfl)) (mvT hZ (own_w hw 3 rfl)) (mvT hZ (own_w hw 108 rfl)) (by decide) (backOf (W := 0) (rm_term l Z a0 hw [] (0 : Int32) (3 : Int32) cut ga T239.heap n0 O247 ) hZ (own_w hw 108 rfl) (own_w hw 3 rfl) (by decide) (by decide)) (g := (mkF m 48 #[.val (.int ga), .val (.int gb), .val (.int gc), .val (.int gd), .val (.int cut), .val (.int sh), .val (.int (3 : Int32)), .val (.ref x208), .val (.ref b217), .val (.ref b230), .unset] [(.int ga), (.int cut), (.int (3 : Int32)), (.int (0 : Int32))])) rfl (by rw [hml]; rfl) (argsL := [(.int (0 : Int32)), (.int (3 : Int32)), (.int cut), (.int ga)]) (rest := []) (lenOf pd_13 rfl) rfl (by show 2 * 0 + _ ≤ _; exact Nat.le_of_eq rfl) (hb hby at_48) (fun _ _ => ⟨rfl, rfl, (by decide : 6 + 0 ≤ _), (by decide : 13 + 0 ≤ _)⟩)
    dsimp only [Pt.U, Pt.locs, Pt.cells, Pt.slots] at X248 l248 y248 z248 st248 hQ248
    subst l248 y248 z248
    obtain ⟨rfl, N249, k250⟩ := hQ248
    have N251 := Fr.app N246 N249
    obtain ⟨_, _, ⟨T252, L252, k252, n252⟩, -, X252, ⟨Lc252, hQ252, l252, y252, z252⟩, st252⟩ := Jvm.LawKit.callS X248 hx (y := (⟨"com/example/favonius/favonius/eval/TopicRankingRelevantInTopPinLaw", "term", "(IIII)I"⟩ : MethodName)) hown (mvT hZ (own_w hw 106 rfl)) (mvT hZ (own_w hw 107 rfl)) (mvT hZ (own_w hw 3 rfl)) (mvT hZ (own_w hw 108 rfl)) (by decide) (backOf (W := 1) (rm_term l Z a0 hw [] (1 : Int32) (3 : Int32) cut gb T239.heap n0 O247 ) hZ (own_w hw 108 rfl) (own_w hw 3 rfl) (by decide) (by decide)) (g := (mkF m 57 #[.val (.int ga), .val (.int gb), .val (.int gc), .val (.int gd), .val (.int cut), .val (.int sh), .val (.int (3 : Int32)), .val (.ref x208), .val (.ref b217), .val (.ref b230), .unset] [(.int gb), (.int cut), (.int (3 : Int32)), (.int (1 : Int32)), (.int (own_t (0 : Int32) (3 : Int32) cut ga))])) rfl (by rw [hml]; rfl) (argsL := [(.int (1 : Int32)), (.int (3 : Int32)), (.int cut), (.int gb)]) (rest := [(.int (own_t (0 : Int32) (3 : Int32) cut ga))]) (lenOf pd_13 rfl) rfl (by show 2 * 0 + _ ≤ _; exact Nat.le_of_eq rfl) (hb hby at_57) (fun _ _ => ⟨rfl, k250, (by decide : 6 + 0 ≤ _), (by decide : 13 + 0 ≤ _)⟩)
    dsimp only [Pt.U, Pt.locs, Pt.cells, Pt.slots] at X252 l252 y252 z252 st252 hQ252
    subst l252 y252 z252
    obtain ⟨rfl, N253, k254⟩ := hQ252
    have N255 := Fr.app N251 N253
    obtain ⟨_, _, ⟨T256, L256, k256, n256⟩, -, X256, ⟨Lc256, hQ256, l256, y256, z256⟩, st256⟩ := Jvm.LawKit.callS X252 hx (y := (⟨"com/example/favonius/favonius/eval/TopicRankingRelevantInTopPinLaw", "term", "(IIII)I"⟩ : MethodName)) hown (mvT hZ (own_w hw 106 rfl)) (mvT hZ (own_w hw 107 rfl)) (mvT hZ (own_w hw 3 rfl)) (mvT hZ (own_w hw 108 rfl)) (by decide) (backOf (W := 1) (rm_term l Z a0 hw [] (2 : Int32) (3 : Int32) cut gc T239.heap n0 O247 ) hZ (own_w hw 108 rfl) (own_w hw 3 rfl) (by decide) (by decide)) (g := (mkF m 67 #[.val (.int ga), .val (.int gb), .val (.int gc), .val (.int gd), .val (.int cut), .val (.int sh), .val (.int (3 : Int32)), .val (.ref x208), .val (.ref b217), .val (.ref b230), .unset] [(.int gc), (.int cut), (.int (3 : Int32)), (.int (2 : Int32)), (.int ((own_t (0 : Int32) (3 : Int32) cut ga) + (own_t (1 : Int32) (3 : Int32) cut gb)))])) rfl (by rw [hml]; rfl) (argsL := [(.int (2 : Int32)), (.int (3 : Int32)), (.int cut), (.int gc)]) (rest := [(.int ((own_t (0 : Int32) (3 : Int32) cut ga) + (own_t (1 : Int32) (3 : Int32) cut gb)))]) (lenOf pd_13 rfl) rfl (by show 2 * 0 + _ ≤ _; exact Nat.le_of_eq rfl) (hb hby at_67) (fun _ _ => ⟨rfl, k254, (by decide : 6 + 0 ≤ _), (by decide : 13 + 0 ≤ _)⟩)
    dsimp only [Pt.U, Pt.locs, Pt.cells, Pt.slots] at X256 l256 y256 z256 st256 hQ256
    subst l256 y256 z256
    obtain ⟨rfl, N257, k258⟩ := hQ256
    have N259 := Fr.app N255 N257
    obtain ⟨_, _, ⟨T260, L260, k260, n260⟩, -, X260, ⟨Lc260, hQ260, l260, y260, z260⟩, st260⟩ := Jvm.LawKit.callS X256 hx (y := (⟨"com/example/favonius/favonius/eval/TopicRankingRelevantInTopPinLaw", "term", "(IIII)I"⟩ : MethodName)) hown (mvT hZ (own_w hw 106 rfl)) (mvT hZ (own_w hw 107 rfl)) (mvT hZ (own_w hw 3 rfl)) (mvT hZ (own_w hw 108 rfl)) (by decide) (backOf (W := 1) (rm_term l Z a0 hw [] (3 : Int32) (3 : Int32) cut gd T239.heap n0 O247 ) hZ (own_w hw 108 rfl) (own_w hw 3 rfl) (by decide) (by decide)) (g := (mkF m 77 #[.val (.int ga), .val (.int gb), .val (.int gc), .val (.int gd), .val (.int cut), .val (.int sh), .val (.int (3 : Int32)), .val (.ref x208), .val (.ref b217), .val (.ref b230), .unset] [(.int gd), (.int cut), (.int (3 : Int32)), (.int (3 : Int32)), (.int (((own_t (0 : Int32) (3 : Int32) cut ga) + (own_t (1 : Int32) (3 : Int32) cut gb)) + (own_t (2 : Int32) (3 : Int32) cut gc)))])) rfl (by rw [hml]; rfl) (argsL := [(.int (3 : Int32)), (.int (3 : Int32)), (.int cut), (.int gd)]) (rest := [(.int (((own_t (0 : Int32) (3 : Int32) cut ga) + (own_t (1 : Int32) (3 : Int32) cut gb)) + (own_t (2 : Int32) (3 : Int32) cut gc)))]) (lenOf pd_13 rfl) rfl (by show 2 * 0 + _ ≤ _; exact Nat.le_of_eq rfl) (hb hby at_77) (fun _ _ => ⟨rfl, k258, (by decide : 6 + 0 ≤ _), (by decide : 13 + 0 ≤ _)⟩)
    dsimp only [Pt.U, Pt.locs, Pt.cells, Pt.slots] at X260 l260 y260 z260 st260 hQ260
    subst l260 y260 z260
    obtain ⟨rfl, N261, k262⟩ := hQ260
    have N263 := Fr.app N259 N261
    have f265 := (Exa.keep A230 k244)
    have f266 := (Arv.keep (Arv.ext f231 E230) k244 (ninS ne232 nin0))
    obtain ⟨cq264, kq264, q264a, q264b, q264c⟩ := isOf hZ k262 f265
    obtain ⟨_, _, ⟨T264, L264, k264, n264⟩, -, X264, ⟨Lc264, hQ264, l264, y264, z264⟩, st264⟩ := X260.virtualBack hx (y := (⟨"com/example/favonius/favonius/eval/TopicRanking", "relevantInTop", "(I)I"⟩ : MethodName)) (z := (⟨"com/example/favonius/favonius/eval/TopicRanking", "relevantInTop", "(I)I"⟩ : MethodName)) hown (mvT hZ (own_w hw 109 rfl)) (mvT hZ (own_w hw 110 rfl)) (notFace_of_selects (args := #[]) (mvT hZ (own_w hw 112 rfl))) (mvT hZ (own_w hw 112 rfl)) (mvT hZ (own_w hw 111 rfl)) (by decide) (backOf (W := 0) (rm_top3 l Z a0 hw [] b230 cut x208 x209 ga gb gc T239.heap n0 O247 f265 f245 f266) hZ (own_w hw 113 rfl) (own_w hw 34 rfl) (by decide) (by decide)) q264a q264c (g := (mkF m 87 #[.val (.int ga), .val (.int gb), .val (.int gc), .val (.int gd), .val (.int cut), .val (.int sh), .val (.int (3 : Int32)), .val (.ref x208), .val (.ref b217), .val (.ref b230), .val (.int ((((own_t (0 : Int32) (3 : Int32) cut ga) + (own_t (1 : Int32) (3 : Int32) cut gb)) + (own_t (2 : Int32) (3 : Int32) cut gc)) + (own_t (3 : Int32) (3 : Int32) cut gd)))] [(.int cut), (.ref b230)])) rfl (by rw [hml]; rfl) (Steps.refl _) (argsL := [(.int cut)]) (rest := []) (lenOf pd_10 rfl) rfl (by show 2 * 0 + _ ≤ _; exact Nat.le_of_eq rfl) (hb hby at_87) (fun _ _ => ⟨rfl, k262, (by decide : 6 + 0 ≤ _), (by decide : 13 + 0 ≤ _)⟩)
    dsimp only [Pt.U, Pt.locs, Pt.cells, Pt.slots] at X264 l264 y264 z264 st264 hQ264
    subst l264 y264 z264
    obtain ⟨rfl, N267, k268⟩ := hQ264
    have N269 := Fr.app N263 N267
    have u270 : own_t (3 : Int32) (3 : Int32) cut gd = (0 : Int32) := own_t0a (by decide)
    have q271 : (((own_t (0 : Int32) (3 : Int32) cut ga) + (own_t (1 : Int32) (3 : Int32) cut gb)) + (own_t (2 : Int32) (3 : Int32) cut gc)) = ((((own_t (0 : Int32) (3 : Int32) cut ga) + (own_t (1 : Int32) (3 : Int32) cut gb)) + (own_t (2 : Int32) (3 : Int32) cut gc)) + (own_t (3 : Int32) (3 : Int32) cut gd)) := by rw [u270]; simp only [Int32.add_zero]
    have S272 : ∀ t, Steps p.tables e below (T264.setTop (mkF m 100 #[.val (.int ga), .val (.int gb), .val (.int gc), .val (.int gd), .val (.int cut), .val (.int sh), .val (.int (3 : Int32)), .val (.ref x208), .val (.ref b217), .val (.ref b230), .val (.int ((((own_t (0 : Int32) (3 : Int32) cut ga) + (own_t (1 : Int32) (3 : Int32) cut gb)) + (own_t (2 : Int32) (3 : Int32) cut gc)) + (own_t (3 : Int32) (3 : Int32) cut gd)))] [(.int (1 : Int32))])) t → Steps p.tables e below (s₁.setTop (mkF m 0 #[.val (.int ga), .val (.int gb), .val (.int gc), .val (.int gd), .val (.int cut), .val (.int sh), .unset, .unset, .unset, .unset, .unset] [])) t := by
      intro t kt
      refine S2 t ?_
      refine XS.istore X0.here hx rfl (hb hby at_7) rfl (l' := #[.val (.int ga), .val (.int gb), .val (.int gc), .val (.int gd), .val (.int cut), .val (.int sh), .val (.int (3 : Int32)), .unset, .unset, .unset, .unset]) rfl ?_
      refine XS.iload X0.here hx rfl (hb hby at_9) rfl ?_
      refine XS.iloadN X0.here hx rfl (hb hby at_11) rfl ?_
      refine XS.iloadN X0.here hx rfl (hb hby at_12) rfl ?_
      refine XS.iloadN X0.here hx rfl (hb hby at_13) rfl ?_
      refine XS.iloadN X0.here hx rfl (hb hby at_14) rfl ?_
      show Steps p.tables e below (s₁.setTop (mkF m 15 #[.val (.int ga), .val (.int gb), .val (.int gc), .val (.int gd), .val (.int cut), .val (.int sh), .val (.int (3 : Int32)), .unset, .unset, .unset, .unset] [(.int gd), (.int gc), (.int gb), (.int ga), (.int (3 : Int32))])) _
      refine st207 _ ?_
      refine XS.astore X207.here hx rfl (hb hby at_18) rfl rfl (l' := #[.val (.int ga), .val (.int gb), .val (.int gc), .val (.int gd), .val (.int cut), .val (.int sh), .val (.int (3 : Int32)), .val (.ref x208), .unset, .unset, .unset]) rfl ?_
      show Steps p.tables e below (T207.setTop (mkF m 20 #[.val (.int ga), .val (.int gb), .val (.int gc), .val (.int gd), .val (.int cut), .val (.int sh), .val (.int (3 : Int32)), .val (.ref x208), .unset, .unset, .unset] [])) _
      refine st217 _ ?_
      refine XS.dup X217.here hx rfl (hb hby at_23) rfl rfl ?_
      show Steps p.tables e below (T217.setTop (mkF m 24 #[.val (.int ga), .val (.int gb), .val (.int gc), .val (.int gd), .val (.int cut), .val (.int sh), .val (.int (3 : Int32)), .val (.ref x208), .unset, .unset, .unset] [(.ref b217), (.ref b217)])) _
      refine st223.trans ?_
      refine XS.astore X223.here hx rfl (hb hby at_27) rfl rfl (l' := #[.val (.int ga), .val (.int gb), .val (.int gc), .val (.int gd), .val (.int cut), .val (.int sh), .val (.int (3 : Int32)), .val (.ref x208), .val (.ref b217), .unset, .unset]) rfl ?_
      show Steps p.tables e below (T223.setTop (mkF m 29 #[.val (.int ga), .val (.int gb), .val (.int gc), .val (.int gd), .val (.int cut), .val (.int sh), .val (.int (3 : Int32)), .val (.ref x208), .val (.ref b217), .unset, .unset] [])) _
      refine st230 _ ?_
      refine XS.dup X230.here hx rfl (hb hby at_32) rfl rfl ?_
      refine XS.aload X230.here hx rfl (hb hby at_33) rfl rfl ?_
      refine XS.aload X230.here hx rfl (hb hby at_35) rfl rfl ?_
      show Steps p.tables e below (T230.setTop (mkF m 37 #[.val (.int ga), .val (.int gb), .val (.int gc), .val (.int gd), .val (.int cut), .val (.int sh), .val (.int (3 : Int32)), .val (.ref x208), .val (.ref b217), .unset, .unset] [(.ref b217), (.ref x208), (.ref b230), (.ref b230)])) _
      refine st239.trans ?_
      refine XS.astore X239.here hx rfl (hb hby at_40) rfl rfl (l' := #[.val (.int ga), .val (.int gb), .val (.int gc), .val (.int gd), .val (.int cut), .val (.int sh), .val (.int (3 : Int32)), .val (.ref x208), .val (.ref b217), .val (.ref b230), .unset]) rfl ?_
      refine XS.iconst X239.here hx rfl (hb hby at_42) ?_
      refine XS.iload X239.here hx rfl (hb hby at_43) rfl ?_
      refine XS.iload X239.here hx rfl (hb hby at_45) rfl ?_
      refine XS.iloadN X239.here hx rfl (hb hby at_47) rfl ?_
      show Steps p.tables e below (T239.setTop (mkF m 48 #[.val (.int ga), .val (.int gb), .val (.int gc), .val (.int gd), .val (.int cut), .val (.int sh), .val (.int (3 : Int32)), .val (.ref x208), .val (.ref b217), .val (.ref b230), .unset] [(.int ga), (.int cut), (.int (3 : Int32)), (.int (0 : Int32))])) _
      refine st248 _ ?_
      refine XS.iconst X248.here hx rfl (hb hby at_51) ?_
      refine XS.iload X248.here hx rfl (hb hby at_52) rfl ?_
      refine XS.iload X248.here hx rfl (hb hby at_54) rfl ?_
      refine XS.iloadN X248.here hx rfl (hb hby at_56) rfl ?_
      show Steps p.tables e below (T248.setTop (mkF m 57 #[.val (.int ga), .val (.int gb), .val (.int gc), .val (.int gd), .val (.int cut), .val (.int sh), .val (.int (3 : Int32)), .val (.ref x208), .val (.ref b217), .val (.ref b230), .unset] [(.int gb), (.int cut), (.int (3 : Int32)), (.int (1 : Int32)), (.int (own_t (0 : Int32) (3 : Int32) cut ga))])) _
      refine st252 _ ?_
      refine XS.iadd X252.here hx rfl (hb hby at_60) rfl ?_
      refine XS.iconst X252.here hx rfl (hb hby at_61) ?_
      refine XS.iload X252.here hx rfl (hb hby at_62) rfl ?_
      refine XS.iload X252.here hx rfl (hb hby at_64) rfl ?_
      refine XS.iloadN X252.here hx rfl (hb hby at_66) rfl ?_
      show Steps p.tables e below (T252.setTop (mkF m 67 #[.val (.int ga), .val (.int gb), .val (.int gc), .val (.int gd), .val (.int cut), .val (.int sh), .val (.int (3 : Int32)), .val (.ref x208), .val (.ref b217), .val (.ref b230), .unset] [(.int gc), (.int cut), (.int (3 : Int32)), (.int (2 : Int32)), (.int ((own_t (0 : Int32) (3 : Int32) cut ga) + (own_t (1 : Int32) (3 : Int32) cut gb)))])) _
      refine st256 _ ?_
      refine XS.iadd X256.here hx rfl (hb hby at_70) rfl ?_
      refine XS.iconst X256.here hx rfl (hb hby at_71) ?_
      refine XS.iload X256.here hx rfl (hb hby at_72) rfl ?_
      refine XS.iload X256.here hx rfl (hb hby at_74) rfl ?_
      refine XS.iloadN X256.here hx rfl (hb hby at_76) rfl ?_
      show Steps p.tables e below (T256.setTop (mkF m 77 #[.val (.int ga), .val (.int gb), .val (.int gc), .val (.int gd), .val (.int cut), .val (.int sh), .val (.int (3 : Int32)), .val (.ref x208), .val (.ref b217), .val (.ref b230), .unset] [(.int gd), (.int cut), (.int (3 : Int32)), (.int (3 : Int32)), (.int (((own_t (0 : Int32) (3 : Int32) cut ga) + (own_t (1 : Int32) (3 : Int32) cut gb)) + (own_t (2 : Int32) (3 : Int32) cut gc)))])) _
      refine st260 _ ?_
      refine XS.iadd X260.here hx rfl (hb hby at_80) rfl ?_
      refine XS.istore X260.here hx rfl (hb hby at_81) rfl (l' := #[.val (.int ga), .val (.int gb), .val (.int gc), .val (.int gd), .val (.int cut), .val (.int sh), .val (.int (3 : Int32)), .val (.ref x208), .val (.ref b217), .val (.ref b230), .val (.int ((((own_t (0 : Int32) (3 : Int32) cut ga) + (own_t (1 : Int32) (3 : Int32) cut gb)) + (own_t (2 : Int32) (3 : Int32) cut gc)) + (own_t (3 : Int32) (3 : Int32) cut gd)))]) rfl ?_
      refine XS.aload X260.here hx rfl (hb hby at_83) rfl rfl ?_
      refine XS.iload X260.here hx rfl (hb hby at_85) rfl ?_
      show Steps p.tables e below (T260.setTop (mkF m 87 #[.val (.int ga), .val (.int gb), .val (.int gc), .val (.int gd), .val (.int cut), .val (.int sh), .val (.int (3 : Int32)), .val (.ref x208), .val (.ref b217), .val (.ref b230), .val (.int ((((own_t (0 : Int32) (3 : Int32) cut ga) + (own_t (1 : Int32) (3 : Int32) cut gb)) + (own_t (2 : Int32) (3 : Int32) cut gc)) + (own_t (3 : Int32) (3 : Int32) cut gd)))] [(.int cut), (.ref b230)])) _
      refine st264.trans ?_
      refine XS.iload X264.here hx rfl (hb hby at_90) rfl ?_
      refine XS.icmpNo X264.here hx rfl (hb hby at_92) rfl (teq (q271 : (((own_t (0 : Int32) (3 : Int32) cut ga) + (own_t (1 : Int32) (3 : Int32) cut gb)) + (own_t (2 : Int32) (3 : Int32) cut gc)) = ((((own_t (0 : Int32) (3 : Int32) cut ga) + (own_t (1 : Int32) (3 : Int32) cut gb)) + (own_t (2 : Int32) (3 : Int32) cut gc)) + (own_t (3 : Int32) (3 : Int32) cut gd)))).2 ?_
      refine XS.iconst X264.here hx rfl (hb hby at_95) ?_
      refine XS.goto X264.here hx rfl (pc0 := 96) (pc' := 100) rfl (hb hby at_96) (by decide) (by decide) ?_
      exact kt
    obtain ⟨fs, hr, hrun, hended, hW, hsame⟩ := X264.leave (v := some (.int (1 : Int32))) (fun h => by rw [Bd.returns] at h; cases h)
    refine ⟨_, _, pre0 _ (S272 _ ?_), hrun, hended, _, _, rfl, ?_, ⟨_, rfl⟩, hW, hsame.mono (by decide) (by decide)⟩
    · exact retN X264 hx (t := .boolean) Bd.returns (by simp) (hb hby at_100) hr
    · show Q_rm_law Z ga gb gc gd cut sh wD h0 n0 _ T264.heap _
      rw [k268]
      exact ⟨rfl, N269⟩
  · obtain ⟨_, _, ⟨T273, L273, k273, n273⟩, -, X273, ⟨Lc273, hQ273, l273, y273, z273⟩, st273⟩ := Jvm.LawKit.callS X0 hx (y := (⟨"com/example/favonius/favonius/eval/TopicRankingRelevantInTopPinLaw", "make", "(IIIII)[I"⟩ : MethodName)) hown (mvT hZ (own_w hw 1 rfl)) (mvT hZ (own_w hw 2 rfl)) (mvT hZ (own_w hw 3 rfl)) (mvT hZ (own_w hw 4 rfl)) (by decide) (backOf (W := 0) (rm_make4 l Z a0 hw [] ga gb gc gd h0 n0 O0 ) hZ (own_w hw 4 rfl) (own_w hw 3 rfl) (by decide) (by decide)) (g := (mkF m 15 #[.val (.int ga), .val (.int gb), .val (.int gc), .val (.int gd), .val (.int cut), .val (.int sh), .val (.int (4 : Int32)), .unset, .unset, .unset, .unset] [(.int gd), (.int gc), (.int gb), (.int ga), (.int (4 : Int32))])) rfl (by rw [hml]; rfl) (argsL := [(.int (4 : Int32)), (.int ga), (.int gb), (.int gc), (.int gd)]) (rest := []) (lenOf pd_11 rfl) rfl (by show 2 * 0 + _ ≤ _; exact Nat.le_of_eq rfl) (hb hby at_15) (fun _ _ => ⟨rfl, e0, (by decide : 0 + 1 ≤ _), (by decide : 0 + 4 ≤ _)⟩)
    dsimp only [Pt.U, Pt.locs, Pt.cells, Pt.slots] at X273 l273 y273 z273 st273 hQ273
    subst l273 y273 z273
    obtain ⟨x274, x275, rfl, N276, k277, f278, f279⟩ := hQ273
    have N280 := Fr.app N0 N276
    have ge281 : n0 ≤ x274 := by rw [← O0.1]; exact Nat.le_trans O0.2.1 f278
    have O282 := O0.keep k277 all0
    obtain ⟨T283, h283, X283, e283, E283, A283, D283, -, st283⟩ := newO X273 hx hZ hown (own_w hw 6 rfl) (own_w hw 7 rfl) (own_w hw 8 rfl) rfl (g := (mkF m 20 #[.val (.int ga), .val (.int gb), .val (.int gc), .val (.int gd), .val (.int cut), .val (.int sh), .val (.int (4 : Int32)), .val (.ref x274), .unset, .unset, .unset] [])) rfl (hb hby at_20) (by decide) (by decide)
    obtain ⟨b283, g283⟩ : ∃ z, z = T273.heap.size := ⟨_, rfl⟩
    have ge_b283 : n0 ≤ b283 := by rw [g283, ← O282.1]; exact O282.2.1
    have ne284 : x274 ≠ b283 := Nat.ne_of_lt (Nat.lt_of_lt_of_le (Arv.lt f279) (Nat.le_of_eq g283.symm))
    rw [← g283] at A283 D283 st283
    have O285 := O282.ext E283
    have F286 : Fld Z h283 b283 "java/util/AbstractList" "modCount" "I" (.int (0 : Int32)) := D283 (Or.inl (own_w hw 28 rfl)) (ty := .int) (by decide)
    have F287 : Fld Z h283 b283 "java/util/ArrayList" "elementData" "[Ljava/lang/Object;" .null := D283 (Or.inl (own_w hw 31 rfl)) (ty := (.array (.object "java/lang/Object"))) (by decide)
    have F288 : Fld Z h283 b283 "java/util/ArrayList" "size" "I" (.int (0 : Int32)) := D283 (Or.inl (own_w hw 49 rfl)) (ty := .int) (by decide)
    obtain ⟨_, _, ⟨T289, L289, k289, n289⟩, -, X289, ⟨Lc289, hQ289, l289, y289, z289⟩, st289⟩ := X283.specialBack hx (y := (⟨"java/util/ArrayList", "<init>", "()V"⟩ : MethodName)) rfl hown (mvT hZ (own_w hw 9 rfl)) (mvT hZ (own_w hw 10 rfl)) (mvT hZ (own_w hw 11 rfl)) (by decide) (backOf (W := 1) (rm_alinit l Z a0 hw [] b283 wD h283 n0 O285 A283 ge_b283 F286 F287 F288 S_D) hZ (own_w hw 11 rfl) (own_w hw 8 rfl) (by decide) (by decide)) (g := (mkF m 24 #[.val (.int ga), .val (.int gb), .val (.int gc), .val (.int gd), .val (.int cut), .val (.int sh), .val (.int (4 : Int32)), .val (.ref x274), .unset, .unset, .unset] [(.ref b283), (.ref b283)])) rfl (by rw [hml]; rfl) (Steps.refl _) (a := b283) (argsL := []) (rest := [(.ref b283)]) (lenOf pd_0 rfl) rfl (by show 2 * 0 + _ ≤ _; exact Nat.le_of_eq rfl) (hb hby at_24) (fun _ _ => ⟨rfl, e283, (by decide : 2 + 0 ≤ _), (by decide : 7 + 0 ≤ _)⟩)
    dsimp only [Pt.U, Pt.locs, Pt.cells, Pt.slots] at X289 l289 y289 z289 st289 hQ289
    subst l289 y289 z289
    obtain ⟨rfl, N290, k291, f292, f293⟩ := hQ289
    have N294 := Fr.app N280 N290
    have O295 := O285.keep k291 (allS ge_b283 all0)
    obtain ⟨T296, h296, X296, e296, E296, A296, D296, -, st296⟩ := newO X289 hx hZ hown (own_w hw 32 rfl) (own_w hw 33 rfl) (own_w hw 34 rfl) rfl (g := (mkF m 29 #[.val (.int ga), .val (.int gb), .val (.int gc), .val (.int gd), .val (.int cut), .val (.int sh), .val (.int (4 : Int32)), .val (.ref x274), .val (.ref b283), .unset, .unset] [])) rfl (hb hby at_29) (by decide) (by decide)
    obtain ⟨b296, g296⟩ : ∃ z, z = T289.heap.size := ⟨_, rfl⟩
    have ge_b296 : n0 ≤ b296 := by rw [g296, ← O295.1]; exact O295.2.1
    have f297 := (Arv.keep (Arv.ext f279 E283) k291 (ninS ne284 nin0))
    have ne298 : x274 ≠ b296 := Nat.ne_of_lt (Nat.lt_of_lt_of_le (Arv.lt f297) (Nat.le_of_eq g296.symm))
    have f299 := (Exa.keep A283 k291)
    have ne300 : b283 ≠ b296 := Nat.ne_of_lt (Nat.lt_of_lt_of_le (Exa.lt f299) (Nat.le_of_eq g296.symm))
    rw [← g296] at A296 D296 st296
    have O301 := O295.ext E296
    have F302 : Fld Z h296 b296 "com/example/favonius/favonius/eval/TopicRanking" "retrieved" "[I" .null := D296 (Or.inr (own_w hw 101 rfl)) (ty := (.array .int)) (by decide)
    have F303 : Fld Z h296 b296 "com/example/favonius/favonius/eval/TopicRanking" "ideal" "[I" .null := D296 (Or.inr (own_w hw 103 rfl)) (ty := (.array .int)) (by decide)
    have F304 : Fld Z h296 b296 "com/example/favonius/favonius/eval/TopicRanking" "relevant" "I" (.int (0 : Int32)) := D296 (Or.inr (own_w hw 105 rfl)) (ty := .int) (by decide)
    have f306 := (Exa.ext E296 f299)
    have f307 := (Fld.ext E296 f293)
    have f308 := (Fld.ext E296 f292)
    obtain ⟨_, _, ⟨T305, L305, k305, n305⟩, -, X305, ⟨Lc305, hQ305, l305, y305, z305⟩, st305⟩ := X296.specialBack hx (y := (⟨"com/example/favonius/favonius/eval/TopicRanking", "<init>", "([ILjava/util/Collection;)V"⟩ : MethodName)) rfl hown (mvT hZ (own_w hw 35 rfl)) (mvT hZ (own_w hw 36 rfl)) (mvT hZ (own_w hw 37 rfl)) (by decide) (backOf (W := 1) (rm_trinit l Z a0 hw [] b296 x274 b283 h296 n0 O301 A296 ge_b296 f306 f307 f308 ne300 F302 F303 F304) hZ (own_w hw 37 rfl) (own_w hw 34 rfl) (by decide) (by decide)) (g := (mkF m 37 #[.val (.int ga), .val (.int gb), .val (.int gc), .val (.int gd), .val (.int cut), .val (.int sh), .val (.int (4 : Int32)), .val (.ref x274), .val (.ref b283), .unset, .unset] [(.ref b283), (.ref x274), (.ref b296), (.ref b296)])) rfl (by rw [hml]; rfl) (Steps.refl _) (a := b296) (argsL := [(.ref x274), (.ref b283)]) (rest := [(.ref b296)]) (lenOf pd_12 rfl) rfl (by show 2 * 0 + _ ≤ _; exact Nat.le_of_eq rfl) (hb hby at_37) (fun _ _ => ⟨rfl, e296, (by decide : 3 + 3 ≤ _), (by decide : 10 + 4 ≤ _)⟩)
    dsimp only [Pt.U, Pt.locs, Pt.cells, Pt.slots] at X305 l305 y305 z305 st305 hQ305
    subst l305 y305 z305
    obtain ⟨rfl, N309, k310, f311⟩ := hQ305
    have N312 := Fr.app N294 N309
    have O313 := O301.keep k310 (allS ge_b296 all0)
    obtain ⟨_, _, ⟨T314, L314, k314, n314⟩, -, X314, ⟨Lc314, hQ314, l314, y314, z314⟩, st314⟩ := Jvm.LawKit.callS X305 hx (y := (⟨"com/example/favonius/favonius/eval/TopicRankingRelevantInTopPinLaw", "term", "(IIII)I"⟩ : MethodName)) hown (mvT hZ (own_w hw 106 rfl)) (mvT hZ (own_w hw 107 rfl)) (mvT hZ (own_w hw 3 rfl)) (mvT hZ (own_w hw 108 rfl)) (by decide) (backOf (W := 0) (rm_term l Z a0 hw [] (0 : Int32) (4 : Int32) cut ga T305.heap n0 O313 ) hZ (own_w hw 108 rfl) (own_w hw 3 rfl) (by decide) (by decide)) (g := (mkF m 48 #[.val (.int ga), .val (.int gb), .val (.int gc), .val (.int gd), .val (.int cut), .val (.int sh), .val (.int (4 : Int32)), .val (.ref x274), .val (.ref b283), .val (.ref b296), .unset] [(.int ga), (.int cut), (.int (4 : Int32)), (.int (0 : Int32))])) rfl (by rw [hml]; rfl) (argsL := [(.int (0 : Int32)), (.int (4 : Int32)), (.int cut), (.int ga)]) (rest := []) (lenOf pd_13 rfl) rfl (by show 2 * 0 + _ ≤ _; exact Nat.le_of_eq rfl) (hb hby at_48) (fun _ _ => ⟨rfl, rfl, (by decide : 6 + 0 ≤ _), (by decide : 14 + 0 ≤ _)⟩)
    dsimp only [Pt.U, Pt.locs, Pt.cells, Pt.slots] at X314 l314 y314 z314 st314 hQ314
    subst l314 y314 z314
    obtain ⟨rfl, N315, k316⟩ := hQ314
    have N317 := Fr.app N312 N315
    obtain ⟨_, _, ⟨T318, L318, k318, n318⟩, -, X318, ⟨Lc318, hQ318, l318, y318, z318⟩, st318⟩ := Jvm.LawKit.callS X314 hx (y := (⟨"com/example/favonius/favonius/eval/TopicRankingRelevantInTopPinLaw", "term", "(IIII)I"⟩ : MethodName)) hown (mvT hZ (own_w hw 106 rfl)) (mvT hZ (own_w hw 107 rfl)) (mvT hZ (own_w hw 3 rfl)) (mvT hZ (own_w hw 108 rfl)) (by decide) (backOf (W := 1) (rm_term l Z a0 hw [] (1 : Int32) (4 : Int32) cut gb T305.heap n0 O313 ) hZ (own_w hw 108 rfl) (own_w hw 3 rfl) (by decide) (by decide)) (g := (mkF m 57 #[.val (.int ga), .val (.int gb), .val (.int gc), .val (.int gd), .val (.int cut), .val (.int sh), .val (.int (4 : Int32)), .val (.ref x274), .val (.ref b283), .val (.ref b296), .unset] [(.int gb), (.int cut), (.int (4 : Int32)), (.int (1 : Int32)), (.int (own_t (0 : Int32) (4 : Int32) cut ga))])) rfl (by rw [hml]; rfl) (argsL := [(.int (1 : Int32)), (.int (4 : Int32)), (.int cut), (.int gb)]) (rest := [(.int (own_t (0 : Int32) (4 : Int32) cut ga))]) (lenOf pd_13 rfl) rfl (by show 2 * 0 + _ ≤ _; exact Nat.le_of_eq rfl) (hb hby at_57) (fun _ _ => ⟨rfl, k316, (by decide : 6 + 0 ≤ _), (by decide : 14 + 0 ≤ _)⟩)
    dsimp only [Pt.U, Pt.locs, Pt.cells, Pt.slots] at X318 l318 y318 z318 st318 hQ318
    subst l318 y318 z318
    obtain ⟨rfl, N319, k320⟩ := hQ318
    have N321 := Fr.app N317 N319
    obtain ⟨_, _, ⟨T322, L322, k322, n322⟩, -, X322, ⟨Lc322, hQ322, l322, y322, z322⟩, st322⟩ := Jvm.LawKit.callS X318 hx (y := (⟨"com/example/favonius/favonius/eval/TopicRankingRelevantInTopPinLaw", "term", "(IIII)I"⟩ : MethodName)) hown (mvT hZ (own_w hw 106 rfl)) (mvT hZ (own_w hw 107 rfl)) (mvT hZ (own_w hw 3 rfl)) (mvT hZ (own_w hw 108 rfl)) (by decide) (backOf (W := 1) (rm_term l Z a0 hw [] (2 : Int32) (4 : Int32) cut gc T305.heap n0 O313 ) hZ (own_w hw 108 rfl) (own_w hw 3 rfl) (by decide) (by decide)) (g := (mkF m 67 #[.val (.int ga), .val (.int gb), .val (.int gc), .val (.int gd), .val (.int cut), .val (.int sh), .val (.int (4 : Int32)), .val (.ref x274), .val (.ref b283), .val (.ref b296), .unset] [(.int gc), (.int cut), (.int (4 : Int32)), (.int (2 : Int32)), (.int ((own_t (0 : Int32) (4 : Int32) cut ga) + (own_t (1 : Int32) (4 : Int32) cut gb)))])) rfl (by rw [hml]; rfl) (argsL := [(.int (2 : Int32)), (.int (4 : Int32)), (.int cut), (.int gc)]) (rest := [(.int ((own_t (0 : Int32) (4 : Int32) cut ga) + (own_t (1 : Int32) (4 : Int32) cut gb)))]) (lenOf pd_13 rfl) rfl (by show 2 * 0 + _ ≤ _; exact Nat.le_of_eq rfl) (hb hby at_67) (fun _ _ => ⟨rfl, k320, (by decide : 6 + 0 ≤ _), (by decide : 14 + 0 ≤ _)⟩)
    dsimp only [Pt.U, Pt.locs, Pt.cells, Pt.slots] at X322 l322 y322 z322 st322 hQ322
    subst l322 y322 z322
    obtain ⟨rfl, N323, k324⟩ := hQ322
    have N325 := Fr.app N321 N323
    obtain ⟨_, _, ⟨T326, L326, k326, n326⟩, -, X326, ⟨Lc326, hQ326, l326, y326, z326⟩, st326⟩ := Jvm.LawKit.callS X322 hx (y := (⟨"com/example/favonius/favonius/eval/TopicRankingRelevantInTopPinLaw", "term", "(IIII)I"⟩ : MethodName)) hown (mvT hZ (own_w hw 106 rfl)) (mvT hZ (own_w hw 107 rfl)) (mvT hZ (own_w hw 3 rfl)) (mvT hZ (own_w hw 108 rfl)) (by decide) (backOf (W := 1) (rm_term l Z a0 hw [] (3 : Int32) (4 : Int32) cut gd T305.heap n0 O313 ) hZ (own_w hw 108 rfl) (own_w hw 3 rfl) (by decide) (by decide)) (g := (mkF m 77 #[.val (.int ga), .val (.int gb), .val (.int gc), .val (.int gd), .val (.int cut), .val (.int sh), .val (.int (4 : Int32)), .val (.ref x274), .val (.ref b283), .val (.ref b296), .unset] [(.int gd), (.int cut), (.int (4 : Int32)), (.int (3 : Int32)), (.int (((own_t (0 : Int32) (4 : Int32) cut ga) + (own_t (1 : Int32) (4 : Int32) cut gb)) + (own_t (2 : Int32) (4 : Int32) cut gc)))])) rfl (by rw [hml]; rfl) (argsL := [(.int (3 : Int32)), (.int (4 : Int32)), (.int cut), (.int gd)]) (rest := [(.int (((own_t (0 : Int32) (4 : Int32) cut ga) + (own_t (1 : Int32) (4 : Int32) cut gb)) + (own_t (2 : Int32) (4 : Int32) cut gc)))]) (lenOf pd_13 rfl) rfl (by show 2 * 0 + _ ≤ _; exact Nat.le_of_eq rfl) (hb hby at_77) (fun _ _ => ⟨rfl, k324, (by decide : 6 + 0 ≤ _), (by decide : 14 + 0 ≤ _)⟩)
    dsimp only [Pt.U, Pt.locs, Pt.cells, Pt.slots] at X326 l326 y326 z326 st326 hQ326
    subst l326 y326 z326
    obtain ⟨rfl, N327, k328⟩ := hQ326
    have N329 := Fr.app N325 N327
    have f331 := (Exa.keep A296 k310)
    have f332 := (Arv.keep (Arv.ext f297 E296) k310 (ninS ne298 nin0))
    obtain ⟨cq330, kq330, q330a, q330b, q330c⟩ := isOf hZ k328 f331
    obtain ⟨_, _, ⟨T330, L330, k330, n330⟩, -, X330, ⟨Lc330, hQ330, l330, y330, z330⟩, st330⟩ := X326.virtualBack hx (y := (⟨"com/example/favonius/favonius/eval/TopicRanking", "relevantInTop", "(I)I"⟩ : MethodName)) (z := (⟨"com/example/favonius/favonius/eval/TopicRanking", "relevantInTop", "(I)I"⟩ : MethodName)) hown (mvT hZ (own_w hw 109 rfl)) (mvT hZ (own_w hw 110 rfl)) (notFace_of_selects (args := #[]) (mvT hZ (own_w hw 112 rfl))) (mvT hZ (own_w hw 112 rfl)) (mvT hZ (own_w hw 111 rfl)) (by decide) (backOf (W := 0) (rm_top4 l Z a0 hw [] b296 cut x274 x275 ga gb gc gd T305.heap n0 O313 f331 f311 f332) hZ (own_w hw 113 rfl) (own_w hw 34 rfl) (by decide) (by decide)) q330a q330c (g := (mkF m 87 #[.val (.int ga), .val (.int gb), .val (.int gc), .val (.int gd), .val (.int cut), .val (.int sh), .val (.int (4 : Int32)), .val (.ref x274), .val (.ref b283), .val (.ref b296), .val (.int ((((own_t (0 : Int32) (4 : Int32) cut ga) + (own_t (1 : Int32) (4 : Int32) cut gb)) + (own_t (2 : Int32) (4 : Int32) cut gc)) + (own_t (3 : Int32) (4 : Int32) cut gd)))] [(.int cut), (.ref b296)])) rfl (by rw [hml]; rfl) (Steps.refl _) (argsL := [(.int cut)]) (rest := []) (lenOf pd_10 rfl) rfl (by show 2 * 0 + _ ≤ _; exact Nat.le_of_eq rfl) (hb hby at_87) (fun _ _ => ⟨rfl, k328, (by decide : 6 + 0 ≤ _), (by decide : 14 + 0 ≤ _)⟩)
    dsimp only [Pt.U, Pt.locs, Pt.cells, Pt.slots] at X330 l330 y330 z330 st330 hQ330
    subst l330 y330 z330
    obtain ⟨rfl, N333, k334⟩ := hQ330
    have N335 := Fr.app N329 N333
    have S336 : ∀ t, Steps p.tables e below (T330.setTop (mkF m 100 #[.val (.int ga), .val (.int gb), .val (.int gc), .val (.int gd), .val (.int cut), .val (.int sh), .val (.int (4 : Int32)), .val (.ref x274), .val (.ref b283), .val (.ref b296), .val (.int ((((own_t (0 : Int32) (4 : Int32) cut ga) + (own_t (1 : Int32) (4 : Int32) cut gb)) + (own_t (2 : Int32) (4 : Int32) cut gc)) + (own_t (3 : Int32) (4 : Int32) cut gd)))] [(.int (1 : Int32))])) t → Steps p.tables e below (s₁.setTop (mkF m 0 #[.val (.int ga), .val (.int gb), .val (.int gc), .val (.int gd), .val (.int cut), .val (.int sh), .unset, .unset, .unset, .unset, .unset] [])) t := by
      intro t kt
      refine S2 t ?_
      refine XS.istore X0.here hx rfl (hb hby at_7) rfl (l' := #[.val (.int ga), .val (.int gb), .val (.int gc), .val (.int gd), .val (.int cut), .val (.int sh), .val (.int (4 : Int32)), .unset, .unset, .unset, .unset]) rfl ?_
      refine XS.iload X0.here hx rfl (hb hby at_9) rfl ?_
      refine XS.iloadN X0.here hx rfl (hb hby at_11) rfl ?_
      refine XS.iloadN X0.here hx rfl (hb hby at_12) rfl ?_
      refine XS.iloadN X0.here hx rfl (hb hby at_13) rfl ?_
      refine XS.iloadN X0.here hx rfl (hb hby at_14) rfl ?_
      show Steps p.tables e below (s₁.setTop (mkF m 15 #[.val (.int ga), .val (.int gb), .val (.int gc), .val (.int gd), .val (.int cut), .val (.int sh), .val (.int (4 : Int32)), .unset, .unset, .unset, .unset] [(.int gd), (.int gc), (.int gb), (.int ga), (.int (4 : Int32))])) _
      refine st273 _ ?_
      refine XS.astore X273.here hx rfl (hb hby at_18) rfl rfl (l' := #[.val (.int ga), .val (.int gb), .val (.int gc), .val (.int gd), .val (.int cut), .val (.int sh), .val (.int (4 : Int32)), .val (.ref x274), .unset, .unset, .unset]) rfl ?_
      show Steps p.tables e below (T273.setTop (mkF m 20 #[.val (.int ga), .val (.int gb), .val (.int gc), .val (.int gd), .val (.int cut), .val (.int sh), .val (.int (4 : Int32)), .val (.ref x274), .unset, .unset, .unset] [])) _
      refine st283 _ ?_
      refine XS.dup X283.here hx rfl (hb hby at_23) rfl rfl ?_
      show Steps p.tables e below (T283.setTop (mkF m 24 #[.val (.int ga), .val (.int gb), .val (.int gc), .val (.int gd), .val (.int cut), .val (.int sh), .val (.int (4 : Int32)), .val (.ref x274), .unset, .unset, .unset] [(.ref b283), (.ref b283)])) _
      refine st289.trans ?_
      refine XS.astore X289.here hx rfl (hb hby at_27) rfl rfl (l' := #[.val (.int ga), .val (.int gb), .val (.int gc), .val (.int gd), .val (.int cut), .val (.int sh), .val (.int (4 : Int32)), .val (.ref x274), .val (.ref b283), .unset, .unset]) rfl ?_
      show Steps p.tables e below (T289.setTop (mkF m 29 #[.val (.int ga), .val (.int gb), .val (.int gc), .val (.int gd), .val (.int cut), .val (.int sh), .val (.int (4 : Int32)), .val (.ref x274), .val (.ref b283), .unset, .unset] [])) _
      refine st296 _ ?_
      refine XS.dup X296.here hx rfl (hb hby at_32) rfl rfl ?_
      refine XS.aload X296.here hx rfl (hb hby at_33) rfl rfl ?_
      refine XS.aload X296.here hx rfl (hb hby at_35) rfl rfl ?_
      show Steps p.tables e below (T296.setTop (mkF m 37 #[.val (.int ga), .val (.int gb), .val (.int gc), .val (.int gd), .val (.int cut), .val (.int sh), .val (.int (4 : Int32)), .val (.ref x274), .val (.ref b283), .unset, .unset] [(.ref b283), (.ref x274), (.ref b296), (.ref b296)])) _
      refine st305.trans ?_
      refine XS.astore X305.here hx rfl (hb hby at_40) rfl rfl (l' := #[.val (.int ga), .val (.int gb), .val (.int gc), .val (.int gd), .val (.int cut), .val (.int sh), .val (.int (4 : Int32)), .val (.ref x274), .val (.ref b283), .val (.ref b296), .unset]) rfl ?_
      refine XS.iconst X305.here hx rfl (hb hby at_42) ?_
      refine XS.iload X305.here hx rfl (hb hby at_43) rfl ?_
      refine XS.iload X305.here hx rfl (hb hby at_45) rfl ?_
      refine XS.iloadN X305.here hx rfl (hb hby at_47) rfl ?_
      show Steps p.tables e below (T305.setTop (mkF m 48 #[.val (.int ga), .val (.int gb), .val (.int gc), .val (.int gd), .val (.int cut), .val (.int sh), .val (.int (4 : Int32)), .val (.ref x274), .val (.ref b283), .val (.ref b296), .unset] [(.int ga), (.int cut), (.int (4 : Int32)), (.int (0 : Int32))])) _
      refine st314 _ ?_
      refine XS.iconst X314.here hx rfl (hb hby at_51) ?_
      refine XS.iload X314.here hx rfl (hb hby at_52) rfl ?_
      refine XS.iload X314.here hx rfl (hb hby at_54) rfl ?_
      refine XS.iloadN X314.here hx rfl (hb hby at_56) rfl ?_
      show Steps p.tables e below (T314.setTop (mkF m 57 #[.val (.int ga), .val (.int gb), .val (.int gc), .val (.int gd), .val (.int cut), .val (.int sh), .val (.int (4 : Int32)), .val (.ref x274), .val (.ref b283), .val (.ref b296), .unset] [(.int gb), (.int cut), (.int (4 : Int32)), (.int (1 : Int32)), (.int (own_t (0 : Int32) (4 : Int32) cut ga))])) _
      refine st318 _ ?_
      refine XS.iadd X318.here hx rfl (hb hby at_60) rfl ?_
      refine XS.iconst X318.here hx rfl (hb hby at_61) ?_
      refine XS.iload X318.here hx rfl (hb hby at_62) rfl ?_
      refine XS.iload X318.here hx rfl (hb hby at_64) rfl ?_
      refine XS.iloadN X318.here hx rfl (hb hby at_66) rfl ?_
      show Steps p.tables e below (T318.setTop (mkF m 67 #[.val (.int ga), .val (.int gb), .val (.int gc), .val (.int gd), .val (.int cut), .val (.int sh), .val (.int (4 : Int32)), .val (.ref x274), .val (.ref b283), .val (.ref b296), .unset] [(.int gc), (.int cut), (.int (4 : Int32)), (.int (2 : Int32)), (.int ((own_t (0 : Int32) (4 : Int32) cut ga) + (own_t (1 : Int32) (4 : Int32) cut gb)))])) _
      refine st322 _ ?_
      refine XS.iadd X322.here hx rfl (hb hby at_70) rfl ?_
      refine XS.iconst X322.here hx rfl (hb hby at_71) ?_
      refine XS.iload X322.here hx rfl (hb hby at_72) rfl ?_
      refine XS.iload X322.here hx rfl (hb hby at_74) rfl ?_
      refine XS.iloadN X322.here hx rfl (hb hby at_76) rfl ?_
      show Steps p.tables e below (T322.setTop (mkF m 77 #[.val (.int ga), .val (.int gb), .val (.int gc), .val (.int gd), .val (.int cut), .val (.int sh), .val (.int (4 : Int32)), .val (.ref x274), .val (.ref b283), .val (.ref b296), .unset] [(.int gd), (.int cut), (.int (4 : Int32)), (.int (3 : Int32)), (.int (((own_t (0 : Int32) (4 : Int32) cut ga) + (own_t (1 : Int32) (4 : Int32) cut gb)) + (own_t (2 : Int32) (4 : Int32) cut gc)))])) _
      refine st326 _ ?_
      refine XS.iadd X326.here hx rfl (hb hby at_80) rfl ?_
      refine XS.istore X326.here hx rfl (hb hby at_81) rfl (l' := #[.val (.int ga), .val (.int gb), .val (.int gc), .val (.int gd), .val (.int cut), .val (.int sh), .val (.int (4 : Int32)), .val (.ref x274), .val (.ref b283), .val (.ref b296), .val (.int ((((own_t (0 : Int32) (4 : Int32) cut ga) + (own_t (1 : Int32) (4 : Int32) cut gb)) + (own_t (2 : Int32) (4 : Int32) cut gc)) + (own_t (3 : Int32) (4 : Int32) cut gd)))]) rfl ?_
      refine XS.aload X326.here hx rfl (hb hby at_83) rfl rfl ?_
      refine XS.iload X326.here hx rfl (hb hby at_85) rfl ?_
      show Steps p.tables e below (T326.setTop (mkF m 87 #[.val (.int ga), .val (.int gb), .val (.int gc), .val (.int gd), .val (.int cut), .val (.int sh), .val (.int (4 : Int32)), .val (.ref x274), .val (.ref b283), .val (.ref b296), .val (.int ((((own_t (0 : Int32) (4 : Int32) cut ga) + (own_t (1 : Int32) (4 : Int32) cut gb)) + (own_t (2 : Int32) (4 : Int32) cut gc)) + (own_t (3 : Int32) (4 : Int32) cut gd)))] [(.int cut), (.ref b296)])) _
      refine st330.trans ?_
      refine XS.iload X330.here hx rfl (hb hby at_90) rfl ?_
      refine XS.icmpNo X330.here hx rfl (hb hby at_92) rfl (teq (rfl : ((((own_t (0 : Int32) (4 : Int32) cut ga) + (own_t (1 : Int32) (4 : Int32) cut gb)) + (own_t (2 : Int32) (4 : Int32) cut gc)) + (own_t (3 : Int32) (4 : Int32) cut gd)) = ((((own_t (0 : Int32) (4 : Int32) cut ga) + (own_t (1 : Int32) (4 : Int32) cut gb)) + (own_t (2 : Int32) (4 : Int32) cut gc)) + (own_t (3 : Int32) (4 : Int32) cut gd)))).2 ?_
      refine XS.iconst X330.here hx rfl (hb hby at_95) ?_
      refine XS.goto X330.here hx rfl (pc0 := 96) (pc' := 100) rfl (hb hby at_96) (by decide) (by decide) ?_
      exact kt
    obtain ⟨fs, hr, hrun, hended, hW, hsame⟩ := X330.leave (v := some (.int (1 : Int32))) (fun h => by rw [Bd.returns] at h; cases h)
    refine ⟨_, _, pre0 _ (S336 _ ?_), hrun, hended, _, _, rfl, ?_, ⟨_, rfl⟩, hW, hsame.mono (by decide) (by decide)⟩
    · exact retN X330 hx (t := .boolean) Bd.returns (by simp) (hb hby at_100) hr
    · show Q_rm_law Z ga gb gc gd cut sh wD h0 n0 _ T330.heap _
      rw [k334]
      exact ⟨rfl, N335⟩
set_option maxRecDepth 65536 in
set_option maxHeartbeats 40000000 in
theorem comes_1 {Post : Tables → Env → Array Value → State → Outcome → State → Prop} (hpost : ∀ tb e args s v u, (limb_1_1.after args s (.returned v) u = true ∧ limb_1_2.after args s (.returned v) u = true ∧ True) → FrameEnd s (.returned v) u (Jvm.fieldLocs frame_1_writes args s ++ Jvm.arrayLocs frame_1_arrays args s ++ Jvm.staticLocs frame_1_statics s) 24 128 → Post tb e args s (.returned v) u) :
    ArmFor flags0 classFile x code maxLocals ret World_1 tables_1 room_1 Calls_1 rest_1 Pre_1 Post := by
  intro l hfl _ _ p e ha hc hk s m args below hf hA hF happ hP
  obtain ⟨hcalls, hrest, hpre⟩ := hP
  obtain ⟨-, -, -, hnamed, -, -, -, hat⟩ := (Spec.applies_iff hf).mp happ
  obtain ⟨hg, hn⟩ := and_e (Cond.before_iff.mp (show (Jvm.Cond.and given_1 narrow_1).before args s = true from hpre))
  obtain ⟨g0, r0⟩ := and_e hg
  obtain ⟨g1, r1⟩ := and_e r0
  obtain ⟨g2, r2⟩ := and_e r1
  obtain ⟨g3, r3⟩ := and_e r2
  obtain ⟨g4, r4⟩ := and_e r3
  obtain ⟨g5, r5⟩ := and_e r4
  obtain ⟨w0, w1, w2, w3, w4, w5, rfl⟩ : ∃ w0 w1 w2 w3 w4 w5 : Value, args = #[w0, w1, w2, w3, w4, w5] := by
    have hs : args.size = 6 := by simpa [Cond.value, given_1] using g0
    obtain ⟨L⟩ := args
    match L, hs with
    | [w0, w1, w2, w3, w4, w5], _ => exact ⟨w0, w1, w2, w3, w4, w5, rfl⟩
  have hw := fun d (hd : d ∈ tables_1) => atoms_spec (ws := Jvm.Cond.code x code maxLocals ret :: tables_1) hat d (List.mem_cons_of_mem _ hd)
  have hfit : Fit s := fun {y c} hc i hi => by
    obtain ⟨ha, rfl⟩ := Array.getElem?_eq_some_iff.mp hc
    have q := List.all_eq_true.mp ((Array.all_eq_true_iff_forall_mem.mp hF) _ (Array.getElem_mem ha)) i (List.mem_range.mpr hi)
    simpa [Array.getElem?_eq_getElem hi] using q
  obtain ⟨i0, e0⟩ := is_v g1
  obtain rfl : w0 = (.int i0) := Option.some.inj e0
  obtain ⟨i1, e1⟩ := is_v g2
  obtain rfl : w1 = (.int i1) := Option.some.inj e1
  obtain ⟨i2, e2⟩ := is_v g3
  obtain rfl : w2 = (.int i2) := Option.some.inj e2
  obtain ⟨i3, e3⟩ := is_v g4
  obtain rfl : w3 = (.int i3) := Option.some.inj e3
  obtain ⟨i4, e4⟩ := is_v g5
  obtain rfl : w4 = (.int i4) := Option.some.inj e4
  obtain ⟨i5, e5⟩ := is_v r5
  obtain rfl : w5 = (.int i5) := Option.some.inj e5
  obtain ⟨hsets, hown0⟩ := atoms_of _ (rest_1_c_eq ▸ (show rest_1_c.before _ s = true from hrest))
  have x7 := Cond.before_iff.mp (hsets _ (List.mem_of_getElem? (i := 7) rfl))
  obtain ⟨wD, evD⟩ := exa_v x7
  have S_D : Sta s s.heap "java/util/ArrayList" "DEFAULTCAPACITY_EMPTY_ELEMENTDATA" "[Ljava/lang/Object;" (.ref wD) := Sta.start evD (Or.inr ⟨(own_w hw 8 rfl), hsets _ (List.mem_of_getElem? (i := 2) rfl)⟩)
  obtain ⟨n, o, h1, h2, h3, _, L, rfl, ⟨rfl, N⟩, hq⟩ := rm_law l s _ hw tables_1 i0 i1 i2 i3 i4 i5 wD s.heap s.heap.size (Old.start s) S_D p e ha hc hk s m _ below hf ((Spec.applies_iff_loose hf).mp happ).1 ⟨rfl, State.Warmed39.refl s, rfl⟩ trivial
  refine ⟨n, _, h1, h2, h3, hpost _ _ _ _ _ _ ⟨Cond.after_iff.mpr rfl, Cond.after_iff.mpr (eq_i res_at (Term.int_eval (1)) rfl), trivial⟩ ⟨hq.1, hq.2.1, (hq.2.2.sift fun y hy => Or.inr (N y hy)).mono (by decide) (by decide)⟩⟩
theorem main_1_1 : Claimed_1_1 := comes_1 fun _ _ _ _ _ _ h hF => ⟨h.1, hF⟩
theorem main_1_2 : Claimed_1_2 := comes_1 fun _ _ _ _ _ _ h hF => ⟨h.2.1, hF⟩
end Jvm.Pilot.@@N@@
namespace Jvm.Pilot.@@N@@
open Jvm Jvm.ClassFile Sem Op Lib Jvm.Free Jvm.Stand Jvm.Pilot.@@N@@.Jvm.D
/-! MADE BY PROGRAM (witnessworld.py) out of the Statement's table words and the real class files: 23 classes; the members and pool entries that the words name. The judged class is class 1, her method 3. -/
namespace start1
open Jvm.ClassFile
def u (s : String) : CpInfo := .utf8 (stringToUtf16 s)
/-- a pool by its gaps: so many unusable entries, then the entry; so many at the end -/
def gap : Nat → List CpInfo → List CpInfo
  | 0, r => r
  | n + 1, r => .unusable :: gap n r
def poolList (es : List (Nat × CpInfo)) (last : Nat) : List CpInfo := es.foldr (fun e r => gap e.1 (e.2 :: r)) (gap last [])
def pool (es : List (Nat × CpInfo)) (last : Nat) : Array CpInfo := ⟨poolList es last⟩
def fileOf (pool : Array CpInfo) (this : Nat) (attrs : Array Attribute := #[]) (ms : Array MethodInfo := #[]) (fl : Nat := 33) (sup : Nat := 0) (ifs : Array Nat := #[]) (fds : Array FieldInfo := #[]) : ClassFile where
  minorVersion := 0
  majorVersion := 65
  constantPool := pool
  accessFlags := fl
  thisClass := this
  superClass := sup
  interfaces := ifs
  fields := fds
  methods := ms
  attributes := attrs
def plain (name : String) (sup : Option ClassId) : Class where
  name := name
  kind := .ordinary
  loader := none
  accessFlags := 33
  super := sup
  interfaces := #[]
  cf := none
  fields := #[]
  methods := #[]
  instanceTypes := #[]
  staticTypes := #[]
  resolved := #[]
  callSites := []
  init := .initialized
  statics := none
  mirror := none

def pool0 : Array CpInfo := pool [(5, u "<init>"), (0, u "()V"), (1, .class_ 10), (1, u "java/lang/Object")] 113

def k0c0 : Code := { maxStack := 0, maxLocals := 1, code := object_method_1_code, exceptionTable := #[], attributes := #[] }
def k0m0 : Method := { name := "<init>", desc := "()V", sig := { parameters := [], returnType := none }, accessFlags := 1, code := some k0c0 }
/-- java/lang/Object -/
def k0 : Class := { plain "java/lang/Object" none with
  accessFlags := 33
  interfaces := #[]
  cf := some (fileOf pool0 8 #[] #[{ accessFlags := 1, nameIndex := 5, descriptorIndex := 6, attributes := #[] }] 33 0 #[] #[])
  fields := #[]
  methods := #[k0m0]
  instanceTypes := #[]
  staticTypes := #[]
  resolved := Array.replicate 124 none
  statics := none }

def pool1 : Array CpInfo := pool [(2, .class_ 4), (0, .nameAndType 5 6), (0, u "java/lang/Object"), (0, u "<init>"), (0, u "()V"), (0, .integer 2147483647), (0, .methodref 9 10), (0, .class_ 11), (0, .nameAndType 12 13), (0, u "com/example/favonius/favonius/eval/TopicRankingRelevantInTopPinLaw"), (0, u "make"), (0, u "(IIIII)[I"), (0, .class_ 15), (0, u "java/util/ArrayList"), (0, .methodref 14 3), (0, .class_ 18), (0, u "com/example/favonius/favonius/eval/TopicRanking"), (0, .methodref 17 20), (0, .nameAndType 5 21), (0, u "([ILjava/util/Collection;)V"), (0, .methodref 9 23), (0, .nameAndType 24 25), (0, u "term"), (0, u "(IIII)I"), (0, .methodref 17 27), (0, .nameAndType 28 29), (0, u "relevantInTop"), (0, u "(I)I"), (3, u "law"), (0, u "(IIIIII)Z")] 4

def k1m0 : Method := { name := "<init>", desc := "()V", sig := { parameters := [], returnType := none }, accessFlags := 2, code := none }
def k1c1 : Code := { maxStack := 4, maxLocals := 5, code := method_2_code, exceptionTable := #[], attributes := #[] }
def k1m1 : Method := { name := "make", desc := "(IIIII)[I", sig := { parameters := [.int, .int, .int, .int, .int], returnType := some (.array .int) }, accessFlags := 10, code := some k1c1 }
def k1c2 : Code := { maxStack := 2, maxLocals := 4, code := method_3_code, exceptionTable := #[], attributes := #[] }
def k1m2 : Method := { name := "term", desc := "(IIII)I", sig := { parameters := [.int, .int, .int, .int], returnType := some .int }, accessFlags := 10, code := some k1c2 }
def k1c3 : Code := { maxStack := 5, maxLocals := 11, code := code, exceptionTable := #[], attributes := #[] }
def k1m3 : Method := { name := "law", desc := "(IIIIII)Z", sig := { parameters := [.int, .int, .int, .int, .int, .int], returnType := some .boolean }, accessFlags := 9, code := some k1c3 }
/-- com/example/favonius/favonius/eval/TopicRankingRelevantInTopPinLaw -/
def k1 : Class := { plain "com/example/favonius/favonius/eval/TopicRankingRelevantInTopPinLaw" (some 0) with
  accessFlags := 49
  interfaces := #[]
  cf := some (fileOf pool1 9 #[] #[{ accessFlags := 2, nameIndex := 5, descriptorIndex := 6, attributes := #[] }, { accessFlags := 10, nameIndex := 12, descriptorIndex := 13, attributes := #[] }, { accessFlags := 10, nameIndex := 24, descriptorIndex := 25, attributes := #[] }, { accessFlags := 9, nameIndex := 33, descriptorIndex := 34, attributes := #[] }] 49 2 #[] #[])
  fields := #[]
  methods := #[k1m0, k1m1, k1m2, k1m3]
  instanceTypes := #[]
  staticTypes := #[]
  resolved := Array.replicate 39 none
  statics := none }

def pool2 : Array CpInfo := pool [(8, .class_ 10), (1, u "java/lang/Iterable"), (24, .class_ 36), (0, u "java/lang/Object")] 25

/-- java/lang/Iterable -/
def k2 : Class := { plain "java/lang/Iterable" (some 0) with
  accessFlags := 1537
  interfaces := #[]
  cf := some (fileOf pool2 8 #[] #[] 1537 35 #[] #[])
  fields := #[]
  methods := #[]
  instanceTypes := #[]
  staticTypes := #[]
  resolved := Array.replicate 62 none
  statics := none }

def pool3 : Array CpInfo := pool [(10, .class_ 12), (1, u "java/util/Collection"), (10, u "iterator"), (0, u "()Ljava/util/Iterator;"), (35, .class_ 61), (0, u "java/lang/Object"), (0, .class_ 63), (0, u "java/lang/Iterable"), (0, u "size"), (0, u "()I")] 49

def k3m0 : Method := { name := "size", desc := "()I", sig := { parameters := [], returnType := some .int }, accessFlags := 1025, code := none }
def k3m1 : Method := { name := "iterator", desc := "()Ljava/util/Iterator;", sig := { parameters := [], returnType := some (.object "java/util/Iterator") }, accessFlags := 1025, code := none }
/-- java/util/Collection -/
def k3 : Class := { plain "java/util/Collection" (some 0) with
  accessFlags := 1537
  interfaces := #[2]
  cf := some (fileOf pool3 10 #[] #[{ accessFlags := 1025, nameIndex := 64, descriptorIndex := 65, attributes := #[] }, { accessFlags := 1025, nameIndex := 23, descriptorIndex := 24, attributes := #[] }] 1537 60 #[62] #[])
  fields := #[]
  methods := #[k3m0, k3m1]
  instanceTypes := #[]
  staticTypes := #[]
  resolved := Array.replicate 115 none
  statics := none }

def pool4 : Array CpInfo := pool [(1, .methodref 2 3), (0, .class_ 4), (0, .nameAndType 5 6), (0, u "java/lang/Object"), (0, u "<init>"), (0, u "()V"), (1, .class_ 10), (1, u "java/util/AbstractCollection"), (66, .class_ 78), (0, u "java/util/Collection")] 81

def k4c0 : Code := { maxStack := 1, maxLocals := 1, code := jdk_22_method_1_code, exceptionTable := #[], attributes := #[] }
def k4m0 : Method := { name := "<init>", desc := "()V", sig := { parameters := [], returnType := none }, accessFlags := 4, code := some k4c0 }
/-- java/util/AbstractCollection -/
def k4 : Class := { plain "java/util/AbstractCollection" (some 0) with
  accessFlags := 1057
  interfaces := #[3]
  cf := some (fileOf pool4 8 #[] #[{ accessFlags := 4, nameIndex := 5, descriptorIndex := 6, attributes := #[] }] 1057 2 #[77] #[])
  fields := #[]
  methods := #[k4m0]
  instanceTypes := #[]
  staticTypes := #[]
  resolved := Array.replicate 160 none
  statics := none }

def pool5 : Array CpInfo := pool [(8, .class_ 10), (1, u "java/util/SequencedCollection"), (15, .class_ 27), (0, u "java/lang/Object"), (0, .class_ 29), (0, u "java/util/Collection")] 27

/-- java/util/SequencedCollection -/
def k5 : Class := { plain "java/util/SequencedCollection" (some 0) with
  accessFlags := 1537
  interfaces := #[3]
  cf := some (fileOf pool5 8 #[] #[] 1537 26 #[28] #[])
  fields := #[]
  methods := #[]
  instanceTypes := #[]
  staticTypes := #[]
  resolved := Array.replicate 57 none
  statics := none }

def pool6 : Array CpInfo := pool [(8, .class_ 10), (1, u "java/util/List"), (92, .class_ 104), (0, u "java/lang/Object"), (15, .class_ 121), (0, u "java/util/SequencedCollection")] 129

/-- java/util/List -/
def k6 : Class := { plain "java/util/List" (some 0) with
  accessFlags := 1537
  interfaces := #[5]
  cf := some (fileOf pool6 8 #[] #[] 1537 103 #[120] #[])
  fields := #[]
  methods := #[]
  instanceTypes := #[]
  staticTypes := #[]
  resolved := Array.replicate 251 none
  statics := none }

def pool7 : Array CpInfo := pool [(1, .methodref 2 3), (0, .class_ 4), (0, .nameAndType 5 6), (0, u "java/util/AbstractCollection"), (0, u "<init>"), (0, u "()V"), (0, .fieldref 8 9), (0, .class_ 10), (0, .nameAndType 11 12), (0, u "java/util/AbstractList"), (0, u "modCount"), (0, u "I"), (64, .class_ 78), (0, u "java/util/AbstractList$Itr"), (3, .class_ 83), (0, u "java/util/AbstractList$ListItr"), (9, .class_ 94), (0, u "java/util/AbstractList$RandomAccessSubList"), (3, .class_ 99), (0, u "java/util/AbstractList$SubList"), (33, .class_ 134), (0, u "java/util/List"), (73, .class_ 209), (0, u "java/util/AbstractList$SubList$1"), (0, .class_ 211), (0, u "java/util/AbstractList$RandomAccessSpliterator")] 6

def k7c0 : Code := { maxStack := 2, maxLocals := 1, code := jdk_39_method_1_code, exceptionTable := #[], attributes := #[] }
def k7m0 : Method := { name := "<init>", desc := "()V", sig := { parameters := [], returnType := none }, accessFlags := 4, code := some k7c0 }
/-- java/util/AbstractList -/
def k7 : Class := { plain "java/util/AbstractList" (some 4) with
  accessFlags := 1057
  interfaces := #[6]
  cf := some (fileOf pool7 8 #[.nestMembers #[93, 98, 208, 210, 82, 77]] #[{ accessFlags := 4, nameIndex := 5, descriptorIndex := 6, attributes := #[] }] 1057 2 #[133] #[{ accessFlags := 132, nameIndex := 11, descriptorIndex := 12, attributes := #[] }])
  fields := #[{ name := "modCount", type := .int, accessFlags := 132, slot := 0, constantValue := 0 }]
  methods := #[k7m0]
  instanceTypes := #[.int]
  staticTypes := #[]
  resolved := Array.replicate 218 none
  statics := none }

def pool8 : Array CpInfo := pool [(1, .class_ 2), (0, u "java/util/RandomAccess"), (0, .class_ 4), (0, u "java/lang/Object")] 2

/-- java/util/RandomAccess -/
def k8 : Class := { plain "java/util/RandomAccess" (some 0) with
  accessFlags := 1537
  interfaces := #[]
  cf := some (fileOf pool8 1 #[] #[] 1537 3 #[] #[])
  fields := #[]
  methods := #[]
  instanceTypes := #[]
  staticTypes := #[]
  resolved := Array.replicate 7 none
  statics := none }

def pool9 : Array CpInfo := pool [(1, .class_ 2), (0, u "java/lang/Cloneable"), (0, .class_ 4), (0, u "java/lang/Object")] 2

/-- java/lang/Cloneable -/
def k9 : Class := { plain "java/lang/Cloneable" (some 0) with
  accessFlags := 1537
  interfaces := #[]
  cf := some (fileOf pool9 1 #[] #[] 1537 3 #[] #[])
  fields := #[]
  methods := #[]
  instanceTypes := #[]
  staticTypes := #[]
  resolved := Array.replicate 7 none
  statics := none }

def pool10 : Array CpInfo := pool [(1, .class_ 2), (0, u "java/io/Serializable"), (0, .class_ 4), (0, u "java/lang/Object")] 2

/-- java/io/Serializable -/
def k10 : Class := { plain "java/io/Serializable" (some 0) with
  accessFlags := 1537
  interfaces := #[]
  cf := some (fileOf pool10 1 #[] #[] 1537 3 #[] #[])
  fields := #[]
  methods := #[]
  instanceTypes := #[]
  staticTypes := #[]
  resolved := Array.replicate 7 none
  statics := none }

def pool11 : Array CpInfo := pool [(1, .methodref 2 3), (0, .class_ 4), (0, .nameAndType 5 6), (0, u "java/util/AbstractList"), (0, u "<init>"), (0, u "()V"), (2, .fieldref 10 11), (0, .class_ 12), (0, .nameAndType 13 14), (0, u "java/util/ArrayList"), (0, u "elementData"), (0, u "[Ljava/lang/Object;"), (2, u "EMPTY_ELEMENTDATA"), (21, .fieldref 10 40), (0, .nameAndType 41 14), (0, u "DEFAULTCAPACITY_EMPTY_ELEMENTDATA"), (6, .fieldref 10 49), (0, .nameAndType 50 51), (0, u "size"), (0, u "I"), (96, .class_ 149), (0, u "java/util/List"), (16, u "iterator"), (0, u "()Ljava/util/Iterator;"), (18, u "()I"), (75, .class_ 263), (0, u "java/util/ArrayList$ListItr"), (3, .class_ 268), (0, u "java/util/ArrayList$Itr"), (0, .methodref 267 270), (0, .nameAndType 5 271), (0, u "(Ljava/util/ArrayList;)V"), (4, .class_ 277), (0, u "java/util/ArrayList$SubList"), (12, .class_ 291), (0, u "java/util/ArrayList$ArrayListSpliterator"), (37, .class_ 330), (0, u "java/util/RandomAccess"), (0, .class_ 332), (0, u "java/lang/Cloneable"), (0, .class_ 334), (0, u "java/io/Serializable"), (0, u "serialVersionUID"), (0, u "J"), (3, u "DEFAULT_CAPACITY"), (159, .class_ 501), (0, u "java/util/ArrayList$SubList$2"), (0, .class_ 503), (0, u "java/util/ArrayList$SubList$1")] 5

def k11c0 : Code := { maxStack := 2, maxLocals := 1, code := jdk_38_method_2_code, exceptionTable := #[], attributes := #[] }
def k11m0 : Method := { name := "<init>", desc := "()V", sig := { parameters := [], returnType := none }, accessFlags := 1, code := some k11c0 }
def k11c1 : Code := { maxStack := 1, maxLocals := 1, code := jdk_38_method_8_code, exceptionTable := #[], attributes := #[] }
def k11m1 : Method := { name := "size", desc := "()I", sig := { parameters := [], returnType := some .int }, accessFlags := 1, code := some k11c1 }
def k11c2 : Code := { maxStack := 3, maxLocals := 1, code := jdk_38_method_55_code, exceptionTable := #[], attributes := #[] }
def k11m2 : Method := { name := "iterator", desc := "()Ljava/util/Iterator;", sig := { parameters := [], returnType := some (.object "java/util/Iterator") }, accessFlags := 1, code := some k11c2 }
/-- java/util/ArrayList -/
def k11 : Class := { plain "java/util/ArrayList" (some 7) with
  accessFlags := 33
  interfaces := #[6, 8, 9, 10]
  cf := some (fileOf pool11 10 #[.nestMembers #[290, 276, 500, 502, 262, 267]] #[{ accessFlags := 1, nameIndex := 5, descriptorIndex := 6, attributes := #[] }, { accessFlags := 1, nameIndex := 50, descriptorIndex := 186, attributes := #[] }, { accessFlags := 1, nameIndex := 166, descriptorIndex := 167, attributes := #[] }] 33 2 #[148, 329, 331, 333] #[{ accessFlags := 26, nameIndex := 335, descriptorIndex := 336, attributes := #[] }, { accessFlags := 26, nameIndex := 340, descriptorIndex := 51, attributes := #[] }, { accessFlags := 26, nameIndex := 17, descriptorIndex := 14, attributes := #[] }, { accessFlags := 26, nameIndex := 41, descriptorIndex := 14, attributes := #[] }, { accessFlags := 128, nameIndex := 13, descriptorIndex := 14, attributes := #[] }, { accessFlags := 2, nameIndex := 50, descriptorIndex := 51, attributes := #[] }])
  fields := #[{ name := "serialVersionUID", type := .long, accessFlags := 26, slot := 0, constantValue := 0 }, { name := "DEFAULT_CAPACITY", type := .int, accessFlags := 26, slot := 1, constantValue := 0 }, { name := "EMPTY_ELEMENTDATA", type := (.array (.object "java/lang/Object")), accessFlags := 26, slot := 2, constantValue := 0 }, { name := "DEFAULTCAPACITY_EMPTY_ELEMENTDATA", type := (.array (.object "java/lang/Object")), accessFlags := 26, slot := 3, constantValue := 0 }, { name := "elementData", type := (.array (.object "java/lang/Object")), accessFlags := 128, slot := 1, constantValue := 0 }, { name := "size", type := .int, accessFlags := 2, slot := 2, constantValue := 0 }]
  methods := #[k11m0, k11m1, k11m2]
  instanceTypes := #[.int, (.array (.object "java/lang/Object")), .int]
  staticTypes := #[.long, .int, (.array (.object "java/lang/Object")), (.array (.object "java/lang/Object"))]
  resolved := Array.replicate 509 none
  statics := some 0 }

def pool12 : Array CpInfo := pool [(1, .methodref 2 3), (0, .class_ 4), (0, .nameAndType 5 6), (0, u "java/lang/Object"), (0, u "<init>"), (0, u "()V"), (0, .interfaceMethodref 8 9), (0, .class_ 10), (0, .nameAndType 11 12), (0, u "java/util/Collection"), (0, u "size"), (0, u "()I"), (0, .interfaceMethodref 8 14), (0, .nameAndType 15 16), (0, u "iterator"), (0, u "()Ljava/util/Iterator;"), (0, .interfaceMethodref 18 19), (0, .class_ 20), (0, .nameAndType 21 22), (0, u "java/util/Iterator"), (0, u "hasNext"), (0, u "()Z"), (9, .methodref 33 34), (0, .class_ 35), (0, .nameAndType 36 37), (0, u "java/util/Arrays"), (0, u "sort"), (0, u "([I)V"), (0, .fieldref 39 40), (0, .class_ 41), (0, .nameAndType 42 43), (0, u "com/example/favonius/favonius/eval/TopicRanking"), (0, u "retrieved"), (0, u "[I"), (0, .fieldref 39 45), (0, .nameAndType 46 43), (0, u "ideal"), (0, .fieldref 39 48), (0, .nameAndType 49 50), (0, u "relevant"), (0, u "I"), (0, .methodref 52 53), (0, .class_ 54), (0, .nameAndType 55 56), (0, u "java/lang/Math"), (0, u "min"), (0, u "(II)I"), (0, .methodref 39 58), (0, .nameAndType 59 60), (0, u "gradeAt"), (0, u "(I)I"), (10, u "LN_2"), (0, u "D"), (2, u "([ILjava/util/Collection;)V"), (8, u "relevantInTop")] 5

def k12c0 : Code := { maxStack := 5, maxLocals := 8, code := prog_14_method_1_code, exceptionTable := #[], attributes := #[] }
def k12m0 : Method := { name := "<init>", desc := "([ILjava/util/Collection;)V", sig := { parameters := [(.array .int), (.object "java/util/Collection")], returnType := none }, accessFlags := 0, code := some k12c0 }
def k12c1 : Code := { maxStack := 3, maxLocals := 2, code := prog_14_method_3_code, exceptionTable := #[], attributes := #[] }
def k12m1 : Method := { name := "gradeAt", desc := "(I)I", sig := { parameters := [.int], returnType := some .int }, accessFlags := 0, code := some k12c1 }
def k12c2 : Code := { maxStack := 3, maxLocals := 4, code := prog_14_method_5_code, exceptionTable := #[], attributes := #[] }
def k12m2 : Method := { name := "relevantInTop", desc := "(I)I", sig := { parameters := [.int], returnType := some .int }, accessFlags := 0, code := some k12c2 }
/-- com/example/favonius/favonius/eval/TopicRanking -/
def k12 : Class := { plain "com/example/favonius/favonius/eval/TopicRanking" (some 0) with
  accessFlags := 48
  interfaces := #[]
  cf := some (fileOf pool12 39 #[] #[{ accessFlags := 0, nameIndex := 5, descriptorIndex := 75, attributes := #[] }, { accessFlags := 0, nameIndex := 59, descriptorIndex := 60, attributes := #[] }, { accessFlags := 0, nameIndex := 84, descriptorIndex := 60, attributes := #[] }] 48 2 #[] #[{ accessFlags := 26, nameIndex := 71, descriptorIndex := 72, attributes := #[] }, { accessFlags := 18, nameIndex := 42, descriptorIndex := 43, attributes := #[] }, { accessFlags := 18, nameIndex := 46, descriptorIndex := 43, attributes := #[] }, { accessFlags := 18, nameIndex := 49, descriptorIndex := 50, attributes := #[] }])
  fields := #[{ name := "LN_2", type := .double, accessFlags := 26, slot := 0, constantValue := 0 }, { name := "retrieved", type := (.array .int), accessFlags := 18, slot := 0, constantValue := 0 }, { name := "ideal", type := (.array .int), accessFlags := 18, slot := 1, constantValue := 0 }, { name := "relevant", type := .int, accessFlags := 18, slot := 2, constantValue := 0 }]
  methods := #[k12m0, k12m1, k12m2]
  instanceTypes := #[(.array .int), (.array .int), .int]
  staticTypes := #[.double]
  resolved := Array.replicate 90 none
  statics := none }

def pool13 : Array CpInfo := pool [(16, .class_ 18), (1, u "java/util/Iterator"), (0, u "hasNext"), (0, u "()Z"), (10, .class_ 32), (0, u "java/lang/Object")] 20

def k13m0 : Method := { name := "hasNext", desc := "()Z", sig := { parameters := [], returnType := some .boolean }, accessFlags := 1025, code := none }
/-- java/util/Iterator -/
def k13 : Class := { plain "java/util/Iterator" (some 0) with
  accessFlags := 1537
  interfaces := #[]
  cf := some (fileOf pool13 16 #[] #[{ accessFlags := 1025, nameIndex := 19, descriptorIndex := 20, attributes := #[] }] 1537 31 #[] #[])
  fields := #[]
  methods := #[k13m0]
  instanceTypes := #[]
  staticTypes := #[]
  resolved := Array.replicate 53 none
  statics := none }

def pool14 : Array CpInfo := pool [(1, .fieldref 2 3), (0, .class_ 4), (0, .nameAndType 5 6), (0, u "java/util/ArrayList$Itr"), (0, u "this$0"), (0, u "Ljava/util/ArrayList;"), (0, .methodref 8 9), (0, .class_ 10), (0, .nameAndType 11 12), (0, u "java/lang/Object"), (0, u "<init>"), (0, u "()V"), (0, .fieldref 2 14), (0, .nameAndType 15 16), (0, u "lastRet"), (0, u "I"), (0, .fieldref 18 19), (0, .class_ 20), (0, .nameAndType 21 16), (0, u "java/util/ArrayList"), (0, u "modCount"), (0, .fieldref 2 23), (0, .nameAndType 24 16), (0, u "expectedModCount"), (0, .fieldref 2 26), (0, .nameAndType 27 16), (0, u "cursor"), (0, .fieldref 18 29), (0, .nameAndType 30 16), (0, u "size"), (38, .class_ 70), (0, u "java/util/Iterator"), (0, u "(Ljava/util/ArrayList;)V"), (8, u "hasNext"), (0, u "()Z")] 22

def k14c0 : Code := { maxStack := 2, maxLocals := 2, code := jdk_49_method_1_code, exceptionTable := #[], attributes := #[] }
def k14m0 : Method := { name := "<init>", desc := "(Ljava/util/ArrayList;)V", sig := { parameters := [(.object "java/util/ArrayList")], returnType := none }, accessFlags := 0, code := some k14c0 }
def k14c1 : Code := { maxStack := 2, maxLocals := 1, code := jdk_49_method_2_code, exceptionTable := #[], attributes := #[] }
def k14m1 : Method := { name := "hasNext", desc := "()Z", sig := { parameters := [], returnType := some .boolean }, accessFlags := 1, code := some k14c1 }
/-- java/util/ArrayList$Itr -/
def k14 : Class := { plain "java/util/ArrayList$Itr" (some 0) with
  accessFlags := 32
  interfaces := #[13]
  cf := some (fileOf pool14 2 #[.nestHost 18] #[{ accessFlags := 0, nameIndex := 11, descriptorIndex := 71, attributes := #[] }, { accessFlags := 1, nameIndex := 80, descriptorIndex := 81, attributes := #[] }] 32 8 #[69] #[{ accessFlags := 0, nameIndex := 27, descriptorIndex := 16, attributes := #[] }, { accessFlags := 0, nameIndex := 15, descriptorIndex := 16, attributes := #[] }, { accessFlags := 0, nameIndex := 24, descriptorIndex := 16, attributes := #[] }, { accessFlags := 4112, nameIndex := 5, descriptorIndex := 6, attributes := #[] }])
  fields := #[{ name := "cursor", type := .int, accessFlags := 0, slot := 0, constantValue := 0 }, { name := "lastRet", type := .int, accessFlags := 0, slot := 1, constantValue := 0 }, { name := "expectedModCount", type := .int, accessFlags := 0, slot := 2, constantValue := 0 }, { name := "this$0", type := (.object "java/util/ArrayList"), accessFlags := 4112, slot := 3, constantValue := 0 }]
  methods := #[k14m0, k14m1]
  instanceTypes := #[.int, .int, .int, (.object "java/util/ArrayList")]
  staticTypes := #[]
  resolved := Array.replicate 104 none
  statics := none }

def pool15 : Array CpInfo := pool [(2, .class_ 4), (1, u "java/lang/Object"), (0, u "<init>"), (0, u "()V"), (0, .methodref 8 9), (0, .class_ 10), (0, .nameAndType 11 12), (0, u "java/util/DualPivotQuicksort"), (0, u "sort"), (0, u "([IIII)V"), (1, .class_ 16), (1, u "java/util/Arrays"), (57, .class_ 76), (1, u "java/util/Arrays$NaturalOrder"), (36, .class_ 115), (1, u "java/util/Arrays$LegacyMergeSort"), (1, u "Z"), (257, .class_ 376), (0, u "java/util/Arrays$ArrayList"), (68, u "$assertionsDisabled"), (269, u "MIN_ARRAY_SORT_GRAN"), (0, u "I"), (2, u "INSERTIONSORT_THRESHOLD"), (6, u "([I)V"), (248, .class_ 976), (0, u "java/util/Arrays$ArrayItr")] 52

def k15m0 : Method := { name := "<init>", desc := "()V", sig := { parameters := [], returnType := none }, accessFlags := 2, code := none }
def k15c1 : Code := { maxStack := 4, maxLocals := 1, code := jdk_65_method_2_code, exceptionTable := #[], attributes := #[] }
def k15m1 : Method := { name := "sort", desc := "([I)V", sig := { parameters := [(.array .int)], returnType := none }, accessFlags := 9, code := some k15c1 }
/-- java/util/Arrays -/
def k15 : Class := { plain "java/util/Arrays" (some 0) with
  accessFlags := 49
  interfaces := #[]
  cf := some (fileOf pool15 14 #[.nestMembers #[975, 375, 113, 74]] #[{ accessFlags := 2, nameIndex := 5, descriptorIndex := 6, attributes := #[] }, { accessFlags := 9, nameIndex := 11, descriptorIndex := 726, attributes := #[] }] 49 2 #[] #[{ accessFlags := 26, nameIndex := 715, descriptorIndex := 716, attributes := #[] }, { accessFlags := 26, nameIndex := 719, descriptorIndex := 716, attributes := #[] }, { accessFlags := 4120, nameIndex := 445, descriptorIndex := 117, attributes := #[] }])
  fields := #[{ name := "MIN_ARRAY_SORT_GRAN", type := .int, accessFlags := 26, slot := 0, constantValue := 0 }, { name := "INSERTIONSORT_THRESHOLD", type := .int, accessFlags := 26, slot := 1, constantValue := 0 }, { name := "$assertionsDisabled", type := .boolean, accessFlags := 4120, slot := 2, constantValue := 0 }]
  methods := #[k15m0, k15m1]
  instanceTypes := #[]
  staticTypes := #[.int, .int, .boolean]
  resolved := Array.replicate 1029 none
  statics := none }

def pool16 : Array CpInfo := pool [(1, .class_ 2), (0, u "java/util/DualPivotQuicksort"), (5, .class_ 10), (1, u "java/lang/Object"), (0, u "<init>"), (0, u "()V"), (4, .class_ 18), (0, u "java/util/DualPivotQuicksort$Sorter"), (7, .methodref 1 27), (0, .nameAndType 28 29), (0, u "sort"), (0, u "(Ljava/util/DualPivotQuicksort$Sorter;[IIII)V"), (3, u "([IIII)V"), (0, .methodref 1 35), (0, .nameAndType 36 37), (0, u "insertionSort"), (0, u "([III)V"), (30, u "I"), (4, .class_ 74), (0, u "java/util/DualPivotQuicksort$RunMerger"), (10, .class_ 86), (0, u "java/util/DualPivotQuicksort$Merger"), (127, u "MAX_MIXED_INSERTION_SORT_SIZE"), (2, u "MAX_INSERTION_SORT_SIZE"), (1, u "MIN_PARALLEL_SORT_SIZE"), (1, u "MIN_TRY_MERGE_SIZE"), (0, u "MIN_FIRST_RUN_SIZE"), (1, u "MIN_FIRST_RUNS_FACTOR"), (1, u "MAX_RUN_CAPACITY"), (1, u "MIN_RUN_COUNT"), (1, u "MIN_PARALLEL_MERGE_PARTS_SIZE"), (0, u "MIN_BYTE_COUNTING_SORT_SIZE"), (1, u "MIN_SHORT_OR_CHAR_COUNTING_SORT_SIZE"), (1, u "DELTA"), (1, u "MAX_RECURSION_DEPTH"), (1, u "NUM_BYTE_VALUES"), (1, u "MAX_BYTE_INDEX"), (0, u "NUM_CHAR_VALUES"), (0, u "NUM_SHORT_VALUES"), (0, u "MAX_SHORT_INDEX")] 86

def k16m0 : Method := { name := "<init>", desc := "()V", sig := { parameters := [], returnType := none }, accessFlags := 2, code := none }
def k16c1 : Code := { maxStack := 9, maxLocals := 7, code := jdk_2529_method_3_code, exceptionTable := #[], attributes := #[] }
def k16m1 : Method := { name := "sort", desc := "([IIII)V", sig := { parameters := [(.array .int), .int, .int, .int], returnType := none }, accessFlags := 8, code := some k16c1 }
def k16c2 : Code := { maxStack := 6, maxLocals := 21, code := jdk_2529_method_4_code, exceptionTable := #[], attributes := #[] }
def k16m2 : Method := { name := "sort", desc := "(Ljava/util/DualPivotQuicksort$Sorter;[IIII)V", sig := { parameters := [(.object "java/util/DualPivotQuicksort$Sorter"), (.array .int), .int, .int, .int], returnType := none }, accessFlags := 8, code := some k16c2 }
def k16c3 : Code := { maxStack := 4, maxLocals := 6, code := jdk_2529_method_6_code, exceptionTable := #[], attributes := #[] }
def k16m3 : Method := { name := "insertionSort", desc := "([III)V", sig := { parameters := [(.array .int), .int, .int], returnType := none }, accessFlags := 10, code := some k16c3 }
/-- java/util/DualPivotQuicksort -/
def k16 : Class := { plain "java/util/DualPivotQuicksort" (some 0) with
  accessFlags := 48
  interfaces := #[]
  cf := some (fileOf pool16 1 #[.nestMembers #[73, 85, 17]] #[{ accessFlags := 2, nameIndex := 11, descriptorIndex := 12, attributes := #[] }, { accessFlags := 8, nameIndex := 28, descriptorIndex := 33, attributes := #[] }, { accessFlags := 8, nameIndex := 28, descriptorIndex := 29, attributes := #[] }, { accessFlags := 10, nameIndex := 36, descriptorIndex := 37, attributes := #[] }] 48 8 #[] #[{ accessFlags := 26, nameIndex := 214, descriptorIndex := 68, attributes := #[] }, { accessFlags := 26, nameIndex := 217, descriptorIndex := 68, attributes := #[] }, { accessFlags := 26, nameIndex := 219, descriptorIndex := 68, attributes := #[] }, { accessFlags := 26, nameIndex := 221, descriptorIndex := 68, attributes := #[] }, { accessFlags := 26, nameIndex := 222, descriptorIndex := 68, attributes := #[] }, { accessFlags := 26, nameIndex := 224, descriptorIndex := 68, attributes := #[] }, { accessFlags := 26, nameIndex := 226, descriptorIndex := 68, attributes := #[] }, { accessFlags := 26, nameIndex := 228, descriptorIndex := 68, attributes := #[] }, { accessFlags := 26, nameIndex := 230, descriptorIndex := 68, attributes := #[] }, { accessFlags := 26, nameIndex := 231, descriptorIndex := 68, attributes := #[] }, { accessFlags := 26, nameIndex := 233, descriptorIndex := 68, attributes := #[] }, { accessFlags := 26, nameIndex := 235, descriptorIndex := 68, attributes := #[] }, { accessFlags := 26, nameIndex := 237, descriptorIndex := 68, attributes := #[] }, { accessFlags := 26, nameIndex := 239, descriptorIndex := 68, attributes := #[] }, { accessFlags := 26, nameIndex := 241, descriptorIndex := 68, attributes := #[] }, { accessFlags := 26, nameIndex := 242, descriptorIndex := 68, attributes := #[] }, { accessFlags := 26, nameIndex := 243, descriptorIndex := 68, attributes := #[] }, { accessFlags := 26, nameIndex := 244, descriptorIndex := 68, attributes := #[] }])
  fields := #[{ name := "MAX_MIXED_INSERTION_SORT_SIZE", type := .int, accessFlags := 26, slot := 0, constantValue := 0 }, { name := "MAX_INSERTION_SORT_SIZE", type := .int, accessFlags := 26, slot := 1, constantValue := 0 }, { name := "MIN_PARALLEL_SORT_SIZE", type := .int, accessFlags := 26, slot := 2, constantValue := 0 }, { name := "MIN_TRY_MERGE_SIZE", type := .int, accessFlags := 26, slot := 3, constantValue := 0 }, { name := "MIN_FIRST_RUN_SIZE", type := .int, accessFlags := 26, slot := 4, constantValue := 0 }, { name := "MIN_FIRST_RUNS_FACTOR", type := .int, accessFlags := 26, slot := 5, constantValue := 0 }, { name := "MAX_RUN_CAPACITY", type := .int, accessFlags := 26, slot := 6, constantValue := 0 }, { name := "MIN_RUN_COUNT", type := .int, accessFlags := 26, slot := 7, constantValue := 0 }, { name := "MIN_PARALLEL_MERGE_PARTS_SIZE", type := .int, accessFlags := 26, slot := 8, constantValue := 0 }, { name := "MIN_BYTE_COUNTING_SORT_SIZE", type := .int, accessFlags := 26, slot := 9, constantValue := 0 }, { name := "MIN_SHORT_OR_CHAR_COUNTING_SORT_SIZE", type := .int, accessFlags := 26, slot := 10, constantValue := 0 }, { name := "DELTA", type := .int, accessFlags := 26, slot := 11, constantValue := 0 }, { name := "MAX_RECURSION_DEPTH", type := .int, accessFlags := 26, slot := 12, constantValue := 0 }, { name := "NUM_BYTE_VALUES", type := .int, accessFlags := 26, slot := 13, constantValue := 0 }, { name := "MAX_BYTE_INDEX", type := .int, accessFlags := 26, slot := 14, constantValue := 0 }, { name := "NUM_CHAR_VALUES", type := .int, accessFlags := 26, slot := 15, constantValue := 0 }, { name := "NUM_SHORT_VALUES", type := .int, accessFlags := 26, slot := 16, constantValue := 0 }, { name := "MAX_SHORT_INDEX", type := .int, accessFlags := 26, slot := 17, constantValue := 0 }]
  methods := #[k16m0, k16m1, k16m2, k16m3]
  instanceTypes := #[]
  staticTypes := #[.int, .int, .int, .int, .int, .int, .int, .int, .int, .int, .int, .int, .int, .int, .int, .int, .int, .int]
  resolved := Array.replicate 331 none
  statics := none }

def pool17 : Array CpInfo := pool [(1, .class_ 2), (0, u "java/lang/Math"), (1, .class_ 6), (1, u "java/lang/Object"), (0, u "<init>"), (0, u "()V"), (89, .class_ 100), (1, u "java/lang/Math$RandomNumberGeneratorHolder"), (71, u "negativeZeroFloatBits"), (0, u "J"), (2, u "negativeZeroDoubleBits"), (24, u "min"), (43, u "$assertionsDisabled"), (0, u "Z"), (88, u "(II)I"), (2, u "twoToTheDoubleScaleDown"), (0, u "D"), (4, u "twoToTheDoubleScaleUp"), (9, u "E"), (3, u "PI"), (2, u "TAU"), (2, u "DEGREES_TO_RADIANS"), (0, u "RADIANS_TO_DEGREES")] 94

def k17m0 : Method := { name := "<init>", desc := "()V", sig := { parameters := [], returnType := none }, accessFlags := 2, code := none }
def k17c1 : Code := { maxStack := 2, maxLocals := 2, code := jdk_29_method_69_code, exceptionTable := #[], attributes := #[] }
def k17m1 : Method := { name := "min", desc := "(II)I", sig := { parameters := [.int, .int], returnType := some .int }, accessFlags := 9, code := some k17c1 }
/-- java/lang/Math -/
def k17 : Class := { plain "java/lang/Math" (some 0) with
  accessFlags := 49
  interfaces := #[]
  cf := some (fileOf pool17 1 #[.nestMembers #[98]] #[{ accessFlags := 2, nameIndex := 7, descriptorIndex := 8, attributes := #[] }, { accessFlags := 9, nameIndex := 201, descriptorIndex := 335, attributes := #[] }] 49 4 #[] #[{ accessFlags := 25, nameIndex := 354, descriptorIndex := 339, attributes := #[] }, { accessFlags := 25, nameIndex := 358, descriptorIndex := 339, attributes := #[] }, { accessFlags := 25, nameIndex := 361, descriptorIndex := 339, attributes := #[] }, { accessFlags := 26, nameIndex := 364, descriptorIndex := 339, attributes := #[] }, { accessFlags := 26, nameIndex := 365, descriptorIndex := 339, attributes := #[] }, { accessFlags := 26, nameIndex := 172, descriptorIndex := 173, attributes := #[] }, { accessFlags := 26, nameIndex := 176, descriptorIndex := 173, attributes := #[] }, { accessFlags := 8, nameIndex := 344, descriptorIndex := 339, attributes := #[] }, { accessFlags := 8, nameIndex := 338, descriptorIndex := 339, attributes := #[] }, { accessFlags := 4120, nameIndex := 245, descriptorIndex := 246, attributes := #[] }])
  fields := #[{ name := "E", type := .double, accessFlags := 25, slot := 0, constantValue := 0 }, { name := "PI", type := .double, accessFlags := 25, slot := 1, constantValue := 0 }, { name := "TAU", type := .double, accessFlags := 25, slot := 2, constantValue := 0 }, { name := "DEGREES_TO_RADIANS", type := .double, accessFlags := 26, slot := 3, constantValue := 0 }, { name := "RADIANS_TO_DEGREES", type := .double, accessFlags := 26, slot := 4, constantValue := 0 }, { name := "negativeZeroFloatBits", type := .long, accessFlags := 26, slot := 5, constantValue := 0 }, { name := "negativeZeroDoubleBits", type := .long, accessFlags := 26, slot := 6, constantValue := 0 }, { name := "twoToTheDoubleScaleUp", type := .double, accessFlags := 8, slot := 7, constantValue := 0 }, { name := "twoToTheDoubleScaleDown", type := .double, accessFlags := 8, slot := 8, constantValue := 0 }, { name := "$assertionsDisabled", type := .boolean, accessFlags := 4120, slot := 9, constantValue := 0 }]
  methods := #[k17m0, k17m1]
  instanceTypes := #[]
  staticTypes := #[.double, .double, .double, .double, .double, .long, .long, .double, .double, .boolean]
  resolved := Array.replicate 460 none
  statics := none }

/-- the primitive byte -/
def k18 : Class := { plain "byte" none with kind := .primitive 'B', accessFlags := 0x411 }
/-- [B -/
def k19 : Class := { plain "[B" (some 0) with kind := .array 18 .byte, interfaces := #[9, 10], accessFlags := 1041 }

/-- the primitive int -/
def k20 : Class := { plain "int" none with kind := .primitive 'I', accessFlags := 0x411 }
/-- [I -/
def k21 : Class := { plain "[I" (some 0) with kind := .array 20 .int, interfaces := #[9, 10], accessFlags := 1041 }

/-- [Ljava/lang/Object; -/
def k22 : Class := { plain "[Ljava/lang/Object;" (some 0) with kind := .array 0 (.object "java/lang/Object"), interfaces := #[9, 10], accessFlags := 1041 }

def heap : Heap := #[{ cls := 11, slots := #[.long 0, .int 0, .ref 1, .ref 2], vm := .statics 11 },
  { cls := 22, slots := #[], vm := .none },
  { cls := 22, slots := #[], vm := .none }]
def classes : Array Class := #[k0, k1, k2, k3, k4, k5, k6, k7, k8, k9, k10, k11, k12, k13, k14, k15, k16, k17, k18, k19, k20, k21, k22]
def interned : List (Array UInt16 × Addr) := []
def slotsUsed : Nat := 4
def theMethod : MethodId := ⟨1, 3⟩
def args0 : Array Value := #[.int 5, .int 5, .int 5, .int 5, .int 5, .int 5]
def aboutOver (below : List Frame) : State where
  vm := { classes := classes, interned := interned.toArray }
  heap := heap
  slotsUsed := slotsUsed
  threads := #[{ frames := .invoking theMethod args0 :: below }]
def below0 : List Frame := [.native { method := ⟨0, 0⟩, args := #[] }]
def about1 : State := aboutOver below0
def p0 : Program := .bare "" "" ""
def e0 : Env := launch0.env 0 0 0
theorem w_frames : about1.frames = Frame.invoking theMethod args0 :: below0 := rfl
set_option maxRecDepth 65536 in
theorem w_args : argsFit about1.vm theMethod args0 = true := by decide +kernel
set_option maxRecDepth 65536 in
theorem w_heap : heapFits about1 = true := by decide +kernel
set_option maxRecDepth 65536 in
theorem w_runnable : about1.curStatus? = some .runnable := by decide +kernel
set_option maxRecDepth 65536 in
theorem w_alone : about1.alone = true := by decide +kernel
set_option maxRecDepth 65536 in
theorem w_named : about1.methodNamed? x = some theMethod := by decide +kernel
set_option maxRecDepth 65536 in
theorem w_hears : about1.hears theMethod below0 = true := by decide +kernel
set_option maxRecDepth 65536 in
theorem w_ripe : about1.ripe theMethod args0 below0 = true := by decide +kernel
theorem w_running : about1.status = .running := rfl
set_option maxRecDepth 65536 in
theorem w_room : about1.hasRoom e0.platform room_1 = true :=
  launch0.hasRoom_least _ room_1 (by decide +kernel) (by decide +kernel) (by decide +kernel) (by decide +kernel) (by decide +kernel) (by decide +kernel)
theorem allAtoms_all (ts : List Jvm.Cond) (a : Array Jvm.Value) (st : Jvm.State) : (allAtoms ts).before a st = ts.all (fun c => c.before a st) := by
  induction ts with
  | nil => rfl
  | cons c t ih =>
    show (Jvm.Cond.and c (allAtoms t)).before a st = _
    rw [Jvm.Cond.before_and, ih, List.all_cons]
def words1 : List Jvm.Cond := Jvm.Cond.code x code maxLocals ret :: tables_1
/-- a 'code' word, met by the world's own term for the bytes: nothing is compared byte by byte -/
theorem code_word {y : MethodName} {bytes : ByteArray} {mx : Nat} {rt : Option FieldType} {a : Array Value} {s : State} {m : MethodId} {meth : Method} {c : Code} (h1 : s.methodNamed? y = some m) (h2 : s.vm.method? m = some meth) (h3 : meth.code = some c) (h4 : c.code = bytes)
    (h5 : (c.maxLocals == mx && c.exceptionTable.isEmpty && decide (c.maxStack ≤ mostOperands) && decide (meth.sig.returnType = rt) && !meth.locks && decide (parseMethodDescriptor y.desc = some meth.sig)) = true) : (Jvm.Cond.code y bytes mx rt).before a s = true := by
  simp only [Bool.and_eq_true, beq_iff_eq, Bool.not_eq_true', decide_eq_true_eq] at h5
  obtain ⟨⟨⟨⟨⟨g1, g2⟩, g3⟩, g4⟩, g5⟩, g6⟩ := h5
  simp [Cond.before, Cond.holds, Cond.value, h1, h2, h3, h4, g1, g2, g3, g4, g5, g6]
def isCode : Jvm.Cond → Bool
  | .code _ _ _ _ => true
  | _ => false
theorem all_split {L : List Jvm.Cond} {P : Jvm.Cond → Bool} (h1 : L.all (fun c => isCode c || P c) = true) (h2 : ∀ c ∈ L.filter isCode, P c = true) : L.all P = true := by
  refine List.all_eq_true.mpr fun c hc => ?_
  have h := List.all_eq_true.mp h1 c hc
  rcases Bool.eq_false_or_eq_true (isCode c) with hi | hi
  · exact h2 c (List.mem_filter.mpr ⟨hc, hi⟩)
  · simpa [hi] using h
set_option maxRecDepth 65536 in
theorem w_c0 : (Jvm.Cond.code x code maxLocals ret).before args0 about1 = true := code_word (m := ⟨1, 3⟩) (meth := k1m3) (c := k1c3) (by decide +kernel) rfl rfl rfl (by decide +kernel)
set_option maxRecDepth 65536 in
theorem w_c1 : (Jvm.Cond.code ({ cls := "com/example/favonius/favonius/eval/TopicRankingRelevantInTopPinLaw", name := "make", desc := "(IIIII)[I" } : Jvm.MethodName) method_2_code (5 : Nat) (Option.some (Jvm.ClassFile.FieldType.array Jvm.ClassFile.FieldType.int))).before args0 about1 = true := code_word (m := ⟨1, 1⟩) (meth := k1m1) (c := k1c1) (by decide +kernel) rfl rfl rfl (by decide +kernel)
set_option maxRecDepth 65536 in
theorem w_c2 : (Jvm.Cond.code ({ cls := "java/util/ArrayList", name := "<init>", desc := "()V" } : Jvm.MethodName) jdk_38_method_2_code (1 : Nat) (Option.none : Option Jvm.ClassFile.FieldType)).before args0 about1 = true := code_word (m := ⟨11, 0⟩) (meth := k11m0) (c := k11c0) (by decide +kernel) rfl rfl rfl (by decide +kernel)
set_option maxRecDepth 65536 in
theorem w_c3 : (Jvm.Cond.code ({ cls := "java/util/AbstractList", name := "<init>", desc := "()V" } : Jvm.MethodName) jdk_39_method_1_code (1 : Nat) (Option.none : Option Jvm.ClassFile.FieldType)).before args0 about1 = true := code_word (m := ⟨7, 0⟩) (meth := k7m0) (c := k7c0) (by decide +kernel) rfl rfl rfl (by decide +kernel)
set_option maxRecDepth 65536 in
theorem w_c4 : (Jvm.Cond.code ({ cls := "java/util/AbstractCollection", name := "<init>", desc := "()V" } : Jvm.MethodName) jdk_22_method_1_code (1 : Nat) (Option.none : Option Jvm.ClassFile.FieldType)).before args0 about1 = true := code_word (m := ⟨4, 0⟩) (meth := k4m0) (c := k4c0) (by decide +kernel) rfl rfl rfl (by decide +kernel)
set_option maxRecDepth 65536 in
theorem w_c5 : (Jvm.Cond.code ({ cls := "java/lang/Object", name := "<init>", desc := "()V" } : Jvm.MethodName) object_method_1_code (1 : Nat) (Option.none : Option Jvm.ClassFile.FieldType)).before args0 about1 = true := code_word (m := ⟨0, 0⟩) (meth := k0m0) (c := k0c0) (by decide +kernel) rfl rfl rfl (by decide +kernel)
set_option maxRecDepth 65536 in
theorem w_c6 : (Jvm.Cond.code ({ cls := "com/example/favonius/favonius/eval/TopicRanking", name := "<init>", desc := "([ILjava/util/Collection;)V" } : Jvm.MethodName) prog_14_method_1_code (8 : Nat) (Option.none : Option Jvm.ClassFile.FieldType)).before args0 about1 = true := code_word (m := ⟨12, 0⟩) (meth := k12m0) (c := k12c0) (by decide +kernel) rfl rfl rfl (by decide +kernel)
set_option maxRecDepth 65536 in
theorem w_c7 : (Jvm.Cond.code ({ cls := "java/util/ArrayList", name := "size", desc := "()I" } : Jvm.MethodName) jdk_38_method_8_code (1 : Nat) (Option.some Jvm.ClassFile.FieldType.int)).before args0 about1 = true := code_word (m := ⟨11, 1⟩) (meth := k11m1) (c := k11c1) (by decide +kernel) rfl rfl rfl (by decide +kernel)
set_option maxRecDepth 65536 in
theorem w_c8 : (Jvm.Cond.code ({ cls := "java/util/ArrayList", name := "iterator", desc := "()Ljava/util/Iterator;" } : Jvm.MethodName) jdk_38_method_55_code (1 : Nat) (Option.some (Jvm.ClassFile.FieldType.object "java/util/Iterator"))).before args0 about1 = true := code_word (m := ⟨11, 2⟩) (meth := k11m2) (c := k11c2) (by decide +kernel) rfl rfl rfl (by decide +kernel)
set_option maxRecDepth 65536 in
theorem w_c9 : (Jvm.Cond.code ({ cls := "java/util/ArrayList$Itr", name := "<init>", desc := "(Ljava/util/ArrayList;)V" } : Jvm.MethodName) jdk_49_method_1_code (2 : Nat) (Option.none : Option Jvm.ClassFile.FieldType)).before args0 about1 = true := code_word (m := ⟨14, 0⟩) (meth := k14m0) (c := k14c0) (by decide +kernel) rfl rfl rfl (by decide +kernel)
set_option maxRecDepth 65536 in
theorem w_c10 : (Jvm.Cond.code ({ cls := "java/util/ArrayList$Itr", name := "hasNext", desc := "()Z" } : Jvm.MethodName) jdk_49_method_2_code (1 : Nat) (Option.some Jvm.ClassFile.FieldType.boolean)).before args0 about1 = true := code_word (m := ⟨14, 1⟩) (meth := k14m1) (c := k14c1) (by decide +kernel) rfl rfl rfl (by decide +kernel)
set_option maxRecDepth 65536 in
theorem w_c11 : (Jvm.Cond.code ({ cls := "java/util/Arrays", name := "sort", desc := "([I)V" } : Jvm.MethodName) jdk_65_method_2_code (1 : Nat) (Option.none : Option Jvm.ClassFile.FieldType)).before args0 about1 = true := code_word (m := ⟨15, 1⟩) (meth := k15m1) (c := k15c1) (by decide +kernel) rfl rfl rfl (by decide +kernel)
set_option maxRecDepth 65536 in
theorem w_c12 : (Jvm.Cond.code ({ cls := "java/util/DualPivotQuicksort", name := "sort", desc := "([IIII)V" } : Jvm.MethodName) jdk_2529_method_3_code (7 : Nat) (Option.none : Option Jvm.ClassFile.FieldType)).before args0 about1 = true := code_word (m := ⟨16, 1⟩) (meth := k16m1) (c := k16c1) (by decide +kernel) rfl rfl rfl (by decide +kernel)
set_option maxRecDepth 65536 in
theorem w_c13 : (Jvm.Cond.code ({ cls := "java/util/DualPivotQuicksort", name := "sort", desc := "(Ljava/util/DualPivotQuicksort$Sorter;[IIII)V" } : Jvm.MethodName) jdk_2529_method_4_code (21 : Nat) (Option.none : Option Jvm.ClassFile.FieldType)).before args0 about1 = true := code_word (m := ⟨16, 2⟩) (meth := k16m2) (c := k16c2) (by decide +kernel) rfl rfl rfl (by decide +kernel)
set_option maxRecDepth 65536 in
theorem w_c14 : (Jvm.Cond.code ({ cls := "java/util/DualPivotQuicksort", name := "insertionSort", desc := "([III)V" } : Jvm.MethodName) jdk_2529_method_6_code (6 : Nat) (Option.none : Option Jvm.ClassFile.FieldType)).before args0 about1 = true := code_word (m := ⟨16, 3⟩) (meth := k16m3) (c := k16c3) (by decide +kernel) rfl rfl rfl (by decide +kernel)
set_option maxRecDepth 65536 in
theorem w_c15 : (Jvm.Cond.code ({ cls := "com/example/favonius/favonius/eval/TopicRankingRelevantInTopPinLaw", name := "term", desc := "(IIII)I" } : Jvm.MethodName) method_3_code (4 : Nat) (Option.some Jvm.ClassFile.FieldType.int)).before args0 about1 = true := code_word (m := ⟨1, 2⟩) (meth := k1m2) (c := k1c2) (by decide +kernel) rfl rfl rfl (by decide +kernel)
set_option maxRecDepth 65536 in
theorem w_c16 : (Jvm.Cond.code ({ cls := "com/example/favonius/favonius/eval/TopicRanking", name := "relevantInTop", desc := "(I)I" } : Jvm.MethodName) prog_14_method_5_code (4 : Nat) (Option.some Jvm.ClassFile.FieldType.int)).before args0 about1 = true := code_word (m := ⟨12, 2⟩) (meth := k12m2) (c := k12c2) (by decide +kernel) rfl rfl rfl (by decide +kernel)
set_option maxRecDepth 65536 in
theorem w_c17 : (Jvm.Cond.code ({ cls := "java/lang/Math", name := "min", desc := "(II)I" } : Jvm.MethodName) jdk_29_method_69_code (2 : Nat) (Option.some Jvm.ClassFile.FieldType.int)).before args0 about1 = true := code_word (m := ⟨17, 1⟩) (meth := k17m1) (c := k17c1) (by decide +kernel) rfl rfl rfl (by decide +kernel)
set_option maxRecDepth 65536 in
theorem w_c18 : (Jvm.Cond.code ({ cls := "com/example/favonius/favonius/eval/TopicRanking", name := "gradeAt", desc := "(I)I" } : Jvm.MethodName) prog_14_method_3_code (2 : Nat) (Option.some Jvm.ClassFile.FieldType.int)).before args0 about1 = true := code_word (m := ⟨12, 1⟩) (meth := k12m1) (c := k12c1) (by decide +kernel) rfl rfl rfl (by decide +kernel)
def codes1 : List Jvm.Cond := [Jvm.Cond.code x code maxLocals ret, Jvm.Cond.code ({ cls := "com/example/favonius/favonius/eval/TopicRankingRelevantInTopPinLaw", name := "make", desc := "(IIIII)[I" } : Jvm.MethodName) method_2_code (5 : Nat) (Option.some (Jvm.ClassFile.FieldType.array Jvm.ClassFile.FieldType.int)), Jvm.Cond.code ({ cls := "java/util/ArrayList", name := "<init>", desc := "()V" } : Jvm.MethodName) jdk_38_method_2_code (1 : Nat) (Option.none : Option Jvm.ClassFile.FieldType), Jvm.Cond.code ({ cls := "java/util/AbstractList", name := "<init>", desc := "()V" } : Jvm.MethodName) jdk_39_method_1_code (1 : Nat) (Option.none : Option Jvm.ClassFile.FieldType), Jvm.Cond.code ({ cls := "java/util/AbstractCollection", name := "<init>", desc := "()V" } : Jvm.MethodName) jdk_22_method_1_code (1 : Nat) (Option.none : Option Jvm.ClassFile.FieldType), Jvm.Cond.code ({ cls := "java/lang/Object", name := "<init>", desc := "()V" } : Jvm.MethodName) object_method_1_code (1 : Nat) (Option.none : Option Jvm.ClassFile.FieldType), Jvm.Cond.code ({ cls := "com/example/favonius/favonius/eval/TopicRanking", name := "<init>", desc := "([ILjava/util/Collection;)V" } : Jvm.MethodName) prog_14_method_1_code (8 : Nat) (Option.none : Option Jvm.ClassFile.FieldType), Jvm.Cond.code ({ cls := "java/util/ArrayList", name := "size", desc := "()I" } : Jvm.MethodName) jdk_38_method_8_code (1 : Nat) (Option.some Jvm.ClassFile.FieldType.int), Jvm.Cond.code ({ cls := "java/util/ArrayList", name := "iterator", desc := "()Ljava/util/Iterator;" } : Jvm.MethodName) jdk_38_method_55_code (1 : Nat) (Option.some (Jvm.ClassFile.FieldType.object "java/util/Iterator")), Jvm.Cond.code ({ cls := "java/util/ArrayList$Itr", name := "<init>", desc := "(Ljava/util/ArrayList;)V" } : Jvm.MethodName) jdk_49_method_1_code (2 : Nat) (Option.none : Option Jvm.ClassFile.FieldType), Jvm.Cond.code ({ cls := "java/util/ArrayList$Itr", name := "hasNext", desc := "()Z" } : Jvm.MethodName) jdk_49_method_2_code (1 : Nat) (Option.some Jvm.ClassFile.FieldType.boolean), Jvm.Cond.code ({ cls := "java/util/Arrays", name := "sort", desc := "([I)V" } : Jvm.MethodName) jdk_65_method_2_code (1 : Nat) (Option.none : Option Jvm.ClassFile.FieldType), Jvm.Cond.code ({ cls := "java/util/DualPivotQuicksort", name := "sort", desc := "([IIII)V" } : Jvm.MethodName) jdk_2529_method_3_code (7 : Nat) (Option.none : Option Jvm.ClassFile.FieldType), Jvm.Cond.code ({ cls := "java/util/DualPivotQuicksort", name := "sort", desc := "(Ljava/util/DualPivotQuicksort$Sorter;[IIII)V" } : Jvm.MethodName) jdk_2529_method_4_code (21 : Nat) (Option.none : Option Jvm.ClassFile.FieldType), Jvm.Cond.code ({ cls := "java/util/DualPivotQuicksort", name := "insertionSort", desc := "([III)V" } : Jvm.MethodName) jdk_2529_method_6_code (6 : Nat) (Option.none : Option Jvm.ClassFile.FieldType), Jvm.Cond.code ({ cls := "com/example/favonius/favonius/eval/TopicRankingRelevantInTopPinLaw", name := "term", desc := "(IIII)I" } : Jvm.MethodName) method_3_code (4 : Nat) (Option.some Jvm.ClassFile.FieldType.int), Jvm.Cond.code ({ cls := "com/example/favonius/favonius/eval/TopicRanking", name := "relevantInTop", desc := "(I)I" } : Jvm.MethodName) prog_14_method_5_code (4 : Nat) (Option.some Jvm.ClassFile.FieldType.int), Jvm.Cond.code ({ cls := "java/lang/Math", name := "min", desc := "(II)I" } : Jvm.MethodName) jdk_29_method_69_code (2 : Nat) (Option.some Jvm.ClassFile.FieldType.int), Jvm.Cond.code ({ cls := "com/example/favonius/favonius/eval/TopicRanking", name := "gradeAt", desc := "(I)I" } : Jvm.MethodName) prog_14_method_3_code (2 : Nat) (Option.some Jvm.ClassFile.FieldType.int)]
set_option maxRecDepth 65536 in
theorem codes_eq : words1.filter isCode = codes1 := rfl
theorem w_codes : ∀ c ∈ words1.filter isCode, c.before args0 about1 = true := by
  rw [codes_eq]
  intro c hc
  simp only [codes1, List.mem_cons, List.not_mem_nil, or_false] at hc
  rcases hc with rfl | rfl | rfl | rfl | rfl | rfl | rfl | rfl | rfl | rfl | rfl | rfl | rfl | rfl | rfl | rfl | rfl | rfl | rfl
  · exact w_c0
  · exact w_c1
  · exact w_c2
  · exact w_c3
  · exact w_c4
  · exact w_c5
  · exact w_c6
  · exact w_c7
  · exact w_c8
  · exact w_c9
  · exact w_c10
  · exact w_c11
  · exact w_c12
  · exact w_c13
  · exact w_c14
  · exact w_c15
  · exact w_c16
  · exact w_c17
  · exact w_c18
set_option maxRecDepth 65536 in
theorem w_t1 : (words1.take 24).all (fun c => isCode c || c.before args0 about1) = true := by decide +kernel
set_option maxRecDepth 65536 in
theorem w_t2 : ((words1.drop 24).take 24).all (fun c => isCode c || c.before args0 about1) = true := by decide +kernel
set_option maxRecDepth 65536 in
theorem w_t3 : (((words1.drop 24).drop 24).take 24).all (fun c => isCode c || c.before args0 about1) = true := by decide +kernel
set_option maxRecDepth 65536 in
theorem w_t4 : ((((words1.drop 24).drop 24).drop 24).take 24).all (fun c => isCode c || c.before args0 about1) = true := by decide +kernel
set_option maxRecDepth 65536 in
theorem w_t5 : (((((words1.drop 24).drop 24).drop 24).drop 24).take 24).all (fun c => isCode c || c.before args0 about1) = true := by decide +kernel
set_option maxRecDepth 65536 in
theorem w_t6 : (((((words1.drop 24).drop 24).drop 24).drop 24).drop 24).all (fun c => isCode c || c.before args0 about1) = true := by decide +kernel
theorem w_tables : (allAtoms (Jvm.Cond.code x code maxLocals ret :: tables_1)).before args0 about1 = true := by
  rw [allAtoms_all]
  show words1.all (fun c => c.before args0 about1) = true
  refine all_split ?_ w_codes
  rw [← List.take_append_drop 24 words1, List.all_append, w_t1, ← List.take_append_drop 24 (words1.drop 24), List.all_append, w_t2, ← List.take_append_drop 24 ((words1.drop 24).drop 24), List.all_append, w_t3, ← List.take_append_drop 24 (((words1.drop 24).drop 24).drop 24), List.all_append, w_t4, ← List.take_append_drop 24 ((((words1.drop 24).drop 24).drop 24).drop 24), List.all_append, w_t5, w_t6]
  rfl
set_option maxRecDepth 65536 in
theorem w_rest : rest_1_c.before args0 about1 = true := by decide +kernel
set_option maxRecDepth 65536 in
theorem w_case : (Jvm.Cond.and given_1 narrow_1).before args0 about1 = true := by decide +kernel
theorem w_applies : (headSpec (Jvm.Cond.code x code maxLocals ret :: tables_1) room_1).applies x e0.platform about1 = true :=
  (Spec.applies_iff w_frames).mpr ⟨w_running, w_runnable, w_alone, w_named, w_hears, w_ripe, w_room, w_tables⟩
theorem atStart : AtStart classFile x code maxLocals ret World_1 tables_1 room_1 Calls_1 rest_1 Pre_1 launch0 p0 e0 about1 theMethod args0 below0 :=
  ⟨lists_1, trivial, launch0.admits_env _ _ _, launch0.least_env, fairChoices_fair.cas, fairChoices_fair.clock, w_frames, w_args, w_heap, w_applies, trivial, w_rest, w_case⟩
end start1
theorem witness_1 : WitnessClaimed_1 := ⟨start1.p0, start1.e0, start1.about1, start1.theMethod, start1.args0, start1.below0, start1.atStart⟩
end Jvm.Pilot.@@N@@
