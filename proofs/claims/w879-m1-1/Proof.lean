import JvmDerived
import JvmDerived.Pilot.@@N@@Statement
import JvmDerived.Pilot.@@N@@Code
set_option linter.unusedVariables false
set_option linter.unusedSimpArgs false
/- laws to paste: Road.backV, Road.eqW, Road.codOf (cut by pick.py; bodies as the Statement names them) -/
namespace Jvm.Pilot.@@N@@
namespace StrChars
open Jvm Sem ClassFile Op Lib Jvm.Stand Jvm.Free.XT Jvm.Free.ALB Jvm.Free.JM Jvm.Free
open Jvm.Lib.Cold (StaticIs)
/-- a char array whose places are chars -/
def Ch (a : Addr) (A : Cell) (U : State) : Prop := Arr .char a A U ∧ Typed .char A
theorem Ch.mv {a : Addr} {A : Cell} {U U' : State} (h : Ch a A U) (hal : U.vm.Alike U'.vm) (hh : U'.heap = U.heap) : Ch a A U' := ⟨h.1.mv hal hh, h.2⟩
theorem Ch.keep {a : Addr} {A : Cell} {U U' : State} (h : Ch a A U) (hal : U.vm.Alike U'.vm) (hk : U'.heap[a]? = some A) : Ch a A U' := ⟨h.1.keep hal hk, h.2⟩
/-- what place i of a char[]'s cell holds -/
def cv (A : Cell) (i : Nat) : Int32 := match A.slots[i]? with | some (.int x) => x | _ => 0
theorem Ch.get {a : Addr} {A : Cell} {U : State} (h : Ch a A U) {i : Nat} (hi : i < A.slots.size) : A.slots[i]? = some (.int (cv A i)) := by
  have e := Array.getElem?_eq_getElem hi
  have f := h.2 i _ e
  unfold cv; rw [e]
  generalize A.slots[i] = v at f
  cases v <;> simp [fits] at f ⊢
/-- the byte that i2b leaves of a char -/
def lo8 (x : Int32) : Int32 := x.toInt8.toInt32
theorem fits_lo8 (y : Int32) : fits .byte (.int (lo8 y)) = true := by
  have h1 := y.toInt8.le_toInt
  have h2 := y.toInt8.toInt_lt
  simp only [lo8, fits, Bool.and_eq_true, decide_eq_true_eq, Int32.le_iff_toInt_le, Int8.toInt_toInt32, show (-128 : Int32).toInt = -128 from by decide, show (127 : Int32).toInt = 127 from by decide]
  omega
/-- A' is A but that each place j of lo .. hi - 1 holds f j -/
def Laid (A A' : Cell) (lo hi : Nat) (f : Nat → Value) : Prop := A'.cls = A.cls ∧ A'.vm = A.vm ∧ A'.slots.size = A.slots.size ∧ ∀ i, A'.slots[i]? = if lo ≤ i ∧ i < hi then some (f i) else A.slots[i]?
theorem Laid.zero (A : Cell) (lo : Nat) (f : Nat → Value) : Laid A A lo (lo + 0) f := ⟨rfl, rfl, rfl, fun i => by rw [if_neg (by omega)]⟩
theorem Laid.step {A Ak : Cell} {lo k : Nat} {f : Nat → Value} {v : Value} (h : Laid A Ak lo k f) (hlo : lo ≤ k) (hk : k < Ak.slots.size) (hv : v = f k) : Laid A (Ak.setSlot k v) lo (k + 1) f := by
  refine ⟨h.1, h.2.1, by simpa [Cell.setSlot] using h.2.2.1, fun i => ?_⟩
  by_cases e : k = i
  · subst e; rw [Cell.slots_setSlot_self v hk, if_pos (by omega), hv]
  · rw [Cell.slots_setSlot_ne v e, h.2.2.2 i]
    by_cases q : lo ≤ i ∧ i < k
    · rw [if_pos q, if_pos (by omega)]
    · rw [if_neg q, if_neg (by omega)]
def U16 : String := "java/lang/StringUTF16"
namespace Cmp5
def yN : MethodName := ⟨"java/lang/StringUTF16", "compress", "([CI[BII)I"⟩
abbrev yB : ByteArray := jdk_52_method_21_code
theorem d0 : decode yB 0 = .ok (.iconst 0, 1) := by decide +kernel
theorem d1 : decode yB 1 = .ok (.istore 5, 2) := by decide +kernel
theorem d3 : decode yB 3 = .ok (.iload 5, 2) := by decide +kernel
theorem d5 : decode yB 5 = .ok (.iload 4, 2) := by decide +kernel
theorem d7 : decode yB 7 = .ok (.if_icmp (.ge) 37, 3) := by decide +kernel
theorem d10 : decode yB 10 = .ok (.aload_n 0, 1) := by decide +kernel
theorem d11 : decode yB 11 = .ok (.iload_n 1, 1) := by decide +kernel
theorem d12 : decode yB 12 = .ok (.caload, 1) := by decide +kernel
theorem d13 : decode yB 13 = .ok (.istore 6, 2) := by decide +kernel
theorem d15 : decode yB 15 = .ok (.iload 6, 2) := by decide +kernel
theorem d17 : decode yB 17 = .ok (.sipush 255, 3) := by decide +kernel
theorem d20 : decode yB 20 = .ok (.if_icmp (.le) 6, 3) := by decide +kernel
theorem d26 : decode yB 26 = .ok (.aload_n 2, 1) := by decide +kernel
theorem d27 : decode yB 27 = .ok (.iload_n 3, 1) := by decide +kernel
theorem d28 : decode yB 28 = .ok (.iload 6, 2) := by decide +kernel
theorem d30 : decode yB 30 = .ok (.i2b, 1) := by decide +kernel
theorem d31 : decode yB 31 = .ok (.bastore, 1) := by decide +kernel
theorem d32 : decode yB 32 = .ok (.iinc 1 1, 3) := by decide +kernel
theorem d35 : decode yB 35 = .ok (.iinc 3 1, 3) := by decide +kernel
theorem d38 : decode yB 38 = .ok (.iinc 5 1, 3) := by decide +kernel
theorem d41 : decode yB 41 = .ok (.goto (-38), 3) := by decide +kernel
theorem d44 : decode yB 44 = .ok (.iload 4, 2) := by decide +kernel
theorem d46 : decode yB 46 = .ok (.ireturn, 1) := by decide +kernel
def site : List Cond := []
def tab : Cond := tabOf yN yB 7 (some .int) site
def P (b : Addr) (A : Cell) (d : Addr) (B : Cell) (o q len : Nat) (args : Array Value) (s : State) : Prop := args = #[.ref b, .int (Int32.ofNat o), .ref d, .int (Int32.ofNat q), .int (Int32.ofNat len)] ∧ Ch b A s ∧ Arr .byte d B s ∧ b ≠ d ∧ o + len ≤ A.slots.size ∧ q + len ≤ B.slots.size ∧ ∀ i, i < len → ¬ 255 < cv A (o + i)
def E (b : Addr) (A : Cell) (d : Addr) (B : Cell) (o q len : Nat) (r : Option Value) (s u : State) : Prop := r = some (.int (Int32.ofNat len)) ∧ ∃ B', Put d B' s u ∧ Laid B B' q (q + len) (fun j => Value.int (lo8 (cv A (o + (j - q)))))
/-- no char of the range above 255: len; the places written hold each char's low byte -/
theorem law (l : Launch) (b : Addr) (A : Cell) (d : Addr) (B : Cell) (o q len : Nat) : Law l yN 5 5 0 0 yB 7 (some .int) site (P b A d B o q len) (E b A d B o q len) (copyLocs d q len) 0 0 := by
  refine Law.of_walk (plainFor_of_name (by decide +kernel)) (by decide +kernel) (by decide +kernel) (by decide) (fun _ _ h => by rw [h.1]; rfl) (fun _ U U' hal hh h => ⟨h.1, h.2.1.mv hal hh, h.2.2.1.mv hal hh, h.2.2.2⟩) (fun r U U' V V' h1 hal h2 h => ⟨h.1, h.2.elim fun B' q => ⟨B', q.1.mv h1 h2, q.2⟩⟩) ?_
  intro p e s m args below meth c s₁ X0 hexec hbytes hml hret hlk hnm hown hh0 W hP
  obtain ⟨rfl, hA, hB, hne, l1, l2, hp⟩ := hP
  have c1 : Steps p.tables e below (s₁.setTop (entryFrame m #[.ref b, .int (Int32.ofNat o), .ref d, .int (Int32.ofNat q), .int (Int32.ofNat len)] 7)) (s₁.setTop (mkF m 0 #[.val (.ref b), .val (.int (Int32.ofNat o)), .val (.ref d), .val (.int (Int32.ofNat q)), .val (.int (Int32.ofNat len)), .unset, .unset] [])) := entry rfl
  have hA0 := hA.1.mv X0.warmed.alike hh0
  have hB0 := hB.mv X0.warmed.alike hh0
  have a31 := hA.1.2.2.2
  have c2 : Steps p.tables e below (s₁.setTop (entryFrame m #[.ref b, .int (Int32.ofNat o), .ref d, .int (Int32.ofNat q), .int (Int32.ofNat len)] 7)) (s₁.setTop (mkF m 3 #[.val (.ref b), .val (.int (Int32.ofNat o)), .val (.ref d), .val (.int (Int32.ofNat q)), .val (.int (Int32.ofNat len)), .val (.int 0), .unset] [])) := c1.trans (by
    refine iconstV X0.here hexec rfl 0 (hb hbytes d0) (by decide) ?_
    refine XS.istore X0.here hexec rfl (hb hbytes d1) rfl rfl ?_
    exact Steps.refl _)
  have loop : ∀ (r i : Nat), i + r = len → ∀ (z : Slot), (z = .unset ∨ ∃ w, z = .val w ∧ w.category = 1) → ∀ (Tl : State) (Bk : Cell), Stand p l e { frames := 0, locals := 0, cells := 0, slots := 0 } s m #[.ref b, .int (Int32.ofNat o), .ref d, .int (Int32.ofNat q), .int (Int32.ofNat len)] below meth c Tl ([] ++ copyLocs d q i) 0 0 → Put d Bk s₁ Tl → Laid B Bk q (q + i) (fun j => Value.int (lo8 (cv A (o + (j - q))))) →
      Steps p.tables e below (s₁.setTop (entryFrame m #[.ref b, .int (Int32.ofNat o), .ref d, .int (Int32.ofNat q), .int (Int32.ofNat len)] 7)) (Tl.setTop (mkF m 3 #[.val (.ref b), .val (.int (Int32.ofNat (o + i))), .val (.ref d), .val (.int (Int32.ofNat (q + i))), .val (.int (Int32.ofNat len)), .val (.int (Int32.ofNat i)), z] [])) → ∃ (T' : State) (B' : Cell) (z' : Slot), Stand p l e { frames := 0, locals := 0, cells := 0, slots := 0 } s m #[.ref b, .int (Int32.ofNat o), .ref d, .int (Int32.ofNat q), .int (Int32.ofNat len)] below meth c T' ([] ++ copyLocs d q len) 0 0 ∧ Put d B' s₁ T' ∧ Laid B B' q (q + len) (fun j => Value.int (lo8 (cv A (o + (j - q))))) ∧
      Steps p.tables e below (s₁.setTop (entryFrame m #[.ref b, .int (Int32.ofNat o), .ref d, .int (Int32.ofNat q), .int (Int32.ofNat len)] 7)) (T'.setTop (mkF m 3 #[.val (.ref b), .val (.int (Int32.ofNat (o + len))), .val (.ref d), .val (.int (Int32.ofNat (q + len))), .val (.int (Int32.ofNat len)), .val (.int (Int32.ofNat len)), z'] [])) := by
    intro r
    induction r with
    | zero =>
      intro i hi z hz Tl Bk Xl pl fl cl
      have hil : i = len := by omega
      rw [hil] at Xl fl cl
      exact ⟨Tl, Bk, z, Xl, pl, fl, cl⟩
    | succ r ih =>
      intro i hi z hz Tl Bk Xl pl fl cl
      have all := X0.warmed.alike.symm.trans Xl.warmed.alike
      have hAl := hA0.keep all (pl.other hne hA0.1)
      have hBk := hB0.like all pl.1 fl.1 fl.2.1 fl.2.2.1
      have hlt : q + i < Bk.slots.size := by rw [fl.2.2.1]; omega
      have c3 : Steps p.tables e below (s₁.setTop (entryFrame m #[.ref b, .int (Int32.ofNat o), .ref d, .int (Int32.ofNat q), .int (Int32.ofNat len)] 7)) (Tl.setTop (mkF m 12 #[.val (.ref b), .val (.int (Int32.ofNat (o + i))), .val (.ref d), .val (.int (Int32.ofNat (q + i))), .val (.int (Int32.ofNat len)), .val (.int (Int32.ofNat i)), z] [.int (Int32.ofNat (o + i)), .ref b])) := cl.trans (by
        refine XS.iload Xl.here hexec rfl (hb hbytes d3) rfl ?_
        refine XS.iload Xl.here hexec rfl (hb hbytes d5) rfl ?_
        refine XS.icmpNo Xl.here hexec rfl (hb hbytes d7) rfl (ii_ge_f (lt32 (by omega) (by omega))) ?_
        refine XS.aloadN Xl.here hexec rfl (hb hbytes d10) rfl rfl ?_
        refine XS.iloadN Xl.here hexec rfl (hb hbytes d11) rfl ?_
        exact Steps.refl _)
      have c4 : Steps p.tables e below (s₁.setTop (entryFrame m #[.ref b, .int (Int32.ofNat o), .ref d, .int (Int32.ofNat q), .int (Int32.ofNat len)] 7)) (Tl.setTop (mkF m 13 #[.val (.ref b), .val (.int (Int32.ofNat (o + i))), .val (.ref d), .val (.int (Int32.ofNat (q + i))), .val (.int (Int32.ofNat len)), .val (.int (Int32.ofNat i)), z] [.int (cv A (o + i))])) := c3.trans (by
        refine Xl.aget hexec hAl rfl (hA.get (i := o + i) (by omega)) rfl rfl (hb hbytes d12) ?_
        exact Steps.refl _)
      have c5 : Steps p.tables e below (s₁.setTop (entryFrame m #[.ref b, .int (Int32.ofNat o), .ref d, .int (Int32.ofNat q), .int (Int32.ofNat len)] 7)) (Tl.setTop (mkF m 15 #[.val (.ref b), .val (.int (Int32.ofNat (o + i))), .val (.ref d), .val (.int (Int32.ofNat (q + i))), .val (.int (Int32.ofNat len)), .val (.int (Int32.ofNat i)), .val (.int (cv A (o + i)))] [])) := c4.trans (by
        refine XS.istoreS Xl.here hexec rfl (hb hbytes d13) rfl rfl hz ?_
        exact Steps.refl _)
      have c6 : Steps p.tables e below (s₁.setTop (entryFrame m #[.ref b, .int (Int32.ofNat o), .ref d, .int (Int32.ofNat q), .int (Int32.ofNat len)] 7)) (Tl.setTop (mkF m 31 #[.val (.ref b), .val (.int (Int32.ofNat (o + i))), .val (.ref d), .val (.int (Int32.ofNat (q + i))), .val (.int (Int32.ofNat len)), .val (.int (Int32.ofNat i)), .val (.int (cv A (o + i)))] [.int (lo8 (cv A (o + i))), .int (Int32.ofNat (q + i)), .ref d])) := c5.trans (by
        refine XS.iload Xl.here hexec rfl (hb hbytes d15) rfl ?_
        refine sipushV Xl.here hexec rfl 255 (hb hbytes d17) (by decide) ?_
        refine XS.icmpYes Xl.here hexec rfl (pc0 := 20) rfl (hb hbytes d20) rfl (ii_le_t (hp i (by omega))) (by decide) rfl ?_
        refine XS.aloadN Xl.here hexec rfl (hb hbytes d26) rfl rfl ?_
        refine XS.iloadN Xl.here hexec rfl (hb hbytes d27) rfl ?_
        refine XS.iload Xl.here hexec rfl (hb hbytes d28) rfl ?_
        refine i2b Xl.here hexec rfl (hb hbytes d30) rfl ?_
        exact Steps.refl _)
      obtain ⟨T7, X7, p7, st7⟩ := Xl.aput hexec hBk rfl hlt rfl (fits_lo8 (cv A (o + i))) (g := (mkF m 31 #[.val (.ref b), .val (.int (Int32.ofNat (o + i))), .val (.ref d), .val (.int (Int32.ofNat (q + i))), .val (.int (Int32.ofNat len)), .val (.int (Int32.ofNat i)), .val (.int (cv A (o + i)))] [.int (lo8 (cv A (o + i))), .int (Int32.ofNat (q + i)), .ref d])) rfl (rest := []) rfl (hb hbytes d31)
      have c8 : Steps p.tables e below (s₁.setTop (entryFrame m #[.ref b, .int (Int32.ofNat o), .ref d, .int (Int32.ofNat q), .int (Int32.ofNat len)] 7)) (T7.setTop (mkF m 32 #[.val (.ref b), .val (.int (Int32.ofNat (o + i))), .val (.ref d), .val (.int (Int32.ofNat (q + i))), .val (.int (Int32.ofNat len)), .val (.int (Int32.ofNat i)), .val (.int (cv A (o + i)))] [])) := c6.trans (st7 _ (Steps.refl _))
      have c9 : Steps p.tables e below (s₁.setTop (entryFrame m #[.ref b, .int (Int32.ofNat o), .ref d, .int (Int32.ofNat q), .int (Int32.ofNat len)] 7)) (T7.setTop (mkF m 3 #[.val (.ref b), .val (.int (Int32.ofNat (o + i) + 1)), .val (.ref d), .val (.int (Int32.ofNat (q + i) + 1)), .val (.int (Int32.ofNat len)), .val (.int (Int32.ofNat i + 1)), .val (.int (cv A (o + i)))] [])) := c8.trans (by
        refine iincV X7.here hexec rfl 1 (hb hbytes d32) (by decide) rfl rfl ?_
        refine iincV X7.here hexec rfl 1 (hb hbytes d35) (by decide) rfl rfl ?_
        refine iincV X7.here hexec rfl 1 (hb hbytes d38) (by decide) rfl rfl ?_
        refine XS.goto X7.here hexec rfl (pc0 := 41) rfl (hb hbytes d41) (by decide) rfl ?_
        exact Steps.refl _)
      have c10 : Steps p.tables e below (s₁.setTop (entryFrame m #[.ref b, .int (Int32.ofNat o), .ref d, .int (Int32.ofNat q), .int (Int32.ofNat len)] 7)) (T7.setTop (mkF m 3 #[.val (.ref b), .val (.int (Int32.ofNat (o + (i + 1)))), .val (.ref d), .val (.int (Int32.ofNat (q + (i + 1)))), .val (.int (Int32.ofNat len)), .val (.int (Int32.ofNat (i + 1))), .val (.int (cv A (o + i)))] [])) := by
        have := c9
        rw [succ32, succ32, succ32] at this
        exact this
      exact ih (i + 1) (by omega) _ (Or.inr ⟨_, rfl, rfl⟩) T7 _ (by rw [copyLocs_step, ← List.append_assoc]; exact X7) (pl.trans p7) (fl.step (by omega) hlt (by simp)) c10
  obtain ⟨T9, B9, z9, X9, p9, f9, g9⟩ := loop len 0 (by omega) .unset (Or.inl rfl) s₁ B (by simpa [copyLocs] using X0) ⟨hB0.1, fun _ _ => rfl, rfl⟩ (Laid.zero _ _ _) c2
  have c11 : Steps p.tables e below (s₁.setTop (entryFrame m #[.ref b, .int (Int32.ofNat o), .ref d, .int (Int32.ofNat q), .int (Int32.ofNat len)] 7)) (T9.setTop (mkF m 46 #[.val (.ref b), .val (.int (Int32.ofNat (o + len))), .val (.ref d), .val (.int (Int32.ofNat (q + len))), .val (.int (Int32.ofNat len)), .val (.int (Int32.ofNat len)), z9] [.int (Int32.ofNat len)])) := g9.trans (by
    refine XS.iload X9.here hexec rfl (hb hbytes d3) rfl ?_
    refine XS.iload X9.here hexec rfl (hb hbytes d5) rfl ?_
    refine XS.icmpYes X9.here hexec rfl (pc0 := 7) rfl (hb hbytes d7) rfl (ii_ge_t (nlt32 (by omega) (Nat.le_refl _))) (by decide) rfl ?_
    refine XS.iload X9.here hexec rfl (hb hbytes d44) rfl ?_
    exact Steps.refl _)
  exact ⟨T9, some (.int (Int32.ofNat len)), _, _, _, X9, by simp, rfl, rfl, (fun h => by cases h), ⟨rfl, B9, p9.from hh0, f9⟩, fun fs hl => c11.trans (X9.ireturnOut hexec hret rfl (Or.inl rfl) (hb hbytes d46) hl)⟩
end Cmp5
namespace Cmp3
def yN : MethodName := ⟨"java/lang/StringUTF16", "compress", "([CII)[B"⟩
abbrev yB : ByteArray := jdk_52_method_16_code
theorem d0 : decode yB 0 = .ok (.iload_n 2, 1) := by decide +kernel
theorem d1 : decode yB 1 = .ok (.newarray .byte, 2) := by decide +kernel
theorem d3 : decode yB 3 = .ok (.astore_n 3, 1) := by decide +kernel
theorem d4 : decode yB 4 = .ok (.aload_n 0, 1) := by decide +kernel
theorem d5 : decode yB 5 = .ok (.iload_n 1, 1) := by decide +kernel
theorem d6 : decode yB 6 = .ok (.aload_n 3, 1) := by decide +kernel
theorem d7 : decode yB 7 = .ok (.iconst 0, 1) := by decide +kernel
theorem d8 : decode yB 8 = .ok (.iload_n 2, 1) := by decide +kernel
theorem d9 : decode yB 9 = .ok (.invokestatic 115, 3) := by decide +kernel
theorem d12 : decode yB 12 = .ok (.istore 4, 2) := by decide +kernel
theorem d14 : decode yB 14 = .ok (.iload 4, 2) := by decide +kernel
theorem d16 : decode yB 16 = .ok (.iload_n 2, 1) := by decide +kernel
theorem d17 : decode yB 17 = .ok (.if_icmp (.eq) 40, 3) := by decide +kernel
theorem d57 : decode yB 57 = .ok (.aload_n 3, 1) := by decide +kernel
theorem d58 : decode yB 58 = .ok (.areturn, 1) := by decide +kernel
def site : List Cond := [.arrayClass .byte, Cmp5.tab] ++ staticW U16 115 Cmp5.yN
def tab : Cond := tabOf yN yB 6 (some (.array .byte)) site
def P (b : Addr) (A : Cell) (o len : Nat) (args : Array Value) (s : State) : Prop := args = #[.ref b, .int (Int32.ofNat o), .int (Int32.ofNat len)] ∧ Ch b A s ∧ o + len ≤ A.slots.size ∧ len ≤ 536870912 ∧ ∀ i, i < len → ¬ 255 < cv A (o + i)
def E (b : Addr) (A : Cell) (o len : Nat) (r : Option Value) (s u : State) : Prop := NewArr .byte "[B" len (fun j => .int (lo8 (cv A (o + j)))) r s u ∧ u.heap.size = s.heap.size + 1
/-- no char of the range above 255: a new byte[] of their low bytes -/
theorem law (l : Launch) (b : Addr) (A : Cell) (o len : Nat) : Law l yN 3 3 1 18 yB 6 (some (.array .byte)) site (P b A o len) (E b A o len) [] 1 len := by
  refine Law.of_walk (plainFor_of_name (by decide +kernel)) (by decide +kernel) (by decide +kernel) (by decide) (fun _ _ h => by rw [h.1]; rfl) (fun _ U U' hal hh h => ⟨h.1, h.2.1.mv hal hh, h.2.2⟩) (fun r U U' V V' h1 hal h2 h => ⟨NewArr.mv r U U' V V' h1 hal h2 h.1, by rw [h1, h2]; exact h.2⟩) ?_
  intro p e s m args below meth c s₁ X0 hexec hbytes hml hret hlk hnm hown hh0 W hP
  obtain ⟨rfl, hA, l1, l2, hp⟩ := hP
  have a31 := hA.1.2.2.2
  have c1 : Steps p.tables e below (s₁.setTop (entryFrame m #[.ref b, .int (Int32.ofNat o), .int (Int32.ofNat len)] 6)) (s₁.setTop (mkF m 0 #[.val (.ref b), .val (.int (Int32.ofNat o)), .val (.int (Int32.ofNat len)), .unset, .unset, .unset] [])) := entry rfl
  have c2 : Steps p.tables e below (s₁.setTop (entryFrame m #[.ref b, .int (Int32.ofNat o), .int (Int32.ofNat len)] 6)) (s₁.setTop (mkF m 1 #[.val (.ref b), .val (.int (Int32.ofNat o)), .val (.int (Int32.ofNat len)), .unset, .unset, .unset] [.int (Int32.ofNat len)])) := c1.trans (by
    refine XS.iloadN X0.here hexec rfl (hb hbytes d0) rfl ?_
    exact Steps.refl _)
  obtain ⟨T3, B3, X3, ba3, bs3, bv3, bh3, bf3, st3⟩ := X0.anew hexec (atype := .byte) (wk W (.arrayClass .byte)) rfl (by show len * 1 ≤ _; omega) (by omega) (g := (mkF m 1 #[.val (.ref b), .val (.int (Int32.ofNat o)), .val (.int (Int32.ofNat len)), .unset, .unset, .unset] [.int (Int32.ofNat len)])) rfl (hb hbytes d1) (rest := []) rfl (Nat.le_refl _) (by show 0 + len ≤ len; omega)
  rw [hh0] at ba3 st3
  have kp3 : XT.Kept s T3 := (XT.Kept.of_eq hh0).push bh3
  have hA3 := hA.keep X3.warmed.alike (kp3 _ _ hA.1.1)
  have hne : b ≠ s.heap.size := hA.1.ne
  have c4 : Steps p.tables e below (s₁.setTop (entryFrame m #[.ref b, .int (Int32.ofNat o), .int (Int32.ofNat len)] 6)) (T3.setTop (mkF m 3 #[.val (.ref b), .val (.int (Int32.ofNat o)), .val (.int (Int32.ofNat len)), .unset, .unset, .unset] [.ref s.heap.size])) := c2.trans (st3 _ (Steps.refl _))
  have c5 : Steps p.tables e below (s₁.setTop (entryFrame m #[.ref b, .int (Int32.ofNat o), .int (Int32.ofNat len)] 6)) (T3.setTop (mkF m 9 #[.val (.ref b), .val (.int (Int32.ofNat o)), .val (.int (Int32.ofNat len)), .val (.ref s.heap.size), .unset, .unset] [.int (Int32.ofNat len), .int 0, .ref s.heap.size, .int (Int32.ofNat o), .ref b])) := c4.trans (by
    refine XS.astoreN X3.here hexec rfl (hb hbytes d3) rfl rfl rfl ?_
    refine XS.aloadN X3.here hexec rfl (hb hbytes d4) rfl rfl ?_
    refine XS.iloadN X3.here hexec rfl (hb hbytes d5) rfl ?_
    refine XS.aloadN X3.here hexec rfl (hb hbytes d6) rfl rfl ?_
    refine iconstV X3.here hexec rfl 0 (hb hbytes d7) (by decide) ?_
    refine XS.iloadN X3.here hexec rfl (hb hbytes d8) rfl ?_
    exact Steps.refl _)
  obtain ⟨v6, T6, X6, E6, g6⟩ := X3.callS hexec (Cmp5.law l b A s.heap.size B3 o 0 len) hown (wks W (staticW U16 115 Cmp5.yN)) (wk W Cmp5.tab) (W := 0) (Nat.le_of_ble_eq_true rfl) (Nat.le_of_ble_eq_true rfl) (Nat.le_refl _) (by show 0 + len + 0 ≤ len; omega) (g := (mkF m 9 #[.val (.ref b), .val (.int (Int32.ofNat o)), .val (.int (Int32.ofNat len)), .val (.ref s.heap.size), .unset, .unset] [.int (Int32.ofNat len), .int (Int32.ofNat 0), .ref s.heap.size, .int (Int32.ofNat o), .ref b])) rfl (by rw [hml]; rfl) c5 (argsL := [.ref b, .int (Int32.ofNat o), .ref s.heap.size, .int (Int32.ofNat 0), .int (Int32.ofNat len)]) (rest := []) rfl rfl (by show 2 * 0 + 0 ≤ _; decide) (hb hbytes d9) (⟨rfl, hA3, ba3, hne, l1, by rw [bs3]; simp, hp⟩)
  obtain ⟨rfl, B6, p6, f6⟩ := E6
  have c7 : Steps p.tables e below (s₁.setTop (entryFrame m #[.ref b, .int (Int32.ofNat o), .int (Int32.ofNat len)] 6)) (T6.setTop (mkF m 12 #[.val (.ref b), .val (.int (Int32.ofNat o)), .val (.int (Int32.ofNat len)), .val (.ref s.heap.size), .unset, .unset] [.int (Int32.ofNat len)])) := g6
  have c8 : Steps p.tables e below (s₁.setTop (entryFrame m #[.ref b, .int (Int32.ofNat o), .int (Int32.ofNat len)] 6)) (T6.setTop (mkF m 58 #[.val (.ref b), .val (.int (Int32.ofNat o)), .val (.int (Int32.ofNat len)), .val (.ref s.heap.size), .val (.int (Int32.ofNat len)), .unset] [.ref s.heap.size])) := c7.trans (by
    refine XS.istore X6.here hexec rfl (hb hbytes d12) rfl rfl ?_
    refine XS.iload X6.here hexec rfl (hb hbytes d14) rfl ?_
    refine XS.iloadN X6.here hexec rfl (hb hbytes d16) rfl ?_
    refine XS.icmpYes X6.here hexec rfl (pc0 := 17) rfl (hb hbytes d17) rfl (ii_eq_t rfl) (by decide) rfl ?_
    refine XS.aloadN X6.here hexec rfl (hb hbytes d57) rfl rfl ?_
    exact Steps.refl _)
  have X8 := X6.wide (L' := []) (cells' := 1) (slots' := len) (fun x hx hlt => by
    simp only [List.nil_append, copyLocs, List.mem_map, List.mem_range] at hx
    obtain ⟨i, -, rfl⟩ := hx
    exact absurd hlt (Nat.lt_irrefl _)) (Nat.le_refl _) (by omega)
  exact ⟨T6, some (.ref s.heap.size), _, _, _, X8, rfl, rfl, rfl, (fun h => by cases h), ⟨⟨rfl, B6, ba3.like (X3.warmed.alike.symm.trans X6.warmed.alike) p6.1 f6.1 f6.2.1 f6.2.2.1, f6.2.1.trans bv3, by rw [X6.warmed.alike.findClass, f6.1]; exact bf3, by rw [f6.2.2.1, bs3]; simp, fun j hj => by rw [f6.2.2.2 j, if_pos (by omega)]; rfl, kp3.put p6 (Nat.le_refl _)⟩, by rw [p6.2.2, bh3, hh0]; simp⟩, fun fs hl => c8.trans (X8.areturnOut hexec rfl hret rfl (hb hbytes d58) hl)⟩
end Cmp3
namespace CodL
def yN : MethodName := ⟨"java/lang/StringUTF16", "coderFromArrayLen", "([BI)B"⟩
abbrev yB : ByteArray := jdk_52_method_15_code
theorem d0 : decode yB 0 = .ok (.iload_n 1, 1) := by decide +kernel
theorem d1 : decode yB 1 = .ok (.aload_n 0, 1) := by decide +kernel
theorem d2 : decode yB 2 = .ok (.arraylength, 1) := by decide +kernel
theorem d3 : decode yB 3 = .ok (.isub, 1) := by decide +kernel
theorem d4 : decode yB 4 = .ok (.bipush 31, 2) := by decide +kernel
theorem d6 : decode yB 6 = .ok (.iushr, 1) := by decide +kernel
theorem d7 : decode yB 7 = .ok (.i2b, 1) := by decide +kernel
theorem d8 : decode yB 8 = .ok (.ireturn, 1) := by decide +kernel
def site : List Cond := []
def tab : Cond := tabOf yN yB 2 (some .byte) site
def P (d : Addr) (B : Cell) (args : Array Value) (s : State) : Prop := args = #[.ref d, .int (Int32.ofNat B.slots.size)] ∧ Arr .byte d B s
def E (r : Option Value) (s u : State) : Prop := XT.PureE (some (.int 0)) r s u
/-- an array as long as the number of chars: LATIN1 -/
theorem law (l : Launch) (d : Addr) (B : Cell) : Law l yN 2 2 0 0 yB 2 (some .byte) site (P d B) E [] 0 0 := by
  refine Law.of_walk (plainFor_of_name (by decide +kernel)) (by decide +kernel) (by decide +kernel) (by decide) (fun _ _ h => by rw [h.1]; rfl) (fun _ U U' hal hh h => ⟨h.1, h.2.mv hal hh⟩) (fun r U U' V V' h1 hal h2 h => XT.PureE.mv r U U' V V' h1 hal h2 h) ?_
  intro p e s m args below meth c s₁ X0 hexec hbytes hml hret hlk hnm hown hh0 W hP
  obtain ⟨rfl, hB⟩ := hP
  have hB0 := hB.mv X0.warmed.alike hh0
  have c1 : Steps p.tables e below (s₁.setTop (entryFrame m #[.ref d, .int (Int32.ofNat B.slots.size)] 2)) (s₁.setTop (mkF m 0 #[.val (.ref d), .val (.int (Int32.ofNat B.slots.size))] [])) := entry rfl
  have c2 : Steps p.tables e below (s₁.setTop (entryFrame m #[.ref d, .int (Int32.ofNat B.slots.size)] 2)) (s₁.setTop (mkF m 2 #[.val (.ref d), .val (.int (Int32.ofNat B.slots.size))] [.ref d, .int (Int32.ofNat B.slots.size)])) := c1.trans (by
    refine XS.iloadN X0.here hexec rfl (hb hbytes d0) rfl ?_
    refine XS.aloadN X0.here hexec rfl (hb hbytes d1) rfl rfl ?_
    exact Steps.refl _)
  have c3 : Steps p.tables e below (s₁.setTop (entryFrame m #[.ref d, .int (Int32.ofNat B.slots.size)] 2)) (s₁.setTop (mkF m 8 #[.val (.ref d), .val (.int (Int32.ofNat B.slots.size))] [.int (lo8 (ushr (Int32.ofNat B.slots.size - Int32.ofNat B.slots.size) 31))])) := c2.trans (by
    refine X0.alen hexec hB0 rfl rfl (hb hbytes d2) ?_
    refine XS.isub X0.here hexec rfl (hb hbytes d3) rfl ?_
    refine bipushV X0.here hexec rfl 31 (hb hbytes d4) (by decide) ?_
    refine iushr X0.here hexec rfl (hb hbytes d6) rfl ?_
    refine i2b X0.here hexec rfl (hb hbytes d7) rfl ?_
    exact Steps.refl _)
  have e0 : lo8 (ushr (Int32.ofNat B.slots.size - Int32.ofNat B.slots.size) 31) = 0 := by rw [Int32.sub_self]; decide
  rw [e0] at c3
  exact ⟨s₁, some (.int 0), _, _, _, X0, rfl, rfl, rfl, (fun h => by cases h), ⟨rfl, hh0⟩, fun fs hl => c3.trans (X0.ireturnOut hexec hret rfl (Or.inr (Or.inr (Or.inl rfl))) (hb hbytes d8) hl)⟩
end CodL
/-- the String at a is Latin-1 over a new byte[] (the heap's one new cell): the low bytes of the len chars of A from o on; every cell but a is kept -/
def Got (a : Addr) (D : Cell) (fV fC : Field) (A : Cell) (o len : Nat) (r : Option Value) (s u : State) : Prop := r = none ∧ ∃ D' V : Cell, Blank "java/lang/String" a D' u ∧ Same D D' [fV.slot, fC.slot] ∧ D'.slots[fV.slot]? = some (.ref s.heap.size) ∧ D'.slots[fC.slot]? = some (.int 0) ∧ Arr .byte s.heap.size V u ∧ V.vm = .none ∧ u.vm.findClass "[B" = some V.cls ∧ V.slots.size = len ∧ (∀ j, j < len → V.slots[j]? = some (.int (lo8 (cv A (o + j))))) ∧ (∀ (y : Addr) (c : Cell), y ≠ a → s.heap[y]? = some c → u.heap[y]? = some c) ∧ u.heap.size = s.heap.size + 1
theorem Got.mv {a : Addr} {D A : Cell} {fV fC : Field} {o len : Nat} : ∀ r (U U' V V' : State), U'.heap = U.heap → V.vm.Alike V'.vm → V'.heap = V.heap → Got a D fV fC A o len r U V → Got a D fV fC A o len r U' V' :=
  fun r U U' V V' h1 hal h2 ⟨e0, D', X, a1, a2, a3, a4, a5, a6, a7, a8, a9, a10, a11⟩ => ⟨e0, D', X, a1.mv hal h2, a2, by rw [h1]; exact a3, a4, by rw [h1]; exact a5.mv hal h2, a6, by rw [hal.findClass]; exact a7, a8, a9, by rw [h1, h2]; exact a10, by rw [h1, h2]; exact a11⟩
namespace New4
def yN : MethodName := ⟨"java/lang/String", "<init>", "([CIILjava/lang/Void;)V"⟩
abbrev yB : ByteArray := jdk_42_method_149_code
theorem d0 : decode yB 0 = .ok (.aload_n 0, 1) := by decide +kernel
theorem d1 : decode yB 1 = .ok (.invokespecial 1, 3) := by decide +kernel
theorem d4 : decode yB 4 = .ok (.iload_n 3, 1) := by decide +kernel
theorem d5 : decode yB 5 = .ok (.ifCond (.ne) 22, 3) := by decide +kernel
theorem d27 : decode yB 27 = .ok (.getstatic 38, 3) := by decide +kernel
theorem d30 : decode yB 30 = .ok (.ifCond (.eq) 28, 3) := by decide +kernel
theorem d33 : decode yB 33 = .ok (.aload_n 1, 1) := by decide +kernel
theorem d34 : decode yB 34 = .ok (.iload_n 2, 1) := by decide +kernel
theorem d35 : decode yB 35 = .ok (.iload_n 3, 1) := by decide +kernel
theorem d36 : decode yB 36 = .ok (.invokestatic 177, 3) := by decide +kernel
theorem d39 : decode yB 39 = .ok (.astore 5, 2) := by decide +kernel
theorem d41 : decode yB 41 = .ok (.aload_n 0, 1) := by decide +kernel
theorem d42 : decode yB 42 = .ok (.aload 5, 2) := by decide +kernel
theorem d44 : decode yB 44 = .ok (.iload_n 3, 1) := by decide +kernel
theorem d45 : decode yB 45 = .ok (.invokestatic 47, 3) := by decide +kernel
theorem d48 : decode yB 48 = .ok (.putfield 15, 3) := by decide +kernel
theorem d51 : decode yB 51 = .ok (.aload_n 0, 1) := by decide +kernel
theorem d52 : decode yB 52 = .ok (.aload 5, 2) := by decide +kernel
theorem d54 : decode yB 54 = .ok (.putfield 9, 3) := by decide +kernel
theorem d57 : decode yB 57 = .ok (.return_, 1) := by decide +kernel
def site : List Cond := [.fieldLink "java/lang/String" 38 "java/lang/String" "COMPACT_STRINGS" "Z", Cmp3.tab, CodL.tab, .laysFinal "java/lang/String" "java/lang/String" "value" "[B", .fieldLink "java/lang/String" 9 "java/lang/String" "value" "[B", .laysFinal "java/lang/String" "java/lang/String" "coder" "B", .fieldLink "java/lang/String" 15 "java/lang/String" "coder" "B"] ++ objW "java/lang/String" 1 ++ staticW "java/lang/String" 177 Cmp3.yN ++ staticW "java/lang/String" 47 CodL.yN
def tab : Cond := tabOf yN yB 6 none site
def P (a : Addr) (D : Cell) (fV fC : Field) (b : Addr) (A : Cell) (z : Int32) (o len : Nat) (args : Array Value) (s : State) : Prop := args = #[.ref a, .ref b, .int (Int32.ofNat o), .int (Int32.ofNat len), .null] ∧ Blank "java/lang/String" a D s ∧ Found "java/lang/String" "value" "[B" fV s ∧ Found "java/lang/String" "coder" "B" fC s ∧ Ch b A s ∧ StaticIs s "java/lang/String" "COMPACT_STRINGS" "Z" (.int z) ∧ ¬ z = 0 ∧ 0 < len ∧ o + len ≤ A.slots.size ∧ len ≤ 536870912 ∧ ∀ i, i < len → ¬ 255 < cv A (o + i)
def E (a : Addr) (D : Cell) (fV fC : Field) (A : Cell) (o len : Nat) (r : Option Value) (s u : State) : Prop := Got a D fV fC A o len r s u
/-- len > 0, no char of the range above 255: a Latin-1 String of their low bytes -/
theorem law (l : Launch) (a : Addr) (D : Cell) (fV fC : Field) (b : Addr) (A : Cell) (z : Int32) (o len : Nat) : Law l yN 5 4 2 35 yB 6 none site (P a D fV fC b A z o len) (E a D fV fC A o len) [⟨a, fC.slot⟩, ⟨a, fV.slot⟩] 1 len := by
  refine Law.of_walk (plainFor_of_name (by decide +kernel)) (by decide +kernel) (by decide +kernel) (by decide) (fun _ _ h => by rw [h.1]; rfl) (fun _ U U' hal hh h => ⟨h.1, h.2.1.mv hal hh, h.2.2.1.al hal, h.2.2.2.1.al hal, h.2.2.2.2.1.mv hal hh, h.2.2.2.2.2.1.there hal hh, h.2.2.2.2.2.2⟩) (fun r U U' V V' h1 hal h2 h => Got.mv r U U' V V' h1 hal h2 h) ?_
  intro p e s m args below meth c s₁ X0 hexec hbytes hml hret hlk hnm hown hh0 W hP
  obtain ⟨rfl, hB, f1, f2, hA, s1, hz, l0, l1, l2, hp⟩ := hP
  have a31 := hA.1.2.2.2
  have c1 : Steps p.tables e below (s₁.setTop (entryFrame m #[.ref a, .ref b, .int (Int32.ofNat o), .int (Int32.ofNat len), .null] 6)) (s₁.setTop (mkF m 0 #[.val (.ref a), .val (.ref b), .val (.int (Int32.ofNat o)), .val (.int (Int32.ofNat len)), .val .null, .unset] [])) := entry rfl
  have c2 : Steps p.tables e below (s₁.setTop (entryFrame m #[.ref a, .ref b, .int (Int32.ofNat o), .int (Int32.ofNat len), .null] 6)) (s₁.setTop (mkF m 1 #[.val (.ref a), .val (.ref b), .val (.int (Int32.ofNat o)), .val (.int (Int32.ofNat len)), .val .null, .unset] [.ref a])) := c1.trans (by
    refine XS.aloadN X0.here hexec rfl (hb hbytes d0) rfl rfl ?_
    exact Steps.refl _)
  obtain ⟨T3, X3, q3, st3⟩ := X0.oinit hexec hown (wks W (objW "java/lang/String" 1)) (g := (mkF m 1 #[.val (.ref a), .val (.ref b), .val (.int (Int32.ofNat o)), .val (.int (Int32.ofNat len)), .val .null, .unset] [.ref a])) rfl (by rw [hml]; rfl) (rest := []) rfl (hb hbytes d1) (W := 0) (by show 2 * 0 + 0 ≤ _; decide) (Nat.le_of_ble_eq_true rfl) (Nat.le_of_ble_eq_true rfl)
  have hh3 := q3.trans hh0
  have c4 : Steps p.tables e below (s₁.setTop (entryFrame m #[.ref a, .ref b, .int (Int32.ofNat o), .int (Int32.ofNat len), .null] 6)) (T3.setTop (mkF m 27 #[.val (.ref a), .val (.ref b), .val (.int (Int32.ofNat o)), .val (.int (Int32.ofNat len)), .val .null, .unset] [])) := (c2.trans (st3 _ (Steps.refl _))).trans (by
    refine XS.iloadN X3.here hexec rfl (hb hbytes d4) rfl ?_
    refine XS.ifYes X3.here hexec rfl (pc0 := 5) rfl (hb hbytes d5) rfl (i0_ne_t (nz32 (by omega) l0)) (by decide) rfl ?_
    exact Steps.refl _)
  obtain ⟨T5, X5, q5, st5⟩ := X3.sget hexec hown (wk W (.fieldLink "java/lang/String" 38 "java/lang/String" "COMPACT_STRINGS" "Z")) s1 (fun _ _ h => by rw [hh3]; exact h) (g := (mkF m 27 #[.val (.ref a), .val (.ref b), .val (.int (Int32.ofNat o)), .val (.int (Int32.ofNat len)), .val .null, .unset] [])) rfl (hb hbytes d27)
  have hh5 := q5.trans hh3
  have c6 : Steps p.tables e below (s₁.setTop (entryFrame m #[.ref a, .ref b, .int (Int32.ofNat o), .int (Int32.ofNat len), .null] 6)) (T5.setTop (mkF m 30 #[.val (.ref a), .val (.ref b), .val (.int (Int32.ofNat o)), .val (.int (Int32.ofNat len)), .val .null, .unset] [.int z])) := c4.trans (st5 _ (Steps.refl _))
  have c7 : Steps p.tables e below (s₁.setTop (entryFrame m #[.ref a, .ref b, .int (Int32.ofNat o), .int (Int32.ofNat len), .null] 6)) (T5.setTop (mkF m 36 #[.val (.ref a), .val (.ref b), .val (.int (Int32.ofNat o)), .val (.int (Int32.ofNat len)), .val .null, .unset] [.int (Int32.ofNat len), .int (Int32.ofNat o), .ref b])) := c6.trans (by
    refine XS.ifNo X5.here hexec rfl (hb hbytes d30) rfl (i0_eq_f hz) ?_
    refine XS.aloadN X5.here hexec rfl (hb hbytes d33) rfl rfl ?_
    refine XS.iloadN X5.here hexec rfl (hb hbytes d34) rfl ?_
    refine XS.iloadN X5.here hexec rfl (hb hbytes d35) rfl ?_
    exact Steps.refl _)
  obtain ⟨v8, T8, X8, E8, g8⟩ := X5.callS hexec (Cmp3.law l b A o len) hown (wks W (staticW "java/lang/String" 177 Cmp3.yN)) (wk W Cmp3.tab) (W := 0) (Nat.le_of_ble_eq_true rfl) (Nat.le_of_ble_eq_true rfl) (Nat.le_refl _) (by show 0 + len ≤ len; omega) (g := (mkF m 36 #[.val (.ref a), .val (.ref b), .val (.int (Int32.ofNat o)), .val (.int (Int32.ofNat len)), .val .null, .unset] [.int (Int32.ofNat len), .int (Int32.ofNat o), .ref b])) rfl (by rw [hml]; rfl) c7 (argsL := [.ref b, .int (Int32.ofNat o), .int (Int32.ofNat len)]) (rest := []) rfl rfl (by show 2 * 0 + 0 ≤ _; decide) (hb hbytes d36) (⟨rfl, hA.mv X5.warmed.alike hh5, l1, l2, hp⟩)
  obtain ⟨e8, z8⟩ := E8
  obtain ⟨rfl, N, n1, n2, n3, n4, n5, n6⟩ := NewArr.mv _ T5 s _ _ hh5.symm (Vm.Alike.refl _) rfl e8
  rw [hh5] at z8
  have hB1 := hB.keep X8.warmed.alike (n6 _ _ hB.1)
  have hne : s.heap.size ≠ a := (Nat.ne_of_lt (Array.getElem?_eq_some_iff.mp hB.1).1).symm
  have c9 : Steps p.tables e below (s₁.setTop (entryFrame m #[.ref a, .ref b, .int (Int32.ofNat o), .int (Int32.ofNat len), .null] 6)) (T8.setTop (mkF m 39 #[.val (.ref a), .val (.ref b), .val (.int (Int32.ofNat o)), .val (.int (Int32.ofNat len)), .val .null, .unset] [.ref s.heap.size])) := g8
  have c10 : Steps p.tables e below (s₁.setTop (entryFrame m #[.ref a, .ref b, .int (Int32.ofNat o), .int (Int32.ofNat len), .null] 6)) (T8.setTop (mkF m 45 #[.val (.ref a), .val (.ref b), .val (.int (Int32.ofNat o)), .val (.int (Int32.ofNat len)), .val .null, .val (.ref s.heap.size)] [.int (Int32.ofNat N.slots.size), .ref s.heap.size, .ref a])) := by
    have hc : Steps p.tables e below (s₁.setTop (entryFrame m #[.ref a, .ref b, .int (Int32.ofNat o), .int (Int32.ofNat len), .null] 6)) (T8.setTop (mkF m 45 #[.val (.ref a), .val (.ref b), .val (.int (Int32.ofNat o)), .val (.int (Int32.ofNat len)), .val .null, .val (.ref s.heap.size)] [.int (Int32.ofNat len), .ref s.heap.size, .ref a])) := c9.trans (by
      refine XS.astore X8.here hexec rfl (hb hbytes d39) rfl rfl rfl ?_
      refine XS.aloadN X8.here hexec rfl (hb hbytes d41) rfl rfl ?_
      refine XS.aload X8.here hexec rfl (hb hbytes d42) rfl rfl ?_
      refine XS.iloadN X8.here hexec rfl (hb hbytes d44) rfl ?_
      exact Steps.refl _)
    rw [n4]; exact hc
  obtain ⟨v11, T11, X11, E11, g11⟩ := X8.callS hexec (CodL.law l s.heap.size N) hown (wks W (staticW "java/lang/String" 47 CodL.yN)) (wk W CodL.tab) (W := 1) (Nat.le_of_ble_eq_true rfl) (Nat.le_of_ble_eq_true rfl) (Nat.le_refl _) (by show 0 + len + 0 ≤ len; omega) (g := (mkF m 45 #[.val (.ref a), .val (.ref b), .val (.int (Int32.ofNat o)), .val (.int (Int32.ofNat len)), .val .null, .val (.ref s.heap.size)] [.int (Int32.ofNat N.slots.size), .ref s.heap.size, .ref a])) rfl (by rw [hml]; rfl) c10 (argsL := [.ref s.heap.size, .int (Int32.ofNat N.slots.size)]) (rest := [.ref a]) rfl rfl (by show 2 * 0 + (1 + 0) ≤ _; decide) (hb hbytes d45) (⟨rfl, n1⟩)
  obtain ⟨rfl, q11⟩ := E11
  have hB11 := hB1.mv (X8.warmed.alike.symm.trans X11.warmed.alike) q11
  have c12 : Steps p.tables e below (s₁.setTop (entryFrame m #[.ref a, .ref b, .int (Int32.ofNat o), .int (Int32.ofNat len), .null] 6)) (T11.setTop (mkF m 48 #[.val (.ref a), .val (.ref b), .val (.int (Int32.ofNat o)), .val (.int (Int32.ofNat len)), .val .null, .val (.ref s.heap.size)] [.int 0, .ref a])) := g11
  obtain ⟨T13, X13, p13, bl13, sl13, st13⟩ := X11.finit hexec hown (wk W (.fieldLink "java/lang/String" 15 "java/lang/String" "coder" "B")) (Or.inr ⟨_, (wk W (.laysFinal "java/lang/String" "java/lang/String" "coder" "B"))⟩) (Or.inl ⟨rfl, hnm⟩) f2 (Or.inl rfl) hB11 (t := .byte) (by decide +kernel) rfl (g := (mkF m 48 #[.val (.ref a), .val (.ref b), .val (.int (Int32.ofNat o)), .val (.int (Int32.ofNat len)), .val .null, .val (.ref s.heap.size)] [.int 0, .ref a])) rfl (rest := []) rfl (hb hbytes d48)
  have c14 : Steps p.tables e below (s₁.setTop (entryFrame m #[.ref a, .ref b, .int (Int32.ofNat o), .int (Int32.ofNat len), .null] 6)) (T13.setTop (mkF m 54 #[.val (.ref a), .val (.ref b), .val (.int (Int32.ofNat o)), .val (.int (Int32.ofNat len)), .val .null, .val (.ref s.heap.size)] [.ref s.heap.size, .ref a])) := (c12.trans (st13 _ (Steps.refl _))).trans (by
    refine XS.aloadN X13.here hexec rfl (hb hbytes d51) rfl rfl ?_
    refine XS.aload X13.here hexec rfl (hb hbytes d52) rfl rfl ?_
    exact Steps.refl _)
  obtain ⟨T15, X15, p15, bl15, sl15, st15⟩ := X13.finit hexec hown (wk W (.fieldLink "java/lang/String" 9 "java/lang/String" "value" "[B")) (Or.inr ⟨_, (wk W (.laysFinal "java/lang/String" "java/lang/String" "value" "[B"))⟩) (Or.inl ⟨rfl, hnm⟩) f1 (Or.inl rfl) bl13 (t := (.array .byte)) (by decide +kernel) rfl (g := (mkF m 54 #[.val (.ref a), .val (.ref b), .val (.int (Int32.ofNat o)), .val (.int (Int32.ofNat len)), .val .null, .val (.ref s.heap.size)] [.ref s.heap.size, .ref a])) rfl (rest := []) rfl (hb hbytes d54)
  have c16 : Steps p.tables e below (s₁.setTop (entryFrame m #[.ref a, .ref b, .int (Int32.ofNat o), .int (Int32.ofNat len), .null] 6)) (T15.setTop (mkF m 57 #[.val (.ref a), .val (.ref b), .val (.int (Int32.ofNat o)), .val (.int (Int32.ofNat len)), .val .null, .val (.ref s.heap.size)] [])) := c14.trans (st15 _ (Steps.refl _))
  have ap := apart (Or.inr ⟨_, (wk W (.laysFinal "java/lang/String" "java/lang/String" "value" "[B"))⟩) (Or.inr ⟨_, (wk W (.laysFinal "java/lang/String" "java/lang/String" "coder" "B"))⟩) f1 f2 (t₁ := .array .byte) (t₂ := .byte) (by decide +kernel) (by decide +kernel) (by decide)
  have al := X8.warmed.alike.symm.trans X15.warmed.alike
  have n7 : T11.heap[s.heap.size]? = some N := by rw [q11]; exact n1.1
  exact ⟨T15, none, _, _, _, X15, by simp, rfl, by omega, (fun _ => rfl), ⟨rfl, _, N, bl15, ((Same.refl D _).set _ (by simp)).set _ (by simp), sl15, (Cell.slots_setSlot_ne _ ap).trans sl13, n1.keep al (p15.other hne (p13.other hne n7)), n2, by rw [al.findClass]; exact n3, n4, n5, fun y c h1 h2 => p15.other h1 (p13.other h1 (by rw [q11]; exact n6 y c h2)), by rw [p15.2.2, p13.2.2, q11]; exact z8⟩, fun fs hl => c16.trans (X15.returnOut hexec hret (hb hbytes d57) hl)⟩
end New4
namespace New1
def yN : MethodName := ⟨"java/lang/String", "<init>", "([C)V"⟩
abbrev yB : ByteArray := jdk_42_method_3_code
theorem d0 : decode yB 0 = .ok (.aload_n 0, 1) := by decide +kernel
theorem d1 : decode yB 1 = .ok (.aload_n 1, 1) := by decide +kernel
theorem d2 : decode yB 2 = .ok (.iconst 0, 1) := by decide +kernel
theorem d3 : decode yB 3 = .ok (.aload_n 1, 1) := by decide +kernel
theorem d4 : decode yB 4 = .ok (.arraylength, 1) := by decide +kernel
theorem d5 : decode yB 5 = .ok (.aconst_null, 1) := by decide +kernel
theorem d6 : decode yB 6 = .ok (.invokespecial 27, 3) := by decide +kernel
theorem d9 : decode yB 9 = .ok (.return_, 1) := by decide +kernel
def site : List Cond := [New4.tab] ++ initW "java/lang/String" 27 New4.yN
def tab : Cond := tabOf yN yB 2 none site
def P (a : Addr) (D : Cell) (fV fC : Field) (b : Addr) (A : Cell) (z : Int32) (args : Array Value) (s : State) : Prop := args = #[.ref a, .ref b] ∧ Blank "java/lang/String" a D s ∧ Found "java/lang/String" "value" "[B" fV s ∧ Found "java/lang/String" "coder" "B" fC s ∧ Ch b A s ∧ StaticIs s "java/lang/String" "COMPACT_STRINGS" "Z" (.int z) ∧ ¬ z = 0 ∧ 0 < A.slots.size ∧ A.slots.size ≤ 536870912 ∧ ∀ i, i < A.slots.size → ¬ 255 < cv A i
def E (a : Addr) (D : Cell) (fV fC : Field) (A : Cell) (r : Option Value) (s u : State) : Prop := Got a D fV fC A 0 A.slots.size r s u
/-- new String(chars), not empty, no char above 255: a Latin-1 String of their low bytes -/
theorem law (l : Launch) (a : Addr) (D : Cell) (fV fC : Field) (b : Addr) (A : Cell) (z : Int32) : Law l yN 2 1 3 52 yB 2 none site (P a D fV fC b A z) (E a D fV fC A) [⟨a, fC.slot⟩, ⟨a, fV.slot⟩] 1 A.slots.size := by
  refine Law.of_walk (plainFor_of_name (by decide +kernel)) (by decide +kernel) (by decide +kernel) (by decide) (fun _ _ h => by rw [h.1]; rfl) (fun _ U U' hal hh h => ⟨h.1, h.2.1.mv hal hh, h.2.2.1.al hal, h.2.2.2.1.al hal, h.2.2.2.2.1.mv hal hh, h.2.2.2.2.2.1.there hal hh, h.2.2.2.2.2.2⟩) (fun r U U' V V' h1 hal h2 h => Got.mv r U U' V V' h1 hal h2 h) ?_
  intro p e s m args below meth c s₁ X0 hexec hbytes hml hret hlk hnm hown hh0 W hP
  obtain ⟨rfl, hB, f1, f2, hA, s1, hz, l0, l2, hp⟩ := hP
  have c1 : Steps p.tables e below (s₁.setTop (entryFrame m #[.ref a, .ref b] 2)) (s₁.setTop (mkF m 0 #[.val (.ref a), .val (.ref b)] [])) := entry rfl
  have c2 : Steps p.tables e below (s₁.setTop (entryFrame m #[.ref a, .ref b] 2)) (s₁.setTop (mkF m 6 #[.val (.ref a), .val (.ref b)] [.null, .int (Int32.ofNat A.slots.size), .int 0, .ref b, .ref a])) := c1.trans (by
    refine XS.aloadN X0.here hexec rfl (hb hbytes d0) rfl rfl ?_
    refine XS.aloadN X0.here hexec rfl (hb hbytes d1) rfl rfl ?_
    refine iconstV X0.here hexec rfl 0 (hb hbytes d2) (by decide) ?_
    refine XS.aloadN X0.here hexec rfl (hb hbytes d3) rfl rfl ?_
    refine X0.alen hexec (hA.1.mv X0.warmed.alike hh0) rfl rfl (hb hbytes d4) ?_
    refine XS.aconstNull X0.here hexec rfl (hb hbytes d5) ?_
    exact Steps.refl _)
  obtain ⟨v3, T3, X3, E3, g3⟩ := X0.callN hexec (New4.law l a D fV fC b A z 0 A.slots.size) rfl hown (wks W (initW "java/lang/String" 27 New4.yN)) (W New4.tab (by simp only [site, List.mem_cons, List.mem_append, true_or, or_true])) (W := 0) (Nat.le_of_ble_eq_true rfl) (Nat.le_of_ble_eq_true rfl) (Nat.le_refl _) (by show 0 + A.slots.size ≤ A.slots.size; omega) (g := (mkF m 6 #[.val (.ref a), .val (.ref b)] [.null, .int (Int32.ofNat A.slots.size), .int (Int32.ofNat 0), .ref b, .ref a])) rfl (by rw [hml]; rfl) c2 (argsL := [.ref b, .int (Int32.ofNat 0), .int (Int32.ofNat A.slots.size), .null]) (rest := []) rfl rfl (by show 2 * 0 + 0 ≤ _; decide) (hb hbytes d6) (⟨rfl, hB.mv X0.warmed.alike hh0, f1.al X0.warmed.alike, f2.al X0.warmed.alike, hA.mv X0.warmed.alike hh0, s1.there X0.warmed.alike hh0, hz, l0, by omega, l2, fun i hi => by rw [Nat.zero_add]; exact hp i hi⟩)
  have e0 := Got.mv _ s₁ s _ _ hh0.symm (Vm.Alike.refl _) rfl E3
  obtain rfl := e0.1
  have c4 : Steps p.tables e below (s₁.setTop (entryFrame m #[.ref a, .ref b] 2)) (T3.setTop (mkF m 9 #[.val (.ref a), .val (.ref b)] [])) := g3
  exact ⟨T3, none, _, _, _, X3, by simp, rfl, by omega, (fun _ => rfl), e0, fun fs hl => c4.trans (X3.returnOut hexec hret (hb hbytes d9) hl)⟩
theorem pays {l : Launch} {R : Room} {p : Program} {e : Env} {below : List Frame} {s : State} {sargs : Array Value} {len W : Nat} (a : Addr) (D : Cell) (fV fC : Field) (b : Addr) (A : Cell) (z : Int32) (htab : tab.before sargs s = true) (hfr : 4 ≤ R.frames) (hlo : W + 65 ≤ R.locals) :
    Back l R p e below s sargs yN len W (fun A₁ a₁ => A₁.cells + 1 ≤ R.cells ∧ A₁.slots + A.slots.size ≤ R.slots ∧ P a D fV fC b A z a₁ A₁.U) (fun A₁ _ v₁ B₁ => E a D fV fC A v₁ A₁.U B₁.U ∧ B₁.locs = A₁.locs ++ [⟨a, fC.slot⟩, ⟨a, fV.slot⟩] ∧ B₁.cells = A₁.cells + 1 ∧ B₁.slots = A₁.slots + A.slots.size) :=
  (law l a D fV fC b A z).pays htab hfr (by omega)
end New1
/-- the byte, read back as charAt reads it, is the char -/
theorem lo8_mask {x : Int32} (h0 : ¬ x < 0) (h1 : ¬ 255 < x) : lo8 x &&& 255 = x := by
  have t : ∀ k : Fin 256, lo8 (Int32.ofNat k.val) &&& 255 = Int32.ofNat k.val := by decide +kernel
  rw [Int32.lt_iff_toInt_lt] at h0 h1
  have e0 : (0 : Int32).toInt = 0 := rfl
  have e1 : (255 : Int32).toInt = 255 := rfl
  obtain ⟨k, hk⟩ : ∃ k : Nat, x.toInt = k := ⟨x.toInt.toNat, by omega⟩
  have hx : x = Int32.ofNat k := Int32.toInt_inj.mp (by rw [hk, Int32.toInt_ofNat_small (by omega)])
  rw [hx]
  exact t ⟨k, by omega⟩
end StrChars
namespace StrChars.Road
open Jvm Sem ClassFile Op Lib Jvm.Stand Jvm.Free Jvm.Free.XT
open Jvm.Lib.Cold (StaticIs)
abbrev ST : String := "java/lang/String"
/-- every table word that New1's law asks, flat -/
abbrev words : List Jvm.Cond := [.code New1.yN New1.yB 2 none, .initialized ST, .methodLink ST 27 New4.yN, .instanceMethod New4.yN,
  .code New4.yN New4.yB 6 none, .fieldLink ST 38 ST "COMPACT_STRINGS" "Z", .laysFinal ST ST "value" "[B", .fieldLink ST 9 ST "value" "[B", .laysFinal ST ST "coder" "B", .fieldLink ST 15 ST "coder" "B",
  .methodLink ST 1 Lib.objectInit, .instanceMethod Lib.objectInit, .code Lib.objectInit ⟨#[0xb1]⟩ 1 none, .methodLink ST 177 Cmp3.yN, .static Cmp3.yN, .methodLink ST 47 CodL.yN, .static CodL.yN,
  .code Cmp3.yN Cmp3.yB 6 (some (.array .byte)), .initialized U16, .arrayClass .byte, .methodLink U16 115 Cmp5.yN, .static Cmp5.yN, .code Cmp5.yN Cmp5.yB 7 (some .int), .code CodL.yN CodL.yB 2 (some .byte)]
theorem tab_of {a : Array Value} {s : State} (h : ∀ w ∈ words, w.before a s = true) : New1.tab.before a s = true := by
  have h5 : Cmp5.tab.before a s = true := unparts (wk h (.code Cmp5.yN Cmp5.yB 7 (some .int))) (wks h (.initialized Cmp5.yN.cls :: Cmp5.site))
  have hc : CodL.tab.before a s = true := unparts (wk h (.code CodL.yN CodL.yB 2 (some .byte))) (wks h (.initialized CodL.yN.cls :: CodL.site))
  have q5 : ∀ w ∈ Cmp5.tab :: words, w.before a s = true := fun w hw => (List.mem_cons.mp hw).elim (fun e => e ▸ h5) (h w)
  have h3 : Cmp3.tab.before a s = true := unparts (wk q5 (.code Cmp3.yN Cmp3.yB 6 (some (.array .byte)))) (wks q5 (.initialized Cmp3.yN.cls :: Cmp3.site))
  have q3 : ∀ w ∈ Cmp3.tab :: CodL.tab :: words, w.before a s = true := fun w hw => (List.mem_cons.mp hw).elim (fun e => e ▸ h3) fun hw => (List.mem_cons.mp hw).elim (fun e => e ▸ hc) (h w)
  have h4 : New4.tab.before a s = true := unparts (wk q3 (.code New4.yN New4.yB 6 none)) (wks q3 (.initialized New4.yN.cls :: New4.site))
  have q4 : ∀ w ∈ New4.tab :: words, w.before a s = true := fun w hw => (List.mem_cons.mp hw).elim (fun e => e ▸ h4) (h w)
  exact unparts (wk q4 (.code New1.yN New1.yB 2 none)) (wks q4 (.initialized New1.yN.cls :: New1.site))
/-- the words ride from the start Z to the walk's own state -/
theorem moved {Z s : State} {a0 args : Array Value} (hZ : Z.Warmed39 s.vm) (hw : ∀ d ∈ words, d.before a0 Z = true) : ∀ d ∈ words, d.before args s = true := fun d hd => by
  have q := hw d hd
  have t : ∀ d ∈ words, d = .arrayClass .byte ∨ (d.onTables && d.keepsFace) = true := by decide +kernel
  rcases t d hd with rfl | t
  · exact RoadKit.mvA hZ q
  · exact RoadKit.mv hZ q t
/-- WHAT COMES BACK, over the tables of the start Z: h the heap at the call, h' behind it -/
def Q (Z : State) (x : Addr) (A : Cell) (h : Heap) (v : Option Value) (h' : Heap) (L : List Loc) : Prop := v = none ∧ (∀ y ∈ L, y.base = x) ∧ RoadKit.Keep h h' [x] ∧ h'.size = h.size + 1 ∧ RoadKit.Exa Z h' x ST ∧ RoadKit.Fld Z h' x ST "value" "[B" (.ref h.size) ∧ RoadKit.Fld Z h' x ST "coder" "B" (.int 0) ∧
  (∃ V : Cell, RoadKit.Arr Z h' h.size V .byte ∧ V.vm = .none ∧ Z.vm.findClass "[B" = some V.cls ∧ V.slots.size = A.slots.size ∧ ∀ j, j < A.slots.size → V.slots[j]? = some (.int (lo8 (cv A j)))) ∧
  ∀ (O n d : String) (w : Value), RoadKit.Fld Z h x O n d w → RoadKit.slotOf Z O n d ≠ RoadKit.slotOf Z ST "value" "[B" → RoadKit.slotOf Z O n d ≠ RoadKit.slotOf Z ST "coder" "B" → RoadKit.Fld Z h' x O n d w
/-- **new String(chars) AT A CALL, IN THE ROAD'S FORM**: for specialBack behind newO: x the fresh String, b the char[] with the cell A -/
theorem back {p : Program} {l : Launch} {e : Env} {R : Room} {s : State} {args : Array Value} {below : List Frame} {len W : Nat} {Z : State} {a0 : Array Value} {h : Heap} (hZ : Z.Warmed39 s.vm) (hw : ∀ d ∈ words, d.before a0 Z = true) {kI : Nat} (wi : (Jvm.Cond.instantiable ST kI).before a0 Z = true)
    {x b : Addr} {A : Cell} {z : Int32} {v0 c0 : Value} (E : RoadKit.Exa Z h x ST) (V : RoadKit.Fld Z h x ST "value" "[B" v0) (C : RoadKit.Fld Z h x ST "coder" "B" c0) (K : RoadKit.Arr Z h b A .char) (hty : Typed .char A) (S : RoadKit.Sta Z h ST "COMPACT_STRINGS" "Z" (.int z)) (hz : ¬ z = 0)
    (l0 : 0 < A.slots.size) (l2 : A.slots.size ≤ 536870912) (hp : ∀ i, i < A.slots.size → ¬ 255 < cv A i) (hfr : 4 ≤ R.frames) (hlo : W + 65 ≤ R.locals) :
    Back l R p e below s args New1.yN len W (fun P a => a = #[.ref x, .ref b] ∧ P.U.heap = h ∧ P.cells + 1 ≤ R.cells ∧ P.slots + A.slots.size ≤ R.slots)
      (fun P _ v B => ∃ L, Q Z x A h v B.U.heap L ∧ B.locs = P.locs ++ L ∧ B.cells = P.cells + 1 ∧ B.slots = P.slots + A.slots.size) := by
  intro m meth c P g ig mk a X hg hsize hdg hW hn hp'
  obtain ⟨rfl, rfl, r1, r2⟩ := hp'
  have al : Z.vm.Alike P.U.vm := hZ.alike.trans X.warmed.alike
  obtain ⟨D, cfV, kV, iV, fV, hD, gV, stV, knV, obV, asV, slV⟩ := id V
  obtain ⟨D', cfC, kC, iC, fC, hD', gC, stC, -, -, asC, slC⟩ := id C
  cases hD.symm.trans hD'
  obtain ⟨D2, kD, e1, e2, e3, e4, e5⟩ := id E
  cases hD.symm.trans e1
  obtain ⟨c2, k2, i1, i2, i3, -⟩ := Cond.instantiable_spec wi
  cases e2.symm.trans i1
  cases e3.symm.trans i2
  obtain ⟨kU, u1, u2⟩ := al.2.2 _ _ e3
  have hB : Blank ST x D P.U := ⟨hD, ⟨knV, fun q hq => by rw [hq] at obV; cases obV⟩, by rw [al.findClass]; exact e2, kU, u1, by rw [u2]; exact i3, by rw [u2]; exact e5 i3⟩
  have F1 : Found ST "value" "[B" fV P.U := ⟨SBG.found_only al ⟨cfV, kV, iV, gV⟩, stV⟩
  have F2 : Found ST "coder" "B" fC P.U := ⟨SBG.found_only al ⟨cfC, kC, iC, gC⟩, stC⟩
  have hA : Ch b A P.U := ⟨⟨K.1, State.isArrayOf_alike al K.2.1, K.2.2, by omega⟩, hty⟩
  have hS : StaticIs P.U ST "COMPACT_STRINGS" "Z" (.int z) := by
    obtain ⟨cfS, iS, kS, fS, st, cS, t1, t2, t3, t4, t5, t6, t7⟩ := S
    exact StaticIs.there (s := { Z with heap := P.U.heap }) ⟨cfS, iS, kS, fS, st, cS, t1, t2, t3, t4, t5, (fun q => by rw [q] at t6; cases t6), t7⟩ al rfl
  obtain ⟨v, B, X', ⟨⟨hv, E', V', q1, q2, q3, q4, q5, q6, q7, q8, q9, q10, q11⟩, hl, hc, hs⟩, st⟩ := New1.pays x D fV fC b A z (tab_of (moved hZ hw)) hfr hlo m meth c P g ig mk _ X hg hsize hdg hW hn ⟨r1, r2, rfl, hB, F1, F2, hA, hS, hz, l0, l2, hp⟩
  have al' : Z.vm.Alike B.U.vm := hZ.alike.trans X'.warmed.alike
  have hsz : E'.slots.size = D.slots.size := by
    obtain ⟨-, -, -, kB, w1, w2, w3⟩ := q1
    obtain ⟨kB', y1, y2⟩ := al'.2.2 _ _ e3
    rw [q2.2.1] at w1
    cases w1.symm.trans y1
    rw [w3, e5 i3, y2]
  refine ⟨v, B, X', ⟨_, ⟨hv, ?_, ⟨by omega, fun y cy hy hn' => q10 y cy (by simpa using hn') hy, fun y cy hy => ?_⟩, q11, ⟨E', _, q1.1, by rw [q2.2.1]; exact e2, by rw [q2.2.1]; exact e3, by rw [q2.1]; exact obV, fun _ => by rw [hsz]; exact e5 i3⟩,
    ⟨E', cfV, kV, iV, fV, q1.1, gV, stV, by rw [q2.1]; exact knV, by rw [q2.1]; exact obV, by rw [q2.2.1]; exact asV, q3⟩, ⟨E', cfC, kC, iC, fC, q1.1, gC, stC, by rw [q2.1]; exact knV, by rw [q2.1]; exact obV, by rw [q2.2.1]; exact asC, q4⟩,
    ⟨V', ⟨q5.1, State.isArrayOf_alike al'.symm q5.2.1, q5.2.2.1⟩, q6, by rw [← al'.findClass]; exact q7, q8, fun j hj => by have := q9 j hj; rwa [Nat.zero_add] at this⟩, fun O n d w F n1 n2 => ?_⟩, hl, hc, hs⟩, st⟩
  · intro y hy
    simp only [List.mem_cons, List.not_mem_nil, or_false] at hy
    rcases hy with rfl | rfl <;> rfl
  · by_cases q : y = x
    · subst q
      cases hD.symm.trans hy
      exact ⟨E', q1.1, q2.2.1, q2.1, hsz⟩
    · exact ⟨cy, q10 y cy q hy, rfl, rfl, rfl⟩
  · obtain ⟨D3, cf, k, i, f, g1, g2, g3, g4, g5, g6, g7⟩ := F
    cases hD.symm.trans g1
    simp only [RoadKit.slotOf, g2, gV, gC, Option.map_some, Option.getD_some] at n1 n2
    exact ⟨E', cf, k, i, f, q1.1, g2, g3, by rw [q2.1]; exact g4, by rw [q2.1]; exact g5, by rw [q2.2.1]; exact g6, by rw [q2.2.2 f.slot (by simp [n1, n2])]; exact g7⟩
end StrChars.Road
namespace StrChars.Road
open Jvm Sem ClassFile Op Lib Jvm.Stand Jvm.Free Jvm.Free.XT
/-- WHAT COMES BACK, the byte[] as a list of values -/
def QA (Z : State) (x : Addr) (zn : Int32) (cs : List Int32) (h : Heap) (v : Option Value) (h' : Heap) (L : List Loc) : Prop := v = none ∧ (∀ y ∈ L, y.base = x) ∧ RoadKit.Keep h h' [x] ∧ h'.size = h.size + 1 ∧ RoadKit.Exa Z h' x ST ∧ RoadKit.Fld Z h' x ST "value" "[B" (.ref h.size) ∧ RoadKit.Fld Z h' x ST "coder" "B" (.int 0) ∧
  (∃ kb, Z.vm.findClass "[B" = some kb ∧ RoadKit.Arv Z h' h.size kb .byte zn (cs.map fun c => .int (lo8 c)) (.int 0)) ∧
  ∀ (O n d : String) (w : Value), RoadKit.Fld Z h x O n d w → RoadKit.slotOf Z O n d ≠ RoadKit.slotOf Z ST "value" "[B" → RoadKit.slotOf Z O n d ≠ RoadKit.slotOf Z ST "coder" "B" → RoadKit.Fld Z h' x O n d w
/-- **new String(chars) AT A CALL, THE ARRAYS AS LISTS**: the char[] at b holds cs, not empty, no char above 255 -/
theorem backArv {p : Program} {l : Launch} {e : Env} {R : Room} {s : State} {args : Array Value} {below : List Frame} {len W : Nat} {Z : State} {a0 : Array Value} {h : Heap} (hZ : Z.Warmed39 s.vm) (hw : ∀ d ∈ words, d.before a0 Z = true) {kI : Nat} (wi : (Jvm.Cond.instantiable ST kI).before a0 Z = true)
    {x b : Addr} {k : ClassId} {zn z : Int32} {cs : List Int32} {dv v0 c0 : Value} (E : RoadKit.Exa Z h x ST) (V : RoadKit.Fld Z h x ST "value" "[B" v0) (C : RoadKit.Fld Z h x ST "coder" "B" c0) (K : RoadKit.Arv Z h b k .char zn (cs.map Value.int) dv) (S : RoadKit.Sta Z h ST "COMPACT_STRINGS" "Z" (.int z)) (hz : ¬ z = 0)
    (hlen : zn.toNatClampNeg = cs.length) (h0 : 0 < cs.length) (hbig : cs.length ≤ 536870912) (hall : ∀ c ∈ cs, ¬ 255 < c) (hfr : 4 ≤ R.frames) (hlo : W + 65 ≤ R.locals) :
    Back l R p e below s args New1.yN len W (fun P a => a = #[.ref x, .ref b] ∧ P.U.heap = h ∧ P.cells + 1 ≤ R.cells ∧ P.slots + cs.length ≤ R.slots)
      (fun P _ v B => ∃ L, QA Z x zn cs h v B.U.heap L ∧ B.locs = P.locs ++ L ∧ B.cells = P.cells + 1 ∧ B.slots = P.slots + cs.length) := by
  obtain ⟨A, K1, K2, K3, K4, K5, K6⟩ := K
  have e : A.slots.size = cs.length := K3.trans hlen
  have hat : ∀ (i : Nat) (hi : i < cs.length), A.slots[i]? = some (.int cs[i]) := fun i hi => by rw [K5 i (by omega)]; simp [List.getD_eq_getElem?_getD, hi]
  have hcv : ∀ (i : Nat) (hi : i < cs.length), cv A i = cs[i] := fun i hi => by unfold cv; rw [hat i hi]
  have hty : Typed .char A := fun i v hv => by
    have hi : i < A.slots.size := (Array.getElem?_eq_some_iff.mp hv).1
    have q := K5 i hi
    rw [hv] at q
    rw [Option.some.inj q]
    exact K6 i hi
  refine Back.mono (back hZ hw wi E V C K1 hty S hz (by omega) (by omega) (fun i hi => by rw [hcv i (by omega)]; exact hall _ (List.getElem_mem _)) hfr hlo) (fun P a hp => ⟨hp.1, hp.2.1, hp.2.2.1, by rw [e]; exact hp.2.2.2⟩) (fun P a v B hp hq => ?_)
  obtain ⟨L, ⟨q1, q2, q3, q4, q5, q6, q7, ⟨V', v1, v2, v3, v4, v5⟩, q9⟩, hl, hc, hs⟩ := hq
  refine ⟨L, ⟨q1, q2, q3, q4, q5, q6, q7, ⟨V'.cls, v3, V', v1, rfl, by rw [v4, e, hlen], K4, fun i hi => ?_, fun i hi => ?_⟩, q9⟩, hl, hc, by rw [hs, e]⟩
  · have hi' : i < cs.length := by omega
    rw [v5 i (by omega), hcv i hi']; simp [List.getD_eq_getElem?_getD, hi']
  · have hi' : i < cs.length := by omega
    simp only [List.getD_eq_getElem?_getD, List.getElem?_map, List.getElem?_eq_getElem hi', Option.map_some, Option.getD_some]
    exact fits_lo8 _
end StrChars.Road
namespace StrChars.Road
open Jvm Sem ClassFile Op Lib Jvm.Stand Jvm.Free Jvm.Free.XT
/-- WHAT COMES BACK, in the writer's own shape -/
def QV (Z : State) (x : Addr) (N : Int32) (bs : List Int32) (h : Heap) (n0 : Nat) (v : Option Value) (h' : Heap) (L : List Loc) : Prop := v = none ∧ RoadKit.Fr n0 L ∧ RoadKit.Keep h h' [x] ∧ RoadKit.Exa Z h' x ST ∧ RoadKit.Fld Z h' x ST "coder" "B" (.int 0) ∧
  ∃ (t : Addr) (kb : ClassId), n0 ≤ t ∧ h.size ≤ t ∧ ¬ t = x ∧ RoadKit.Fld Z h' x ST "value" "[B" (.ref t) ∧ RoadKit.Arv Z h' t kb .byte N (bs.map Value.int) (.int 0)
/-- **new String(chars) AT A CALL, FOR THE WRITER**: a char[] of n known ints, each 0 to 255 -/
theorem backV {p : Program} {l : Launch} {e : Env} {R : Room} {s : State} {args : Array Value} {below : List Frame} {len W : Nat} {Z : State} {a0 : Array Value} {h : Heap} (hZ : Z.Warmed39 s.vm) (hw : ∀ d ∈ words, d.before a0 Z = true) {kI : Nat} (wi : (Jvm.Cond.instantiable ST kI).before a0 Z = true)
    {x b : Addr} {kC : ClassId} {cs bs : List Int32} {d v0 c0 : Value} {z N : Int32} {n n0 : Nat} (hx0 : n0 ≤ x) (hh0 : n0 ≤ h.size) (E : RoadKit.Exa Z h x ST) (V : RoadKit.Fld Z h x ST "value" "[B" v0) (C : RoadKit.Fld Z h x ST "coder" "B" c0) (K : RoadKit.Arv Z h b kC .char N (cs.map Value.int) d) (S : RoadKit.Sta Z h ST "COMPACT_STRINGS" "Z" (.int z)) (hz : ¬ z = 0)
    (hn : cs.length = n) (hN : N = Int32.ofNat n) (l0 : 0 < n) (l2 : n ≤ 4000) (hp : ∀ c ∈ cs, ¬ c < 0 ∧ ¬ (255 : Int32) < c) (hb : bs = cs.map (fun c => c.toInt8.toInt32)) (hfr : 4 ≤ R.frames) (hlo : W + 65 ≤ R.locals) :
    Back l R p e below s args (⟨"java/lang/String", "<init>", "([C)V"⟩ : MethodName) len W (fun P a => a = #[.ref x, .ref b] ∧ P.U.heap = h ∧ P.cells + 1 ≤ R.cells ∧ P.slots + n ≤ R.slots)
      (fun P _ v B => ∃ L, QV Z x N bs h n0 v B.U.heap L ∧ B.locs = P.locs ++ L ∧ B.cells = P.cells + 1 ∧ B.slots = P.slots + n) := by
  subst hn hN hb
  refine Back.mono (backArv hZ hw wi E V C K S hz (n32 (by omega)) l0 (by omega) (fun c hc => (hp c hc).2) hfr hlo) (fun P a hp => hp) (fun P a v B hp hq => ?_)
  obtain ⟨L, ⟨q1, q2, q3, q4, q5, q6, q7, ⟨kb, v1, v2⟩, q9⟩, hl, hc, hs⟩ := hq
  exact ⟨L, ⟨q1, fun y hy => by rw [q2 y hy]; exact hx0, q3, q5, q7, h.size, kb, hh0, Nat.le_refl _, Nat.ne_of_gt E.lt, q6, by rw [List.map_map]; exact v2⟩, hl, hc, hs⟩
end StrChars.Road
namespace StrChars
open Jvm Sem ClassFile Op Lib Jvm.Stand Jvm.Free.XT Jvm.Free.ALB Jvm.Free.JM Jvm.Free
open Jvm.Lib.Cold (StaticIs)
def hi8 (x : Int32) : Int32 := lo8 (x >>> ((8 : Int32) &&& 31))
/-- what StringUTF16.getChar makes of two bytes -/
def pairCh (u v : Int32) : Int32 := (((u &&& 255) <<< ((0 : Int32) &&& 31)) ||| ((v &&& 255) <<< ((8 : Int32) &&& 31))).toUInt32.toUInt16.toUInt32.toInt32
theorem lo8_and (x : Int32) : (lo8 x &&& 255).toBitVec.toNat = x.toBitVec.toNat % 256 := by
  have h : (lo8 x).toBitVec = (x.toBitVec.signExtend 8).signExtend 32 := by rw [lo8, Int8.toBitVec_toInt32, Int32.toBitVec_toInt8]
  rw [Int32.toBitVec_and, BitVec.toNat_and, h]
  have e : ((x.toBitVec.signExtend 8).signExtend 32).toNat % 256 = x.toBitVec.toNat % 256 := by
    rw [BitVec.toNat_signExtend]
    have hlt := x.toBitVec.isLt
    simp only [BitVec.toNat_setWidth, BitVec.toNat_signExtend]
    split <;> split <;> omega
  rw [← e]
  exact Nat.and_two_pow_sub_one_eq_mod _ 8
theorem pair_says {c : Int32} (h0 : ¬ c < 0) (h1 : ¬ 65535 < c) : pairCh (lo8 c) (hi8 c) = c := by
  rw [Int32.lt_iff_toInt_lt] at h0 h1
  have e0 : (0 : Int32).toInt = 0 := rfl
  have e1 : (65535 : Int32).toInt = 65535 := rfl
  have hc : c.toInt = c.toBitVec.toNat := by
    have := c.toBitVec.isLt
    have e : c.toInt = c.toBitVec.toInt := rfl
    rw [e] at h0 h1
    rw [e]
    rw [BitVec.toInt_eq_toNat_cond] at h0 h1 ⊢
    split at h0 <;> split <;> omega
  have hn : c.toBitVec.toNat < 65536 := by omega
  have a1 := lo8_and c
  have a2 : (hi8 c &&& 255).toBitVec.toNat = c.toBitVec.toNat / 256 := by
    rw [hi8, lo8_and]
    have e : ((8 : Int32) &&& 31) = 8 := by decide
    rw [e, Int32.toBitVec_shiftRight]
    have e2 : ((8 : Int32).toBitVec.smod 32) = 8#32 := by decide
    rw [e2, BitVec.sshiftRight_eq', BitVec.toNat_sshiftRight_of_msb_false (by rw [BitVec.msb_eq_false_iff_two_mul_lt]; omega)]
    show c.toBitVec.toNat >>> 8 % 256 = _
    rw [Nat.shiftRight_eq_div_pow]
    omega
  unfold pairCh
  apply Int32.toBitVec_inj.mp
  apply BitVec.eq_of_toNat_eq
  have f0 : ((0 : Int32) &&& 31) = 0 := by decide
  have f8 : ((8 : Int32) &&& 31) = 8 := by decide
  rw [f0, f8]
  have g : (((lo8 c &&& 255) <<< (0 : Int32)) ||| ((hi8 c &&& 255) <<< (8 : Int32))).toBitVec.toNat = c.toBitVec.toNat := by
    rw [Int32.toBitVec_or, Int32.toBitVec_shiftLeft, Int32.toBitVec_shiftLeft]
    have s0 : ((0 : Int32).toBitVec.smod 32) = 0#32 := by decide
    have s8 : ((8 : Int32).toBitVec.smod 32) = 8#32 := by decide
    rw [s0, s8, BitVec.toNat_or]
    simp only [BitVec.shiftLeft_eq', BitVec.toNat_shiftLeft, a1, a2]
    show (c.toBitVec.toNat % 256) <<< 0 % 2 ^ 32 ||| (c.toBitVec.toNat / 256) <<< 8 % 2 ^ 32 = _
    rw [Nat.shiftLeft_zero, Nat.mod_eq_of_lt (show c.toBitVec.toNat % 256 < 2 ^ 32 by omega), Nat.mod_eq_of_lt (show (c.toBitVec.toNat / 256) <<< 8 < 2 ^ 32 by rw [Nat.shiftLeft_eq]; omega), Nat.or_comm, ← Nat.shiftLeft_add_eq_or_of_lt (by omega), Nat.shiftLeft_eq]
    omega
  show BitVec.toNat (((((lo8 c &&& 255) <<< (0 : Int32)) ||| ((hi8 c &&& 255) <<< (8 : Int32))).toBitVec.setWidth 16).setWidth 32) = _
  rw [BitVec.toNat_setWidth, BitVec.toNat_setWidth, g]
  omega
end StrChars
namespace StrChars
open Jvm Sem ClassFile Op Lib Jvm.Stand Jvm.Free.XT Jvm.Free.ALB Jvm.Free.JM Jvm.Free
open Jvm.Lib.Cold (StaticIs)
/-- the array's cell V codes the n chars f 0 .. f (n - 1) by the coder cd, as the JDK does: coder 1 just where some char is above 255 -/
def Cod (cd : Int32) (n : Nat) (f : Nat → Int32) (V : Cell) : Prop := (cd = 0 ∧ V.slots.size = n ∧ ∀ j, j < n → V.slots[j]? = some (.int (lo8 (f j))) ∧ ¬ 255 < f j) ∨ (cd = 1 ∧ V.slots.size = 2 * n ∧ (∀ j, j < n → V.slots[2 * j]? = some (.int (lo8 (f j))) ∧ V.slots[2 * j + 1]? = some (.int (hi8 (f j)))) ∧ ∃ j, j < n ∧ 255 < f j)
/-- **x is a String of the n chars f 0 .. f (n - 1)**, Latin-1 or UTF-16; its array at t has the cell V -/
def Txt (x t : Addr) (V : Cell) (cd : Int32) (n : Nat) (f : Nat → Int32) (U : State) : Prop := Exact "java/lang/String" x U ∧ Has x "java/lang/String" "value" "[B" (.ref t) U ∧ Has x "java/lang/String" "coder" "B" (.int cd) U ∧ XT.Arr .byte t V U ∧ Cod cd n f V ∧ ∀ j, j < n → ¬ f j < 0 ∧ ¬ 65535 < f j
theorem Txt.mv {x t : Addr} {V : Cell} {cd : Int32} {n : Nat} {f : Nat → Int32} {U U' : State} (h : Txt x t V cd n f U) (hal : U.vm.Alike U'.vm) (hh : U'.heap = U.heap) : Txt x t V cd n f U' := ⟨h.1.mv hal hh, h.2.1.mv hal hh, h.2.2.1.mv hal hh, h.2.2.2.1.mv hal hh, h.2.2.2.2⟩
end StrChars
namespace StrChars.Road
open Jvm Sem ClassFile Op Lib Jvm.Stand Jvm.Free Jvm.Free.XT
open Jvm.Lib.Cold (StaticIs)
theorem consq {a : Array Value} {s : State} {c : Jvm.Cond} {L : List Jvm.Cond} (h0 : c.before a s = true) (h : ∀ w ∈ L, w.before a s = true) : ∀ w ∈ c :: L, w.before a s = true := fun w hw => (List.mem_cons.mp hw).elim (fun e => e ▸ h0) (h w)
/-- the bytes of the chars cs, low before high -/
def wideBytes : List Int32 → List Value
  | [] => []
  | c :: cs => .int (lo8 c) :: .int (hi8 c) :: wideBytes cs
theorem wide_lo (d : Value) : ∀ (cs : List Int32) (j : Nat), j < cs.length → (wideBytes cs).getD (2 * j) d = .int (lo8 (cs.getD j 0))
  | [], j, h => absurd h (Nat.not_lt_zero j)
  | c :: cs, 0, _ => rfl
  | c :: cs, j + 1, h => by
    have q := wide_lo d cs j (by simpa using h)
    rw [show 2 * (j + 1) = 2 * j + 1 + 1 from by omega]
    simpa [wideBytes] using q
theorem wide_hi (d : Value) : ∀ (cs : List Int32) (j : Nat), j < cs.length → (wideBytes cs).getD (2 * j + 1) d = .int (hi8 (cs.getD j 0))
  | [], j, h => absurd h (Nat.not_lt_zero j)
  | c :: cs, 0, _ => rfl
  | c :: cs, j + 1, h => by
    have q := wide_hi d cs j (by simpa using h)
    rw [show 2 * (j + 1) + 1 = 2 * j + 1 + 1 + 1 from by omega]
    simpa [wideBytes] using q
theorem low_at (d : Value) (cs : List Int32) (j : Nat) (h : j < cs.length) : (cs.map fun c => Value.int (lo8 c)).getD j d = .int (lo8 (cs.getD j 0)) := by
  simp [List.getD_eq_getElem?_getD, h]
/-- an array of N2 bytes vs codes the chars cs by the coder cd -/
def CodA (cs : List Int32) (cd N2 : Int32) (vs : List Value) : Prop := (cd = 0 ∧ N2 = Int32.ofNat cs.length ∧ vs = (cs.map fun c => Value.int (lo8 c)) ∧ ∀ c ∈ cs, ¬ 255 < c) ∨ (cd = 1 ∧ N2 = Int32.ofNat (2 * cs.length) ∧ vs = wideBytes cs ∧ ∃ c ∈ cs, 255 < c)
theorem CodA.cod {cs : List Int32} {cd N2 : Int32} {vs : List Value} {V : Cell} (h : CodA cs cd N2 vs) (hn : 2 * cs.length < 2 ^ 31) (hs : V.slots.size = N2.toNatClampNeg) (hv : RoadKit.Has V vs (.int 0)) : Cod cd cs.length (fun j => cs.getD j 0) V := by
  rcases h with ⟨rfl, rfl, rfl, h⟩ | ⟨rfl, rfl, rfl, c, hc, hw⟩
  · rw [n32 (by omega)] at hs
    exact Or.inl ⟨rfl, hs, fun j hj => ⟨by rw [hv j (by omega), low_at _ _ _ hj], by
      have e : cs.getD j 0 = cs[j] := by simp [List.getD_eq_getElem?_getD, hj]
      show ¬ 255 < cs.getD j 0
      rw [e]; exact h _ (List.getElem_mem _)⟩⟩
  · rw [n32 (by omega)] at hs
    obtain ⟨j, hj, rfl⟩ := List.getElem_of_mem hc
    exact Or.inr ⟨rfl, hs, fun j hj => ⟨by rw [hv _ (by omega), wide_lo _ _ _ hj], by rw [hv _ (by omega), wide_hi _ _ _ hj]⟩, j, hj, by
      have e : cs.getD j 0 = cs[j] := by simp [List.getD_eq_getElem?_getD, hj]
      show 255 < cs.getD j 0
      rw [e]; exact hw⟩
/-- an object of exactly java/lang/String, its two fields found: as the laws ask it -/
theorem strObj {Z U : State} {a0 : Array Value} {kI : Nat} (wi : (Jvm.Cond.instantiable ST kI).before a0 Z = true) (al : Z.vm.Alike U.vm) {x : Addr} {v0 c0 : Value} (E : RoadKit.Exa Z U.heap x ST) (V : RoadKit.Fld Z U.heap x ST "value" "[B" v0) (C : RoadKit.Fld Z U.heap x ST "coder" "B" c0) :
    ∃ (D : Cell) (fV fC : Field), Blank ST x D U ∧ Found ST "value" "[B" fV U ∧ Found ST "coder" "B" fC U ∧ D.slots[fV.slot]? = some v0 ∧ D.slots[fC.slot]? = some c0 ∧ RoadKit.slotOf Z ST "value" "[B" = fV.slot ∧ RoadKit.slotOf Z ST "coder" "B" = fC.slot := by
  obtain ⟨D, cfV, kV, iV, fV, hD, gV, stV, knV, obV, asV, slV⟩ := V
  obtain ⟨D', cfC, kC, iC, fC, hD', gC, stC, -, -, asC, slC⟩ := C
  cases hD.symm.trans hD'
  obtain ⟨D2, kD, e1, e2, e3, e4, e5⟩ := E
  cases hD.symm.trans e1
  obtain ⟨c2, k2, i1, i2, i3, -⟩ := Cond.instantiable_spec wi
  cases e2.symm.trans i1
  cases e3.symm.trans i2
  obtain ⟨kU, u1, u2⟩ := al.2.2 _ _ e3
  exact ⟨D, fV, fC, ⟨hD, ⟨knV, fun q hq => by rw [hq] at obV; cases obV⟩, by rw [al.findClass]; exact e2, kU, u1, by rw [u2]; exact i3, by rw [u2]; exact e5 i3⟩, ⟨SBG.found_only al ⟨cfV, kV, iV, gV⟩, stV⟩, ⟨SBG.found_only al ⟨cfC, kC, iC, gC⟩, stC⟩, slV, slC, by simp [RoadKit.slotOf, gV], by simp [RoadKit.slotOf, gC]⟩
theorem sta_is {Z U : State} (al : Z.vm.Alike U.vm) {C n d : String} {v : Value} (S : RoadKit.Sta Z U.heap C n d v) : StaticIs U C n d v := by
  obtain ⟨cfS, iS, kS, fS, st, cS, t1, t2, t3, t4, t5, t6, t7⟩ := S
  exact StaticIs.there (s := { Z with heap := U.heap }) ⟨cfS, iS, kS, fS, st, cS, t1, t2, t3, t4, t5, (fun q => by rw [q] at t6; cases t6), t7⟩ al rfl
end StrChars.Road
namespace StrChars
open Jvm Sem ClassFile Op Lib Jvm.Stand Jvm.Free.XT Jvm.Free.ALB Jvm.Free.JM Jvm.Free
open Jvm.Lib.Cold (StaticIs)
/-- what place i of a byte[]'s cell holds -/
def yv (A : Cell) (i : Nat) : Int32 := match A.slots[i]? with | some (.int x) => x | _ => 0
theorem yv_get {a : Addr} {A : Cell} {U : State} (h : XT.Arr .byte a A U) (ht : Typed .byte A) {i : Nat} (hi : i < A.slots.size) : A.slots[i]? = some (.int (yv A i)) := by
  have e := Array.getElem?_eq_getElem hi
  have f := ht i _ e
  unfold yv; rw [e]
  generalize A.slots[i] = v at f
  cases v <;> simp [fits] at f ⊢
/-- the two arrays are equal, place for place -/
def EqC (A B : Cell) : Prop := A.slots.size = B.slots.size ∧ ∀ i, i < A.slots.size → yv A i = yv B i
/-- a boolean that says whether p -/
def Says01 (q : Prop) (r : Option Value) (s u : State) : Prop := ∃ v : Int32, r = some (.int v) ∧ u.heap = s.heap ∧ ((v = 1 ∧ q) ∨ (v = 0 ∧ ¬ q))
theorem Says01.mv {q : Prop} : ∀ r (U U' V V' : State), U'.heap = U.heap → V.vm.Alike V'.vm → V'.heap = V.heap → Says01 q r U V → Says01 q r U' V' :=
  fun r U U' V V' h1 _ h2 ⟨v, a, b, c⟩ => ⟨v, a, by rw [h1, h2]; exact b, c⟩
namespace LEq
def yN : MethodName := ⟨"java/lang/StringLatin1", "equals", "([B[B)Z"⟩
abbrev yB : ByteArray := jdk_43_method_13_code
theorem d0 : decode yB 0 = .ok (.aload_n 0, 1) := by decide +kernel
theorem d1 : decode yB 1 = .ok (.arraylength, 1) := by decide +kernel
theorem d2 : decode yB 2 = .ok (.aload_n 1, 1) := by decide +kernel
theorem d3 : decode yB 3 = .ok (.arraylength, 1) := by decide +kernel
theorem d4 : decode yB 4 = .ok (.if_icmp (.ne) 30, 3) := by decide +kernel
theorem d7 : decode yB 7 = .ok (.iconst 0, 1) := by decide +kernel
theorem d8 : decode yB 8 = .ok (.istore_n 2, 1) := by decide +kernel
theorem d9 : decode yB 9 = .ok (.iload_n 2, 1) := by decide +kernel
theorem d10 : decode yB 10 = .ok (.aload_n 0, 1) := by decide +kernel
theorem d11 : decode yB 11 = .ok (.arraylength, 1) := by decide +kernel
theorem d12 : decode yB 12 = .ok (.if_icmp (.ge) 20, 3) := by decide +kernel
theorem d15 : decode yB 15 = .ok (.aload_n 0, 1) := by decide +kernel
theorem d16 : decode yB 16 = .ok (.iload_n 2, 1) := by decide +kernel
theorem d17 : decode yB 17 = .ok (.baload, 1) := by decide +kernel
theorem d18 : decode yB 18 = .ok (.aload_n 1, 1) := by decide +kernel
theorem d19 : decode yB 19 = .ok (.iload_n 2, 1) := by decide +kernel
theorem d20 : decode yB 20 = .ok (.baload, 1) := by decide +kernel
theorem d21 : decode yB 21 = .ok (.if_icmp (.eq) 5, 3) := by decide +kernel
theorem d24 : decode yB 24 = .ok (.iconst 0, 1) := by decide +kernel
theorem d25 : decode yB 25 = .ok (.ireturn, 1) := by decide +kernel
theorem d26 : decode yB 26 = .ok (.iinc 2 1, 3) := by decide +kernel
theorem d29 : decode yB 29 = .ok (.goto (-20), 3) := by decide +kernel
theorem d32 : decode yB 32 = .ok (.iconst 1, 1) := by decide +kernel
theorem d33 : decode yB 33 = .ok (.ireturn, 1) := by decide +kernel
theorem d34 : decode yB 34 = .ok (.iconst 0, 1) := by decide +kernel
theorem d35 : decode yB 35 = .ok (.ireturn, 1) := by decide +kernel
def site : List Cond := []
def tab : Cond := tabOf yN yB 3 (some .boolean) site
def P (a : Addr) (A : Cell) (b : Addr) (B : Cell) (args : Array Value) (s : State) : Prop := args = #[.ref a, .ref b] ∧ XT.Arr .byte a A s ∧ Typed .byte A ∧ XT.Arr .byte b B s ∧ Typed .byte B
/-- whether two byte[] are equal, place for place -/
theorem law (l : Launch) (a : Addr) (A : Cell) (b : Addr) (B : Cell) : Law l yN 2 2 0 0 yB 3 (some .boolean) site (P a A b B) (Says01 (EqC A B)) [] 0 0 := by
  refine Law.of_walk (plainFor_of_name (by decide +kernel)) (by decide +kernel) (by decide +kernel) (by decide) (fun _ _ h => by rw [h.1]; rfl) (fun _ U U' hal hh h => ⟨h.1, h.2.1.mv hal hh, h.2.2.1, h.2.2.2.1.mv hal hh, h.2.2.2.2⟩) (fun r U U' V V' h1 hal h2 h => Says01.mv r U U' V V' h1 hal h2 h) ?_
  intro p e s m args below meth c s₁ X0 hexec hbytes hml hret hlk hnm hown hh0 W hP
  obtain ⟨rfl, hA, tA, hB, tB⟩ := hP
  have a31 := hA.2.2.2
  have b31 := hB.2.2.2
  have hA0 := hA.mv X0.warmed.alike hh0
  have hB0 := hB.mv X0.warmed.alike hh0
  have c1 : Steps p.tables e below (s₁.setTop (entryFrame m #[.ref a, .ref b] 3)) (s₁.setTop (mkF m 0 #[.val (.ref a), .val (.ref b), .unset] [])) := entry rfl
  have c2 : Steps p.tables e below (s₁.setTop (entryFrame m #[.ref a, .ref b] 3)) (s₁.setTop (mkF m 4 #[.val (.ref a), .val (.ref b), .unset] [.int (Int32.ofNat B.slots.size), .int (Int32.ofNat A.slots.size)])) := c1.trans (by
    refine XS.aloadN X0.here hexec rfl (hb hbytes d0) rfl rfl ?_
    refine X0.alen hexec hA0 rfl rfl (hb hbytes d1) ?_
    refine XS.aloadN X0.here hexec rfl (hb hbytes d2) rfl rfl ?_
    refine X0.alen hexec hB0 rfl rfl (hb hbytes d3) ?_
    exact Steps.refl _)
  by_cases hs : A.slots.size = B.slots.size
  · have c3 : Steps p.tables e below (s₁.setTop (entryFrame m #[.ref a, .ref b] 3)) (s₁.setTop (mkF m 9 #[.val (.ref a), .val (.ref b), .val (.int 0)] [])) := c2.trans (by
      refine XS.icmpNo X0.here hexec rfl (hb hbytes d4) rfl (ii_ne_f (by rw [hs])) ?_
      refine iconstV X0.here hexec rfl 0 (hb hbytes d7) (by decide) ?_
      refine XS.istoreN X0.here hexec rfl (hb hbytes d8) rfl rfl ?_
      exact Steps.refl _)
    have loop : ∀ (r i : Nat), i + r = A.slots.size → (∀ j, j < i → yv A j = yv B j) → Steps p.tables e below (s₁.setTop (entryFrame m #[.ref a, .ref b] 3)) (s₁.setTop (mkF m 9 #[.val (.ref a), .val (.ref b), .val (.int (Int32.ofNat i))] [])) → ∃ (pc : Nat) (Ls : Array Slot) (v : Int32), (pc = 25 ∨ pc = 33) ∧ ((v = 1 ∧ EqC A B) ∨ (v = 0 ∧ ¬ EqC A B)) ∧ Steps p.tables e below (s₁.setTop (entryFrame m #[.ref a, .ref b] 3)) (s₁.setTop (mkF m pc Ls [.int v])) := by
      intro r
      induction r with
      | zero =>
        intro i hi he cl
        exact ⟨33, _, 1, Or.inr rfl, Or.inl ⟨rfl, hs, fun j hj => he j (by omega)⟩, cl.trans (by
          refine XS.iloadN X0.here hexec rfl (hb hbytes d9) rfl ?_
          refine XS.aloadN X0.here hexec rfl (hb hbytes d10) rfl rfl ?_
          refine X0.alen hexec hA0 rfl rfl (hb hbytes d11) ?_
          refine XS.icmpYes X0.here hexec rfl (pc0 := 12) rfl (hb hbytes d12) rfl (ii_ge_t (nlt32 (by omega) (by omega))) (by decide) rfl ?_
          refine iconstV X0.here hexec rfl 1 (hb hbytes d32) (by decide) ?_
          exact Steps.refl _)⟩
      | succ r ih =>
        intro i hi he cl
        have c4 : Steps p.tables e below (s₁.setTop (entryFrame m #[.ref a, .ref b] 3)) (s₁.setTop (mkF m 21 #[.val (.ref a), .val (.ref b), .val (.int (Int32.ofNat i))] [.int (yv B i), .int (yv A i)])) := cl.trans (by
          refine XS.iloadN X0.here hexec rfl (hb hbytes d9) rfl ?_
          refine XS.aloadN X0.here hexec rfl (hb hbytes d10) rfl rfl ?_
          refine X0.alen hexec hA0 rfl rfl (hb hbytes d11) ?_
          refine XS.icmpNo X0.here hexec rfl (hb hbytes d12) rfl (ii_ge_f (lt32 (by omega) (by omega))) ?_
          refine XS.aloadN X0.here hexec rfl (hb hbytes d15) rfl rfl ?_
          refine XS.iloadN X0.here hexec rfl (hb hbytes d16) rfl ?_
          refine X0.aget hexec hA0 rfl (yv_get hA tA (i := i) (by omega)) rfl rfl (hb hbytes d17) ?_
          refine XS.aloadN X0.here hexec rfl (hb hbytes d18) rfl rfl ?_
          refine XS.iloadN X0.here hexec rfl (hb hbytes d19) rfl ?_
          refine X0.aget hexec hB0 rfl (yv_get hB tB (i := i) (by omega)) rfl rfl (hb hbytes d20) ?_
          exact Steps.refl _)
        by_cases hv : yv A i = yv B i
        · have c5 : Steps p.tables e below (s₁.setTop (entryFrame m #[.ref a, .ref b] 3)) (s₁.setTop (mkF m 9 #[.val (.ref a), .val (.ref b), .val (.int (Int32.ofNat i + 1))] [])) := c4.trans (by
            refine XS.icmpYes X0.here hexec rfl (pc0 := 21) rfl (hb hbytes d21) rfl (ii_eq_t hv) (by decide) rfl ?_
            refine iincV X0.here hexec rfl 1 (hb hbytes d26) (by decide) rfl rfl ?_
            refine XS.goto X0.here hexec rfl (pc0 := 29) rfl (hb hbytes d29) (by decide) rfl ?_
            exact Steps.refl _)
          rw [succ32] at c5
          exact ih (i + 1) (by omega) (fun j hj => by
            by_cases e : j = i
            · rw [e]; exact hv
            · exact he j (by omega)) c5
        · exact ⟨25, _, 0, Or.inl rfl, Or.inr ⟨rfl, fun q => hv (q.2 i (by omega))⟩, c4.trans (by
            refine XS.icmpNo X0.here hexec rfl (hb hbytes d21) rfl (ii_eq_f hv) ?_
            refine iconstV X0.here hexec rfl 0 (hb hbytes d24) (by decide) ?_
            exact Steps.refl _)⟩
    obtain ⟨pc, Ls, v, hpc, hv, cz⟩ := loop A.slots.size 0 (by omega) (fun j hj => absurd hj (Nat.not_lt_zero j)) c3
    have nv : narrow .boolean (.int v) = .int v := by rcases hv with ⟨rfl, -⟩ | ⟨rfl, -⟩ <;> rfl
    rcases hpc with rfl | rfl
    · exact ⟨s₁, some (.int v), _, _, _, X0, rfl, rfl, rfl, (fun h => by cases h), ⟨v, rfl, hh0, hv⟩, fun fs hl => cz.trans (X0.ireturnOut hexec hret nv (Or.inr (Or.inl rfl)) (hb hbytes d25) hl)⟩
    · exact ⟨s₁, some (.int v), _, _, _, X0, rfl, rfl, rfl, (fun h => by cases h), ⟨v, rfl, hh0, hv⟩, fun fs hl => cz.trans (X0.ireturnOut hexec hret nv (Or.inr (Or.inl rfl)) (hb hbytes d33) hl)⟩
  · have c3 : Steps p.tables e below (s₁.setTop (entryFrame m #[.ref a, .ref b] 3)) (s₁.setTop (mkF m 35 #[.val (.ref a), .val (.ref b), .unset] [.int 0])) := c2.trans (by
      refine XS.icmpYes X0.here hexec rfl (pc0 := 4) rfl (hb hbytes d4) rfl (ii_ne_t (ne32 a31 b31 hs)) (by decide) rfl ?_
      refine iconstV X0.here hexec rfl 0 (hb hbytes d34) (by decide) ?_
      exact Steps.refl _)
    exact ⟨s₁, some (.int 0), _, _, _, X0, rfl, rfl, rfl, (fun h => by cases h), ⟨0, rfl, hh0, Or.inr ⟨rfl, fun q => hs q.1⟩⟩, fun fs hl => c3.trans (X0.ireturnOut hexec hret rfl (Or.inr (Or.inl rfl)) (hb hbytes d35) hl)⟩
end LEq
theorem Cod.ty {cd : Int32} {n : Nat} {f : Nat → Int32} {V : Cell} (h : Cod cd n f V) : Typed .byte V := fun i v hv => by
  have hi : i < V.slots.size := (Array.getElem?_eq_some_iff.mp hv).1
  rcases h with ⟨-, k1, k2⟩ | ⟨-, k1, k2, -⟩
  · rw [(k2 i (by omega)).1] at hv; cases hv; exact fits_lo8 _
  · rcases Nat.mod_two_eq_zero_or_one i with e | e
    · obtain ⟨j, rfl⟩ : ∃ j, i = 2 * j := ⟨i / 2, by omega⟩
      rw [(k2 j (by omega)).1] at hv; cases hv; exact fits_lo8 _
    · obtain ⟨j, rfl⟩ : ∃ j, i = 2 * j + 1 := ⟨i / 2, by omega⟩
      rw [(k2 j (by omega)).2] at hv; cases hv; exact fits_lo8 _
/-- the same text -/
def SameT (n : Nat) (f : Nat → Int32) (k : Nat) (g : Nat → Int32) : Prop := n = k ∧ ∀ j, j < n → f j = g j
theorem lo8_inj {x y : Int32} (h0 : ¬ x < 0) (h1 : ¬ 255 < x) (k0 : ¬ y < 0) (k1 : ¬ 255 < y) (h : lo8 x = lo8 y) : x = y := by
  rw [← lo8_mask h0 h1, ← lo8_mask k0 k1, h]
/-- arrays coded by one coder are equal just where the texts are -/
theorem Cod.eqv {cd : Int32} {n k : Nat} {f g : Nat → Int32} {V V' : Cell} (h : Cod cd n f V) (h' : Cod cd k g V') (hf : ∀ j, j < n → ¬ f j < 0 ∧ ¬ 65535 < f j) (hg : ∀ j, j < k → ¬ g j < 0 ∧ ¬ 65535 < g j) : EqC V V' ↔ SameT n f k g := by
  have yvv : ∀ {W : Cell} {i : Nat} {x : Int32}, W.slots[i]? = some (.int x) → yv W i = x := fun q => by unfold yv; rw [q]
  rcases h with ⟨rfl, k1, k2⟩ | ⟨rfl, k1, k2, -⟩
  · rcases h' with ⟨-, m1, m2⟩ | ⟨e, -⟩
    · constructor
      · rintro ⟨e1, e2⟩
        refine ⟨by omega, fun j hj => ?_⟩
        have q := e2 j (by omega)
        rw [yvv (k2 j hj).1, yvv (m2 j (by omega)).1] at q
        exact lo8_inj (hf j hj).1 (k2 j hj).2 (hg j (by omega)).1 (m2 j (by omega)).2 q
      · rintro ⟨rfl, e2⟩
        refine ⟨by omega, fun j hj => ?_⟩
        rw [yvv (k2 j (by omega)).1, yvv (m2 j (by omega)).1, e2 j (by omega)]
    · exact absurd e (by decide)
  · rcases h' with ⟨e, -⟩ | ⟨-, m1, m2, -⟩
    · exact absurd e (by decide)
    · constructor
      · rintro ⟨e1, e2⟩
        refine ⟨by omega, fun j hj => ?_⟩
        have q1 := e2 (2 * j) (by omega)
        have q2 := e2 (2 * j + 1) (by omega)
        rw [yvv (k2 j hj).1, yvv (m2 j (by omega)).1] at q1
        rw [yvv (k2 j hj).2, yvv (m2 j (by omega)).2] at q2
        rw [← pair_says (hf j hj).1 (hf j hj).2, ← pair_says (hg j (by omega)).1 (hg j (by omega)).2, q1, q2]
      · rintro ⟨rfl, e2⟩
        refine ⟨by omega, fun i hi => ?_⟩
        rcases Nat.mod_two_eq_zero_or_one i with e | e
        · obtain ⟨j, rfl⟩ : ∃ j, i = 2 * j := ⟨i / 2, by omega⟩
          rw [yvv (k2 j (by omega)).1, yvv (m2 j (by omega)).1, e2 j (by omega)]
        · obtain ⟨j, rfl⟩ : ∃ j, i = 2 * j + 1 := ⟨i / 2, by omega⟩
          rw [yvv (k2 j (by omega)).2, yvv (m2 j (by omega)).2, e2 j (by omega)]
/-- two codings differ: so do the texts -/
theorem Cod.dif {cd cd' : Int32} {n k : Nat} {f g : Nat → Int32} {V V' : Cell} (h : Cod cd n f V) (h' : Cod cd' k g V') (hne : ¬ cd = cd') : ¬ SameT n f k g := by
  rintro ⟨rfl, e⟩
  rcases h with ⟨rfl, -, k2⟩ | ⟨rfl, -, -, j, hj, hw⟩
  · rcases h' with ⟨rfl, -⟩ | ⟨-, -, -, j, hj, hw⟩
    · exact hne rfl
    · exact (k2 j hj).2 (by rw [e j hj]; exact hw)
  · rcases h' with ⟨-, -, m2⟩ | ⟨rfl, -⟩
    · exact (m2 j hj).2 (by rw [← e j hj]; exact hw)
    · exact hne rfl
/-- an object of exactly C is an instance of C -/
theorem cinst {p : Program} {l : Launch} {e : Env} {R : Room} {s : State} {m : MethodId} {args : Array Value} {below : List Frame} {meth : Method} {c : Code} {T : State} {locs : List Loc} {cells slots : Nat} (X : Stand p l e R s m args below meth c T locs cells slots) (hexec : p.tables.exec = Jvm.exec) {own C : String} {index : Nat} (hown : s.vm.findClass own = some m.cls) (hlink : (Cond.classLink own index C).before args s = true) {a : Addr} (hE : Exact C a T)
    {g : JFrame} (hg : g.method = m) {rest : List Value} (hstack : g.stack = .ref a :: rest) (hdg : decode c.code g.pc = .ok (.instanceof index, 3)) :
    ∃ T', Stand p l e R s m args below meth c T' locs cells slots ∧ T'.heap = T.heap ∧ ∀ target, Steps p.tables e below (T'.setTop { g with pc := g.pc + 3, stack := .int 1 :: rest }) target → Steps p.tables e below (T.setTop g) target := by
  obtain ⟨cB, h1, D, h2, h3, h4⟩ := hE
  have h1' : s.vm.findClass C = some cB := by rw [← X.warmed.alike.findClass]; exact h1
  obtain ⟨vm', X', st⟩ := X.instanceofYes hexec hown hlink h2 h4 h1' (by rw [h3]; exact Jvm.Free.SB.assignable_self _ _) hg hstack hdg
  exact ⟨_, X', rfl, st⟩
theorem cself {p : Program} {l : Launch} {e : Env} {R : Room} {s : State} {m : MethodId} {args : Array Value} {below : List Frame} {meth : Method} {c : Code} {T : State} {locs : List Loc} {cells slots : Nat} (X : Stand p l e R s m args below meth c T locs cells slots) (hexec : p.tables.exec = Jvm.exec) {own C : String} {index : Nat} (hown : s.vm.findClass own = some m.cls) (hlink : (Cond.classLink own index C).before args s = true) {a : Addr} (hE : Exact C a T)
    {g : JFrame} (hg : g.method = m) {rest : List Value} (hstack : g.stack = .ref a :: rest) (hdg : decode c.code g.pc = .ok (.checkcast index, 3)) :
    ∃ T', Stand p l e R s m args below meth c T' locs cells slots ∧ T'.heap = T.heap ∧ ∀ target, Steps p.tables e below (T'.setTop { g with pc := g.pc + 3, stack := .ref a :: rest }) target → Steps p.tables e below (T.setTop g) target := by
  obtain ⟨cB, h1, D, h2, h3, h4⟩ := hE
  have h1' : s.vm.findClass C = some cB := by rw [← X.warmed.alike.findClass]; exact h1
  obtain ⟨vm', X', st⟩ := X.checkcastYes hexec hown hlink h2 h4 h1' (by rw [h3]; exact Jvm.Free.SB.assignable_self _ _) hg hstack hdg
  exact ⟨_, X', rfl, fun t h => st t (by rw [← hstack] at h; exact h)⟩
namespace SEq
def yN : MethodName := ⟨"java/lang/String", "equals", "(Ljava/lang/Object;)Z"⟩
abbrev yB : ByteArray := jdk_42_method_66_code
theorem d0 : decode yB 0 = .ok (.aload_n 0, 1) := by decide +kernel
theorem d1 : decode yB 1 = .ok (.aload_n 1, 1) := by decide +kernel
theorem d2 : decode yB 2 = .ok (.if_acmp (.ne) 5, 3) := by decide +kernel
theorem d5 : decode yB 5 = .ok (.iconst 1, 1) := by decide +kernel
theorem d6 : decode yB 6 = .ok (.ireturn, 1) := by decide +kernel
theorem d7 : decode yB 7 = .ok (.aload_n 1, 1) := by decide +kernel
theorem d8 : decode yB 8 = .ok (.instanceof 10, 3) := by decide +kernel
theorem d11 : decode yB 11 = .ok (.ifCond (.eq) 43, 3) := by decide +kernel
theorem d14 : decode yB 14 = .ok (.aload_n 1, 1) := by decide +kernel
theorem d15 : decode yB 15 = .ok (.checkcast 10, 3) := by decide +kernel
theorem d18 : decode yB 18 = .ok (.astore_n 2, 1) := by decide +kernel
theorem d19 : decode yB 19 = .ok (.getstatic 38, 3) := by decide +kernel
theorem d22 : decode yB 22 = .ok (.ifCond (.eq) 14, 3) := by decide +kernel
theorem d25 : decode yB 25 = .ok (.aload_n 0, 1) := by decide +kernel
theorem d26 : decode yB 26 = .ok (.getfield 15, 3) := by decide +kernel
theorem d29 : decode yB 29 = .ok (.aload_n 2, 1) := by decide +kernel
theorem d30 : decode yB 30 = .ok (.getfield 15, 3) := by decide +kernel
theorem d33 : decode yB 33 = .ok (.if_icmp (.ne) 21, 3) := by decide +kernel
theorem d36 : decode yB 36 = .ok (.aload_n 0, 1) := by decide +kernel
theorem d37 : decode yB 37 = .ok (.getfield 9, 3) := by decide +kernel
theorem d40 : decode yB 40 = .ok (.aload_n 2, 1) := by decide +kernel
theorem d41 : decode yB 41 = .ok (.getfield 9, 3) := by decide +kernel
theorem d44 : decode yB 44 = .ok (.invokestatic 541, 3) := by decide +kernel
theorem d47 : decode yB 47 = .ok (.ifCond (.eq) 7, 3) := by decide +kernel
theorem d50 : decode yB 50 = .ok (.iconst 1, 1) := by decide +kernel
theorem d51 : decode yB 51 = .ok (.goto 4, 3) := by decide +kernel
theorem d54 : decode yB 54 = .ok (.iconst 0, 1) := by decide +kernel
theorem d55 : decode yB 55 = .ok (.ireturn, 1) := by decide +kernel
def site : List Cond := [.classLink "java/lang/String" 10 "java/lang/String", .fieldLink "java/lang/String" 38 "java/lang/String" "COMPACT_STRINGS" "Z", .fieldLink "java/lang/String" 15 "java/lang/String" "coder" "B", .fieldLink "java/lang/String" 9 "java/lang/String" "value" "[B", LEq.tab] ++ staticW "java/lang/String" 541 LEq.yN
def tab : Cond := tabOf yN yB 3 (some .boolean) site
def P (x t : Addr) (V : Cell) (cd : Int32) (n : Nat) (f : Nat → Int32) (y t' : Addr) (V' : Cell) (cd' : Int32) (k : Nat) (g : Nat → Int32) (z : Int32) (args : Array Value) (s : State) : Prop := args = #[.ref x, .ref y] ∧ Txt x t V cd n f s ∧ Txt y t' V' cd' k g s ∧ StaticIs s "java/lang/String" "COMPACT_STRINGS" "Z" (.int z) ∧ ¬ z = 0
/-- equals(Object) of two Strings: whether the texts are the same -/
theorem law (l : Launch) (x t : Addr) (V : Cell) (cd : Int32) (n : Nat) (f : Nat → Int32) (y t' : Addr) (V' : Cell) (cd' : Int32) (k : Nat) (g : Nat → Int32) (z : Int32) : Law l yN 2 1 1 14 yB 3 (some .boolean) site (P x t V cd n f y t' V' cd' k g z) (Says01 (SameT n f k g)) [] 0 0 := by
  refine Law.of_walk (plainFor_of_name (by decide +kernel)) (by decide +kernel) (by decide +kernel) (by decide) (fun _ _ h => by rw [h.1]; rfl) (fun _ U U' hal hh h => ⟨h.1, h.2.1.mv hal hh, h.2.2.1.mv hal hh, h.2.2.2.1.there hal hh, h.2.2.2.2⟩) (fun r U U' V V' h1 hal h2 h => Says01.mv r U U' V V' h1 hal h2 h) ?_
  intro p e s m args below meth c s₁ X0 hexec hbytes hml hret hlk hnm hown hh0 W hP
  obtain ⟨rfl, hx, hy, s1, hz⟩ := hP
  have c1 : Steps p.tables e below (s₁.setTop (entryFrame m #[.ref x, .ref y] 3)) (s₁.setTop (mkF m 2 #[.val (.ref x), .val (.ref y), .unset] [.ref y, .ref x])) := Steps.trans (entry rfl) (by
    show Steps p.tables e below (s₁.setTop (mkF m 0 #[.val (.ref x), .val (.ref y), .unset] [])) _
    refine XS.aloadN X0.here hexec rfl (hb hbytes d0) rfl rfl ?_
    refine XS.aloadN X0.here hexec rfl (hb hbytes d1) rfl rfl ?_
    exact Steps.refl _)
  by_cases hxy : x = y
  · have c2 : Steps p.tables e below (s₁.setTop (entryFrame m #[.ref x, .ref y] 3)) (s₁.setTop (mkF m 6 #[.val (.ref x), .val (.ref y), .unset] [.int 1])) := c1.trans (by
      refine acmpNo X0.here hexec rfl (hb hbytes d2) rfl rfl rfl (by simp [acmp, hxy]) ?_
      refine iconstV X0.here hexec rfl 1 (hb hbytes d5) (by decide) ?_
      exact Steps.refl _)
    subst hxy
    have ec : cd = cd' := by
      obtain ⟨D, fd, a1, a2, a3⟩ := hx.2.2.1
      obtain ⟨D', fd', b1, b2, b3⟩ := hy.2.2.1
      cases a1.symm.trans b1
      obtain ⟨q1, q2, q3, q4⟩ := a2.1
      obtain ⟨r1, r2, r3, r4⟩ := b2.1
      cases q4.symm.trans r4
      cases a3.symm.trans b3; rfl
    have et : t = t' := by
      obtain ⟨D, fd, a1, a2, a3⟩ := hx.2.1
      obtain ⟨D', fd', b1, b2, b3⟩ := hy.2.1
      cases a1.symm.trans b1
      obtain ⟨q1, q2, q3, q4⟩ := a2.1
      obtain ⟨r1, r2, r3, r4⟩ := b2.1
      cases q4.symm.trans r4
      cases a3.symm.trans b3; rfl
    subst ec et
    have ev : V = V' := by cases hx.2.2.2.1.1.symm.trans hy.2.2.2.1.1; rfl
    subst ev
    have hs : SameT n f k g := (Cod.eqv hx.2.2.2.2.1 hy.2.2.2.2.1 hx.2.2.2.2.2 hy.2.2.2.2.2).mp ⟨rfl, fun _ _ => rfl⟩
    exact ⟨s₁, some (.int 1), _, _, _, X0, rfl, rfl, rfl, (fun h => by cases h), ⟨1, rfl, hh0, Or.inl ⟨rfl, hs⟩⟩, fun fs hl => c2.trans (X0.ireturnOut hexec hret rfl (Or.inr (Or.inl rfl)) (hb hbytes d6) hl)⟩
  · have c2 : Steps p.tables e below (s₁.setTop (entryFrame m #[.ref x, .ref y] 3)) (s₁.setTop (mkF m 8 #[.val (.ref x), .val (.ref y), .unset] [.ref y])) := c1.trans (by
      refine acmpYes X0.here hexec rfl (pc0 := 2) rfl (hb hbytes d2) rfl rfl rfl (by simp [acmp, hxy]) (by decide) rfl ?_
      refine XS.aloadN X0.here hexec rfl (hb hbytes d7) rfl rfl ?_
      exact Steps.refl _)
    obtain ⟨T3, X3, q3, st3⟩ := cinst X0 hexec hown (wk W (.classLink "java/lang/String" 10 "java/lang/String")) (hy.mv X0.warmed.alike hh0).1 (g := (mkF m 8 #[.val (.ref x), .val (.ref y), .unset] [.ref y])) rfl (rest := []) rfl (hb hbytes d8)
    have hh3 := q3.trans hh0
    have c4 : Steps p.tables e below (s₁.setTop (entryFrame m #[.ref x, .ref y] 3)) (T3.setTop (mkF m 15 #[.val (.ref x), .val (.ref y), .unset] [.ref y])) := (c2.trans (st3 _ (Steps.refl _))).trans (by
      refine XS.ifNo X3.here hexec rfl (hb hbytes d11) rfl (i0_eq_f (by decide)) ?_
      refine XS.aloadN X3.here hexec rfl (hb hbytes d14) rfl rfl ?_
      exact Steps.refl _)
    obtain ⟨T5, X5, q5, st5⟩ := cself X3 hexec hown (wk W (.classLink "java/lang/String" 10 "java/lang/String")) (hy.mv X3.warmed.alike hh3).1 (g := (mkF m 15 #[.val (.ref x), .val (.ref y), .unset] [.ref y])) rfl (rest := []) rfl (hb hbytes d15)
    have hh5 := q5.trans hh3
    have c6 : Steps p.tables e below (s₁.setTop (entryFrame m #[.ref x, .ref y] 3)) (T5.setTop (mkF m 19 #[.val (.ref x), .val (.ref y), .val (.ref y)] [])) := (c4.trans (st5 _ (Steps.refl _))).trans (by
      refine XS.astoreN X5.here hexec rfl (hb hbytes d18) rfl rfl rfl ?_
      exact Steps.refl _)
    obtain ⟨T7, X7, q7, st7⟩ := X5.sget hexec hown (wk W (.fieldLink "java/lang/String" 38 "java/lang/String" "COMPACT_STRINGS" "Z")) s1 (fun _ _ h => by rw [hh5]; exact h) (g := (mkF m 19 #[.val (.ref x), .val (.ref y), .val (.ref y)] [])) rfl (hb hbytes d19)
    have hh7 := q7.trans hh5
    have c8 : Steps p.tables e below (s₁.setTop (entryFrame m #[.ref x, .ref y] 3)) (T7.setTop (mkF m 26 #[.val (.ref x), .val (.ref y), .val (.ref y)] [.ref x])) := (c6.trans (st7 _ (Steps.refl _))).trans (by
      refine XS.ifNo X7.here hexec rfl (hb hbytes d22) rfl (i0_eq_f hz) ?_
      refine XS.aloadN X7.here hexec rfl (hb hbytes d25) rfl rfl ?_
      exact Steps.refl _)
    obtain ⟨T9, X9, q9, st9⟩ := X7.hget hexec hown (wk W (.fieldLink "java/lang/String" 15 "java/lang/String" "coder" "B")) (hx.mv X7.warmed.alike hh7).2.2.1 (g := (mkF m 26 #[.val (.ref x), .val (.ref y), .val (.ref y)] [.ref x])) rfl (rest := []) rfl (hb hbytes d26)
    have hh9 := q9.trans hh7
    have c10 : Steps p.tables e below (s₁.setTop (entryFrame m #[.ref x, .ref y] 3)) (T9.setTop (mkF m 30 #[.val (.ref x), .val (.ref y), .val (.ref y)] [.ref y, .int cd])) := (c8.trans (st9 _ (Steps.refl _))).trans (by
      refine XS.aloadN X9.here hexec rfl (hb hbytes d29) rfl rfl ?_
      exact Steps.refl _)
    obtain ⟨T11, X11, q11, st11⟩ := X9.hget hexec hown (wk W (.fieldLink "java/lang/String" 15 "java/lang/String" "coder" "B")) (hy.mv X9.warmed.alike hh9).2.2.1 (g := (mkF m 30 #[.val (.ref x), .val (.ref y), .val (.ref y)] [.ref y, .int cd])) rfl (rest := [.int cd]) rfl (hb hbytes d30)
    have hh11 := q11.trans hh9
    have c12 : Steps p.tables e below (s₁.setTop (entryFrame m #[.ref x, .ref y] 3)) (T11.setTop (mkF m 33 #[.val (.ref x), .val (.ref y), .val (.ref y)] [.int cd', .int cd])) := c10.trans (st11 _ (Steps.refl _))
    by_cases hcd : cd = cd'
    · subst hcd
      have c13 : Steps p.tables e below (s₁.setTop (entryFrame m #[.ref x, .ref y] 3)) (T11.setTop (mkF m 37 #[.val (.ref x), .val (.ref y), .val (.ref y)] [.ref x])) := c12.trans (by
        refine XS.icmpNo X11.here hexec rfl (hb hbytes d33) rfl (ii_ne_f rfl) ?_
        refine XS.aloadN X11.here hexec rfl (hb hbytes d36) rfl rfl ?_
        exact Steps.refl _)
      obtain ⟨T14, X14, q14, st14⟩ := X11.hget hexec hown (wk W (.fieldLink "java/lang/String" 9 "java/lang/String" "value" "[B")) (hx.mv X11.warmed.alike hh11).2.1 (g := (mkF m 37 #[.val (.ref x), .val (.ref y), .val (.ref y)] [.ref x])) rfl (rest := []) rfl (hb hbytes d37)
      have hh14 := q14.trans hh11
      have c15 : Steps p.tables e below (s₁.setTop (entryFrame m #[.ref x, .ref y] 3)) (T14.setTop (mkF m 41 #[.val (.ref x), .val (.ref y), .val (.ref y)] [.ref y, .ref t])) := (c13.trans (st14 _ (Steps.refl _))).trans (by
        refine XS.aloadN X14.here hexec rfl (hb hbytes d40) rfl rfl ?_
        exact Steps.refl _)
      obtain ⟨T16, X16, q16, st16⟩ := X14.hget hexec hown (wk W (.fieldLink "java/lang/String" 9 "java/lang/String" "value" "[B")) (hy.mv X14.warmed.alike hh14).2.1 (g := (mkF m 41 #[.val (.ref x), .val (.ref y), .val (.ref y)] [.ref y, .ref t])) rfl (rest := [.ref t]) rfl (hb hbytes d41)
      have hh16 := q16.trans hh14
      have c17 : Steps p.tables e below (s₁.setTop (entryFrame m #[.ref x, .ref y] 3)) (T16.setTop (mkF m 44 #[.val (.ref x), .val (.ref y), .val (.ref y)] [.ref t', .ref t])) := c15.trans (st16 _ (Steps.refl _))
      obtain ⟨v18, T18, X18, E18, g18⟩ := X16.callS hexec (LEq.law l t V t' V') hown (wks W (staticW "java/lang/String" 541 LEq.yN)) (wk W LEq.tab) (W := 0) (Nat.le_of_ble_eq_true rfl) (Nat.le_of_ble_eq_true rfl) (Nat.le_refl _) (Nat.le_refl _) (g := (mkF m 44 #[.val (.ref x), .val (.ref y), .val (.ref y)] [.ref t', .ref t])) rfl (by rw [hml]; rfl) c17 (argsL := [.ref t, .ref t']) (rest := []) rfl rfl (by show 2 * 0 + 0 ≤ _; decide) (hb hbytes d44) (⟨rfl, hx.2.2.2.1.mv X16.warmed.alike hh16, hx.2.2.2.2.1.ty, hy.2.2.2.1.mv X16.warmed.alike hh16, hy.2.2.2.2.1.ty⟩)
      obtain ⟨v, rfl, q18, hv⟩ := E18
      have iff := Cod.eqv hx.2.2.2.2.1 hy.2.2.2.2.1 hx.2.2.2.2.2 hy.2.2.2.2.2
      rcases hv with ⟨rfl, he⟩ | ⟨rfl, he⟩
      · have c19 : Steps p.tables e below (s₁.setTop (entryFrame m #[.ref x, .ref y] 3)) (T18.setTop (mkF m 55 #[.val (.ref x), .val (.ref y), .val (.ref y)] [.int 1])) := Steps.trans g18 (by
          refine XS.ifNo X18.here hexec rfl (hb hbytes d47) rfl (i0_eq_f (by decide)) ?_
          refine iconstV X18.here hexec rfl 1 (hb hbytes d50) (by decide) ?_
          refine XS.goto X18.here hexec rfl (pc0 := 51) rfl (hb hbytes d51) (by decide) rfl ?_
          exact Steps.refl _)
        exact ⟨T18, some (.int 1), _, _, _, X18, rfl, rfl, rfl, (fun h => by cases h), ⟨1, rfl, q18.trans hh16, Or.inl ⟨rfl, iff.mp he⟩⟩, fun fs hl => c19.trans (X18.ireturnOut hexec hret rfl (Or.inr (Or.inl rfl)) (hb hbytes d55) hl)⟩
      · have c19 : Steps p.tables e below (s₁.setTop (entryFrame m #[.ref x, .ref y] 3)) (T18.setTop (mkF m 55 #[.val (.ref x), .val (.ref y), .val (.ref y)] [.int 0])) := Steps.trans g18 (by
          refine XS.ifYes X18.here hexec rfl (pc0 := 47) rfl (hb hbytes d47) rfl (i0_eq_t rfl) (by decide) rfl ?_
          refine iconstV X18.here hexec rfl 0 (hb hbytes d54) (by decide) ?_
          exact Steps.refl _)
        exact ⟨T18, some (.int 0), _, _, _, X18, rfl, rfl, rfl, (fun h => by cases h), ⟨0, rfl, q18.trans hh16, Or.inr ⟨rfl, fun q => he (iff.mpr q)⟩⟩, fun fs hl => c19.trans (X18.ireturnOut hexec hret rfl (Or.inr (Or.inl rfl)) (hb hbytes d55) hl)⟩
    · have c13 : Steps p.tables e below (s₁.setTop (entryFrame m #[.ref x, .ref y] 3)) (T11.setTop (mkF m 55 #[.val (.ref x), .val (.ref y), .val (.ref y)] [.int 0])) := c12.trans (by
        refine XS.icmpYes X11.here hexec rfl (pc0 := 33) rfl (hb hbytes d33) rfl (ii_ne_t hcd) (by decide) rfl ?_
        refine iconstV X11.here hexec rfl 0 (hb hbytes d54) (by decide) ?_
        exact Steps.refl _)
      exact ⟨T11, some (.int 0), _, _, _, X11, rfl, rfl, rfl, (fun h => by cases h), ⟨0, rfl, hh11, Or.inr ⟨rfl, Cod.dif hx.2.2.2.2.1 hy.2.2.2.2.1 hcd⟩⟩, fun fs hl => c13.trans (X11.ireturnOut hexec hret rfl (Or.inr (Or.inl rfl)) (hb hbytes d55) hl)⟩
theorem pays {l : Launch} {R : Room} {p : Program} {e : Env} {below : List Frame} {s : State} {sargs : Array Value} {len W : Nat} (x t : Addr) (V : Cell) (cd : Int32) (n : Nat) (f : Nat → Int32) (y t' : Addr) (V' : Cell) (cd' : Int32) (k : Nat) (g : Nat → Int32) (z : Int32) (htab : tab.before sargs s = true) (hfr : 2 ≤ R.frames) (hlo : W + 28 ≤ R.locals) :
    Back l R p e below s sargs yN len W (fun A₁ a₁ => A₁.cells + 0 ≤ R.cells ∧ A₁.slots + 0 ≤ R.slots ∧ P x t V cd n f y t' V' cd' k g z a₁ A₁.U) (fun A₁ _ v₁ B₁ => Says01 (SameT n f k g) v₁ A₁.U B₁.U ∧ B₁.locs = A₁.locs ++ [] ∧ B₁.cells = A₁.cells + 0 ∧ B₁.slots = A₁.slots + 0) :=
  (law l x t V cd n f y t' V' cd' k g z).pays htab hfr (by omega)
end SEq
end StrChars
namespace StrChars.Road
open Jvm Sem ClassFile Op Lib Jvm.Stand Jvm.Free Jvm.Free.XT
open Jvm.Lib.Cold (StaticIs)
/-- the words of String.equals(Object) -/
abbrev wordsEq : List Jvm.Cond := [.code SEq.yN SEq.yB 3 (some .boolean), .initialized ST, .classLink ST 10 ST, .fieldLink ST 38 ST "COMPACT_STRINGS" "Z", .fieldLink ST 15 ST "coder" "B", .fieldLink ST 9 ST "value" "[B", .methodLink ST 541 LEq.yN, .static LEq.yN, .code LEq.yN LEq.yB 3 (some .boolean), .initialized "java/lang/StringLatin1"]
theorem tabEq_of {a : Array Value} {s : State} (h : ∀ w ∈ wordsEq, w.before a s = true) : SEq.tab.before a s = true := by
  have hl : LEq.tab.before a s = true := unparts (wk h (.code LEq.yN LEq.yB 3 (some .boolean))) (wks h (.initialized LEq.yN.cls :: LEq.site))
  have q := consq hl h
  exact unparts (wk q (.code SEq.yN SEq.yB 3 (some .boolean))) (wks q (.initialized SEq.yN.cls :: SEq.site))
theorem movedEq {Z s : State} {a0 args : Array Value} (hZ : Z.Warmed39 s.vm) (hw : ∀ d ∈ wordsEq, d.before a0 Z = true) : ∀ d ∈ wordsEq, d.before args s = true := fun d hd => by
  have t : ∀ d ∈ wordsEq, (d.onTables && d.keepsFace) = true := by decide +kernel
  exact RoadKit.mv hZ (hw d hd) (t d hd)
/-- the road's facts of a String, as the laws ask it -/
theorem txt_of {Z U : State} {a0 : Array Value} {kI : Nat} (wi : (Jvm.Cond.instantiable ST kI).before a0 Z = true) (al : Z.vm.Alike U.vm) {x t : Addr} {kb : ClassId} {cs : List Int32} {cd N2 : Int32} {vs : List Value} (E : RoadKit.Exa Z U.heap x ST) (V : RoadKit.Fld Z U.heap x ST "value" "[B" (.ref t)) (C : RoadKit.Fld Z U.heap x ST "coder" "B" (.int cd)) (K : RoadKit.Arv Z U.heap t kb .byte N2 vs (.int 0)) (hc : CodA cs cd N2 vs) (hb : ∀ c ∈ cs, ¬ c < 0 ∧ ¬ (65535 : Int32) < c) (l2 : cs.length ≤ 4000) :
    ∃ A, Txt x t A cd cs.length (fun j => cs.getD j 0) U := by
  obtain ⟨A, K1, K2, K3, K4, K5, K6⟩ := K
  have hcod := hc.cod (by omega) K3 K5
  obtain ⟨D, fV, fC, hB, F1, F2, g1, g2, -, -⟩ := strObj wi al E V C
  exact ⟨A, ⟨_, hB.2.2.1, D, hB.1, rfl, by cases q : D.vm <;> first | rfl | exact absurd q (hB.2.1.2 _)⟩, Has.of hB F1 g1, Has.of hB F2 g2, ⟨K1.1, State.isArrayOf_alike al K1.2.1, K1.2.2, by rcases hcod with ⟨-, q, -⟩ | ⟨-, q, -⟩ <;> omega⟩, hcod, fun j hj => by
    have e : cs.getD j 0 = cs[j] := by simp [List.getD_eq_getElem?_getD, hj]
    show ¬ cs.getD j 0 < 0 ∧ ¬ 65535 < cs.getD j 0
    rw [e]; exact hb _ (List.getElem_mem _)⟩
theorem same_list (cs ds : List Int32) : SameT cs.length (fun j => cs.getD j 0) ds.length (fun j => ds.getD j 0) ↔ cs = ds := by
  constructor
  · rintro ⟨e, q⟩
    refine List.ext_getElem e fun j h1 h2 => ?_
    have := q j h1
    simpa [List.getD_eq_getElem?_getD, h1, h2] using this
  · rintro rfl
    exact ⟨rfl, fun _ _ => rfl⟩
/-- **equals(Object) OF TWO SUCH STRINGS**: 1 just where the chars are the same -/
theorem eqW {p : Program} {l : Launch} {e : Env} {R : Room} {s : State} {args : Array Value} {below : List Frame} {len W : Nat} {Z : State} {a0 : Array Value} {h : Heap} (hZ : Z.Warmed39 s.vm) (hw : ∀ d ∈ wordsEq, d.before a0 Z = true) {kI : Nat} (wi : (Jvm.Cond.instantiable ST kI).before a0 Z = true)
    {x t : Addr} {kb : ClassId} {cs : List Int32} {cd N2 : Int32} {vs : List Value} (E : RoadKit.Exa Z h x ST) (V : RoadKit.Fld Z h x ST "value" "[B" (.ref t)) (C : RoadKit.Fld Z h x ST "coder" "B" (.int cd)) (K : RoadKit.Arv Z h t kb .byte N2 vs (.int 0)) (hc : CodA cs cd N2 vs) (hb : ∀ c ∈ cs, ¬ c < 0 ∧ ¬ (65535 : Int32) < c) (l2 : cs.length ≤ 4000)
    {y t' : Addr} {kb' : ClassId} {ds : List Int32} {cd' N2' : Int32} {vs' : List Value} (E' : RoadKit.Exa Z h y ST) (V' : RoadKit.Fld Z h y ST "value" "[B" (.ref t')) (C' : RoadKit.Fld Z h y ST "coder" "B" (.int cd')) (K' : RoadKit.Arv Z h t' kb' .byte N2' vs' (.int 0)) (hc' : CodA ds cd' N2' vs') (hb' : ∀ c ∈ ds, ¬ c < 0 ∧ ¬ (65535 : Int32) < c) (l2' : ds.length ≤ 4000)
    {z : Int32} (S : RoadKit.Sta Z h ST "COMPACT_STRINGS" "Z" (.int z)) (hz : ¬ z = 0) (hfr : 2 ≤ R.frames) (hlo : W + 28 ≤ R.locals) :
    Back l R p e below s args (⟨"java/lang/String", "equals", "(Ljava/lang/Object;)Z"⟩ : MethodName) len W (fun P a => a = #[.ref x, .ref y] ∧ P.U.heap = h ∧ P.cells + 0 ≤ R.cells ∧ P.slots + 0 ≤ R.slots)
      (fun P _ v B => ∃ L, (((v = some (.int 1) ∧ cs = ds) ∨ (v = some (.int 0) ∧ ¬ cs = ds)) ∧ L = [] ∧ B.U.heap = h) ∧ B.locs = P.locs ++ L ∧ B.cells = P.cells + 0 ∧ B.slots = P.slots + 0) := by
  intro m meth c P g ig mk a X hg hsize hdg hW hn hp'
  obtain ⟨rfl, rfl, r1, r2⟩ := hp'
  have al : Z.vm.Alike P.U.vm := hZ.alike.trans X.warmed.alike
  obtain ⟨A, hx⟩ := txt_of wi al E V C K hc hb l2
  obtain ⟨A', hy⟩ := txt_of wi al E' V' C' K' hc' hb' l2'
  obtain ⟨v, B, X', ⟨⟨w, hv, hh, hq⟩, hl, hk, hs⟩, st⟩ := SEq.pays x t A cd cs.length (fun j => cs.getD j 0) y t' A' cd' ds.length (fun j => ds.getD j 0) z (tabEq_of (movedEq hZ hw)) hfr hlo m meth c P g ig mk _ X hg hsize hdg hW hn ⟨r1, r2, rfl, hx, hy, sta_is al S, hz⟩
  refine ⟨v, B, X', ⟨[], ⟨?_, rfl, hh⟩, hl, hk, hs⟩, st⟩
  rcases hq with ⟨rfl, q⟩ | ⟨rfl, q⟩
  · exact Or.inl ⟨hv, (same_list cs ds).mp q⟩
  · exact Or.inr ⟨hv, fun e => q ((same_list cs ds).mpr e)⟩
end StrChars.Road
namespace StrChars.Road
open Jvm Sem ClassFile Op Lib Jvm.Stand Jvm.Free Jvm.Free.XT
open Jvm.Lib.Cold (StaticIs)
/-- what backV says of its String, as the contracts of this text ask it: cs's low bytes, coder 0 -/
theorem codOf {cs : List Int32} {n : Nat} (hn : cs.length = n) (hb : ∀ c ∈ cs, ¬ 255 < c) : CodA cs 0 (Int32.ofNat n) ((cs.map lo8).map Value.int) := Or.inl ⟨rfl, by rw [hn], by simp [List.map_map, Function.comp_def], hb⟩
end StrChars.Road
end Jvm.Pilot.@@N@@
namespace Jvm.Pilot.@@N@@
open Jvm Jvm.ClassFile Sem Op Lib Jvm.Free Jvm.Stand Jvm.LawKit Jvm.RoadKit Bundle Jvm.Pilot.@@N@@.Jvm.D
theorem own_b1 {v A K : Int32} (h : v < A) (d : ¬ (K < A)) : v < K := by rw [Int32.lt_iff_toInt_lt] at *; omega
theorem own_b2 {v A K : Int32} (h : v < A) (d : A.toInt ≤ K.toInt + 1) : ¬ (K < v) := by rw [Int32.lt_iff_toInt_lt] at *; omega
theorem own_b3 {v A K : Int32} (h : ¬ (v < A)) (d : ¬ (A < K)) : ¬ (v < K) := by rw [Int32.lt_iff_toInt_lt] at *; omega
theorem own_b4 {v A K : Int32} (h : ¬ (v < A)) (d : K < A) : K < v := by rw [Int32.lt_iff_toInt_lt] at *; omega
theorem own_b5 {v A K : Int32} (h : A < v) (d : K.toInt ≤ A.toInt + 1) : ¬ (v < K) := by rw [Int32.lt_iff_toInt_lt] at *; omega
theorem own_b6 {v A K : Int32} (h : A < v) (d : ¬ (A < K)) : K < v := by rw [Int32.lt_iff_toInt_lt] at *; omega
theorem own_b7 {v A K : Int32} (h : ¬ (A < v)) (d : A < K) : v < K := by rw [Int32.lt_iff_toInt_lt] at *; omega
theorem own_b8 {v A K : Int32} (h : ¬ (A < v)) (d : ¬ (K < A)) : ¬ (K < v) := by rw [Int32.lt_iff_toInt_lt] at *; omega
theorem own_w {Z : State} {a0 : Array Value} (hw : ∀ d ∈ tables_1, d.before a0 Z = true) (i : Nat) {d : Jvm.Cond} (h : tables_1[i]? = some d) : d.before a0 Z = true := hw d (List.mem_of_getElem? h)
theorem own_fldI {args : Array Value} {s : State} {t : Term} {x : Addr} {C n d : String} {k : Int32} (ht : t.eval args s none [] s = some (.ref x)) (h : (Jvm.Cond.eq (.field t C n d) (.int k)).value args s none s [] = some true) : s.fieldOf? x C n d = some (.int k) := by
  obtain ⟨u, v, e1, e2, -, -⟩ := cmp_v (Or.inl h)
  have e3 : (Term.field t C n d).eval args s none [] s = s.fieldOf? x C n d := fld_at ht
  cases (show some (Value.int k) = some v from e2)
  rw [e3] at e1
  cases u <;> simp [Jvm.Cond.value, Term.eval, ht, e1] at h
  rw [e1, h]
theorem own_fldR {args : Array Value} {s : State} {t u : Term} {x y : Addr} {C n d : String} (ht : t.eval args s none [] s = some (.ref x)) (hu : u.eval args s none [] s = some (.ref y)) (h : (Jvm.Cond.eq (.field t C n d) u).value args s none s [] = some true) : s.fieldOf? x C n d = some (.ref y) := by
  obtain ⟨v, w, e1, e2, -, -⟩ := cmp_v (Or.inl h)
  have e3 : (Term.field t C n d).eval args s none [] s = s.fieldOf? x C n d := fld_at ht
  rw [e3] at e1
  cases v <;> simp [Jvm.Cond.value, Term.eval, ht, hu, e1] at h
  rw [e1, h]
theorem own_lat (x : Int32) : ¬ (x &&& (255 : Int32)) < 0 ∧ ¬ (255 : Int32) < (x &&& (255 : Int32)) := by
  have h := c_and x 255 (by decide)
  have e0 : (0 : Int32).toInt = 0 := by decide
  have e1 : (255 : Int32).toInt = 255 := by decide
  rw [e1] at h
  rw [Int32.lt_iff_toInt_lt, Int32.lt_iff_toInt_lt, e0, e1]
  omega
theorem own_up {cs : List Int32} (h : ∀ c ∈ cs, ¬ c < 0 ∧ ¬ (255 : Int32) < c) : ∀ c ∈ cs, ¬ c < 0 ∧ ¬ (65535 : Int32) < c := fun c hc => ⟨(h c hc).1, fun q => (h c hc).2 (by
  have e1 : (255 : Int32).toInt = 255 := by decide
  have e2 : (65535 : Int32).toInt = 65535 := by decide
  rw [Int32.lt_iff_toInt_lt] at q ⊢
  omega)⟩
theorem own_nar {x : Int32} (h : ¬ (x < (0 : Int32)) ∧ ¬ ((255 : Int32) < x)) : x.toUInt32.toUInt16.toUInt32.toInt32 = x := by
  have e1 : (255 : Int32).toInt = 255 := by decide
  have e0 : (0 : Int32).toInt = 0 := by decide
  have h1 := h.1
  have h2 := h.2
  rw [Int32.lt_iff_toInt_lt] at h1 h2
  have e : x = x &&& (255 : Int32) := by
    apply Int32.toInt_inj.mp
    have q := c_mask x 255 8 (by decide) (by decide)
    have q2 : ((2 ^ 8 : Nat) : Int) = 256 := by decide
    rw [q, q2]; omega
  rw [e]; exact i2c_mask x
theorem own_words : ∀ d ∈ StrChars.Road.words, d ∈ tables_1 := by decide +kernel
theorem own_wordsEq : ∀ d ∈ StrChars.Road.wordsEq, d ∈ tables_1 := by decide +kernel
section OwnS
variable {p : Program} {l : Launch} {e : Env} {R : Room} {s : State} {args : Array Value} {below : List Frame} {Z : State} {a0 : Array Value} {EL : List (String × Nat)} {h : Heap} {vm0 : Vm}
theorem own_backS {y : MethodName} {bytes : ByteArray} {maxL : Nat} {ret : Option FieldType} {rm : Room} {len W : Nat} {as' : Array Value} {Q : Option Value → Heap → List Loc → Prop} {xs : List Addr}
    (hM : MetFree l y (head1 [Jvm.Cond.code y bytes maxL ret] rm) (fun a U => a = as' ∧ Z.Warmed39 U.vm ∧ U.heap = h ∧ CHv Z EL U.vm h ∧ ∀ x ∈ xs, Safe Z EL U.vm h x) (fun _ _ _ _ _ => True) (fun _ U o U' => ∃ v L, o = .returned v ∧ Q v U'.heap L ∧ CHr Z EL U.vm U.heap U'.vm U'.heap ∧ ReturnedEndW U o U' L rm.cells rm.slots))
    (hZ : Z.Warmed39 vm0) (wc : (Jvm.Cond.code y bytes maxL ret).before a0 Z = true) (wz : (Jvm.Cond.initialized y.cls).before a0 Z = true) (hf : rm.frames + 1 ≤ R.frames) (hl : W + (maxL + 11) + rm.locals ≤ R.locals) (hEL : EW Z a0 EL) (H : CHv Z EL vm0 h) (hxs : ∀ x ∈ xs, x < h.size ∧ Safe Z EL vm0 h x) :
    BackS l R p e below (s.setVm vm0) args y len W (fun A a => a = as' ∧ A.U.heap = h ∧ A.cells + rm.cells ≤ R.cells ∧ A.slots + rm.slots ≤ R.slots)
      (fun A _ v B => ∃ L, Q v B.U.heap L ∧ B.locs = A.locs ++ L ∧ B.cells = A.cells + rm.cells ∧ B.slots = A.slots + rm.slots ∧ CHr Z EL vm0 h B.U.vm B.U.heap) := by
  refine BackS.of_freeW (bytes := bytes) (maxL := maxL) (ret := ret) (E := fun _ first o t L k n => k = rm.cells ∧ n = rm.slots ∧ (∃ v, o = .returned v ∧ Q v t.heap L) ∧ CHr Z EL first.vm first.heap t.vm t.heap) hM hf hl ?_ ?_ (fun _ _ _ _ _ _ _ _ _ => trivial) ?_ ?_
  · intro m meth c A a Y hp
    have hU : Z.Warmed39 A.U.vm := wtrans (s := s.setVm vm0) hZ Y.warmed
    refine ⟨?_, mv hU wc, mv hU wz, hp.2.2.1, hp.2.2.2⟩
    show (Jvm.Cond.and _ .tt).before a A.U = true
    rw [Cond.before_and, mv hU wc]; rfl
  · intro m meth c A a g mk Y hp
    have C := CHv.at Y hZ hEL H
    exact ⟨hp.1, wtrans (s := s.setVm vm0) hZ Y.warmed, hp.2.1, C.1, fun x hx => C.safe (hxs x hx).1 (hxs x hx).2⟩
  · rintro _ _ _ _ ⟨v, L, h1, h2, h3, h4⟩
    exact ⟨L, _, _, h4, rfl, rfl, ⟨v, h1, h2⟩, h3⟩
  · rintro m meth c A a g mk v t L k n Y hp - - ⟨e1, e2, ⟨v', e3, e4⟩, e5⟩
    cases e3; subst e1 e2
    refine ⟨L, e4, rfl, rfl, rfl, (CHv.at Y hZ hEL H).trans ?_⟩
    rw [← hp.2.1]; exact e5
end OwnS
def own_EL : List (String × Nat) := [("com/example/favonius/favonius/phrank/Variant", 46), ("java/lang/String", 7)]
theorem own_atoms : ∀ d ∈ Bundle.stringAtoms, d ∈ tables_1 := by decide +kernel
theorem own_EWof {Z : State} {a0 : Array Value} (hw : ∀ d ∈ tables_1, d.before a0 Z = true) : EW Z a0 own_EL := (EW.cons (own_w hw 34 rfl) (by decide) (EW.cons (own_w hw 22 rfl) (by decide) EW.nil))
theorem own_sub : ∀ p ∈ own_EL, p ∈ consts_1 := by decide +kernel
theorem d0_0 : decode jdk_42_method_149_code 0 = .ok (.aload_n 0, 1) := by decide +kernel
theorem d0_1 : decode jdk_42_method_149_code 1 = .ok (.invokespecial 1, 3) := by decide +kernel
theorem d0_4 : decode jdk_42_method_149_code 4 = .ok (.iload_n 3, 1) := by decide +kernel
theorem d0_5 : decode jdk_42_method_149_code 5 = .ok (.ifCond .ne 22, 3) := by decide +kernel
theorem d0_8 : decode jdk_42_method_149_code 8 = .ok (.aload_n 0, 1) := by decide +kernel
theorem d0_9 : decode jdk_42_method_149_code 9 = .ok (.ldc 7, 2) := by decide +kernel
theorem d0_11 : decode jdk_42_method_149_code 11 = .ok (.getfield 9, 3) := by decide +kernel
theorem d0_14 : decode jdk_42_method_149_code 14 = .ok (.putfield 9, 3) := by decide +kernel
theorem d0_17 : decode jdk_42_method_149_code 17 = .ok (.aload_n 0, 1) := by decide +kernel
theorem d0_18 : decode jdk_42_method_149_code 18 = .ok (.ldc 7, 2) := by decide +kernel
theorem d0_20 : decode jdk_42_method_149_code 20 = .ok (.getfield 15, 3) := by decide +kernel
theorem d0_23 : decode jdk_42_method_149_code 23 = .ok (.putfield 15, 3) := by decide +kernel
theorem d0_26 : decode jdk_42_method_149_code 26 = .ok (.return_, 1) := by decide +kernel
theorem pn_0 : plainName "java/lang/String" = true := by first | (simp [plainName, overriddenIn]; done) | decide +kernel
theorem ef_rm_sini0v (m : MethodId) (x0 : Addr) (x1 : Addr) (x2 : Int32) (x3 : Int32) : entryFrame m #[(.ref x0), (.ref x1), (.int x2), (.int x3), .null] 6 = mkF m 0 #[.val (.ref x0), .val (.ref x1), .val (.int x2), .val (.int x3), .val .null, .unset] [] := by first | (simp [entryFrame, mkF, argsToLocals, Value.category]; done) | rfl
def Q_rm_sini0v (Z : State) (x : Addr) (b : Addr) (h0 : Heap) (n0 : Nat) (v : Option Value) (h : Heap) (L : List Loc) : Prop := (∃ (tb : Addr) (kb : ClassId), (v = none) ∧ (Fr n0 L) ∧ (Keep h0 h [x]) ∧ (Exa Z h x "java/lang/String") ∧ (Fld Z h x "java/lang/String" "value" "[B" (.ref tb)) ∧ (Fld Z h x "java/lang/String" "coder" "B" (.int (0 : Int32))) ∧ (Arv Z h tb kb .byte (0 : Int32) [] (.int (0 : Int32))))
set_option maxRecDepth 65536 in
set_option maxHeartbeats 40000000 in
theorem rm_sini0v (l : Launch) (Z : State) (a0 : Array Value) (hw : ∀ d ∈ tables_1, d.before a0 Z = true) (ws : List Jvm.Cond) (x : Addr) (b : Addr) (h0 : Heap) (n0 : Nat) (O0 : Old Z n0 h0) (E_x : Exa Z h0 x "java/lang/String") (V_x : Fld Z h0 x "java/lang/String" "value" "[B" .null) (C_x : Fld Z h0 x "java/lang/String" "coder" "B" (.int (0 : Int32))) (g_x : n0 ≤ x) :
    MetFree l (⟨"java/lang/String", "<init>", "([CIILjava/lang/Void;)V"⟩ : MethodName) (head1 (Jvm.Cond.code (⟨"java/lang/String", "<init>", "([CIILjava/lang/Void;)V"⟩ : MethodName) jdk_42_method_149_code 6 none :: ws) ({ frames := 1, cells := 4, slots := 8, locals := 12 } : Room)) (fun a U => a = #[(.ref x), (.ref b), (.int (0 : Int32)), (.int (0 : Int32)), .null] ∧ Z.Warmed39 U.vm ∧ U.heap = h0 ∧ CHv Z own_EL U.vm h0 ∧ ∀ own_y ∈ ([x] : List Addr), Safe Z own_EL U.vm h0 own_y) (fun _ _ _ _ _ => True) (fun _ U o U' => ∃ v L, o = .returned v ∧ Q_rm_sini0v Z x b h0 n0 v U'.heap L ∧ CHr Z own_EL U.vm U.heap U'.vm U'.heap ∧ ReturnedEndW U o U' L ({ frames := 1, cells := 4, slots := 8, locals := 12 } : Room).cells ({ frames := 1, cells := 4, slots := 8, locals := 12 } : Room).slots) := by
  refine MetFree.of_bodySF (plainFor_of_name pn_0) hisR ?_
  intro p e s m args below meth c s₁ Bd hml0 hP hK
  obtain ⟨rfl, hZ, hh, hCH, hSf⟩ := hP
  have hx := Bd.exec
  have hby := Bd.bytes
  have hml : c.maxLocals = 6 := hml0
  have hown : s.vm.findClass "java/lang/String" = some m.cls := findClass_of_methodNamed Bd.named
  have hnm := (name_of_methodNamed Bd.named Bd.method).1
  have X0 : Stand p l e ({ frames := 1, cells := 4, slots := 8, locals := 12 } : Room) (s.setVm s.vm) m #[(.ref x), (.ref b), (.int (0 : Int32)), (.int (0 : Int32)), .null] below meth c s₁ [] 0 0 := Stand.of_body Bd
  have e0 : s₁.heap = h0 := by rw [← hh, Bd.state]; rfl
  have N0 := Fr.nil n0
  have hZ0 := hZ
  have ho0 := hown
  have hS0 : s.Since s.vm 0 := (State.WarmedH.refl s).since 0
  have hk0 : 0 ≤ h0.size := Nat.zero_le _
  have CR0 : CHr Z own_EL s.vm h0 s.vm h0 := CHr.refl hCH
  have own_at : ∀ d ∈ Bundle.stringAtoms, d.before a0 Z = true := fun d hd => hw d (own_atoms d hd)
  have own_ew : EW Z a0 own_EL := own_EWof hw
  have hwq : ∀ d ∈ StrChars.Road.wordsEq, d.before a0 Z = true := fun d hd => hw d (own_wordsEq d hd)
  have hws : ∀ d ∈ StrChars.Road.words, d.before a0 Z = true := fun d hd => hw d (own_words d hd)
  have K0 : Keep h0 h0 [x] := Keep.refl _ _
  have pre0 : ∀ t, Steps p.tables e below (s₁.setTop (mkF m 0 #[.val (.ref x), .val (.ref b), .val (.int (0 : Int32)), .val (.int (0 : Int32)), .val .null, .unset] [])) t → Steps p.tables e below (s₁.setTop (entryFrame m #[(.ref x), (.ref b), (.int (0 : Int32)), (.int (0 : Int32)), .null] 6)) t := fun t k => castTop (ef_rm_sini0v m x b (0 : Int32) (0 : Int32)) k
  obtain ⟨T1, X1, e1, st1⟩ := initO X0 hx hZ0 ho0 (own_w hw 19 rfl) (own_w hw 20 rfl) (own_w hw 21 rfl) e0 (g := (mkF m 1 #[.val (.ref x), .val (.ref b), .val (.int (0 : Int32)), .val (.int (0 : Int32)), .val .null, .unset] [(.ref x)])) rfl (by rw [hml]; rfl) rfl (hb hby d0_1) (by decide) (W := 0) (by show 2 * 0 + _ ≤ _; exact Nat.le_of_eq rfl) (by decide)
  obtain ⟨x2, T2, h2, q2, y2, j2, X2, e2, E2, hS2, hk2, hZ2, ho2, fE2, fC2, fV2, fA2, la2, lb2, C2, -, ns2, st2⟩ := ldcCH X1 hx hZ0 ho0 (own_w hw 22 rfl) own_at e1 hS0 hk0 own_ew (by decide) CR0.1 (vs := []) (z := (0 : Int32)) ⟨by decide, by decide +kernel⟩ (by decide) rfl (g := (mkF m 9 #[.val (.ref x), .val (.ref b), .val (.int (0 : Int32)), .val (.int (0 : Int32)), .val .null, .unset] [(.ref x)])) rfl (hb hby d0_9) (n := 0) (by decide) (by decide) (by decide) (by decide)
  have sf3 := CHr.safe C2 (Exa.lt E_x) (hSf _ (List.mem_of_getElem? (i := 0) rfl))
  have O4 := O0.ext E2
  have K5 : Keep h0 h2 [x] := K0.ext E2
  have CR6 := CR0.trans C2
  obtain ⟨ne7, ne8⟩ := ns2 x sf3
  obtain ⟨T9, X9, e9, st9⟩ := getF X2 hx hZ2 ho2 (host := "") (Or.inl (own_w hw 28 rfl)) Via.refl e2 fV2 (g := (mkF m 11 #[.val (.ref x), .val (.ref b), .val (.int (0 : Int32)), .val (.int (0 : Int32)), .val .null, .unset] [(.ref x2), (.ref x)])) rfl rfl (hb hby d0_11)
  have f10 := (Fld.ext E2 V_x)
  have f11 := (Exa.ext E2 E_x)
  obtain ⟨T12, h12, X12, e12, W12, st12⟩ := putF X9 hx hZ2 ho2 (host := "") (Or.inl (own_w hw 28 rfl)) Via.refl e9 f10 f11 (Or.inr ⟨(own_w hw 24 rfl), rfl, hnm⟩) (own_w hw 7 rfl) (ty := (.array .byte)) (by decide) rfl rfl (g := (mkF m 14 #[.val (.ref x), .val (.ref b), .val (.int (0 : Int32)), .val (.int (0 : Int32)), .val .null, .unset] [(.ref y2), (.ref x)])) rfl rfl (hb hby d0_14)
  have CR13 := CR6.trans (CHr.wr W12 sf3 CR6.1)
  have hk14 := Nat.le_trans hk2 (Keep.of_wr W12).1
  have sf15 := Safe.wr W12 sf3 CR6.1 sf3
  have O16 := O4.wr W12 g_x
  have K17 : Keep h0 h12 [x] := K5.wr W12 (Or.inl (List.mem_of_getElem? (i := 0) rfl))
  have N18 := Fr.snoc X12 N0 g_x
  have F12 : Fld Z h12 x "java/lang/String" "value" "[B" (.ref y2) := Fld.same W12 f10
  obtain ⟨x19, T19, h19, q19, y19, j19, X19, e19, E19, hS19, hk19, hZ19, ho19, fE19, fC19, fV19, fA19, la19, lb19, C19, -, ns19, st19⟩ := ldcCH X12 hx hZ2 ho2 (own_w hw 22 rfl) own_at e12 hS2 hk14 own_ew (by decide) CR13.1 (vs := []) (z := (0 : Int32)) ⟨by decide, by decide +kernel⟩ (by decide) rfl (g := (mkF m 18 #[.val (.ref x), .val (.ref b), .val (.int (0 : Int32)), .val (.int (0 : Int32)), .val .null, .unset] [(.ref x)])) rfl (hb hby d0_18) (n := 0) (by decide) (by decide) (by decide) (by decide)
  have f20 := (Exa.wr W12 fE2)
  have f21 := (Exa.wr W12 f11)
  have f22 := (Arv.other fA2 W12 (Ne.symm ne8))
  have sf23 := CHr.safe C19 (Exa.lt f21) sf15
  have O24 := O16.ext E19
  have K25 : Keep h0 h19 [x] := K17.ext E19
  have CR26 := CR13.trans C19
  obtain ⟨ne27, ne28⟩ := ns19 x sf23
  obtain ⟨T29, X29, e29, st29⟩ := getF X19 hx hZ19 ho19 (host := "") (Or.inl (own_w hw 29 rfl)) Via.refl e19 fC19 (g := (mkF m 20 #[.val (.ref x), .val (.ref b), .val (.int (0 : Int32)), .val (.int (0 : Int32)), .val .null, .unset] [(.ref x19), (.ref x)])) rfl rfl (hb hby d0_20)
  have f30 := (Fld.ext E19 (Fld.other W12 (Fld.ext E2 C_x) (Or.inr (slot_ne (Or.inr (own_w hw 25 rfl)) (Or.inr (own_w hw 24 rfl)) (by decide) (t := .byte) (t' := (.array .byte)) (by decide) (by decide)))))
  have f31 := (Exa.ext E19 f21)
  obtain ⟨T32, h32, X32, e32, W32, st32⟩ := putFN X29 hx hZ19 ho19 (own_w hw 29 rfl) Via.refl e29 f30 f31 (Or.inr ⟨(own_w hw 25 rfl), rfl, hnm⟩) (own_w hw 7 rfl) (ty := .byte) (v' := (.int (0 : Int32))) (by decide) rfl rfl (g := (mkF m 23 #[.val (.ref x), .val (.ref b), .val (.int (0 : Int32)), .val (.int (0 : Int32)), .val .null, .unset] [(.int (0 : Int32)), (.ref x)])) rfl rfl (hb hby d0_23)
  have CR33 := CR26.trans (CHr.wr W32 sf23 CR26.1)
  have hk34 := Nat.le_trans hk19 (Keep.of_wr W32).1
  have sf35 := Safe.wr W32 sf23 CR26.1 sf23
  have O36 := O24.wr W32 g_x
  have K37 : Keep h0 h32 [x] := K25.wr W32 (Or.inl (List.mem_of_getElem? (i := 0) rfl))
  have N38 := Fr.snoc X32 N18 g_x
  have F32 : Fld Z h32 x "java/lang/String" "coder" "B" (.int (0 : Int32)) := Fld.same W32 f30
  have S39 : ∀ t, Steps p.tables e below (T32.setTop (mkF m 26 #[.val (.ref x), .val (.ref b), .val (.int (0 : Int32)), .val (.int (0 : Int32)), .val .null, .unset] [])) t → Steps p.tables e below (s₁.setTop (mkF m 0 #[.val (.ref x), .val (.ref b), .val (.int (0 : Int32)), .val (.int (0 : Int32)), .val .null, .unset] [])) t := by
    intro t kt
    refine XS.aloadN X0.here hx rfl (hb hby d0_0) rfl rfl ?_
    show Steps p.tables e below (s₁.setTop (mkF m 1 #[.val (.ref x), .val (.ref b), .val (.int (0 : Int32)), .val (.int (0 : Int32)), .val .null, .unset] [(.ref x)])) _
    refine st1 _ ?_
    refine XS.iloadN X1.here hx rfl (hb hby d0_4) rfl ?_
    refine XS.ifNo X1.here hx rfl (hb hby d0_5) rfl ((if0 _ _).trans (teq ((by decide) : (0 : Int32) = (0 : Int32))).2) ?_
    refine XS.aloadN X1.here hx rfl (hb hby d0_8) rfl rfl ?_
    show Steps p.tables e below (T1.setTop (mkF m 9 #[.val (.ref x), .val (.ref b), .val (.int (0 : Int32)), .val (.int (0 : Int32)), .val .null, .unset] [(.ref x)])) _
    refine st2 _ ?_
    show Steps p.tables e below (T2.setTop (mkF m 11 #[.val (.ref x), .val (.ref b), .val (.int (0 : Int32)), .val (.int (0 : Int32)), .val .null, .unset] [(.ref x2), (.ref x)])) _
    refine st9 _ ?_
    show Steps p.tables e below (T9.setTop (mkF m 14 #[.val (.ref x), .val (.ref b), .val (.int (0 : Int32)), .val (.int (0 : Int32)), .val .null, .unset] [(.ref y2), (.ref x)])) _
    refine st12 _ ?_
    refine XS.aloadN X12.here hx rfl (hb hby d0_17) rfl rfl ?_
    show Steps p.tables e below (T12.setTop (mkF m 18 #[.val (.ref x), .val (.ref b), .val (.int (0 : Int32)), .val (.int (0 : Int32)), .val .null, .unset] [(.ref x)])) _
    refine st19 _ ?_
    show Steps p.tables e below (T19.setTop (mkF m 20 #[.val (.ref x), .val (.ref b), .val (.int (0 : Int32)), .val (.int (0 : Int32)), .val .null, .unset] [(.ref x19), (.ref x)])) _
    refine st29 _ ?_
    show Steps p.tables e below (T29.setTop (mkF m 23 #[.val (.ref x), .val (.ref b), .val (.int (0 : Int32)), .val (.int (0 : Int32)), .val .null, .unset] [(.int (0 : Int32)), (.ref x)])) _
    refine st32 _ ?_
    exact kt
  obtain ⟨fs, hr, hrun, hended, hRW⟩ := X32.leaveW hS19 (by rw [e32]; exact hk34) (v := none) (fun _ => rfl)
  have f40 := (Exa.wr W32 f31)
  have f41 := (Fld.other W32 (Fld.ext E19 F12) (Or.inr (slot_ne (Or.inr (own_w hw 24 rfl)) (Or.inr (own_w hw 25 rfl)) (by decide) (t := (.array .byte)) (t' := .byte) (by decide) (by decide))))
  have f42 := (Arv.other (Arv.ext f22 E19) W32 (Ne.symm ne8))
  refine ⟨_, _, pre0 _ (S39 _ ?_), hrun, hended, _, _, rfl, ?_, ?_, hRW.1, hRW.2.1, hRW.2.2.1, hRW.2.2.2.mono (by decide) (by decide)⟩
  · exact X32.returnOut hx Bd.returns (hb hby d0_26) hr
  · show Q_rm_sini0v Z x b h0 n0 _ T32.heap _
    rw [e32]
    exact ⟨y2, j2, rfl, N38, K37, f40, f41, F32, f42⟩
  · show CHr Z own_EL s.vm s.heap T32.vm T32.heap
    rw [hh, e32]
    exact CR33.trans (CHv.at X32 hZ19 own_ew CR33.1)
theorem d1_0 : decode jdk_42_method_3_code 0 = .ok (.aload_n 0, 1) := by decide +kernel
theorem d1_1 : decode jdk_42_method_3_code 1 = .ok (.aload_n 1, 1) := by decide +kernel
theorem d1_2 : decode jdk_42_method_3_code 2 = .ok (.iconst 0, 1) := by decide +kernel
theorem d1_3 : decode jdk_42_method_3_code 3 = .ok (.aload_n 1, 1) := by decide +kernel
theorem d1_4 : decode jdk_42_method_3_code 4 = .ok (.arraylength, 1) := by decide +kernel
theorem d1_5 : decode jdk_42_method_3_code 5 = .ok (.aconst_null, 1) := by decide +kernel
theorem d1_6 : decode jdk_42_method_3_code 6 = .ok (.invokespecial 27, 3) := by decide +kernel
theorem pd_0 : parseMethodDescriptor "([CIILjava/lang/Void;)V" = some ⟨[(.array .char), .int, .int, (.object "java/lang/Void")], none⟩ := by decide +kernel
theorem d1_9 : decode jdk_42_method_3_code 9 = .ok (.return_, 1) := by decide +kernel
theorem ef_rm_sini0 (m : MethodId) (x0 : Addr) (x1 : Addr) : entryFrame m #[(.ref x0), (.ref x1)] 2 = mkF m 0 #[.val (.ref x0), .val (.ref x1)] [] := by first | (simp [entryFrame, mkF, argsToLocals, Value.category]; done) | rfl
def Q_rm_sini0 (Z : State) (x : Addr) (b : Addr) (kc : ClassId) (h0 : Heap) (n0 : Nat) (v : Option Value) (h : Heap) (L : List Loc) : Prop := (∃ (tb : Addr) (kb : ClassId), (v = none) ∧ (Fr n0 L) ∧ (Keep h0 h [x]) ∧ (Exa Z h x "java/lang/String") ∧ (Fld Z h x "java/lang/String" "value" "[B" (.ref tb)) ∧ (Fld Z h x "java/lang/String" "coder" "B" (.int (0 : Int32))) ∧ (Arv Z h tb kb .byte (0 : Int32) [] (.int (0 : Int32))))
set_option maxRecDepth 65536 in
set_option maxHeartbeats 40000000 in
theorem rm_sini0 (l : Launch) (Z : State) (a0 : Array Value) (hw : ∀ d ∈ tables_1, d.before a0 Z = true) (ws : List Jvm.Cond) (x : Addr) (b : Addr) (kc : ClassId) (h0 : Heap) (n0 : Nat) (O0 : Old Z n0 h0) (E_x : Exa Z h0 x "java/lang/String") (V_x : Fld Z h0 x "java/lang/String" "value" "[B" .null) (C_x : Fld Z h0 x "java/lang/String" "coder" "B" (.int (0 : Int32))) (g_x : n0 ≤ x) (A_b : Arv Z h0 b kc .char (0 : Int32) [] (.int (0 : Int32))) :
    MetFree l (⟨"java/lang/String", "<init>", "([C)V"⟩ : MethodName) (head1 (Jvm.Cond.code (⟨"java/lang/String", "<init>", "([C)V"⟩ : MethodName) jdk_42_method_3_code 2 none :: ws) ({ frames := 2, cells := 4, slots := 8, locals := 29 } : Room)) (fun a U => a = #[(.ref x), (.ref b)] ∧ Z.Warmed39 U.vm ∧ U.heap = h0 ∧ CHv Z own_EL U.vm h0 ∧ ∀ own_y ∈ ([x] : List Addr), Safe Z own_EL U.vm h0 own_y) (fun _ _ _ _ _ => True) (fun _ U o U' => ∃ v L, o = .returned v ∧ Q_rm_sini0 Z x b kc h0 n0 v U'.heap L ∧ CHr Z own_EL U.vm U.heap U'.vm U'.heap ∧ ReturnedEndW U o U' L ({ frames := 2, cells := 4, slots := 8, locals := 29 } : Room).cells ({ frames := 2, cells := 4, slots := 8, locals := 29 } : Room).slots) := by
  refine MetFree.of_bodySF (plainFor_of_name pn_0) hisR ?_
  intro p e s m args below meth c s₁ Bd hml0 hP hK
  obtain ⟨rfl, hZ, hh, hCH, hSf⟩ := hP
  have hx := Bd.exec
  have hby := Bd.bytes
  have hml : c.maxLocals = 2 := hml0
  have hown : s.vm.findClass "java/lang/String" = some m.cls := findClass_of_methodNamed Bd.named
  have hnm := (name_of_methodNamed Bd.named Bd.method).1
  have X0 : Stand p l e ({ frames := 2, cells := 4, slots := 8, locals := 29 } : Room) (s.setVm s.vm) m #[(.ref x), (.ref b)] below meth c s₁ [] 0 0 := Stand.of_body Bd
  have e0 : s₁.heap = h0 := by rw [← hh, Bd.state]; rfl
  have N0 := Fr.nil n0
  have hZ0 := hZ
  have ho0 := hown
  have hS0 : s.Since s.vm 0 := (State.WarmedH.refl s).since 0
  have hk0 : 0 ≤ h0.size := Nat.zero_le _
  have CR0 : CHr Z own_EL s.vm h0 s.vm h0 := CHr.refl hCH
  have own_at : ∀ d ∈ Bundle.stringAtoms, d.before a0 Z = true := fun d hd => hw d (own_atoms d hd)
  have own_ew : EW Z a0 own_EL := own_EWof hw
  have hwq : ∀ d ∈ StrChars.Road.wordsEq, d.before a0 Z = true := fun d hd => hw d (own_wordsEq d hd)
  have hws : ∀ d ∈ StrChars.Road.words, d.before a0 Z = true := fun d hd => hw d (own_words d hd)
  have K0 : Keep h0 h0 [x] := Keep.refl _ _
  have pre0 : ∀ t, Steps p.tables e below (s₁.setTop (mkF m 0 #[.val (.ref x), .val (.ref b)] [])) t → Steps p.tables e below (s₁.setTop (entryFrame m #[(.ref x), (.ref b)] 2)) t := fun t k => castTop (ef_rm_sini0 m x b) k
  obtain ⟨cl1, Ar1, -, Sz1, Nn1, -, -⟩ := id A_b
  obtain ⟨_, _, ⟨T2, L2, k2, n2⟩, -, Xq2, hSq2, hgq2, ⟨Lc2, hQ2, l2, y2, z2, C2⟩, st2⟩ := X0.specialBackS hx (y := (⟨"java/lang/String", "<init>", "([CIILjava/lang/Void;)V"⟩ : MethodName)) rfl ho0 (mvT hZ0 (own_w hw 15 rfl)) (mvT hZ0 (own_w hw 16 rfl)) (mvT hZ0 (own_w hw 18 rfl)) (by decide) (own_backS (W := 0) (rm := ({ frames := 1, cells := 4, slots := 8, locals := 12 } : Room)) (xs := [x]) (rm_sini0v l Z a0 hw [] x b h0 n0 O0 E_x V_x C_x g_x) hZ0 (own_w hw 18 rfl) (own_w hw 8 rfl) (by decide) (by decide) own_ew CR0.1 (allS (P := fun x => x < h0.size ∧ Safe Z own_EL s.vm h0 x) ⟨(Exa.lt E_x), (hSf _ (List.mem_of_getElem? (i := 0) rfl))⟩ all0)) (g := (mkF m 6 #[.val (.ref x), .val (.ref b)] [.null, (.int (0 : Int32)), (.int (0 : Int32)), (.ref b), (.ref x)])) rfl (by rw [hml]; rfl) (Steps.refl _) (a := x) (argsL := [(.ref b), (.int (0 : Int32)), (.int (0 : Int32)), .null]) (rest := []) (lenOf pd_0 rfl) rfl (by show 2 * 0 + _ ≤ _; exact Nat.le_of_eq rfl) (hb hby d1_6) (fun _ _ => ⟨rfl, e0, (by decide : 0 + 4 ≤ _), (by decide : 0 + 8 ≤ _)⟩)
  dsimp only [Pt.U, Pt.locs, Pt.cells, Pt.slots] at Xq2 hSq2 hgq2 l2 y2 z2 st2 hQ2 C2
  obtain ⟨X2, hS2, hZ2, ho2⟩ := rebS hS0 (by rw [e0]; exact hk0) Xq2 hSq2 hgq2 hZ0 ho0
  subst l2 y2 z2
  obtain ⟨x3, x4, rfl, N5, k6, f7, f8, f9, f10⟩ := hQ2
  have N11 := Fr.app N0 N5
  have sf12 := CHr.safe C2 (Exa.lt E_x) (hSf _ (List.mem_of_getElem? (i := 0) rfl))
  have CR13 := CR0.trans C2
  have hk14 : T2.heap.size ≤ T2.heap.size := Nat.le_refl _
  have O15 := O0.keep k6 (allS g_x all0)
  have K16 : Keep h0 T2.heap [x] := K0.trans k6 (allS (Or.inl (List.mem_of_getElem? (i := 0) rfl)) all0)
  have S17 : ∀ t, Steps p.tables e below (T2.setTop (mkF m 9 #[.val (.ref x), .val (.ref b)] [])) t → Steps p.tables e below (s₁.setTop (mkF m 0 #[.val (.ref x), .val (.ref b)] [])) t := by
    intro t kt
    refine XS.aloadN X0.here hx rfl (hb hby d1_0) rfl rfl ?_
    refine XS.aloadN X0.here hx rfl (hb hby d1_1) rfl rfl ?_
    refine XS.iconst X0.here hx rfl (hb hby d1_2) ?_
    refine XS.aloadN X0.here hx rfl (hb hby d1_3) rfl rfl ?_
    show Steps p.tables e below (s₁.setTop (mkF m 4 #[.val (.ref x), .val (.ref b)] [(.ref b), (.int (0 : Int32)), (.ref b), (.ref x)])) _
    refine X0.arraylength hx (by rw [e0]; exact Ar1.1) (State.isArrayOf_alike hZ0.alike Ar1.2.1) (g := (mkF m 4 #[.val (.ref x), .val (.ref b)] [(.ref b), (.int (0 : Int32)), (.ref b), (.ref x)])) rfl rfl (hb hby d1_4) _ ?_
    rw [len_of Sz1 Nn1]
    refine XS.aconstNull X0.here hx rfl (hb hby d1_5) ?_
    show Steps p.tables e below (s₁.setTop (mkF m 6 #[.val (.ref x), .val (.ref b)] [.null, (.int (0 : Int32)), (.int (0 : Int32)), (.ref b), (.ref x)])) _
    refine st2.trans ?_
    exact kt
  obtain ⟨fs, hr, hrun, hended, hRW⟩ := X2.leaveW hS2 (by exact hk14) (v := none) (fun _ => rfl)
  refine ⟨_, _, pre0 _ (S17 _ ?_), hrun, hended, _, _, rfl, ?_, ?_, hRW.1, hRW.2.1, hRW.2.2.1, hRW.2.2.2.mono (by decide) (by decide)⟩
  · exact X2.returnOut hx Bd.returns (hb hby d1_9) hr
  · show Q_rm_sini0 Z x b kc h0 n0 _ T2.heap _
    exact ⟨x3, x4, rfl, N11, K16, f7, f8, f9, f10⟩
  · show CHr Z own_EL s.vm s.heap T2.vm T2.heap
    rw [hh]
    exact CR13.trans (CHv.at X2 hZ2 own_ew CR13.1)
theorem own_latL (x : Int64) : ¬ ((x &&& (255 : Int64)).toInt32 < (0 : Int32)) ∧ ¬ ((255 : Int32) < (x &&& (255 : Int64)).toInt32) := by
  have h := c_maskL x 255 8 (by decide) (by decide)
  have h2 : ((2 ^ 8 : Nat) : Int) = 256 := by decide
  rw [h2] at h
  have q := c_l2i (x &&& (255 : Int64))
  have r := rng32 (x &&& (255 : Int64)).toInt32
  have e0 : (0 : Int32).toInt = 0 := by decide
  have e1 : (255 : Int32).toInt = 255 := by decide
  rw [Int32.lt_iff_toInt_lt, Int32.lt_iff_toInt_lt, e0, e1]
  omega
theorem d2_0 : decode method_3_code 0 = .ok (.iload_n 0, 1) := by decide +kernel
theorem d2_1 : decode method_3_code 1 = .ok (.iload_n 1, 1) := by decide +kernel
theorem d2_2 : decode method_3_code 2 = .ok (.iushr, 1) := by decide +kernel
theorem d2_3 : decode method_3_code 3 = .ok (.iconst 1, 1) := by decide +kernel
theorem d2_4 : decode method_3_code 4 = .ok (.iand, 1) := by decide +kernel
theorem d2_5 : decode method_3_code 5 = .ok (.ifCond .eq 16, 3) := by decide +kernel
theorem d2_21 : decode method_3_code 21 = .ok (.iload 4, 2) := by decide +kernel
theorem d2_23 : decode method_3_code 23 = .ok (.ireturn, 1) := by decide +kernel
theorem d2_8 : decode method_3_code 8 = .ok (.lload_n 2, 1) := by decide +kernel
theorem d2_9 : decode method_3_code 9 = .ok (.bipush 8, 2) := by decide +kernel
theorem d2_11 : decode method_3_code 11 = .ok (.iload_n 1, 1) := by decide +kernel
theorem d2_12 : decode method_3_code 12 = .ok (.imul, 1) := by decide +kernel
theorem d2_13 : decode method_3_code 13 = .ok (.lushr, 1) := by decide +kernel
theorem d2_14 : decode method_3_code 14 = .ok (.ldc2_w 35, 3) := by decide +kernel
theorem d2_17 : decode method_3_code 17 = .ok (.land, 1) := by decide +kernel
theorem d2_18 : decode method_3_code 18 = .ok (.l2i, 1) := by decide +kernel
theorem d2_19 : decode method_3_code 19 = .ok (.i2c, 1) := by decide +kernel
theorem d2_20 : decode method_3_code 20 = .ok (.ireturn, 1) := by decide +kernel
theorem pn_1 : plainName "com/example/favonius/favonius/phrank/VariantDefaultForPinLaw" = true := by first | (simp [plainName, overriddenIn]; done) | decide +kernel
theorem ef_rm_pick (m : MethodId) (x0 : Int32) (x1 : Int32) (x2 : Int64) (x3 : Int32) : entryFrame m #[(.int x0), (.int x1), (.long x2), (.int x3)] 5 = mkF m 0 #[.val (.int x0), .val (.int x1), .val (.long x2), .second, .val (.int x3)] [] := by first | (simp [entryFrame, mkF, argsToLocals, Value.category]; done) | rfl
def Q_rm_pick (Z : State) (mk : Int32) (i : Int32) (d : Int64) (f : Int32) (h0 : Heap) (n0 : Nat) (v : Option Value) (h : Heap) (L : List Loc) : Prop := (∃ (r : Int32), (¬ (r < (0 : Int32)) ∧ ¬ ((255 : Int32) < r)) ∧ (v = some (.int r)) ∧ (Fr n0 L) ∧ (h = h0))
set_option maxRecDepth 65536 in
set_option maxHeartbeats 40000000 in
theorem rm_pick (l : Launch) (Z : State) (a0 : Array Value) (hw : ∀ d ∈ tables_1, d.before a0 Z = true) (ws : List Jvm.Cond) (mk : Int32) (i : Int32) (d : Int64) (f : Int32) (h0 : Heap) (n0 : Nat) (O0 : Old Z n0 h0) (la_f : ¬ (f < (0 : Int32)) ∧ ¬ ((255 : Int32) < f)) :
    MetFree l (⟨"com/example/favonius/favonius/phrank/VariantDefaultForPinLaw", "pick", "(IIJC)C"⟩ : MethodName) (head1 (Jvm.Cond.code (⟨"com/example/favonius/favonius/phrank/VariantDefaultForPinLaw", "pick", "(IIJC)C"⟩ : MethodName) method_3_code 5 (some .char) :: ws) ({ frames := 0, cells := 0, slots := 0, locals := 0 } : Room)) (fun a U => a = #[(.int mk), (.int i), (.long d), (.int f)] ∧ Z.Warmed39 U.vm ∧ U.heap = h0) (fun _ _ _ _ _ => True) (fun _ U o U' => ∃ v L, o = .returned v ∧ Q_rm_pick Z mk i d f h0 n0 v U'.heap L ∧ FrameEnd U o U' L ({ frames := 0, cells := 0, slots := 0, locals := 0 } : Room).cells ({ frames := 0, cells := 0, slots := 0, locals := 0 } : Room).slots) := by
  refine MetFree.of_bodySF (plainFor_of_name pn_1) hisR ?_
  intro p e s m args below meth c s₁ Bd hml0 hP hK
  obtain ⟨rfl, hZ, hh⟩ := hP
  have hx := Bd.exec
  have hby := Bd.bytes
  have hml : c.maxLocals = 5 := hml0
  have hown : s.vm.findClass "com/example/favonius/favonius/phrank/VariantDefaultForPinLaw" = some m.cls := findClass_of_methodNamed Bd.named
  have hnm := (name_of_methodNamed Bd.named Bd.method).1
  have X0 : Stand p l e ({ frames := 0, cells := 0, slots := 0, locals := 0 } : Room) s m #[(.int mk), (.int i), (.long d), (.int f)] below meth c s₁ [] 0 0 := Stand.of_body Bd
  have e0 : s₁.heap = h0 := by rw [← hh, Bd.state]; rfl
  have N0 := Fr.nil n0
  have hwq : ∀ d ∈ StrChars.Road.wordsEq, d.before a0 Z = true := fun d hd => hw d (own_wordsEq d hd)
  have hws : ∀ d ∈ StrChars.Road.words, d.before a0 Z = true := fun d hd => hw d (own_words d hd)
  have pre0 : ∀ t, Steps p.tables e below (s₁.setTop (mkF m 0 #[.val (.int mk), .val (.int i), .val (.long d), .second, .val (.int f)] [])) t → Steps p.tables e below (s₁.setTop (entryFrame m #[(.int mk), (.int i), (.long d), (.int f)] 5)) t := fun t k => castTop (ef_rm_pick m mk i d f) k
  have S1 : ∀ t, Steps p.tables e below (s₁.setTop (mkF m 5 #[.val (.int mk), .val (.int i), .val (.long d), .second, .val (.int f)] [(.int (((mk.toUInt32 >>> (i &&& 31).toUInt32).toInt32) &&& (1 : Int32)))])) t → Steps p.tables e below (s₁.setTop (mkF m 0 #[.val (.int mk), .val (.int i), .val (.long d), .second, .val (.int f)] [])) t := by
    intro t kt
    refine XS.iloadN X0.here hx rfl (hb hby d2_0) rfl ?_
    refine XS.iloadN X0.here hx rfl (hb hby d2_1) rfl ?_
    refine XS.iushr X0.here hx rfl (hb hby d2_2) rfl ?_
    refine XS.iconst X0.here hx rfl (hb hby d2_3) ?_
    refine XS.iand X0.here hx rfl (hb hby d2_4) rfl ?_
    exact kt
  rcases Decidable.em ((((mk.toUInt32 >>> (i &&& 31).toUInt32).toInt32) &&& (1 : Int32)) = (0 : Int32)) with c2 | c2
  · have S3 : ∀ t, Steps p.tables e below (s₁.setTop (mkF m 23 #[.val (.int mk), .val (.int i), .val (.long d), .second, .val (.int f)] [(.int f)])) t → Steps p.tables e below (s₁.setTop (mkF m 0 #[.val (.int mk), .val (.int i), .val (.long d), .second, .val (.int f)] [])) t := by
      intro t kt
      refine S1 t ?_
      refine XS.ifYes X0.here hx rfl (pc0 := 5) (pc' := 21) rfl (hb hby d2_5) rfl ((if0 _ _).trans (teq (c2 : (((mk.toUInt32 >>> (i &&& 31).toUInt32).toInt32) &&& (1 : Int32)) = (0 : Int32))).1) (by decide) (by decide) ?_
      refine XS.iload X0.here hx rfl (hb hby d2_21) rfl ?_
      exact kt
    obtain ⟨fs, hr, hrun, hended, hW, hsame⟩ := X0.leave (v := some (.int f)) (fun h => by rw [Bd.returns] at h; cases h)
    refine ⟨_, _, pre0 _ (S3 _ ?_), hrun, hended, _, _, rfl, ?_, ⟨_, rfl⟩, hW, hsame.mono (by decide) (by decide)⟩
    · refine retN X0 hx (t := .char) Bd.returns (by simp) (hb hby d2_23) (fun fz az a1 a2 a3 => ?_)
      rw [show nar .char f = f from own_nar la_f]
      exact hr fz az a1 a2 a3
    · show Q_rm_pick Z mk i d f h0 n0 _ s₁.heap _
      rw [e0]
      exact ⟨f, la_f, rfl, N0, rfl⟩
  · have la4 := own_latL ((d.toUInt64 >>> (((8 : Int32) * i) &&& 0x3f).toInt64.toUInt64).toInt64)
    have S5 : ∀ t, Steps p.tables e below (s₁.setTop (mkF m 20 #[.val (.int mk), .val (.int i), .val (.long d), .second, .val (.int f)] [(.int ((((d.toUInt64 >>> (((8 : Int32) * i) &&& 0x3f).toInt64.toUInt64).toInt64) &&& (255 : Int64)).toInt32))])) t → Steps p.tables e below (s₁.setTop (mkF m 0 #[.val (.int mk), .val (.int i), .val (.long d), .second, .val (.int f)] [])) t := by
      intro t kt
      refine S1 t ?_
      refine XS.ifNo X0.here hx rfl (hb hby d2_5) rfl ((if0 _ _).trans (feq (c2 : ¬ ((((mk.toUInt32 >>> (i &&& 31).toUInt32).toInt32) &&& (1 : Int32)) = (0 : Int32)))).1) ?_
      refine XS.lloadN X0.here hx rfl (hb hby d2_8) rfl ?_
      refine XS.bipush X0.here hx rfl (hb hby d2_9) ?_
      refine XS.iloadN X0.here hx rfl (hb hby d2_11) rfl ?_
      refine XS.imul X0.here hx rfl (hb hby d2_12) rfl ?_
      refine XS.lushr X0.here hx rfl (hb hby d2_13) rfl ?_
      show Steps p.tables e below (s₁.setTop (mkF m 14 #[.val (.int mk), .val (.int i), .val (.long d), .second, .val (.int f)] [(.long ((d.toUInt64 >>> (((8 : Int32) * i) &&& 0x3f).toInt64.toUInt64).toInt64))])) _
      refine X0.ldc2Long hx hown (mvT hZ (own_w hw 5 rfl)) (g := (mkF m 14 #[.val (.int mk), .val (.int i), .val (.long d), .second, .val (.int f)] [(.long ((d.toUInt64 >>> (((8 : Int32) * i) &&& 0x3f).toInt64.toUInt64).toInt64))])) rfl (hb hby d2_14) _ ?_
      refine XS.land X0.here hx rfl (hb hby d2_17) rfl ?_
      refine XS.l2i X0.here hx rfl (hb hby d2_18) rfl ?_
      refine XS.i2c X0.here hx rfl (hb hby d2_19) rfl ?_
      change Steps p.tables e below (s₁.setTop (mkF m 20 #[.val (.int mk), .val (.int i), .val (.long d), .second, .val (.int f)] [(.int (((((d.toUInt64 >>> (((8 : Int32) * i) &&& 0x3f).toInt64.toUInt64).toInt64) &&& (255 : Int64)).toInt32).toUInt32.toUInt16.toUInt32.toInt32))])) _
      rw [own_nar la4]
      exact kt
    obtain ⟨fs, hr, hrun, hended, hW, hsame⟩ := X0.leave (v := some (.int ((((d.toUInt64 >>> (((8 : Int32) * i) &&& 0x3f).toInt64.toUInt64).toInt64) &&& (255 : Int64)).toInt32))) (fun h => by rw [Bd.returns] at h; cases h)
    refine ⟨_, _, pre0 _ (S5 _ ?_), hrun, hended, _, _, rfl, ?_, ⟨_, rfl⟩, hW, hsame.mono (by decide) (by decide)⟩
    · refine retN X0 hx (t := .char) Bd.returns (by simp) (hb hby d2_20) (fun fz az a1 a2 a3 => ?_)
      rw [show nar .char ((((d.toUInt64 >>> (((8 : Int32) * i) &&& 0x3f).toInt64.toUInt64).toInt64) &&& (255 : Int64)).toInt32) = ((((d.toUInt64 >>> (((8 : Int32) * i) &&& 0x3f).toInt64.toUInt64).toInt64) &&& (255 : Int64)).toInt32) from own_nar la4]
      exact hr fz az a1 a2 a3
    · show Q_rm_pick Z mk i d f h0 n0 _ s₁.heap _
      rw [e0]
      exact ⟨((((d.toUInt64 >>> (((8 : Int32) * i) &&& 0x3f).toInt64.toUInt64).toInt64) &&& (255 : Int64)).toInt32), la4, rfl, N0, rfl⟩
theorem d3_0 : decode method_4_code 0 = .ok (.iload_n 0, 1) := by decide +kernel
theorem d3_1 : decode method_4_code 1 = .ok (.ifCond .ne 7, 3) := by decide +kernel
theorem d3_4 : decode method_4_code 4 = .ok (.iconst 0, 1) := by decide +kernel
theorem d3_5 : decode method_4_code 5 = .ok (.newarray .char, 2) := by decide +kernel
theorem d3_7 : decode method_4_code 7 = .ok (.areturn, 1) := by decide +kernel
theorem ef_rm_cut0 (m : MethodId) (x0 : Int32) (x1 : Addr) : entryFrame m #[(.int x0), (.ref x1)] 2 = mkF m 0 #[.val (.int x0), .val (.ref x1)] [] := by first | (simp [entryFrame, mkF, argsToLocals, Value.category]; done) | rfl
def Q_rm_cut0 (Z : State) (w : Addr) (kw : ClassId) (c0 : Int32) (c1 : Int32) (c2 : Int32) (c3 : Int32) (c4 : Int32) (c5 : Int32) (c6 : Int32) (h0 : Heap) (n0 : Nat) (v : Option Value) (h : Heap) (L : List Loc) : Prop := (∃ (r : Addr) (k : ClassId), (v = some (.ref r)) ∧ (Fr n0 L) ∧ (Keep h0 h []) ∧ (h0.size ≤ r) ∧ (Arv Z h r k .char (0 : Int32) [] (.int (0 : Int32))))
set_option maxRecDepth 65536 in
set_option maxHeartbeats 40000000 in
theorem rm_cut0 (l : Launch) (Z : State) (a0 : Array Value) (hw : ∀ d ∈ tables_1, d.before a0 Z = true) (ws : List Jvm.Cond) (w : Addr) (kw : ClassId) (c0 : Int32) (c1 : Int32) (c2 : Int32) (c3 : Int32) (c4 : Int32) (c5 : Int32) (c6 : Int32) (h0 : Heap) (n0 : Nat) (O0 : Old Z n0 h0) (A_w : Arv Z h0 w kw .char (7 : Int32) [(.int c0), (.int c1), (.int c2), (.int c3), (.int c4), (.int c5), (.int c6)] (.int (0 : Int32))) (la_c0 : ¬ (c0 < (0 : Int32)) ∧ ¬ ((255 : Int32) < c0)) (la_c1 : ¬ (c1 < (0 : Int32)) ∧ ¬ ((255 : Int32) < c1)) (la_c2 : ¬ (c2 < (0 : Int32)) ∧ ¬ ((255 : Int32) < c2)) (la_c3 : ¬ (c3 < (0 : Int32)) ∧ ¬ ((255 : Int32) < c3)) (la_c4 : ¬ (c4 < (0 : Int32)) ∧ ¬ ((255 : Int32) < c4)) (la_c5 : ¬ (c5 < (0 : Int32)) ∧ ¬ ((255 : Int32) < c5)) (la_c6 : ¬ (c6 < (0 : Int32)) ∧ ¬ ((255 : Int32) < c6)) :
    MetFree l (⟨"com/example/favonius/favonius/phrank/VariantDefaultForPinLaw", "cut", "(I[C)[C"⟩ : MethodName) (head1 (Jvm.Cond.code (⟨"com/example/favonius/favonius/phrank/VariantDefaultForPinLaw", "cut", "(I[C)[C"⟩ : MethodName) method_4_code 2 (some (.array .char)) :: ws) ({ frames := 0, cells := 1, slots := 0, locals := 0 } : Room)) (fun a U => a = #[(.int (0 : Int32)), (.ref w)] ∧ Z.Warmed39 U.vm ∧ U.heap = h0) (fun _ _ _ _ _ => True) (fun _ U o U' => ∃ v L, o = .returned v ∧ Q_rm_cut0 Z w kw c0 c1 c2 c3 c4 c5 c6 h0 n0 v U'.heap L ∧ FrameEnd U o U' L ({ frames := 0, cells := 1, slots := 0, locals := 0 } : Room).cells ({ frames := 0, cells := 1, slots := 0, locals := 0 } : Room).slots) := by
  refine MetFree.of_bodySF (plainFor_of_name pn_1) hisR ?_
  intro p e s m args below meth c s₁ Bd hml0 hP hK
  obtain ⟨rfl, hZ, hh⟩ := hP
  have hx := Bd.exec
  have hby := Bd.bytes
  have hml : c.maxLocals = 2 := hml0
  have hown : s.vm.findClass "com/example/favonius/favonius/phrank/VariantDefaultForPinLaw" = some m.cls := findClass_of_methodNamed Bd.named
  have hnm := (name_of_methodNamed Bd.named Bd.method).1
  have X0 : Stand p l e ({ frames := 0, cells := 1, slots := 0, locals := 0 } : Room) s m #[(.int (0 : Int32)), (.ref w)] below meth c s₁ [] 0 0 := Stand.of_body Bd
  have e0 : s₁.heap = h0 := by rw [← hh, Bd.state]; rfl
  have N0 := Fr.nil n0
  have hwq : ∀ d ∈ StrChars.Road.wordsEq, d.before a0 Z = true := fun d hd => hw d (own_wordsEq d hd)
  have hws : ∀ d ∈ StrChars.Road.words, d.before a0 Z = true := fun d hd => hw d (own_words d hd)
  have K0 : Keep h0 h0 [] := Keep.refl _ _
  have pre0 : ∀ t, Steps p.tables e below (s₁.setTop (mkF m 0 #[.val (.int (0 : Int32)), .val (.ref w)] [])) t → Steps p.tables e below (s₁.setTop (entryFrame m #[(.int (0 : Int32)), (.ref w)] 2)) t := fun t k => castTop (ef_rm_cut0 m (0 : Int32) w) k
  obtain ⟨T1, h1, k1, X1, e1, E1, A1, B1, st1⟩ := newPE X0 hx hZ (own_w hw 0 rfl) e0 (g := (mkF m 5 #[.val (.int (0 : Int32)), .val (.ref w)] [(.int (0 : Int32))])) rfl (hb hby d3_5) rfl (by decide) (cap := 0) (by decide) (by decide) (by decide) (by decide) (ad := "[C") (by first | rfl | decide)
  obtain ⟨b1, g1⟩ : ∃ z, z = h0.size := ⟨_, rfl⟩
  have ge_b1 : n0 ≤ b1 := by rw [g1, ← O0.1]; exact O0.2.1
  have sz_b1 : h0.size ≤ b1 := by rw [g1]; exact K0.1
  have ne2 : w ≠ b1 := Nat.ne_of_lt (Nat.lt_of_lt_of_le (Arv.lt A_w) (Nat.le_of_eq g1.symm))
  rw [← g1] at A1 B1 st1
  have O3 := O0.ext E1
  have K4 : Keep h0 h1 [] := K0.ext E1
  have F1 : Arv Z h1 b1 k1 .char (0 : Int32) [] (.int (0 : Int32)) := (Arv.new A1 (by decide)).pad (pad_rep [] (.int (0 : Int32)) 0)
  have S5 : ∀ t, Steps p.tables e below (T1.setTop (mkF m 7 #[.val (.int (0 : Int32)), .val (.ref w)] [(.ref b1)])) t → Steps p.tables e below (s₁.setTop (mkF m 0 #[.val (.int (0 : Int32)), .val (.ref w)] [])) t := by
    intro t kt
    refine XS.iloadN X0.here hx rfl (hb hby d3_0) rfl ?_
    refine XS.ifNo X0.here hx rfl (hb hby d3_1) rfl ((if0 _ _).trans (teq ((by decide) : (0 : Int32) = (0 : Int32))).2) ?_
    refine XS.iconst X0.here hx rfl (hb hby d3_4) ?_
    show Steps p.tables e below (s₁.setTop (mkF m 5 #[.val (.int (0 : Int32)), .val (.ref w)] [(.int (0 : Int32))])) _
    refine st1 _ ?_
    exact kt
  obtain ⟨fs, hr, hrun, hended, hW, hsame⟩ := X1.leave (v := some (.ref b1)) (fun h => by rw [Bd.returns] at h; cases h)
  refine ⟨_, _, pre0 _ (S5 _ ?_), hrun, hended, _, _, rfl, ?_, ⟨_, rfl⟩, hW, hsame.mono (by decide) (by decide)⟩
  · exact retOut X1 hx Bd.returns rfl (Or.inr (Or.inr (Or.inr (Or.inr ⟨rfl, rfl, rfl⟩)))) (hb hby d3_7) hr
  · show Q_rm_cut0 Z w kw c0 c1 c2 c3 c4 c5 c6 h0 n0 _ T1.heap _
    rw [e1]
    exact ⟨b1, k1, rfl, N0, K4, sz_b1, F1⟩
theorem d3_8 : decode method_4_code 8 = .ok (.iload_n 0, 1) := by decide +kernel
theorem d3_9 : decode method_4_code 9 = .ok (.iconst 1, 1) := by decide +kernel
theorem d3_10 : decode method_4_code 10 = .ok (.if_icmp .ne 13, 3) := by decide +kernel
theorem d3_13 : decode method_4_code 13 = .ok (.iconst 1, 1) := by decide +kernel
theorem d3_14 : decode method_4_code 14 = .ok (.newarray .char, 2) := by decide +kernel
theorem d3_16 : decode method_4_code 16 = .ok (.dup, 1) := by decide +kernel
theorem d3_17 : decode method_4_code 17 = .ok (.iconst 0, 1) := by decide +kernel
theorem d3_18 : decode method_4_code 18 = .ok (.aload_n 1, 1) := by decide +kernel
theorem d3_19 : decode method_4_code 19 = .ok (.iconst 0, 1) := by decide +kernel
theorem d3_20 : decode method_4_code 20 = .ok (.caload, 1) := by decide +kernel
theorem d3_21 : decode method_4_code 21 = .ok (.castore, 1) := by decide +kernel
theorem d3_22 : decode method_4_code 22 = .ok (.areturn, 1) := by decide +kernel
theorem ef_rm_cut1 (m : MethodId) (x0 : Int32) (x1 : Addr) : entryFrame m #[(.int x0), (.ref x1)] 2 = mkF m 0 #[.val (.int x0), .val (.ref x1)] [] := by first | (simp [entryFrame, mkF, argsToLocals, Value.category]; done) | rfl
def Q_rm_cut1 (Z : State) (w : Addr) (kw : ClassId) (c0 : Int32) (c1 : Int32) (c2 : Int32) (c3 : Int32) (c4 : Int32) (c5 : Int32) (c6 : Int32) (h0 : Heap) (n0 : Nat) (v : Option Value) (h : Heap) (L : List Loc) : Prop := (∃ (r : Addr) (k : ClassId), (v = some (.ref r)) ∧ (Fr n0 L) ∧ (Keep h0 h []) ∧ (h0.size ≤ r) ∧ (Arv Z h r k .char (1 : Int32) [(.int c0)] (.int (0 : Int32))))
set_option maxRecDepth 65536 in
set_option maxHeartbeats 40000000 in
theorem rm_cut1 (l : Launch) (Z : State) (a0 : Array Value) (hw : ∀ d ∈ tables_1, d.before a0 Z = true) (ws : List Jvm.Cond) (w : Addr) (kw : ClassId) (c0 : Int32) (c1 : Int32) (c2 : Int32) (c3 : Int32) (c4 : Int32) (c5 : Int32) (c6 : Int32) (h0 : Heap) (n0 : Nat) (O0 : Old Z n0 h0) (A_w : Arv Z h0 w kw .char (7 : Int32) [(.int c0), (.int c1), (.int c2), (.int c3), (.int c4), (.int c5), (.int c6)] (.int (0 : Int32))) (la_c0 : ¬ (c0 < (0 : Int32)) ∧ ¬ ((255 : Int32) < c0)) (la_c1 : ¬ (c1 < (0 : Int32)) ∧ ¬ ((255 : Int32) < c1)) (la_c2 : ¬ (c2 < (0 : Int32)) ∧ ¬ ((255 : Int32) < c2)) (la_c3 : ¬ (c3 < (0 : Int32)) ∧ ¬ ((255 : Int32) < c3)) (la_c4 : ¬ (c4 < (0 : Int32)) ∧ ¬ ((255 : Int32) < c4)) (la_c5 : ¬ (c5 < (0 : Int32)) ∧ ¬ ((255 : Int32) < c5)) (la_c6 : ¬ (c6 < (0 : Int32)) ∧ ¬ ((255 : Int32) < c6)) :
    MetFree l (⟨"com/example/favonius/favonius/phrank/VariantDefaultForPinLaw", "cut", "(I[C)[C"⟩ : MethodName) (head1 (Jvm.Cond.code (⟨"com/example/favonius/favonius/phrank/VariantDefaultForPinLaw", "cut", "(I[C)[C"⟩ : MethodName) method_4_code 2 (some (.array .char)) :: ws) ({ frames := 0, cells := 1, slots := 1, locals := 0 } : Room)) (fun a U => a = #[(.int (1 : Int32)), (.ref w)] ∧ Z.Warmed39 U.vm ∧ U.heap = h0) (fun _ _ _ _ _ => True) (fun _ U o U' => ∃ v L, o = .returned v ∧ Q_rm_cut1 Z w kw c0 c1 c2 c3 c4 c5 c6 h0 n0 v U'.heap L ∧ FrameEnd U o U' L ({ frames := 0, cells := 1, slots := 1, locals := 0 } : Room).cells ({ frames := 0, cells := 1, slots := 1, locals := 0 } : Room).slots) := by
  refine MetFree.of_bodySF (plainFor_of_name pn_1) hisR ?_
  intro p e s m args below meth c s₁ Bd hml0 hP hK
  obtain ⟨rfl, hZ, hh⟩ := hP
  have hx := Bd.exec
  have hby := Bd.bytes
  have hml : c.maxLocals = 2 := hml0
  have hown : s.vm.findClass "com/example/favonius/favonius/phrank/VariantDefaultForPinLaw" = some m.cls := findClass_of_methodNamed Bd.named
  have hnm := (name_of_methodNamed Bd.named Bd.method).1
  have X0 : Stand p l e ({ frames := 0, cells := 1, slots := 1, locals := 0 } : Room) s m #[(.int (1 : Int32)), (.ref w)] below meth c s₁ [] 0 0 := Stand.of_body Bd
  have e0 : s₁.heap = h0 := by rw [← hh, Bd.state]; rfl
  have N0 := Fr.nil n0
  have hwq : ∀ d ∈ StrChars.Road.wordsEq, d.before a0 Z = true := fun d hd => hw d (own_wordsEq d hd)
  have hws : ∀ d ∈ StrChars.Road.words, d.before a0 Z = true := fun d hd => hw d (own_words d hd)
  have K0 : Keep h0 h0 [] := Keep.refl _ _
  have pre0 : ∀ t, Steps p.tables e below (s₁.setTop (mkF m 0 #[.val (.int (1 : Int32)), .val (.ref w)] [])) t → Steps p.tables e below (s₁.setTop (entryFrame m #[(.int (1 : Int32)), (.ref w)] 2)) t := fun t k => castTop (ef_rm_cut1 m (1 : Int32) w) k
  obtain ⟨T1, h1, k1, X1, e1, E1, A1, B1, st1⟩ := newPE X0 hx hZ (own_w hw 0 rfl) e0 (g := (mkF m 14 #[.val (.int (1 : Int32)), .val (.ref w)] [(.int (1 : Int32))])) rfl (hb hby d3_14) rfl (by decide) (cap := 1) (by decide) (by decide) (by decide) (by decide) (ad := "[C") (by first | rfl | decide)
  obtain ⟨b1, g1⟩ : ∃ z, z = h0.size := ⟨_, rfl⟩
  have ge_b1 : n0 ≤ b1 := by rw [g1, ← O0.1]; exact O0.2.1
  have sz_b1 : h0.size ≤ b1 := by rw [g1]; exact K0.1
  have ne2 : w ≠ b1 := Nat.ne_of_lt (Nat.lt_of_lt_of_le (Arv.lt A_w) (Nat.le_of_eq g1.symm))
  rw [← g1] at A1 B1 st1
  have O3 := O0.ext E1
  have K4 : Keep h0 h1 [] := K0.ext E1
  have F1 : Arv Z h1 b1 k1 .char (1 : Int32) [(.int (0 : Int32))] (.int (0 : Int32)) := (Arv.new A1 (by decide)).pad (pad_rep [] (.int (0 : Int32)) 1)
  have f5 := (Arv.ext A_w E1)
  obtain ⟨cl6, Ar6, q6, Sz6, Nn6, Hh6, Gg6⟩ := id f5
  have in6 : ¬ ((0 : Int32) < 0 ∨ cl6.slots.size ≤ ((0 : Int32)).toNatClampNeg) := by exact inb_of Sz6 ⟨by decide, by decide⟩
  have at6 : cl6.slots[((0 : Int32)).toNatClampNeg]? = some (.int c0) := by
    refine Has.at Hh6 in6 ?_
    rfl
  obtain ⟨cl7, Ar7, q7, Sz7, Nn7, Hh7, Gg7⟩ := id F1
  have in7 : ¬ ((0 : Int32) < 0 ∨ cl7.slots.size ≤ ((0 : Int32)).toNatClampNeg) := inb_of Sz7 ⟨by decide, by decide⟩
  obtain ⟨T7, h7, X7, e7, W7, st7⟩ := stC X1 hx hZ e1 Ar7 (j := (0 : Int32)) in7 (g := (mkF m 21 #[.val (.int (1 : Int32)), .val (.ref w)] [(.int c0), (.int (0 : Int32)), (.ref b1), (.ref b1)])) rfl rfl (hb hby d3_21)
  rw [show nar .char c0 = c0 from own_nar la_c0] at W7
  have O8 := O3.wr W7 ge_b1
  have K9 : Keep h0 h7 [] := K4.wr W7 (Or.inr sz_b1)
  have N10 := Fr.snoc X7 N0 ge_b1
  have F7 : Arv Z h7 b1 k1 .char (1 : Int32) [(.int c0)] (.int (0 : Int32)) := Arv.set Ar7 q7 Sz7 Nn7 Hh7 Gg7 (by rw [← (own_nar la_c0 : nar .char c0 = c0)]; exact fits_nar_char _) W7 0 rfl (Nat.le_of_ble_eq_true rfl)
  have S11 : ∀ t, Steps p.tables e below (T7.setTop (mkF m 22 #[.val (.int (1 : Int32)), .val (.ref w)] [(.ref b1)])) t → Steps p.tables e below (s₁.setTop (mkF m 0 #[.val (.int (1 : Int32)), .val (.ref w)] [])) t := by
    intro t kt
    refine XS.iloadN X0.here hx rfl (hb hby d3_0) rfl ?_
    refine XS.ifYes X0.here hx rfl (pc0 := 1) (pc' := 8) rfl (hb hby d3_1) rfl ((if0 _ _).trans (feq ((by decide) : ¬ ((1 : Int32) = (0 : Int32)))).2) (by decide) (by decide) ?_
    refine XS.iloadN X0.here hx rfl (hb hby d3_8) rfl ?_
    refine XS.iconst X0.here hx rfl (hb hby d3_9) ?_
    refine XS.icmpNo X0.here hx rfl (hb hby d3_10) rfl (teq ((by decide) : (1 : Int32) = (1 : Int32))).2 ?_
    refine XS.iconst X0.here hx rfl (hb hby d3_13) ?_
    show Steps p.tables e below (s₁.setTop (mkF m 14 #[.val (.int (1 : Int32)), .val (.ref w)] [(.int (1 : Int32))])) _
    refine st1 _ ?_
    refine XS.dup X1.here hx rfl (hb hby d3_16) rfl rfl ?_
    refine XS.iconst X1.here hx rfl (hb hby d3_17) ?_
    refine XS.aloadN X1.here hx rfl (hb hby d3_18) rfl rfl ?_
    refine XS.iconst X1.here hx rfl (hb hby d3_19) ?_
    show Steps p.tables e below (T1.setTop (mkF m 20 #[.val (.int (1 : Int32)), .val (.ref w)] [(.int (0 : Int32)), (.ref w), (.int (0 : Int32)), (.ref b1), (.ref b1)])) _
    refine X1.caload hx (j := (0 : Int32)) (v := (.int c0)) (by rw [e1]; exact Ar6.1) (State.isArrayOf_alike hZ.alike Ar6.2.1) Ar6.2.2 in6 at6 (g := (mkF m 20 #[.val (.int (1 : Int32)), .val (.ref w)] [(.int (0 : Int32)), (.ref w), (.int (0 : Int32)), (.ref b1), (.ref b1)])) rfl rfl (hb hby d3_20) _ ?_
    show Steps p.tables e below (T1.setTop (mkF m 21 #[.val (.int (1 : Int32)), .val (.ref w)] [(.int c0), (.int (0 : Int32)), (.ref b1), (.ref b1)])) _
    refine st7 _ ?_
    exact kt
  obtain ⟨fs, hr, hrun, hended, hW, hsame⟩ := X7.leave (v := some (.ref b1)) (fun h => by rw [Bd.returns] at h; cases h)
  refine ⟨_, _, pre0 _ (S11 _ ?_), hrun, hended, _, _, rfl, ?_, ⟨_, rfl⟩, hW, hsame.mono (by decide) (by decide)⟩
  · exact retOut X7 hx Bd.returns rfl (Or.inr (Or.inr (Or.inr (Or.inr ⟨rfl, rfl, rfl⟩)))) (hb hby d3_22) hr
  · show Q_rm_cut1 Z w kw c0 c1 c2 c3 c4 c5 c6 h0 n0 _ T7.heap _
    rw [e7]
    exact ⟨b1, k1, rfl, N10, K9, sz_b1, F7⟩
theorem d3_23 : decode method_4_code 23 = .ok (.iload_n 0, 1) := by decide +kernel
theorem d3_24 : decode method_4_code 24 = .ok (.iconst 2, 1) := by decide +kernel
theorem d3_25 : decode method_4_code 25 = .ok (.if_icmp .ne 19, 3) := by decide +kernel
theorem d3_28 : decode method_4_code 28 = .ok (.iconst 2, 1) := by decide +kernel
theorem d3_29 : decode method_4_code 29 = .ok (.newarray .char, 2) := by decide +kernel
theorem d3_31 : decode method_4_code 31 = .ok (.dup, 1) := by decide +kernel
theorem d3_32 : decode method_4_code 32 = .ok (.iconst 0, 1) := by decide +kernel
theorem d3_33 : decode method_4_code 33 = .ok (.aload_n 1, 1) := by decide +kernel
theorem d3_34 : decode method_4_code 34 = .ok (.iconst 0, 1) := by decide +kernel
theorem d3_35 : decode method_4_code 35 = .ok (.caload, 1) := by decide +kernel
theorem d3_36 : decode method_4_code 36 = .ok (.castore, 1) := by decide +kernel
theorem d3_37 : decode method_4_code 37 = .ok (.dup, 1) := by decide +kernel
theorem d3_38 : decode method_4_code 38 = .ok (.iconst 1, 1) := by decide +kernel
theorem d3_39 : decode method_4_code 39 = .ok (.aload_n 1, 1) := by decide +kernel
theorem d3_40 : decode method_4_code 40 = .ok (.iconst 1, 1) := by decide +kernel
theorem d3_41 : decode method_4_code 41 = .ok (.caload, 1) := by decide +kernel
theorem d3_42 : decode method_4_code 42 = .ok (.castore, 1) := by decide +kernel
theorem d3_43 : decode method_4_code 43 = .ok (.areturn, 1) := by decide +kernel
theorem ef_rm_cut2 (m : MethodId) (x0 : Int32) (x1 : Addr) : entryFrame m #[(.int x0), (.ref x1)] 2 = mkF m 0 #[.val (.int x0), .val (.ref x1)] [] := by first | (simp [entryFrame, mkF, argsToLocals, Value.category]; done) | rfl
def Q_rm_cut2 (Z : State) (w : Addr) (kw : ClassId) (c0 : Int32) (c1 : Int32) (c2 : Int32) (c3 : Int32) (c4 : Int32) (c5 : Int32) (c6 : Int32) (h0 : Heap) (n0 : Nat) (v : Option Value) (h : Heap) (L : List Loc) : Prop := (∃ (r : Addr) (k : ClassId), (v = some (.ref r)) ∧ (Fr n0 L) ∧ (Keep h0 h []) ∧ (h0.size ≤ r) ∧ (Arv Z h r k .char (2 : Int32) [(.int c0), (.int c1)] (.int (0 : Int32))))
set_option maxRecDepth 65536 in
set_option maxHeartbeats 40000000 in
theorem rm_cut2 (l : Launch) (Z : State) (a0 : Array Value) (hw : ∀ d ∈ tables_1, d.before a0 Z = true) (ws : List Jvm.Cond) (w : Addr) (kw : ClassId) (c0 : Int32) (c1 : Int32) (c2 : Int32) (c3 : Int32) (c4 : Int32) (c5 : Int32) (c6 : Int32) (h0 : Heap) (n0 : Nat) (O0 : Old Z n0 h0) (A_w : Arv Z h0 w kw .char (7 : Int32) [(.int c0), (.int c1), (.int c2), (.int c3), (.int c4), (.int c5), (.int c6)] (.int (0 : Int32))) (la_c0 : ¬ (c0 < (0 : Int32)) ∧ ¬ ((255 : Int32) < c0)) (la_c1 : ¬ (c1 < (0 : Int32)) ∧ ¬ ((255 : Int32) < c1)) (la_c2 : ¬ (c2 < (0 : Int32)) ∧ ¬ ((255 : Int32) < c2)) (la_c3 : ¬ (c3 < (0 : Int32)) ∧ ¬ ((255 : Int32) < c3)) (la_c4 : ¬ (c4 < (0 : Int32)) ∧ ¬ ((255 : Int32) < c4)) (la_c5 : ¬ (c5 < (0 : Int32)) ∧ ¬ ((255 : Int32) < c5)) (la_c6 : ¬ (c6 < (0 : Int32)) ∧ ¬ ((255 : Int32) < c6)) :
    MetFree l (⟨"com/example/favonius/favonius/phrank/VariantDefaultForPinLaw", "cut", "(I[C)[C"⟩ : MethodName) (head1 (Jvm.Cond.code (⟨"com/example/favonius/favonius/phrank/VariantDefaultForPinLaw", "cut", "(I[C)[C"⟩ : MethodName) method_4_code 2 (some (.array .char)) :: ws) ({ frames := 0, cells := 1, slots := 2, locals := 0 } : Room)) (fun a U => a = #[(.int (2 : Int32)), (.ref w)] ∧ Z.Warmed39 U.vm ∧ U.heap = h0) (fun _ _ _ _ _ => True) (fun _ U o U' => ∃ v L, o = .returned v ∧ Q_rm_cut2 Z w kw c0 c1 c2 c3 c4 c5 c6 h0 n0 v U'.heap L ∧ FrameEnd U o U' L ({ frames := 0, cells := 1, slots := 2, locals := 0 } : Room).cells ({ frames := 0, cells := 1, slots := 2, locals := 0 } : Room).slots) := by
  refine MetFree.of_bodySF (plainFor_of_name pn_1) hisR ?_
  intro p e s m args below meth c s₁ Bd hml0 hP hK
  obtain ⟨rfl, hZ, hh⟩ := hP
  have hx := Bd.exec
  have hby := Bd.bytes
  have hml : c.maxLocals = 2 := hml0
  have hown : s.vm.findClass "com/example/favonius/favonius/phrank/VariantDefaultForPinLaw" = some m.cls := findClass_of_methodNamed Bd.named
  have hnm := (name_of_methodNamed Bd.named Bd.method).1
  have X0 : Stand p l e ({ frames := 0, cells := 1, slots := 2, locals := 0 } : Room) s m #[(.int (2 : Int32)), (.ref w)] below meth c s₁ [] 0 0 := Stand.of_body Bd
  have e0 : s₁.heap = h0 := by rw [← hh, Bd.state]; rfl
  have N0 := Fr.nil n0
  have hwq : ∀ d ∈ StrChars.Road.wordsEq, d.before a0 Z = true := fun d hd => hw d (own_wordsEq d hd)
  have hws : ∀ d ∈ StrChars.Road.words, d.before a0 Z = true := fun d hd => hw d (own_words d hd)
  have K0 : Keep h0 h0 [] := Keep.refl _ _
  have pre0 : ∀ t, Steps p.tables e below (s₁.setTop (mkF m 0 #[.val (.int (2 : Int32)), .val (.ref w)] [])) t → Steps p.tables e below (s₁.setTop (entryFrame m #[(.int (2 : Int32)), (.ref w)] 2)) t := fun t k => castTop (ef_rm_cut2 m (2 : Int32) w) k
  obtain ⟨T1, h1, k1, X1, e1, E1, A1, B1, st1⟩ := newPE X0 hx hZ (own_w hw 0 rfl) e0 (g := (mkF m 29 #[.val (.int (2 : Int32)), .val (.ref w)] [(.int (2 : Int32))])) rfl (hb hby d3_29) rfl (by decide) (cap := 2) (by decide) (by decide) (by decide) (by decide) (ad := "[C") (by first | rfl | decide)
  obtain ⟨b1, g1⟩ : ∃ z, z = h0.size := ⟨_, rfl⟩
  have ge_b1 : n0 ≤ b1 := by rw [g1, ← O0.1]; exact O0.2.1
  have sz_b1 : h0.size ≤ b1 := by rw [g1]; exact K0.1
  have ne2 : w ≠ b1 := Nat.ne_of_lt (Nat.lt_of_lt_of_le (Arv.lt A_w) (Nat.le_of_eq g1.symm))
  rw [← g1] at A1 B1 st1
  have O3 := O0.ext E1
  have K4 : Keep h0 h1 [] := K0.ext E1
  have F1 : Arv Z h1 b1 k1 .char (2 : Int32) [(.int (0 : Int32)), (.int (0 : Int32))] (.int (0 : Int32)) := (Arv.new A1 (by decide)).pad (pad_rep [] (.int (0 : Int32)) 2)
  have f5 := (Arv.ext A_w E1)
  obtain ⟨cl6, Ar6, q6, Sz6, Nn6, Hh6, Gg6⟩ := id f5
  have in6 : ¬ ((0 : Int32) < 0 ∨ cl6.slots.size ≤ ((0 : Int32)).toNatClampNeg) := by exact inb_of Sz6 ⟨by decide, by decide⟩
  have at6 : cl6.slots[((0 : Int32)).toNatClampNeg]? = some (.int c0) := by
    refine Has.at Hh6 in6 ?_
    rfl
  obtain ⟨cl7, Ar7, q7, Sz7, Nn7, Hh7, Gg7⟩ := id F1
  have in7 : ¬ ((0 : Int32) < 0 ∨ cl7.slots.size ≤ ((0 : Int32)).toNatClampNeg) := inb_of Sz7 ⟨by decide, by decide⟩
  obtain ⟨T7, h7, X7, e7, W7, st7⟩ := stC X1 hx hZ e1 Ar7 (j := (0 : Int32)) in7 (g := (mkF m 36 #[.val (.int (2 : Int32)), .val (.ref w)] [(.int c0), (.int (0 : Int32)), (.ref b1), (.ref b1)])) rfl rfl (hb hby d3_36)
  rw [show nar .char c0 = c0 from own_nar la_c0] at W7
  have O8 := O3.wr W7 ge_b1
  have K9 : Keep h0 h7 [] := K4.wr W7 (Or.inr sz_b1)
  have N10 := Fr.snoc X7 N0 ge_b1
  have F7 : Arv Z h7 b1 k1 .char (2 : Int32) [(.int c0), (.int (0 : Int32))] (.int (0 : Int32)) := Arv.set Ar7 q7 Sz7 Nn7 Hh7 Gg7 (by rw [← (own_nar la_c0 : nar .char c0 = c0)]; exact fits_nar_char _) W7 0 rfl (Nat.le_of_ble_eq_true rfl)
  have f11 := (Arv.other f5 W7 ne2)
  obtain ⟨cl12, Ar12, q12, Sz12, Nn12, Hh12, Gg12⟩ := id f11
  have in12 : ¬ ((1 : Int32) < 0 ∨ cl12.slots.size ≤ ((1 : Int32)).toNatClampNeg) := by exact inb_of Sz12 ⟨by decide, by decide⟩
  have at12 : cl12.slots[((1 : Int32)).toNatClampNeg]? = some (.int c1) := by
    refine Has.at Hh12 in12 ?_
    rfl
  obtain ⟨cl13, Ar13, q13, Sz13, Nn13, Hh13, Gg13⟩ := id F7
  have in13 : ¬ ((1 : Int32) < 0 ∨ cl13.slots.size ≤ ((1 : Int32)).toNatClampNeg) := inb_of Sz13 ⟨by decide, by decide⟩
  obtain ⟨T13, h13, X13, e13, W13, st13⟩ := stC X7 hx hZ e7 Ar13 (j := (1 : Int32)) in13 (g := (mkF m 42 #[.val (.int (2 : Int32)), .val (.ref w)] [(.int c1), (.int (1 : Int32)), (.ref b1), (.ref b1)])) rfl rfl (hb hby d3_42)
  rw [show nar .char c1 = c1 from own_nar la_c1] at W13
  have O14 := O8.wr W13 ge_b1
  have K15 : Keep h0 h13 [] := K9.wr W13 (Or.inr sz_b1)
  have N16 := Fr.snoc X13 N10 ge_b1
  have F13 : Arv Z h13 b1 k1 .char (2 : Int32) [(.int c0), (.int c1)] (.int (0 : Int32)) := Arv.set Ar13 q13 Sz13 Nn13 Hh13 Gg13 (by rw [← (own_nar la_c1 : nar .char c1 = c1)]; exact fits_nar_char _) W13 1 rfl (Nat.le_of_ble_eq_true rfl)
  have S17 : ∀ t, Steps p.tables e below (T13.setTop (mkF m 43 #[.val (.int (2 : Int32)), .val (.ref w)] [(.ref b1)])) t → Steps p.tables e below (s₁.setTop (mkF m 0 #[.val (.int (2 : Int32)), .val (.ref w)] [])) t := by
    intro t kt
    refine XS.iloadN X0.here hx rfl (hb hby d3_0) rfl ?_
    refine XS.ifYes X0.here hx rfl (pc0 := 1) (pc' := 8) rfl (hb hby d3_1) rfl ((if0 _ _).trans (feq ((by decide) : ¬ ((2 : Int32) = (0 : Int32)))).2) (by decide) (by decide) ?_
    refine XS.iloadN X0.here hx rfl (hb hby d3_8) rfl ?_
    refine XS.iconst X0.here hx rfl (hb hby d3_9) ?_
    refine XS.icmpYes X0.here hx rfl (pc0 := 10) (pc' := 23) rfl (hb hby d3_10) rfl (feq ((by decide) : ¬ ((2 : Int32) = (1 : Int32)))).2 (by decide) (by decide) ?_
    refine XS.iloadN X0.here hx rfl (hb hby d3_23) rfl ?_
    show Steps p.tables e below (s₁.setTop (mkF m 24 #[.val (.int (2 : Int32)), .val (.ref w)] [(.int (2 : Int32))])) _
    refine XS.iconst X0.here hx rfl (hb hby d3_24) ?_
    refine XS.icmpNo X0.here hx rfl (hb hby d3_25) rfl (teq ((by decide) : (2 : Int32) = (2 : Int32))).2 ?_
    refine XS.iconst X0.here hx rfl (hb hby d3_28) ?_
    show Steps p.tables e below (s₁.setTop (mkF m 29 #[.val (.int (2 : Int32)), .val (.ref w)] [(.int (2 : Int32))])) _
    refine st1 _ ?_
    refine XS.dup X1.here hx rfl (hb hby d3_31) rfl rfl ?_
    refine XS.iconst X1.here hx rfl (hb hby d3_32) ?_
    refine XS.aloadN X1.here hx rfl (hb hby d3_33) rfl rfl ?_
    refine XS.iconst X1.here hx rfl (hb hby d3_34) ?_
    show Steps p.tables e below (T1.setTop (mkF m 35 #[.val (.int (2 : Int32)), .val (.ref w)] [(.int (0 : Int32)), (.ref w), (.int (0 : Int32)), (.ref b1), (.ref b1)])) _
    refine X1.caload hx (j := (0 : Int32)) (v := (.int c0)) (by rw [e1]; exact Ar6.1) (State.isArrayOf_alike hZ.alike Ar6.2.1) Ar6.2.2 in6 at6 (g := (mkF m 35 #[.val (.int (2 : Int32)), .val (.ref w)] [(.int (0 : Int32)), (.ref w), (.int (0 : Int32)), (.ref b1), (.ref b1)])) rfl rfl (hb hby d3_35) _ ?_
    show Steps p.tables e below (T1.setTop (mkF m 36 #[.val (.int (2 : Int32)), .val (.ref w)] [(.int c0), (.int (0 : Int32)), (.ref b1), (.ref b1)])) _
    refine st7 _ ?_
    refine XS.dup X7.here hx rfl (hb hby d3_37) rfl rfl ?_
    refine XS.iconst X7.here hx rfl (hb hby d3_38) ?_
    refine XS.aloadN X7.here hx rfl (hb hby d3_39) rfl rfl ?_
    refine XS.iconst X7.here hx rfl (hb hby d3_40) ?_
    show Steps p.tables e below (T7.setTop (mkF m 41 #[.val (.int (2 : Int32)), .val (.ref w)] [(.int (1 : Int32)), (.ref w), (.int (1 : Int32)), (.ref b1), (.ref b1)])) _
    refine X7.caload hx (j := (1 : Int32)) (v := (.int c1)) (by rw [e7]; exact Ar12.1) (State.isArrayOf_alike hZ.alike Ar12.2.1) Ar12.2.2 in12 at12 (g := (mkF m 41 #[.val (.int (2 : Int32)), .val (.ref w)] [(.int (1 : Int32)), (.ref w), (.int (1 : Int32)), (.ref b1), (.ref b1)])) rfl rfl (hb hby d3_41) _ ?_
    show Steps p.tables e below (T7.setTop (mkF m 42 #[.val (.int (2 : Int32)), .val (.ref w)] [(.int c1), (.int (1 : Int32)), (.ref b1), (.ref b1)])) _
    refine st13 _ ?_
    exact kt
  obtain ⟨fs, hr, hrun, hended, hW, hsame⟩ := X13.leave (v := some (.ref b1)) (fun h => by rw [Bd.returns] at h; cases h)
  refine ⟨_, _, pre0 _ (S17 _ ?_), hrun, hended, _, _, rfl, ?_, ⟨_, rfl⟩, hW, hsame.mono (by decide) (by decide)⟩
  · exact retOut X13 hx Bd.returns rfl (Or.inr (Or.inr (Or.inr (Or.inr ⟨rfl, rfl, rfl⟩)))) (hb hby d3_43) hr
  · show Q_rm_cut2 Z w kw c0 c1 c2 c3 c4 c5 c6 h0 n0 _ T13.heap _
    rw [e13]
    exact ⟨b1, k1, rfl, N16, K15, sz_b1, F13⟩
theorem d3_44 : decode method_4_code 44 = .ok (.iload_n 0, 1) := by decide +kernel
theorem d3_45 : decode method_4_code 45 = .ok (.iconst 3, 1) := by decide +kernel
theorem d3_46 : decode method_4_code 46 = .ok (.if_icmp .ne 25, 3) := by decide +kernel
theorem d3_49 : decode method_4_code 49 = .ok (.iconst 3, 1) := by decide +kernel
theorem d3_50 : decode method_4_code 50 = .ok (.newarray .char, 2) := by decide +kernel
theorem d3_52 : decode method_4_code 52 = .ok (.dup, 1) := by decide +kernel
theorem d3_53 : decode method_4_code 53 = .ok (.iconst 0, 1) := by decide +kernel
theorem d3_54 : decode method_4_code 54 = .ok (.aload_n 1, 1) := by decide +kernel
theorem d3_55 : decode method_4_code 55 = .ok (.iconst 0, 1) := by decide +kernel
theorem d3_56 : decode method_4_code 56 = .ok (.caload, 1) := by decide +kernel
theorem d3_57 : decode method_4_code 57 = .ok (.castore, 1) := by decide +kernel
theorem d3_58 : decode method_4_code 58 = .ok (.dup, 1) := by decide +kernel
theorem d3_59 : decode method_4_code 59 = .ok (.iconst 1, 1) := by decide +kernel
theorem d3_60 : decode method_4_code 60 = .ok (.aload_n 1, 1) := by decide +kernel
theorem d3_61 : decode method_4_code 61 = .ok (.iconst 1, 1) := by decide +kernel
theorem d3_62 : decode method_4_code 62 = .ok (.caload, 1) := by decide +kernel
theorem d3_63 : decode method_4_code 63 = .ok (.castore, 1) := by decide +kernel
theorem d3_64 : decode method_4_code 64 = .ok (.dup, 1) := by decide +kernel
theorem d3_65 : decode method_4_code 65 = .ok (.iconst 2, 1) := by decide +kernel
theorem d3_66 : decode method_4_code 66 = .ok (.aload_n 1, 1) := by decide +kernel
theorem d3_67 : decode method_4_code 67 = .ok (.iconst 2, 1) := by decide +kernel
theorem d3_68 : decode method_4_code 68 = .ok (.caload, 1) := by decide +kernel
theorem d3_69 : decode method_4_code 69 = .ok (.castore, 1) := by decide +kernel
theorem d3_70 : decode method_4_code 70 = .ok (.areturn, 1) := by decide +kernel
theorem ef_rm_cut3 (m : MethodId) (x0 : Int32) (x1 : Addr) : entryFrame m #[(.int x0), (.ref x1)] 2 = mkF m 0 #[.val (.int x0), .val (.ref x1)] [] := by first | (simp [entryFrame, mkF, argsToLocals, Value.category]; done) | rfl
def Q_rm_cut3 (Z : State) (w : Addr) (kw : ClassId) (c0 : Int32) (c1 : Int32) (c2 : Int32) (c3 : Int32) (c4 : Int32) (c5 : Int32) (c6 : Int32) (h0 : Heap) (n0 : Nat) (v : Option Value) (h : Heap) (L : List Loc) : Prop := (∃ (r : Addr) (k : ClassId), (v = some (.ref r)) ∧ (Fr n0 L) ∧ (Keep h0 h []) ∧ (h0.size ≤ r) ∧ (Arv Z h r k .char (3 : Int32) [(.int c0), (.int c1), (.int c2)] (.int (0 : Int32))))
set_option maxRecDepth 65536 in
set_option maxHeartbeats 40000000 in
theorem rm_cut3 (l : Launch) (Z : State) (a0 : Array Value) (hw : ∀ d ∈ tables_1, d.before a0 Z = true) (ws : List Jvm.Cond) (w : Addr) (kw : ClassId) (c0 : Int32) (c1 : Int32) (c2 : Int32) (c3 : Int32) (c4 : Int32) (c5 : Int32) (c6 : Int32) (h0 : Heap) (n0 : Nat) (O0 : Old Z n0 h0) (A_w : Arv Z h0 w kw .char (7 : Int32) [(.int c0), (.int c1), (.int c2), (.int c3), (.int c4), (.int c5), (.int c6)] (.int (0 : Int32))) (la_c0 : ¬ (c0 < (0 : Int32)) ∧ ¬ ((255 : Int32) < c0)) (la_c1 : ¬ (c1 < (0 : Int32)) ∧ ¬ ((255 : Int32) < c1)) (la_c2 : ¬ (c2 < (0 : Int32)) ∧ ¬ ((255 : Int32) < c2)) (la_c3 : ¬ (c3 < (0 : Int32)) ∧ ¬ ((255 : Int32) < c3)) (la_c4 : ¬ (c4 < (0 : Int32)) ∧ ¬ ((255 : Int32) < c4)) (la_c5 : ¬ (c5 < (0 : Int32)) ∧ ¬ ((255 : Int32) < c5)) (la_c6 : ¬ (c6 < (0 : Int32)) ∧ ¬ ((255 : Int32) < c6)) :
    MetFree l (⟨"com/example/favonius/favonius/phrank/VariantDefaultForPinLaw", "cut", "(I[C)[C"⟩ : MethodName) (head1 (Jvm.Cond.code (⟨"com/example/favonius/favonius/phrank/VariantDefaultForPinLaw", "cut", "(I[C)[C"⟩ : MethodName) method_4_code 2 (some (.array .char)) :: ws) ({ frames := 0, cells := 1, slots := 3, locals := 0 } : Room)) (fun a U => a = #[(.int (3 : Int32)), (.ref w)] ∧ Z.Warmed39 U.vm ∧ U.heap = h0) (fun _ _ _ _ _ => True) (fun _ U o U' => ∃ v L, o = .returned v ∧ Q_rm_cut3 Z w kw c0 c1 c2 c3 c4 c5 c6 h0 n0 v U'.heap L ∧ FrameEnd U o U' L ({ frames := 0, cells := 1, slots := 3, locals := 0 } : Room).cells ({ frames := 0, cells := 1, slots := 3, locals := 0 } : Room).slots) := by
  refine MetFree.of_bodySF (plainFor_of_name pn_1) hisR ?_
  intro p e s m args below meth c s₁ Bd hml0 hP hK
  obtain ⟨rfl, hZ, hh⟩ := hP
  have hx := Bd.exec
  have hby := Bd.bytes
  have hml : c.maxLocals = 2 := hml0
  have hown : s.vm.findClass "com/example/favonius/favonius/phrank/VariantDefaultForPinLaw" = some m.cls := findClass_of_methodNamed Bd.named
  have hnm := (name_of_methodNamed Bd.named Bd.method).1
  have X0 : Stand p l e ({ frames := 0, cells := 1, slots := 3, locals := 0 } : Room) s m #[(.int (3 : Int32)), (.ref w)] below meth c s₁ [] 0 0 := Stand.of_body Bd
  have e0 : s₁.heap = h0 := by rw [← hh, Bd.state]; rfl
  have N0 := Fr.nil n0
  have hwq : ∀ d ∈ StrChars.Road.wordsEq, d.before a0 Z = true := fun d hd => hw d (own_wordsEq d hd)
  have hws : ∀ d ∈ StrChars.Road.words, d.before a0 Z = true := fun d hd => hw d (own_words d hd)
  have K0 : Keep h0 h0 [] := Keep.refl _ _
  have pre0 : ∀ t, Steps p.tables e below (s₁.setTop (mkF m 0 #[.val (.int (3 : Int32)), .val (.ref w)] [])) t → Steps p.tables e below (s₁.setTop (entryFrame m #[(.int (3 : Int32)), (.ref w)] 2)) t := fun t k => castTop (ef_rm_cut3 m (3 : Int32) w) k
  obtain ⟨T1, h1, k1, X1, e1, E1, A1, B1, st1⟩ := newPE X0 hx hZ (own_w hw 0 rfl) e0 (g := (mkF m 50 #[.val (.int (3 : Int32)), .val (.ref w)] [(.int (3 : Int32))])) rfl (hb hby d3_50) rfl (by decide) (cap := 3) (by decide) (by decide) (by decide) (by decide) (ad := "[C") (by first | rfl | decide)
  obtain ⟨b1, g1⟩ : ∃ z, z = h0.size := ⟨_, rfl⟩
  have ge_b1 : n0 ≤ b1 := by rw [g1, ← O0.1]; exact O0.2.1
  have sz_b1 : h0.size ≤ b1 := by rw [g1]; exact K0.1
  have ne2 : w ≠ b1 := Nat.ne_of_lt (Nat.lt_of_lt_of_le (Arv.lt A_w) (Nat.le_of_eq g1.symm))
  rw [← g1] at A1 B1 st1
  have O3 := O0.ext E1
  have K4 : Keep h0 h1 [] := K0.ext E1
  have F1 : Arv Z h1 b1 k1 .char (3 : Int32) [(.int (0 : Int32)), (.int (0 : Int32)), (.int (0 : Int32))] (.int (0 : Int32)) := (Arv.new A1 (by decide)).pad (pad_rep [] (.int (0 : Int32)) 3)
  have f5 := (Arv.ext A_w E1)
  obtain ⟨cl6, Ar6, q6, Sz6, Nn6, Hh6, Gg6⟩ := id f5
  have in6 : ¬ ((0 : Int32) < 0 ∨ cl6.slots.size ≤ ((0 : Int32)).toNatClampNeg) := by exact inb_of Sz6 ⟨by decide, by decide⟩
  have at6 : cl6.slots[((0 : Int32)).toNatClampNeg]? = some (.int c0) := by
    refine Has.at Hh6 in6 ?_
    rfl
  obtain ⟨cl7, Ar7, q7, Sz7, Nn7, Hh7, Gg7⟩ := id F1
  have in7 : ¬ ((0 : Int32) < 0 ∨ cl7.slots.size ≤ ((0 : Int32)).toNatClampNeg) := inb_of Sz7 ⟨by decide, by decide⟩
  obtain ⟨T7, h7, X7, e7, W7, st7⟩ := stC X1 hx hZ e1 Ar7 (j := (0 : Int32)) in7 (g := (mkF m 57 #[.val (.int (3 : Int32)), .val (.ref w)] [(.int c0), (.int (0 : Int32)), (.ref b1), (.ref b1)])) rfl rfl (hb hby d3_57)
  rw [show nar .char c0 = c0 from own_nar la_c0] at W7
  have O8 := O3.wr W7 ge_b1
  have K9 : Keep h0 h7 [] := K4.wr W7 (Or.inr sz_b1)
  have N10 := Fr.snoc X7 N0 ge_b1
  have F7 : Arv Z h7 b1 k1 .char (3 : Int32) [(.int c0), (.int (0 : Int32)), (.int (0 : Int32))] (.int (0 : Int32)) := Arv.set Ar7 q7 Sz7 Nn7 Hh7 Gg7 (by rw [← (own_nar la_c0 : nar .char c0 = c0)]; exact fits_nar_char _) W7 0 rfl (Nat.le_of_ble_eq_true rfl)
  have f11 := (Arv.other f5 W7 ne2)
  obtain ⟨cl12, Ar12, q12, Sz12, Nn12, Hh12, Gg12⟩ := id f11
  have in12 : ¬ ((1 : Int32) < 0 ∨ cl12.slots.size ≤ ((1 : Int32)).toNatClampNeg) := by exact inb_of Sz12 ⟨by decide, by decide⟩
  have at12 : cl12.slots[((1 : Int32)).toNatClampNeg]? = some (.int c1) := by
    refine Has.at Hh12 in12 ?_
    rfl
  obtain ⟨cl13, Ar13, q13, Sz13, Nn13, Hh13, Gg13⟩ := id F7
  have in13 : ¬ ((1 : Int32) < 0 ∨ cl13.slots.size ≤ ((1 : Int32)).toNatClampNeg) := inb_of Sz13 ⟨by decide, by decide⟩
  obtain ⟨T13, h13, X13, e13, W13, st13⟩ := stC X7 hx hZ e7 Ar13 (j := (1 : Int32)) in13 (g := (mkF m 63 #[.val (.int (3 : Int32)), .val (.ref w)] [(.int c1), (.int (1 : Int32)), (.ref b1), (.ref b1)])) rfl rfl (hb hby d3_63)
  rw [show nar .char c1 = c1 from own_nar la_c1] at W13
  have O14 := O8.wr W13 ge_b1
  have K15 : Keep h0 h13 [] := K9.wr W13 (Or.inr sz_b1)
  have N16 := Fr.snoc X13 N10 ge_b1
  have F13 : Arv Z h13 b1 k1 .char (3 : Int32) [(.int c0), (.int c1), (.int (0 : Int32))] (.int (0 : Int32)) := Arv.set Ar13 q13 Sz13 Nn13 Hh13 Gg13 (by rw [← (own_nar la_c1 : nar .char c1 = c1)]; exact fits_nar_char _) W13 1 rfl (Nat.le_of_ble_eq_true rfl)
  have f17 := (Arv.other f11 W13 ne2)
  obtain ⟨cl18, Ar18, q18, Sz18, Nn18, Hh18, Gg18⟩ := id f17
  have in18 : ¬ ((2 : Int32) < 0 ∨ cl18.slots.size ≤ ((2 : Int32)).toNatClampNeg) := by exact inb_of Sz18 ⟨by decide, by decide⟩
  have at18 : cl18.slots[((2 : Int32)).toNatClampNeg]? = some (.int c2) := by
    refine Has.at Hh18 in18 ?_
    rfl
  obtain ⟨cl19, Ar19, q19, Sz19, Nn19, Hh19, Gg19⟩ := id F13
  have in19 : ¬ ((2 : Int32) < 0 ∨ cl19.slots.size ≤ ((2 : Int32)).toNatClampNeg) := inb_of Sz19 ⟨by decide, by decide⟩
  obtain ⟨T19, h19, X19, e19, W19, st19⟩ := stC X13 hx hZ e13 Ar19 (j := (2 : Int32)) in19 (g := (mkF m 69 #[.val (.int (3 : Int32)), .val (.ref w)] [(.int c2), (.int (2 : Int32)), (.ref b1), (.ref b1)])) rfl rfl (hb hby d3_69)
  rw [show nar .char c2 = c2 from own_nar la_c2] at W19
  have O20 := O14.wr W19 ge_b1
  have K21 : Keep h0 h19 [] := K15.wr W19 (Or.inr sz_b1)
  have N22 := Fr.snoc X19 N16 ge_b1
  have F19 : Arv Z h19 b1 k1 .char (3 : Int32) [(.int c0), (.int c1), (.int c2)] (.int (0 : Int32)) := Arv.set Ar19 q19 Sz19 Nn19 Hh19 Gg19 (by rw [← (own_nar la_c2 : nar .char c2 = c2)]; exact fits_nar_char _) W19 2 rfl (Nat.le_of_ble_eq_true rfl)
  have S23 : ∀ t, Steps p.tables e below (T19.setTop (mkF m 70 #[.val (.int (3 : Int32)), .val (.ref w)] [(.ref b1)])) t → Steps p.tables e below (s₁.setTop (mkF m 0 #[.val (.int (3 : Int32)), .val (.ref w)] [])) t := by
    intro t kt
    refine XS.iloadN X0.here hx rfl (hb hby d3_0) rfl ?_
    refine XS.ifYes X0.here hx rfl (pc0 := 1) (pc' := 8) rfl (hb hby d3_1) rfl ((if0 _ _).trans (feq ((by decide) : ¬ ((3 : Int32) = (0 : Int32)))).2) (by decide) (by decide) ?_
    refine XS.iloadN X0.here hx rfl (hb hby d3_8) rfl ?_
    refine XS.iconst X0.here hx rfl (hb hby d3_9) ?_
    refine XS.icmpYes X0.here hx rfl (pc0 := 10) (pc' := 23) rfl (hb hby d3_10) rfl (feq ((by decide) : ¬ ((3 : Int32) = (1 : Int32)))).2 (by decide) (by decide) ?_
    refine XS.iloadN X0.here hx rfl (hb hby d3_23) rfl ?_
    show Steps p.tables e below (s₁.setTop (mkF m 24 #[.val (.int (3 : Int32)), .val (.ref w)] [(.int (3 : Int32))])) _
    refine XS.iconst X0.here hx rfl (hb hby d3_24) ?_
    refine XS.icmpYes X0.here hx rfl (pc0 := 25) (pc' := 44) rfl (hb hby d3_25) rfl (feq ((by decide) : ¬ ((3 : Int32) = (2 : Int32)))).2 (by decide) (by decide) ?_
    refine XS.iloadN X0.here hx rfl (hb hby d3_44) rfl ?_
    refine XS.iconst X0.here hx rfl (hb hby d3_45) ?_
    refine XS.icmpNo X0.here hx rfl (hb hby d3_46) rfl (teq ((by decide) : (3 : Int32) = (3 : Int32))).2 ?_
    refine XS.iconst X0.here hx rfl (hb hby d3_49) ?_
    show Steps p.tables e below (s₁.setTop (mkF m 50 #[.val (.int (3 : Int32)), .val (.ref w)] [(.int (3 : Int32))])) _
    refine st1 _ ?_
    refine XS.dup X1.here hx rfl (hb hby d3_52) rfl rfl ?_
    refine XS.iconst X1.here hx rfl (hb hby d3_53) ?_
    refine XS.aloadN X1.here hx rfl (hb hby d3_54) rfl rfl ?_
    refine XS.iconst X1.here hx rfl (hb hby d3_55) ?_
    show Steps p.tables e below (T1.setTop (mkF m 56 #[.val (.int (3 : Int32)), .val (.ref w)] [(.int (0 : Int32)), (.ref w), (.int (0 : Int32)), (.ref b1), (.ref b1)])) _
    refine X1.caload hx (j := (0 : Int32)) (v := (.int c0)) (by rw [e1]; exact Ar6.1) (State.isArrayOf_alike hZ.alike Ar6.2.1) Ar6.2.2 in6 at6 (g := (mkF m 56 #[.val (.int (3 : Int32)), .val (.ref w)] [(.int (0 : Int32)), (.ref w), (.int (0 : Int32)), (.ref b1), (.ref b1)])) rfl rfl (hb hby d3_56) _ ?_
    show Steps p.tables e below (T1.setTop (mkF m 57 #[.val (.int (3 : Int32)), .val (.ref w)] [(.int c0), (.int (0 : Int32)), (.ref b1), (.ref b1)])) _
    refine st7 _ ?_
    refine XS.dup X7.here hx rfl (hb hby d3_58) rfl rfl ?_
    refine XS.iconst X7.here hx rfl (hb hby d3_59) ?_
    refine XS.aloadN X7.here hx rfl (hb hby d3_60) rfl rfl ?_
    refine XS.iconst X7.here hx rfl (hb hby d3_61) ?_
    show Steps p.tables e below (T7.setTop (mkF m 62 #[.val (.int (3 : Int32)), .val (.ref w)] [(.int (1 : Int32)), (.ref w), (.int (1 : Int32)), (.ref b1), (.ref b1)])) _
    refine X7.caload hx (j := (1 : Int32)) (v := (.int c1)) (by rw [e7]; exact Ar12.1) (State.isArrayOf_alike hZ.alike Ar12.2.1) Ar12.2.2 in12 at12 (g := (mkF m 62 #[.val (.int (3 : Int32)), .val (.ref w)] [(.int (1 : Int32)), (.ref w), (.int (1 : Int32)), (.ref b1), (.ref b1)])) rfl rfl (hb hby d3_62) _ ?_
    show Steps p.tables e below (T7.setTop (mkF m 63 #[.val (.int (3 : Int32)), .val (.ref w)] [(.int c1), (.int (1 : Int32)), (.ref b1), (.ref b1)])) _
    refine st13 _ ?_
    refine XS.dup X13.here hx rfl (hb hby d3_64) rfl rfl ?_
    refine XS.iconst X13.here hx rfl (hb hby d3_65) ?_
    refine XS.aloadN X13.here hx rfl (hb hby d3_66) rfl rfl ?_
    refine XS.iconst X13.here hx rfl (hb hby d3_67) ?_
    show Steps p.tables e below (T13.setTop (mkF m 68 #[.val (.int (3 : Int32)), .val (.ref w)] [(.int (2 : Int32)), (.ref w), (.int (2 : Int32)), (.ref b1), (.ref b1)])) _
    refine X13.caload hx (j := (2 : Int32)) (v := (.int c2)) (by rw [e13]; exact Ar18.1) (State.isArrayOf_alike hZ.alike Ar18.2.1) Ar18.2.2 in18 at18 (g := (mkF m 68 #[.val (.int (3 : Int32)), .val (.ref w)] [(.int (2 : Int32)), (.ref w), (.int (2 : Int32)), (.ref b1), (.ref b1)])) rfl rfl (hb hby d3_68) _ ?_
    show Steps p.tables e below (T13.setTop (mkF m 69 #[.val (.int (3 : Int32)), .val (.ref w)] [(.int c2), (.int (2 : Int32)), (.ref b1), (.ref b1)])) _
    refine st19 _ ?_
    exact kt
  obtain ⟨fs, hr, hrun, hended, hW, hsame⟩ := X19.leave (v := some (.ref b1)) (fun h => by rw [Bd.returns] at h; cases h)
  refine ⟨_, _, pre0 _ (S23 _ ?_), hrun, hended, _, _, rfl, ?_, ⟨_, rfl⟩, hW, hsame.mono (by decide) (by decide)⟩
  · exact retOut X19 hx Bd.returns rfl (Or.inr (Or.inr (Or.inr (Or.inr ⟨rfl, rfl, rfl⟩)))) (hb hby d3_70) hr
  · show Q_rm_cut3 Z w kw c0 c1 c2 c3 c4 c5 c6 h0 n0 _ T19.heap _
    rw [e19]
    exact ⟨b1, k1, rfl, N22, K21, sz_b1, F19⟩
theorem d3_71 : decode method_4_code 71 = .ok (.iload_n 0, 1) := by decide +kernel
theorem d3_72 : decode method_4_code 72 = .ok (.iconst 4, 1) := by decide +kernel
theorem d3_73 : decode method_4_code 73 = .ok (.if_icmp .ne 31, 3) := by decide +kernel
theorem d3_76 : decode method_4_code 76 = .ok (.iconst 4, 1) := by decide +kernel
theorem d3_77 : decode method_4_code 77 = .ok (.newarray .char, 2) := by decide +kernel
theorem d3_79 : decode method_4_code 79 = .ok (.dup, 1) := by decide +kernel
theorem d3_80 : decode method_4_code 80 = .ok (.iconst 0, 1) := by decide +kernel
theorem d3_81 : decode method_4_code 81 = .ok (.aload_n 1, 1) := by decide +kernel
theorem d3_82 : decode method_4_code 82 = .ok (.iconst 0, 1) := by decide +kernel
theorem d3_83 : decode method_4_code 83 = .ok (.caload, 1) := by decide +kernel
theorem d3_84 : decode method_4_code 84 = .ok (.castore, 1) := by decide +kernel
theorem d3_85 : decode method_4_code 85 = .ok (.dup, 1) := by decide +kernel
theorem d3_86 : decode method_4_code 86 = .ok (.iconst 1, 1) := by decide +kernel
theorem d3_87 : decode method_4_code 87 = .ok (.aload_n 1, 1) := by decide +kernel
theorem d3_88 : decode method_4_code 88 = .ok (.iconst 1, 1) := by decide +kernel
theorem d3_89 : decode method_4_code 89 = .ok (.caload, 1) := by decide +kernel
theorem d3_90 : decode method_4_code 90 = .ok (.castore, 1) := by decide +kernel
theorem d3_91 : decode method_4_code 91 = .ok (.dup, 1) := by decide +kernel
theorem d3_92 : decode method_4_code 92 = .ok (.iconst 2, 1) := by decide +kernel
theorem d3_93 : decode method_4_code 93 = .ok (.aload_n 1, 1) := by decide +kernel
theorem d3_94 : decode method_4_code 94 = .ok (.iconst 2, 1) := by decide +kernel
theorem d3_95 : decode method_4_code 95 = .ok (.caload, 1) := by decide +kernel
theorem d3_96 : decode method_4_code 96 = .ok (.castore, 1) := by decide +kernel
theorem d3_97 : decode method_4_code 97 = .ok (.dup, 1) := by decide +kernel
theorem d3_98 : decode method_4_code 98 = .ok (.iconst 3, 1) := by decide +kernel
theorem d3_99 : decode method_4_code 99 = .ok (.aload_n 1, 1) := by decide +kernel
theorem d3_100 : decode method_4_code 100 = .ok (.iconst 3, 1) := by decide +kernel
theorem d3_101 : decode method_4_code 101 = .ok (.caload, 1) := by decide +kernel
theorem d3_102 : decode method_4_code 102 = .ok (.castore, 1) := by decide +kernel
theorem d3_103 : decode method_4_code 103 = .ok (.areturn, 1) := by decide +kernel
theorem ef_rm_cut4 (m : MethodId) (x0 : Int32) (x1 : Addr) : entryFrame m #[(.int x0), (.ref x1)] 2 = mkF m 0 #[.val (.int x0), .val (.ref x1)] [] := by first | (simp [entryFrame, mkF, argsToLocals, Value.category]; done) | rfl
def Q_rm_cut4 (Z : State) (w : Addr) (kw : ClassId) (c0 : Int32) (c1 : Int32) (c2 : Int32) (c3 : Int32) (c4 : Int32) (c5 : Int32) (c6 : Int32) (h0 : Heap) (n0 : Nat) (v : Option Value) (h : Heap) (L : List Loc) : Prop := (∃ (r : Addr) (k : ClassId), (v = some (.ref r)) ∧ (Fr n0 L) ∧ (Keep h0 h []) ∧ (h0.size ≤ r) ∧ (Arv Z h r k .char (4 : Int32) [(.int c0), (.int c1), (.int c2), (.int c3)] (.int (0 : Int32))))
set_option maxRecDepth 65536 in
set_option maxHeartbeats 40000000 in
theorem rm_cut4 (l : Launch) (Z : State) (a0 : Array Value) (hw : ∀ d ∈ tables_1, d.before a0 Z = true) (ws : List Jvm.Cond) (w : Addr) (kw : ClassId) (c0 : Int32) (c1 : Int32) (c2 : Int32) (c3 : Int32) (c4 : Int32) (c5 : Int32) (c6 : Int32) (h0 : Heap) (n0 : Nat) (O0 : Old Z n0 h0) (A_w : Arv Z h0 w kw .char (7 : Int32) [(.int c0), (.int c1), (.int c2), (.int c3), (.int c4), (.int c5), (.int c6)] (.int (0 : Int32))) (la_c0 : ¬ (c0 < (0 : Int32)) ∧ ¬ ((255 : Int32) < c0)) (la_c1 : ¬ (c1 < (0 : Int32)) ∧ ¬ ((255 : Int32) < c1)) (la_c2 : ¬ (c2 < (0 : Int32)) ∧ ¬ ((255 : Int32) < c2)) (la_c3 : ¬ (c3 < (0 : Int32)) ∧ ¬ ((255 : Int32) < c3)) (la_c4 : ¬ (c4 < (0 : Int32)) ∧ ¬ ((255 : Int32) < c4)) (la_c5 : ¬ (c5 < (0 : Int32)) ∧ ¬ ((255 : Int32) < c5)) (la_c6 : ¬ (c6 < (0 : Int32)) ∧ ¬ ((255 : Int32) < c6)) :
    MetFree l (⟨"com/example/favonius/favonius/phrank/VariantDefaultForPinLaw", "cut", "(I[C)[C"⟩ : MethodName) (head1 (Jvm.Cond.code (⟨"com/example/favonius/favonius/phrank/VariantDefaultForPinLaw", "cut", "(I[C)[C"⟩ : MethodName) method_4_code 2 (some (.array .char)) :: ws) ({ frames := 0, cells := 1, slots := 4, locals := 0 } : Room)) (fun a U => a = #[(.int (4 : Int32)), (.ref w)] ∧ Z.Warmed39 U.vm ∧ U.heap = h0) (fun _ _ _ _ _ => True) (fun _ U o U' => ∃ v L, o = .returned v ∧ Q_rm_cut4 Z w kw c0 c1 c2 c3 c4 c5 c6 h0 n0 v U'.heap L ∧ FrameEnd U o U' L ({ frames := 0, cells := 1, slots := 4, locals := 0 } : Room).cells ({ frames := 0, cells := 1, slots := 4, locals := 0 } : Room).slots) := by
  refine MetFree.of_bodySF (plainFor_of_name pn_1) hisR ?_
  intro p e s m args below meth c s₁ Bd hml0 hP hK
  obtain ⟨rfl, hZ, hh⟩ := hP
  have hx := Bd.exec
  have hby := Bd.bytes
  have hml : c.maxLocals = 2 := hml0
  have hown : s.vm.findClass "com/example/favonius/favonius/phrank/VariantDefaultForPinLaw" = some m.cls := findClass_of_methodNamed Bd.named
  have hnm := (name_of_methodNamed Bd.named Bd.method).1
  have X0 : Stand p l e ({ frames := 0, cells := 1, slots := 4, locals := 0 } : Room) s m #[(.int (4 : Int32)), (.ref w)] below meth c s₁ [] 0 0 := Stand.of_body Bd
  have e0 : s₁.heap = h0 := by rw [← hh, Bd.state]; rfl
  have N0 := Fr.nil n0
  have hwq : ∀ d ∈ StrChars.Road.wordsEq, d.before a0 Z = true := fun d hd => hw d (own_wordsEq d hd)
  have hws : ∀ d ∈ StrChars.Road.words, d.before a0 Z = true := fun d hd => hw d (own_words d hd)
  have K0 : Keep h0 h0 [] := Keep.refl _ _
  have pre0 : ∀ t, Steps p.tables e below (s₁.setTop (mkF m 0 #[.val (.int (4 : Int32)), .val (.ref w)] [])) t → Steps p.tables e below (s₁.setTop (entryFrame m #[(.int (4 : Int32)), (.ref w)] 2)) t := fun t k => castTop (ef_rm_cut4 m (4 : Int32) w) k
  obtain ⟨T1, h1, k1, X1, e1, E1, A1, B1, st1⟩ := newPE X0 hx hZ (own_w hw 0 rfl) e0 (g := (mkF m 77 #[.val (.int (4 : Int32)), .val (.ref w)] [(.int (4 : Int32))])) rfl (hb hby d3_77) rfl (by decide) (cap := 4) (by decide) (by decide) (by decide) (by decide) (ad := "[C") (by first | rfl | decide)
  obtain ⟨b1, g1⟩ : ∃ z, z = h0.size := ⟨_, rfl⟩
  have ge_b1 : n0 ≤ b1 := by rw [g1, ← O0.1]; exact O0.2.1
  have sz_b1 : h0.size ≤ b1 := by rw [g1]; exact K0.1
  have ne2 : w ≠ b1 := Nat.ne_of_lt (Nat.lt_of_lt_of_le (Arv.lt A_w) (Nat.le_of_eq g1.symm))
  rw [← g1] at A1 B1 st1
  have O3 := O0.ext E1
  have K4 : Keep h0 h1 [] := K0.ext E1
  have F1 : Arv Z h1 b1 k1 .char (4 : Int32) [(.int (0 : Int32)), (.int (0 : Int32)), (.int (0 : Int32)), (.int (0 : Int32))] (.int (0 : Int32)) := (Arv.new A1 (by decide)).pad (pad_rep [] (.int (0 : Int32)) 4)
  have f5 := (Arv.ext A_w E1)
  obtain ⟨cl6, Ar6, q6, Sz6, Nn6, Hh6, Gg6⟩ := id f5
  have in6 : ¬ ((0 : Int32) < 0 ∨ cl6.slots.size ≤ ((0 : Int32)).toNatClampNeg) := by exact inb_of Sz6 ⟨by decide, by decide⟩
  have at6 : cl6.slots[((0 : Int32)).toNatClampNeg]? = some (.int c0) := by
    refine Has.at Hh6 in6 ?_
    rfl
  obtain ⟨cl7, Ar7, q7, Sz7, Nn7, Hh7, Gg7⟩ := id F1
  have in7 : ¬ ((0 : Int32) < 0 ∨ cl7.slots.size ≤ ((0 : Int32)).toNatClampNeg) := inb_of Sz7 ⟨by decide, by decide⟩
  obtain ⟨T7, h7, X7, e7, W7, st7⟩ := stC X1 hx hZ e1 Ar7 (j := (0 : Int32)) in7 (g := (mkF m 84 #[.val (.int (4 : Int32)), .val (.ref w)] [(.int c0), (.int (0 : Int32)), (.ref b1), (.ref b1)])) rfl rfl (hb hby d3_84)
  rw [show nar .char c0 = c0 from own_nar la_c0] at W7
  have O8 := O3.wr W7 ge_b1
  have K9 : Keep h0 h7 [] := K4.wr W7 (Or.inr sz_b1)
  have N10 := Fr.snoc X7 N0 ge_b1
  have F7 : Arv Z h7 b1 k1 .char (4 : Int32) [(.int c0), (.int (0 : Int32)), (.int (0 : Int32)), (.int (0 : Int32))] (.int (0 : Int32)) := Arv.set Ar7 q7 Sz7 Nn7 Hh7 Gg7 (by rw [← (own_nar la_c0 : nar .char c0 = c0)]; exact fits_nar_char _) W7 0 rfl (Nat.le_of_ble_eq_true rfl)
  have f11 := (Arv.other f5 W7 ne2)
  obtain ⟨cl12, Ar12, q12, Sz12, Nn12, Hh12, Gg12⟩ := id f11
  have in12 : ¬ ((1 : Int32) < 0 ∨ cl12.slots.size ≤ ((1 : Int32)).toNatClampNeg) := by exact inb_of Sz12 ⟨by decide, by decide⟩
  have at12 : cl12.slots[((1 : Int32)).toNatClampNeg]? = some (.int c1) := by
    refine Has.at Hh12 in12 ?_
    rfl
  obtain ⟨cl13, Ar13, q13, Sz13, Nn13, Hh13, Gg13⟩ := id F7
  have in13 : ¬ ((1 : Int32) < 0 ∨ cl13.slots.size ≤ ((1 : Int32)).toNatClampNeg) := inb_of Sz13 ⟨by decide, by decide⟩
  obtain ⟨T13, h13, X13, e13, W13, st13⟩ := stC X7 hx hZ e7 Ar13 (j := (1 : Int32)) in13 (g := (mkF m 90 #[.val (.int (4 : Int32)), .val (.ref w)] [(.int c1), (.int (1 : Int32)), (.ref b1), (.ref b1)])) rfl rfl (hb hby d3_90)
  rw [show nar .char c1 = c1 from own_nar la_c1] at W13
  have O14 := O8.wr W13 ge_b1
  have K15 : Keep h0 h13 [] := K9.wr W13 (Or.inr sz_b1)
  have N16 := Fr.snoc X13 N10 ge_b1
  have F13 : Arv Z h13 b1 k1 .char (4 : Int32) [(.int c0), (.int c1), (.int (0 : Int32)), (.int (0 : Int32))] (.int (0 : Int32)) := Arv.set Ar13 q13 Sz13 Nn13 Hh13 Gg13 (by rw [← (own_nar la_c1 : nar .char c1 = c1)]; exact fits_nar_char _) W13 1 rfl (Nat.le_of_ble_eq_true rfl)
  have f17 := (Arv.other f11 W13 ne2)
  obtain ⟨cl18, Ar18, q18, Sz18, Nn18, Hh18, Gg18⟩ := id f17
  have in18 : ¬ ((2 : Int32) < 0 ∨ cl18.slots.size ≤ ((2 : Int32)).toNatClampNeg) := by exact inb_of Sz18 ⟨by decide, by decide⟩
  have at18 : cl18.slots[((2 : Int32)).toNatClampNeg]? = some (.int c2) := by
    refine Has.at Hh18 in18 ?_
    rfl
  obtain ⟨cl19, Ar19, q19, Sz19, Nn19, Hh19, Gg19⟩ := id F13
  have in19 : ¬ ((2 : Int32) < 0 ∨ cl19.slots.size ≤ ((2 : Int32)).toNatClampNeg) := inb_of Sz19 ⟨by decide, by decide⟩
  obtain ⟨T19, h19, X19, e19, W19, st19⟩ := stC X13 hx hZ e13 Ar19 (j := (2 : Int32)) in19 (g := (mkF m 96 #[.val (.int (4 : Int32)), .val (.ref w)] [(.int c2), (.int (2 : Int32)), (.ref b1), (.ref b1)])) rfl rfl (hb hby d3_96)
  rw [show nar .char c2 = c2 from own_nar la_c2] at W19
  have O20 := O14.wr W19 ge_b1
  have K21 : Keep h0 h19 [] := K15.wr W19 (Or.inr sz_b1)
  have N22 := Fr.snoc X19 N16 ge_b1
  have F19 : Arv Z h19 b1 k1 .char (4 : Int32) [(.int c0), (.int c1), (.int c2), (.int (0 : Int32))] (.int (0 : Int32)) := Arv.set Ar19 q19 Sz19 Nn19 Hh19 Gg19 (by rw [← (own_nar la_c2 : nar .char c2 = c2)]; exact fits_nar_char _) W19 2 rfl (Nat.le_of_ble_eq_true rfl)
  have f23 := (Arv.other f17 W19 ne2)
  obtain ⟨cl24, Ar24, q24, Sz24, Nn24, Hh24, Gg24⟩ := id f23
  have in24 : ¬ ((3 : Int32) < 0 ∨ cl24.slots.size ≤ ((3 : Int32)).toNatClampNeg) := by exact inb_of Sz24 ⟨by decide, by decide⟩
  have at24 : cl24.slots[((3 : Int32)).toNatClampNeg]? = some (.int c3) := by
    refine Has.at Hh24 in24 ?_
    rfl
  obtain ⟨cl25, Ar25, q25, Sz25, Nn25, Hh25, Gg25⟩ := id F19
  have in25 : ¬ ((3 : Int32) < 0 ∨ cl25.slots.size ≤ ((3 : Int32)).toNatClampNeg) := inb_of Sz25 ⟨by decide, by decide⟩
  obtain ⟨T25, h25, X25, e25, W25, st25⟩ := stC X19 hx hZ e19 Ar25 (j := (3 : Int32)) in25 (g := (mkF m 102 #[.val (.int (4 : Int32)), .val (.ref w)] [(.int c3), (.int (3 : Int32)), (.ref b1), (.ref b1)])) rfl rfl (hb hby d3_102)
  rw [show nar .char c3 = c3 from own_nar la_c3] at W25
  have O26 := O20.wr W25 ge_b1
  have K27 : Keep h0 h25 [] := K21.wr W25 (Or.inr sz_b1)
  have N28 := Fr.snoc X25 N22 ge_b1
  have F25 : Arv Z h25 b1 k1 .char (4 : Int32) [(.int c0), (.int c1), (.int c2), (.int c3)] (.int (0 : Int32)) := Arv.set Ar25 q25 Sz25 Nn25 Hh25 Gg25 (by rw [← (own_nar la_c3 : nar .char c3 = c3)]; exact fits_nar_char _) W25 3 rfl (Nat.le_of_ble_eq_true rfl)
  have S29 : ∀ t, Steps p.tables e below (T25.setTop (mkF m 103 #[.val (.int (4 : Int32)), .val (.ref w)] [(.ref b1)])) t → Steps p.tables e below (s₁.setTop (mkF m 0 #[.val (.int (4 : Int32)), .val (.ref w)] [])) t := by
    intro t kt
    refine XS.iloadN X0.here hx rfl (hb hby d3_0) rfl ?_
    refine XS.ifYes X0.here hx rfl (pc0 := 1) (pc' := 8) rfl (hb hby d3_1) rfl ((if0 _ _).trans (feq ((by decide) : ¬ ((4 : Int32) = (0 : Int32)))).2) (by decide) (by decide) ?_
    refine XS.iloadN X0.here hx rfl (hb hby d3_8) rfl ?_
    refine XS.iconst X0.here hx rfl (hb hby d3_9) ?_
    refine XS.icmpYes X0.here hx rfl (pc0 := 10) (pc' := 23) rfl (hb hby d3_10) rfl (feq ((by decide) : ¬ ((4 : Int32) = (1 : Int32)))).2 (by decide) (by decide) ?_
    refine XS.iloadN X0.here hx rfl (hb hby d3_23) rfl ?_
    show Steps p.tables e below (s₁.setTop (mkF m 24 #[.val (.int (4 : Int32)), .val (.ref w)] [(.int (4 : Int32))])) _
    refine XS.iconst X0.here hx rfl (hb hby d3_24) ?_
    refine XS.icmpYes X0.here hx rfl (pc0 := 25) (pc' := 44) rfl (hb hby d3_25) rfl (feq ((by decide) : ¬ ((4 : Int32) = (2 : Int32)))).2 (by decide) (by decide) ?_
    refine XS.iloadN X0.here hx rfl (hb hby d3_44) rfl ?_
    refine XS.iconst X0.here hx rfl (hb hby d3_45) ?_
    refine XS.icmpYes X0.here hx rfl (pc0 := 46) (pc' := 71) rfl (hb hby d3_46) rfl (feq ((by decide) : ¬ ((4 : Int32) = (3 : Int32)))).2 (by decide) (by decide) ?_
    refine XS.iloadN X0.here hx rfl (hb hby d3_71) rfl ?_
    show Steps p.tables e below (s₁.setTop (mkF m 72 #[.val (.int (4 : Int32)), .val (.ref w)] [(.int (4 : Int32))])) _
    refine XS.iconst X0.here hx rfl (hb hby d3_72) ?_
    refine XS.icmpNo X0.here hx rfl (hb hby d3_73) rfl (teq ((by decide) : (4 : Int32) = (4 : Int32))).2 ?_
    refine XS.iconst X0.here hx rfl (hb hby d3_76) ?_
    show Steps p.tables e below (s₁.setTop (mkF m 77 #[.val (.int (4 : Int32)), .val (.ref w)] [(.int (4 : Int32))])) _
    refine st1 _ ?_
    refine XS.dup X1.here hx rfl (hb hby d3_79) rfl rfl ?_
    refine XS.iconst X1.here hx rfl (hb hby d3_80) ?_
    refine XS.aloadN X1.here hx rfl (hb hby d3_81) rfl rfl ?_
    refine XS.iconst X1.here hx rfl (hb hby d3_82) ?_
    show Steps p.tables e below (T1.setTop (mkF m 83 #[.val (.int (4 : Int32)), .val (.ref w)] [(.int (0 : Int32)), (.ref w), (.int (0 : Int32)), (.ref b1), (.ref b1)])) _
    refine X1.caload hx (j := (0 : Int32)) (v := (.int c0)) (by rw [e1]; exact Ar6.1) (State.isArrayOf_alike hZ.alike Ar6.2.1) Ar6.2.2 in6 at6 (g := (mkF m 83 #[.val (.int (4 : Int32)), .val (.ref w)] [(.int (0 : Int32)), (.ref w), (.int (0 : Int32)), (.ref b1), (.ref b1)])) rfl rfl (hb hby d3_83) _ ?_
    show Steps p.tables e below (T1.setTop (mkF m 84 #[.val (.int (4 : Int32)), .val (.ref w)] [(.int c0), (.int (0 : Int32)), (.ref b1), (.ref b1)])) _
    refine st7 _ ?_
    refine XS.dup X7.here hx rfl (hb hby d3_85) rfl rfl ?_
    refine XS.iconst X7.here hx rfl (hb hby d3_86) ?_
    refine XS.aloadN X7.here hx rfl (hb hby d3_87) rfl rfl ?_
    refine XS.iconst X7.here hx rfl (hb hby d3_88) ?_
    show Steps p.tables e below (T7.setTop (mkF m 89 #[.val (.int (4 : Int32)), .val (.ref w)] [(.int (1 : Int32)), (.ref w), (.int (1 : Int32)), (.ref b1), (.ref b1)])) _
    refine X7.caload hx (j := (1 : Int32)) (v := (.int c1)) (by rw [e7]; exact Ar12.1) (State.isArrayOf_alike hZ.alike Ar12.2.1) Ar12.2.2 in12 at12 (g := (mkF m 89 #[.val (.int (4 : Int32)), .val (.ref w)] [(.int (1 : Int32)), (.ref w), (.int (1 : Int32)), (.ref b1), (.ref b1)])) rfl rfl (hb hby d3_89) _ ?_
    show Steps p.tables e below (T7.setTop (mkF m 90 #[.val (.int (4 : Int32)), .val (.ref w)] [(.int c1), (.int (1 : Int32)), (.ref b1), (.ref b1)])) _
    refine st13 _ ?_
    refine XS.dup X13.here hx rfl (hb hby d3_91) rfl rfl ?_
    refine XS.iconst X13.here hx rfl (hb hby d3_92) ?_
    refine XS.aloadN X13.here hx rfl (hb hby d3_93) rfl rfl ?_
    refine XS.iconst X13.here hx rfl (hb hby d3_94) ?_
    show Steps p.tables e below (T13.setTop (mkF m 95 #[.val (.int (4 : Int32)), .val (.ref w)] [(.int (2 : Int32)), (.ref w), (.int (2 : Int32)), (.ref b1), (.ref b1)])) _
    refine X13.caload hx (j := (2 : Int32)) (v := (.int c2)) (by rw [e13]; exact Ar18.1) (State.isArrayOf_alike hZ.alike Ar18.2.1) Ar18.2.2 in18 at18 (g := (mkF m 95 #[.val (.int (4 : Int32)), .val (.ref w)] [(.int (2 : Int32)), (.ref w), (.int (2 : Int32)), (.ref b1), (.ref b1)])) rfl rfl (hb hby d3_95) _ ?_
    show Steps p.tables e below (T13.setTop (mkF m 96 #[.val (.int (4 : Int32)), .val (.ref w)] [(.int c2), (.int (2 : Int32)), (.ref b1), (.ref b1)])) _
    refine st19 _ ?_
    refine XS.dup X19.here hx rfl (hb hby d3_97) rfl rfl ?_
    refine XS.iconst X19.here hx rfl (hb hby d3_98) ?_
    refine XS.aloadN X19.here hx rfl (hb hby d3_99) rfl rfl ?_
    refine XS.iconst X19.here hx rfl (hb hby d3_100) ?_
    show Steps p.tables e below (T19.setTop (mkF m 101 #[.val (.int (4 : Int32)), .val (.ref w)] [(.int (3 : Int32)), (.ref w), (.int (3 : Int32)), (.ref b1), (.ref b1)])) _
    refine X19.caload hx (j := (3 : Int32)) (v := (.int c3)) (by rw [e19]; exact Ar24.1) (State.isArrayOf_alike hZ.alike Ar24.2.1) Ar24.2.2 in24 at24 (g := (mkF m 101 #[.val (.int (4 : Int32)), .val (.ref w)] [(.int (3 : Int32)), (.ref w), (.int (3 : Int32)), (.ref b1), (.ref b1)])) rfl rfl (hb hby d3_101) _ ?_
    show Steps p.tables e below (T19.setTop (mkF m 102 #[.val (.int (4 : Int32)), .val (.ref w)] [(.int c3), (.int (3 : Int32)), (.ref b1), (.ref b1)])) _
    refine st25 _ ?_
    exact kt
  obtain ⟨fs, hr, hrun, hended, hW, hsame⟩ := X25.leave (v := some (.ref b1)) (fun h => by rw [Bd.returns] at h; cases h)
  refine ⟨_, _, pre0 _ (S29 _ ?_), hrun, hended, _, _, rfl, ?_, ⟨_, rfl⟩, hW, hsame.mono (by decide) (by decide)⟩
  · exact retOut X25 hx Bd.returns rfl (Or.inr (Or.inr (Or.inr (Or.inr ⟨rfl, rfl, rfl⟩)))) (hb hby d3_103) hr
  · show Q_rm_cut4 Z w kw c0 c1 c2 c3 c4 c5 c6 h0 n0 _ T25.heap _
    rw [e25]
    exact ⟨b1, k1, rfl, N28, K27, sz_b1, F25⟩
theorem d3_104 : decode method_4_code 104 = .ok (.iload_n 0, 1) := by decide +kernel
theorem d3_105 : decode method_4_code 105 = .ok (.iconst 5, 1) := by decide +kernel
theorem d3_106 : decode method_4_code 106 = .ok (.if_icmp .ne 37, 3) := by decide +kernel
theorem d3_109 : decode method_4_code 109 = .ok (.iconst 5, 1) := by decide +kernel
theorem d3_110 : decode method_4_code 110 = .ok (.newarray .char, 2) := by decide +kernel
theorem d3_112 : decode method_4_code 112 = .ok (.dup, 1) := by decide +kernel
theorem d3_113 : decode method_4_code 113 = .ok (.iconst 0, 1) := by decide +kernel
theorem d3_114 : decode method_4_code 114 = .ok (.aload_n 1, 1) := by decide +kernel
theorem d3_115 : decode method_4_code 115 = .ok (.iconst 0, 1) := by decide +kernel
theorem d3_116 : decode method_4_code 116 = .ok (.caload, 1) := by decide +kernel
theorem d3_117 : decode method_4_code 117 = .ok (.castore, 1) := by decide +kernel
theorem d3_118 : decode method_4_code 118 = .ok (.dup, 1) := by decide +kernel
theorem d3_119 : decode method_4_code 119 = .ok (.iconst 1, 1) := by decide +kernel
theorem d3_120 : decode method_4_code 120 = .ok (.aload_n 1, 1) := by decide +kernel
theorem d3_121 : decode method_4_code 121 = .ok (.iconst 1, 1) := by decide +kernel
theorem d3_122 : decode method_4_code 122 = .ok (.caload, 1) := by decide +kernel
theorem d3_123 : decode method_4_code 123 = .ok (.castore, 1) := by decide +kernel
theorem d3_124 : decode method_4_code 124 = .ok (.dup, 1) := by decide +kernel
theorem d3_125 : decode method_4_code 125 = .ok (.iconst 2, 1) := by decide +kernel
theorem d3_126 : decode method_4_code 126 = .ok (.aload_n 1, 1) := by decide +kernel
theorem d3_127 : decode method_4_code 127 = .ok (.iconst 2, 1) := by decide +kernel
theorem d3_128 : decode method_4_code 128 = .ok (.caload, 1) := by decide +kernel
theorem d3_129 : decode method_4_code 129 = .ok (.castore, 1) := by decide +kernel
theorem d3_130 : decode method_4_code 130 = .ok (.dup, 1) := by decide +kernel
theorem d3_131 : decode method_4_code 131 = .ok (.iconst 3, 1) := by decide +kernel
theorem d3_132 : decode method_4_code 132 = .ok (.aload_n 1, 1) := by decide +kernel
theorem d3_133 : decode method_4_code 133 = .ok (.iconst 3, 1) := by decide +kernel
theorem d3_134 : decode method_4_code 134 = .ok (.caload, 1) := by decide +kernel
theorem d3_135 : decode method_4_code 135 = .ok (.castore, 1) := by decide +kernel
theorem d3_136 : decode method_4_code 136 = .ok (.dup, 1) := by decide +kernel
theorem d3_137 : decode method_4_code 137 = .ok (.iconst 4, 1) := by decide +kernel
theorem d3_138 : decode method_4_code 138 = .ok (.aload_n 1, 1) := by decide +kernel
theorem d3_139 : decode method_4_code 139 = .ok (.iconst 4, 1) := by decide +kernel
theorem d3_140 : decode method_4_code 140 = .ok (.caload, 1) := by decide +kernel
theorem d3_141 : decode method_4_code 141 = .ok (.castore, 1) := by decide +kernel
theorem d3_142 : decode method_4_code 142 = .ok (.areturn, 1) := by decide +kernel
theorem ef_rm_cut5 (m : MethodId) (x0 : Int32) (x1 : Addr) : entryFrame m #[(.int x0), (.ref x1)] 2 = mkF m 0 #[.val (.int x0), .val (.ref x1)] [] := by first | (simp [entryFrame, mkF, argsToLocals, Value.category]; done) | rfl
def Q_rm_cut5 (Z : State) (w : Addr) (kw : ClassId) (c0 : Int32) (c1 : Int32) (c2 : Int32) (c3 : Int32) (c4 : Int32) (c5 : Int32) (c6 : Int32) (h0 : Heap) (n0 : Nat) (v : Option Value) (h : Heap) (L : List Loc) : Prop := (∃ (r : Addr) (k : ClassId), (v = some (.ref r)) ∧ (Fr n0 L) ∧ (Keep h0 h []) ∧ (h0.size ≤ r) ∧ (Arv Z h r k .char (5 : Int32) [(.int c0), (.int c1), (.int c2), (.int c3), (.int c4)] (.int (0 : Int32))))
set_option maxRecDepth 65536 in
set_option maxHeartbeats 40000000 in
theorem rm_cut5 (l : Launch) (Z : State) (a0 : Array Value) (hw : ∀ d ∈ tables_1, d.before a0 Z = true) (ws : List Jvm.Cond) (w : Addr) (kw : ClassId) (c0 : Int32) (c1 : Int32) (c2 : Int32) (c3 : Int32) (c4 : Int32) (c5 : Int32) (c6 : Int32) (h0 : Heap) (n0 : Nat) (O0 : Old Z n0 h0) (A_w : Arv Z h0 w kw .char (7 : Int32) [(.int c0), (.int c1), (.int c2), (.int c3), (.int c4), (.int c5), (.int c6)] (.int (0 : Int32))) (la_c0 : ¬ (c0 < (0 : Int32)) ∧ ¬ ((255 : Int32) < c0)) (la_c1 : ¬ (c1 < (0 : Int32)) ∧ ¬ ((255 : Int32) < c1)) (la_c2 : ¬ (c2 < (0 : Int32)) ∧ ¬ ((255 : Int32) < c2)) (la_c3 : ¬ (c3 < (0 : Int32)) ∧ ¬ ((255 : Int32) < c3)) (la_c4 : ¬ (c4 < (0 : Int32)) ∧ ¬ ((255 : Int32) < c4)) (la_c5 : ¬ (c5 < (0 : Int32)) ∧ ¬ ((255 : Int32) < c5)) (la_c6 : ¬ (c6 < (0 : Int32)) ∧ ¬ ((255 : Int32) < c6)) :
    MetFree l (⟨"com/example/favonius/favonius/phrank/VariantDefaultForPinLaw", "cut", "(I[C)[C"⟩ : MethodName) (head1 (Jvm.Cond.code (⟨"com/example/favonius/favonius/phrank/VariantDefaultForPinLaw", "cut", "(I[C)[C"⟩ : MethodName) method_4_code 2 (some (.array .char)) :: ws) ({ frames := 0, cells := 1, slots := 5, locals := 0 } : Room)) (fun a U => a = #[(.int (5 : Int32)), (.ref w)] ∧ Z.Warmed39 U.vm ∧ U.heap = h0) (fun _ _ _ _ _ => True) (fun _ U o U' => ∃ v L, o = .returned v ∧ Q_rm_cut5 Z w kw c0 c1 c2 c3 c4 c5 c6 h0 n0 v U'.heap L ∧ FrameEnd U o U' L ({ frames := 0, cells := 1, slots := 5, locals := 0 } : Room).cells ({ frames := 0, cells := 1, slots := 5, locals := 0 } : Room).slots) := by
  refine MetFree.of_bodySF (plainFor_of_name pn_1) hisR ?_
  intro p e s m args below meth c s₁ Bd hml0 hP hK
  obtain ⟨rfl, hZ, hh⟩ := hP
  have hx := Bd.exec
  have hby := Bd.bytes
  have hml : c.maxLocals = 2 := hml0
  have hown : s.vm.findClass "com/example/favonius/favonius/phrank/VariantDefaultForPinLaw" = some m.cls := findClass_of_methodNamed Bd.named
  have hnm := (name_of_methodNamed Bd.named Bd.method).1
  have X0 : Stand p l e ({ frames := 0, cells := 1, slots := 5, locals := 0 } : Room) s m #[(.int (5 : Int32)), (.ref w)] below meth c s₁ [] 0 0 := Stand.of_body Bd
  have e0 : s₁.heap = h0 := by rw [← hh, Bd.state]; rfl
  have N0 := Fr.nil n0
  have hwq : ∀ d ∈ StrChars.Road.wordsEq, d.before a0 Z = true := fun d hd => hw d (own_wordsEq d hd)
  have hws : ∀ d ∈ StrChars.Road.words, d.before a0 Z = true := fun d hd => hw d (own_words d hd)
  have K0 : Keep h0 h0 [] := Keep.refl _ _
  have pre0 : ∀ t, Steps p.tables e below (s₁.setTop (mkF m 0 #[.val (.int (5 : Int32)), .val (.ref w)] [])) t → Steps p.tables e below (s₁.setTop (entryFrame m #[(.int (5 : Int32)), (.ref w)] 2)) t := fun t k => castTop (ef_rm_cut5 m (5 : Int32) w) k
  obtain ⟨T1, h1, k1, X1, e1, E1, A1, B1, st1⟩ := newPE X0 hx hZ (own_w hw 0 rfl) e0 (g := (mkF m 110 #[.val (.int (5 : Int32)), .val (.ref w)] [(.int (5 : Int32))])) rfl (hb hby d3_110) rfl (by decide) (cap := 5) (by decide) (by decide) (by decide) (by decide) (ad := "[C") (by first | rfl | decide)
  obtain ⟨b1, g1⟩ : ∃ z, z = h0.size := ⟨_, rfl⟩
  have ge_b1 : n0 ≤ b1 := by rw [g1, ← O0.1]; exact O0.2.1
  have sz_b1 : h0.size ≤ b1 := by rw [g1]; exact K0.1
  have ne2 : w ≠ b1 := Nat.ne_of_lt (Nat.lt_of_lt_of_le (Arv.lt A_w) (Nat.le_of_eq g1.symm))
  rw [← g1] at A1 B1 st1
  have O3 := O0.ext E1
  have K4 : Keep h0 h1 [] := K0.ext E1
  have F1 : Arv Z h1 b1 k1 .char (5 : Int32) [(.int (0 : Int32)), (.int (0 : Int32)), (.int (0 : Int32)), (.int (0 : Int32)), (.int (0 : Int32))] (.int (0 : Int32)) := (Arv.new A1 (by decide)).pad (pad_rep [] (.int (0 : Int32)) 5)
  have f5 := (Arv.ext A_w E1)
  obtain ⟨cl6, Ar6, q6, Sz6, Nn6, Hh6, Gg6⟩ := id f5
  have in6 : ¬ ((0 : Int32) < 0 ∨ cl6.slots.size ≤ ((0 : Int32)).toNatClampNeg) := by exact inb_of Sz6 ⟨by decide, by decide⟩
  have at6 : cl6.slots[((0 : Int32)).toNatClampNeg]? = some (.int c0) := by
    refine Has.at Hh6 in6 ?_
    rfl
  obtain ⟨cl7, Ar7, q7, Sz7, Nn7, Hh7, Gg7⟩ := id F1
  have in7 : ¬ ((0 : Int32) < 0 ∨ cl7.slots.size ≤ ((0 : Int32)).toNatClampNeg) := inb_of Sz7 ⟨by decide, by decide⟩
  obtain ⟨T7, h7, X7, e7, W7, st7⟩ := stC X1 hx hZ e1 Ar7 (j := (0 : Int32)) in7 (g := (mkF m 117 #[.val (.int (5 : Int32)), .val (.ref w)] [(.int c0), (.int (0 : Int32)), (.ref b1), (.ref b1)])) rfl rfl (hb hby d3_117)
  rw [show nar .char c0 = c0 from own_nar la_c0] at W7
  have O8 := O3.wr W7 ge_b1
  have K9 : Keep h0 h7 [] := K4.wr W7 (Or.inr sz_b1)
  have N10 := Fr.snoc X7 N0 ge_b1
  have F7 : Arv Z h7 b1 k1 .char (5 : Int32) [(.int c0), (.int (0 : Int32)), (.int (0 : Int32)), (.int (0 : Int32)), (.int (0 : Int32))] (.int (0 : Int32)) := Arv.set Ar7 q7 Sz7 Nn7 Hh7 Gg7 (by rw [← (own_nar la_c0 : nar .char c0 = c0)]; exact fits_nar_char _) W7 0 rfl (Nat.le_of_ble_eq_true rfl)
  have f11 := (Arv.other f5 W7 ne2)
  obtain ⟨cl12, Ar12, q12, Sz12, Nn12, Hh12, Gg12⟩ := id f11
  have in12 : ¬ ((1 : Int32) < 0 ∨ cl12.slots.size ≤ ((1 : Int32)).toNatClampNeg) := by exact inb_of Sz12 ⟨by decide, by decide⟩
  have at12 : cl12.slots[((1 : Int32)).toNatClampNeg]? = some (.int c1) := by
    refine Has.at Hh12 in12 ?_
    rfl
  obtain ⟨cl13, Ar13, q13, Sz13, Nn13, Hh13, Gg13⟩ := id F7
  have in13 : ¬ ((1 : Int32) < 0 ∨ cl13.slots.size ≤ ((1 : Int32)).toNatClampNeg) := inb_of Sz13 ⟨by decide, by decide⟩
  obtain ⟨T13, h13, X13, e13, W13, st13⟩ := stC X7 hx hZ e7 Ar13 (j := (1 : Int32)) in13 (g := (mkF m 123 #[.val (.int (5 : Int32)), .val (.ref w)] [(.int c1), (.int (1 : Int32)), (.ref b1), (.ref b1)])) rfl rfl (hb hby d3_123)
  rw [show nar .char c1 = c1 from own_nar la_c1] at W13
  have O14 := O8.wr W13 ge_b1
  have K15 : Keep h0 h13 [] := K9.wr W13 (Or.inr sz_b1)
  have N16 := Fr.snoc X13 N10 ge_b1
  have F13 : Arv Z h13 b1 k1 .char (5 : Int32) [(.int c0), (.int c1), (.int (0 : Int32)), (.int (0 : Int32)), (.int (0 : Int32))] (.int (0 : Int32)) := Arv.set Ar13 q13 Sz13 Nn13 Hh13 Gg13 (by rw [← (own_nar la_c1 : nar .char c1 = c1)]; exact fits_nar_char _) W13 1 rfl (Nat.le_of_ble_eq_true rfl)
  have f17 := (Arv.other f11 W13 ne2)
  obtain ⟨cl18, Ar18, q18, Sz18, Nn18, Hh18, Gg18⟩ := id f17
  have in18 : ¬ ((2 : Int32) < 0 ∨ cl18.slots.size ≤ ((2 : Int32)).toNatClampNeg) := by exact inb_of Sz18 ⟨by decide, by decide⟩
  have at18 : cl18.slots[((2 : Int32)).toNatClampNeg]? = some (.int c2) := by
    refine Has.at Hh18 in18 ?_
    rfl
  obtain ⟨cl19, Ar19, q19, Sz19, Nn19, Hh19, Gg19⟩ := id F13
  have in19 : ¬ ((2 : Int32) < 0 ∨ cl19.slots.size ≤ ((2 : Int32)).toNatClampNeg) := inb_of Sz19 ⟨by decide, by decide⟩
  obtain ⟨T19, h19, X19, e19, W19, st19⟩ := stC X13 hx hZ e13 Ar19 (j := (2 : Int32)) in19 (g := (mkF m 129 #[.val (.int (5 : Int32)), .val (.ref w)] [(.int c2), (.int (2 : Int32)), (.ref b1), (.ref b1)])) rfl rfl (hb hby d3_129)
  rw [show nar .char c2 = c2 from own_nar la_c2] at W19
  have O20 := O14.wr W19 ge_b1
  have K21 : Keep h0 h19 [] := K15.wr W19 (Or.inr sz_b1)
  have N22 := Fr.snoc X19 N16 ge_b1
  have F19 : Arv Z h19 b1 k1 .char (5 : Int32) [(.int c0), (.int c1), (.int c2), (.int (0 : Int32)), (.int (0 : Int32))] (.int (0 : Int32)) := Arv.set Ar19 q19 Sz19 Nn19 Hh19 Gg19 (by rw [← (own_nar la_c2 : nar .char c2 = c2)]; exact fits_nar_char _) W19 2 rfl (Nat.le_of_ble_eq_true rfl)
  have f23 := (Arv.other f17 W19 ne2)
  obtain ⟨cl24, Ar24, q24, Sz24, Nn24, Hh24, Gg24⟩ := id f23
  have in24 : ¬ ((3 : Int32) < 0 ∨ cl24.slots.size ≤ ((3 : Int32)).toNatClampNeg) := by exact inb_of Sz24 ⟨by decide, by decide⟩
  have at24 : cl24.slots[((3 : Int32)).toNatClampNeg]? = some (.int c3) := by
    refine Has.at Hh24 in24 ?_
    rfl
  obtain ⟨cl25, Ar25, q25, Sz25, Nn25, Hh25, Gg25⟩ := id F19
  have in25 : ¬ ((3 : Int32) < 0 ∨ cl25.slots.size ≤ ((3 : Int32)).toNatClampNeg) := inb_of Sz25 ⟨by decide, by decide⟩
  obtain ⟨T25, h25, X25, e25, W25, st25⟩ := stC X19 hx hZ e19 Ar25 (j := (3 : Int32)) in25 (g := (mkF m 135 #[.val (.int (5 : Int32)), .val (.ref w)] [(.int c3), (.int (3 : Int32)), (.ref b1), (.ref b1)])) rfl rfl (hb hby d3_135)
  rw [show nar .char c3 = c3 from own_nar la_c3] at W25
  have O26 := O20.wr W25 ge_b1
  have K27 : Keep h0 h25 [] := K21.wr W25 (Or.inr sz_b1)
  have N28 := Fr.snoc X25 N22 ge_b1
  have F25 : Arv Z h25 b1 k1 .char (5 : Int32) [(.int c0), (.int c1), (.int c2), (.int c3), (.int (0 : Int32))] (.int (0 : Int32)) := Arv.set Ar25 q25 Sz25 Nn25 Hh25 Gg25 (by rw [← (own_nar la_c3 : nar .char c3 = c3)]; exact fits_nar_char _) W25 3 rfl (Nat.le_of_ble_eq_true rfl)
  have f29 := (Arv.other f23 W25 ne2)
  obtain ⟨cl30, Ar30, q30, Sz30, Nn30, Hh30, Gg30⟩ := id f29
  have in30 : ¬ ((4 : Int32) < 0 ∨ cl30.slots.size ≤ ((4 : Int32)).toNatClampNeg) := by exact inb_of Sz30 ⟨by decide, by decide⟩
  have at30 : cl30.slots[((4 : Int32)).toNatClampNeg]? = some (.int c4) := by
    refine Has.at Hh30 in30 ?_
    rfl
  obtain ⟨cl31, Ar31, q31, Sz31, Nn31, Hh31, Gg31⟩ := id F25
  have in31 : ¬ ((4 : Int32) < 0 ∨ cl31.slots.size ≤ ((4 : Int32)).toNatClampNeg) := inb_of Sz31 ⟨by decide, by decide⟩
  obtain ⟨T31, h31, X31, e31, W31, st31⟩ := stC X25 hx hZ e25 Ar31 (j := (4 : Int32)) in31 (g := (mkF m 141 #[.val (.int (5 : Int32)), .val (.ref w)] [(.int c4), (.int (4 : Int32)), (.ref b1), (.ref b1)])) rfl rfl (hb hby d3_141)
  rw [show nar .char c4 = c4 from own_nar la_c4] at W31
  have O32 := O26.wr W31 ge_b1
  have K33 : Keep h0 h31 [] := K27.wr W31 (Or.inr sz_b1)
  have N34 := Fr.snoc X31 N28 ge_b1
  have F31 : Arv Z h31 b1 k1 .char (5 : Int32) [(.int c0), (.int c1), (.int c2), (.int c3), (.int c4)] (.int (0 : Int32)) := Arv.set Ar31 q31 Sz31 Nn31 Hh31 Gg31 (by rw [← (own_nar la_c4 : nar .char c4 = c4)]; exact fits_nar_char _) W31 4 rfl (Nat.le_of_ble_eq_true rfl)
  have S35 : ∀ t, Steps p.tables e below (T31.setTop (mkF m 142 #[.val (.int (5 : Int32)), .val (.ref w)] [(.ref b1)])) t → Steps p.tables e below (s₁.setTop (mkF m 0 #[.val (.int (5 : Int32)), .val (.ref w)] [])) t := by
    intro t kt
    refine XS.iloadN X0.here hx rfl (hb hby d3_0) rfl ?_
    refine XS.ifYes X0.here hx rfl (pc0 := 1) (pc' := 8) rfl (hb hby d3_1) rfl ((if0 _ _).trans (feq ((by decide) : ¬ ((5 : Int32) = (0 : Int32)))).2) (by decide) (by decide) ?_
    refine XS.iloadN X0.here hx rfl (hb hby d3_8) rfl ?_
    refine XS.iconst X0.here hx rfl (hb hby d3_9) ?_
    refine XS.icmpYes X0.here hx rfl (pc0 := 10) (pc' := 23) rfl (hb hby d3_10) rfl (feq ((by decide) : ¬ ((5 : Int32) = (1 : Int32)))).2 (by decide) (by decide) ?_
    refine XS.iloadN X0.here hx rfl (hb hby d3_23) rfl ?_
    show Steps p.tables e below (s₁.setTop (mkF m 24 #[.val (.int (5 : Int32)), .val (.ref w)] [(.int (5 : Int32))])) _
    refine XS.iconst X0.here hx rfl (hb hby d3_24) ?_
    refine XS.icmpYes X0.here hx rfl (pc0 := 25) (pc' := 44) rfl (hb hby d3_25) rfl (feq ((by decide) : ¬ ((5 : Int32) = (2 : Int32)))).2 (by decide) (by decide) ?_
    refine XS.iloadN X0.here hx rfl (hb hby d3_44) rfl ?_
    refine XS.iconst X0.here hx rfl (hb hby d3_45) ?_
    refine XS.icmpYes X0.here hx rfl (pc0 := 46) (pc' := 71) rfl (hb hby d3_46) rfl (feq ((by decide) : ¬ ((5 : Int32) = (3 : Int32)))).2 (by decide) (by decide) ?_
    refine XS.iloadN X0.here hx rfl (hb hby d3_71) rfl ?_
    show Steps p.tables e below (s₁.setTop (mkF m 72 #[.val (.int (5 : Int32)), .val (.ref w)] [(.int (5 : Int32))])) _
    refine XS.iconst X0.here hx rfl (hb hby d3_72) ?_
    refine XS.icmpYes X0.here hx rfl (pc0 := 73) (pc' := 104) rfl (hb hby d3_73) rfl (feq ((by decide) : ¬ ((5 : Int32) = (4 : Int32)))).2 (by decide) (by decide) ?_
    refine XS.iloadN X0.here hx rfl (hb hby d3_104) rfl ?_
    refine XS.iconst X0.here hx rfl (hb hby d3_105) ?_
    refine XS.icmpNo X0.here hx rfl (hb hby d3_106) rfl (teq ((by decide) : (5 : Int32) = (5 : Int32))).2 ?_
    refine XS.iconst X0.here hx rfl (hb hby d3_109) ?_
    show Steps p.tables e below (s₁.setTop (mkF m 110 #[.val (.int (5 : Int32)), .val (.ref w)] [(.int (5 : Int32))])) _
    refine st1 _ ?_
    refine XS.dup X1.here hx rfl (hb hby d3_112) rfl rfl ?_
    refine XS.iconst X1.here hx rfl (hb hby d3_113) ?_
    refine XS.aloadN X1.here hx rfl (hb hby d3_114) rfl rfl ?_
    refine XS.iconst X1.here hx rfl (hb hby d3_115) ?_
    show Steps p.tables e below (T1.setTop (mkF m 116 #[.val (.int (5 : Int32)), .val (.ref w)] [(.int (0 : Int32)), (.ref w), (.int (0 : Int32)), (.ref b1), (.ref b1)])) _
    refine X1.caload hx (j := (0 : Int32)) (v := (.int c0)) (by rw [e1]; exact Ar6.1) (State.isArrayOf_alike hZ.alike Ar6.2.1) Ar6.2.2 in6 at6 (g := (mkF m 116 #[.val (.int (5 : Int32)), .val (.ref w)] [(.int (0 : Int32)), (.ref w), (.int (0 : Int32)), (.ref b1), (.ref b1)])) rfl rfl (hb hby d3_116) _ ?_
    show Steps p.tables e below (T1.setTop (mkF m 117 #[.val (.int (5 : Int32)), .val (.ref w)] [(.int c0), (.int (0 : Int32)), (.ref b1), (.ref b1)])) _
    refine st7 _ ?_
    refine XS.dup X7.here hx rfl (hb hby d3_118) rfl rfl ?_
    refine XS.iconst X7.here hx rfl (hb hby d3_119) ?_
    refine XS.aloadN X7.here hx rfl (hb hby d3_120) rfl rfl ?_
    refine XS.iconst X7.here hx rfl (hb hby d3_121) ?_
    show Steps p.tables e below (T7.setTop (mkF m 122 #[.val (.int (5 : Int32)), .val (.ref w)] [(.int (1 : Int32)), (.ref w), (.int (1 : Int32)), (.ref b1), (.ref b1)])) _
    refine X7.caload hx (j := (1 : Int32)) (v := (.int c1)) (by rw [e7]; exact Ar12.1) (State.isArrayOf_alike hZ.alike Ar12.2.1) Ar12.2.2 in12 at12 (g := (mkF m 122 #[.val (.int (5 : Int32)), .val (.ref w)] [(.int (1 : Int32)), (.ref w), (.int (1 : Int32)), (.ref b1), (.ref b1)])) rfl rfl (hb hby d3_122) _ ?_
    show Steps p.tables e below (T7.setTop (mkF m 123 #[.val (.int (5 : Int32)), .val (.ref w)] [(.int c1), (.int (1 : Int32)), (.ref b1), (.ref b1)])) _
    refine st13 _ ?_
    refine XS.dup X13.here hx rfl (hb hby d3_124) rfl rfl ?_
    refine XS.iconst X13.here hx rfl (hb hby d3_125) ?_
    refine XS.aloadN X13.here hx rfl (hb hby d3_126) rfl rfl ?_
    refine XS.iconst X13.here hx rfl (hb hby d3_127) ?_
    show Steps p.tables e below (T13.setTop (mkF m 128 #[.val (.int (5 : Int32)), .val (.ref w)] [(.int (2 : Int32)), (.ref w), (.int (2 : Int32)), (.ref b1), (.ref b1)])) _
    refine X13.caload hx (j := (2 : Int32)) (v := (.int c2)) (by rw [e13]; exact Ar18.1) (State.isArrayOf_alike hZ.alike Ar18.2.1) Ar18.2.2 in18 at18 (g := (mkF m 128 #[.val (.int (5 : Int32)), .val (.ref w)] [(.int (2 : Int32)), (.ref w), (.int (2 : Int32)), (.ref b1), (.ref b1)])) rfl rfl (hb hby d3_128) _ ?_
    show Steps p.tables e below (T13.setTop (mkF m 129 #[.val (.int (5 : Int32)), .val (.ref w)] [(.int c2), (.int (2 : Int32)), (.ref b1), (.ref b1)])) _
    refine st19 _ ?_
    refine XS.dup X19.here hx rfl (hb hby d3_130) rfl rfl ?_
    refine XS.iconst X19.here hx rfl (hb hby d3_131) ?_
    refine XS.aloadN X19.here hx rfl (hb hby d3_132) rfl rfl ?_
    refine XS.iconst X19.here hx rfl (hb hby d3_133) ?_
    show Steps p.tables e below (T19.setTop (mkF m 134 #[.val (.int (5 : Int32)), .val (.ref w)] [(.int (3 : Int32)), (.ref w), (.int (3 : Int32)), (.ref b1), (.ref b1)])) _
    refine X19.caload hx (j := (3 : Int32)) (v := (.int c3)) (by rw [e19]; exact Ar24.1) (State.isArrayOf_alike hZ.alike Ar24.2.1) Ar24.2.2 in24 at24 (g := (mkF m 134 #[.val (.int (5 : Int32)), .val (.ref w)] [(.int (3 : Int32)), (.ref w), (.int (3 : Int32)), (.ref b1), (.ref b1)])) rfl rfl (hb hby d3_134) _ ?_
    show Steps p.tables e below (T19.setTop (mkF m 135 #[.val (.int (5 : Int32)), .val (.ref w)] [(.int c3), (.int (3 : Int32)), (.ref b1), (.ref b1)])) _
    refine st25 _ ?_
    refine XS.dup X25.here hx rfl (hb hby d3_136) rfl rfl ?_
    refine XS.iconst X25.here hx rfl (hb hby d3_137) ?_
    refine XS.aloadN X25.here hx rfl (hb hby d3_138) rfl rfl ?_
    refine XS.iconst X25.here hx rfl (hb hby d3_139) ?_
    show Steps p.tables e below (T25.setTop (mkF m 140 #[.val (.int (5 : Int32)), .val (.ref w)] [(.int (4 : Int32)), (.ref w), (.int (4 : Int32)), (.ref b1), (.ref b1)])) _
    refine X25.caload hx (j := (4 : Int32)) (v := (.int c4)) (by rw [e25]; exact Ar30.1) (State.isArrayOf_alike hZ.alike Ar30.2.1) Ar30.2.2 in30 at30 (g := (mkF m 140 #[.val (.int (5 : Int32)), .val (.ref w)] [(.int (4 : Int32)), (.ref w), (.int (4 : Int32)), (.ref b1), (.ref b1)])) rfl rfl (hb hby d3_140) _ ?_
    show Steps p.tables e below (T25.setTop (mkF m 141 #[.val (.int (5 : Int32)), .val (.ref w)] [(.int c4), (.int (4 : Int32)), (.ref b1), (.ref b1)])) _
    refine st31 _ ?_
    exact kt
  obtain ⟨fs, hr, hrun, hended, hW, hsame⟩ := X31.leave (v := some (.ref b1)) (fun h => by rw [Bd.returns] at h; cases h)
  refine ⟨_, _, pre0 _ (S35 _ ?_), hrun, hended, _, _, rfl, ?_, ⟨_, rfl⟩, hW, hsame.mono (by decide) (by decide)⟩
  · exact retOut X31 hx Bd.returns rfl (Or.inr (Or.inr (Or.inr (Or.inr ⟨rfl, rfl, rfl⟩)))) (hb hby d3_142) hr
  · show Q_rm_cut5 Z w kw c0 c1 c2 c3 c4 c5 c6 h0 n0 _ T31.heap _
    rw [e31]
    exact ⟨b1, k1, rfl, N34, K33, sz_b1, F31⟩
theorem d3_143 : decode method_4_code 143 = .ok (.iload_n 0, 1) := by decide +kernel
theorem d3_144 : decode method_4_code 144 = .ok (.bipush 6, 2) := by decide +kernel
theorem d3_146 : decode method_4_code 146 = .ok (.if_icmp .ne 44, 3) := by decide +kernel
theorem d3_149 : decode method_4_code 149 = .ok (.bipush 6, 2) := by decide +kernel
theorem d3_151 : decode method_4_code 151 = .ok (.newarray .char, 2) := by decide +kernel
theorem d3_153 : decode method_4_code 153 = .ok (.dup, 1) := by decide +kernel
theorem d3_154 : decode method_4_code 154 = .ok (.iconst 0, 1) := by decide +kernel
theorem d3_155 : decode method_4_code 155 = .ok (.aload_n 1, 1) := by decide +kernel
theorem d3_156 : decode method_4_code 156 = .ok (.iconst 0, 1) := by decide +kernel
theorem d3_157 : decode method_4_code 157 = .ok (.caload, 1) := by decide +kernel
theorem d3_158 : decode method_4_code 158 = .ok (.castore, 1) := by decide +kernel
theorem d3_159 : decode method_4_code 159 = .ok (.dup, 1) := by decide +kernel
theorem d3_160 : decode method_4_code 160 = .ok (.iconst 1, 1) := by decide +kernel
theorem d3_161 : decode method_4_code 161 = .ok (.aload_n 1, 1) := by decide +kernel
theorem d3_162 : decode method_4_code 162 = .ok (.iconst 1, 1) := by decide +kernel
theorem d3_163 : decode method_4_code 163 = .ok (.caload, 1) := by decide +kernel
theorem d3_164 : decode method_4_code 164 = .ok (.castore, 1) := by decide +kernel
theorem d3_165 : decode method_4_code 165 = .ok (.dup, 1) := by decide +kernel
theorem d3_166 : decode method_4_code 166 = .ok (.iconst 2, 1) := by decide +kernel
theorem d3_167 : decode method_4_code 167 = .ok (.aload_n 1, 1) := by decide +kernel
theorem d3_168 : decode method_4_code 168 = .ok (.iconst 2, 1) := by decide +kernel
theorem d3_169 : decode method_4_code 169 = .ok (.caload, 1) := by decide +kernel
theorem d3_170 : decode method_4_code 170 = .ok (.castore, 1) := by decide +kernel
theorem d3_171 : decode method_4_code 171 = .ok (.dup, 1) := by decide +kernel
theorem d3_172 : decode method_4_code 172 = .ok (.iconst 3, 1) := by decide +kernel
theorem d3_173 : decode method_4_code 173 = .ok (.aload_n 1, 1) := by decide +kernel
theorem d3_174 : decode method_4_code 174 = .ok (.iconst 3, 1) := by decide +kernel
theorem d3_175 : decode method_4_code 175 = .ok (.caload, 1) := by decide +kernel
theorem d3_176 : decode method_4_code 176 = .ok (.castore, 1) := by decide +kernel
theorem d3_177 : decode method_4_code 177 = .ok (.dup, 1) := by decide +kernel
theorem d3_178 : decode method_4_code 178 = .ok (.iconst 4, 1) := by decide +kernel
theorem d3_179 : decode method_4_code 179 = .ok (.aload_n 1, 1) := by decide +kernel
theorem d3_180 : decode method_4_code 180 = .ok (.iconst 4, 1) := by decide +kernel
theorem d3_181 : decode method_4_code 181 = .ok (.caload, 1) := by decide +kernel
theorem d3_182 : decode method_4_code 182 = .ok (.castore, 1) := by decide +kernel
theorem d3_183 : decode method_4_code 183 = .ok (.dup, 1) := by decide +kernel
theorem d3_184 : decode method_4_code 184 = .ok (.iconst 5, 1) := by decide +kernel
theorem d3_185 : decode method_4_code 185 = .ok (.aload_n 1, 1) := by decide +kernel
theorem d3_186 : decode method_4_code 186 = .ok (.iconst 5, 1) := by decide +kernel
theorem d3_187 : decode method_4_code 187 = .ok (.caload, 1) := by decide +kernel
theorem d3_188 : decode method_4_code 188 = .ok (.castore, 1) := by decide +kernel
theorem d3_189 : decode method_4_code 189 = .ok (.areturn, 1) := by decide +kernel
theorem ef_rm_cut6 (m : MethodId) (x0 : Int32) (x1 : Addr) : entryFrame m #[(.int x0), (.ref x1)] 2 = mkF m 0 #[.val (.int x0), .val (.ref x1)] [] := by first | (simp [entryFrame, mkF, argsToLocals, Value.category]; done) | rfl
def Q_rm_cut6 (Z : State) (w : Addr) (kw : ClassId) (c0 : Int32) (c1 : Int32) (c2 : Int32) (c3 : Int32) (c4 : Int32) (c5 : Int32) (c6 : Int32) (h0 : Heap) (n0 : Nat) (v : Option Value) (h : Heap) (L : List Loc) : Prop := (∃ (r : Addr) (k : ClassId), (v = some (.ref r)) ∧ (Fr n0 L) ∧ (Keep h0 h []) ∧ (h0.size ≤ r) ∧ (Arv Z h r k .char (6 : Int32) [(.int c0), (.int c1), (.int c2), (.int c3), (.int c4), (.int c5)] (.int (0 : Int32))))
set_option maxRecDepth 65536 in
set_option maxHeartbeats 40000000 in
theorem rm_cut6 (l : Launch) (Z : State) (a0 : Array Value) (hw : ∀ d ∈ tables_1, d.before a0 Z = true) (ws : List Jvm.Cond) (w : Addr) (kw : ClassId) (c0 : Int32) (c1 : Int32) (c2 : Int32) (c3 : Int32) (c4 : Int32) (c5 : Int32) (c6 : Int32) (h0 : Heap) (n0 : Nat) (O0 : Old Z n0 h0) (A_w : Arv Z h0 w kw .char (7 : Int32) [(.int c0), (.int c1), (.int c2), (.int c3), (.int c4), (.int c5), (.int c6)] (.int (0 : Int32))) (la_c0 : ¬ (c0 < (0 : Int32)) ∧ ¬ ((255 : Int32) < c0)) (la_c1 : ¬ (c1 < (0 : Int32)) ∧ ¬ ((255 : Int32) < c1)) (la_c2 : ¬ (c2 < (0 : Int32)) ∧ ¬ ((255 : Int32) < c2)) (la_c3 : ¬ (c3 < (0 : Int32)) ∧ ¬ ((255 : Int32) < c3)) (la_c4 : ¬ (c4 < (0 : Int32)) ∧ ¬ ((255 : Int32) < c4)) (la_c5 : ¬ (c5 < (0 : Int32)) ∧ ¬ ((255 : Int32) < c5)) (la_c6 : ¬ (c6 < (0 : Int32)) ∧ ¬ ((255 : Int32) < c6)) :
    MetFree l (⟨"com/example/favonius/favonius/phrank/VariantDefaultForPinLaw", "cut", "(I[C)[C"⟩ : MethodName) (head1 (Jvm.Cond.code (⟨"com/example/favonius/favonius/phrank/VariantDefaultForPinLaw", "cut", "(I[C)[C"⟩ : MethodName) method_4_code 2 (some (.array .char)) :: ws) ({ frames := 0, cells := 1, slots := 6, locals := 0 } : Room)) (fun a U => a = #[(.int (6 : Int32)), (.ref w)] ∧ Z.Warmed39 U.vm ∧ U.heap = h0) (fun _ _ _ _ _ => True) (fun _ U o U' => ∃ v L, o = .returned v ∧ Q_rm_cut6 Z w kw c0 c1 c2 c3 c4 c5 c6 h0 n0 v U'.heap L ∧ FrameEnd U o U' L ({ frames := 0, cells := 1, slots := 6, locals := 0 } : Room).cells ({ frames := 0, cells := 1, slots := 6, locals := 0 } : Room).slots) := by
  refine MetFree.of_bodySF (plainFor_of_name pn_1) hisR ?_
  intro p e s m args below meth c s₁ Bd hml0 hP hK
  obtain ⟨rfl, hZ, hh⟩ := hP
  have hx := Bd.exec
  have hby := Bd.bytes
  have hml : c.maxLocals = 2 := hml0
  have hown : s.vm.findClass "com/example/favonius/favonius/phrank/VariantDefaultForPinLaw" = some m.cls := findClass_of_methodNamed Bd.named
  have hnm := (name_of_methodNamed Bd.named Bd.method).1
  have X0 : Stand p l e ({ frames := 0, cells := 1, slots := 6, locals := 0 } : Room) s m #[(.int (6 : Int32)), (.ref w)] below meth c s₁ [] 0 0 := Stand.of_body Bd
  have e0 : s₁.heap = h0 := by rw [← hh, Bd.state]; rfl
  have N0 := Fr.nil n0
  have hwq : ∀ d ∈ StrChars.Road.wordsEq, d.before a0 Z = true := fun d hd => hw d (own_wordsEq d hd)
  have hws : ∀ d ∈ StrChars.Road.words, d.before a0 Z = true := fun d hd => hw d (own_words d hd)
  have K0 : Keep h0 h0 [] := Keep.refl _ _
  have pre0 : ∀ t, Steps p.tables e below (s₁.setTop (mkF m 0 #[.val (.int (6 : Int32)), .val (.ref w)] [])) t → Steps p.tables e below (s₁.setTop (entryFrame m #[(.int (6 : Int32)), (.ref w)] 2)) t := fun t k => castTop (ef_rm_cut6 m (6 : Int32) w) k
  obtain ⟨T1, h1, k1, X1, e1, E1, A1, B1, st1⟩ := newPE X0 hx hZ (own_w hw 0 rfl) e0 (g := (mkF m 151 #[.val (.int (6 : Int32)), .val (.ref w)] [(.int (6 : Int32))])) rfl (hb hby d3_151) rfl (by decide) (cap := 6) (by decide) (by decide) (by decide) (by decide) (ad := "[C") (by first | rfl | decide)
  obtain ⟨b1, g1⟩ : ∃ z, z = h0.size := ⟨_, rfl⟩
  have ge_b1 : n0 ≤ b1 := by rw [g1, ← O0.1]; exact O0.2.1
  have sz_b1 : h0.size ≤ b1 := by rw [g1]; exact K0.1
  have ne2 : w ≠ b1 := Nat.ne_of_lt (Nat.lt_of_lt_of_le (Arv.lt A_w) (Nat.le_of_eq g1.symm))
  rw [← g1] at A1 B1 st1
  have O3 := O0.ext E1
  have K4 : Keep h0 h1 [] := K0.ext E1
  have F1 : Arv Z h1 b1 k1 .char (6 : Int32) [(.int (0 : Int32)), (.int (0 : Int32)), (.int (0 : Int32)), (.int (0 : Int32)), (.int (0 : Int32)), (.int (0 : Int32))] (.int (0 : Int32)) := (Arv.new A1 (by decide)).pad (pad_rep [] (.int (0 : Int32)) 6)
  have f5 := (Arv.ext A_w E1)
  obtain ⟨cl6, Ar6, q6, Sz6, Nn6, Hh6, Gg6⟩ := id f5
  have in6 : ¬ ((0 : Int32) < 0 ∨ cl6.slots.size ≤ ((0 : Int32)).toNatClampNeg) := by exact inb_of Sz6 ⟨by decide, by decide⟩
  have at6 : cl6.slots[((0 : Int32)).toNatClampNeg]? = some (.int c0) := by
    refine Has.at Hh6 in6 ?_
    rfl
  obtain ⟨cl7, Ar7, q7, Sz7, Nn7, Hh7, Gg7⟩ := id F1
  have in7 : ¬ ((0 : Int32) < 0 ∨ cl7.slots.size ≤ ((0 : Int32)).toNatClampNeg) := inb_of Sz7 ⟨by decide, by decide⟩
  obtain ⟨T7, h7, X7, e7, W7, st7⟩ := stC X1 hx hZ e1 Ar7 (j := (0 : Int32)) in7 (g := (mkF m 158 #[.val (.int (6 : Int32)), .val (.ref w)] [(.int c0), (.int (0 : Int32)), (.ref b1), (.ref b1)])) rfl rfl (hb hby d3_158)
  rw [show nar .char c0 = c0 from own_nar la_c0] at W7
  have O8 := O3.wr W7 ge_b1
  have K9 : Keep h0 h7 [] := K4.wr W7 (Or.inr sz_b1)
  have N10 := Fr.snoc X7 N0 ge_b1
  have F7 : Arv Z h7 b1 k1 .char (6 : Int32) [(.int c0), (.int (0 : Int32)), (.int (0 : Int32)), (.int (0 : Int32)), (.int (0 : Int32)), (.int (0 : Int32))] (.int (0 : Int32)) := Arv.set Ar7 q7 Sz7 Nn7 Hh7 Gg7 (by rw [← (own_nar la_c0 : nar .char c0 = c0)]; exact fits_nar_char _) W7 0 rfl (Nat.le_of_ble_eq_true rfl)
  have f11 := (Arv.other f5 W7 ne2)
  obtain ⟨cl12, Ar12, q12, Sz12, Nn12, Hh12, Gg12⟩ := id f11
  have in12 : ¬ ((1 : Int32) < 0 ∨ cl12.slots.size ≤ ((1 : Int32)).toNatClampNeg) := by exact inb_of Sz12 ⟨by decide, by decide⟩
  have at12 : cl12.slots[((1 : Int32)).toNatClampNeg]? = some (.int c1) := by
    refine Has.at Hh12 in12 ?_
    rfl
  obtain ⟨cl13, Ar13, q13, Sz13, Nn13, Hh13, Gg13⟩ := id F7
  have in13 : ¬ ((1 : Int32) < 0 ∨ cl13.slots.size ≤ ((1 : Int32)).toNatClampNeg) := inb_of Sz13 ⟨by decide, by decide⟩
  obtain ⟨T13, h13, X13, e13, W13, st13⟩ := stC X7 hx hZ e7 Ar13 (j := (1 : Int32)) in13 (g := (mkF m 164 #[.val (.int (6 : Int32)), .val (.ref w)] [(.int c1), (.int (1 : Int32)), (.ref b1), (.ref b1)])) rfl rfl (hb hby d3_164)
  rw [show nar .char c1 = c1 from own_nar la_c1] at W13
  have O14 := O8.wr W13 ge_b1
  have K15 : Keep h0 h13 [] := K9.wr W13 (Or.inr sz_b1)
  have N16 := Fr.snoc X13 N10 ge_b1
  have F13 : Arv Z h13 b1 k1 .char (6 : Int32) [(.int c0), (.int c1), (.int (0 : Int32)), (.int (0 : Int32)), (.int (0 : Int32)), (.int (0 : Int32))] (.int (0 : Int32)) := Arv.set Ar13 q13 Sz13 Nn13 Hh13 Gg13 (by rw [← (own_nar la_c1 : nar .char c1 = c1)]; exact fits_nar_char _) W13 1 rfl (Nat.le_of_ble_eq_true rfl)
  have f17 := (Arv.other f11 W13 ne2)
  obtain ⟨cl18, Ar18, q18, Sz18, Nn18, Hh18, Gg18⟩ := id f17
  have in18 : ¬ ((2 : Int32) < 0 ∨ cl18.slots.size ≤ ((2 : Int32)).toNatClampNeg) := by exact inb_of Sz18 ⟨by decide, by decide⟩
  have at18 : cl18.slots[((2 : Int32)).toNatClampNeg]? = some (.int c2) := by
    refine Has.at Hh18 in18 ?_
    rfl
  obtain ⟨cl19, Ar19, q19, Sz19, Nn19, Hh19, Gg19⟩ := id F13
  have in19 : ¬ ((2 : Int32) < 0 ∨ cl19.slots.size ≤ ((2 : Int32)).toNatClampNeg) := inb_of Sz19 ⟨by decide, by decide⟩
  obtain ⟨T19, h19, X19, e19, W19, st19⟩ := stC X13 hx hZ e13 Ar19 (j := (2 : Int32)) in19 (g := (mkF m 170 #[.val (.int (6 : Int32)), .val (.ref w)] [(.int c2), (.int (2 : Int32)), (.ref b1), (.ref b1)])) rfl rfl (hb hby d3_170)
  rw [show nar .char c2 = c2 from own_nar la_c2] at W19
  have O20 := O14.wr W19 ge_b1
  have K21 : Keep h0 h19 [] := K15.wr W19 (Or.inr sz_b1)
  have N22 := Fr.snoc X19 N16 ge_b1
  have F19 : Arv Z h19 b1 k1 .char (6 : Int32) [(.int c0), (.int c1), (.int c2), (.int (0 : Int32)), (.int (0 : Int32)), (.int (0 : Int32))] (.int (0 : Int32)) := Arv.set Ar19 q19 Sz19 Nn19 Hh19 Gg19 (by rw [← (own_nar la_c2 : nar .char c2 = c2)]; exact fits_nar_char _) W19 2 rfl (Nat.le_of_ble_eq_true rfl)
  have f23 := (Arv.other f17 W19 ne2)
  obtain ⟨cl24, Ar24, q24, Sz24, Nn24, Hh24, Gg24⟩ := id f23
  have in24 : ¬ ((3 : Int32) < 0 ∨ cl24.slots.size ≤ ((3 : Int32)).toNatClampNeg) := by exact inb_of Sz24 ⟨by decide, by decide⟩
  have at24 : cl24.slots[((3 : Int32)).toNatClampNeg]? = some (.int c3) := by
    refine Has.at Hh24 in24 ?_
    rfl
  obtain ⟨cl25, Ar25, q25, Sz25, Nn25, Hh25, Gg25⟩ := id F19
  have in25 : ¬ ((3 : Int32) < 0 ∨ cl25.slots.size ≤ ((3 : Int32)).toNatClampNeg) := inb_of Sz25 ⟨by decide, by decide⟩
  obtain ⟨T25, h25, X25, e25, W25, st25⟩ := stC X19 hx hZ e19 Ar25 (j := (3 : Int32)) in25 (g := (mkF m 176 #[.val (.int (6 : Int32)), .val (.ref w)] [(.int c3), (.int (3 : Int32)), (.ref b1), (.ref b1)])) rfl rfl (hb hby d3_176)
  rw [show nar .char c3 = c3 from own_nar la_c3] at W25
  have O26 := O20.wr W25 ge_b1
  have K27 : Keep h0 h25 [] := K21.wr W25 (Or.inr sz_b1)
  have N28 := Fr.snoc X25 N22 ge_b1
  have F25 : Arv Z h25 b1 k1 .char (6 : Int32) [(.int c0), (.int c1), (.int c2), (.int c3), (.int (0 : Int32)), (.int (0 : Int32))] (.int (0 : Int32)) := Arv.set Ar25 q25 Sz25 Nn25 Hh25 Gg25 (by rw [← (own_nar la_c3 : nar .char c3 = c3)]; exact fits_nar_char _) W25 3 rfl (Nat.le_of_ble_eq_true rfl)
  have f29 := (Arv.other f23 W25 ne2)
  obtain ⟨cl30, Ar30, q30, Sz30, Nn30, Hh30, Gg30⟩ := id f29
  have in30 : ¬ ((4 : Int32) < 0 ∨ cl30.slots.size ≤ ((4 : Int32)).toNatClampNeg) := by exact inb_of Sz30 ⟨by decide, by decide⟩
  have at30 : cl30.slots[((4 : Int32)).toNatClampNeg]? = some (.int c4) := by
    refine Has.at Hh30 in30 ?_
    rfl
  obtain ⟨cl31, Ar31, q31, Sz31, Nn31, Hh31, Gg31⟩ := id F25
  have in31 : ¬ ((4 : Int32) < 0 ∨ cl31.slots.size ≤ ((4 : Int32)).toNatClampNeg) := inb_of Sz31 ⟨by decide, by decide⟩
  obtain ⟨T31, h31, X31, e31, W31, st31⟩ := stC X25 hx hZ e25 Ar31 (j := (4 : Int32)) in31 (g := (mkF m 182 #[.val (.int (6 : Int32)), .val (.ref w)] [(.int c4), (.int (4 : Int32)), (.ref b1), (.ref b1)])) rfl rfl (hb hby d3_182)
  rw [show nar .char c4 = c4 from own_nar la_c4] at W31
  have O32 := O26.wr W31 ge_b1
  have K33 : Keep h0 h31 [] := K27.wr W31 (Or.inr sz_b1)
  have N34 := Fr.snoc X31 N28 ge_b1
  have F31 : Arv Z h31 b1 k1 .char (6 : Int32) [(.int c0), (.int c1), (.int c2), (.int c3), (.int c4), (.int (0 : Int32))] (.int (0 : Int32)) := Arv.set Ar31 q31 Sz31 Nn31 Hh31 Gg31 (by rw [← (own_nar la_c4 : nar .char c4 = c4)]; exact fits_nar_char _) W31 4 rfl (Nat.le_of_ble_eq_true rfl)
  have f35 := (Arv.other f29 W31 ne2)
  obtain ⟨cl36, Ar36, q36, Sz36, Nn36, Hh36, Gg36⟩ := id f35
  have in36 : ¬ ((5 : Int32) < 0 ∨ cl36.slots.size ≤ ((5 : Int32)).toNatClampNeg) := by exact inb_of Sz36 ⟨by decide, by decide⟩
  have at36 : cl36.slots[((5 : Int32)).toNatClampNeg]? = some (.int c5) := by
    refine Has.at Hh36 in36 ?_
    rfl
  obtain ⟨cl37, Ar37, q37, Sz37, Nn37, Hh37, Gg37⟩ := id F31
  have in37 : ¬ ((5 : Int32) < 0 ∨ cl37.slots.size ≤ ((5 : Int32)).toNatClampNeg) := inb_of Sz37 ⟨by decide, by decide⟩
  obtain ⟨T37, h37, X37, e37, W37, st37⟩ := stC X31 hx hZ e31 Ar37 (j := (5 : Int32)) in37 (g := (mkF m 188 #[.val (.int (6 : Int32)), .val (.ref w)] [(.int c5), (.int (5 : Int32)), (.ref b1), (.ref b1)])) rfl rfl (hb hby d3_188)
  rw [show nar .char c5 = c5 from own_nar la_c5] at W37
  have O38 := O32.wr W37 ge_b1
  have K39 : Keep h0 h37 [] := K33.wr W37 (Or.inr sz_b1)
  have N40 := Fr.snoc X37 N34 ge_b1
  have F37 : Arv Z h37 b1 k1 .char (6 : Int32) [(.int c0), (.int c1), (.int c2), (.int c3), (.int c4), (.int c5)] (.int (0 : Int32)) := Arv.set Ar37 q37 Sz37 Nn37 Hh37 Gg37 (by rw [← (own_nar la_c5 : nar .char c5 = c5)]; exact fits_nar_char _) W37 5 rfl (Nat.le_of_ble_eq_true rfl)
  have S41 : ∀ t, Steps p.tables e below (T37.setTop (mkF m 189 #[.val (.int (6 : Int32)), .val (.ref w)] [(.ref b1)])) t → Steps p.tables e below (s₁.setTop (mkF m 0 #[.val (.int (6 : Int32)), .val (.ref w)] [])) t := by
    intro t kt
    refine XS.iloadN X0.here hx rfl (hb hby d3_0) rfl ?_
    refine XS.ifYes X0.here hx rfl (pc0 := 1) (pc' := 8) rfl (hb hby d3_1) rfl ((if0 _ _).trans (feq ((by decide) : ¬ ((6 : Int32) = (0 : Int32)))).2) (by decide) (by decide) ?_
    refine XS.iloadN X0.here hx rfl (hb hby d3_8) rfl ?_
    refine XS.iconst X0.here hx rfl (hb hby d3_9) ?_
    refine XS.icmpYes X0.here hx rfl (pc0 := 10) (pc' := 23) rfl (hb hby d3_10) rfl (feq ((by decide) : ¬ ((6 : Int32) = (1 : Int32)))).2 (by decide) (by decide) ?_
    refine XS.iloadN X0.here hx rfl (hb hby d3_23) rfl ?_
    show Steps p.tables e below (s₁.setTop (mkF m 24 #[.val (.int (6 : Int32)), .val (.ref w)] [(.int (6 : Int32))])) _
    refine XS.iconst X0.here hx rfl (hb hby d3_24) ?_
    refine XS.icmpYes X0.here hx rfl (pc0 := 25) (pc' := 44) rfl (hb hby d3_25) rfl (feq ((by decide) : ¬ ((6 : Int32) = (2 : Int32)))).2 (by decide) (by decide) ?_
    refine XS.iloadN X0.here hx rfl (hb hby d3_44) rfl ?_
    refine XS.iconst X0.here hx rfl (hb hby d3_45) ?_
    refine XS.icmpYes X0.here hx rfl (pc0 := 46) (pc' := 71) rfl (hb hby d3_46) rfl (feq ((by decide) : ¬ ((6 : Int32) = (3 : Int32)))).2 (by decide) (by decide) ?_
    refine XS.iloadN X0.here hx rfl (hb hby d3_71) rfl ?_
    show Steps p.tables e below (s₁.setTop (mkF m 72 #[.val (.int (6 : Int32)), .val (.ref w)] [(.int (6 : Int32))])) _
    refine XS.iconst X0.here hx rfl (hb hby d3_72) ?_
    refine XS.icmpYes X0.here hx rfl (pc0 := 73) (pc' := 104) rfl (hb hby d3_73) rfl (feq ((by decide) : ¬ ((6 : Int32) = (4 : Int32)))).2 (by decide) (by decide) ?_
    refine XS.iloadN X0.here hx rfl (hb hby d3_104) rfl ?_
    refine XS.iconst X0.here hx rfl (hb hby d3_105) ?_
    refine XS.icmpYes X0.here hx rfl (pc0 := 106) (pc' := 143) rfl (hb hby d3_106) rfl (feq ((by decide) : ¬ ((6 : Int32) = (5 : Int32)))).2 (by decide) (by decide) ?_
    refine XS.iloadN X0.here hx rfl (hb hby d3_143) rfl ?_
    show Steps p.tables e below (s₁.setTop (mkF m 144 #[.val (.int (6 : Int32)), .val (.ref w)] [(.int (6 : Int32))])) _
    refine XS.bipush X0.here hx rfl (hb hby d3_144) ?_
    refine XS.icmpNo X0.here hx rfl (hb hby d3_146) rfl (teq ((by decide) : (6 : Int32) = (6 : Int32))).2 ?_
    refine XS.bipush X0.here hx rfl (hb hby d3_149) ?_
    show Steps p.tables e below (s₁.setTop (mkF m 151 #[.val (.int (6 : Int32)), .val (.ref w)] [(.int (6 : Int32))])) _
    refine st1 _ ?_
    refine XS.dup X1.here hx rfl (hb hby d3_153) rfl rfl ?_
    refine XS.iconst X1.here hx rfl (hb hby d3_154) ?_
    refine XS.aloadN X1.here hx rfl (hb hby d3_155) rfl rfl ?_
    refine XS.iconst X1.here hx rfl (hb hby d3_156) ?_
    show Steps p.tables e below (T1.setTop (mkF m 157 #[.val (.int (6 : Int32)), .val (.ref w)] [(.int (0 : Int32)), (.ref w), (.int (0 : Int32)), (.ref b1), (.ref b1)])) _
    refine X1.caload hx (j := (0 : Int32)) (v := (.int c0)) (by rw [e1]; exact Ar6.1) (State.isArrayOf_alike hZ.alike Ar6.2.1) Ar6.2.2 in6 at6 (g := (mkF m 157 #[.val (.int (6 : Int32)), .val (.ref w)] [(.int (0 : Int32)), (.ref w), (.int (0 : Int32)), (.ref b1), (.ref b1)])) rfl rfl (hb hby d3_157) _ ?_
    show Steps p.tables e below (T1.setTop (mkF m 158 #[.val (.int (6 : Int32)), .val (.ref w)] [(.int c0), (.int (0 : Int32)), (.ref b1), (.ref b1)])) _
    refine st7 _ ?_
    refine XS.dup X7.here hx rfl (hb hby d3_159) rfl rfl ?_
    refine XS.iconst X7.here hx rfl (hb hby d3_160) ?_
    refine XS.aloadN X7.here hx rfl (hb hby d3_161) rfl rfl ?_
    refine XS.iconst X7.here hx rfl (hb hby d3_162) ?_
    show Steps p.tables e below (T7.setTop (mkF m 163 #[.val (.int (6 : Int32)), .val (.ref w)] [(.int (1 : Int32)), (.ref w), (.int (1 : Int32)), (.ref b1), (.ref b1)])) _
    refine X7.caload hx (j := (1 : Int32)) (v := (.int c1)) (by rw [e7]; exact Ar12.1) (State.isArrayOf_alike hZ.alike Ar12.2.1) Ar12.2.2 in12 at12 (g := (mkF m 163 #[.val (.int (6 : Int32)), .val (.ref w)] [(.int (1 : Int32)), (.ref w), (.int (1 : Int32)), (.ref b1), (.ref b1)])) rfl rfl (hb hby d3_163) _ ?_
    show Steps p.tables e below (T7.setTop (mkF m 164 #[.val (.int (6 : Int32)), .val (.ref w)] [(.int c1), (.int (1 : Int32)), (.ref b1), (.ref b1)])) _
    refine st13 _ ?_
    refine XS.dup X13.here hx rfl (hb hby d3_165) rfl rfl ?_
    refine XS.iconst X13.here hx rfl (hb hby d3_166) ?_
    refine XS.aloadN X13.here hx rfl (hb hby d3_167) rfl rfl ?_
    refine XS.iconst X13.here hx rfl (hb hby d3_168) ?_
    show Steps p.tables e below (T13.setTop (mkF m 169 #[.val (.int (6 : Int32)), .val (.ref w)] [(.int (2 : Int32)), (.ref w), (.int (2 : Int32)), (.ref b1), (.ref b1)])) _
    refine X13.caload hx (j := (2 : Int32)) (v := (.int c2)) (by rw [e13]; exact Ar18.1) (State.isArrayOf_alike hZ.alike Ar18.2.1) Ar18.2.2 in18 at18 (g := (mkF m 169 #[.val (.int (6 : Int32)), .val (.ref w)] [(.int (2 : Int32)), (.ref w), (.int (2 : Int32)), (.ref b1), (.ref b1)])) rfl rfl (hb hby d3_169) _ ?_
    show Steps p.tables e below (T13.setTop (mkF m 170 #[.val (.int (6 : Int32)), .val (.ref w)] [(.int c2), (.int (2 : Int32)), (.ref b1), (.ref b1)])) _
    refine st19 _ ?_
    refine XS.dup X19.here hx rfl (hb hby d3_171) rfl rfl ?_
    refine XS.iconst X19.here hx rfl (hb hby d3_172) ?_
    refine XS.aloadN X19.here hx rfl (hb hby d3_173) rfl rfl ?_
    refine XS.iconst X19.here hx rfl (hb hby d3_174) ?_
    show Steps p.tables e below (T19.setTop (mkF m 175 #[.val (.int (6 : Int32)), .val (.ref w)] [(.int (3 : Int32)), (.ref w), (.int (3 : Int32)), (.ref b1), (.ref b1)])) _
    refine X19.caload hx (j := (3 : Int32)) (v := (.int c3)) (by rw [e19]; exact Ar24.1) (State.isArrayOf_alike hZ.alike Ar24.2.1) Ar24.2.2 in24 at24 (g := (mkF m 175 #[.val (.int (6 : Int32)), .val (.ref w)] [(.int (3 : Int32)), (.ref w), (.int (3 : Int32)), (.ref b1), (.ref b1)])) rfl rfl (hb hby d3_175) _ ?_
    show Steps p.tables e below (T19.setTop (mkF m 176 #[.val (.int (6 : Int32)), .val (.ref w)] [(.int c3), (.int (3 : Int32)), (.ref b1), (.ref b1)])) _
    refine st25 _ ?_
    refine XS.dup X25.here hx rfl (hb hby d3_177) rfl rfl ?_
    refine XS.iconst X25.here hx rfl (hb hby d3_178) ?_
    refine XS.aloadN X25.here hx rfl (hb hby d3_179) rfl rfl ?_
    refine XS.iconst X25.here hx rfl (hb hby d3_180) ?_
    show Steps p.tables e below (T25.setTop (mkF m 181 #[.val (.int (6 : Int32)), .val (.ref w)] [(.int (4 : Int32)), (.ref w), (.int (4 : Int32)), (.ref b1), (.ref b1)])) _
    refine X25.caload hx (j := (4 : Int32)) (v := (.int c4)) (by rw [e25]; exact Ar30.1) (State.isArrayOf_alike hZ.alike Ar30.2.1) Ar30.2.2 in30 at30 (g := (mkF m 181 #[.val (.int (6 : Int32)), .val (.ref w)] [(.int (4 : Int32)), (.ref w), (.int (4 : Int32)), (.ref b1), (.ref b1)])) rfl rfl (hb hby d3_181) _ ?_
    show Steps p.tables e below (T25.setTop (mkF m 182 #[.val (.int (6 : Int32)), .val (.ref w)] [(.int c4), (.int (4 : Int32)), (.ref b1), (.ref b1)])) _
    refine st31 _ ?_
    refine XS.dup X31.here hx rfl (hb hby d3_183) rfl rfl ?_
    refine XS.iconst X31.here hx rfl (hb hby d3_184) ?_
    refine XS.aloadN X31.here hx rfl (hb hby d3_185) rfl rfl ?_
    refine XS.iconst X31.here hx rfl (hb hby d3_186) ?_
    show Steps p.tables e below (T31.setTop (mkF m 187 #[.val (.int (6 : Int32)), .val (.ref w)] [(.int (5 : Int32)), (.ref w), (.int (5 : Int32)), (.ref b1), (.ref b1)])) _
    refine X31.caload hx (j := (5 : Int32)) (v := (.int c5)) (by rw [e31]; exact Ar36.1) (State.isArrayOf_alike hZ.alike Ar36.2.1) Ar36.2.2 in36 at36 (g := (mkF m 187 #[.val (.int (6 : Int32)), .val (.ref w)] [(.int (5 : Int32)), (.ref w), (.int (5 : Int32)), (.ref b1), (.ref b1)])) rfl rfl (hb hby d3_187) _ ?_
    show Steps p.tables e below (T31.setTop (mkF m 188 #[.val (.int (6 : Int32)), .val (.ref w)] [(.int c5), (.int (5 : Int32)), (.ref b1), (.ref b1)])) _
    refine st37 _ ?_
    exact kt
  obtain ⟨fs, hr, hrun, hended, hW, hsame⟩ := X37.leave (v := some (.ref b1)) (fun h => by rw [Bd.returns] at h; cases h)
  refine ⟨_, _, pre0 _ (S41 _ ?_), hrun, hended, _, _, rfl, ?_, ⟨_, rfl⟩, hW, hsame.mono (by decide) (by decide)⟩
  · exact retOut X37 hx Bd.returns rfl (Or.inr (Or.inr (Or.inr (Or.inr ⟨rfl, rfl, rfl⟩)))) (hb hby d3_189) hr
  · show Q_rm_cut6 Z w kw c0 c1 c2 c3 c4 c5 c6 h0 n0 _ T37.heap _
    rw [e37]
    exact ⟨b1, k1, rfl, N40, K39, sz_b1, F37⟩
theorem d3_190 : decode method_4_code 190 = .ok (.bipush 7, 2) := by decide +kernel
theorem d3_192 : decode method_4_code 192 = .ok (.newarray .char, 2) := by decide +kernel
theorem d3_194 : decode method_4_code 194 = .ok (.dup, 1) := by decide +kernel
theorem d3_195 : decode method_4_code 195 = .ok (.iconst 0, 1) := by decide +kernel
theorem d3_196 : decode method_4_code 196 = .ok (.aload_n 1, 1) := by decide +kernel
theorem d3_197 : decode method_4_code 197 = .ok (.iconst 0, 1) := by decide +kernel
theorem d3_198 : decode method_4_code 198 = .ok (.caload, 1) := by decide +kernel
theorem d3_199 : decode method_4_code 199 = .ok (.castore, 1) := by decide +kernel
theorem d3_200 : decode method_4_code 200 = .ok (.dup, 1) := by decide +kernel
theorem d3_201 : decode method_4_code 201 = .ok (.iconst 1, 1) := by decide +kernel
theorem d3_202 : decode method_4_code 202 = .ok (.aload_n 1, 1) := by decide +kernel
theorem d3_203 : decode method_4_code 203 = .ok (.iconst 1, 1) := by decide +kernel
theorem d3_204 : decode method_4_code 204 = .ok (.caload, 1) := by decide +kernel
theorem d3_205 : decode method_4_code 205 = .ok (.castore, 1) := by decide +kernel
theorem d3_206 : decode method_4_code 206 = .ok (.dup, 1) := by decide +kernel
theorem d3_207 : decode method_4_code 207 = .ok (.iconst 2, 1) := by decide +kernel
theorem d3_208 : decode method_4_code 208 = .ok (.aload_n 1, 1) := by decide +kernel
theorem d3_209 : decode method_4_code 209 = .ok (.iconst 2, 1) := by decide +kernel
theorem d3_210 : decode method_4_code 210 = .ok (.caload, 1) := by decide +kernel
theorem d3_211 : decode method_4_code 211 = .ok (.castore, 1) := by decide +kernel
theorem d3_212 : decode method_4_code 212 = .ok (.dup, 1) := by decide +kernel
theorem d3_213 : decode method_4_code 213 = .ok (.iconst 3, 1) := by decide +kernel
theorem d3_214 : decode method_4_code 214 = .ok (.aload_n 1, 1) := by decide +kernel
theorem d3_215 : decode method_4_code 215 = .ok (.iconst 3, 1) := by decide +kernel
theorem d3_216 : decode method_4_code 216 = .ok (.caload, 1) := by decide +kernel
theorem d3_217 : decode method_4_code 217 = .ok (.castore, 1) := by decide +kernel
theorem d3_218 : decode method_4_code 218 = .ok (.dup, 1) := by decide +kernel
theorem d3_219 : decode method_4_code 219 = .ok (.iconst 4, 1) := by decide +kernel
theorem d3_220 : decode method_4_code 220 = .ok (.aload_n 1, 1) := by decide +kernel
theorem d3_221 : decode method_4_code 221 = .ok (.iconst 4, 1) := by decide +kernel
theorem d3_222 : decode method_4_code 222 = .ok (.caload, 1) := by decide +kernel
theorem d3_223 : decode method_4_code 223 = .ok (.castore, 1) := by decide +kernel
theorem d3_224 : decode method_4_code 224 = .ok (.dup, 1) := by decide +kernel
theorem d3_225 : decode method_4_code 225 = .ok (.iconst 5, 1) := by decide +kernel
theorem d3_226 : decode method_4_code 226 = .ok (.aload_n 1, 1) := by decide +kernel
theorem d3_227 : decode method_4_code 227 = .ok (.iconst 5, 1) := by decide +kernel
theorem d3_228 : decode method_4_code 228 = .ok (.caload, 1) := by decide +kernel
theorem d3_229 : decode method_4_code 229 = .ok (.castore, 1) := by decide +kernel
theorem d3_230 : decode method_4_code 230 = .ok (.dup, 1) := by decide +kernel
theorem d3_231 : decode method_4_code 231 = .ok (.bipush 6, 2) := by decide +kernel
theorem d3_233 : decode method_4_code 233 = .ok (.aload_n 1, 1) := by decide +kernel
theorem d3_234 : decode method_4_code 234 = .ok (.bipush 6, 2) := by decide +kernel
theorem d3_236 : decode method_4_code 236 = .ok (.caload, 1) := by decide +kernel
theorem d3_237 : decode method_4_code 237 = .ok (.castore, 1) := by decide +kernel
theorem d3_238 : decode method_4_code 238 = .ok (.areturn, 1) := by decide +kernel
theorem ef_rm_cut7 (m : MethodId) (x0 : Int32) (x1 : Addr) : entryFrame m #[(.int x0), (.ref x1)] 2 = mkF m 0 #[.val (.int x0), .val (.ref x1)] [] := by first | (simp [entryFrame, mkF, argsToLocals, Value.category]; done) | rfl
def Q_rm_cut7 (Z : State) (w : Addr) (kw : ClassId) (c0 : Int32) (c1 : Int32) (c2 : Int32) (c3 : Int32) (c4 : Int32) (c5 : Int32) (c6 : Int32) (h0 : Heap) (n0 : Nat) (v : Option Value) (h : Heap) (L : List Loc) : Prop := (∃ (r : Addr) (k : ClassId), (v = some (.ref r)) ∧ (Fr n0 L) ∧ (Keep h0 h []) ∧ (h0.size ≤ r) ∧ (Arv Z h r k .char (7 : Int32) [(.int c0), (.int c1), (.int c2), (.int c3), (.int c4), (.int c5), (.int c6)] (.int (0 : Int32))))
set_option maxRecDepth 65536 in
set_option maxHeartbeats 40000000 in
theorem rm_cut7 (l : Launch) (Z : State) (a0 : Array Value) (hw : ∀ d ∈ tables_1, d.before a0 Z = true) (ws : List Jvm.Cond) (w : Addr) (kw : ClassId) (c0 : Int32) (c1 : Int32) (c2 : Int32) (c3 : Int32) (c4 : Int32) (c5 : Int32) (c6 : Int32) (h0 : Heap) (n0 : Nat) (O0 : Old Z n0 h0) (A_w : Arv Z h0 w kw .char (7 : Int32) [(.int c0), (.int c1), (.int c2), (.int c3), (.int c4), (.int c5), (.int c6)] (.int (0 : Int32))) (la_c0 : ¬ (c0 < (0 : Int32)) ∧ ¬ ((255 : Int32) < c0)) (la_c1 : ¬ (c1 < (0 : Int32)) ∧ ¬ ((255 : Int32) < c1)) (la_c2 : ¬ (c2 < (0 : Int32)) ∧ ¬ ((255 : Int32) < c2)) (la_c3 : ¬ (c3 < (0 : Int32)) ∧ ¬ ((255 : Int32) < c3)) (la_c4 : ¬ (c4 < (0 : Int32)) ∧ ¬ ((255 : Int32) < c4)) (la_c5 : ¬ (c5 < (0 : Int32)) ∧ ¬ ((255 : Int32) < c5)) (la_c6 : ¬ (c6 < (0 : Int32)) ∧ ¬ ((255 : Int32) < c6)) :
    MetFree l (⟨"com/example/favonius/favonius/phrank/VariantDefaultForPinLaw", "cut", "(I[C)[C"⟩ : MethodName) (head1 (Jvm.Cond.code (⟨"com/example/favonius/favonius/phrank/VariantDefaultForPinLaw", "cut", "(I[C)[C"⟩ : MethodName) method_4_code 2 (some (.array .char)) :: ws) ({ frames := 0, cells := 1, slots := 7, locals := 0 } : Room)) (fun a U => a = #[(.int (7 : Int32)), (.ref w)] ∧ Z.Warmed39 U.vm ∧ U.heap = h0) (fun _ _ _ _ _ => True) (fun _ U o U' => ∃ v L, o = .returned v ∧ Q_rm_cut7 Z w kw c0 c1 c2 c3 c4 c5 c6 h0 n0 v U'.heap L ∧ FrameEnd U o U' L ({ frames := 0, cells := 1, slots := 7, locals := 0 } : Room).cells ({ frames := 0, cells := 1, slots := 7, locals := 0 } : Room).slots) := by
  refine MetFree.of_bodySF (plainFor_of_name pn_1) hisR ?_
  intro p e s m args below meth c s₁ Bd hml0 hP hK
  obtain ⟨rfl, hZ, hh⟩ := hP
  have hx := Bd.exec
  have hby := Bd.bytes
  have hml : c.maxLocals = 2 := hml0
  have hown : s.vm.findClass "com/example/favonius/favonius/phrank/VariantDefaultForPinLaw" = some m.cls := findClass_of_methodNamed Bd.named
  have hnm := (name_of_methodNamed Bd.named Bd.method).1
  have X0 : Stand p l e ({ frames := 0, cells := 1, slots := 7, locals := 0 } : Room) s m #[(.int (7 : Int32)), (.ref w)] below meth c s₁ [] 0 0 := Stand.of_body Bd
  have e0 : s₁.heap = h0 := by rw [← hh, Bd.state]; rfl
  have N0 := Fr.nil n0
  have hwq : ∀ d ∈ StrChars.Road.wordsEq, d.before a0 Z = true := fun d hd => hw d (own_wordsEq d hd)
  have hws : ∀ d ∈ StrChars.Road.words, d.before a0 Z = true := fun d hd => hw d (own_words d hd)
  have K0 : Keep h0 h0 [] := Keep.refl _ _
  have pre0 : ∀ t, Steps p.tables e below (s₁.setTop (mkF m 0 #[.val (.int (7 : Int32)), .val (.ref w)] [])) t → Steps p.tables e below (s₁.setTop (entryFrame m #[(.int (7 : Int32)), (.ref w)] 2)) t := fun t k => castTop (ef_rm_cut7 m (7 : Int32) w) k
  obtain ⟨T1, h1, k1, X1, e1, E1, A1, B1, st1⟩ := newPE X0 hx hZ (own_w hw 0 rfl) e0 (g := (mkF m 192 #[.val (.int (7 : Int32)), .val (.ref w)] [(.int (7 : Int32))])) rfl (hb hby d3_192) rfl (by decide) (cap := 7) (by decide) (by decide) (by decide) (by decide) (ad := "[C") (by first | rfl | decide)
  obtain ⟨b1, g1⟩ : ∃ z, z = h0.size := ⟨_, rfl⟩
  have ge_b1 : n0 ≤ b1 := by rw [g1, ← O0.1]; exact O0.2.1
  have sz_b1 : h0.size ≤ b1 := by rw [g1]; exact K0.1
  have ne2 : w ≠ b1 := Nat.ne_of_lt (Nat.lt_of_lt_of_le (Arv.lt A_w) (Nat.le_of_eq g1.symm))
  rw [← g1] at A1 B1 st1
  have O3 := O0.ext E1
  have K4 : Keep h0 h1 [] := K0.ext E1
  have F1 : Arv Z h1 b1 k1 .char (7 : Int32) [(.int (0 : Int32)), (.int (0 : Int32)), (.int (0 : Int32)), (.int (0 : Int32)), (.int (0 : Int32)), (.int (0 : Int32)), (.int (0 : Int32))] (.int (0 : Int32)) := (Arv.new A1 (by decide)).pad (pad_rep [] (.int (0 : Int32)) 7)
  have f5 := (Arv.ext A_w E1)
  obtain ⟨cl6, Ar6, q6, Sz6, Nn6, Hh6, Gg6⟩ := id f5
  have in6 : ¬ ((0 : Int32) < 0 ∨ cl6.slots.size ≤ ((0 : Int32)).toNatClampNeg) := by exact inb_of Sz6 ⟨by decide, by decide⟩
  have at6 : cl6.slots[((0 : Int32)).toNatClampNeg]? = some (.int c0) := by
    refine Has.at Hh6 in6 ?_
    rfl
  obtain ⟨cl7, Ar7, q7, Sz7, Nn7, Hh7, Gg7⟩ := id F1
  have in7 : ¬ ((0 : Int32) < 0 ∨ cl7.slots.size ≤ ((0 : Int32)).toNatClampNeg) := inb_of Sz7 ⟨by decide, by decide⟩
  obtain ⟨T7, h7, X7, e7, W7, st7⟩ := stC X1 hx hZ e1 Ar7 (j := (0 : Int32)) in7 (g := (mkF m 199 #[.val (.int (7 : Int32)), .val (.ref w)] [(.int c0), (.int (0 : Int32)), (.ref b1), (.ref b1)])) rfl rfl (hb hby d3_199)
  rw [show nar .char c0 = c0 from own_nar la_c0] at W7
  have O8 := O3.wr W7 ge_b1
  have K9 : Keep h0 h7 [] := K4.wr W7 (Or.inr sz_b1)
  have N10 := Fr.snoc X7 N0 ge_b1
  have F7 : Arv Z h7 b1 k1 .char (7 : Int32) [(.int c0), (.int (0 : Int32)), (.int (0 : Int32)), (.int (0 : Int32)), (.int (0 : Int32)), (.int (0 : Int32)), (.int (0 : Int32))] (.int (0 : Int32)) := Arv.set Ar7 q7 Sz7 Nn7 Hh7 Gg7 (by rw [← (own_nar la_c0 : nar .char c0 = c0)]; exact fits_nar_char _) W7 0 rfl (Nat.le_of_ble_eq_true rfl)
  have f11 := (Arv.other f5 W7 ne2)
  obtain ⟨cl12, Ar12, q12, Sz12, Nn12, Hh12, Gg12⟩ := id f11
  have in12 : ¬ ((1 : Int32) < 0 ∨ cl12.slots.size ≤ ((1 : Int32)).toNatClampNeg) := by exact inb_of Sz12 ⟨by decide, by decide⟩
  have at12 : cl12.slots[((1 : Int32)).toNatClampNeg]? = some (.int c1) := by
    refine Has.at Hh12 in12 ?_
    rfl
  obtain ⟨cl13, Ar13, q13, Sz13, Nn13, Hh13, Gg13⟩ := id F7
  have in13 : ¬ ((1 : Int32) < 0 ∨ cl13.slots.size ≤ ((1 : Int32)).toNatClampNeg) := inb_of Sz13 ⟨by decide, by decide⟩
  obtain ⟨T13, h13, X13, e13, W13, st13⟩ := stC X7 hx hZ e7 Ar13 (j := (1 : Int32)) in13 (g := (mkF m 205 #[.val (.int (7 : Int32)), .val (.ref w)] [(.int c1), (.int (1 : Int32)), (.ref b1), (.ref b1)])) rfl rfl (hb hby d3_205)
  rw [show nar .char c1 = c1 from own_nar la_c1] at W13
  have O14 := O8.wr W13 ge_b1
  have K15 : Keep h0 h13 [] := K9.wr W13 (Or.inr sz_b1)
  have N16 := Fr.snoc X13 N10 ge_b1
  have F13 : Arv Z h13 b1 k1 .char (7 : Int32) [(.int c0), (.int c1), (.int (0 : Int32)), (.int (0 : Int32)), (.int (0 : Int32)), (.int (0 : Int32)), (.int (0 : Int32))] (.int (0 : Int32)) := Arv.set Ar13 q13 Sz13 Nn13 Hh13 Gg13 (by rw [← (own_nar la_c1 : nar .char c1 = c1)]; exact fits_nar_char _) W13 1 rfl (Nat.le_of_ble_eq_true rfl)
  have f17 := (Arv.other f11 W13 ne2)
  obtain ⟨cl18, Ar18, q18, Sz18, Nn18, Hh18, Gg18⟩ := id f17
  have in18 : ¬ ((2 : Int32) < 0 ∨ cl18.slots.size ≤ ((2 : Int32)).toNatClampNeg) := by exact inb_of Sz18 ⟨by decide, by decide⟩
  have at18 : cl18.slots[((2 : Int32)).toNatClampNeg]? = some (.int c2) := by
    refine Has.at Hh18 in18 ?_
    rfl
  obtain ⟨cl19, Ar19, q19, Sz19, Nn19, Hh19, Gg19⟩ := id F13
  have in19 : ¬ ((2 : Int32) < 0 ∨ cl19.slots.size ≤ ((2 : Int32)).toNatClampNeg) := inb_of Sz19 ⟨by decide, by decide⟩
  obtain ⟨T19, h19, X19, e19, W19, st19⟩ := stC X13 hx hZ e13 Ar19 (j := (2 : Int32)) in19 (g := (mkF m 211 #[.val (.int (7 : Int32)), .val (.ref w)] [(.int c2), (.int (2 : Int32)), (.ref b1), (.ref b1)])) rfl rfl (hb hby d3_211)
  rw [show nar .char c2 = c2 from own_nar la_c2] at W19
  have O20 := O14.wr W19 ge_b1
  have K21 : Keep h0 h19 [] := K15.wr W19 (Or.inr sz_b1)
  have N22 := Fr.snoc X19 N16 ge_b1
  have F19 : Arv Z h19 b1 k1 .char (7 : Int32) [(.int c0), (.int c1), (.int c2), (.int (0 : Int32)), (.int (0 : Int32)), (.int (0 : Int32)), (.int (0 : Int32))] (.int (0 : Int32)) := Arv.set Ar19 q19 Sz19 Nn19 Hh19 Gg19 (by rw [← (own_nar la_c2 : nar .char c2 = c2)]; exact fits_nar_char _) W19 2 rfl (Nat.le_of_ble_eq_true rfl)
  have f23 := (Arv.other f17 W19 ne2)
  obtain ⟨cl24, Ar24, q24, Sz24, Nn24, Hh24, Gg24⟩ := id f23
  have in24 : ¬ ((3 : Int32) < 0 ∨ cl24.slots.size ≤ ((3 : Int32)).toNatClampNeg) := by exact inb_of Sz24 ⟨by decide, by decide⟩
  have at24 : cl24.slots[((3 : Int32)).toNatClampNeg]? = some (.int c3) := by
    refine Has.at Hh24 in24 ?_
    rfl
  obtain ⟨cl25, Ar25, q25, Sz25, Nn25, Hh25, Gg25⟩ := id F19
  have in25 : ¬ ((3 : Int32) < 0 ∨ cl25.slots.size ≤ ((3 : Int32)).toNatClampNeg) := inb_of Sz25 ⟨by decide, by decide⟩
  obtain ⟨T25, h25, X25, e25, W25, st25⟩ := stC X19 hx hZ e19 Ar25 (j := (3 : Int32)) in25 (g := (mkF m 217 #[.val (.int (7 : Int32)), .val (.ref w)] [(.int c3), (.int (3 : Int32)), (.ref b1), (.ref b1)])) rfl rfl (hb hby d3_217)
  rw [show nar .char c3 = c3 from own_nar la_c3] at W25
  have O26 := O20.wr W25 ge_b1
  have K27 : Keep h0 h25 [] := K21.wr W25 (Or.inr sz_b1)
  have N28 := Fr.snoc X25 N22 ge_b1
  have F25 : Arv Z h25 b1 k1 .char (7 : Int32) [(.int c0), (.int c1), (.int c2), (.int c3), (.int (0 : Int32)), (.int (0 : Int32)), (.int (0 : Int32))] (.int (0 : Int32)) := Arv.set Ar25 q25 Sz25 Nn25 Hh25 Gg25 (by rw [← (own_nar la_c3 : nar .char c3 = c3)]; exact fits_nar_char _) W25 3 rfl (Nat.le_of_ble_eq_true rfl)
  have f29 := (Arv.other f23 W25 ne2)
  obtain ⟨cl30, Ar30, q30, Sz30, Nn30, Hh30, Gg30⟩ := id f29
  have in30 : ¬ ((4 : Int32) < 0 ∨ cl30.slots.size ≤ ((4 : Int32)).toNatClampNeg) := by exact inb_of Sz30 ⟨by decide, by decide⟩
  have at30 : cl30.slots[((4 : Int32)).toNatClampNeg]? = some (.int c4) := by
    refine Has.at Hh30 in30 ?_
    rfl
  obtain ⟨cl31, Ar31, q31, Sz31, Nn31, Hh31, Gg31⟩ := id F25
  have in31 : ¬ ((4 : Int32) < 0 ∨ cl31.slots.size ≤ ((4 : Int32)).toNatClampNeg) := inb_of Sz31 ⟨by decide, by decide⟩
  obtain ⟨T31, h31, X31, e31, W31, st31⟩ := stC X25 hx hZ e25 Ar31 (j := (4 : Int32)) in31 (g := (mkF m 223 #[.val (.int (7 : Int32)), .val (.ref w)] [(.int c4), (.int (4 : Int32)), (.ref b1), (.ref b1)])) rfl rfl (hb hby d3_223)
  rw [show nar .char c4 = c4 from own_nar la_c4] at W31
  have O32 := O26.wr W31 ge_b1
  have K33 : Keep h0 h31 [] := K27.wr W31 (Or.inr sz_b1)
  have N34 := Fr.snoc X31 N28 ge_b1
  have F31 : Arv Z h31 b1 k1 .char (7 : Int32) [(.int c0), (.int c1), (.int c2), (.int c3), (.int c4), (.int (0 : Int32)), (.int (0 : Int32))] (.int (0 : Int32)) := Arv.set Ar31 q31 Sz31 Nn31 Hh31 Gg31 (by rw [← (own_nar la_c4 : nar .char c4 = c4)]; exact fits_nar_char _) W31 4 rfl (Nat.le_of_ble_eq_true rfl)
  have f35 := (Arv.other f29 W31 ne2)
  obtain ⟨cl36, Ar36, q36, Sz36, Nn36, Hh36, Gg36⟩ := id f35
  have in36 : ¬ ((5 : Int32) < 0 ∨ cl36.slots.size ≤ ((5 : Int32)).toNatClampNeg) := by exact inb_of Sz36 ⟨by decide, by decide⟩
  have at36 : cl36.slots[((5 : Int32)).toNatClampNeg]? = some (.int c5) := by
    refine Has.at Hh36 in36 ?_
    rfl
  obtain ⟨cl37, Ar37, q37, Sz37, Nn37, Hh37, Gg37⟩ := id F31
  have in37 : ¬ ((5 : Int32) < 0 ∨ cl37.slots.size ≤ ((5 : Int32)).toNatClampNeg) := inb_of Sz37 ⟨by decide, by decide⟩
  obtain ⟨T37, h37, X37, e37, W37, st37⟩ := stC X31 hx hZ e31 Ar37 (j := (5 : Int32)) in37 (g := (mkF m 229 #[.val (.int (7 : Int32)), .val (.ref w)] [(.int c5), (.int (5 : Int32)), (.ref b1), (.ref b1)])) rfl rfl (hb hby d3_229)
  rw [show nar .char c5 = c5 from own_nar la_c5] at W37
  have O38 := O32.wr W37 ge_b1
  have K39 : Keep h0 h37 [] := K33.wr W37 (Or.inr sz_b1)
  have N40 := Fr.snoc X37 N34 ge_b1
  have F37 : Arv Z h37 b1 k1 .char (7 : Int32) [(.int c0), (.int c1), (.int c2), (.int c3), (.int c4), (.int c5), (.int (0 : Int32))] (.int (0 : Int32)) := Arv.set Ar37 q37 Sz37 Nn37 Hh37 Gg37 (by rw [← (own_nar la_c5 : nar .char c5 = c5)]; exact fits_nar_char _) W37 5 rfl (Nat.le_of_ble_eq_true rfl)
  have f41 := (Arv.other f35 W37 ne2)
  obtain ⟨cl42, Ar42, q42, Sz42, Nn42, Hh42, Gg42⟩ := id f41
  have in42 : ¬ ((6 : Int32) < 0 ∨ cl42.slots.size ≤ ((6 : Int32)).toNatClampNeg) := by exact inb_of Sz42 ⟨by decide, by decide⟩
  have at42 : cl42.slots[((6 : Int32)).toNatClampNeg]? = some (.int c6) := by
    refine Has.at Hh42 in42 ?_
    rfl
  obtain ⟨cl43, Ar43, q43, Sz43, Nn43, Hh43, Gg43⟩ := id F37
  have in43 : ¬ ((6 : Int32) < 0 ∨ cl43.slots.size ≤ ((6 : Int32)).toNatClampNeg) := inb_of Sz43 ⟨by decide, by decide⟩
  obtain ⟨T43, h43, X43, e43, W43, st43⟩ := stC X37 hx hZ e37 Ar43 (j := (6 : Int32)) in43 (g := (mkF m 237 #[.val (.int (7 : Int32)), .val (.ref w)] [(.int c6), (.int (6 : Int32)), (.ref b1), (.ref b1)])) rfl rfl (hb hby d3_237)
  rw [show nar .char c6 = c6 from own_nar la_c6] at W43
  have O44 := O38.wr W43 ge_b1
  have K45 : Keep h0 h43 [] := K39.wr W43 (Or.inr sz_b1)
  have N46 := Fr.snoc X43 N40 ge_b1
  have F43 : Arv Z h43 b1 k1 .char (7 : Int32) [(.int c0), (.int c1), (.int c2), (.int c3), (.int c4), (.int c5), (.int c6)] (.int (0 : Int32)) := Arv.set Ar43 q43 Sz43 Nn43 Hh43 Gg43 (by rw [← (own_nar la_c6 : nar .char c6 = c6)]; exact fits_nar_char _) W43 6 rfl (Nat.le_of_ble_eq_true rfl)
  have S47 : ∀ t, Steps p.tables e below (T43.setTop (mkF m 238 #[.val (.int (7 : Int32)), .val (.ref w)] [(.ref b1)])) t → Steps p.tables e below (s₁.setTop (mkF m 0 #[.val (.int (7 : Int32)), .val (.ref w)] [])) t := by
    intro t kt
    refine XS.iloadN X0.here hx rfl (hb hby d3_0) rfl ?_
    refine XS.ifYes X0.here hx rfl (pc0 := 1) (pc' := 8) rfl (hb hby d3_1) rfl ((if0 _ _).trans (feq ((by decide) : ¬ ((7 : Int32) = (0 : Int32)))).2) (by decide) (by decide) ?_
    refine XS.iloadN X0.here hx rfl (hb hby d3_8) rfl ?_
    refine XS.iconst X0.here hx rfl (hb hby d3_9) ?_
    refine XS.icmpYes X0.here hx rfl (pc0 := 10) (pc' := 23) rfl (hb hby d3_10) rfl (feq ((by decide) : ¬ ((7 : Int32) = (1 : Int32)))).2 (by decide) (by decide) ?_
    refine XS.iloadN X0.here hx rfl (hb hby d3_23) rfl ?_
    show Steps p.tables e below (s₁.setTop (mkF m 24 #[.val (.int (7 : Int32)), .val (.ref w)] [(.int (7 : Int32))])) _
    refine XS.iconst X0.here hx rfl (hb hby d3_24) ?_
    refine XS.icmpYes X0.here hx rfl (pc0 := 25) (pc' := 44) rfl (hb hby d3_25) rfl (feq ((by decide) : ¬ ((7 : Int32) = (2 : Int32)))).2 (by decide) (by decide) ?_
    refine XS.iloadN X0.here hx rfl (hb hby d3_44) rfl ?_
    refine XS.iconst X0.here hx rfl (hb hby d3_45) ?_
    refine XS.icmpYes X0.here hx rfl (pc0 := 46) (pc' := 71) rfl (hb hby d3_46) rfl (feq ((by decide) : ¬ ((7 : Int32) = (3 : Int32)))).2 (by decide) (by decide) ?_
    refine XS.iloadN X0.here hx rfl (hb hby d3_71) rfl ?_
    show Steps p.tables e below (s₁.setTop (mkF m 72 #[.val (.int (7 : Int32)), .val (.ref w)] [(.int (7 : Int32))])) _
    refine XS.iconst X0.here hx rfl (hb hby d3_72) ?_
    refine XS.icmpYes X0.here hx rfl (pc0 := 73) (pc' := 104) rfl (hb hby d3_73) rfl (feq ((by decide) : ¬ ((7 : Int32) = (4 : Int32)))).2 (by decide) (by decide) ?_
    refine XS.iloadN X0.here hx rfl (hb hby d3_104) rfl ?_
    refine XS.iconst X0.here hx rfl (hb hby d3_105) ?_
    refine XS.icmpYes X0.here hx rfl (pc0 := 106) (pc' := 143) rfl (hb hby d3_106) rfl (feq ((by decide) : ¬ ((7 : Int32) = (5 : Int32)))).2 (by decide) (by decide) ?_
    refine XS.iloadN X0.here hx rfl (hb hby d3_143) rfl ?_
    show Steps p.tables e below (s₁.setTop (mkF m 144 #[.val (.int (7 : Int32)), .val (.ref w)] [(.int (7 : Int32))])) _
    refine XS.bipush X0.here hx rfl (hb hby d3_144) ?_
    refine XS.icmpYes X0.here hx rfl (pc0 := 146) (pc' := 190) rfl (hb hby d3_146) rfl (feq ((by decide) : ¬ ((7 : Int32) = (6 : Int32)))).2 (by decide) (by decide) ?_
    refine XS.bipush X0.here hx rfl (hb hby d3_190) ?_
    show Steps p.tables e below (s₁.setTop (mkF m 192 #[.val (.int (7 : Int32)), .val (.ref w)] [(.int (7 : Int32))])) _
    refine st1 _ ?_
    refine XS.dup X1.here hx rfl (hb hby d3_194) rfl rfl ?_
    refine XS.iconst X1.here hx rfl (hb hby d3_195) ?_
    refine XS.aloadN X1.here hx rfl (hb hby d3_196) rfl rfl ?_
    refine XS.iconst X1.here hx rfl (hb hby d3_197) ?_
    show Steps p.tables e below (T1.setTop (mkF m 198 #[.val (.int (7 : Int32)), .val (.ref w)] [(.int (0 : Int32)), (.ref w), (.int (0 : Int32)), (.ref b1), (.ref b1)])) _
    refine X1.caload hx (j := (0 : Int32)) (v := (.int c0)) (by rw [e1]; exact Ar6.1) (State.isArrayOf_alike hZ.alike Ar6.2.1) Ar6.2.2 in6 at6 (g := (mkF m 198 #[.val (.int (7 : Int32)), .val (.ref w)] [(.int (0 : Int32)), (.ref w), (.int (0 : Int32)), (.ref b1), (.ref b1)])) rfl rfl (hb hby d3_198) _ ?_
    show Steps p.tables e below (T1.setTop (mkF m 199 #[.val (.int (7 : Int32)), .val (.ref w)] [(.int c0), (.int (0 : Int32)), (.ref b1), (.ref b1)])) _
    refine st7 _ ?_
    refine XS.dup X7.here hx rfl (hb hby d3_200) rfl rfl ?_
    refine XS.iconst X7.here hx rfl (hb hby d3_201) ?_
    refine XS.aloadN X7.here hx rfl (hb hby d3_202) rfl rfl ?_
    refine XS.iconst X7.here hx rfl (hb hby d3_203) ?_
    show Steps p.tables e below (T7.setTop (mkF m 204 #[.val (.int (7 : Int32)), .val (.ref w)] [(.int (1 : Int32)), (.ref w), (.int (1 : Int32)), (.ref b1), (.ref b1)])) _
    refine X7.caload hx (j := (1 : Int32)) (v := (.int c1)) (by rw [e7]; exact Ar12.1) (State.isArrayOf_alike hZ.alike Ar12.2.1) Ar12.2.2 in12 at12 (g := (mkF m 204 #[.val (.int (7 : Int32)), .val (.ref w)] [(.int (1 : Int32)), (.ref w), (.int (1 : Int32)), (.ref b1), (.ref b1)])) rfl rfl (hb hby d3_204) _ ?_
    show Steps p.tables e below (T7.setTop (mkF m 205 #[.val (.int (7 : Int32)), .val (.ref w)] [(.int c1), (.int (1 : Int32)), (.ref b1), (.ref b1)])) _
    refine st13 _ ?_
    refine XS.dup X13.here hx rfl (hb hby d3_206) rfl rfl ?_
    refine XS.iconst X13.here hx rfl (hb hby d3_207) ?_
    refine XS.aloadN X13.here hx rfl (hb hby d3_208) rfl rfl ?_
    refine XS.iconst X13.here hx rfl (hb hby d3_209) ?_
    show Steps p.tables e below (T13.setTop (mkF m 210 #[.val (.int (7 : Int32)), .val (.ref w)] [(.int (2 : Int32)), (.ref w), (.int (2 : Int32)), (.ref b1), (.ref b1)])) _
    refine X13.caload hx (j := (2 : Int32)) (v := (.int c2)) (by rw [e13]; exact Ar18.1) (State.isArrayOf_alike hZ.alike Ar18.2.1) Ar18.2.2 in18 at18 (g := (mkF m 210 #[.val (.int (7 : Int32)), .val (.ref w)] [(.int (2 : Int32)), (.ref w), (.int (2 : Int32)), (.ref b1), (.ref b1)])) rfl rfl (hb hby d3_210) _ ?_
    show Steps p.tables e below (T13.setTop (mkF m 211 #[.val (.int (7 : Int32)), .val (.ref w)] [(.int c2), (.int (2 : Int32)), (.ref b1), (.ref b1)])) _
    refine st19 _ ?_
    refine XS.dup X19.here hx rfl (hb hby d3_212) rfl rfl ?_
    refine XS.iconst X19.here hx rfl (hb hby d3_213) ?_
    refine XS.aloadN X19.here hx rfl (hb hby d3_214) rfl rfl ?_
    refine XS.iconst X19.here hx rfl (hb hby d3_215) ?_
    show Steps p.tables e below (T19.setTop (mkF m 216 #[.val (.int (7 : Int32)), .val (.ref w)] [(.int (3 : Int32)), (.ref w), (.int (3 : Int32)), (.ref b1), (.ref b1)])) _
    refine X19.caload hx (j := (3 : Int32)) (v := (.int c3)) (by rw [e19]; exact Ar24.1) (State.isArrayOf_alike hZ.alike Ar24.2.1) Ar24.2.2 in24 at24 (g := (mkF m 216 #[.val (.int (7 : Int32)), .val (.ref w)] [(.int (3 : Int32)), (.ref w), (.int (3 : Int32)), (.ref b1), (.ref b1)])) rfl rfl (hb hby d3_216) _ ?_
    show Steps p.tables e below (T19.setTop (mkF m 217 #[.val (.int (7 : Int32)), .val (.ref w)] [(.int c3), (.int (3 : Int32)), (.ref b1), (.ref b1)])) _
    refine st25 _ ?_
    refine XS.dup X25.here hx rfl (hb hby d3_218) rfl rfl ?_
    refine XS.iconst X25.here hx rfl (hb hby d3_219) ?_
    refine XS.aloadN X25.here hx rfl (hb hby d3_220) rfl rfl ?_
    refine XS.iconst X25.here hx rfl (hb hby d3_221) ?_
    show Steps p.tables e below (T25.setTop (mkF m 222 #[.val (.int (7 : Int32)), .val (.ref w)] [(.int (4 : Int32)), (.ref w), (.int (4 : Int32)), (.ref b1), (.ref b1)])) _
    refine X25.caload hx (j := (4 : Int32)) (v := (.int c4)) (by rw [e25]; exact Ar30.1) (State.isArrayOf_alike hZ.alike Ar30.2.1) Ar30.2.2 in30 at30 (g := (mkF m 222 #[.val (.int (7 : Int32)), .val (.ref w)] [(.int (4 : Int32)), (.ref w), (.int (4 : Int32)), (.ref b1), (.ref b1)])) rfl rfl (hb hby d3_222) _ ?_
    show Steps p.tables e below (T25.setTop (mkF m 223 #[.val (.int (7 : Int32)), .val (.ref w)] [(.int c4), (.int (4 : Int32)), (.ref b1), (.ref b1)])) _
    refine st31 _ ?_
    refine XS.dup X31.here hx rfl (hb hby d3_224) rfl rfl ?_
    refine XS.iconst X31.here hx rfl (hb hby d3_225) ?_
    refine XS.aloadN X31.here hx rfl (hb hby d3_226) rfl rfl ?_
    refine XS.iconst X31.here hx rfl (hb hby d3_227) ?_
    show Steps p.tables e below (T31.setTop (mkF m 228 #[.val (.int (7 : Int32)), .val (.ref w)] [(.int (5 : Int32)), (.ref w), (.int (5 : Int32)), (.ref b1), (.ref b1)])) _
    refine X31.caload hx (j := (5 : Int32)) (v := (.int c5)) (by rw [e31]; exact Ar36.1) (State.isArrayOf_alike hZ.alike Ar36.2.1) Ar36.2.2 in36 at36 (g := (mkF m 228 #[.val (.int (7 : Int32)), .val (.ref w)] [(.int (5 : Int32)), (.ref w), (.int (5 : Int32)), (.ref b1), (.ref b1)])) rfl rfl (hb hby d3_228) _ ?_
    show Steps p.tables e below (T31.setTop (mkF m 229 #[.val (.int (7 : Int32)), .val (.ref w)] [(.int c5), (.int (5 : Int32)), (.ref b1), (.ref b1)])) _
    refine st37 _ ?_
    refine XS.dup X37.here hx rfl (hb hby d3_230) rfl rfl ?_
    refine XS.bipush X37.here hx rfl (hb hby d3_231) ?_
    refine XS.aloadN X37.here hx rfl (hb hby d3_233) rfl rfl ?_
    refine XS.bipush X37.here hx rfl (hb hby d3_234) ?_
    show Steps p.tables e below (T37.setTop (mkF m 236 #[.val (.int (7 : Int32)), .val (.ref w)] [(.int (6 : Int32)), (.ref w), (.int (6 : Int32)), (.ref b1), (.ref b1)])) _
    refine X37.caload hx (j := (6 : Int32)) (v := (.int c6)) (by rw [e37]; exact Ar42.1) (State.isArrayOf_alike hZ.alike Ar42.2.1) Ar42.2.2 in42 at42 (g := (mkF m 236 #[.val (.int (7 : Int32)), .val (.ref w)] [(.int (6 : Int32)), (.ref w), (.int (6 : Int32)), (.ref b1), (.ref b1)])) rfl rfl (hb hby d3_236) _ ?_
    show Steps p.tables e below (T37.setTop (mkF m 237 #[.val (.int (7 : Int32)), .val (.ref w)] [(.int c6), (.int (6 : Int32)), (.ref b1), (.ref b1)])) _
    refine st43 _ ?_
    exact kt
  obtain ⟨fs, hr, hrun, hended, hW, hsame⟩ := X43.leave (v := some (.ref b1)) (fun h => by rw [Bd.returns] at h; cases h)
  refine ⟨_, _, pre0 _ (S47 _ ?_), hrun, hended, _, _, rfl, ?_, ⟨_, rfl⟩, hW, hsame.mono (by decide) (by decide)⟩
  · exact retOut X43 hx Bd.returns rfl (Or.inr (Or.inr (Or.inr (Or.inr ⟨rfl, rfl, rfl⟩)))) (hb hby d3_238) hr
  · show Q_rm_cut7 Z w kw c0 c1 c2 c3 c4 c5 c6 h0 n0 _ T43.heap _
    rw [e43]
    exact ⟨b1, k1, rfl, N46, K45, sz_b1, F43⟩
theorem d4_0 : decode prog_22_method_4_code 0 = .ok (.aload_n 0, 1) := by decide +kernel
theorem d4_1 : decode prog_22_method_4_code 1 = .ok (.ldc 46, 2) := by decide +kernel
theorem d4_3 : decode prog_22_method_4_code 3 = .ok (.invokevirtual 48, 3) := by decide +kernel
theorem pd_1 : parseMethodDescriptor "(Ljava/lang/Object;)Z" = some ⟨[(.object "java/lang/Object")], some .boolean⟩ := by decide +kernel
theorem d4_6 : decode prog_22_method_4_code 6 = .ok (.ifCond .eq 9, 3) := by decide +kernel
theorem d4_15 : decode prog_22_method_4_code 15 = .ok (.getstatic 7, 3) := by decide +kernel
theorem d4_18 : decode prog_22_method_4_code 18 = .ok (.areturn, 1) := by decide +kernel
theorem pn_2 : plainName "com/example/favonius/favonius/phrank/Variant" = true := by first | (simp [plainName, overriddenIn]; done) | decide +kernel
theorem ef_rm_df0 (m : MethodId) (x0 : Addr) : entryFrame m #[(.ref x0)] 1 = mkF m 0 #[.val (.ref x0)] [] := by first | (simp [entryFrame, mkF, argsToLocals, Value.category]; done) | rfl
def Q_rm_df0 (Z : State) (x : Addr) (tx : Addr) (kx : ClassId) (zc : Int32) (wR : Addr) (wZ : Addr) (h0 : Heap) (n0 : Nat) (v : Option Value) (h : Heap) (L : List Loc) : Prop := ((v = some (.ref wZ)) ∧ (Fr n0 L) ∧ (Keep h0 h []))
set_option maxRecDepth 65536 in
set_option maxHeartbeats 40000000 in
theorem rm_df0 (l : Launch) (Z : State) (a0 : Array Value) (hw : ∀ d ∈ tables_1, d.before a0 Z = true) (ws : List Jvm.Cond) (x : Addr) (tx : Addr) (kx : ClassId) (zc : Int32) (wR : Addr) (wZ : Addr) (h0 : Heap) (n0 : Nat) (O0 : Old Z n0 h0) (E_x : Exa Z h0 x "java/lang/String") (V_x : Fld Z h0 x "java/lang/String" "value" "[B" (.ref tx)) (C_x : Fld Z h0 x "java/lang/String" "coder" "B" (.int (0 : Int32))) (K_x : Arv Z h0 tx kx .byte (0 : Int32) [] (.int (0 : Int32))) (S_C : Sta Z Z.heap "java/lang/String" "COMPACT_STRINGS" "Z" (.int zc)) (hzc : ¬ (zc = (0 : Int32))) (S_R : Sta Z Z.heap "com/example/favonius/favonius/phrank/Variant" "R_FREE" "Lcom/example/favonius/favonius/phrank/Variant;" (.ref wR)) (S_Z : Sta Z Z.heap "com/example/favonius/favonius/phrank/Variant" "Z_FREE" "Lcom/example/favonius/favonius/phrank/Variant;" (.ref wZ)) :
    MetFree l (⟨"com/example/favonius/favonius/phrank/Variant", "defaultFor", "(Ljava/lang/String;)Lcom/example/favonius/favonius/phrank/Variant;"⟩ : MethodName) (head1 (Jvm.Cond.code (⟨"com/example/favonius/favonius/phrank/Variant", "defaultFor", "(Ljava/lang/String;)Lcom/example/favonius/favonius/phrank/Variant;"⟩ : MethodName) prog_22_method_4_code 1 (some (.object "com/example/favonius/favonius/phrank/Variant")) :: ws) ({ frames := 2, cells := 2, slots := 24, locals := 28 } : Room)) (fun a U => a = #[(.ref x)] ∧ Z.Warmed39 U.vm ∧ U.heap = h0 ∧ CHv Z own_EL U.vm h0 ∧ ∀ own_y ∈ ([] : List Addr), Safe Z own_EL U.vm h0 own_y) (fun _ _ _ _ _ => True) (fun _ U o U' => ∃ v L, o = .returned v ∧ Q_rm_df0 Z x tx kx zc wR wZ h0 n0 v U'.heap L ∧ CHr Z own_EL U.vm U.heap U'.vm U'.heap ∧ ReturnedEndW U o U' L ({ frames := 2, cells := 2, slots := 24, locals := 28 } : Room).cells ({ frames := 2, cells := 2, slots := 24, locals := 28 } : Room).slots) := by
  refine MetFree.of_bodySF (plainFor_of_name pn_2) hisR ?_
  intro p e s m args below meth c s₁ Bd hml0 hP hK
  obtain ⟨rfl, hZ, hh, hCH, hSf⟩ := hP
  have hx := Bd.exec
  have hby := Bd.bytes
  have hml : c.maxLocals = 1 := hml0
  have hown : s.vm.findClass "com/example/favonius/favonius/phrank/Variant" = some m.cls := findClass_of_methodNamed Bd.named
  have hnm := (name_of_methodNamed Bd.named Bd.method).1
  have X0 : Stand p l e ({ frames := 2, cells := 2, slots := 24, locals := 28 } : Room) (s.setVm s.vm) m #[(.ref x)] below meth c s₁ [] 0 0 := Stand.of_body Bd
  have e0 : s₁.heap = h0 := by rw [← hh, Bd.state]; rfl
  have N0 := Fr.nil n0
  have hZ0 := hZ
  have ho0 := hown
  have hS0 : s.Since s.vm 0 := (State.WarmedH.refl s).since 0
  have hk0 : 0 ≤ h0.size := Nat.zero_le _
  have CR0 : CHr Z own_EL s.vm h0 s.vm h0 := CHr.refl hCH
  have own_at : ∀ d ∈ Bundle.stringAtoms, d.before a0 Z = true := fun d hd => hw d (own_atoms d hd)
  have own_ew : EW Z a0 own_EL := own_EWof hw
  have hwq : ∀ d ∈ StrChars.Road.wordsEq, d.before a0 Z = true := fun d hd => hw d (own_wordsEq d hd)
  have hws : ∀ d ∈ StrChars.Road.words, d.before a0 Z = true := fun d hd => hw d (own_words d hd)
  have K0 : Keep h0 h0 [] := Keep.refl _ _
  have pre0 : ∀ t, Steps p.tables e below (s₁.setTop (mkF m 0 #[.val (.ref x)] [])) t → Steps p.tables e below (s₁.setTop (entryFrame m #[(.ref x)] 1)) t := fun t k => castTop (ef_rm_df0 m x) k
  obtain ⟨x1, T1, h1, q1, y1, j1, X1, e1, E1, hS1, hk1, hZ1, ho1, fE1, fC1, fV1, fA1, la1, lb1, C1, -, ns1, st1⟩ := ldcCH X0 hx hZ0 ho0 (own_w hw 34 rfl) own_at e0 hS0 hk0 own_ew (by decide) CR0.1 (vs := [(.int (116 : Int32).toInt8.toInt32), (.int (105 : Int32).toInt8.toInt32), (.int (116 : Int32).toInt8.toInt32), (.int (108 : Int32).toInt8.toInt32), (.int (101 : Int32).toInt8.toInt32)]) (z := (5 : Int32)) ⟨by decide, by decide +kernel⟩ (by decide) rfl (g := (mkF m 1 #[.val (.ref x)] [(.ref x)])) rfl (hb hby d4_1) (n := 20) (by decide) (by decide) (by decide) (by decide)
  have O2 := O0.ext E1
  have K3 : Keep h0 h1 [] := K0.ext E1
  have CR4 := CR0.trans C1
  have f6 := (Exa.ext E1 E_x)
  have f7 := (Fld.ext E1 V_x)
  have f8 := (Fld.ext E1 C_x)
  have f9 := (Arv.ext K_x E1)
  have la10 : ∀ c ∈ ([] : List Int32), ¬ c < 0 ∧ ¬ (255 : Int32) < c := fun c hc => nomatch hc
  have cd10 : StrChars.Road.CodA ([] : List Int32) 0 (0 : Int32) [] := StrChars.Road.codOf (n := 0) rfl (fun x hx => (la10 x hx).2)
  have bd10 := own_up la10
  have la11 : ∀ c ∈ ([(116 : Int32), (105 : Int32), (116 : Int32), (108 : Int32), (101 : Int32)] : List Int32), ¬ c < 0 ∧ ¬ (255 : Int32) < c := by
    intro c hc
    simp only [List.mem_cons, List.not_mem_nil, or_false] at hc
    rcases hc with rfl | rfl | rfl | rfl | rfl
    · exact ⟨by decide, by decide⟩
    · exact ⟨by decide, by decide⟩
    · exact ⟨by decide, by decide⟩
    · exact ⟨by decide, by decide⟩
    · exact ⟨by decide, by decide⟩
  have cd11 : StrChars.Road.CodA ([(116 : Int32), (105 : Int32), (116 : Int32), (108 : Int32), (101 : Int32)] : List Int32) 0 (5 : Int32) [(.int (116 : Int32).toInt8.toInt32), (.int (105 : Int32).toInt8.toInt32), (.int (116 : Int32).toInt8.toInt32), (.int (108 : Int32).toInt8.toInt32), (.int (101 : Int32).toInt8.toInt32)] := StrChars.Road.codOf (n := 5) rfl (fun x hx => (la11 x hx).2)
  have bd11 := own_up la11
  obtain ⟨cq5, kq5, q5a, q5b, q5c⟩ := isOf hZ1 e1 f6
  obtain ⟨_, _, ⟨T5, L5, k5, n5⟩, -, X5, ⟨Lc5, hQ5, l5, y5, z5⟩, st5⟩ := X1.virtualBack hx (y := (⟨"java/lang/String", "equals", "(Ljava/lang/Object;)Z"⟩ : MethodName)) (z := (⟨"java/lang/String", "equals", "(Ljava/lang/Object;)Z"⟩ : MethodName)) ho1 (mvT hZ1 (own_w hw 35 rfl)) (mvT hZ1 (own_w hw 36 rfl)) (notFace_of_selects (args := #[]) (mvT hZ1 (own_w hw 38 rfl))) (mvT hZ1 (own_w hw 38 rfl)) (mvT hZ1 (own_w hw 37 rfl)) (by decide) (StrChars.Road.eqW (W := 0) hZ1 hwq (kI := 4) (own_w hw 7 rfl) (cs := []) f6 f7 f8 f9 cd10 bd10 (by show 0 ≤ 4000; decide) (ds := [(116 : Int32), (105 : Int32), (116 : Int32), (108 : Int32), (101 : Int32)]) fE1 fV1 fC1 fA1 cd11 bd11 (by show 5 ≤ 4000; decide) (S_C.ext O2.2) hzc (by decide) (by decide)) q5a q5c (g := (mkF m 3 #[.val (.ref x)] [(.ref x1), (.ref x)])) rfl (by rw [hml]; rfl) (Steps.refl _) (argsL := [(.ref x1)]) (rest := []) (lenOf pd_1 rfl) rfl (by show 2 * 0 + _ ≤ _; exact Nat.le_of_eq rfl) (hb hby d4_3) (fun _ _ => ⟨rfl, e1, (by decide : 2 + 0 ≤ _), (by decide : 24 + 0 ≤ _)⟩)
  dsimp only [Pt.U, Pt.locs, Pt.cells, Pt.slots] at X5 l5 y5 z5 st5 hQ5
  subst l5 y5 z5
  obtain ⟨hQ5, rfl, k12⟩ := hQ5
  have N14 := Fr.app N0 (Fr.nil n0)
  rcases hQ5 with ⟨rfl, c13⟩ | ⟨rfl, c13⟩
  · exact absurd c13 (fun q => by have := congrArg List.length q; simp at this)
  · obtain ⟨T15, X15, e15, st15⟩ := getS2 X5 hx hZ1 ho1 (host := "") (Or.inl (own_w hw 46 rfl)) Via.refl k12 (S_Z.ext O2.2) (g := (mkF m 15 #[.val (.ref x)] [])) rfl (hb hby d4_15)
    have S16 : ∀ t, Steps p.tables e below (T15.setTop (mkF m 18 #[.val (.ref x)] [(.ref wZ)])) t → Steps p.tables e below (s₁.setTop (mkF m 0 #[.val (.ref x)] [])) t := by
      intro t kt
      refine XS.aloadN X0.here hx rfl (hb hby d4_0) rfl rfl ?_
      show Steps p.tables e below (s₁.setTop (mkF m 1 #[.val (.ref x)] [(.ref x)])) _
      refine st1 _ ?_
      show Steps p.tables e below (T1.setTop (mkF m 3 #[.val (.ref x)] [(.ref x1), (.ref x)])) _
      refine st5.trans ?_
      refine XS.ifYes X5.here hx rfl (pc0 := 6) (pc' := 15) rfl (hb hby d4_6) rfl ((if0 _ _).trans (teq ((by decide) : (0 : Int32) = (0 : Int32))).1) (by decide) (by decide) ?_
      show Steps p.tables e below (T5.setTop (mkF m 15 #[.val (.ref x)] [])) _
      refine st15 _ ?_
      exact kt
    obtain ⟨fs, hr, hrun, hended, hRW⟩ := X15.leaveW hS1 (by rw [e15]; exact hk1) (v := some (.ref wZ)) (fun h => by rw [Bd.returns] at h; cases h)
    refine ⟨_, _, pre0 _ (S16 _ ?_), hrun, hended, _, _, rfl, ?_, ?_, hRW.1, hRW.2.1, hRW.2.2.1, hRW.2.2.2.mono (by decide) (by decide)⟩
    · exact retOut X15 hx Bd.returns rfl (Or.inr (Or.inr (Or.inr (Or.inr ⟨rfl, rfl, rfl⟩)))) (hb hby d4_18) hr
    · show Q_rm_df0 Z x tx kx zc wR wZ h0 n0 _ T15.heap _
      rw [e15]
      exact ⟨rfl, N14, K3⟩
    · show CHr Z own_EL s.vm s.heap T15.vm T15.heap
      rw [hh, e15]
      exact CR4.trans (CHv.at X15 hZ1 own_ew CR4.1)
theorem ef_rm_df1 (m : MethodId) (x0 : Addr) : entryFrame m #[(.ref x0)] 1 = mkF m 0 #[.val (.ref x0)] [] := by first | (simp [entryFrame, mkF, argsToLocals, Value.category]; done) | rfl
def Q_rm_df1 (Z : State) (x : Addr) (tx : Addr) (kx : ClassId) (c0 : Int32) (zc : Int32) (wR : Addr) (wZ : Addr) (h0 : Heap) (n0 : Nat) (v : Option Value) (h : Heap) (L : List Loc) : Prop := ((v = some (.ref wZ)) ∧ (Fr n0 L) ∧ (Keep h0 h []))
set_option maxRecDepth 65536 in
set_option maxHeartbeats 40000000 in
theorem rm_df1 (l : Launch) (Z : State) (a0 : Array Value) (hw : ∀ d ∈ tables_1, d.before a0 Z = true) (ws : List Jvm.Cond) (x : Addr) (tx : Addr) (kx : ClassId) (c0 : Int32) (zc : Int32) (wR : Addr) (wZ : Addr) (h0 : Heap) (n0 : Nat) (O0 : Old Z n0 h0) (E_x : Exa Z h0 x "java/lang/String") (V_x : Fld Z h0 x "java/lang/String" "value" "[B" (.ref tx)) (C_x : Fld Z h0 x "java/lang/String" "coder" "B" (.int (0 : Int32))) (K_x : Arv Z h0 tx kx .byte (1 : Int32) [(.int c0.toInt8.toInt32)] (.int (0 : Int32))) (la_c0 : ¬ (c0 < (0 : Int32)) ∧ ¬ ((255 : Int32) < c0)) (S_C : Sta Z Z.heap "java/lang/String" "COMPACT_STRINGS" "Z" (.int zc)) (hzc : ¬ (zc = (0 : Int32))) (S_R : Sta Z Z.heap "com/example/favonius/favonius/phrank/Variant" "R_FREE" "Lcom/example/favonius/favonius/phrank/Variant;" (.ref wR)) (S_Z : Sta Z Z.heap "com/example/favonius/favonius/phrank/Variant" "Z_FREE" "Lcom/example/favonius/favonius/phrank/Variant;" (.ref wZ)) :
    MetFree l (⟨"com/example/favonius/favonius/phrank/Variant", "defaultFor", "(Ljava/lang/String;)Lcom/example/favonius/favonius/phrank/Variant;"⟩ : MethodName) (head1 (Jvm.Cond.code (⟨"com/example/favonius/favonius/phrank/Variant", "defaultFor", "(Ljava/lang/String;)Lcom/example/favonius/favonius/phrank/Variant;"⟩ : MethodName) prog_22_method_4_code 1 (some (.object "com/example/favonius/favonius/phrank/Variant")) :: ws) ({ frames := 2, cells := 2, slots := 24, locals := 28 } : Room)) (fun a U => a = #[(.ref x)] ∧ Z.Warmed39 U.vm ∧ U.heap = h0 ∧ CHv Z own_EL U.vm h0 ∧ ∀ own_y ∈ ([] : List Addr), Safe Z own_EL U.vm h0 own_y) (fun _ _ _ _ _ => True) (fun _ U o U' => ∃ v L, o = .returned v ∧ Q_rm_df1 Z x tx kx c0 zc wR wZ h0 n0 v U'.heap L ∧ CHr Z own_EL U.vm U.heap U'.vm U'.heap ∧ ReturnedEndW U o U' L ({ frames := 2, cells := 2, slots := 24, locals := 28 } : Room).cells ({ frames := 2, cells := 2, slots := 24, locals := 28 } : Room).slots) := by
  refine MetFree.of_bodySF (plainFor_of_name pn_2) hisR ?_
  intro p e s m args below meth c s₁ Bd hml0 hP hK
  obtain ⟨rfl, hZ, hh, hCH, hSf⟩ := hP
  have hx := Bd.exec
  have hby := Bd.bytes
  have hml : c.maxLocals = 1 := hml0
  have hown : s.vm.findClass "com/example/favonius/favonius/phrank/Variant" = some m.cls := findClass_of_methodNamed Bd.named
  have hnm := (name_of_methodNamed Bd.named Bd.method).1
  have X0 : Stand p l e ({ frames := 2, cells := 2, slots := 24, locals := 28 } : Room) (s.setVm s.vm) m #[(.ref x)] below meth c s₁ [] 0 0 := Stand.of_body Bd
  have e0 : s₁.heap = h0 := by rw [← hh, Bd.state]; rfl
  have N0 := Fr.nil n0
  have hZ0 := hZ
  have ho0 := hown
  have hS0 : s.Since s.vm 0 := (State.WarmedH.refl s).since 0
  have hk0 : 0 ≤ h0.size := Nat.zero_le _
  have CR0 : CHr Z own_EL s.vm h0 s.vm h0 := CHr.refl hCH
  have own_at : ∀ d ∈ Bundle.stringAtoms, d.before a0 Z = true := fun d hd => hw d (own_atoms d hd)
  have own_ew : EW Z a0 own_EL := own_EWof hw
  have hwq : ∀ d ∈ StrChars.Road.wordsEq, d.before a0 Z = true := fun d hd => hw d (own_wordsEq d hd)
  have hws : ∀ d ∈ StrChars.Road.words, d.before a0 Z = true := fun d hd => hw d (own_words d hd)
  have K0 : Keep h0 h0 [] := Keep.refl _ _
  have pre0 : ∀ t, Steps p.tables e below (s₁.setTop (mkF m 0 #[.val (.ref x)] [])) t → Steps p.tables e below (s₁.setTop (entryFrame m #[(.ref x)] 1)) t := fun t k => castTop (ef_rm_df1 m x) k
  obtain ⟨x1, T1, h1, q1, y1, j1, X1, e1, E1, hS1, hk1, hZ1, ho1, fE1, fC1, fV1, fA1, la1, lb1, C1, -, ns1, st1⟩ := ldcCH X0 hx hZ0 ho0 (own_w hw 34 rfl) own_at e0 hS0 hk0 own_ew (by decide) CR0.1 (vs := [(.int (116 : Int32).toInt8.toInt32), (.int (105 : Int32).toInt8.toInt32), (.int (116 : Int32).toInt8.toInt32), (.int (108 : Int32).toInt8.toInt32), (.int (101 : Int32).toInt8.toInt32)]) (z := (5 : Int32)) ⟨by decide, by decide +kernel⟩ (by decide) rfl (g := (mkF m 1 #[.val (.ref x)] [(.ref x)])) rfl (hb hby d4_1) (n := 20) (by decide) (by decide) (by decide) (by decide)
  have O2 := O0.ext E1
  have K3 : Keep h0 h1 [] := K0.ext E1
  have CR4 := CR0.trans C1
  have f6 := (Exa.ext E1 E_x)
  have f7 := (Fld.ext E1 V_x)
  have f8 := (Fld.ext E1 C_x)
  have f9 := (Arv.ext K_x E1)
  have la10 : ∀ c ∈ ([c0] : List Int32), ¬ c < 0 ∧ ¬ (255 : Int32) < c := by
    intro c hc
    simp only [List.mem_cons, List.not_mem_nil, or_false] at hc
    rcases hc with rfl
    · exact la_c0
  have cd10 : StrChars.Road.CodA ([c0] : List Int32) 0 (1 : Int32) [(.int c0.toInt8.toInt32)] := StrChars.Road.codOf (n := 1) rfl (fun x hx => (la10 x hx).2)
  have bd10 := own_up la10
  have la11 : ∀ c ∈ ([(116 : Int32), (105 : Int32), (116 : Int32), (108 : Int32), (101 : Int32)] : List Int32), ¬ c < 0 ∧ ¬ (255 : Int32) < c := by
    intro c hc
    simp only [List.mem_cons, List.not_mem_nil, or_false] at hc
    rcases hc with rfl | rfl | rfl | rfl | rfl
    · exact ⟨by decide, by decide⟩
    · exact ⟨by decide, by decide⟩
    · exact ⟨by decide, by decide⟩
    · exact ⟨by decide, by decide⟩
    · exact ⟨by decide, by decide⟩
  have cd11 : StrChars.Road.CodA ([(116 : Int32), (105 : Int32), (116 : Int32), (108 : Int32), (101 : Int32)] : List Int32) 0 (5 : Int32) [(.int (116 : Int32).toInt8.toInt32), (.int (105 : Int32).toInt8.toInt32), (.int (116 : Int32).toInt8.toInt32), (.int (108 : Int32).toInt8.toInt32), (.int (101 : Int32).toInt8.toInt32)] := StrChars.Road.codOf (n := 5) rfl (fun x hx => (la11 x hx).2)
  have bd11 := own_up la11
  obtain ⟨cq5, kq5, q5a, q5b, q5c⟩ := isOf hZ1 e1 f6
  obtain ⟨_, _, ⟨T5, L5, k5, n5⟩, -, X5, ⟨Lc5, hQ5, l5, y5, z5⟩, st5⟩ := X1.virtualBack hx (y := (⟨"java/lang/String", "equals", "(Ljava/lang/Object;)Z"⟩ : MethodName)) (z := (⟨"java/lang/String", "equals", "(Ljava/lang/Object;)Z"⟩ : MethodName)) ho1 (mvT hZ1 (own_w hw 35 rfl)) (mvT hZ1 (own_w hw 36 rfl)) (notFace_of_selects (args := #[]) (mvT hZ1 (own_w hw 38 rfl))) (mvT hZ1 (own_w hw 38 rfl)) (mvT hZ1 (own_w hw 37 rfl)) (by decide) (StrChars.Road.eqW (W := 0) hZ1 hwq (kI := 4) (own_w hw 7 rfl) (cs := [c0]) f6 f7 f8 f9 cd10 bd10 (by show 1 ≤ 4000; decide) (ds := [(116 : Int32), (105 : Int32), (116 : Int32), (108 : Int32), (101 : Int32)]) fE1 fV1 fC1 fA1 cd11 bd11 (by show 5 ≤ 4000; decide) (S_C.ext O2.2) hzc (by decide) (by decide)) q5a q5c (g := (mkF m 3 #[.val (.ref x)] [(.ref x1), (.ref x)])) rfl (by rw [hml]; rfl) (Steps.refl _) (argsL := [(.ref x1)]) (rest := []) (lenOf pd_1 rfl) rfl (by show 2 * 0 + _ ≤ _; exact Nat.le_of_eq rfl) (hb hby d4_3) (fun _ _ => ⟨rfl, e1, (by decide : 2 + 0 ≤ _), (by decide : 24 + 0 ≤ _)⟩)
  dsimp only [Pt.U, Pt.locs, Pt.cells, Pt.slots] at X5 l5 y5 z5 st5 hQ5
  subst l5 y5 z5
  obtain ⟨hQ5, rfl, k12⟩ := hQ5
  have N14 := Fr.app N0 (Fr.nil n0)
  rcases hQ5 with ⟨rfl, c13⟩ | ⟨rfl, c13⟩
  · exact absurd c13 (fun q => by have := congrArg List.length q; simp at this)
  · obtain ⟨T15, X15, e15, st15⟩ := getS2 X5 hx hZ1 ho1 (host := "") (Or.inl (own_w hw 46 rfl)) Via.refl k12 (S_Z.ext O2.2) (g := (mkF m 15 #[.val (.ref x)] [])) rfl (hb hby d4_15)
    have S16 : ∀ t, Steps p.tables e below (T15.setTop (mkF m 18 #[.val (.ref x)] [(.ref wZ)])) t → Steps p.tables e below (s₁.setTop (mkF m 0 #[.val (.ref x)] [])) t := by
      intro t kt
      refine XS.aloadN X0.here hx rfl (hb hby d4_0) rfl rfl ?_
      show Steps p.tables e below (s₁.setTop (mkF m 1 #[.val (.ref x)] [(.ref x)])) _
      refine st1 _ ?_
      show Steps p.tables e below (T1.setTop (mkF m 3 #[.val (.ref x)] [(.ref x1), (.ref x)])) _
      refine st5.trans ?_
      refine XS.ifYes X5.here hx rfl (pc0 := 6) (pc' := 15) rfl (hb hby d4_6) rfl ((if0 _ _).trans (teq ((by decide) : (0 : Int32) = (0 : Int32))).1) (by decide) (by decide) ?_
      show Steps p.tables e below (T5.setTop (mkF m 15 #[.val (.ref x)] [])) _
      refine st15 _ ?_
      exact kt
    obtain ⟨fs, hr, hrun, hended, hRW⟩ := X15.leaveW hS1 (by rw [e15]; exact hk1) (v := some (.ref wZ)) (fun h => by rw [Bd.returns] at h; cases h)
    refine ⟨_, _, pre0 _ (S16 _ ?_), hrun, hended, _, _, rfl, ?_, ?_, hRW.1, hRW.2.1, hRW.2.2.1, hRW.2.2.2.mono (by decide) (by decide)⟩
    · exact retOut X15 hx Bd.returns rfl (Or.inr (Or.inr (Or.inr (Or.inr ⟨rfl, rfl, rfl⟩)))) (hb hby d4_18) hr
    · show Q_rm_df1 Z x tx kx c0 zc wR wZ h0 n0 _ T15.heap _
      rw [e15]
      exact ⟨rfl, N14, K3⟩
    · show CHr Z own_EL s.vm s.heap T15.vm T15.heap
      rw [hh, e15]
      exact CR4.trans (CHv.at X15 hZ1 own_ew CR4.1)
theorem ef_rm_df2 (m : MethodId) (x0 : Addr) : entryFrame m #[(.ref x0)] 1 = mkF m 0 #[.val (.ref x0)] [] := by first | (simp [entryFrame, mkF, argsToLocals, Value.category]; done) | rfl
def Q_rm_df2 (Z : State) (x : Addr) (tx : Addr) (kx : ClassId) (c0 : Int32) (c1 : Int32) (zc : Int32) (wR : Addr) (wZ : Addr) (h0 : Heap) (n0 : Nat) (v : Option Value) (h : Heap) (L : List Loc) : Prop := ((v = some (.ref wZ)) ∧ (Fr n0 L) ∧ (Keep h0 h []))
set_option maxRecDepth 65536 in
set_option maxHeartbeats 40000000 in
theorem rm_df2 (l : Launch) (Z : State) (a0 : Array Value) (hw : ∀ d ∈ tables_1, d.before a0 Z = true) (ws : List Jvm.Cond) (x : Addr) (tx : Addr) (kx : ClassId) (c0 : Int32) (c1 : Int32) (zc : Int32) (wR : Addr) (wZ : Addr) (h0 : Heap) (n0 : Nat) (O0 : Old Z n0 h0) (E_x : Exa Z h0 x "java/lang/String") (V_x : Fld Z h0 x "java/lang/String" "value" "[B" (.ref tx)) (C_x : Fld Z h0 x "java/lang/String" "coder" "B" (.int (0 : Int32))) (K_x : Arv Z h0 tx kx .byte (2 : Int32) [(.int c0.toInt8.toInt32), (.int c1.toInt8.toInt32)] (.int (0 : Int32))) (la_c0 : ¬ (c0 < (0 : Int32)) ∧ ¬ ((255 : Int32) < c0)) (la_c1 : ¬ (c1 < (0 : Int32)) ∧ ¬ ((255 : Int32) < c1)) (S_C : Sta Z Z.heap "java/lang/String" "COMPACT_STRINGS" "Z" (.int zc)) (hzc : ¬ (zc = (0 : Int32))) (S_R : Sta Z Z.heap "com/example/favonius/favonius/phrank/Variant" "R_FREE" "Lcom/example/favonius/favonius/phrank/Variant;" (.ref wR)) (S_Z : Sta Z Z.heap "com/example/favonius/favonius/phrank/Variant" "Z_FREE" "Lcom/example/favonius/favonius/phrank/Variant;" (.ref wZ)) :
    MetFree l (⟨"com/example/favonius/favonius/phrank/Variant", "defaultFor", "(Ljava/lang/String;)Lcom/example/favonius/favonius/phrank/Variant;"⟩ : MethodName) (head1 (Jvm.Cond.code (⟨"com/example/favonius/favonius/phrank/Variant", "defaultFor", "(Ljava/lang/String;)Lcom/example/favonius/favonius/phrank/Variant;"⟩ : MethodName) prog_22_method_4_code 1 (some (.object "com/example/favonius/favonius/phrank/Variant")) :: ws) ({ frames := 2, cells := 2, slots := 24, locals := 28 } : Room)) (fun a U => a = #[(.ref x)] ∧ Z.Warmed39 U.vm ∧ U.heap = h0 ∧ CHv Z own_EL U.vm h0 ∧ ∀ own_y ∈ ([] : List Addr), Safe Z own_EL U.vm h0 own_y) (fun _ _ _ _ _ => True) (fun _ U o U' => ∃ v L, o = .returned v ∧ Q_rm_df2 Z x tx kx c0 c1 zc wR wZ h0 n0 v U'.heap L ∧ CHr Z own_EL U.vm U.heap U'.vm U'.heap ∧ ReturnedEndW U o U' L ({ frames := 2, cells := 2, slots := 24, locals := 28 } : Room).cells ({ frames := 2, cells := 2, slots := 24, locals := 28 } : Room).slots) := by
  refine MetFree.of_bodySF (plainFor_of_name pn_2) hisR ?_
  intro p e s m args below meth c s₁ Bd hml0 hP hK
  obtain ⟨rfl, hZ, hh, hCH, hSf⟩ := hP
  have hx := Bd.exec
  have hby := Bd.bytes
  have hml : c.maxLocals = 1 := hml0
  have hown : s.vm.findClass "com/example/favonius/favonius/phrank/Variant" = some m.cls := findClass_of_methodNamed Bd.named
  have hnm := (name_of_methodNamed Bd.named Bd.method).1
  have X0 : Stand p l e ({ frames := 2, cells := 2, slots := 24, locals := 28 } : Room) (s.setVm s.vm) m #[(.ref x)] below meth c s₁ [] 0 0 := Stand.of_body Bd
  have e0 : s₁.heap = h0 := by rw [← hh, Bd.state]; rfl
  have N0 := Fr.nil n0
  have hZ0 := hZ
  have ho0 := hown
  have hS0 : s.Since s.vm 0 := (State.WarmedH.refl s).since 0
  have hk0 : 0 ≤ h0.size := Nat.zero_le _
  have CR0 : CHr Z own_EL s.vm h0 s.vm h0 := CHr.refl hCH
  have own_at : ∀ d ∈ Bundle.stringAtoms, d.before a0 Z = true := fun d hd => hw d (own_atoms d hd)
  have own_ew : EW Z a0 own_EL := own_EWof hw
  have hwq : ∀ d ∈ StrChars.Road.wordsEq, d.before a0 Z = true := fun d hd => hw d (own_wordsEq d hd)
  have hws : ∀ d ∈ StrChars.Road.words, d.before a0 Z = true := fun d hd => hw d (own_words d hd)
  have K0 : Keep h0 h0 [] := Keep.refl _ _
  have pre0 : ∀ t, Steps p.tables e below (s₁.setTop (mkF m 0 #[.val (.ref x)] [])) t → Steps p.tables e below (s₁.setTop (entryFrame m #[(.ref x)] 1)) t := fun t k => castTop (ef_rm_df2 m x) k
  obtain ⟨x1, T1, h1, q1, y1, j1, X1, e1, E1, hS1, hk1, hZ1, ho1, fE1, fC1, fV1, fA1, la1, lb1, C1, -, ns1, st1⟩ := ldcCH X0 hx hZ0 ho0 (own_w hw 34 rfl) own_at e0 hS0 hk0 own_ew (by decide) CR0.1 (vs := [(.int (116 : Int32).toInt8.toInt32), (.int (105 : Int32).toInt8.toInt32), (.int (116 : Int32).toInt8.toInt32), (.int (108 : Int32).toInt8.toInt32), (.int (101 : Int32).toInt8.toInt32)]) (z := (5 : Int32)) ⟨by decide, by decide +kernel⟩ (by decide) rfl (g := (mkF m 1 #[.val (.ref x)] [(.ref x)])) rfl (hb hby d4_1) (n := 20) (by decide) (by decide) (by decide) (by decide)
  have O2 := O0.ext E1
  have K3 : Keep h0 h1 [] := K0.ext E1
  have CR4 := CR0.trans C1
  have f6 := (Exa.ext E1 E_x)
  have f7 := (Fld.ext E1 V_x)
  have f8 := (Fld.ext E1 C_x)
  have f9 := (Arv.ext K_x E1)
  have la10 : ∀ c ∈ ([c0, c1] : List Int32), ¬ c < 0 ∧ ¬ (255 : Int32) < c := by
    intro c hc
    simp only [List.mem_cons, List.not_mem_nil, or_false] at hc
    rcases hc with rfl | rfl
    · exact la_c0
    · exact la_c1
  have cd10 : StrChars.Road.CodA ([c0, c1] : List Int32) 0 (2 : Int32) [(.int c0.toInt8.toInt32), (.int c1.toInt8.toInt32)] := StrChars.Road.codOf (n := 2) rfl (fun x hx => (la10 x hx).2)
  have bd10 := own_up la10
  have la11 : ∀ c ∈ ([(116 : Int32), (105 : Int32), (116 : Int32), (108 : Int32), (101 : Int32)] : List Int32), ¬ c < 0 ∧ ¬ (255 : Int32) < c := by
    intro c hc
    simp only [List.mem_cons, List.not_mem_nil, or_false] at hc
    rcases hc with rfl | rfl | rfl | rfl | rfl
    · exact ⟨by decide, by decide⟩
    · exact ⟨by decide, by decide⟩
    · exact ⟨by decide, by decide⟩
    · exact ⟨by decide, by decide⟩
    · exact ⟨by decide, by decide⟩
  have cd11 : StrChars.Road.CodA ([(116 : Int32), (105 : Int32), (116 : Int32), (108 : Int32), (101 : Int32)] : List Int32) 0 (5 : Int32) [(.int (116 : Int32).toInt8.toInt32), (.int (105 : Int32).toInt8.toInt32), (.int (116 : Int32).toInt8.toInt32), (.int (108 : Int32).toInt8.toInt32), (.int (101 : Int32).toInt8.toInt32)] := StrChars.Road.codOf (n := 5) rfl (fun x hx => (la11 x hx).2)
  have bd11 := own_up la11
  obtain ⟨cq5, kq5, q5a, q5b, q5c⟩ := isOf hZ1 e1 f6
  obtain ⟨_, _, ⟨T5, L5, k5, n5⟩, -, X5, ⟨Lc5, hQ5, l5, y5, z5⟩, st5⟩ := X1.virtualBack hx (y := (⟨"java/lang/String", "equals", "(Ljava/lang/Object;)Z"⟩ : MethodName)) (z := (⟨"java/lang/String", "equals", "(Ljava/lang/Object;)Z"⟩ : MethodName)) ho1 (mvT hZ1 (own_w hw 35 rfl)) (mvT hZ1 (own_w hw 36 rfl)) (notFace_of_selects (args := #[]) (mvT hZ1 (own_w hw 38 rfl))) (mvT hZ1 (own_w hw 38 rfl)) (mvT hZ1 (own_w hw 37 rfl)) (by decide) (StrChars.Road.eqW (W := 0) hZ1 hwq (kI := 4) (own_w hw 7 rfl) (cs := [c0, c1]) f6 f7 f8 f9 cd10 bd10 (by show 2 ≤ 4000; decide) (ds := [(116 : Int32), (105 : Int32), (116 : Int32), (108 : Int32), (101 : Int32)]) fE1 fV1 fC1 fA1 cd11 bd11 (by show 5 ≤ 4000; decide) (S_C.ext O2.2) hzc (by decide) (by decide)) q5a q5c (g := (mkF m 3 #[.val (.ref x)] [(.ref x1), (.ref x)])) rfl (by rw [hml]; rfl) (Steps.refl _) (argsL := [(.ref x1)]) (rest := []) (lenOf pd_1 rfl) rfl (by show 2 * 0 + _ ≤ _; exact Nat.le_of_eq rfl) (hb hby d4_3) (fun _ _ => ⟨rfl, e1, (by decide : 2 + 0 ≤ _), (by decide : 24 + 0 ≤ _)⟩)
  dsimp only [Pt.U, Pt.locs, Pt.cells, Pt.slots] at X5 l5 y5 z5 st5 hQ5
  subst l5 y5 z5
  obtain ⟨hQ5, rfl, k12⟩ := hQ5
  have N14 := Fr.app N0 (Fr.nil n0)
  rcases hQ5 with ⟨rfl, c13⟩ | ⟨rfl, c13⟩
  · exact absurd c13 (fun q => by have := congrArg List.length q; simp at this)
  · obtain ⟨T15, X15, e15, st15⟩ := getS2 X5 hx hZ1 ho1 (host := "") (Or.inl (own_w hw 46 rfl)) Via.refl k12 (S_Z.ext O2.2) (g := (mkF m 15 #[.val (.ref x)] [])) rfl (hb hby d4_15)
    have S16 : ∀ t, Steps p.tables e below (T15.setTop (mkF m 18 #[.val (.ref x)] [(.ref wZ)])) t → Steps p.tables e below (s₁.setTop (mkF m 0 #[.val (.ref x)] [])) t := by
      intro t kt
      refine XS.aloadN X0.here hx rfl (hb hby d4_0) rfl rfl ?_
      show Steps p.tables e below (s₁.setTop (mkF m 1 #[.val (.ref x)] [(.ref x)])) _
      refine st1 _ ?_
      show Steps p.tables e below (T1.setTop (mkF m 3 #[.val (.ref x)] [(.ref x1), (.ref x)])) _
      refine st5.trans ?_
      refine XS.ifYes X5.here hx rfl (pc0 := 6) (pc' := 15) rfl (hb hby d4_6) rfl ((if0 _ _).trans (teq ((by decide) : (0 : Int32) = (0 : Int32))).1) (by decide) (by decide) ?_
      show Steps p.tables e below (T5.setTop (mkF m 15 #[.val (.ref x)] [])) _
      refine st15 _ ?_
      exact kt
    obtain ⟨fs, hr, hrun, hended, hRW⟩ := X15.leaveW hS1 (by rw [e15]; exact hk1) (v := some (.ref wZ)) (fun h => by rw [Bd.returns] at h; cases h)
    refine ⟨_, _, pre0 _ (S16 _ ?_), hrun, hended, _, _, rfl, ?_, ?_, hRW.1, hRW.2.1, hRW.2.2.1, hRW.2.2.2.mono (by decide) (by decide)⟩
    · exact retOut X15 hx Bd.returns rfl (Or.inr (Or.inr (Or.inr (Or.inr ⟨rfl, rfl, rfl⟩)))) (hb hby d4_18) hr
    · show Q_rm_df2 Z x tx kx c0 c1 zc wR wZ h0 n0 _ T15.heap _
      rw [e15]
      exact ⟨rfl, N14, K3⟩
    · show CHr Z own_EL s.vm s.heap T15.vm T15.heap
      rw [hh, e15]
      exact CR4.trans (CHv.at X15 hZ1 own_ew CR4.1)
theorem ef_rm_df3 (m : MethodId) (x0 : Addr) : entryFrame m #[(.ref x0)] 1 = mkF m 0 #[.val (.ref x0)] [] := by first | (simp [entryFrame, mkF, argsToLocals, Value.category]; done) | rfl
def Q_rm_df3 (Z : State) (x : Addr) (tx : Addr) (kx : ClassId) (c0 : Int32) (c1 : Int32) (c2 : Int32) (zc : Int32) (wR : Addr) (wZ : Addr) (h0 : Heap) (n0 : Nat) (v : Option Value) (h : Heap) (L : List Loc) : Prop := ((v = some (.ref wZ)) ∧ (Fr n0 L) ∧ (Keep h0 h []))
set_option maxRecDepth 65536 in
set_option maxHeartbeats 40000000 in
theorem rm_df3 (l : Launch) (Z : State) (a0 : Array Value) (hw : ∀ d ∈ tables_1, d.before a0 Z = true) (ws : List Jvm.Cond) (x : Addr) (tx : Addr) (kx : ClassId) (c0 : Int32) (c1 : Int32) (c2 : Int32) (zc : Int32) (wR : Addr) (wZ : Addr) (h0 : Heap) (n0 : Nat) (O0 : Old Z n0 h0) (E_x : Exa Z h0 x "java/lang/String") (V_x : Fld Z h0 x "java/lang/String" "value" "[B" (.ref tx)) (C_x : Fld Z h0 x "java/lang/String" "coder" "B" (.int (0 : Int32))) (K_x : Arv Z h0 tx kx .byte (3 : Int32) [(.int c0.toInt8.toInt32), (.int c1.toInt8.toInt32), (.int c2.toInt8.toInt32)] (.int (0 : Int32))) (la_c0 : ¬ (c0 < (0 : Int32)) ∧ ¬ ((255 : Int32) < c0)) (la_c1 : ¬ (c1 < (0 : Int32)) ∧ ¬ ((255 : Int32) < c1)) (la_c2 : ¬ (c2 < (0 : Int32)) ∧ ¬ ((255 : Int32) < c2)) (S_C : Sta Z Z.heap "java/lang/String" "COMPACT_STRINGS" "Z" (.int zc)) (hzc : ¬ (zc = (0 : Int32))) (S_R : Sta Z Z.heap "com/example/favonius/favonius/phrank/Variant" "R_FREE" "Lcom/example/favonius/favonius/phrank/Variant;" (.ref wR)) (S_Z : Sta Z Z.heap "com/example/favonius/favonius/phrank/Variant" "Z_FREE" "Lcom/example/favonius/favonius/phrank/Variant;" (.ref wZ)) :
    MetFree l (⟨"com/example/favonius/favonius/phrank/Variant", "defaultFor", "(Ljava/lang/String;)Lcom/example/favonius/favonius/phrank/Variant;"⟩ : MethodName) (head1 (Jvm.Cond.code (⟨"com/example/favonius/favonius/phrank/Variant", "defaultFor", "(Ljava/lang/String;)Lcom/example/favonius/favonius/phrank/Variant;"⟩ : MethodName) prog_22_method_4_code 1 (some (.object "com/example/favonius/favonius/phrank/Variant")) :: ws) ({ frames := 2, cells := 2, slots := 24, locals := 28 } : Room)) (fun a U => a = #[(.ref x)] ∧ Z.Warmed39 U.vm ∧ U.heap = h0 ∧ CHv Z own_EL U.vm h0 ∧ ∀ own_y ∈ ([] : List Addr), Safe Z own_EL U.vm h0 own_y) (fun _ _ _ _ _ => True) (fun _ U o U' => ∃ v L, o = .returned v ∧ Q_rm_df3 Z x tx kx c0 c1 c2 zc wR wZ h0 n0 v U'.heap L ∧ CHr Z own_EL U.vm U.heap U'.vm U'.heap ∧ ReturnedEndW U o U' L ({ frames := 2, cells := 2, slots := 24, locals := 28 } : Room).cells ({ frames := 2, cells := 2, slots := 24, locals := 28 } : Room).slots) := by
  refine MetFree.of_bodySF (plainFor_of_name pn_2) hisR ?_
  intro p e s m args below meth c s₁ Bd hml0 hP hK
  obtain ⟨rfl, hZ, hh, hCH, hSf⟩ := hP
  have hx := Bd.exec
  have hby := Bd.bytes
  have hml : c.maxLocals = 1 := hml0
  have hown : s.vm.findClass "com/example/favonius/favonius/phrank/Variant" = some m.cls := findClass_of_methodNamed Bd.named
  have hnm := (name_of_methodNamed Bd.named Bd.method).1
  have X0 : Stand p l e ({ frames := 2, cells := 2, slots := 24, locals := 28 } : Room) (s.setVm s.vm) m #[(.ref x)] below meth c s₁ [] 0 0 := Stand.of_body Bd
  have e0 : s₁.heap = h0 := by rw [← hh, Bd.state]; rfl
  have N0 := Fr.nil n0
  have hZ0 := hZ
  have ho0 := hown
  have hS0 : s.Since s.vm 0 := (State.WarmedH.refl s).since 0
  have hk0 : 0 ≤ h0.size := Nat.zero_le _
  have CR0 : CHr Z own_EL s.vm h0 s.vm h0 := CHr.refl hCH
  have own_at : ∀ d ∈ Bundle.stringAtoms, d.before a0 Z = true := fun d hd => hw d (own_atoms d hd)
  have own_ew : EW Z a0 own_EL := own_EWof hw
  have hwq : ∀ d ∈ StrChars.Road.wordsEq, d.before a0 Z = true := fun d hd => hw d (own_wordsEq d hd)
  have hws : ∀ d ∈ StrChars.Road.words, d.before a0 Z = true := fun d hd => hw d (own_words d hd)
  have K0 : Keep h0 h0 [] := Keep.refl _ _
  have pre0 : ∀ t, Steps p.tables e below (s₁.setTop (mkF m 0 #[.val (.ref x)] [])) t → Steps p.tables e below (s₁.setTop (entryFrame m #[(.ref x)] 1)) t := fun t k => castTop (ef_rm_df3 m x) k
  obtain ⟨x1, T1, h1, q1, y1, j1, X1, e1, E1, hS1, hk1, hZ1, ho1, fE1, fC1, fV1, fA1, la1, lb1, C1, -, ns1, st1⟩ := ldcCH X0 hx hZ0 ho0 (own_w hw 34 rfl) own_at e0 hS0 hk0 own_ew (by decide) CR0.1 (vs := [(.int (116 : Int32).toInt8.toInt32), (.int (105 : Int32).toInt8.toInt32), (.int (116 : Int32).toInt8.toInt32), (.int (108 : Int32).toInt8.toInt32), (.int (101 : Int32).toInt8.toInt32)]) (z := (5 : Int32)) ⟨by decide, by decide +kernel⟩ (by decide) rfl (g := (mkF m 1 #[.val (.ref x)] [(.ref x)])) rfl (hb hby d4_1) (n := 20) (by decide) (by decide) (by decide) (by decide)
  have O2 := O0.ext E1
  have K3 : Keep h0 h1 [] := K0.ext E1
  have CR4 := CR0.trans C1
  have f6 := (Exa.ext E1 E_x)
  have f7 := (Fld.ext E1 V_x)
  have f8 := (Fld.ext E1 C_x)
  have f9 := (Arv.ext K_x E1)
  have la10 : ∀ c ∈ ([c0, c1, c2] : List Int32), ¬ c < 0 ∧ ¬ (255 : Int32) < c := by
    intro c hc
    simp only [List.mem_cons, List.not_mem_nil, or_false] at hc
    rcases hc with rfl | rfl | rfl
    · exact la_c0
    · exact la_c1
    · exact la_c2
  have cd10 : StrChars.Road.CodA ([c0, c1, c2] : List Int32) 0 (3 : Int32) [(.int c0.toInt8.toInt32), (.int c1.toInt8.toInt32), (.int c2.toInt8.toInt32)] := StrChars.Road.codOf (n := 3) rfl (fun x hx => (la10 x hx).2)
  have bd10 := own_up la10
  have la11 : ∀ c ∈ ([(116 : Int32), (105 : Int32), (116 : Int32), (108 : Int32), (101 : Int32)] : List Int32), ¬ c < 0 ∧ ¬ (255 : Int32) < c := by
    intro c hc
    simp only [List.mem_cons, List.not_mem_nil, or_false] at hc
    rcases hc with rfl | rfl | rfl | rfl | rfl
    · exact ⟨by decide, by decide⟩
    · exact ⟨by decide, by decide⟩
    · exact ⟨by decide, by decide⟩
    · exact ⟨by decide, by decide⟩
    · exact ⟨by decide, by decide⟩
  have cd11 : StrChars.Road.CodA ([(116 : Int32), (105 : Int32), (116 : Int32), (108 : Int32), (101 : Int32)] : List Int32) 0 (5 : Int32) [(.int (116 : Int32).toInt8.toInt32), (.int (105 : Int32).toInt8.toInt32), (.int (116 : Int32).toInt8.toInt32), (.int (108 : Int32).toInt8.toInt32), (.int (101 : Int32).toInt8.toInt32)] := StrChars.Road.codOf (n := 5) rfl (fun x hx => (la11 x hx).2)
  have bd11 := own_up la11
  obtain ⟨cq5, kq5, q5a, q5b, q5c⟩ := isOf hZ1 e1 f6
  obtain ⟨_, _, ⟨T5, L5, k5, n5⟩, -, X5, ⟨Lc5, hQ5, l5, y5, z5⟩, st5⟩ := X1.virtualBack hx (y := (⟨"java/lang/String", "equals", "(Ljava/lang/Object;)Z"⟩ : MethodName)) (z := (⟨"java/lang/String", "equals", "(Ljava/lang/Object;)Z"⟩ : MethodName)) ho1 (mvT hZ1 (own_w hw 35 rfl)) (mvT hZ1 (own_w hw 36 rfl)) (notFace_of_selects (args := #[]) (mvT hZ1 (own_w hw 38 rfl))) (mvT hZ1 (own_w hw 38 rfl)) (mvT hZ1 (own_w hw 37 rfl)) (by decide) (StrChars.Road.eqW (W := 0) hZ1 hwq (kI := 4) (own_w hw 7 rfl) (cs := [c0, c1, c2]) f6 f7 f8 f9 cd10 bd10 (by show 3 ≤ 4000; decide) (ds := [(116 : Int32), (105 : Int32), (116 : Int32), (108 : Int32), (101 : Int32)]) fE1 fV1 fC1 fA1 cd11 bd11 (by show 5 ≤ 4000; decide) (S_C.ext O2.2) hzc (by decide) (by decide)) q5a q5c (g := (mkF m 3 #[.val (.ref x)] [(.ref x1), (.ref x)])) rfl (by rw [hml]; rfl) (Steps.refl _) (argsL := [(.ref x1)]) (rest := []) (lenOf pd_1 rfl) rfl (by show 2 * 0 + _ ≤ _; exact Nat.le_of_eq rfl) (hb hby d4_3) (fun _ _ => ⟨rfl, e1, (by decide : 2 + 0 ≤ _), (by decide : 24 + 0 ≤ _)⟩)
  dsimp only [Pt.U, Pt.locs, Pt.cells, Pt.slots] at X5 l5 y5 z5 st5 hQ5
  subst l5 y5 z5
  obtain ⟨hQ5, rfl, k12⟩ := hQ5
  have N14 := Fr.app N0 (Fr.nil n0)
  rcases hQ5 with ⟨rfl, c13⟩ | ⟨rfl, c13⟩
  · exact absurd c13 (fun q => by have := congrArg List.length q; simp at this)
  · obtain ⟨T15, X15, e15, st15⟩ := getS2 X5 hx hZ1 ho1 (host := "") (Or.inl (own_w hw 46 rfl)) Via.refl k12 (S_Z.ext O2.2) (g := (mkF m 15 #[.val (.ref x)] [])) rfl (hb hby d4_15)
    have S16 : ∀ t, Steps p.tables e below (T15.setTop (mkF m 18 #[.val (.ref x)] [(.ref wZ)])) t → Steps p.tables e below (s₁.setTop (mkF m 0 #[.val (.ref x)] [])) t := by
      intro t kt
      refine XS.aloadN X0.here hx rfl (hb hby d4_0) rfl rfl ?_
      show Steps p.tables e below (s₁.setTop (mkF m 1 #[.val (.ref x)] [(.ref x)])) _
      refine st1 _ ?_
      show Steps p.tables e below (T1.setTop (mkF m 3 #[.val (.ref x)] [(.ref x1), (.ref x)])) _
      refine st5.trans ?_
      refine XS.ifYes X5.here hx rfl (pc0 := 6) (pc' := 15) rfl (hb hby d4_6) rfl ((if0 _ _).trans (teq ((by decide) : (0 : Int32) = (0 : Int32))).1) (by decide) (by decide) ?_
      show Steps p.tables e below (T5.setTop (mkF m 15 #[.val (.ref x)] [])) _
      refine st15 _ ?_
      exact kt
    obtain ⟨fs, hr, hrun, hended, hRW⟩ := X15.leaveW hS1 (by rw [e15]; exact hk1) (v := some (.ref wZ)) (fun h => by rw [Bd.returns] at h; cases h)
    refine ⟨_, _, pre0 _ (S16 _ ?_), hrun, hended, _, _, rfl, ?_, ?_, hRW.1, hRW.2.1, hRW.2.2.1, hRW.2.2.2.mono (by decide) (by decide)⟩
    · exact retOut X15 hx Bd.returns rfl (Or.inr (Or.inr (Or.inr (Or.inr ⟨rfl, rfl, rfl⟩)))) (hb hby d4_18) hr
    · show Q_rm_df3 Z x tx kx c0 c1 c2 zc wR wZ h0 n0 _ T15.heap _
      rw [e15]
      exact ⟨rfl, N14, K3⟩
    · show CHr Z own_EL s.vm s.heap T15.vm T15.heap
      rw [hh, e15]
      exact CR4.trans (CHv.at X15 hZ1 own_ew CR4.1)
theorem ef_rm_df4 (m : MethodId) (x0 : Addr) : entryFrame m #[(.ref x0)] 1 = mkF m 0 #[.val (.ref x0)] [] := by first | (simp [entryFrame, mkF, argsToLocals, Value.category]; done) | rfl
def Q_rm_df4 (Z : State) (x : Addr) (tx : Addr) (kx : ClassId) (c0 : Int32) (c1 : Int32) (c2 : Int32) (c3 : Int32) (zc : Int32) (wR : Addr) (wZ : Addr) (h0 : Heap) (n0 : Nat) (v : Option Value) (h : Heap) (L : List Loc) : Prop := ((v = some (.ref wZ)) ∧ (Fr n0 L) ∧ (Keep h0 h []))
set_option maxRecDepth 65536 in
set_option maxHeartbeats 40000000 in
theorem rm_df4 (l : Launch) (Z : State) (a0 : Array Value) (hw : ∀ d ∈ tables_1, d.before a0 Z = true) (ws : List Jvm.Cond) (x : Addr) (tx : Addr) (kx : ClassId) (c0 : Int32) (c1 : Int32) (c2 : Int32) (c3 : Int32) (zc : Int32) (wR : Addr) (wZ : Addr) (h0 : Heap) (n0 : Nat) (O0 : Old Z n0 h0) (E_x : Exa Z h0 x "java/lang/String") (V_x : Fld Z h0 x "java/lang/String" "value" "[B" (.ref tx)) (C_x : Fld Z h0 x "java/lang/String" "coder" "B" (.int (0 : Int32))) (K_x : Arv Z h0 tx kx .byte (4 : Int32) [(.int c0.toInt8.toInt32), (.int c1.toInt8.toInt32), (.int c2.toInt8.toInt32), (.int c3.toInt8.toInt32)] (.int (0 : Int32))) (la_c0 : ¬ (c0 < (0 : Int32)) ∧ ¬ ((255 : Int32) < c0)) (la_c1 : ¬ (c1 < (0 : Int32)) ∧ ¬ ((255 : Int32) < c1)) (la_c2 : ¬ (c2 < (0 : Int32)) ∧ ¬ ((255 : Int32) < c2)) (la_c3 : ¬ (c3 < (0 : Int32)) ∧ ¬ ((255 : Int32) < c3)) (S_C : Sta Z Z.heap "java/lang/String" "COMPACT_STRINGS" "Z" (.int zc)) (hzc : ¬ (zc = (0 : Int32))) (S_R : Sta Z Z.heap "com/example/favonius/favonius/phrank/Variant" "R_FREE" "Lcom/example/favonius/favonius/phrank/Variant;" (.ref wR)) (S_Z : Sta Z Z.heap "com/example/favonius/favonius/phrank/Variant" "Z_FREE" "Lcom/example/favonius/favonius/phrank/Variant;" (.ref wZ)) :
    MetFree l (⟨"com/example/favonius/favonius/phrank/Variant", "defaultFor", "(Ljava/lang/String;)Lcom/example/favonius/favonius/phrank/Variant;"⟩ : MethodName) (head1 (Jvm.Cond.code (⟨"com/example/favonius/favonius/phrank/Variant", "defaultFor", "(Ljava/lang/String;)Lcom/example/favonius/favonius/phrank/Variant;"⟩ : MethodName) prog_22_method_4_code 1 (some (.object "com/example/favonius/favonius/phrank/Variant")) :: ws) ({ frames := 2, cells := 2, slots := 24, locals := 28 } : Room)) (fun a U => a = #[(.ref x)] ∧ Z.Warmed39 U.vm ∧ U.heap = h0 ∧ CHv Z own_EL U.vm h0 ∧ ∀ own_y ∈ ([] : List Addr), Safe Z own_EL U.vm h0 own_y) (fun _ _ _ _ _ => True) (fun _ U o U' => ∃ v L, o = .returned v ∧ Q_rm_df4 Z x tx kx c0 c1 c2 c3 zc wR wZ h0 n0 v U'.heap L ∧ CHr Z own_EL U.vm U.heap U'.vm U'.heap ∧ ReturnedEndW U o U' L ({ frames := 2, cells := 2, slots := 24, locals := 28 } : Room).cells ({ frames := 2, cells := 2, slots := 24, locals := 28 } : Room).slots) := by
  refine MetFree.of_bodySF (plainFor_of_name pn_2) hisR ?_
  intro p e s m args below meth c s₁ Bd hml0 hP hK
  obtain ⟨rfl, hZ, hh, hCH, hSf⟩ := hP
  have hx := Bd.exec
  have hby := Bd.bytes
  have hml : c.maxLocals = 1 := hml0
  have hown : s.vm.findClass "com/example/favonius/favonius/phrank/Variant" = some m.cls := findClass_of_methodNamed Bd.named
  have hnm := (name_of_methodNamed Bd.named Bd.method).1
  have X0 : Stand p l e ({ frames := 2, cells := 2, slots := 24, locals := 28 } : Room) (s.setVm s.vm) m #[(.ref x)] below meth c s₁ [] 0 0 := Stand.of_body Bd
  have e0 : s₁.heap = h0 := by rw [← hh, Bd.state]; rfl
  have N0 := Fr.nil n0
  have hZ0 := hZ
  have ho0 := hown
  have hS0 : s.Since s.vm 0 := (State.WarmedH.refl s).since 0
  have hk0 : 0 ≤ h0.size := Nat.zero_le _
  have CR0 : CHr Z own_EL s.vm h0 s.vm h0 := CHr.refl hCH
  have own_at : ∀ d ∈ Bundle.stringAtoms, d.before a0 Z = true := fun d hd => hw d (own_atoms d hd)
  have own_ew : EW Z a0 own_EL := own_EWof hw
  have hwq : ∀ d ∈ StrChars.Road.wordsEq, d.before a0 Z = true := fun d hd => hw d (own_wordsEq d hd)
  have hws : ∀ d ∈ StrChars.Road.words, d.before a0 Z = true := fun d hd => hw d (own_words d hd)
  have K0 : Keep h0 h0 [] := Keep.refl _ _
  have pre0 : ∀ t, Steps p.tables e below (s₁.setTop (mkF m 0 #[.val (.ref x)] [])) t → Steps p.tables e below (s₁.setTop (entryFrame m #[(.ref x)] 1)) t := fun t k => castTop (ef_rm_df4 m x) k
  obtain ⟨x1, T1, h1, q1, y1, j1, X1, e1, E1, hS1, hk1, hZ1, ho1, fE1, fC1, fV1, fA1, la1, lb1, C1, -, ns1, st1⟩ := ldcCH X0 hx hZ0 ho0 (own_w hw 34 rfl) own_at e0 hS0 hk0 own_ew (by decide) CR0.1 (vs := [(.int (116 : Int32).toInt8.toInt32), (.int (105 : Int32).toInt8.toInt32), (.int (116 : Int32).toInt8.toInt32), (.int (108 : Int32).toInt8.toInt32), (.int (101 : Int32).toInt8.toInt32)]) (z := (5 : Int32)) ⟨by decide, by decide +kernel⟩ (by decide) rfl (g := (mkF m 1 #[.val (.ref x)] [(.ref x)])) rfl (hb hby d4_1) (n := 20) (by decide) (by decide) (by decide) (by decide)
  have O2 := O0.ext E1
  have K3 : Keep h0 h1 [] := K0.ext E1
  have CR4 := CR0.trans C1
  have f6 := (Exa.ext E1 E_x)
  have f7 := (Fld.ext E1 V_x)
  have f8 := (Fld.ext E1 C_x)
  have f9 := (Arv.ext K_x E1)
  have la10 : ∀ c ∈ ([c0, c1, c2, c3] : List Int32), ¬ c < 0 ∧ ¬ (255 : Int32) < c := by
    intro c hc
    simp only [List.mem_cons, List.not_mem_nil, or_false] at hc
    rcases hc with rfl | rfl | rfl | rfl
    · exact la_c0
    · exact la_c1
    · exact la_c2
    · exact la_c3
  have cd10 : StrChars.Road.CodA ([c0, c1, c2, c3] : List Int32) 0 (4 : Int32) [(.int c0.toInt8.toInt32), (.int c1.toInt8.toInt32), (.int c2.toInt8.toInt32), (.int c3.toInt8.toInt32)] := StrChars.Road.codOf (n := 4) rfl (fun x hx => (la10 x hx).2)
  have bd10 := own_up la10
  have la11 : ∀ c ∈ ([(116 : Int32), (105 : Int32), (116 : Int32), (108 : Int32), (101 : Int32)] : List Int32), ¬ c < 0 ∧ ¬ (255 : Int32) < c := by
    intro c hc
    simp only [List.mem_cons, List.not_mem_nil, or_false] at hc
    rcases hc with rfl | rfl | rfl | rfl | rfl
    · exact ⟨by decide, by decide⟩
    · exact ⟨by decide, by decide⟩
    · exact ⟨by decide, by decide⟩
    · exact ⟨by decide, by decide⟩
    · exact ⟨by decide, by decide⟩
  have cd11 : StrChars.Road.CodA ([(116 : Int32), (105 : Int32), (116 : Int32), (108 : Int32), (101 : Int32)] : List Int32) 0 (5 : Int32) [(.int (116 : Int32).toInt8.toInt32), (.int (105 : Int32).toInt8.toInt32), (.int (116 : Int32).toInt8.toInt32), (.int (108 : Int32).toInt8.toInt32), (.int (101 : Int32).toInt8.toInt32)] := StrChars.Road.codOf (n := 5) rfl (fun x hx => (la11 x hx).2)
  have bd11 := own_up la11
  obtain ⟨cq5, kq5, q5a, q5b, q5c⟩ := isOf hZ1 e1 f6
  obtain ⟨_, _, ⟨T5, L5, k5, n5⟩, -, X5, ⟨Lc5, hQ5, l5, y5, z5⟩, st5⟩ := X1.virtualBack hx (y := (⟨"java/lang/String", "equals", "(Ljava/lang/Object;)Z"⟩ : MethodName)) (z := (⟨"java/lang/String", "equals", "(Ljava/lang/Object;)Z"⟩ : MethodName)) ho1 (mvT hZ1 (own_w hw 35 rfl)) (mvT hZ1 (own_w hw 36 rfl)) (notFace_of_selects (args := #[]) (mvT hZ1 (own_w hw 38 rfl))) (mvT hZ1 (own_w hw 38 rfl)) (mvT hZ1 (own_w hw 37 rfl)) (by decide) (StrChars.Road.eqW (W := 0) hZ1 hwq (kI := 4) (own_w hw 7 rfl) (cs := [c0, c1, c2, c3]) f6 f7 f8 f9 cd10 bd10 (by show 4 ≤ 4000; decide) (ds := [(116 : Int32), (105 : Int32), (116 : Int32), (108 : Int32), (101 : Int32)]) fE1 fV1 fC1 fA1 cd11 bd11 (by show 5 ≤ 4000; decide) (S_C.ext O2.2) hzc (by decide) (by decide)) q5a q5c (g := (mkF m 3 #[.val (.ref x)] [(.ref x1), (.ref x)])) rfl (by rw [hml]; rfl) (Steps.refl _) (argsL := [(.ref x1)]) (rest := []) (lenOf pd_1 rfl) rfl (by show 2 * 0 + _ ≤ _; exact Nat.le_of_eq rfl) (hb hby d4_3) (fun _ _ => ⟨rfl, e1, (by decide : 2 + 0 ≤ _), (by decide : 24 + 0 ≤ _)⟩)
  dsimp only [Pt.U, Pt.locs, Pt.cells, Pt.slots] at X5 l5 y5 z5 st5 hQ5
  subst l5 y5 z5
  obtain ⟨hQ5, rfl, k12⟩ := hQ5
  have N14 := Fr.app N0 (Fr.nil n0)
  rcases hQ5 with ⟨rfl, c13⟩ | ⟨rfl, c13⟩
  · exact absurd c13 (fun q => by have := congrArg List.length q; simp at this)
  · obtain ⟨T15, X15, e15, st15⟩ := getS2 X5 hx hZ1 ho1 (host := "") (Or.inl (own_w hw 46 rfl)) Via.refl k12 (S_Z.ext O2.2) (g := (mkF m 15 #[.val (.ref x)] [])) rfl (hb hby d4_15)
    have S16 : ∀ t, Steps p.tables e below (T15.setTop (mkF m 18 #[.val (.ref x)] [(.ref wZ)])) t → Steps p.tables e below (s₁.setTop (mkF m 0 #[.val (.ref x)] [])) t := by
      intro t kt
      refine XS.aloadN X0.here hx rfl (hb hby d4_0) rfl rfl ?_
      show Steps p.tables e below (s₁.setTop (mkF m 1 #[.val (.ref x)] [(.ref x)])) _
      refine st1 _ ?_
      show Steps p.tables e below (T1.setTop (mkF m 3 #[.val (.ref x)] [(.ref x1), (.ref x)])) _
      refine st5.trans ?_
      refine XS.ifYes X5.here hx rfl (pc0 := 6) (pc' := 15) rfl (hb hby d4_6) rfl ((if0 _ _).trans (teq ((by decide) : (0 : Int32) = (0 : Int32))).1) (by decide) (by decide) ?_
      show Steps p.tables e below (T5.setTop (mkF m 15 #[.val (.ref x)] [])) _
      refine st15 _ ?_
      exact kt
    obtain ⟨fs, hr, hrun, hended, hRW⟩ := X15.leaveW hS1 (by rw [e15]; exact hk1) (v := some (.ref wZ)) (fun h => by rw [Bd.returns] at h; cases h)
    refine ⟨_, _, pre0 _ (S16 _ ?_), hrun, hended, _, _, rfl, ?_, ?_, hRW.1, hRW.2.1, hRW.2.2.1, hRW.2.2.2.mono (by decide) (by decide)⟩
    · exact retOut X15 hx Bd.returns rfl (Or.inr (Or.inr (Or.inr (Or.inr ⟨rfl, rfl, rfl⟩)))) (hb hby d4_18) hr
    · show Q_rm_df4 Z x tx kx c0 c1 c2 c3 zc wR wZ h0 n0 _ T15.heap _
      rw [e15]
      exact ⟨rfl, N14, K3⟩
    · show CHr Z own_EL s.vm s.heap T15.vm T15.heap
      rw [hh, e15]
      exact CR4.trans (CHv.at X15 hZ1 own_ew CR4.1)
theorem d4_9 : decode prog_22_method_4_code 9 = .ok (.getstatic 10, 3) := by decide +kernel
theorem d4_12 : decode prog_22_method_4_code 12 = .ok (.goto 6, 3) := by decide +kernel
theorem ef_rm_df5 (m : MethodId) (x0 : Addr) : entryFrame m #[(.ref x0)] 1 = mkF m 0 #[.val (.ref x0)] [] := by first | (simp [entryFrame, mkF, argsToLocals, Value.category]; done) | rfl
def Q_rm_df5 (Z : State) (x : Addr) (tx : Addr) (kx : ClassId) (c0 : Int32) (c1 : Int32) (c2 : Int32) (c3 : Int32) (c4 : Int32) (zc : Int32) (wR : Addr) (wZ : Addr) (h0 : Heap) (n0 : Nat) (v : Option Value) (h : Heap) (L : List Loc) : Prop := ((([c0, c1, c2, c3, c4] : List Int32) = [(116 : Int32), (105 : Int32), (116 : Int32), (108 : Int32), (101 : Int32)]) ∧ (v = some (.ref wR)) ∧ (Fr n0 L) ∧ (Keep h0 h [])) ∨ ((¬ (([c0, c1, c2, c3, c4] : List Int32) = [(116 : Int32), (105 : Int32), (116 : Int32), (108 : Int32), (101 : Int32)])) ∧ (v = some (.ref wZ)) ∧ (Fr n0 L) ∧ (Keep h0 h []))
set_option maxRecDepth 65536 in
set_option maxHeartbeats 40000000 in
theorem rm_df5 (l : Launch) (Z : State) (a0 : Array Value) (hw : ∀ d ∈ tables_1, d.before a0 Z = true) (ws : List Jvm.Cond) (x : Addr) (tx : Addr) (kx : ClassId) (c0 : Int32) (c1 : Int32) (c2 : Int32) (c3 : Int32) (c4 : Int32) (zc : Int32) (wR : Addr) (wZ : Addr) (h0 : Heap) (n0 : Nat) (O0 : Old Z n0 h0) (E_x : Exa Z h0 x "java/lang/String") (V_x : Fld Z h0 x "java/lang/String" "value" "[B" (.ref tx)) (C_x : Fld Z h0 x "java/lang/String" "coder" "B" (.int (0 : Int32))) (K_x : Arv Z h0 tx kx .byte (5 : Int32) [(.int c0.toInt8.toInt32), (.int c1.toInt8.toInt32), (.int c2.toInt8.toInt32), (.int c3.toInt8.toInt32), (.int c4.toInt8.toInt32)] (.int (0 : Int32))) (la_c0 : ¬ (c0 < (0 : Int32)) ∧ ¬ ((255 : Int32) < c0)) (la_c1 : ¬ (c1 < (0 : Int32)) ∧ ¬ ((255 : Int32) < c1)) (la_c2 : ¬ (c2 < (0 : Int32)) ∧ ¬ ((255 : Int32) < c2)) (la_c3 : ¬ (c3 < (0 : Int32)) ∧ ¬ ((255 : Int32) < c3)) (la_c4 : ¬ (c4 < (0 : Int32)) ∧ ¬ ((255 : Int32) < c4)) (S_C : Sta Z Z.heap "java/lang/String" "COMPACT_STRINGS" "Z" (.int zc)) (hzc : ¬ (zc = (0 : Int32))) (S_R : Sta Z Z.heap "com/example/favonius/favonius/phrank/Variant" "R_FREE" "Lcom/example/favonius/favonius/phrank/Variant;" (.ref wR)) (S_Z : Sta Z Z.heap "com/example/favonius/favonius/phrank/Variant" "Z_FREE" "Lcom/example/favonius/favonius/phrank/Variant;" (.ref wZ)) :
    MetFree l (⟨"com/example/favonius/favonius/phrank/Variant", "defaultFor", "(Ljava/lang/String;)Lcom/example/favonius/favonius/phrank/Variant;"⟩ : MethodName) (head1 (Jvm.Cond.code (⟨"com/example/favonius/favonius/phrank/Variant", "defaultFor", "(Ljava/lang/String;)Lcom/example/favonius/favonius/phrank/Variant;"⟩ : MethodName) prog_22_method_4_code 1 (some (.object "com/example/favonius/favonius/phrank/Variant")) :: ws) ({ frames := 2, cells := 2, slots := 24, locals := 28 } : Room)) (fun a U => a = #[(.ref x)] ∧ Z.Warmed39 U.vm ∧ U.heap = h0 ∧ CHv Z own_EL U.vm h0 ∧ ∀ own_y ∈ ([] : List Addr), Safe Z own_EL U.vm h0 own_y) (fun _ _ _ _ _ => True) (fun _ U o U' => ∃ v L, o = .returned v ∧ Q_rm_df5 Z x tx kx c0 c1 c2 c3 c4 zc wR wZ h0 n0 v U'.heap L ∧ CHr Z own_EL U.vm U.heap U'.vm U'.heap ∧ ReturnedEndW U o U' L ({ frames := 2, cells := 2, slots := 24, locals := 28 } : Room).cells ({ frames := 2, cells := 2, slots := 24, locals := 28 } : Room).slots) := by
  refine MetFree.of_bodySF (plainFor_of_name pn_2) hisR ?_
  intro p e s m args below meth c s₁ Bd hml0 hP hK
  obtain ⟨rfl, hZ, hh, hCH, hSf⟩ := hP
  have hx := Bd.exec
  have hby := Bd.bytes
  have hml : c.maxLocals = 1 := hml0
  have hown : s.vm.findClass "com/example/favonius/favonius/phrank/Variant" = some m.cls := findClass_of_methodNamed Bd.named
  have hnm := (name_of_methodNamed Bd.named Bd.method).1
  have X0 : Stand p l e ({ frames := 2, cells := 2, slots := 24, locals := 28 } : Room) (s.setVm s.vm) m #[(.ref x)] below meth c s₁ [] 0 0 := Stand.of_body Bd
  have e0 : s₁.heap = h0 := by rw [← hh, Bd.state]; rfl
  have N0 := Fr.nil n0
  have hZ0 := hZ
  have ho0 := hown
  have hS0 : s.Since s.vm 0 := (State.WarmedH.refl s).since 0
  have hk0 : 0 ≤ h0.size := Nat.zero_le _
  have CR0 : CHr Z own_EL s.vm h0 s.vm h0 := CHr.refl hCH
  have own_at : ∀ d ∈ Bundle.stringAtoms, d.before a0 Z = true := fun d hd => hw d (own_atoms d hd)
  have own_ew : EW Z a0 own_EL := own_EWof hw
  have hwq : ∀ d ∈ StrChars.Road.wordsEq, d.before a0 Z = true := fun d hd => hw d (own_wordsEq d hd)
  have hws : ∀ d ∈ StrChars.Road.words, d.before a0 Z = true := fun d hd => hw d (own_words d hd)
  have K0 : Keep h0 h0 [] := Keep.refl _ _
  have pre0 : ∀ t, Steps p.tables e below (s₁.setTop (mkF m 0 #[.val (.ref x)] [])) t → Steps p.tables e below (s₁.setTop (entryFrame m #[(.ref x)] 1)) t := fun t k => castTop (ef_rm_df5 m x) k
  obtain ⟨x1, T1, h1, q1, y1, j1, X1, e1, E1, hS1, hk1, hZ1, ho1, fE1, fC1, fV1, fA1, la1, lb1, C1, -, ns1, st1⟩ := ldcCH X0 hx hZ0 ho0 (own_w hw 34 rfl) own_at e0 hS0 hk0 own_ew (by decide) CR0.1 (vs := [(.int (116 : Int32).toInt8.toInt32), (.int (105 : Int32).toInt8.toInt32), (.int (116 : Int32).toInt8.toInt32), (.int (108 : Int32).toInt8.toInt32), (.int (101 : Int32).toInt8.toInt32)]) (z := (5 : Int32)) ⟨by decide, by decide +kernel⟩ (by decide) rfl (g := (mkF m 1 #[.val (.ref x)] [(.ref x)])) rfl (hb hby d4_1) (n := 20) (by decide) (by decide) (by decide) (by decide)
  have O2 := O0.ext E1
  have K3 : Keep h0 h1 [] := K0.ext E1
  have CR4 := CR0.trans C1
  have f6 := (Exa.ext E1 E_x)
  have f7 := (Fld.ext E1 V_x)
  have f8 := (Fld.ext E1 C_x)
  have f9 := (Arv.ext K_x E1)
  have la10 : ∀ c ∈ ([c0, c1, c2, c3, c4] : List Int32), ¬ c < 0 ∧ ¬ (255 : Int32) < c := by
    intro c hc
    simp only [List.mem_cons, List.not_mem_nil, or_false] at hc
    rcases hc with rfl | rfl | rfl | rfl | rfl
    · exact la_c0
    · exact la_c1
    · exact la_c2
    · exact la_c3
    · exact la_c4
  have cd10 : StrChars.Road.CodA ([c0, c1, c2, c3, c4] : List Int32) 0 (5 : Int32) [(.int c0.toInt8.toInt32), (.int c1.toInt8.toInt32), (.int c2.toInt8.toInt32), (.int c3.toInt8.toInt32), (.int c4.toInt8.toInt32)] := StrChars.Road.codOf (n := 5) rfl (fun x hx => (la10 x hx).2)
  have bd10 := own_up la10
  have la11 : ∀ c ∈ ([(116 : Int32), (105 : Int32), (116 : Int32), (108 : Int32), (101 : Int32)] : List Int32), ¬ c < 0 ∧ ¬ (255 : Int32) < c := by
    intro c hc
    simp only [List.mem_cons, List.not_mem_nil, or_false] at hc
    rcases hc with rfl | rfl | rfl | rfl | rfl
    · exact ⟨by decide, by decide⟩
    · exact ⟨by decide, by decide⟩
    · exact ⟨by decide, by decide⟩
    · exact ⟨by decide, by decide⟩
    · exact ⟨by decide, by decide⟩
  have cd11 : StrChars.Road.CodA ([(116 : Int32), (105 : Int32), (116 : Int32), (108 : Int32), (101 : Int32)] : List Int32) 0 (5 : Int32) [(.int (116 : Int32).toInt8.toInt32), (.int (105 : Int32).toInt8.toInt32), (.int (116 : Int32).toInt8.toInt32), (.int (108 : Int32).toInt8.toInt32), (.int (101 : Int32).toInt8.toInt32)] := StrChars.Road.codOf (n := 5) rfl (fun x hx => (la11 x hx).2)
  have bd11 := own_up la11
  obtain ⟨cq5, kq5, q5a, q5b, q5c⟩ := isOf hZ1 e1 f6
  obtain ⟨_, _, ⟨T5, L5, k5, n5⟩, -, X5, ⟨Lc5, hQ5, l5, y5, z5⟩, st5⟩ := X1.virtualBack hx (y := (⟨"java/lang/String", "equals", "(Ljava/lang/Object;)Z"⟩ : MethodName)) (z := (⟨"java/lang/String", "equals", "(Ljava/lang/Object;)Z"⟩ : MethodName)) ho1 (mvT hZ1 (own_w hw 35 rfl)) (mvT hZ1 (own_w hw 36 rfl)) (notFace_of_selects (args := #[]) (mvT hZ1 (own_w hw 38 rfl))) (mvT hZ1 (own_w hw 38 rfl)) (mvT hZ1 (own_w hw 37 rfl)) (by decide) (StrChars.Road.eqW (W := 0) hZ1 hwq (kI := 4) (own_w hw 7 rfl) (cs := [c0, c1, c2, c3, c4]) f6 f7 f8 f9 cd10 bd10 (by show 5 ≤ 4000; decide) (ds := [(116 : Int32), (105 : Int32), (116 : Int32), (108 : Int32), (101 : Int32)]) fE1 fV1 fC1 fA1 cd11 bd11 (by show 5 ≤ 4000; decide) (S_C.ext O2.2) hzc (by decide) (by decide)) q5a q5c (g := (mkF m 3 #[.val (.ref x)] [(.ref x1), (.ref x)])) rfl (by rw [hml]; rfl) (Steps.refl _) (argsL := [(.ref x1)]) (rest := []) (lenOf pd_1 rfl) rfl (by show 2 * 0 + _ ≤ _; exact Nat.le_of_eq rfl) (hb hby d4_3) (fun _ _ => ⟨rfl, e1, (by decide : 2 + 0 ≤ _), (by decide : 24 + 0 ≤ _)⟩)
  dsimp only [Pt.U, Pt.locs, Pt.cells, Pt.slots] at X5 l5 y5 z5 st5 hQ5
  subst l5 y5 z5
  obtain ⟨hQ5, rfl, k12⟩ := hQ5
  have N14 := Fr.app N0 (Fr.nil n0)
  rcases hQ5 with ⟨rfl, c13⟩ | ⟨rfl, c13⟩
  · have c15 : c0 = (116 : Int32) := congrArg (fun l => l.getD 0 0) c13
    have c16 : c1 = (105 : Int32) := congrArg (fun l => l.getD 1 0) c13
    have c17 : c2 = (116 : Int32) := congrArg (fun l => l.getD 2 0) c13
    have c18 : c3 = (108 : Int32) := congrArg (fun l => l.getD 3 0) c13
    have c19 : c4 = (101 : Int32) := congrArg (fun l => l.getD 4 0) c13
    obtain ⟨T20, X20, e20, st20⟩ := getS2 X5 hx hZ1 ho1 (host := "") (Or.inl (own_w hw 59 rfl)) Via.refl k12 (S_R.ext O2.2) (g := (mkF m 9 #[.val (.ref x)] [])) rfl (hb hby d4_9)
    have S21 : ∀ t, Steps p.tables e below (T20.setTop (mkF m 18 #[.val (.ref x)] [(.ref wR)])) t → Steps p.tables e below (s₁.setTop (mkF m 0 #[.val (.ref x)] [])) t := by
      intro t kt
      refine XS.aloadN X0.here hx rfl (hb hby d4_0) rfl rfl ?_
      show Steps p.tables e below (s₁.setTop (mkF m 1 #[.val (.ref x)] [(.ref x)])) _
      refine st1 _ ?_
      show Steps p.tables e below (T1.setTop (mkF m 3 #[.val (.ref x)] [(.ref x1), (.ref x)])) _
      refine st5.trans ?_
      refine XS.ifNo X5.here hx rfl (hb hby d4_6) rfl ((if0 _ _).trans (feq ((by decide) : ¬ ((1 : Int32) = (0 : Int32)))).1) ?_
      show Steps p.tables e below (T5.setTop (mkF m 9 #[.val (.ref x)] [])) _
      refine st20 _ ?_
      refine XS.goto X20.here hx rfl (pc0 := 12) (pc' := 18) rfl (hb hby d4_12) (by decide) (by decide) ?_
      exact kt
    obtain ⟨fs, hr, hrun, hended, hRW⟩ := X20.leaveW hS1 (by rw [e20]; exact hk1) (v := some (.ref wR)) (fun h => by rw [Bd.returns] at h; cases h)
    refine ⟨_, _, pre0 _ (S21 _ ?_), hrun, hended, _, _, rfl, ?_, ?_, hRW.1, hRW.2.1, hRW.2.2.1, hRW.2.2.2.mono (by decide) (by decide)⟩
    · exact retOut X20 hx Bd.returns rfl (Or.inr (Or.inr (Or.inr (Or.inr ⟨rfl, rfl, rfl⟩)))) (hb hby d4_18) hr
    · show Q_rm_df5 Z x tx kx c0 c1 c2 c3 c4 zc wR wZ h0 n0 _ T20.heap _
      rw [e20]
      exact Or.inl ⟨c13, rfl, N14, K3⟩
    · show CHr Z own_EL s.vm s.heap T20.vm T20.heap
      rw [hh, e20]
      exact CR4.trans (CHv.at X20 hZ1 own_ew CR4.1)
  · obtain ⟨T22, X22, e22, st22⟩ := getS2 X5 hx hZ1 ho1 (host := "") (Or.inl (own_w hw 46 rfl)) Via.refl k12 (S_Z.ext O2.2) (g := (mkF m 15 #[.val (.ref x)] [])) rfl (hb hby d4_15)
    have S23 : ∀ t, Steps p.tables e below (T22.setTop (mkF m 18 #[.val (.ref x)] [(.ref wZ)])) t → Steps p.tables e below (s₁.setTop (mkF m 0 #[.val (.ref x)] [])) t := by
      intro t kt
      refine XS.aloadN X0.here hx rfl (hb hby d4_0) rfl rfl ?_
      show Steps p.tables e below (s₁.setTop (mkF m 1 #[.val (.ref x)] [(.ref x)])) _
      refine st1 _ ?_
      show Steps p.tables e below (T1.setTop (mkF m 3 #[.val (.ref x)] [(.ref x1), (.ref x)])) _
      refine st5.trans ?_
      refine XS.ifYes X5.here hx rfl (pc0 := 6) (pc' := 15) rfl (hb hby d4_6) rfl ((if0 _ _).trans (teq ((by decide) : (0 : Int32) = (0 : Int32))).1) (by decide) (by decide) ?_
      show Steps p.tables e below (T5.setTop (mkF m 15 #[.val (.ref x)] [])) _
      refine st22 _ ?_
      exact kt
    obtain ⟨fs, hr, hrun, hended, hRW⟩ := X22.leaveW hS1 (by rw [e22]; exact hk1) (v := some (.ref wZ)) (fun h => by rw [Bd.returns] at h; cases h)
    refine ⟨_, _, pre0 _ (S23 _ ?_), hrun, hended, _, _, rfl, ?_, ?_, hRW.1, hRW.2.1, hRW.2.2.1, hRW.2.2.2.mono (by decide) (by decide)⟩
    · exact retOut X22 hx Bd.returns rfl (Or.inr (Or.inr (Or.inr (Or.inr ⟨rfl, rfl, rfl⟩)))) (hb hby d4_18) hr
    · show Q_rm_df5 Z x tx kx c0 c1 c2 c3 c4 zc wR wZ h0 n0 _ T22.heap _
      rw [e22]
      exact Or.inr (⟨c13, rfl, N14, K3⟩)
    · show CHr Z own_EL s.vm s.heap T22.vm T22.heap
      rw [hh, e22]
      exact CR4.trans (CHv.at X22 hZ1 own_ew CR4.1)
theorem ef_rm_df6 (m : MethodId) (x0 : Addr) : entryFrame m #[(.ref x0)] 1 = mkF m 0 #[.val (.ref x0)] [] := by first | (simp [entryFrame, mkF, argsToLocals, Value.category]; done) | rfl
def Q_rm_df6 (Z : State) (x : Addr) (tx : Addr) (kx : ClassId) (c0 : Int32) (c1 : Int32) (c2 : Int32) (c3 : Int32) (c4 : Int32) (c5 : Int32) (zc : Int32) (wR : Addr) (wZ : Addr) (h0 : Heap) (n0 : Nat) (v : Option Value) (h : Heap) (L : List Loc) : Prop := ((v = some (.ref wZ)) ∧ (Fr n0 L) ∧ (Keep h0 h []))
set_option maxRecDepth 65536 in
set_option maxHeartbeats 40000000 in
theorem rm_df6 (l : Launch) (Z : State) (a0 : Array Value) (hw : ∀ d ∈ tables_1, d.before a0 Z = true) (ws : List Jvm.Cond) (x : Addr) (tx : Addr) (kx : ClassId) (c0 : Int32) (c1 : Int32) (c2 : Int32) (c3 : Int32) (c4 : Int32) (c5 : Int32) (zc : Int32) (wR : Addr) (wZ : Addr) (h0 : Heap) (n0 : Nat) (O0 : Old Z n0 h0) (E_x : Exa Z h0 x "java/lang/String") (V_x : Fld Z h0 x "java/lang/String" "value" "[B" (.ref tx)) (C_x : Fld Z h0 x "java/lang/String" "coder" "B" (.int (0 : Int32))) (K_x : Arv Z h0 tx kx .byte (6 : Int32) [(.int c0.toInt8.toInt32), (.int c1.toInt8.toInt32), (.int c2.toInt8.toInt32), (.int c3.toInt8.toInt32), (.int c4.toInt8.toInt32), (.int c5.toInt8.toInt32)] (.int (0 : Int32))) (la_c0 : ¬ (c0 < (0 : Int32)) ∧ ¬ ((255 : Int32) < c0)) (la_c1 : ¬ (c1 < (0 : Int32)) ∧ ¬ ((255 : Int32) < c1)) (la_c2 : ¬ (c2 < (0 : Int32)) ∧ ¬ ((255 : Int32) < c2)) (la_c3 : ¬ (c3 < (0 : Int32)) ∧ ¬ ((255 : Int32) < c3)) (la_c4 : ¬ (c4 < (0 : Int32)) ∧ ¬ ((255 : Int32) < c4)) (la_c5 : ¬ (c5 < (0 : Int32)) ∧ ¬ ((255 : Int32) < c5)) (S_C : Sta Z Z.heap "java/lang/String" "COMPACT_STRINGS" "Z" (.int zc)) (hzc : ¬ (zc = (0 : Int32))) (S_R : Sta Z Z.heap "com/example/favonius/favonius/phrank/Variant" "R_FREE" "Lcom/example/favonius/favonius/phrank/Variant;" (.ref wR)) (S_Z : Sta Z Z.heap "com/example/favonius/favonius/phrank/Variant" "Z_FREE" "Lcom/example/favonius/favonius/phrank/Variant;" (.ref wZ)) :
    MetFree l (⟨"com/example/favonius/favonius/phrank/Variant", "defaultFor", "(Ljava/lang/String;)Lcom/example/favonius/favonius/phrank/Variant;"⟩ : MethodName) (head1 (Jvm.Cond.code (⟨"com/example/favonius/favonius/phrank/Variant", "defaultFor", "(Ljava/lang/String;)Lcom/example/favonius/favonius/phrank/Variant;"⟩ : MethodName) prog_22_method_4_code 1 (some (.object "com/example/favonius/favonius/phrank/Variant")) :: ws) ({ frames := 2, cells := 2, slots := 24, locals := 28 } : Room)) (fun a U => a = #[(.ref x)] ∧ Z.Warmed39 U.vm ∧ U.heap = h0 ∧ CHv Z own_EL U.vm h0 ∧ ∀ own_y ∈ ([] : List Addr), Safe Z own_EL U.vm h0 own_y) (fun _ _ _ _ _ => True) (fun _ U o U' => ∃ v L, o = .returned v ∧ Q_rm_df6 Z x tx kx c0 c1 c2 c3 c4 c5 zc wR wZ h0 n0 v U'.heap L ∧ CHr Z own_EL U.vm U.heap U'.vm U'.heap ∧ ReturnedEndW U o U' L ({ frames := 2, cells := 2, slots := 24, locals := 28 } : Room).cells ({ frames := 2, cells := 2, slots := 24, locals := 28 } : Room).slots) := by
  refine MetFree.of_bodySF (plainFor_of_name pn_2) hisR ?_
  intro p e s m args below meth c s₁ Bd hml0 hP hK
  obtain ⟨rfl, hZ, hh, hCH, hSf⟩ := hP
  have hx := Bd.exec
  have hby := Bd.bytes
  have hml : c.maxLocals = 1 := hml0
  have hown : s.vm.findClass "com/example/favonius/favonius/phrank/Variant" = some m.cls := findClass_of_methodNamed Bd.named
  have hnm := (name_of_methodNamed Bd.named Bd.method).1
  have X0 : Stand p l e ({ frames := 2, cells := 2, slots := 24, locals := 28 } : Room) (s.setVm s.vm) m #[(.ref x)] below meth c s₁ [] 0 0 := Stand.of_body Bd
  have e0 : s₁.heap = h0 := by rw [← hh, Bd.state]; rfl
  have N0 := Fr.nil n0
  have hZ0 := hZ
  have ho0 := hown
  have hS0 : s.Since s.vm 0 := (State.WarmedH.refl s).since 0
  have hk0 : 0 ≤ h0.size := Nat.zero_le _
  have CR0 : CHr Z own_EL s.vm h0 s.vm h0 := CHr.refl hCH
  have own_at : ∀ d ∈ Bundle.stringAtoms, d.before a0 Z = true := fun d hd => hw d (own_atoms d hd)
  have own_ew : EW Z a0 own_EL := own_EWof hw
  have hwq : ∀ d ∈ StrChars.Road.wordsEq, d.before a0 Z = true := fun d hd => hw d (own_wordsEq d hd)
  have hws : ∀ d ∈ StrChars.Road.words, d.before a0 Z = true := fun d hd => hw d (own_words d hd)
  have K0 : Keep h0 h0 [] := Keep.refl _ _
  have pre0 : ∀ t, Steps p.tables e below (s₁.setTop (mkF m 0 #[.val (.ref x)] [])) t → Steps p.tables e below (s₁.setTop (entryFrame m #[(.ref x)] 1)) t := fun t k => castTop (ef_rm_df6 m x) k
  obtain ⟨x1, T1, h1, q1, y1, j1, X1, e1, E1, hS1, hk1, hZ1, ho1, fE1, fC1, fV1, fA1, la1, lb1, C1, -, ns1, st1⟩ := ldcCH X0 hx hZ0 ho0 (own_w hw 34 rfl) own_at e0 hS0 hk0 own_ew (by decide) CR0.1 (vs := [(.int (116 : Int32).toInt8.toInt32), (.int (105 : Int32).toInt8.toInt32), (.int (116 : Int32).toInt8.toInt32), (.int (108 : Int32).toInt8.toInt32), (.int (101 : Int32).toInt8.toInt32)]) (z := (5 : Int32)) ⟨by decide, by decide +kernel⟩ (by decide) rfl (g := (mkF m 1 #[.val (.ref x)] [(.ref x)])) rfl (hb hby d4_1) (n := 20) (by decide) (by decide) (by decide) (by decide)
  have O2 := O0.ext E1
  have K3 : Keep h0 h1 [] := K0.ext E1
  have CR4 := CR0.trans C1
  have f6 := (Exa.ext E1 E_x)
  have f7 := (Fld.ext E1 V_x)
  have f8 := (Fld.ext E1 C_x)
  have f9 := (Arv.ext K_x E1)
  have la10 : ∀ c ∈ ([c0, c1, c2, c3, c4, c5] : List Int32), ¬ c < 0 ∧ ¬ (255 : Int32) < c := by
    intro c hc
    simp only [List.mem_cons, List.not_mem_nil, or_false] at hc
    rcases hc with rfl | rfl | rfl | rfl | rfl | rfl
    · exact la_c0
    · exact la_c1
    · exact la_c2
    · exact la_c3
    · exact la_c4
    · exact la_c5
  have cd10 : StrChars.Road.CodA ([c0, c1, c2, c3, c4, c5] : List Int32) 0 (6 : Int32) [(.int c0.toInt8.toInt32), (.int c1.toInt8.toInt32), (.int c2.toInt8.toInt32), (.int c3.toInt8.toInt32), (.int c4.toInt8.toInt32), (.int c5.toInt8.toInt32)] := StrChars.Road.codOf (n := 6) rfl (fun x hx => (la10 x hx).2)
  have bd10 := own_up la10
  have la11 : ∀ c ∈ ([(116 : Int32), (105 : Int32), (116 : Int32), (108 : Int32), (101 : Int32)] : List Int32), ¬ c < 0 ∧ ¬ (255 : Int32) < c := by
    intro c hc
    simp only [List.mem_cons, List.not_mem_nil, or_false] at hc
    rcases hc with rfl | rfl | rfl | rfl | rfl
    · exact ⟨by decide, by decide⟩
    · exact ⟨by decide, by decide⟩
    · exact ⟨by decide, by decide⟩
    · exact ⟨by decide, by decide⟩
    · exact ⟨by decide, by decide⟩
  have cd11 : StrChars.Road.CodA ([(116 : Int32), (105 : Int32), (116 : Int32), (108 : Int32), (101 : Int32)] : List Int32) 0 (5 : Int32) [(.int (116 : Int32).toInt8.toInt32), (.int (105 : Int32).toInt8.toInt32), (.int (116 : Int32).toInt8.toInt32), (.int (108 : Int32).toInt8.toInt32), (.int (101 : Int32).toInt8.toInt32)] := StrChars.Road.codOf (n := 5) rfl (fun x hx => (la11 x hx).2)
  have bd11 := own_up la11
  obtain ⟨cq5, kq5, q5a, q5b, q5c⟩ := isOf hZ1 e1 f6
  obtain ⟨_, _, ⟨T5, L5, k5, n5⟩, -, X5, ⟨Lc5, hQ5, l5, y5, z5⟩, st5⟩ := X1.virtualBack hx (y := (⟨"java/lang/String", "equals", "(Ljava/lang/Object;)Z"⟩ : MethodName)) (z := (⟨"java/lang/String", "equals", "(Ljava/lang/Object;)Z"⟩ : MethodName)) ho1 (mvT hZ1 (own_w hw 35 rfl)) (mvT hZ1 (own_w hw 36 rfl)) (notFace_of_selects (args := #[]) (mvT hZ1 (own_w hw 38 rfl))) (mvT hZ1 (own_w hw 38 rfl)) (mvT hZ1 (own_w hw 37 rfl)) (by decide) (StrChars.Road.eqW (W := 0) hZ1 hwq (kI := 4) (own_w hw 7 rfl) (cs := [c0, c1, c2, c3, c4, c5]) f6 f7 f8 f9 cd10 bd10 (by show 6 ≤ 4000; decide) (ds := [(116 : Int32), (105 : Int32), (116 : Int32), (108 : Int32), (101 : Int32)]) fE1 fV1 fC1 fA1 cd11 bd11 (by show 5 ≤ 4000; decide) (S_C.ext O2.2) hzc (by decide) (by decide)) q5a q5c (g := (mkF m 3 #[.val (.ref x)] [(.ref x1), (.ref x)])) rfl (by rw [hml]; rfl) (Steps.refl _) (argsL := [(.ref x1)]) (rest := []) (lenOf pd_1 rfl) rfl (by show 2 * 0 + _ ≤ _; exact Nat.le_of_eq rfl) (hb hby d4_3) (fun _ _ => ⟨rfl, e1, (by decide : 2 + 0 ≤ _), (by decide : 24 + 0 ≤ _)⟩)
  dsimp only [Pt.U, Pt.locs, Pt.cells, Pt.slots] at X5 l5 y5 z5 st5 hQ5
  subst l5 y5 z5
  obtain ⟨hQ5, rfl, k12⟩ := hQ5
  have N14 := Fr.app N0 (Fr.nil n0)
  rcases hQ5 with ⟨rfl, c13⟩ | ⟨rfl, c13⟩
  · exact absurd c13 (fun q => by have := congrArg List.length q; simp at this)
  · obtain ⟨T15, X15, e15, st15⟩ := getS2 X5 hx hZ1 ho1 (host := "") (Or.inl (own_w hw 46 rfl)) Via.refl k12 (S_Z.ext O2.2) (g := (mkF m 15 #[.val (.ref x)] [])) rfl (hb hby d4_15)
    have S16 : ∀ t, Steps p.tables e below (T15.setTop (mkF m 18 #[.val (.ref x)] [(.ref wZ)])) t → Steps p.tables e below (s₁.setTop (mkF m 0 #[.val (.ref x)] [])) t := by
      intro t kt
      refine XS.aloadN X0.here hx rfl (hb hby d4_0) rfl rfl ?_
      show Steps p.tables e below (s₁.setTop (mkF m 1 #[.val (.ref x)] [(.ref x)])) _
      refine st1 _ ?_
      show Steps p.tables e below (T1.setTop (mkF m 3 #[.val (.ref x)] [(.ref x1), (.ref x)])) _
      refine st5.trans ?_
      refine XS.ifYes X5.here hx rfl (pc0 := 6) (pc' := 15) rfl (hb hby d4_6) rfl ((if0 _ _).trans (teq ((by decide) : (0 : Int32) = (0 : Int32))).1) (by decide) (by decide) ?_
      show Steps p.tables e below (T5.setTop (mkF m 15 #[.val (.ref x)] [])) _
      refine st15 _ ?_
      exact kt
    obtain ⟨fs, hr, hrun, hended, hRW⟩ := X15.leaveW hS1 (by rw [e15]; exact hk1) (v := some (.ref wZ)) (fun h => by rw [Bd.returns] at h; cases h)
    refine ⟨_, _, pre0 _ (S16 _ ?_), hrun, hended, _, _, rfl, ?_, ?_, hRW.1, hRW.2.1, hRW.2.2.1, hRW.2.2.2.mono (by decide) (by decide)⟩
    · exact retOut X15 hx Bd.returns rfl (Or.inr (Or.inr (Or.inr (Or.inr ⟨rfl, rfl, rfl⟩)))) (hb hby d4_18) hr
    · show Q_rm_df6 Z x tx kx c0 c1 c2 c3 c4 c5 zc wR wZ h0 n0 _ T15.heap _
      rw [e15]
      exact ⟨rfl, N14, K3⟩
    · show CHr Z own_EL s.vm s.heap T15.vm T15.heap
      rw [hh, e15]
      exact CR4.trans (CHv.at X15 hZ1 own_ew CR4.1)
theorem ef_rm_df7 (m : MethodId) (x0 : Addr) : entryFrame m #[(.ref x0)] 1 = mkF m 0 #[.val (.ref x0)] [] := by first | (simp [entryFrame, mkF, argsToLocals, Value.category]; done) | rfl
def Q_rm_df7 (Z : State) (x : Addr) (tx : Addr) (kx : ClassId) (c0 : Int32) (c1 : Int32) (c2 : Int32) (c3 : Int32) (c4 : Int32) (c5 : Int32) (c6 : Int32) (zc : Int32) (wR : Addr) (wZ : Addr) (h0 : Heap) (n0 : Nat) (v : Option Value) (h : Heap) (L : List Loc) : Prop := ((v = some (.ref wZ)) ∧ (Fr n0 L) ∧ (Keep h0 h []))
set_option maxRecDepth 65536 in
set_option maxHeartbeats 40000000 in
theorem rm_df7 (l : Launch) (Z : State) (a0 : Array Value) (hw : ∀ d ∈ tables_1, d.before a0 Z = true) (ws : List Jvm.Cond) (x : Addr) (tx : Addr) (kx : ClassId) (c0 : Int32) (c1 : Int32) (c2 : Int32) (c3 : Int32) (c4 : Int32) (c5 : Int32) (c6 : Int32) (zc : Int32) (wR : Addr) (wZ : Addr) (h0 : Heap) (n0 : Nat) (O0 : Old Z n0 h0) (E_x : Exa Z h0 x "java/lang/String") (V_x : Fld Z h0 x "java/lang/String" "value" "[B" (.ref tx)) (C_x : Fld Z h0 x "java/lang/String" "coder" "B" (.int (0 : Int32))) (K_x : Arv Z h0 tx kx .byte (7 : Int32) [(.int c0.toInt8.toInt32), (.int c1.toInt8.toInt32), (.int c2.toInt8.toInt32), (.int c3.toInt8.toInt32), (.int c4.toInt8.toInt32), (.int c5.toInt8.toInt32), (.int c6.toInt8.toInt32)] (.int (0 : Int32))) (la_c0 : ¬ (c0 < (0 : Int32)) ∧ ¬ ((255 : Int32) < c0)) (la_c1 : ¬ (c1 < (0 : Int32)) ∧ ¬ ((255 : Int32) < c1)) (la_c2 : ¬ (c2 < (0 : Int32)) ∧ ¬ ((255 : Int32) < c2)) (la_c3 : ¬ (c3 < (0 : Int32)) ∧ ¬ ((255 : Int32) < c3)) (la_c4 : ¬ (c4 < (0 : Int32)) ∧ ¬ ((255 : Int32) < c4)) (la_c5 : ¬ (c5 < (0 : Int32)) ∧ ¬ ((255 : Int32) < c5)) (la_c6 : ¬ (c6 < (0 : Int32)) ∧ ¬ ((255 : Int32) < c6)) (S_C : Sta Z Z.heap "java/lang/String" "COMPACT_STRINGS" "Z" (.int zc)) (hzc : ¬ (zc = (0 : Int32))) (S_R : Sta Z Z.heap "com/example/favonius/favonius/phrank/Variant" "R_FREE" "Lcom/example/favonius/favonius/phrank/Variant;" (.ref wR)) (S_Z : Sta Z Z.heap "com/example/favonius/favonius/phrank/Variant" "Z_FREE" "Lcom/example/favonius/favonius/phrank/Variant;" (.ref wZ)) :
    MetFree l (⟨"com/example/favonius/favonius/phrank/Variant", "defaultFor", "(Ljava/lang/String;)Lcom/example/favonius/favonius/phrank/Variant;"⟩ : MethodName) (head1 (Jvm.Cond.code (⟨"com/example/favonius/favonius/phrank/Variant", "defaultFor", "(Ljava/lang/String;)Lcom/example/favonius/favonius/phrank/Variant;"⟩ : MethodName) prog_22_method_4_code 1 (some (.object "com/example/favonius/favonius/phrank/Variant")) :: ws) ({ frames := 2, cells := 2, slots := 24, locals := 28 } : Room)) (fun a U => a = #[(.ref x)] ∧ Z.Warmed39 U.vm ∧ U.heap = h0 ∧ CHv Z own_EL U.vm h0 ∧ ∀ own_y ∈ ([] : List Addr), Safe Z own_EL U.vm h0 own_y) (fun _ _ _ _ _ => True) (fun _ U o U' => ∃ v L, o = .returned v ∧ Q_rm_df7 Z x tx kx c0 c1 c2 c3 c4 c5 c6 zc wR wZ h0 n0 v U'.heap L ∧ CHr Z own_EL U.vm U.heap U'.vm U'.heap ∧ ReturnedEndW U o U' L ({ frames := 2, cells := 2, slots := 24, locals := 28 } : Room).cells ({ frames := 2, cells := 2, slots := 24, locals := 28 } : Room).slots) := by
  refine MetFree.of_bodySF (plainFor_of_name pn_2) hisR ?_
  intro p e s m args below meth c s₁ Bd hml0 hP hK
  obtain ⟨rfl, hZ, hh, hCH, hSf⟩ := hP
  have hx := Bd.exec
  have hby := Bd.bytes
  have hml : c.maxLocals = 1 := hml0
  have hown : s.vm.findClass "com/example/favonius/favonius/phrank/Variant" = some m.cls := findClass_of_methodNamed Bd.named
  have hnm := (name_of_methodNamed Bd.named Bd.method).1
  have X0 : Stand p l e ({ frames := 2, cells := 2, slots := 24, locals := 28 } : Room) (s.setVm s.vm) m #[(.ref x)] below meth c s₁ [] 0 0 := Stand.of_body Bd
  have e0 : s₁.heap = h0 := by rw [← hh, Bd.state]; rfl
  have N0 := Fr.nil n0
  have hZ0 := hZ
  have ho0 := hown
  have hS0 : s.Since s.vm 0 := (State.WarmedH.refl s).since 0
  have hk0 : 0 ≤ h0.size := Nat.zero_le _
  have CR0 : CHr Z own_EL s.vm h0 s.vm h0 := CHr.refl hCH
  have own_at : ∀ d ∈ Bundle.stringAtoms, d.before a0 Z = true := fun d hd => hw d (own_atoms d hd)
  have own_ew : EW Z a0 own_EL := own_EWof hw
  have hwq : ∀ d ∈ StrChars.Road.wordsEq, d.before a0 Z = true := fun d hd => hw d (own_wordsEq d hd)
  have hws : ∀ d ∈ StrChars.Road.words, d.before a0 Z = true := fun d hd => hw d (own_words d hd)
  have K0 : Keep h0 h0 [] := Keep.refl _ _
  have pre0 : ∀ t, Steps p.tables e below (s₁.setTop (mkF m 0 #[.val (.ref x)] [])) t → Steps p.tables e below (s₁.setTop (entryFrame m #[(.ref x)] 1)) t := fun t k => castTop (ef_rm_df7 m x) k
  obtain ⟨x1, T1, h1, q1, y1, j1, X1, e1, E1, hS1, hk1, hZ1, ho1, fE1, fC1, fV1, fA1, la1, lb1, C1, -, ns1, st1⟩ := ldcCH X0 hx hZ0 ho0 (own_w hw 34 rfl) own_at e0 hS0 hk0 own_ew (by decide) CR0.1 (vs := [(.int (116 : Int32).toInt8.toInt32), (.int (105 : Int32).toInt8.toInt32), (.int (116 : Int32).toInt8.toInt32), (.int (108 : Int32).toInt8.toInt32), (.int (101 : Int32).toInt8.toInt32)]) (z := (5 : Int32)) ⟨by decide, by decide +kernel⟩ (by decide) rfl (g := (mkF m 1 #[.val (.ref x)] [(.ref x)])) rfl (hb hby d4_1) (n := 20) (by decide) (by decide) (by decide) (by decide)
  have O2 := O0.ext E1
  have K3 : Keep h0 h1 [] := K0.ext E1
  have CR4 := CR0.trans C1
  have f6 := (Exa.ext E1 E_x)
  have f7 := (Fld.ext E1 V_x)
  have f8 := (Fld.ext E1 C_x)
  have f9 := (Arv.ext K_x E1)
  have la10 : ∀ c ∈ ([c0, c1, c2, c3, c4, c5, c6] : List Int32), ¬ c < 0 ∧ ¬ (255 : Int32) < c := by
    intro c hc
    simp only [List.mem_cons, List.not_mem_nil, or_false] at hc
    rcases hc with rfl | rfl | rfl | rfl | rfl | rfl | rfl
    · exact la_c0
    · exact la_c1
    · exact la_c2
    · exact la_c3
    · exact la_c4
    · exact la_c5
    · exact la_c6
  have cd10 : StrChars.Road.CodA ([c0, c1, c2, c3, c4, c5, c6] : List Int32) 0 (7 : Int32) [(.int c0.toInt8.toInt32), (.int c1.toInt8.toInt32), (.int c2.toInt8.toInt32), (.int c3.toInt8.toInt32), (.int c4.toInt8.toInt32), (.int c5.toInt8.toInt32), (.int c6.toInt8.toInt32)] := StrChars.Road.codOf (n := 7) rfl (fun x hx => (la10 x hx).2)
  have bd10 := own_up la10
  have la11 : ∀ c ∈ ([(116 : Int32), (105 : Int32), (116 : Int32), (108 : Int32), (101 : Int32)] : List Int32), ¬ c < 0 ∧ ¬ (255 : Int32) < c := by
    intro c hc
    simp only [List.mem_cons, List.not_mem_nil, or_false] at hc
    rcases hc with rfl | rfl | rfl | rfl | rfl
    · exact ⟨by decide, by decide⟩
    · exact ⟨by decide, by decide⟩
    · exact ⟨by decide, by decide⟩
    · exact ⟨by decide, by decide⟩
    · exact ⟨by decide, by decide⟩
  have cd11 : StrChars.Road.CodA ([(116 : Int32), (105 : Int32), (116 : Int32), (108 : Int32), (101 : Int32)] : List Int32) 0 (5 : Int32) [(.int (116 : Int32).toInt8.toInt32), (.int (105 : Int32).toInt8.toInt32), (.int (116 : Int32).toInt8.toInt32), (.int (108 : Int32).toInt8.toInt32), (.int (101 : Int32).toInt8.toInt32)] := StrChars.Road.codOf (n := 5) rfl (fun x hx => (la11 x hx).2)
  have bd11 := own_up la11
  obtain ⟨cq5, kq5, q5a, q5b, q5c⟩ := isOf hZ1 e1 f6
  obtain ⟨_, _, ⟨T5, L5, k5, n5⟩, -, X5, ⟨Lc5, hQ5, l5, y5, z5⟩, st5⟩ := X1.virtualBack hx (y := (⟨"java/lang/String", "equals", "(Ljava/lang/Object;)Z"⟩ : MethodName)) (z := (⟨"java/lang/String", "equals", "(Ljava/lang/Object;)Z"⟩ : MethodName)) ho1 (mvT hZ1 (own_w hw 35 rfl)) (mvT hZ1 (own_w hw 36 rfl)) (notFace_of_selects (args := #[]) (mvT hZ1 (own_w hw 38 rfl))) (mvT hZ1 (own_w hw 38 rfl)) (mvT hZ1 (own_w hw 37 rfl)) (by decide) (StrChars.Road.eqW (W := 0) hZ1 hwq (kI := 4) (own_w hw 7 rfl) (cs := [c0, c1, c2, c3, c4, c5, c6]) f6 f7 f8 f9 cd10 bd10 (by show 7 ≤ 4000; decide) (ds := [(116 : Int32), (105 : Int32), (116 : Int32), (108 : Int32), (101 : Int32)]) fE1 fV1 fC1 fA1 cd11 bd11 (by show 5 ≤ 4000; decide) (S_C.ext O2.2) hzc (by decide) (by decide)) q5a q5c (g := (mkF m 3 #[.val (.ref x)] [(.ref x1), (.ref x)])) rfl (by rw [hml]; rfl) (Steps.refl _) (argsL := [(.ref x1)]) (rest := []) (lenOf pd_1 rfl) rfl (by show 2 * 0 + _ ≤ _; exact Nat.le_of_eq rfl) (hb hby d4_3) (fun _ _ => ⟨rfl, e1, (by decide : 2 + 0 ≤ _), (by decide : 24 + 0 ≤ _)⟩)
  dsimp only [Pt.U, Pt.locs, Pt.cells, Pt.slots] at X5 l5 y5 z5 st5 hQ5
  subst l5 y5 z5
  obtain ⟨hQ5, rfl, k12⟩ := hQ5
  have N14 := Fr.app N0 (Fr.nil n0)
  rcases hQ5 with ⟨rfl, c13⟩ | ⟨rfl, c13⟩
  · exact absurd c13 (fun q => by have := congrArg List.length q; simp at this)
  · obtain ⟨T15, X15, e15, st15⟩ := getS2 X5 hx hZ1 ho1 (host := "") (Or.inl (own_w hw 46 rfl)) Via.refl k12 (S_Z.ext O2.2) (g := (mkF m 15 #[.val (.ref x)] [])) rfl (hb hby d4_15)
    have S16 : ∀ t, Steps p.tables e below (T15.setTop (mkF m 18 #[.val (.ref x)] [(.ref wZ)])) t → Steps p.tables e below (s₁.setTop (mkF m 0 #[.val (.ref x)] [])) t := by
      intro t kt
      refine XS.aloadN X0.here hx rfl (hb hby d4_0) rfl rfl ?_
      show Steps p.tables e below (s₁.setTop (mkF m 1 #[.val (.ref x)] [(.ref x)])) _
      refine st1 _ ?_
      show Steps p.tables e below (T1.setTop (mkF m 3 #[.val (.ref x)] [(.ref x1), (.ref x)])) _
      refine st5.trans ?_
      refine XS.ifYes X5.here hx rfl (pc0 := 6) (pc' := 15) rfl (hb hby d4_6) rfl ((if0 _ _).trans (teq ((by decide) : (0 : Int32) = (0 : Int32))).1) (by decide) (by decide) ?_
      show Steps p.tables e below (T5.setTop (mkF m 15 #[.val (.ref x)] [])) _
      refine st15 _ ?_
      exact kt
    obtain ⟨fs, hr, hrun, hended, hRW⟩ := X15.leaveW hS1 (by rw [e15]; exact hk1) (v := some (.ref wZ)) (fun h => by rw [Bd.returns] at h; cases h)
    refine ⟨_, _, pre0 _ (S16 _ ?_), hrun, hended, _, _, rfl, ?_, ?_, hRW.1, hRW.2.1, hRW.2.2.1, hRW.2.2.2.mono (by decide) (by decide)⟩
    · exact retOut X15 hx Bd.returns rfl (Or.inr (Or.inr (Or.inr (Or.inr ⟨rfl, rfl, rfl⟩)))) (hb hby d4_18) hr
    · show Q_rm_df7 Z x tx kx c0 c1 c2 c3 c4 c5 c6 zc wR wZ h0 n0 _ T15.heap _
      rw [e15]
      exact ⟨rfl, N14, K3⟩
    · show CHr Z own_EL s.vm s.heap T15.vm T15.heap
      rw [hh, e15]
      exact CR4.trans (CHv.at X15 hZ1 own_ew CR4.1)
theorem own_and7 (x nv : Int32) (h : nv = (x &&& (7 : Int32))) : nv = (0 : Int32) ∨ nv = (1 : Int32) ∨ nv = (2 : Int32) ∨ nv = (3 : Int32) ∨ nv = (4 : Int32) ∨ nv = (5 : Int32) ∨ nv = (6 : Int32) ∨ nv = (7 : Int32) := by
  have a := c_and x 7 (by decide)
  have e7 : (7 : Int32).toInt = 7 := by decide
  rw [e7, ← h] at a
  obtain ⟨b1, b2⟩ := a
  have key : ∀ n : Nat, n < 8 → nv.toInt = (n : Int) → nv = Int32.ofNat n := by
    intro n hn hi
    apply Int32.toInt_inj.mp
    rw [hi, Int32.toInt_ofNat_of_lt (by omega)]
  obtain ⟨n, hn⟩ := Int.eq_ofNat_of_zero_le b1
  have hlt : n < 8 := by omega
  have hk := key n hlt hn
  clear key hn b1 b2 h
  match n, hlt with
  | 0, _ => exact Or.inl hk
  | 1, _ => exact Or.inr (Or.inl hk)
  | 2, _ => exact Or.inr (Or.inr (Or.inl hk))
  | 3, _ => exact Or.inr (Or.inr (Or.inr (Or.inl hk)))
  | 4, _ => exact Or.inr (Or.inr (Or.inr (Or.inr (Or.inl hk))))
  | 5, _ => exact Or.inr (Or.inr (Or.inr (Or.inr (Or.inr (Or.inl hk)))))
  | 6, _ => exact Or.inr (Or.inr (Or.inr (Or.inr (Or.inr (Or.inr (Or.inl hk))))))
  | 7, _ => exact Or.inr (Or.inr (Or.inr (Or.inr (Or.inr (Or.inr (Or.inr (hk)))))))
theorem pd_2 : parseMethodDescriptor "(IIJC)C" = some ⟨[.int, .int, .long, .char], some .char⟩ := by decide +kernel
theorem pd_3 : parseMethodDescriptor "(I[C)[C" = some ⟨[.int, (.array .char)], some (.array .char)⟩ := by decide +kernel
theorem pd_4 : parseMethodDescriptor "([C)V" = some ⟨[(.array .char)], none⟩ := by decide +kernel
theorem pd_5 : parseMethodDescriptor "(Ljava/lang/String;)Lcom/example/favonius/favonius/phrank/Variant;" = some ⟨[(.object "java/lang/String")], some (.object "com/example/favonius/favonius/phrank/Variant")⟩ := by decide +kernel
theorem ef_rm_law (m : MethodId) (x0 : Int32) (x1 : Int32) (x2 : Int64) : entryFrame m #[(.int x0), (.int x1), (.long x2)] maxLocals = mkF m 0 #[.val (.int x0), .val (.int x1), .val (.long x2), .second, .unset, .unset, .unset, .unset, .unset, .unset] [] := by first | (simp [entryFrame, mkF, argsToLocals, Value.category, maxLocals]; done) | rfl
def Q_rm_law (Z : State) (ln : Int32) (mk : Int32) (d : Int64) (zc : Int32) (wR : Addr) (wZ : Addr) (h0 : Heap) (n0 : Nat) (v : Option Value) (h : Heap) (L : List Loc) : Prop := ((v = some (.int (1 : Int32))) ∧ (Fr n0 L))
set_option maxRecDepth 65536 in
set_option maxHeartbeats 40000000 in
theorem rm_law (l : Launch) (Z : State) (a0 : Array Value) (hw : ∀ d ∈ tables_1, d.before a0 Z = true) (ws : List Jvm.Cond) (ln : Int32) (mk : Int32) (d : Int64) (zc : Int32) (wR : Addr) (wZ : Addr) (h0 : Heap) (n0 : Nat) (O0 : Old Z n0 h0) (S_C : Sta Z Z.heap "java/lang/String" "COMPACT_STRINGS" "Z" (.int zc)) (hzc : ¬ (zc = (0 : Int32))) (S_R : Sta Z Z.heap "com/example/favonius/favonius/phrank/Variant" "R_FREE" "Lcom/example/favonius/favonius/phrank/Variant;" (.ref wR)) (S_Z : Sta Z Z.heap "com/example/favonius/favonius/phrank/Variant" "Z_FREE" "Lcom/example/favonius/favonius/phrank/Variant;" (.ref wZ)) :
    MetFree l x (head1 (Jvm.Cond.code x code maxLocals ret :: ws) room_1) (fun a U => a = #[(.int ln), (.int mk), (.long d)] ∧ Z.Warmed39 U.vm ∧ U.heap = h0 ∧ CHv Z own_EL U.vm h0 ∧ ∀ own_y ∈ ([] : List Addr), Safe Z own_EL U.vm h0 own_y) (fun _ _ _ _ _ => True) (fun _ U o U' => ∃ v L, o = .returned v ∧ Q_rm_law Z ln mk d zc wR wZ h0 n0 v U'.heap L ∧ CHr Z own_EL U.vm U.heap U'.vm U'.heap ∧ ReturnedEndW U o U' L room_1.cells room_1.slots) := by
  refine MetFree.of_bodySF (plainFor_of_name pn_1) hisR ?_
  intro p e s m args below meth c s₁ Bd hml0 hP hK
  obtain ⟨rfl, hZ, hh, hCH, hSf⟩ := hP
  have hx := Bd.exec
  have hby := Bd.bytes
  have hml : c.maxLocals = 10 := hml0
  have hown : s.vm.findClass "com/example/favonius/favonius/phrank/VariantDefaultForPinLaw" = some m.cls := findClass_of_methodNamed Bd.named
  have hnm := (name_of_methodNamed Bd.named Bd.method).1
  have X0 : Stand p l e room_1 (s.setVm s.vm) m #[(.int ln), (.int mk), (.long d)] below meth c s₁ [] 0 0 := Stand.of_body Bd
  have e0 : s₁.heap = h0 := by rw [← hh, Bd.state]; rfl
  have N0 := Fr.nil n0
  have hZ0 := hZ
  have ho0 := hown
  have hS0 : s.Since s.vm 0 := (State.WarmedH.refl s).since 0
  have hk0 : 0 ≤ h0.size := Nat.zero_le _
  have CR0 : CHr Z own_EL s.vm h0 s.vm h0 := CHr.refl hCH
  have own_at : ∀ d ∈ Bundle.stringAtoms, d.before a0 Z = true := fun d hd => hw d (own_atoms d hd)
  have own_ew : EW Z a0 own_EL := own_EWof hw
  have hwq : ∀ d ∈ StrChars.Road.wordsEq, d.before a0 Z = true := fun d hd => hw d (own_wordsEq d hd)
  have hws : ∀ d ∈ StrChars.Road.words, d.before a0 Z = true := fun d hd => hw d (own_words d hd)
  have pre0 : ∀ t, Steps p.tables e below (s₁.setTop (mkF m 0 #[.val (.int ln), .val (.int mk), .val (.long d), .second, .unset, .unset, .unset, .unset, .unset, .unset] [])) t → Steps p.tables e below (s₁.setTop (entryFrame m #[(.int ln), (.int mk), (.long d)] maxLocals)) t := fun t k => castTop (ef_rm_law m ln mk d) k
  have S1 : ∀ t, Steps p.tables e below (s₁.setTop (mkF m 4 #[.val (.int ln), .val (.int mk), .val (.long d), .second, .unset, .unset, .unset, .unset, .unset, .unset] [(.int (ln &&& (7 : Int32)))])) t → Steps p.tables e below (s₁.setTop (mkF m 0 #[.val (.int ln), .val (.int mk), .val (.long d), .second, .unset, .unset, .unset, .unset, .unset, .unset] [])) t := by
    intro t kt
    refine XS.iloadN X0.here hx rfl (hb hby at_0) rfl ?_
    refine XS.bipush X0.here hx rfl (hb hby at_1) ?_
    refine XS.iand X0.here hx rfl (hb hby at_3) rfl ?_
    exact kt
  obtain ⟨nv, h_nv⟩ : ∃ z, z = (ln &&& (7 : Int32)) := ⟨_, rfl⟩
  have S2 : ∀ t, Steps p.tables e below (s₁.setTop (mkF m 4 #[.val (.int ln), .val (.int mk), .val (.long d), .second, .unset, .unset, .unset, .unset, .unset, .unset] [(.int nv)])) t → Steps p.tables e below (s₁.setTop (mkF m 0 #[.val (.int ln), .val (.int mk), .val (.long d), .second, .unset, .unset, .unset, .unset, .unset, .unset] [])) t := by rw [h_nv]; exact S1
  obtain ⟨T3, h3, k3, X3, e3, E3, A3, B3, st3⟩ := newPE X0 hx hZ0 (own_w hw 0 rfl) e0 (g := (mkF m 8 #[.val (.int ln), .val (.int mk), .val (.long d), .second, .val (.int nv), .unset, .unset, .unset, .unset, .unset] [(.int (7 : Int32))])) rfl (hb hby at_8) rfl (by decide) (cap := 7) (by decide) (by decide) (by decide) (by decide) (ad := "[C") (by first | rfl | decide)
  obtain ⟨b3, g3⟩ : ∃ z, z = h0.size := ⟨_, rfl⟩
  have ge_b3 : n0 ≤ b3 := by rw [g3, ← O0.1]; exact O0.2.1
  rw [← g3] at A3 B3 st3
  have CR4 := CR0.trans (CHr.ext E3 CR0.1)
  have hk5 := Nat.le_trans hk0 E3.1
  have O6 := O0.ext E3
  have F3 : Arv Z h3 b3 k3 .char (7 : Int32) [(.int (0 : Int32)), (.int (0 : Int32)), (.int (0 : Int32)), (.int (0 : Int32)), (.int (0 : Int32)), (.int (0 : Int32)), (.int (0 : Int32))] (.int (0 : Int32)) := (Arv.new A3 (by decide)).pad (pad_rep [] (.int (0 : Int32)) 7)
  obtain ⟨_, _, ⟨T7, L7, k7, n7⟩, -, X7, ⟨Lc7, hQ7, l7, y7, z7⟩, st7⟩ := Jvm.LawKit.callS X3 hx (y := (⟨"com/example/favonius/favonius/phrank/VariantDefaultForPinLaw", "pick", "(IIJC)C"⟩ : MethodName)) ho0 (mvT hZ0 (own_w hw 1 rfl)) (mvT hZ0 (own_w hw 2 rfl)) (mvT hZ0 (own_w hw 3 rfl)) (mvT hZ0 (own_w hw 4 rfl)) (by decide) (backOf (W := 2) (rm_pick l Z a0 hw [] mk (0 : Int32) d (116 : Int32) h3 n0 O6 ⟨by decide, by decide⟩) hZ0 (own_w hw 4 rfl) (own_w hw 3 rfl) (by decide) (by decide)) (g := (mkF m 20 #[.val (.int ln), .val (.int mk), .val (.long d), .second, .val (.int nv), .val (.ref b3), .unset, .unset, .unset, .unset] [(.int (116 : Int32)), (.long d), (.int (0 : Int32)), (.int mk), (.int (0 : Int32)), (.ref b3)])) rfl (by rw [hml]; rfl) (argsL := [(.int mk), (.int (0 : Int32)), (.long d), (.int (116 : Int32))]) (rest := [(.int (0 : Int32)), (.ref b3)]) (lenOf pd_2 rfl) rfl (by show 2 * 0 + _ ≤ _; exact Nat.le_of_eq rfl) (hb hby at_20) (fun _ _ => ⟨rfl, e3, (by decide : 1 + 0 ≤ _), (by decide : 7 + 0 ≤ _)⟩)
  dsimp only [Pt.U, Pt.locs, Pt.cells, Pt.slots] at X7 l7 y7 z7 st7 hQ7
  subst l7 y7 z7
  obtain ⟨x8, c9, rfl, N10, k11⟩ := hQ7
  have N12 := Fr.app N0 N10
  obtain ⟨cl13, Ar13, q13, Sz13, Nn13, Hh13, Gg13⟩ := id F3
  have in13 : ¬ ((0 : Int32) < 0 ∨ cl13.slots.size ≤ ((0 : Int32)).toNatClampNeg) := inb_of Sz13 ⟨by decide, by decide⟩
  obtain ⟨T13, h13, X13, e13, W13, st13⟩ := stC X7 hx hZ0 k11 Ar13 (j := (0 : Int32)) in13 (g := (mkF m 23 #[.val (.int ln), .val (.int mk), .val (.long d), .second, .val (.int nv), .val (.ref b3), .unset, .unset, .unset, .unset] [(.int x8), (.int (0 : Int32)), (.ref b3)])) rfl rfl (hb hby at_23)
  rw [show nar .char x8 = x8 from own_nar c9] at W13
  have CR14 := CR4.trans (CHr.wr W13 (Safe.exa hZ0.alike B3 (by decide) (by decide)) CR4.1)
  have hk15 := Nat.le_trans hk5 (Keep.of_wr W13).1
  have O16 := O6.wr W13 ge_b3
  have N17 := Fr.snoc X13 N12 ge_b3
  have F13 : Arv Z h13 b3 k3 .char (7 : Int32) [(.int x8), (.int (0 : Int32)), (.int (0 : Int32)), (.int (0 : Int32)), (.int (0 : Int32)), (.int (0 : Int32)), (.int (0 : Int32))] (.int (0 : Int32)) := Arv.set Ar13 q13 Sz13 Nn13 Hh13 Gg13 (by rw [← (own_nar c9 : nar .char x8 = x8)]; exact fits_nar_char _) W13 0 rfl (Nat.le_of_ble_eq_true rfl)
  obtain ⟨_, _, ⟨T18, L18, k18, n18⟩, -, X18, ⟨Lc18, hQ18, l18, y18, z18⟩, st18⟩ := Jvm.LawKit.callS X13 hx (y := (⟨"com/example/favonius/favonius/phrank/VariantDefaultForPinLaw", "pick", "(IIJC)C"⟩ : MethodName)) ho0 (mvT hZ0 (own_w hw 1 rfl)) (mvT hZ0 (own_w hw 2 rfl)) (mvT hZ0 (own_w hw 3 rfl)) (mvT hZ0 (own_w hw 4 rfl)) (by decide) (backOf (W := 2) (rm_pick l Z a0 hw [] mk (1 : Int32) d (105 : Int32) h13 n0 O16 ⟨by decide, by decide⟩) hZ0 (own_w hw 4 rfl) (own_w hw 3 rfl) (by decide) (by decide)) (g := (mkF m 32 #[.val (.int ln), .val (.int mk), .val (.long d), .second, .val (.int nv), .val (.ref b3), .unset, .unset, .unset, .unset] [(.int (105 : Int32)), (.long d), (.int (1 : Int32)), (.int mk), (.int (1 : Int32)), (.ref b3)])) rfl (by rw [hml]; rfl) (argsL := [(.int mk), (.int (1 : Int32)), (.long d), (.int (105 : Int32))]) (rest := [(.int (1 : Int32)), (.ref b3)]) (lenOf pd_2 rfl) rfl (by show 2 * 0 + _ ≤ _; exact Nat.le_of_eq rfl) (hb hby at_32) (fun _ _ => ⟨rfl, e13, (by decide : 1 + 0 ≤ _), (by decide : 7 + 0 ≤ _)⟩)
  dsimp only [Pt.U, Pt.locs, Pt.cells, Pt.slots] at X18 l18 y18 z18 st18 hQ18
  subst l18 y18 z18
  obtain ⟨x19, c20, rfl, N21, k22⟩ := hQ18
  have N23 := Fr.app N17 N21
  obtain ⟨cl24, Ar24, q24, Sz24, Nn24, Hh24, Gg24⟩ := id F13
  have in24 : ¬ ((1 : Int32) < 0 ∨ cl24.slots.size ≤ ((1 : Int32)).toNatClampNeg) := inb_of Sz24 ⟨by decide, by decide⟩
  obtain ⟨T24, h24, X24, e24, W24, st24⟩ := stC X18 hx hZ0 k22 Ar24 (j := (1 : Int32)) in24 (g := (mkF m 35 #[.val (.int ln), .val (.int mk), .val (.long d), .second, .val (.int nv), .val (.ref b3), .unset, .unset, .unset, .unset] [(.int x19), (.int (1 : Int32)), (.ref b3)])) rfl rfl (hb hby at_35)
  rw [show nar .char x19 = x19 from own_nar c20] at W24
  have f25 := (Exa.wr W13 B3)
  have CR26 := CR14.trans (CHr.wr W24 (Safe.exa hZ0.alike f25 (by decide) (by decide)) CR14.1)
  have hk27 := Nat.le_trans hk15 (Keep.of_wr W24).1
  have O28 := O16.wr W24 ge_b3
  have N29 := Fr.snoc X24 N23 ge_b3
  have F24 : Arv Z h24 b3 k3 .char (7 : Int32) [(.int x8), (.int x19), (.int (0 : Int32)), (.int (0 : Int32)), (.int (0 : Int32)), (.int (0 : Int32)), (.int (0 : Int32))] (.int (0 : Int32)) := Arv.set Ar24 q24 Sz24 Nn24 Hh24 Gg24 (by rw [← (own_nar c20 : nar .char x19 = x19)]; exact fits_nar_char _) W24 1 rfl (Nat.le_of_ble_eq_true rfl)
  obtain ⟨_, _, ⟨T30, L30, k30, n30⟩, -, X30, ⟨Lc30, hQ30, l30, y30, z30⟩, st30⟩ := Jvm.LawKit.callS X24 hx (y := (⟨"com/example/favonius/favonius/phrank/VariantDefaultForPinLaw", "pick", "(IIJC)C"⟩ : MethodName)) ho0 (mvT hZ0 (own_w hw 1 rfl)) (mvT hZ0 (own_w hw 2 rfl)) (mvT hZ0 (own_w hw 3 rfl)) (mvT hZ0 (own_w hw 4 rfl)) (by decide) (backOf (W := 2) (rm_pick l Z a0 hw [] mk (2 : Int32) d (116 : Int32) h24 n0 O28 ⟨by decide, by decide⟩) hZ0 (own_w hw 4 rfl) (own_w hw 3 rfl) (by decide) (by decide)) (g := (mkF m 44 #[.val (.int ln), .val (.int mk), .val (.long d), .second, .val (.int nv), .val (.ref b3), .unset, .unset, .unset, .unset] [(.int (116 : Int32)), (.long d), (.int (2 : Int32)), (.int mk), (.int (2 : Int32)), (.ref b3)])) rfl (by rw [hml]; rfl) (argsL := [(.int mk), (.int (2 : Int32)), (.long d), (.int (116 : Int32))]) (rest := [(.int (2 : Int32)), (.ref b3)]) (lenOf pd_2 rfl) rfl (by show 2 * 0 + _ ≤ _; exact Nat.le_of_eq rfl) (hb hby at_44) (fun _ _ => ⟨rfl, e24, (by decide : 1 + 0 ≤ _), (by decide : 7 + 0 ≤ _)⟩)
  dsimp only [Pt.U, Pt.locs, Pt.cells, Pt.slots] at X30 l30 y30 z30 st30 hQ30
  subst l30 y30 z30
  obtain ⟨x31, c32, rfl, N33, k34⟩ := hQ30
  have N35 := Fr.app N29 N33
  obtain ⟨cl36, Ar36, q36, Sz36, Nn36, Hh36, Gg36⟩ := id F24
  have in36 : ¬ ((2 : Int32) < 0 ∨ cl36.slots.size ≤ ((2 : Int32)).toNatClampNeg) := inb_of Sz36 ⟨by decide, by decide⟩
  obtain ⟨T36, h36, X36, e36, W36, st36⟩ := stC X30 hx hZ0 k34 Ar36 (j := (2 : Int32)) in36 (g := (mkF m 47 #[.val (.int ln), .val (.int mk), .val (.long d), .second, .val (.int nv), .val (.ref b3), .unset, .unset, .unset, .unset] [(.int x31), (.int (2 : Int32)), (.ref b3)])) rfl rfl (hb hby at_47)
  rw [show nar .char x31 = x31 from own_nar c32] at W36
  have f37 := (Exa.wr W24 f25)
  have CR38 := CR26.trans (CHr.wr W36 (Safe.exa hZ0.alike f37 (by decide) (by decide)) CR26.1)
  have hk39 := Nat.le_trans hk27 (Keep.of_wr W36).1
  have O40 := O28.wr W36 ge_b3
  have N41 := Fr.snoc X36 N35 ge_b3
  have F36 : Arv Z h36 b3 k3 .char (7 : Int32) [(.int x8), (.int x19), (.int x31), (.int (0 : Int32)), (.int (0 : Int32)), (.int (0 : Int32)), (.int (0 : Int32))] (.int (0 : Int32)) := Arv.set Ar36 q36 Sz36 Nn36 Hh36 Gg36 (by rw [← (own_nar c32 : nar .char x31 = x31)]; exact fits_nar_char _) W36 2 rfl (Nat.le_of_ble_eq_true rfl)
  obtain ⟨_, _, ⟨T42, L42, k42, n42⟩, -, X42, ⟨Lc42, hQ42, l42, y42, z42⟩, st42⟩ := Jvm.LawKit.callS X36 hx (y := (⟨"com/example/favonius/favonius/phrank/VariantDefaultForPinLaw", "pick", "(IIJC)C"⟩ : MethodName)) ho0 (mvT hZ0 (own_w hw 1 rfl)) (mvT hZ0 (own_w hw 2 rfl)) (mvT hZ0 (own_w hw 3 rfl)) (mvT hZ0 (own_w hw 4 rfl)) (by decide) (backOf (W := 2) (rm_pick l Z a0 hw [] mk (3 : Int32) d (108 : Int32) h36 n0 O40 ⟨by decide, by decide⟩) hZ0 (own_w hw 4 rfl) (own_w hw 3 rfl) (by decide) (by decide)) (g := (mkF m 56 #[.val (.int ln), .val (.int mk), .val (.long d), .second, .val (.int nv), .val (.ref b3), .unset, .unset, .unset, .unset] [(.int (108 : Int32)), (.long d), (.int (3 : Int32)), (.int mk), (.int (3 : Int32)), (.ref b3)])) rfl (by rw [hml]; rfl) (argsL := [(.int mk), (.int (3 : Int32)), (.long d), (.int (108 : Int32))]) (rest := [(.int (3 : Int32)), (.ref b3)]) (lenOf pd_2 rfl) rfl (by show 2 * 0 + _ ≤ _; exact Nat.le_of_eq rfl) (hb hby at_56) (fun _ _ => ⟨rfl, e36, (by decide : 1 + 0 ≤ _), (by decide : 7 + 0 ≤ _)⟩)
  dsimp only [Pt.U, Pt.locs, Pt.cells, Pt.slots] at X42 l42 y42 z42 st42 hQ42
  subst l42 y42 z42
  obtain ⟨x43, c44, rfl, N45, k46⟩ := hQ42
  have N47 := Fr.app N41 N45
  obtain ⟨cl48, Ar48, q48, Sz48, Nn48, Hh48, Gg48⟩ := id F36
  have in48 : ¬ ((3 : Int32) < 0 ∨ cl48.slots.size ≤ ((3 : Int32)).toNatClampNeg) := inb_of Sz48 ⟨by decide, by decide⟩
  obtain ⟨T48, h48, X48, e48, W48, st48⟩ := stC X42 hx hZ0 k46 Ar48 (j := (3 : Int32)) in48 (g := (mkF m 59 #[.val (.int ln), .val (.int mk), .val (.long d), .second, .val (.int nv), .val (.ref b3), .unset, .unset, .unset, .unset] [(.int x43), (.int (3 : Int32)), (.ref b3)])) rfl rfl (hb hby at_59)
  rw [show nar .char x43 = x43 from own_nar c44] at W48
  have f49 := (Exa.wr W36 f37)
  have CR50 := CR38.trans (CHr.wr W48 (Safe.exa hZ0.alike f49 (by decide) (by decide)) CR38.1)
  have hk51 := Nat.le_trans hk39 (Keep.of_wr W48).1
  have O52 := O40.wr W48 ge_b3
  have N53 := Fr.snoc X48 N47 ge_b3
  have F48 : Arv Z h48 b3 k3 .char (7 : Int32) [(.int x8), (.int x19), (.int x31), (.int x43), (.int (0 : Int32)), (.int (0 : Int32)), (.int (0 : Int32))] (.int (0 : Int32)) := Arv.set Ar48 q48 Sz48 Nn48 Hh48 Gg48 (by rw [← (own_nar c44 : nar .char x43 = x43)]; exact fits_nar_char _) W48 3 rfl (Nat.le_of_ble_eq_true rfl)
  obtain ⟨_, _, ⟨T54, L54, k54, n54⟩, -, X54, ⟨Lc54, hQ54, l54, y54, z54⟩, st54⟩ := Jvm.LawKit.callS X48 hx (y := (⟨"com/example/favonius/favonius/phrank/VariantDefaultForPinLaw", "pick", "(IIJC)C"⟩ : MethodName)) ho0 (mvT hZ0 (own_w hw 1 rfl)) (mvT hZ0 (own_w hw 2 rfl)) (mvT hZ0 (own_w hw 3 rfl)) (mvT hZ0 (own_w hw 4 rfl)) (by decide) (backOf (W := 2) (rm_pick l Z a0 hw [] mk (4 : Int32) d (101 : Int32) h48 n0 O52 ⟨by decide, by decide⟩) hZ0 (own_w hw 4 rfl) (own_w hw 3 rfl) (by decide) (by decide)) (g := (mkF m 68 #[.val (.int ln), .val (.int mk), .val (.long d), .second, .val (.int nv), .val (.ref b3), .unset, .unset, .unset, .unset] [(.int (101 : Int32)), (.long d), (.int (4 : Int32)), (.int mk), (.int (4 : Int32)), (.ref b3)])) rfl (by rw [hml]; rfl) (argsL := [(.int mk), (.int (4 : Int32)), (.long d), (.int (101 : Int32))]) (rest := [(.int (4 : Int32)), (.ref b3)]) (lenOf pd_2 rfl) rfl (by show 2 * 0 + _ ≤ _; exact Nat.le_of_eq rfl) (hb hby at_68) (fun _ _ => ⟨rfl, e48, (by decide : 1 + 0 ≤ _), (by decide : 7 + 0 ≤ _)⟩)
  dsimp only [Pt.U, Pt.locs, Pt.cells, Pt.slots] at X54 l54 y54 z54 st54 hQ54
  subst l54 y54 z54
  obtain ⟨x55, c56, rfl, N57, k58⟩ := hQ54
  have N59 := Fr.app N53 N57
  obtain ⟨cl60, Ar60, q60, Sz60, Nn60, Hh60, Gg60⟩ := id F48
  have in60 : ¬ ((4 : Int32) < 0 ∨ cl60.slots.size ≤ ((4 : Int32)).toNatClampNeg) := inb_of Sz60 ⟨by decide, by decide⟩
  obtain ⟨T60, h60, X60, e60, W60, st60⟩ := stC X54 hx hZ0 k58 Ar60 (j := (4 : Int32)) in60 (g := (mkF m 71 #[.val (.int ln), .val (.int mk), .val (.long d), .second, .val (.int nv), .val (.ref b3), .unset, .unset, .unset, .unset] [(.int x55), (.int (4 : Int32)), (.ref b3)])) rfl rfl (hb hby at_71)
  rw [show nar .char x55 = x55 from own_nar c56] at W60
  have f61 := (Exa.wr W48 f49)
  have CR62 := CR50.trans (CHr.wr W60 (Safe.exa hZ0.alike f61 (by decide) (by decide)) CR50.1)
  have hk63 := Nat.le_trans hk51 (Keep.of_wr W60).1
  have O64 := O52.wr W60 ge_b3
  have N65 := Fr.snoc X60 N59 ge_b3
  have F60 : Arv Z h60 b3 k3 .char (7 : Int32) [(.int x8), (.int x19), (.int x31), (.int x43), (.int x55), (.int (0 : Int32)), (.int (0 : Int32))] (.int (0 : Int32)) := Arv.set Ar60 q60 Sz60 Nn60 Hh60 Gg60 (by rw [← (own_nar c56 : nar .char x55 = x55)]; exact fits_nar_char _) W60 4 rfl (Nat.le_of_ble_eq_true rfl)
  obtain ⟨_, _, ⟨T66, L66, k66, n66⟩, -, X66, ⟨Lc66, hQ66, l66, y66, z66⟩, st66⟩ := Jvm.LawKit.callS X60 hx (y := (⟨"com/example/favonius/favonius/phrank/VariantDefaultForPinLaw", "pick", "(IIJC)C"⟩ : MethodName)) ho0 (mvT hZ0 (own_w hw 1 rfl)) (mvT hZ0 (own_w hw 2 rfl)) (mvT hZ0 (own_w hw 3 rfl)) (mvT hZ0 (own_w hw 4 rfl)) (by decide) (backOf (W := 2) (rm_pick l Z a0 hw [] mk (5 : Int32) d (115 : Int32) h60 n0 O64 ⟨by decide, by decide⟩) hZ0 (own_w hw 4 rfl) (own_w hw 3 rfl) (by decide) (by decide)) (g := (mkF m 80 #[.val (.int ln), .val (.int mk), .val (.long d), .second, .val (.int nv), .val (.ref b3), .unset, .unset, .unset, .unset] [(.int (115 : Int32)), (.long d), (.int (5 : Int32)), (.int mk), (.int (5 : Int32)), (.ref b3)])) rfl (by rw [hml]; rfl) (argsL := [(.int mk), (.int (5 : Int32)), (.long d), (.int (115 : Int32))]) (rest := [(.int (5 : Int32)), (.ref b3)]) (lenOf pd_2 rfl) rfl (by show 2 * 0 + _ ≤ _; exact Nat.le_of_eq rfl) (hb hby at_80) (fun _ _ => ⟨rfl, e60, (by decide : 1 + 0 ≤ _), (by decide : 7 + 0 ≤ _)⟩)
  dsimp only [Pt.U, Pt.locs, Pt.cells, Pt.slots] at X66 l66 y66 z66 st66 hQ66
  subst l66 y66 z66
  obtain ⟨x67, c68, rfl, N69, k70⟩ := hQ66
  have N71 := Fr.app N65 N69
  obtain ⟨cl72, Ar72, q72, Sz72, Nn72, Hh72, Gg72⟩ := id F60
  have in72 : ¬ ((5 : Int32) < 0 ∨ cl72.slots.size ≤ ((5 : Int32)).toNatClampNeg) := inb_of Sz72 ⟨by decide, by decide⟩
  obtain ⟨T72, h72, X72, e72, W72, st72⟩ := stC X66 hx hZ0 k70 Ar72 (j := (5 : Int32)) in72 (g := (mkF m 83 #[.val (.int ln), .val (.int mk), .val (.long d), .second, .val (.int nv), .val (.ref b3), .unset, .unset, .unset, .unset] [(.int x67), (.int (5 : Int32)), (.ref b3)])) rfl rfl (hb hby at_83)
  rw [show nar .char x67 = x67 from own_nar c68] at W72
  have f73 := (Exa.wr W60 f61)
  have CR74 := CR62.trans (CHr.wr W72 (Safe.exa hZ0.alike f73 (by decide) (by decide)) CR62.1)
  have hk75 := Nat.le_trans hk63 (Keep.of_wr W72).1
  have O76 := O64.wr W72 ge_b3
  have N77 := Fr.snoc X72 N71 ge_b3
  have F72 : Arv Z h72 b3 k3 .char (7 : Int32) [(.int x8), (.int x19), (.int x31), (.int x43), (.int x55), (.int x67), (.int (0 : Int32))] (.int (0 : Int32)) := Arv.set Ar72 q72 Sz72 Nn72 Hh72 Gg72 (by rw [← (own_nar c68 : nar .char x67 = x67)]; exact fits_nar_char _) W72 5 rfl (Nat.le_of_ble_eq_true rfl)
  obtain ⟨_, _, ⟨T78, L78, k78, n78⟩, -, X78, ⟨Lc78, hQ78, l78, y78, z78⟩, st78⟩ := Jvm.LawKit.callS X72 hx (y := (⟨"com/example/favonius/favonius/phrank/VariantDefaultForPinLaw", "pick", "(IIJC)C"⟩ : MethodName)) ho0 (mvT hZ0 (own_w hw 1 rfl)) (mvT hZ0 (own_w hw 2 rfl)) (mvT hZ0 (own_w hw 3 rfl)) (mvT hZ0 (own_w hw 4 rfl)) (by decide) (backOf (W := 2) (rm_pick l Z a0 hw [] mk (6 : Int32) d (115 : Int32) h72 n0 O76 ⟨by decide, by decide⟩) hZ0 (own_w hw 4 rfl) (own_w hw 3 rfl) (by decide) (by decide)) (g := (mkF m 94 #[.val (.int ln), .val (.int mk), .val (.long d), .second, .val (.int nv), .val (.ref b3), .unset, .unset, .unset, .unset] [(.int (115 : Int32)), (.long d), (.int (6 : Int32)), (.int mk), (.int (6 : Int32)), (.ref b3)])) rfl (by rw [hml]; rfl) (argsL := [(.int mk), (.int (6 : Int32)), (.long d), (.int (115 : Int32))]) (rest := [(.int (6 : Int32)), (.ref b3)]) (lenOf pd_2 rfl) rfl (by show 2 * 0 + _ ≤ _; exact Nat.le_of_eq rfl) (hb hby at_94) (fun _ _ => ⟨rfl, e72, (by decide : 1 + 0 ≤ _), (by decide : 7 + 0 ≤ _)⟩)
  dsimp only [Pt.U, Pt.locs, Pt.cells, Pt.slots] at X78 l78 y78 z78 st78 hQ78
  subst l78 y78 z78
  obtain ⟨x79, c80, rfl, N81, k82⟩ := hQ78
  have N83 := Fr.app N77 N81
  obtain ⟨cl84, Ar84, q84, Sz84, Nn84, Hh84, Gg84⟩ := id F72
  have in84 : ¬ ((6 : Int32) < 0 ∨ cl84.slots.size ≤ ((6 : Int32)).toNatClampNeg) := inb_of Sz84 ⟨by decide, by decide⟩
  obtain ⟨T84, h84, X84, e84, W84, st84⟩ := stC X78 hx hZ0 k82 Ar84 (j := (6 : Int32)) in84 (g := (mkF m 97 #[.val (.int ln), .val (.int mk), .val (.long d), .second, .val (.int nv), .val (.ref b3), .unset, .unset, .unset, .unset] [(.int x79), (.int (6 : Int32)), (.ref b3)])) rfl rfl (hb hby at_97)
  rw [show nar .char x79 = x79 from own_nar c80] at W84
  have f85 := (Exa.wr W72 f73)
  have CR86 := CR74.trans (CHr.wr W84 (Safe.exa hZ0.alike f85 (by decide) (by decide)) CR74.1)
  have hk87 := Nat.le_trans hk75 (Keep.of_wr W84).1
  have O88 := O76.wr W84 ge_b3
  have N89 := Fr.snoc X84 N83 ge_b3
  have F84 : Arv Z h84 b3 k3 .char (7 : Int32) [(.int x8), (.int x19), (.int x31), (.int x43), (.int x55), (.int x67), (.int x79)] (.int (0 : Int32)) := Arv.set Ar84 q84 Sz84 Nn84 Hh84 Gg84 (by rw [← (own_nar c80 : nar .char x79 = x79)]; exact fits_nar_char _) W84 6 rfl (Nat.le_of_ble_eq_true rfl)
  have S90 : ∀ t, Steps p.tables e below (T84.setTop (mkF m 98 #[.val (.int ln), .val (.int mk), .val (.long d), .second, .val (.int nv), .val (.ref b3), .unset, .unset, .unset, .unset] [])) t → Steps p.tables e below (s₁.setTop (mkF m 0 #[.val (.int ln), .val (.int mk), .val (.long d), .second, .unset, .unset, .unset, .unset, .unset, .unset] [])) t := by
    intro t kt
    refine S2 t ?_
    refine XS.istore X0.here hx rfl (hb hby at_4) rfl (l' := #[.val (.int ln), .val (.int mk), .val (.long d), .second, .val (.int nv), .unset, .unset, .unset, .unset, .unset]) rfl ?_
    refine XS.bipush X0.here hx rfl (hb hby at_6) ?_
    show Steps p.tables e below (s₁.setTop (mkF m 8 #[.val (.int ln), .val (.int mk), .val (.long d), .second, .val (.int nv), .unset, .unset, .unset, .unset, .unset] [(.int (7 : Int32))])) _
    refine st3 _ ?_
    refine XS.astore X3.here hx rfl (hb hby at_10) rfl rfl (l' := #[.val (.int ln), .val (.int mk), .val (.long d), .second, .val (.int nv), .val (.ref b3), .unset, .unset, .unset, .unset]) rfl ?_
    refine XS.aload X3.here hx rfl (hb hby at_12) rfl rfl ?_
    refine XS.iconst X3.here hx rfl (hb hby at_14) ?_
    refine XS.iloadN X3.here hx rfl (hb hby at_15) rfl ?_
    refine XS.iconst X3.here hx rfl (hb hby at_16) ?_
    show Steps p.tables e below (T3.setTop (mkF m 17 #[.val (.int ln), .val (.int mk), .val (.long d), .second, .val (.int nv), .val (.ref b3), .unset, .unset, .unset, .unset] [(.int (0 : Int32)), (.int mk), (.int (0 : Int32)), (.ref b3)])) _
    refine XS.lloadN X3.here hx rfl (hb hby at_17) rfl ?_
    refine XS.bipush X3.here hx rfl (hb hby at_18) ?_
    show Steps p.tables e below (T3.setTop (mkF m 20 #[.val (.int ln), .val (.int mk), .val (.long d), .second, .val (.int nv), .val (.ref b3), .unset, .unset, .unset, .unset] [(.int (116 : Int32)), (.long d), (.int (0 : Int32)), (.int mk), (.int (0 : Int32)), (.ref b3)])) _
    refine st7 _ ?_
    show Steps p.tables e below (T7.setTop (mkF m 23 #[.val (.int ln), .val (.int mk), .val (.long d), .second, .val (.int nv), .val (.ref b3), .unset, .unset, .unset, .unset] [(.int x8), (.int (0 : Int32)), (.ref b3)])) _
    refine st13 _ ?_
    refine XS.aload X13.here hx rfl (hb hby at_24) rfl rfl ?_
    refine XS.iconst X13.here hx rfl (hb hby at_26) ?_
    refine XS.iloadN X13.here hx rfl (hb hby at_27) rfl ?_
    refine XS.iconst X13.here hx rfl (hb hby at_28) ?_
    refine XS.lloadN X13.here hx rfl (hb hby at_29) rfl ?_
    show Steps p.tables e below (T13.setTop (mkF m 30 #[.val (.int ln), .val (.int mk), .val (.long d), .second, .val (.int nv), .val (.ref b3), .unset, .unset, .unset, .unset] [(.long d), (.int (1 : Int32)), (.int mk), (.int (1 : Int32)), (.ref b3)])) _
    refine XS.bipush X13.here hx rfl (hb hby at_30) ?_
    show Steps p.tables e below (T13.setTop (mkF m 32 #[.val (.int ln), .val (.int mk), .val (.long d), .second, .val (.int nv), .val (.ref b3), .unset, .unset, .unset, .unset] [(.int (105 : Int32)), (.long d), (.int (1 : Int32)), (.int mk), (.int (1 : Int32)), (.ref b3)])) _
    refine st18 _ ?_
    show Steps p.tables e below (T18.setTop (mkF m 35 #[.val (.int ln), .val (.int mk), .val (.long d), .second, .val (.int nv), .val (.ref b3), .unset, .unset, .unset, .unset] [(.int x19), (.int (1 : Int32)), (.ref b3)])) _
    refine st24 _ ?_
    refine XS.aload X24.here hx rfl (hb hby at_36) rfl rfl ?_
    refine XS.iconst X24.here hx rfl (hb hby at_38) ?_
    refine XS.iloadN X24.here hx rfl (hb hby at_39) rfl ?_
    refine XS.iconst X24.here hx rfl (hb hby at_40) ?_
    refine XS.lloadN X24.here hx rfl (hb hby at_41) rfl ?_
    show Steps p.tables e below (T24.setTop (mkF m 42 #[.val (.int ln), .val (.int mk), .val (.long d), .second, .val (.int nv), .val (.ref b3), .unset, .unset, .unset, .unset] [(.long d), (.int (2 : Int32)), (.int mk), (.int (2 : Int32)), (.ref b3)])) _
    refine XS.bipush X24.here hx rfl (hb hby at_42) ?_
    show Steps p.tables e below (T24.setTop (mkF m 44 #[.val (.int ln), .val (.int mk), .val (.long d), .second, .val (.int nv), .val (.ref b3), .unset, .unset, .unset, .unset] [(.int (116 : Int32)), (.long d), (.int (2 : Int32)), (.int mk), (.int (2 : Int32)), (.ref b3)])) _
    refine st30 _ ?_
    show Steps p.tables e below (T30.setTop (mkF m 47 #[.val (.int ln), .val (.int mk), .val (.long d), .second, .val (.int nv), .val (.ref b3), .unset, .unset, .unset, .unset] [(.int x31), (.int (2 : Int32)), (.ref b3)])) _
    refine st36 _ ?_
    refine XS.aload X36.here hx rfl (hb hby at_48) rfl rfl ?_
    refine XS.iconst X36.here hx rfl (hb hby at_50) ?_
    refine XS.iloadN X36.here hx rfl (hb hby at_51) rfl ?_
    refine XS.iconst X36.here hx rfl (hb hby at_52) ?_
    refine XS.lloadN X36.here hx rfl (hb hby at_53) rfl ?_
    show Steps p.tables e below (T36.setTop (mkF m 54 #[.val (.int ln), .val (.int mk), .val (.long d), .second, .val (.int nv), .val (.ref b3), .unset, .unset, .unset, .unset] [(.long d), (.int (3 : Int32)), (.int mk), (.int (3 : Int32)), (.ref b3)])) _
    refine XS.bipush X36.here hx rfl (hb hby at_54) ?_
    show Steps p.tables e below (T36.setTop (mkF m 56 #[.val (.int ln), .val (.int mk), .val (.long d), .second, .val (.int nv), .val (.ref b3), .unset, .unset, .unset, .unset] [(.int (108 : Int32)), (.long d), (.int (3 : Int32)), (.int mk), (.int (3 : Int32)), (.ref b3)])) _
    refine st42 _ ?_
    show Steps p.tables e below (T42.setTop (mkF m 59 #[.val (.int ln), .val (.int mk), .val (.long d), .second, .val (.int nv), .val (.ref b3), .unset, .unset, .unset, .unset] [(.int x43), (.int (3 : Int32)), (.ref b3)])) _
    refine st48 _ ?_
    refine XS.aload X48.here hx rfl (hb hby at_60) rfl rfl ?_
    refine XS.iconst X48.here hx rfl (hb hby at_62) ?_
    refine XS.iloadN X48.here hx rfl (hb hby at_63) rfl ?_
    refine XS.iconst X48.here hx rfl (hb hby at_64) ?_
    refine XS.lloadN X48.here hx rfl (hb hby at_65) rfl ?_
    show Steps p.tables e below (T48.setTop (mkF m 66 #[.val (.int ln), .val (.int mk), .val (.long d), .second, .val (.int nv), .val (.ref b3), .unset, .unset, .unset, .unset] [(.long d), (.int (4 : Int32)), (.int mk), (.int (4 : Int32)), (.ref b3)])) _
    refine XS.bipush X48.here hx rfl (hb hby at_66) ?_
    show Steps p.tables e below (T48.setTop (mkF m 68 #[.val (.int ln), .val (.int mk), .val (.long d), .second, .val (.int nv), .val (.ref b3), .unset, .unset, .unset, .unset] [(.int (101 : Int32)), (.long d), (.int (4 : Int32)), (.int mk), (.int (4 : Int32)), (.ref b3)])) _
    refine st54 _ ?_
    show Steps p.tables e below (T54.setTop (mkF m 71 #[.val (.int ln), .val (.int mk), .val (.long d), .second, .val (.int nv), .val (.ref b3), .unset, .unset, .unset, .unset] [(.int x55), (.int (4 : Int32)), (.ref b3)])) _
    refine st60 _ ?_
    refine XS.aload X60.here hx rfl (hb hby at_72) rfl rfl ?_
    refine XS.iconst X60.here hx rfl (hb hby at_74) ?_
    refine XS.iloadN X60.here hx rfl (hb hby at_75) rfl ?_
    refine XS.iconst X60.here hx rfl (hb hby at_76) ?_
    refine XS.lloadN X60.here hx rfl (hb hby at_77) rfl ?_
    show Steps p.tables e below (T60.setTop (mkF m 78 #[.val (.int ln), .val (.int mk), .val (.long d), .second, .val (.int nv), .val (.ref b3), .unset, .unset, .unset, .unset] [(.long d), (.int (5 : Int32)), (.int mk), (.int (5 : Int32)), (.ref b3)])) _
    refine XS.bipush X60.here hx rfl (hb hby at_78) ?_
    show Steps p.tables e below (T60.setTop (mkF m 80 #[.val (.int ln), .val (.int mk), .val (.long d), .second, .val (.int nv), .val (.ref b3), .unset, .unset, .unset, .unset] [(.int (115 : Int32)), (.long d), (.int (5 : Int32)), (.int mk), (.int (5 : Int32)), (.ref b3)])) _
    refine st66 _ ?_
    show Steps p.tables e below (T66.setTop (mkF m 83 #[.val (.int ln), .val (.int mk), .val (.long d), .second, .val (.int nv), .val (.ref b3), .unset, .unset, .unset, .unset] [(.int x67), (.int (5 : Int32)), (.ref b3)])) _
    refine st72 _ ?_
    refine XS.aload X72.here hx rfl (hb hby at_84) rfl rfl ?_
    refine XS.bipush X72.here hx rfl (hb hby at_86) ?_
    refine XS.iloadN X72.here hx rfl (hb hby at_88) rfl ?_
    refine XS.bipush X72.here hx rfl (hb hby at_89) ?_
    refine XS.lloadN X72.here hx rfl (hb hby at_91) rfl ?_
    show Steps p.tables e below (T72.setTop (mkF m 92 #[.val (.int ln), .val (.int mk), .val (.long d), .second, .val (.int nv), .val (.ref b3), .unset, .unset, .unset, .unset] [(.long d), (.int (6 : Int32)), (.int mk), (.int (6 : Int32)), (.ref b3)])) _
    refine XS.bipush X72.here hx rfl (hb hby at_92) ?_
    show Steps p.tables e below (T72.setTop (mkF m 94 #[.val (.int ln), .val (.int mk), .val (.long d), .second, .val (.int nv), .val (.ref b3), .unset, .unset, .unset, .unset] [(.int (115 : Int32)), (.long d), (.int (6 : Int32)), (.int mk), (.int (6 : Int32)), (.ref b3)])) _
    refine st78 _ ?_
    show Steps p.tables e below (T78.setTop (mkF m 97 #[.val (.int ln), .val (.int mk), .val (.long d), .second, .val (.int nv), .val (.ref b3), .unset, .unset, .unset, .unset] [(.int x79), (.int (6 : Int32)), (.ref b3)])) _
    refine st84 _ ?_
    exact kt
  rcases own_and7 ln nv h_nv with rfl | rfl | rfl | rfl | rfl | rfl | rfl | rfl
  · obtain ⟨T91, h91, X91, e91, E91, A91, D91, -, st91⟩ := newO X84 hx hZ0 ho0 (own_w hw 6 rfl) (own_w hw 7 rfl) (own_w hw 8 rfl) e84 (g := (mkF m 98 #[.val (.int ln), .val (.int mk), .val (.long d), .second, .val (.int (0 : Int32)), .val (.ref b3), .unset, .unset, .unset, .unset] [])) rfl (hb hby at_98) (by decide) (by decide)
    obtain ⟨b91, g91⟩ : ∃ z, z = h84.size := ⟨_, rfl⟩
    have ge_b91 : n0 ≤ b91 := by rw [g91, ← O88.1]; exact O88.2.1
    have f92 := (Exa.wr W84 f85)
    have ne93 : b3 ≠ b91 := Nat.ne_of_lt (Nat.lt_of_lt_of_le (Exa.lt f92) (Nat.le_of_eq g91.symm))
    have sf94 : Safe Z own_EL s.vm h84 b91 := Safe.new (Nat.le_of_eq g91.symm)
    rw [← g91] at A91 D91 st91
    have CR95 := CR86.trans (CHr.ext E91 CR86.1)
    have hk96 := Nat.le_trans hk87 E91.1
    have sf97 := Safe.ext E91 CR86.1 sf94
    have O98 := O88.ext E91
    have F99 : Fld Z h91 b91 "java/lang/String" "value" "[B" .null := D91 (Or.inr (own_w hw 24 rfl)) (ty := (.array .byte)) (by decide)
    have F100 : Fld Z h91 b91 "java/lang/String" "coder" "B" (.int (0 : Int32)) := D91 (Or.inr (own_w hw 25 rfl)) (ty := .byte) (by decide)
    have f102 := (Arv.ext F84 E91)
    obtain ⟨_, _, ⟨T101, L101, k101, n101⟩, -, X101, ⟨Lc101, hQ101, l101, y101, z101⟩, st101⟩ := Jvm.LawKit.callS X91 hx (y := (⟨"com/example/favonius/favonius/phrank/VariantDefaultForPinLaw", "cut", "(I[C)[C"⟩ : MethodName)) ho0 (mvT hZ0 (own_w hw 9 rfl)) (mvT hZ0 (own_w hw 10 rfl)) (mvT hZ0 (own_w hw 3 rfl)) (mvT hZ0 (own_w hw 11 rfl)) (by decide) (backOf (W := 2) (rm_cut0 l Z a0 hw [] b3 k3 x8 x19 x31 x43 x55 x67 x79 h91 n0 O98 f102 c9 c20 c32 c44 c56 c68 c80) hZ0 (own_w hw 11 rfl) (own_w hw 3 rfl) (by decide) (by decide)) (g := (mkF m 106 #[.val (.int ln), .val (.int mk), .val (.long d), .second, .val (.int (0 : Int32)), .val (.ref b3), .unset, .unset, .unset, .unset] [(.ref b3), (.int (0 : Int32)), (.ref b91), (.ref b91)])) rfl (by rw [hml]; rfl) (argsL := [(.int (0 : Int32)), (.ref b3)]) (rest := [(.ref b91), (.ref b91)]) (lenOf pd_3 rfl) rfl (by show 2 * 0 + _ ≤ _; exact Nat.le_of_eq rfl) (hb hby at_106) (fun _ _ => ⟨rfl, e91, (by decide : 2 + 1 ≤ _), (by decide : 11 + 0 ≤ _)⟩)
    dsimp only [Pt.U, Pt.locs, Pt.cells, Pt.slots] at X101 l101 y101 z101 st101 hQ101
    subst l101 y101 z101
    obtain ⟨x103, x104, rfl, N105, k106, f107, f108⟩ := hQ101
    have N109 := Fr.app N89 N105
    have ge110 : n0 ≤ x103 := by rw [← O98.1]; exact Nat.le_trans O98.2.1 f107
    have f111 := (Exa.ext E91 f92)
    have ne112 : b3 ≠ x103 := Nat.ne_of_lt (Nat.lt_of_lt_of_le (Exa.lt f111) f107)
    have ne113 : b91 ≠ x103 := Nat.ne_of_lt (Nat.lt_of_lt_of_le (Exa.lt A91) f107)
    have CR114 := CR95.trans (CHr.keep k106 sf0 CR95.1)
    have hk115 := Nat.le_trans hk96 k106.1
    have sf116 := Safe.keep k106 sf0 CR95.1 sf97
    have O117 := O98.keep k106 all0
    have f119 := (Exa.keep A91 k106)
    have f120 := (Fld.keep F99 k106 nin0)
    have f121 := (Fld.keep F100 k106 nin0)
    obtain ⟨_, _, ⟨T118, L118, k118, n118⟩, -, Xq118, hSq118, hgq118, ⟨Lc118, hQ118, l118, y118, z118, C118⟩, st118⟩ := X101.specialBackS hx (y := (⟨"java/lang/String", "<init>", "([C)V"⟩ : MethodName)) rfl ho0 (mvT hZ0 (own_w hw 12 rfl)) (mvT hZ0 (own_w hw 13 rfl)) (mvT hZ0 (own_w hw 14 rfl)) (by decide) (own_backS (W := 1) (rm := ({ frames := 2, cells := 4, slots := 8, locals := 29 } : Room)) (xs := [b91]) (rm_sini0 l Z a0 hw [] b91 x103 x104 T101.heap n0 O117 f119 f120 f121 ge_b91 f108) hZ0 (own_w hw 14 rfl) (own_w hw 8 rfl) (by decide) (by decide) own_ew CR114.1 (allS (P := fun x => x < T101.heap.size ∧ Safe Z own_EL s.vm T101.heap x) ⟨(Exa.lt f119), sf116⟩ all0)) (g := (mkF m 109 #[.val (.int ln), .val (.int mk), .val (.long d), .second, .val (.int (0 : Int32)), .val (.ref b3), .unset, .unset, .unset, .unset] [(.ref x103), (.ref b91), (.ref b91)])) rfl (by rw [hml]; rfl) (Steps.refl _) (a := b91) (argsL := [(.ref x103)]) (rest := [(.ref b91)]) (lenOf pd_4 rfl) rfl (by show 2 * 0 + _ ≤ _; exact Nat.le_of_eq rfl) (hb hby at_109) (fun _ _ => ⟨rfl, rfl, (by decide : 3 + 4 ≤ _), (by decide : 11 + 8 ≤ _)⟩)
    dsimp only [Pt.U, Pt.locs, Pt.cells, Pt.slots] at Xq118 hSq118 hgq118 l118 y118 z118 st118 hQ118 C118
    obtain ⟨X118, hS118, hZ118, ho118⟩ := rebS hS0 (by exact hk115) Xq118 hSq118 hgq118 hZ0 ho0
    subst l118 y118 z118
    obtain ⟨x122, x123, rfl, N124, k125, f126, f127, f128, f129⟩ := hQ118
    have N130 := Fr.app N109 N124
    have sf131 := CHr.safe C118 (Exa.lt f119) sf116
    have CR132 := CR114.trans C118
    have hk133 : T118.heap.size ≤ T118.heap.size := Nat.le_refl _
    have O134 := O117.keep k125 (allS ge_b91 all0)
    obtain ⟨_, _, ⟨T135, L135, k135, n135⟩, -, Xq135, hSq135, hgq135, ⟨Lc135, hQ135, l135, y135, z135, C135⟩, st135⟩ := callSS X118 hx (y := (⟨"com/example/favonius/favonius/phrank/Variant", "defaultFor", "(Ljava/lang/String;)Lcom/example/favonius/favonius/phrank/Variant;"⟩ : MethodName)) ho118 (mvT hZ118 (own_w hw 30 rfl)) (mvT hZ118 (own_w hw 31 rfl)) (mvT hZ118 (own_w hw 32 rfl)) (mvT hZ118 (own_w hw 33 rfl)) (by decide) (own_backS (W := 0) (rm := ({ frames := 2, cells := 2, slots := 24, locals := 28 } : Room)) (xs := []) (rm_df0 l Z a0 hw [] b91 x122 x123 zc wR wZ T118.heap n0 O134 f126 f127 f128 f129 S_C hzc S_R S_Z) hZ118 (own_w hw 33 rfl) (own_w hw 32 rfl) (by decide) (by decide) own_ew CR132.1 all0) (g := (mkF m 174 #[.val (.int ln), .val (.int mk), .val (.long d), .second, .val (.int (0 : Int32)), .val (.ref b3), .val (.ref b91), .val (.int (0 : Int32)), .unset, .unset] [(.ref b91)])) rfl (by rw [hml]; rfl) (argsL := [(.ref b91)]) (rest := []) (lenOf pd_5 rfl) rfl (by show 2 * 0 + _ ≤ _; exact Nat.le_of_eq rfl) (hb hby at_174) (fun _ _ => ⟨rfl, rfl, (by decide : 7 + 2 ≤ _), (by decide : 19 + 24 ≤ _)⟩)
    dsimp only [Pt.U, Pt.locs, Pt.cells, Pt.slots] at Xq135 hSq135 hgq135 l135 y135 z135 st135 hQ135 C135
    obtain ⟨X135, hS135, hZ135, ho135⟩ := rebS hS118 (by exact hk133) Xq135 hSq135 hgq135 hZ118 ho118
    subst l135 y135 z135
    obtain ⟨rfl, N136, k137⟩ := hQ135
    have N138 := Fr.app N130 N136
    have sf139 := CHr.safe C135 (Exa.lt f126) sf131
    have CR140 := CR132.trans C135
    have hk141 : T135.heap.size ≤ T135.heap.size := Nat.le_refl _
    have O142 := O134.keep k137 all0
    obtain ⟨T143, X143, e143, st143⟩ := getS2 X135 hx hZ135 ho135 (host := "") (Or.inl (own_w hw 48 rfl)) Via.refl rfl (S_Z.ext O142.2) (g := (mkF m 190 #[.val (.int ln), .val (.int mk), .val (.long d), .second, .val (.int (0 : Int32)), .val (.ref b3), .val (.ref b91), .val (.int (0 : Int32)), .val (.ref wZ), .unset] [])) rfl (hb hby at_190)
    have S144 : ∀ t, Steps p.tables e below (T143.setTop (mkF m 207 #[.val (.int ln), .val (.int mk), .val (.long d), .second, .val (.int (0 : Int32)), .val (.ref b3), .val (.ref b91), .val (.int (0 : Int32)), .val (.ref wZ), .val (.ref wZ)] [(.int (1 : Int32))])) t → Steps p.tables e below (s₁.setTop (mkF m 0 #[.val (.int ln), .val (.int mk), .val (.long d), .second, .unset, .unset, .unset, .unset, .unset, .unset] [])) t := by
      intro t kt
      refine S90 t ?_
      refine st91 _ ?_
      refine XS.dup X91.here hx rfl (hb hby at_101) rfl rfl ?_
      refine XS.iload X91.here hx rfl (hb hby at_102) rfl ?_
      refine XS.aload X91.here hx rfl (hb hby at_104) rfl rfl ?_
      show Steps p.tables e below (T91.setTop (mkF m 106 #[.val (.int ln), .val (.int mk), .val (.long d), .second, .val (.int (0 : Int32)), .val (.ref b3), .unset, .unset, .unset, .unset] [(.ref b3), (.int (0 : Int32)), (.ref b91), (.ref b91)])) _
      refine st101 _ ?_
      show Steps p.tables e below (T101.setTop (mkF m 109 #[.val (.int ln), .val (.int mk), .val (.long d), .second, .val (.int (0 : Int32)), .val (.ref b3), .unset, .unset, .unset, .unset] [(.ref x103), (.ref b91), (.ref b91)])) _
      refine st118.trans ?_
      refine XS.astore X118.here hx rfl (hb hby at_112) rfl rfl (l' := #[.val (.int ln), .val (.int mk), .val (.long d), .second, .val (.int (0 : Int32)), .val (.ref b3), .val (.ref b91), .unset, .unset, .unset]) rfl ?_
      refine XS.iload X118.here hx rfl (hb hby at_114) rfl ?_
      refine XS.iconst X118.here hx rfl (hb hby at_116) ?_
      refine XS.icmpYes X118.here hx rfl (pc0 := 117) (pc' := 169) rfl (hb hby at_117) rfl (feq ((by decide) : ¬ ((0 : Int32) = (5 : Int32)))).2 (by decide) (by decide) ?_
      refine XS.iconst X118.here hx rfl (hb hby at_169) ?_
      show Steps p.tables e below (T118.setTop (mkF m 170 #[.val (.int ln), .val (.int mk), .val (.long d), .second, .val (.int (0 : Int32)), .val (.ref b3), .val (.ref b91), .unset, .unset, .unset] [(.int (0 : Int32))])) _
      refine XS.istore X118.here hx rfl (hb hby at_170) rfl (l' := #[.val (.int ln), .val (.int mk), .val (.long d), .second, .val (.int (0 : Int32)), .val (.ref b3), .val (.ref b91), .val (.int (0 : Int32)), .unset, .unset]) rfl ?_
      refine XS.aload X118.here hx rfl (hb hby at_172) rfl rfl ?_
      show Steps p.tables e below (T118.setTop (mkF m 174 #[.val (.int ln), .val (.int mk), .val (.long d), .second, .val (.int (0 : Int32)), .val (.ref b3), .val (.ref b91), .val (.int (0 : Int32)), .unset, .unset] [(.ref b91)])) _
      refine st135.trans ?_
      refine XS.astore X135.here hx rfl (hb hby at_177) rfl rfl (l' := #[.val (.int ln), .val (.int mk), .val (.long d), .second, .val (.int (0 : Int32)), .val (.ref b3), .val (.ref b91), .val (.int (0 : Int32)), .val (.ref wZ), .unset]) rfl ?_
      refine XS.iload X135.here hx rfl (hb hby at_179) rfl ?_
      refine XS.ifYes X135.here hx rfl (pc0 := 181) (pc' := 190) rfl (hb hby at_181) rfl ((if0 _ _).trans (teq ((by decide) : (0 : Int32) = (0 : Int32))).1) (by decide) (by decide) ?_
      show Steps p.tables e below (T135.setTop (mkF m 190 #[.val (.int ln), .val (.int mk), .val (.long d), .second, .val (.int (0 : Int32)), .val (.ref b3), .val (.ref b91), .val (.int (0 : Int32)), .val (.ref wZ), .unset] [])) _
      refine st143 _ ?_
      refine XS.astore X143.here hx rfl (hb hby at_193) rfl rfl (l' := #[.val (.int ln), .val (.int mk), .val (.long d), .second, .val (.int (0 : Int32)), .val (.ref b3), .val (.ref b91), .val (.int (0 : Int32)), .val (.ref wZ), .val (.ref wZ)]) rfl ?_
      refine XS.aload X143.here hx rfl (hb hby at_195) rfl rfl ?_
      refine XS.aload X143.here hx rfl (hb hby at_197) rfl rfl ?_
      show Steps p.tables e below (T143.setTop (mkF m 199 #[.val (.int ln), .val (.int mk), .val (.long d), .second, .val (.int (0 : Int32)), .val (.ref b3), .val (.ref b91), .val (.int (0 : Int32)), .val (.ref wZ), .val (.ref wZ)] [(.ref wZ), (.ref wZ)])) _
      refine Jvm.RoadKit.acmp (g := (mkF m 199 #[.val (.int ln), .val (.int mk), .val (.long d), .second, .val (.int (0 : Int32)), .val (.ref b3), .val (.ref b91), .val (.int (0 : Int32)), .val (.ref wZ), .val (.ref wZ)] [(.ref wZ), (.ref wZ)])) X143 hx rfl rfl rfl (pc0 := 199) (pc' := 202) (same := true) rfl (hb hby at_199) rfl (decide_eq_true rfl) (by decide) (by decide) ?_
      refine XS.iconst X143.here hx rfl (hb hby at_202) ?_
      refine XS.goto X143.here hx rfl (pc0 := 203) (pc' := 207) rfl (hb hby at_203) (by decide) (by decide) ?_
      exact kt
    obtain ⟨fs, hr, hrun, hended, hRW⟩ := X143.leaveW hS135 (by rw [e143]; exact hk141) (v := some (.int (1 : Int32))) (fun h => by rw [Bd.returns] at h; cases h)
    refine ⟨_, _, pre0 _ (S144 _ ?_), hrun, hended, _, _, rfl, ?_, ?_, hRW.1, hRW.2.1, hRW.2.2.1, hRW.2.2.2.mono (by decide) (by decide)⟩
    · exact retN X143 hx (t := .boolean) Bd.returns (by simp) (hb hby at_207) hr
    · show Q_rm_law Z ln mk d zc wR wZ h0 n0 _ T143.heap _
      rw [e143]
      exact ⟨rfl, N138⟩
    · show CHr Z own_EL s.vm s.heap T143.vm T143.heap
      rw [hh, e143]
      exact CR140.trans (CHv.at X143 hZ135 own_ew CR140.1)
  · obtain ⟨T145, h145, X145, e145, E145, A145, D145, -, st145⟩ := newO X84 hx hZ0 ho0 (own_w hw 6 rfl) (own_w hw 7 rfl) (own_w hw 8 rfl) e84 (g := (mkF m 98 #[.val (.int ln), .val (.int mk), .val (.long d), .second, .val (.int (1 : Int32)), .val (.ref b3), .unset, .unset, .unset, .unset] [])) rfl (hb hby at_98) (by decide) (by decide)
    obtain ⟨b145, g145⟩ : ∃ z, z = h84.size := ⟨_, rfl⟩
    have ge_b145 : n0 ≤ b145 := by rw [g145, ← O88.1]; exact O88.2.1
    have f146 := (Exa.wr W84 f85)
    have ne147 : b3 ≠ b145 := Nat.ne_of_lt (Nat.lt_of_lt_of_le (Exa.lt f146) (Nat.le_of_eq g145.symm))
    have sf148 : Safe Z own_EL s.vm h84 b145 := Safe.new (Nat.le_of_eq g145.symm)
    rw [← g145] at A145 D145 st145
    have CR149 := CR86.trans (CHr.ext E145 CR86.1)
    have hk150 := Nat.le_trans hk87 E145.1
    have sf151 := Safe.ext E145 CR86.1 sf148
    have O152 := O88.ext E145
    have F153 : Fld Z h145 b145 "java/lang/String" "value" "[B" .null := D145 (Or.inr (own_w hw 24 rfl)) (ty := (.array .byte)) (by decide)
    have F154 : Fld Z h145 b145 "java/lang/String" "coder" "B" (.int (0 : Int32)) := D145 (Or.inr (own_w hw 25 rfl)) (ty := .byte) (by decide)
    have f156 := (Arv.ext F84 E145)
    obtain ⟨_, _, ⟨T155, L155, k155, n155⟩, -, X155, ⟨Lc155, hQ155, l155, y155, z155⟩, st155⟩ := Jvm.LawKit.callS X145 hx (y := (⟨"com/example/favonius/favonius/phrank/VariantDefaultForPinLaw", "cut", "(I[C)[C"⟩ : MethodName)) ho0 (mvT hZ0 (own_w hw 9 rfl)) (mvT hZ0 (own_w hw 10 rfl)) (mvT hZ0 (own_w hw 3 rfl)) (mvT hZ0 (own_w hw 11 rfl)) (by decide) (backOf (W := 2) (rm_cut1 l Z a0 hw [] b3 k3 x8 x19 x31 x43 x55 x67 x79 h145 n0 O152 f156 c9 c20 c32 c44 c56 c68 c80) hZ0 (own_w hw 11 rfl) (own_w hw 3 rfl) (by decide) (by decide)) (g := (mkF m 106 #[.val (.int ln), .val (.int mk), .val (.long d), .second, .val (.int (1 : Int32)), .val (.ref b3), .unset, .unset, .unset, .unset] [(.ref b3), (.int (1 : Int32)), (.ref b145), (.ref b145)])) rfl (by rw [hml]; rfl) (argsL := [(.int (1 : Int32)), (.ref b3)]) (rest := [(.ref b145), (.ref b145)]) (lenOf pd_3 rfl) rfl (by show 2 * 0 + _ ≤ _; exact Nat.le_of_eq rfl) (hb hby at_106) (fun _ _ => ⟨rfl, e145, (by decide : 2 + 1 ≤ _), (by decide : 11 + 1 ≤ _)⟩)
    dsimp only [Pt.U, Pt.locs, Pt.cells, Pt.slots] at X155 l155 y155 z155 st155 hQ155
    subst l155 y155 z155
    obtain ⟨x157, x158, rfl, N159, k160, f161, f162⟩ := hQ155
    have N163 := Fr.app N89 N159
    have ge164 : n0 ≤ x157 := by rw [← O152.1]; exact Nat.le_trans O152.2.1 f161
    have f165 := (Exa.ext E145 f146)
    have ne166 : b3 ≠ x157 := Nat.ne_of_lt (Nat.lt_of_lt_of_le (Exa.lt f165) f161)
    have ne167 : b145 ≠ x157 := Nat.ne_of_lt (Nat.lt_of_lt_of_le (Exa.lt A145) f161)
    have CR168 := CR149.trans (CHr.keep k160 sf0 CR149.1)
    have hk169 := Nat.le_trans hk150 k160.1
    have sf170 := Safe.keep k160 sf0 CR149.1 sf151
    have O171 := O152.keep k160 all0
    have f173 := (Exa.keep A145 k160)
    have f174 := (Fld.keep F153 k160 nin0)
    have f175 := (Fld.keep F154 k160 nin0)
    have la176 : ∀ c ∈ ([x8] : List Int32), ¬ c < 0 ∧ ¬ (255 : Int32) < c := by
      intro c hc
      simp only [List.mem_cons, List.not_mem_nil, or_false] at hc
      rcases hc with rfl
      · exact c9
    obtain ⟨_, _, ⟨T172, L172, k172, n172⟩, -, X172, ⟨Lc172, hQ172, l172, y172, z172⟩, st172⟩ := X155.specialBack hx (y := (⟨"java/lang/String", "<init>", "([C)V"⟩ : MethodName)) rfl ho0 (mvT hZ0 (own_w hw 12 rfl)) (mvT hZ0 (own_w hw 13 rfl)) (mvT hZ0 (own_w hw 14 rfl)) (by decide) (StrChars.Road.backV (W := 1) hZ0 hws (kI := 4) (own_w hw 7 rfl) (cs := [x8]) (bs := [x8.toInt8.toInt32]) (n := 1) ge_b145 (by rw [← O171.1]; exact O171.2.1) f173 f174 f175 f162 (S_C.ext O171.2) hzc rfl rfl (by decide) (by decide) la176 rfl (by decide) (by decide)) (g := (mkF m 109 #[.val (.int ln), .val (.int mk), .val (.long d), .second, .val (.int (1 : Int32)), .val (.ref b3), .unset, .unset, .unset, .unset] [(.ref x157), (.ref b145), (.ref b145)])) rfl (by rw [hml]; rfl) (Steps.refl _) (a := b145) (argsL := [(.ref x157)]) (rest := [(.ref b145)]) (lenOf pd_4 rfl) rfl (by show 2 * 0 + _ ≤ _; exact Nat.le_of_eq rfl) (hb hby at_109) (fun _ _ => ⟨rfl, rfl, (by decide : 3 + 1 ≤ _), (by decide : 12 + 1 ≤ _)⟩)
    dsimp only [Pt.U, Pt.locs, Pt.cells, Pt.slots] at X172 l172 y172 z172 st172 hQ172
    subst l172 y172 z172
    obtain ⟨rfl, f179, f180, f181, f182, x177, x178, f183, f184, qf184, f185, f186⟩ := hQ172
    have N187 := Fr.app N163 f179
    have ge188 : n0 ≤ x177 := by rw [← O171.1]; exact Nat.le_trans O171.2.1 f184
    have f189 := (Exa.keep f165 k160)
    have ne190 : b3 ≠ x177 := Nat.ne_of_lt (Nat.lt_of_lt_of_le (Exa.lt f189) f184)
    have ne191 : b145 ≠ x177 := Nat.ne_of_lt (Nat.lt_of_lt_of_le (Exa.lt f173) f184)
    have ne192 : x157 ≠ x177 := Nat.ne_of_lt (Nat.lt_of_lt_of_le (Arv.lt f162) f184)
    have CR193 := CR168.trans (CHr.keep f180 (sfS sf170 sf0) CR168.1)
    have hk194 := Nat.le_trans hk169 f180.1
    have sf195 := Safe.keep f180 (sfS sf170 sf0) CR168.1 sf170
    have O196 := O171.keep f180 (allS ge_b145 all0)
    obtain ⟨_, _, ⟨T197, L197, k197, n197⟩, -, Xq197, hSq197, hgq197, ⟨Lc197, hQ197, l197, y197, z197, C197⟩, st197⟩ := callSS X172 hx (y := (⟨"com/example/favonius/favonius/phrank/Variant", "defaultFor", "(Ljava/lang/String;)Lcom/example/favonius/favonius/phrank/Variant;"⟩ : MethodName)) ho0 (mvT hZ0 (own_w hw 30 rfl)) (mvT hZ0 (own_w hw 31 rfl)) (mvT hZ0 (own_w hw 32 rfl)) (mvT hZ0 (own_w hw 33 rfl)) (by decide) (own_backS (W := 0) (rm := ({ frames := 2, cells := 2, slots := 24, locals := 28 } : Room)) (xs := []) (rm_df1 l Z a0 hw [] b145 x177 x178 x8 zc wR wZ T172.heap n0 O196 f181 f185 f182 f186 c9 S_C hzc S_R S_Z) hZ0 (own_w hw 33 rfl) (own_w hw 32 rfl) (by decide) (by decide) own_ew CR193.1 all0) (g := (mkF m 174 #[.val (.int ln), .val (.int mk), .val (.long d), .second, .val (.int (1 : Int32)), .val (.ref b3), .val (.ref b145), .val (.int (0 : Int32)), .unset, .unset] [(.ref b145)])) rfl (by rw [hml]; rfl) (argsL := [(.ref b145)]) (rest := []) (lenOf pd_5 rfl) rfl (by show 2 * 0 + _ ≤ _; exact Nat.le_of_eq rfl) (hb hby at_174) (fun _ _ => ⟨rfl, rfl, (by decide : 4 + 2 ≤ _), (by decide : 13 + 24 ≤ _)⟩)
    dsimp only [Pt.U, Pt.locs, Pt.cells, Pt.slots] at Xq197 hSq197 hgq197 l197 y197 z197 st197 hQ197 C197
    obtain ⟨X197, hS197, hZ197, ho197⟩ := rebS hS0 (by exact hk194) Xq197 hSq197 hgq197 hZ0 ho0
    subst l197 y197 z197
    obtain ⟨rfl, N198, k199⟩ := hQ197
    have N200 := Fr.app N187 N198
    have sf201 := CHr.safe C197 (Exa.lt f181) sf195
    have CR202 := CR193.trans C197
    have hk203 : T197.heap.size ≤ T197.heap.size := Nat.le_refl _
    have O204 := O196.keep k199 all0
    obtain ⟨T205, X205, e205, st205⟩ := getS2 X197 hx hZ197 ho197 (host := "") (Or.inl (own_w hw 48 rfl)) Via.refl rfl (S_Z.ext O204.2) (g := (mkF m 190 #[.val (.int ln), .val (.int mk), .val (.long d), .second, .val (.int (1 : Int32)), .val (.ref b3), .val (.ref b145), .val (.int (0 : Int32)), .val (.ref wZ), .unset] [])) rfl (hb hby at_190)
    have S206 : ∀ t, Steps p.tables e below (T205.setTop (mkF m 207 #[.val (.int ln), .val (.int mk), .val (.long d), .second, .val (.int (1 : Int32)), .val (.ref b3), .val (.ref b145), .val (.int (0 : Int32)), .val (.ref wZ), .val (.ref wZ)] [(.int (1 : Int32))])) t → Steps p.tables e below (s₁.setTop (mkF m 0 #[.val (.int ln), .val (.int mk), .val (.long d), .second, .unset, .unset, .unset, .unset, .unset, .unset] [])) t := by
      intro t kt
      refine S90 t ?_
      refine st145 _ ?_
      refine XS.dup X145.here hx rfl (hb hby at_101) rfl rfl ?_
      refine XS.iload X145.here hx rfl (hb hby at_102) rfl ?_
      refine XS.aload X145.here hx rfl (hb hby at_104) rfl rfl ?_
      show Steps p.tables e below (T145.setTop (mkF m 106 #[.val (.int ln), .val (.int mk), .val (.long d), .second, .val (.int (1 : Int32)), .val (.ref b3), .unset, .unset, .unset, .unset] [(.ref b3), (.int (1 : Int32)), (.ref b145), (.ref b145)])) _
      refine st155 _ ?_
      show Steps p.tables e below (T155.setTop (mkF m 109 #[.val (.int ln), .val (.int mk), .val (.long d), .second, .val (.int (1 : Int32)), .val (.ref b3), .unset, .unset, .unset, .unset] [(.ref x157), (.ref b145), (.ref b145)])) _
      refine st172.trans ?_
      refine XS.astore X172.here hx rfl (hb hby at_112) rfl rfl (l' := #[.val (.int ln), .val (.int mk), .val (.long d), .second, .val (.int (1 : Int32)), .val (.ref b3), .val (.ref b145), .unset, .unset, .unset]) rfl ?_
      refine XS.iload X172.here hx rfl (hb hby at_114) rfl ?_
      refine XS.iconst X172.here hx rfl (hb hby at_116) ?_
      refine XS.icmpYes X172.here hx rfl (pc0 := 117) (pc' := 169) rfl (hb hby at_117) rfl (feq ((by decide) : ¬ ((1 : Int32) = (5 : Int32)))).2 (by decide) (by decide) ?_
      refine XS.iconst X172.here hx rfl (hb hby at_169) ?_
      show Steps p.tables e below (T172.setTop (mkF m 170 #[.val (.int ln), .val (.int mk), .val (.long d), .second, .val (.int (1 : Int32)), .val (.ref b3), .val (.ref b145), .unset, .unset, .unset] [(.int (0 : Int32))])) _
      refine XS.istore X172.here hx rfl (hb hby at_170) rfl (l' := #[.val (.int ln), .val (.int mk), .val (.long d), .second, .val (.int (1 : Int32)), .val (.ref b3), .val (.ref b145), .val (.int (0 : Int32)), .unset, .unset]) rfl ?_
      refine XS.aload X172.here hx rfl (hb hby at_172) rfl rfl ?_
      show Steps p.tables e below (T172.setTop (mkF m 174 #[.val (.int ln), .val (.int mk), .val (.long d), .second, .val (.int (1 : Int32)), .val (.ref b3), .val (.ref b145), .val (.int (0 : Int32)), .unset, .unset] [(.ref b145)])) _
      refine st197.trans ?_
      refine XS.astore X197.here hx rfl (hb hby at_177) rfl rfl (l' := #[.val (.int ln), .val (.int mk), .val (.long d), .second, .val (.int (1 : Int32)), .val (.ref b3), .val (.ref b145), .val (.int (0 : Int32)), .val (.ref wZ), .unset]) rfl ?_
      refine XS.iload X197.here hx rfl (hb hby at_179) rfl ?_
      refine XS.ifYes X197.here hx rfl (pc0 := 181) (pc' := 190) rfl (hb hby at_181) rfl ((if0 _ _).trans (teq ((by decide) : (0 : Int32) = (0 : Int32))).1) (by decide) (by decide) ?_
      show Steps p.tables e below (T197.setTop (mkF m 190 #[.val (.int ln), .val (.int mk), .val (.long d), .second, .val (.int (1 : Int32)), .val (.ref b3), .val (.ref b145), .val (.int (0 : Int32)), .val (.ref wZ), .unset] [])) _
      refine st205 _ ?_
      refine XS.astore X205.here hx rfl (hb hby at_193) rfl rfl (l' := #[.val (.int ln), .val (.int mk), .val (.long d), .second, .val (.int (1 : Int32)), .val (.ref b3), .val (.ref b145), .val (.int (0 : Int32)), .val (.ref wZ), .val (.ref wZ)]) rfl ?_
      refine XS.aload X205.here hx rfl (hb hby at_195) rfl rfl ?_
      refine XS.aload X205.here hx rfl (hb hby at_197) rfl rfl ?_
      show Steps p.tables e below (T205.setTop (mkF m 199 #[.val (.int ln), .val (.int mk), .val (.long d), .second, .val (.int (1 : Int32)), .val (.ref b3), .val (.ref b145), .val (.int (0 : Int32)), .val (.ref wZ), .val (.ref wZ)] [(.ref wZ), (.ref wZ)])) _
      refine Jvm.RoadKit.acmp (g := (mkF m 199 #[.val (.int ln), .val (.int mk), .val (.long d), .second, .val (.int (1 : Int32)), .val (.ref b3), .val (.ref b145), .val (.int (0 : Int32)), .val (.ref wZ), .val (.ref wZ)] [(.ref wZ), (.ref wZ)])) X205 hx rfl rfl rfl (pc0 := 199) (pc' := 202) (same := true) rfl (hb hby at_199) rfl (decide_eq_true rfl) (by decide) (by decide) ?_
      refine XS.iconst X205.here hx rfl (hb hby at_202) ?_
      refine XS.goto X205.here hx rfl (pc0 := 203) (pc' := 207) rfl (hb hby at_203) (by decide) (by decide) ?_
      exact kt
    obtain ⟨fs, hr, hrun, hended, hRW⟩ := X205.leaveW hS197 (by rw [e205]; exact hk203) (v := some (.int (1 : Int32))) (fun h => by rw [Bd.returns] at h; cases h)
    refine ⟨_, _, pre0 _ (S206 _ ?_), hrun, hended, _, _, rfl, ?_, ?_, hRW.1, hRW.2.1, hRW.2.2.1, hRW.2.2.2.mono (by decide) (by decide)⟩
    · exact retN X205 hx (t := .boolean) Bd.returns (by simp) (hb hby at_207) hr
    · show Q_rm_law Z ln mk d zc wR wZ h0 n0 _ T205.heap _
      rw [e205]
      exact ⟨rfl, N200⟩
    · show CHr Z own_EL s.vm s.heap T205.vm T205.heap
      rw [hh, e205]
      exact CR202.trans (CHv.at X205 hZ197 own_ew CR202.1)
  · obtain ⟨T207, h207, X207, e207, E207, A207, D207, -, st207⟩ := newO X84 hx hZ0 ho0 (own_w hw 6 rfl) (own_w hw 7 rfl) (own_w hw 8 rfl) e84 (g := (mkF m 98 #[.val (.int ln), .val (.int mk), .val (.long d), .second, .val (.int (2 : Int32)), .val (.ref b3), .unset, .unset, .unset, .unset] [])) rfl (hb hby at_98) (by decide) (by decide)
    obtain ⟨b207, g207⟩ : ∃ z, z = h84.size := ⟨_, rfl⟩
    have ge_b207 : n0 ≤ b207 := by rw [g207, ← O88.1]; exact O88.2.1
    have f208 := (Exa.wr W84 f85)
    have ne209 : b3 ≠ b207 := Nat.ne_of_lt (Nat.lt_of_lt_of_le (Exa.lt f208) (Nat.le_of_eq g207.symm))
    have sf210 : Safe Z own_EL s.vm h84 b207 := Safe.new (Nat.le_of_eq g207.symm)
    rw [← g207] at A207 D207 st207
    have CR211 := CR86.trans (CHr.ext E207 CR86.1)
    have hk212 := Nat.le_trans hk87 E207.1
    have sf213 := Safe.ext E207 CR86.1 sf210
    have O214 := O88.ext E207
    have F215 : Fld Z h207 b207 "java/lang/String" "value" "[B" .null := D207 (Or.inr (own_w hw 24 rfl)) (ty := (.array .byte)) (by decide)
    have F216 : Fld Z h207 b207 "java/lang/String" "coder" "B" (.int (0 : Int32)) := D207 (Or.inr (own_w hw 25 rfl)) (ty := .byte) (by decide)
    have f218 := (Arv.ext F84 E207)
    obtain ⟨_, _, ⟨T217, L217, k217, n217⟩, -, X217, ⟨Lc217, hQ217, l217, y217, z217⟩, st217⟩ := Jvm.LawKit.callS X207 hx (y := (⟨"com/example/favonius/favonius/phrank/VariantDefaultForPinLaw", "cut", "(I[C)[C"⟩ : MethodName)) ho0 (mvT hZ0 (own_w hw 9 rfl)) (mvT hZ0 (own_w hw 10 rfl)) (mvT hZ0 (own_w hw 3 rfl)) (mvT hZ0 (own_w hw 11 rfl)) (by decide) (backOf (W := 2) (rm_cut2 l Z a0 hw [] b3 k3 x8 x19 x31 x43 x55 x67 x79 h207 n0 O214 f218 c9 c20 c32 c44 c56 c68 c80) hZ0 (own_w hw 11 rfl) (own_w hw 3 rfl) (by decide) (by decide)) (g := (mkF m 106 #[.val (.int ln), .val (.int mk), .val (.long d), .second, .val (.int (2 : Int32)), .val (.ref b3), .unset, .unset, .unset, .unset] [(.ref b3), (.int (2 : Int32)), (.ref b207), (.ref b207)])) rfl (by rw [hml]; rfl) (argsL := [(.int (2 : Int32)), (.ref b3)]) (rest := [(.ref b207), (.ref b207)]) (lenOf pd_3 rfl) rfl (by show 2 * 0 + _ ≤ _; exact Nat.le_of_eq rfl) (hb hby at_106) (fun _ _ => ⟨rfl, e207, (by decide : 2 + 1 ≤ _), (by decide : 11 + 2 ≤ _)⟩)
    dsimp only [Pt.U, Pt.locs, Pt.cells, Pt.slots] at X217 l217 y217 z217 st217 hQ217
    subst l217 y217 z217
    obtain ⟨x219, x220, rfl, N221, k222, f223, f224⟩ := hQ217
    have N225 := Fr.app N89 N221
    have ge226 : n0 ≤ x219 := by rw [← O214.1]; exact Nat.le_trans O214.2.1 f223
    have f227 := (Exa.ext E207 f208)
    have ne228 : b3 ≠ x219 := Nat.ne_of_lt (Nat.lt_of_lt_of_le (Exa.lt f227) f223)
    have ne229 : b207 ≠ x219 := Nat.ne_of_lt (Nat.lt_of_lt_of_le (Exa.lt A207) f223)
    have CR230 := CR211.trans (CHr.keep k222 sf0 CR211.1)
    have hk231 := Nat.le_trans hk212 k222.1
    have sf232 := Safe.keep k222 sf0 CR211.1 sf213
    have O233 := O214.keep k222 all0
    have f235 := (Exa.keep A207 k222)
    have f236 := (Fld.keep F215 k222 nin0)
    have f237 := (Fld.keep F216 k222 nin0)
    have la238 : ∀ c ∈ ([x8, x19] : List Int32), ¬ c < 0 ∧ ¬ (255 : Int32) < c := by
      intro c hc
      simp only [List.mem_cons, List.not_mem_nil, or_false] at hc
      rcases hc with rfl | rfl
      · exact c9
      · exact c20
    obtain ⟨_, _, ⟨T234, L234, k234, n234⟩, -, X234, ⟨Lc234, hQ234, l234, y234, z234⟩, st234⟩ := X217.specialBack hx (y := (⟨"java/lang/String", "<init>", "([C)V"⟩ : MethodName)) rfl ho0 (mvT hZ0 (own_w hw 12 rfl)) (mvT hZ0 (own_w hw 13 rfl)) (mvT hZ0 (own_w hw 14 rfl)) (by decide) (StrChars.Road.backV (W := 1) hZ0 hws (kI := 4) (own_w hw 7 rfl) (cs := [x8, x19]) (bs := [x8.toInt8.toInt32, x19.toInt8.toInt32]) (n := 2) ge_b207 (by rw [← O233.1]; exact O233.2.1) f235 f236 f237 f224 (S_C.ext O233.2) hzc rfl rfl (by decide) (by decide) la238 rfl (by decide) (by decide)) (g := (mkF m 109 #[.val (.int ln), .val (.int mk), .val (.long d), .second, .val (.int (2 : Int32)), .val (.ref b3), .unset, .unset, .unset, .unset] [(.ref x219), (.ref b207), (.ref b207)])) rfl (by rw [hml]; rfl) (Steps.refl _) (a := b207) (argsL := [(.ref x219)]) (rest := [(.ref b207)]) (lenOf pd_4 rfl) rfl (by show 2 * 0 + _ ≤ _; exact Nat.le_of_eq rfl) (hb hby at_109) (fun _ _ => ⟨rfl, rfl, (by decide : 3 + 1 ≤ _), (by decide : 13 + 2 ≤ _)⟩)
    dsimp only [Pt.U, Pt.locs, Pt.cells, Pt.slots] at X234 l234 y234 z234 st234 hQ234
    subst l234 y234 z234
    obtain ⟨rfl, f241, f242, f243, f244, x239, x240, f245, f246, qf246, f247, f248⟩ := hQ234
    have N249 := Fr.app N225 f241
    have ge250 : n0 ≤ x239 := by rw [← O233.1]; exact Nat.le_trans O233.2.1 f246
    have f251 := (Exa.keep f227 k222)
    have ne252 : b3 ≠ x239 := Nat.ne_of_lt (Nat.lt_of_lt_of_le (Exa.lt f251) f246)
    have ne253 : b207 ≠ x239 := Nat.ne_of_lt (Nat.lt_of_lt_of_le (Exa.lt f235) f246)
    have ne254 : x219 ≠ x239 := Nat.ne_of_lt (Nat.lt_of_lt_of_le (Arv.lt f224) f246)
    have CR255 := CR230.trans (CHr.keep f242 (sfS sf232 sf0) CR230.1)
    have hk256 := Nat.le_trans hk231 f242.1
    have sf257 := Safe.keep f242 (sfS sf232 sf0) CR230.1 sf232
    have O258 := O233.keep f242 (allS ge_b207 all0)
    obtain ⟨_, _, ⟨T259, L259, k259, n259⟩, -, Xq259, hSq259, hgq259, ⟨Lc259, hQ259, l259, y259, z259, C259⟩, st259⟩ := callSS X234 hx (y := (⟨"com/example/favonius/favonius/phrank/Variant", "defaultFor", "(Ljava/lang/String;)Lcom/example/favonius/favonius/phrank/Variant;"⟩ : MethodName)) ho0 (mvT hZ0 (own_w hw 30 rfl)) (mvT hZ0 (own_w hw 31 rfl)) (mvT hZ0 (own_w hw 32 rfl)) (mvT hZ0 (own_w hw 33 rfl)) (by decide) (own_backS (W := 0) (rm := ({ frames := 2, cells := 2, slots := 24, locals := 28 } : Room)) (xs := []) (rm_df2 l Z a0 hw [] b207 x239 x240 x8 x19 zc wR wZ T234.heap n0 O258 f243 f247 f244 f248 c9 c20 S_C hzc S_R S_Z) hZ0 (own_w hw 33 rfl) (own_w hw 32 rfl) (by decide) (by decide) own_ew CR255.1 all0) (g := (mkF m 174 #[.val (.int ln), .val (.int mk), .val (.long d), .second, .val (.int (2 : Int32)), .val (.ref b3), .val (.ref b207), .val (.int (0 : Int32)), .unset, .unset] [(.ref b207)])) rfl (by rw [hml]; rfl) (argsL := [(.ref b207)]) (rest := []) (lenOf pd_5 rfl) rfl (by show 2 * 0 + _ ≤ _; exact Nat.le_of_eq rfl) (hb hby at_174) (fun _ _ => ⟨rfl, rfl, (by decide : 4 + 2 ≤ _), (by decide : 15 + 24 ≤ _)⟩)
    dsimp only [Pt.U, Pt.locs, Pt.cells, Pt.slots] at Xq259 hSq259 hgq259 l259 y259 z259 st259 hQ259 C259
    obtain ⟨X259, hS259, hZ259, ho259⟩ := rebS hS0 (by exact hk256) Xq259 hSq259 hgq259 hZ0 ho0
    subst l259 y259 z259
    obtain ⟨rfl, N260, k261⟩ := hQ259
    have N262 := Fr.app N249 N260
    have sf263 := CHr.safe C259 (Exa.lt f243) sf257
    have CR264 := CR255.trans C259
    have hk265 : T259.heap.size ≤ T259.heap.size := Nat.le_refl _
    have O266 := O258.keep k261 all0
    obtain ⟨T267, X267, e267, st267⟩ := getS2 X259 hx hZ259 ho259 (host := "") (Or.inl (own_w hw 48 rfl)) Via.refl rfl (S_Z.ext O266.2) (g := (mkF m 190 #[.val (.int ln), .val (.int mk), .val (.long d), .second, .val (.int (2 : Int32)), .val (.ref b3), .val (.ref b207), .val (.int (0 : Int32)), .val (.ref wZ), .unset] [])) rfl (hb hby at_190)
    have S268 : ∀ t, Steps p.tables e below (T267.setTop (mkF m 207 #[.val (.int ln), .val (.int mk), .val (.long d), .second, .val (.int (2 : Int32)), .val (.ref b3), .val (.ref b207), .val (.int (0 : Int32)), .val (.ref wZ), .val (.ref wZ)] [(.int (1 : Int32))])) t → Steps p.tables e below (s₁.setTop (mkF m 0 #[.val (.int ln), .val (.int mk), .val (.long d), .second, .unset, .unset, .unset, .unset, .unset, .unset] [])) t := by
      intro t kt
      refine S90 t ?_
      refine st207 _ ?_
      refine XS.dup X207.here hx rfl (hb hby at_101) rfl rfl ?_
      refine XS.iload X207.here hx rfl (hb hby at_102) rfl ?_
      refine XS.aload X207.here hx rfl (hb hby at_104) rfl rfl ?_
      show Steps p.tables e below (T207.setTop (mkF m 106 #[.val (.int ln), .val (.int mk), .val (.long d), .second, .val (.int (2 : Int32)), .val (.ref b3), .unset, .unset, .unset, .unset] [(.ref b3), (.int (2 : Int32)), (.ref b207), (.ref b207)])) _
      refine st217 _ ?_
      show Steps p.tables e below (T217.setTop (mkF m 109 #[.val (.int ln), .val (.int mk), .val (.long d), .second, .val (.int (2 : Int32)), .val (.ref b3), .unset, .unset, .unset, .unset] [(.ref x219), (.ref b207), (.ref b207)])) _
      refine st234.trans ?_
      refine XS.astore X234.here hx rfl (hb hby at_112) rfl rfl (l' := #[.val (.int ln), .val (.int mk), .val (.long d), .second, .val (.int (2 : Int32)), .val (.ref b3), .val (.ref b207), .unset, .unset, .unset]) rfl ?_
      refine XS.iload X234.here hx rfl (hb hby at_114) rfl ?_
      refine XS.iconst X234.here hx rfl (hb hby at_116) ?_
      refine XS.icmpYes X234.here hx rfl (pc0 := 117) (pc' := 169) rfl (hb hby at_117) rfl (feq ((by decide) : ¬ ((2 : Int32) = (5 : Int32)))).2 (by decide) (by decide) ?_
      refine XS.iconst X234.here hx rfl (hb hby at_169) ?_
      show Steps p.tables e below (T234.setTop (mkF m 170 #[.val (.int ln), .val (.int mk), .val (.long d), .second, .val (.int (2 : Int32)), .val (.ref b3), .val (.ref b207), .unset, .unset, .unset] [(.int (0 : Int32))])) _
      refine XS.istore X234.here hx rfl (hb hby at_170) rfl (l' := #[.val (.int ln), .val (.int mk), .val (.long d), .second, .val (.int (2 : Int32)), .val (.ref b3), .val (.ref b207), .val (.int (0 : Int32)), .unset, .unset]) rfl ?_
      refine XS.aload X234.here hx rfl (hb hby at_172) rfl rfl ?_
      show Steps p.tables e below (T234.setTop (mkF m 174 #[.val (.int ln), .val (.int mk), .val (.long d), .second, .val (.int (2 : Int32)), .val (.ref b3), .val (.ref b207), .val (.int (0 : Int32)), .unset, .unset] [(.ref b207)])) _
      refine st259.trans ?_
      refine XS.astore X259.here hx rfl (hb hby at_177) rfl rfl (l' := #[.val (.int ln), .val (.int mk), .val (.long d), .second, .val (.int (2 : Int32)), .val (.ref b3), .val (.ref b207), .val (.int (0 : Int32)), .val (.ref wZ), .unset]) rfl ?_
      refine XS.iload X259.here hx rfl (hb hby at_179) rfl ?_
      refine XS.ifYes X259.here hx rfl (pc0 := 181) (pc' := 190) rfl (hb hby at_181) rfl ((if0 _ _).trans (teq ((by decide) : (0 : Int32) = (0 : Int32))).1) (by decide) (by decide) ?_
      show Steps p.tables e below (T259.setTop (mkF m 190 #[.val (.int ln), .val (.int mk), .val (.long d), .second, .val (.int (2 : Int32)), .val (.ref b3), .val (.ref b207), .val (.int (0 : Int32)), .val (.ref wZ), .unset] [])) _
      refine st267 _ ?_
      refine XS.astore X267.here hx rfl (hb hby at_193) rfl rfl (l' := #[.val (.int ln), .val (.int mk), .val (.long d), .second, .val (.int (2 : Int32)), .val (.ref b3), .val (.ref b207), .val (.int (0 : Int32)), .val (.ref wZ), .val (.ref wZ)]) rfl ?_
      refine XS.aload X267.here hx rfl (hb hby at_195) rfl rfl ?_
      refine XS.aload X267.here hx rfl (hb hby at_197) rfl rfl ?_
      show Steps p.tables e below (T267.setTop (mkF m 199 #[.val (.int ln), .val (.int mk), .val (.long d), .second, .val (.int (2 : Int32)), .val (.ref b3), .val (.ref b207), .val (.int (0 : Int32)), .val (.ref wZ), .val (.ref wZ)] [(.ref wZ), (.ref wZ)])) _
      refine Jvm.RoadKit.acmp (g := (mkF m 199 #[.val (.int ln), .val (.int mk), .val (.long d), .second, .val (.int (2 : Int32)), .val (.ref b3), .val (.ref b207), .val (.int (0 : Int32)), .val (.ref wZ), .val (.ref wZ)] [(.ref wZ), (.ref wZ)])) X267 hx rfl rfl rfl (pc0 := 199) (pc' := 202) (same := true) rfl (hb hby at_199) rfl (decide_eq_true rfl) (by decide) (by decide) ?_
      refine XS.iconst X267.here hx rfl (hb hby at_202) ?_
      refine XS.goto X267.here hx rfl (pc0 := 203) (pc' := 207) rfl (hb hby at_203) (by decide) (by decide) ?_
      exact kt
    obtain ⟨fs, hr, hrun, hended, hRW⟩ := X267.leaveW hS259 (by rw [e267]; exact hk265) (v := some (.int (1 : Int32))) (fun h => by rw [Bd.returns] at h; cases h)
    refine ⟨_, _, pre0 _ (S268 _ ?_), hrun, hended, _, _, rfl, ?_, ?_, hRW.1, hRW.2.1, hRW.2.2.1, hRW.2.2.2.mono (by decide) (by decide)⟩
    · exact retN X267 hx (t := .boolean) Bd.returns (by simp) (hb hby at_207) hr
    · show Q_rm_law Z ln mk d zc wR wZ h0 n0 _ T267.heap _
      rw [e267]
      exact ⟨rfl, N262⟩
    · show CHr Z own_EL s.vm s.heap T267.vm T267.heap
      rw [hh, e267]
      exact CR264.trans (CHv.at X267 hZ259 own_ew CR264.1)
  · obtain ⟨T269, h269, X269, e269, E269, A269, D269, -, st269⟩ := newO X84 hx hZ0 ho0 (own_w hw 6 rfl) (own_w hw 7 rfl) (own_w hw 8 rfl) e84 (g := (mkF m 98 #[.val (.int ln), .val (.int mk), .val (.long d), .second, .val (.int (3 : Int32)), .val (.ref b3), .unset, .unset, .unset, .unset] [])) rfl (hb hby at_98) (by decide) (by decide)
    obtain ⟨b269, g269⟩ : ∃ z, z = h84.size := ⟨_, rfl⟩
    have ge_b269 : n0 ≤ b269 := by rw [g269, ← O88.1]; exact O88.2.1
    have f270 := (Exa.wr W84 f85)
    have ne271 : b3 ≠ b269 := Nat.ne_of_lt (Nat.lt_of_lt_of_le (Exa.lt f270) (Nat.le_of_eq g269.symm))
    have sf272 : Safe Z own_EL s.vm h84 b269 := Safe.new (Nat.le_of_eq g269.symm)
    rw [← g269] at A269 D269 st269
    have CR273 := CR86.trans (CHr.ext E269 CR86.1)
    have hk274 := Nat.le_trans hk87 E269.1
    have sf275 := Safe.ext E269 CR86.1 sf272
    have O276 := O88.ext E269
    have F277 : Fld Z h269 b269 "java/lang/String" "value" "[B" .null := D269 (Or.inr (own_w hw 24 rfl)) (ty := (.array .byte)) (by decide)
    have F278 : Fld Z h269 b269 "java/lang/String" "coder" "B" (.int (0 : Int32)) := D269 (Or.inr (own_w hw 25 rfl)) (ty := .byte) (by decide)
    have f280 := (Arv.ext F84 E269)
    obtain ⟨_, _, ⟨T279, L279, k279, n279⟩, -, X279, ⟨Lc279, hQ279, l279, y279, z279⟩, st279⟩ := Jvm.LawKit.callS X269 hx (y := (⟨"com/example/favonius/favonius/phrank/VariantDefaultForPinLaw", "cut", "(I[C)[C"⟩ : MethodName)) ho0 (mvT hZ0 (own_w hw 9 rfl)) (mvT hZ0 (own_w hw 10 rfl)) (mvT hZ0 (own_w hw 3 rfl)) (mvT hZ0 (own_w hw 11 rfl)) (by decide) (backOf (W := 2) (rm_cut3 l Z a0 hw [] b3 k3 x8 x19 x31 x43 x55 x67 x79 h269 n0 O276 f280 c9 c20 c32 c44 c56 c68 c80) hZ0 (own_w hw 11 rfl) (own_w hw 3 rfl) (by decide) (by decide)) (g := (mkF m 106 #[.val (.int ln), .val (.int mk), .val (.long d), .second, .val (.int (3 : Int32)), .val (.ref b3), .unset, .unset, .unset, .unset] [(.ref b3), (.int (3 : Int32)), (.ref b269), (.ref b269)])) rfl (by rw [hml]; rfl) (argsL := [(.int (3 : Int32)), (.ref b3)]) (rest := [(.ref b269), (.ref b269)]) (lenOf pd_3 rfl) rfl (by show 2 * 0 + _ ≤ _; exact Nat.le_of_eq rfl) (hb hby at_106) (fun _ _ => ⟨rfl, e269, (by decide : 2 + 1 ≤ _), (by decide : 11 + 3 ≤ _)⟩)
    dsimp only [Pt.U, Pt.locs, Pt.cells, Pt.slots] at X279 l279 y279 z279 st279 hQ279
    subst l279 y279 z279
    obtain ⟨x281, x282, rfl, N283, k284, f285, f286⟩ := hQ279
    have N287 := Fr.app N89 N283
    have ge288 : n0 ≤ x281 := by rw [← O276.1]; exact Nat.le_trans O276.2.1 f285
    have f289 := (Exa.ext E269 f270)
    have ne290 : b3 ≠ x281 := Nat.ne_of_lt (Nat.lt_of_lt_of_le (Exa.lt f289) f285)
    have ne291 : b269 ≠ x281 := Nat.ne_of_lt (Nat.lt_of_lt_of_le (Exa.lt A269) f285)
    have CR292 := CR273.trans (CHr.keep k284 sf0 CR273.1)
    have hk293 := Nat.le_trans hk274 k284.1
    have sf294 := Safe.keep k284 sf0 CR273.1 sf275
    have O295 := O276.keep k284 all0
    have f297 := (Exa.keep A269 k284)
    have f298 := (Fld.keep F277 k284 nin0)
    have f299 := (Fld.keep F278 k284 nin0)
    have la300 : ∀ c ∈ ([x8, x19, x31] : List Int32), ¬ c < 0 ∧ ¬ (255 : Int32) < c := by
      intro c hc
      simp only [List.mem_cons, List.not_mem_nil, or_false] at hc
      rcases hc with rfl | rfl | rfl
      · exact c9
      · exact c20
      · exact c32
    obtain ⟨_, _, ⟨T296, L296, k296, n296⟩, -, X296, ⟨Lc296, hQ296, l296, y296, z296⟩, st296⟩ := X279.specialBack hx (y := (⟨"java/lang/String", "<init>", "([C)V"⟩ : MethodName)) rfl ho0 (mvT hZ0 (own_w hw 12 rfl)) (mvT hZ0 (own_w hw 13 rfl)) (mvT hZ0 (own_w hw 14 rfl)) (by decide) (StrChars.Road.backV (W := 1) hZ0 hws (kI := 4) (own_w hw 7 rfl) (cs := [x8, x19, x31]) (bs := [x8.toInt8.toInt32, x19.toInt8.toInt32, x31.toInt8.toInt32]) (n := 3) ge_b269 (by rw [← O295.1]; exact O295.2.1) f297 f298 f299 f286 (S_C.ext O295.2) hzc rfl rfl (by decide) (by decide) la300 rfl (by decide) (by decide)) (g := (mkF m 109 #[.val (.int ln), .val (.int mk), .val (.long d), .second, .val (.int (3 : Int32)), .val (.ref b3), .unset, .unset, .unset, .unset] [(.ref x281), (.ref b269), (.ref b269)])) rfl (by rw [hml]; rfl) (Steps.refl _) (a := b269) (argsL := [(.ref x281)]) (rest := [(.ref b269)]) (lenOf pd_4 rfl) rfl (by show 2 * 0 + _ ≤ _; exact Nat.le_of_eq rfl) (hb hby at_109) (fun _ _ => ⟨rfl, rfl, (by decide : 3 + 1 ≤ _), (by decide : 14 + 3 ≤ _)⟩)
    dsimp only [Pt.U, Pt.locs, Pt.cells, Pt.slots] at X296 l296 y296 z296 st296 hQ296
    subst l296 y296 z296
    obtain ⟨rfl, f303, f304, f305, f306, x301, x302, f307, f308, qf308, f309, f310⟩ := hQ296
    have N311 := Fr.app N287 f303
    have ge312 : n0 ≤ x301 := by rw [← O295.1]; exact Nat.le_trans O295.2.1 f308
    have f313 := (Exa.keep f289 k284)
    have ne314 : b3 ≠ x301 := Nat.ne_of_lt (Nat.lt_of_lt_of_le (Exa.lt f313) f308)
    have ne315 : b269 ≠ x301 := Nat.ne_of_lt (Nat.lt_of_lt_of_le (Exa.lt f297) f308)
    have ne316 : x281 ≠ x301 := Nat.ne_of_lt (Nat.lt_of_lt_of_le (Arv.lt f286) f308)
    have CR317 := CR292.trans (CHr.keep f304 (sfS sf294 sf0) CR292.1)
    have hk318 := Nat.le_trans hk293 f304.1
    have sf319 := Safe.keep f304 (sfS sf294 sf0) CR292.1 sf294
    have O320 := O295.keep f304 (allS ge_b269 all0)
    obtain ⟨_, _, ⟨T321, L321, k321, n321⟩, -, Xq321, hSq321, hgq321, ⟨Lc321, hQ321, l321, y321, z321, C321⟩, st321⟩ := callSS X296 hx (y := (⟨"com/example/favonius/favonius/phrank/Variant", "defaultFor", "(Ljava/lang/String;)Lcom/example/favonius/favonius/phrank/Variant;"⟩ : MethodName)) ho0 (mvT hZ0 (own_w hw 30 rfl)) (mvT hZ0 (own_w hw 31 rfl)) (mvT hZ0 (own_w hw 32 rfl)) (mvT hZ0 (own_w hw 33 rfl)) (by decide) (own_backS (W := 0) (rm := ({ frames := 2, cells := 2, slots := 24, locals := 28 } : Room)) (xs := []) (rm_df3 l Z a0 hw [] b269 x301 x302 x8 x19 x31 zc wR wZ T296.heap n0 O320 f305 f309 f306 f310 c9 c20 c32 S_C hzc S_R S_Z) hZ0 (own_w hw 33 rfl) (own_w hw 32 rfl) (by decide) (by decide) own_ew CR317.1 all0) (g := (mkF m 174 #[.val (.int ln), .val (.int mk), .val (.long d), .second, .val (.int (3 : Int32)), .val (.ref b3), .val (.ref b269), .val (.int (0 : Int32)), .unset, .unset] [(.ref b269)])) rfl (by rw [hml]; rfl) (argsL := [(.ref b269)]) (rest := []) (lenOf pd_5 rfl) rfl (by show 2 * 0 + _ ≤ _; exact Nat.le_of_eq rfl) (hb hby at_174) (fun _ _ => ⟨rfl, rfl, (by decide : 4 + 2 ≤ _), (by decide : 17 + 24 ≤ _)⟩)
    dsimp only [Pt.U, Pt.locs, Pt.cells, Pt.slots] at Xq321 hSq321 hgq321 l321 y321 z321 st321 hQ321 C321
    obtain ⟨X321, hS321, hZ321, ho321⟩ := rebS hS0 (by exact hk318) Xq321 hSq321 hgq321 hZ0 ho0
    subst l321 y321 z321
    obtain ⟨rfl, N322, k323⟩ := hQ321
    have N324 := Fr.app N311 N322
    have sf325 := CHr.safe C321 (Exa.lt f305) sf319
    have CR326 := CR317.trans C321
    have hk327 : T321.heap.size ≤ T321.heap.size := Nat.le_refl _
    have O328 := O320.keep k323 all0
    obtain ⟨T329, X329, e329, st329⟩ := getS2 X321 hx hZ321 ho321 (host := "") (Or.inl (own_w hw 48 rfl)) Via.refl rfl (S_Z.ext O328.2) (g := (mkF m 190 #[.val (.int ln), .val (.int mk), .val (.long d), .second, .val (.int (3 : Int32)), .val (.ref b3), .val (.ref b269), .val (.int (0 : Int32)), .val (.ref wZ), .unset] [])) rfl (hb hby at_190)
    have S330 : ∀ t, Steps p.tables e below (T329.setTop (mkF m 207 #[.val (.int ln), .val (.int mk), .val (.long d), .second, .val (.int (3 : Int32)), .val (.ref b3), .val (.ref b269), .val (.int (0 : Int32)), .val (.ref wZ), .val (.ref wZ)] [(.int (1 : Int32))])) t → Steps p.tables e below (s₁.setTop (mkF m 0 #[.val (.int ln), .val (.int mk), .val (.long d), .second, .unset, .unset, .unset, .unset, .unset, .unset] [])) t := by
      intro t kt
      refine S90 t ?_
      refine st269 _ ?_
      refine XS.dup X269.here hx rfl (hb hby at_101) rfl rfl ?_
      refine XS.iload X269.here hx rfl (hb hby at_102) rfl ?_
      refine XS.aload X269.here hx rfl (hb hby at_104) rfl rfl ?_
      show Steps p.tables e below (T269.setTop (mkF m 106 #[.val (.int ln), .val (.int mk), .val (.long d), .second, .val (.int (3 : Int32)), .val (.ref b3), .unset, .unset, .unset, .unset] [(.ref b3), (.int (3 : Int32)), (.ref b269), (.ref b269)])) _
      refine st279 _ ?_
      show Steps p.tables e below (T279.setTop (mkF m 109 #[.val (.int ln), .val (.int mk), .val (.long d), .second, .val (.int (3 : Int32)), .val (.ref b3), .unset, .unset, .unset, .unset] [(.ref x281), (.ref b269), (.ref b269)])) _
      refine st296.trans ?_
      refine XS.astore X296.here hx rfl (hb hby at_112) rfl rfl (l' := #[.val (.int ln), .val (.int mk), .val (.long d), .second, .val (.int (3 : Int32)), .val (.ref b3), .val (.ref b269), .unset, .unset, .unset]) rfl ?_
      refine XS.iload X296.here hx rfl (hb hby at_114) rfl ?_
      refine XS.iconst X296.here hx rfl (hb hby at_116) ?_
      refine XS.icmpYes X296.here hx rfl (pc0 := 117) (pc' := 169) rfl (hb hby at_117) rfl (feq ((by decide) : ¬ ((3 : Int32) = (5 : Int32)))).2 (by decide) (by decide) ?_
      refine XS.iconst X296.here hx rfl (hb hby at_169) ?_
      show Steps p.tables e below (T296.setTop (mkF m 170 #[.val (.int ln), .val (.int mk), .val (.long d), .second, .val (.int (3 : Int32)), .val (.ref b3), .val (.ref b269), .unset, .unset, .unset] [(.int (0 : Int32))])) _
      refine XS.istore X296.here hx rfl (hb hby at_170) rfl (l' := #[.val (.int ln), .val (.int mk), .val (.long d), .second, .val (.int (3 : Int32)), .val (.ref b3), .val (.ref b269), .val (.int (0 : Int32)), .unset, .unset]) rfl ?_
      refine XS.aload X296.here hx rfl (hb hby at_172) rfl rfl ?_
      show Steps p.tables e below (T296.setTop (mkF m 174 #[.val (.int ln), .val (.int mk), .val (.long d), .second, .val (.int (3 : Int32)), .val (.ref b3), .val (.ref b269), .val (.int (0 : Int32)), .unset, .unset] [(.ref b269)])) _
      refine st321.trans ?_
      refine XS.astore X321.here hx rfl (hb hby at_177) rfl rfl (l' := #[.val (.int ln), .val (.int mk), .val (.long d), .second, .val (.int (3 : Int32)), .val (.ref b3), .val (.ref b269), .val (.int (0 : Int32)), .val (.ref wZ), .unset]) rfl ?_
      refine XS.iload X321.here hx rfl (hb hby at_179) rfl ?_
      refine XS.ifYes X321.here hx rfl (pc0 := 181) (pc' := 190) rfl (hb hby at_181) rfl ((if0 _ _).trans (teq ((by decide) : (0 : Int32) = (0 : Int32))).1) (by decide) (by decide) ?_
      show Steps p.tables e below (T321.setTop (mkF m 190 #[.val (.int ln), .val (.int mk), .val (.long d), .second, .val (.int (3 : Int32)), .val (.ref b3), .val (.ref b269), .val (.int (0 : Int32)), .val (.ref wZ), .unset] [])) _
      refine st329 _ ?_
      refine XS.astore X329.here hx rfl (hb hby at_193) rfl rfl (l' := #[.val (.int ln), .val (.int mk), .val (.long d), .second, .val (.int (3 : Int32)), .val (.ref b3), .val (.ref b269), .val (.int (0 : Int32)), .val (.ref wZ), .val (.ref wZ)]) rfl ?_
      refine XS.aload X329.here hx rfl (hb hby at_195) rfl rfl ?_
      refine XS.aload X329.here hx rfl (hb hby at_197) rfl rfl ?_
      show Steps p.tables e below (T329.setTop (mkF m 199 #[.val (.int ln), .val (.int mk), .val (.long d), .second, .val (.int (3 : Int32)), .val (.ref b3), .val (.ref b269), .val (.int (0 : Int32)), .val (.ref wZ), .val (.ref wZ)] [(.ref wZ), (.ref wZ)])) _
      refine Jvm.RoadKit.acmp (g := (mkF m 199 #[.val (.int ln), .val (.int mk), .val (.long d), .second, .val (.int (3 : Int32)), .val (.ref b3), .val (.ref b269), .val (.int (0 : Int32)), .val (.ref wZ), .val (.ref wZ)] [(.ref wZ), (.ref wZ)])) X329 hx rfl rfl rfl (pc0 := 199) (pc' := 202) (same := true) rfl (hb hby at_199) rfl (decide_eq_true rfl) (by decide) (by decide) ?_
      refine XS.iconst X329.here hx rfl (hb hby at_202) ?_
      refine XS.goto X329.here hx rfl (pc0 := 203) (pc' := 207) rfl (hb hby at_203) (by decide) (by decide) ?_
      exact kt
    obtain ⟨fs, hr, hrun, hended, hRW⟩ := X329.leaveW hS321 (by rw [e329]; exact hk327) (v := some (.int (1 : Int32))) (fun h => by rw [Bd.returns] at h; cases h)
    refine ⟨_, _, pre0 _ (S330 _ ?_), hrun, hended, _, _, rfl, ?_, ?_, hRW.1, hRW.2.1, hRW.2.2.1, hRW.2.2.2.mono (by decide) (by decide)⟩
    · exact retN X329 hx (t := .boolean) Bd.returns (by simp) (hb hby at_207) hr
    · show Q_rm_law Z ln mk d zc wR wZ h0 n0 _ T329.heap _
      rw [e329]
      exact ⟨rfl, N324⟩
    · show CHr Z own_EL s.vm s.heap T329.vm T329.heap
      rw [hh, e329]
      exact CR326.trans (CHv.at X329 hZ321 own_ew CR326.1)
  · obtain ⟨T331, h331, X331, e331, E331, A331, D331, -, st331⟩ := newO X84 hx hZ0 ho0 (own_w hw 6 rfl) (own_w hw 7 rfl) (own_w hw 8 rfl) e84 (g := (mkF m 98 #[.val (.int ln), .val (.int mk), .val (.long d), .second, .val (.int (4 : Int32)), .val (.ref b3), .unset, .unset, .unset, .unset] [])) rfl (hb hby at_98) (by decide) (by decide)
    obtain ⟨b331, g331⟩ : ∃ z, z = h84.size := ⟨_, rfl⟩
    have ge_b331 : n0 ≤ b331 := by rw [g331, ← O88.1]; exact O88.2.1
    have f332 := (Exa.wr W84 f85)
    have ne333 : b3 ≠ b331 := Nat.ne_of_lt (Nat.lt_of_lt_of_le (Exa.lt f332) (Nat.le_of_eq g331.symm))
    have sf334 : Safe Z own_EL s.vm h84 b331 := Safe.new (Nat.le_of_eq g331.symm)
    rw [← g331] at A331 D331 st331
    have CR335 := CR86.trans (CHr.ext E331 CR86.1)
    have hk336 := Nat.le_trans hk87 E331.1
    have sf337 := Safe.ext E331 CR86.1 sf334
    have O338 := O88.ext E331
    have F339 : Fld Z h331 b331 "java/lang/String" "value" "[B" .null := D331 (Or.inr (own_w hw 24 rfl)) (ty := (.array .byte)) (by decide)
    have F340 : Fld Z h331 b331 "java/lang/String" "coder" "B" (.int (0 : Int32)) := D331 (Or.inr (own_w hw 25 rfl)) (ty := .byte) (by decide)
    have f342 := (Arv.ext F84 E331)
    obtain ⟨_, _, ⟨T341, L341, k341, n341⟩, -, X341, ⟨Lc341, hQ341, l341, y341, z341⟩, st341⟩ := Jvm.LawKit.callS X331 hx (y := (⟨"com/example/favonius/favonius/phrank/VariantDefaultForPinLaw", "cut", "(I[C)[C"⟩ : MethodName)) ho0 (mvT hZ0 (own_w hw 9 rfl)) (mvT hZ0 (own_w hw 10 rfl)) (mvT hZ0 (own_w hw 3 rfl)) (mvT hZ0 (own_w hw 11 rfl)) (by decide) (backOf (W := 2) (rm_cut4 l Z a0 hw [] b3 k3 x8 x19 x31 x43 x55 x67 x79 h331 n0 O338 f342 c9 c20 c32 c44 c56 c68 c80) hZ0 (own_w hw 11 rfl) (own_w hw 3 rfl) (by decide) (by decide)) (g := (mkF m 106 #[.val (.int ln), .val (.int mk), .val (.long d), .second, .val (.int (4 : Int32)), .val (.ref b3), .unset, .unset, .unset, .unset] [(.ref b3), (.int (4 : Int32)), (.ref b331), (.ref b331)])) rfl (by rw [hml]; rfl) (argsL := [(.int (4 : Int32)), (.ref b3)]) (rest := [(.ref b331), (.ref b331)]) (lenOf pd_3 rfl) rfl (by show 2 * 0 + _ ≤ _; exact Nat.le_of_eq rfl) (hb hby at_106) (fun _ _ => ⟨rfl, e331, (by decide : 2 + 1 ≤ _), (by decide : 11 + 4 ≤ _)⟩)
    dsimp only [Pt.U, Pt.locs, Pt.cells, Pt.slots] at X341 l341 y341 z341 st341 hQ341
    subst l341 y341 z341
    obtain ⟨x343, x344, rfl, N345, k346, f347, f348⟩ := hQ341
    have N349 := Fr.app N89 N345
    have ge350 : n0 ≤ x343 := by rw [← O338.1]; exact Nat.le_trans O338.2.1 f347
    have f351 := (Exa.ext E331 f332)
    have ne352 : b3 ≠ x343 := Nat.ne_of_lt (Nat.lt_of_lt_of_le (Exa.lt f351) f347)
    have ne353 : b331 ≠ x343 := Nat.ne_of_lt (Nat.lt_of_lt_of_le (Exa.lt A331) f347)
    have CR354 := CR335.trans (CHr.keep k346 sf0 CR335.1)
    have hk355 := Nat.le_trans hk336 k346.1
    have sf356 := Safe.keep k346 sf0 CR335.1 sf337
    have O357 := O338.keep k346 all0
    have f359 := (Exa.keep A331 k346)
    have f360 := (Fld.keep F339 k346 nin0)
    have f361 := (Fld.keep F340 k346 nin0)
    have la362 : ∀ c ∈ ([x8, x19, x31, x43] : List Int32), ¬ c < 0 ∧ ¬ (255 : Int32) < c := by
      intro c hc
      simp only [List.mem_cons, List.not_mem_nil, or_false] at hc
      rcases hc with rfl | rfl | rfl | rfl
      · exact c9
      · exact c20
      · exact c32
      · exact c44
    obtain ⟨_, _, ⟨T358, L358, k358, n358⟩, -, X358, ⟨Lc358, hQ358, l358, y358, z358⟩, st358⟩ := X341.specialBack hx (y := (⟨"java/lang/String", "<init>", "([C)V"⟩ : MethodName)) rfl ho0 (mvT hZ0 (own_w hw 12 rfl)) (mvT hZ0 (own_w hw 13 rfl)) (mvT hZ0 (own_w hw 14 rfl)) (by decide) (StrChars.Road.backV (W := 1) hZ0 hws (kI := 4) (own_w hw 7 rfl) (cs := [x8, x19, x31, x43]) (bs := [x8.toInt8.toInt32, x19.toInt8.toInt32, x31.toInt8.toInt32, x43.toInt8.toInt32]) (n := 4) ge_b331 (by rw [← O357.1]; exact O357.2.1) f359 f360 f361 f348 (S_C.ext O357.2) hzc rfl rfl (by decide) (by decide) la362 rfl (by decide) (by decide)) (g := (mkF m 109 #[.val (.int ln), .val (.int mk), .val (.long d), .second, .val (.int (4 : Int32)), .val (.ref b3), .unset, .unset, .unset, .unset] [(.ref x343), (.ref b331), (.ref b331)])) rfl (by rw [hml]; rfl) (Steps.refl _) (a := b331) (argsL := [(.ref x343)]) (rest := [(.ref b331)]) (lenOf pd_4 rfl) rfl (by show 2 * 0 + _ ≤ _; exact Nat.le_of_eq rfl) (hb hby at_109) (fun _ _ => ⟨rfl, rfl, (by decide : 3 + 1 ≤ _), (by decide : 15 + 4 ≤ _)⟩)
    dsimp only [Pt.U, Pt.locs, Pt.cells, Pt.slots] at X358 l358 y358 z358 st358 hQ358
    subst l358 y358 z358
    obtain ⟨rfl, f365, f366, f367, f368, x363, x364, f369, f370, qf370, f371, f372⟩ := hQ358
    have N373 := Fr.app N349 f365
    have ge374 : n0 ≤ x363 := by rw [← O357.1]; exact Nat.le_trans O357.2.1 f370
    have f375 := (Exa.keep f351 k346)
    have ne376 : b3 ≠ x363 := Nat.ne_of_lt (Nat.lt_of_lt_of_le (Exa.lt f375) f370)
    have ne377 : b331 ≠ x363 := Nat.ne_of_lt (Nat.lt_of_lt_of_le (Exa.lt f359) f370)
    have ne378 : x343 ≠ x363 := Nat.ne_of_lt (Nat.lt_of_lt_of_le (Arv.lt f348) f370)
    have CR379 := CR354.trans (CHr.keep f366 (sfS sf356 sf0) CR354.1)
    have hk380 := Nat.le_trans hk355 f366.1
    have sf381 := Safe.keep f366 (sfS sf356 sf0) CR354.1 sf356
    have O382 := O357.keep f366 (allS ge_b331 all0)
    obtain ⟨_, _, ⟨T383, L383, k383, n383⟩, -, Xq383, hSq383, hgq383, ⟨Lc383, hQ383, l383, y383, z383, C383⟩, st383⟩ := callSS X358 hx (y := (⟨"com/example/favonius/favonius/phrank/Variant", "defaultFor", "(Ljava/lang/String;)Lcom/example/favonius/favonius/phrank/Variant;"⟩ : MethodName)) ho0 (mvT hZ0 (own_w hw 30 rfl)) (mvT hZ0 (own_w hw 31 rfl)) (mvT hZ0 (own_w hw 32 rfl)) (mvT hZ0 (own_w hw 33 rfl)) (by decide) (own_backS (W := 0) (rm := ({ frames := 2, cells := 2, slots := 24, locals := 28 } : Room)) (xs := []) (rm_df4 l Z a0 hw [] b331 x363 x364 x8 x19 x31 x43 zc wR wZ T358.heap n0 O382 f367 f371 f368 f372 c9 c20 c32 c44 S_C hzc S_R S_Z) hZ0 (own_w hw 33 rfl) (own_w hw 32 rfl) (by decide) (by decide) own_ew CR379.1 all0) (g := (mkF m 174 #[.val (.int ln), .val (.int mk), .val (.long d), .second, .val (.int (4 : Int32)), .val (.ref b3), .val (.ref b331), .val (.int (0 : Int32)), .unset, .unset] [(.ref b331)])) rfl (by rw [hml]; rfl) (argsL := [(.ref b331)]) (rest := []) (lenOf pd_5 rfl) rfl (by show 2 * 0 + _ ≤ _; exact Nat.le_of_eq rfl) (hb hby at_174) (fun _ _ => ⟨rfl, rfl, (by decide : 4 + 2 ≤ _), (by decide : 19 + 24 ≤ _)⟩)
    dsimp only [Pt.U, Pt.locs, Pt.cells, Pt.slots] at Xq383 hSq383 hgq383 l383 y383 z383 st383 hQ383 C383
    obtain ⟨X383, hS383, hZ383, ho383⟩ := rebS hS0 (by exact hk380) Xq383 hSq383 hgq383 hZ0 ho0
    subst l383 y383 z383
    obtain ⟨rfl, N384, k385⟩ := hQ383
    have N386 := Fr.app N373 N384
    have sf387 := CHr.safe C383 (Exa.lt f367) sf381
    have CR388 := CR379.trans C383
    have hk389 : T383.heap.size ≤ T383.heap.size := Nat.le_refl _
    have O390 := O382.keep k385 all0
    obtain ⟨T391, X391, e391, st391⟩ := getS2 X383 hx hZ383 ho383 (host := "") (Or.inl (own_w hw 48 rfl)) Via.refl rfl (S_Z.ext O390.2) (g := (mkF m 190 #[.val (.int ln), .val (.int mk), .val (.long d), .second, .val (.int (4 : Int32)), .val (.ref b3), .val (.ref b331), .val (.int (0 : Int32)), .val (.ref wZ), .unset] [])) rfl (hb hby at_190)
    have S392 : ∀ t, Steps p.tables e below (T391.setTop (mkF m 207 #[.val (.int ln), .val (.int mk), .val (.long d), .second, .val (.int (4 : Int32)), .val (.ref b3), .val (.ref b331), .val (.int (0 : Int32)), .val (.ref wZ), .val (.ref wZ)] [(.int (1 : Int32))])) t → Steps p.tables e below (s₁.setTop (mkF m 0 #[.val (.int ln), .val (.int mk), .val (.long d), .second, .unset, .unset, .unset, .unset, .unset, .unset] [])) t := by
      intro t kt
      refine S90 t ?_
      refine st331 _ ?_
      refine XS.dup X331.here hx rfl (hb hby at_101) rfl rfl ?_
      refine XS.iload X331.here hx rfl (hb hby at_102) rfl ?_
      refine XS.aload X331.here hx rfl (hb hby at_104) rfl rfl ?_
      show Steps p.tables e below (T331.setTop (mkF m 106 #[.val (.int ln), .val (.int mk), .val (.long d), .second, .val (.int (4 : Int32)), .val (.ref b3), .unset, .unset, .unset, .unset] [(.ref b3), (.int (4 : Int32)), (.ref b331), (.ref b331)])) _
      refine st341 _ ?_
      show Steps p.tables e below (T341.setTop (mkF m 109 #[.val (.int ln), .val (.int mk), .val (.long d), .second, .val (.int (4 : Int32)), .val (.ref b3), .unset, .unset, .unset, .unset] [(.ref x343), (.ref b331), (.ref b331)])) _
      refine st358.trans ?_
      refine XS.astore X358.here hx rfl (hb hby at_112) rfl rfl (l' := #[.val (.int ln), .val (.int mk), .val (.long d), .second, .val (.int (4 : Int32)), .val (.ref b3), .val (.ref b331), .unset, .unset, .unset]) rfl ?_
      refine XS.iload X358.here hx rfl (hb hby at_114) rfl ?_
      refine XS.iconst X358.here hx rfl (hb hby at_116) ?_
      refine XS.icmpYes X358.here hx rfl (pc0 := 117) (pc' := 169) rfl (hb hby at_117) rfl (feq ((by decide) : ¬ ((4 : Int32) = (5 : Int32)))).2 (by decide) (by decide) ?_
      refine XS.iconst X358.here hx rfl (hb hby at_169) ?_
      show Steps p.tables e below (T358.setTop (mkF m 170 #[.val (.int ln), .val (.int mk), .val (.long d), .second, .val (.int (4 : Int32)), .val (.ref b3), .val (.ref b331), .unset, .unset, .unset] [(.int (0 : Int32))])) _
      refine XS.istore X358.here hx rfl (hb hby at_170) rfl (l' := #[.val (.int ln), .val (.int mk), .val (.long d), .second, .val (.int (4 : Int32)), .val (.ref b3), .val (.ref b331), .val (.int (0 : Int32)), .unset, .unset]) rfl ?_
      refine XS.aload X358.here hx rfl (hb hby at_172) rfl rfl ?_
      show Steps p.tables e below (T358.setTop (mkF m 174 #[.val (.int ln), .val (.int mk), .val (.long d), .second, .val (.int (4 : Int32)), .val (.ref b3), .val (.ref b331), .val (.int (0 : Int32)), .unset, .unset] [(.ref b331)])) _
      refine st383.trans ?_
      refine XS.astore X383.here hx rfl (hb hby at_177) rfl rfl (l' := #[.val (.int ln), .val (.int mk), .val (.long d), .second, .val (.int (4 : Int32)), .val (.ref b3), .val (.ref b331), .val (.int (0 : Int32)), .val (.ref wZ), .unset]) rfl ?_
      refine XS.iload X383.here hx rfl (hb hby at_179) rfl ?_
      refine XS.ifYes X383.here hx rfl (pc0 := 181) (pc' := 190) rfl (hb hby at_181) rfl ((if0 _ _).trans (teq ((by decide) : (0 : Int32) = (0 : Int32))).1) (by decide) (by decide) ?_
      show Steps p.tables e below (T383.setTop (mkF m 190 #[.val (.int ln), .val (.int mk), .val (.long d), .second, .val (.int (4 : Int32)), .val (.ref b3), .val (.ref b331), .val (.int (0 : Int32)), .val (.ref wZ), .unset] [])) _
      refine st391 _ ?_
      refine XS.astore X391.here hx rfl (hb hby at_193) rfl rfl (l' := #[.val (.int ln), .val (.int mk), .val (.long d), .second, .val (.int (4 : Int32)), .val (.ref b3), .val (.ref b331), .val (.int (0 : Int32)), .val (.ref wZ), .val (.ref wZ)]) rfl ?_
      refine XS.aload X391.here hx rfl (hb hby at_195) rfl rfl ?_
      refine XS.aload X391.here hx rfl (hb hby at_197) rfl rfl ?_
      show Steps p.tables e below (T391.setTop (mkF m 199 #[.val (.int ln), .val (.int mk), .val (.long d), .second, .val (.int (4 : Int32)), .val (.ref b3), .val (.ref b331), .val (.int (0 : Int32)), .val (.ref wZ), .val (.ref wZ)] [(.ref wZ), (.ref wZ)])) _
      refine Jvm.RoadKit.acmp (g := (mkF m 199 #[.val (.int ln), .val (.int mk), .val (.long d), .second, .val (.int (4 : Int32)), .val (.ref b3), .val (.ref b331), .val (.int (0 : Int32)), .val (.ref wZ), .val (.ref wZ)] [(.ref wZ), (.ref wZ)])) X391 hx rfl rfl rfl (pc0 := 199) (pc' := 202) (same := true) rfl (hb hby at_199) rfl (decide_eq_true rfl) (by decide) (by decide) ?_
      refine XS.iconst X391.here hx rfl (hb hby at_202) ?_
      refine XS.goto X391.here hx rfl (pc0 := 203) (pc' := 207) rfl (hb hby at_203) (by decide) (by decide) ?_
      exact kt
    obtain ⟨fs, hr, hrun, hended, hRW⟩ := X391.leaveW hS383 (by rw [e391]; exact hk389) (v := some (.int (1 : Int32))) (fun h => by rw [Bd.returns] at h; cases h)
    refine ⟨_, _, pre0 _ (S392 _ ?_), hrun, hended, _, _, rfl, ?_, ?_, hRW.1, hRW.2.1, hRW.2.2.1, hRW.2.2.2.mono (by decide) (by decide)⟩
    · exact retN X391 hx (t := .boolean) Bd.returns (by simp) (hb hby at_207) hr
    · show Q_rm_law Z ln mk d zc wR wZ h0 n0 _ T391.heap _
      rw [e391]
      exact ⟨rfl, N386⟩
    · show CHr Z own_EL s.vm s.heap T391.vm T391.heap
      rw [hh, e391]
      exact CR388.trans (CHv.at X391 hZ383 own_ew CR388.1)
  · obtain ⟨T393, h393, X393, e393, E393, A393, D393, -, st393⟩ := newO X84 hx hZ0 ho0 (own_w hw 6 rfl) (own_w hw 7 rfl) (own_w hw 8 rfl) e84 (g := (mkF m 98 #[.val (.int ln), .val (.int mk), .val (.long d), .second, .val (.int (5 : Int32)), .val (.ref b3), .unset, .unset, .unset, .unset] [])) rfl (hb hby at_98) (by decide) (by decide)
    obtain ⟨b393, g393⟩ : ∃ z, z = h84.size := ⟨_, rfl⟩
    have ge_b393 : n0 ≤ b393 := by rw [g393, ← O88.1]; exact O88.2.1
    have f394 := (Exa.wr W84 f85)
    have ne395 : b3 ≠ b393 := Nat.ne_of_lt (Nat.lt_of_lt_of_le (Exa.lt f394) (Nat.le_of_eq g393.symm))
    have sf396 : Safe Z own_EL s.vm h84 b393 := Safe.new (Nat.le_of_eq g393.symm)
    rw [← g393] at A393 D393 st393
    have CR397 := CR86.trans (CHr.ext E393 CR86.1)
    have hk398 := Nat.le_trans hk87 E393.1
    have sf399 := Safe.ext E393 CR86.1 sf396
    have O400 := O88.ext E393
    have F401 : Fld Z h393 b393 "java/lang/String" "value" "[B" .null := D393 (Or.inr (own_w hw 24 rfl)) (ty := (.array .byte)) (by decide)
    have F402 : Fld Z h393 b393 "java/lang/String" "coder" "B" (.int (0 : Int32)) := D393 (Or.inr (own_w hw 25 rfl)) (ty := .byte) (by decide)
    have f404 := (Arv.ext F84 E393)
    obtain ⟨_, _, ⟨T403, L403, k403, n403⟩, -, X403, ⟨Lc403, hQ403, l403, y403, z403⟩, st403⟩ := Jvm.LawKit.callS X393 hx (y := (⟨"com/example/favonius/favonius/phrank/VariantDefaultForPinLaw", "cut", "(I[C)[C"⟩ : MethodName)) ho0 (mvT hZ0 (own_w hw 9 rfl)) (mvT hZ0 (own_w hw 10 rfl)) (mvT hZ0 (own_w hw 3 rfl)) (mvT hZ0 (own_w hw 11 rfl)) (by decide) (backOf (W := 2) (rm_cut5 l Z a0 hw [] b3 k3 x8 x19 x31 x43 x55 x67 x79 h393 n0 O400 f404 c9 c20 c32 c44 c56 c68 c80) hZ0 (own_w hw 11 rfl) (own_w hw 3 rfl) (by decide) (by decide)) (g := (mkF m 106 #[.val (.int ln), .val (.int mk), .val (.long d), .second, .val (.int (5 : Int32)), .val (.ref b3), .unset, .unset, .unset, .unset] [(.ref b3), (.int (5 : Int32)), (.ref b393), (.ref b393)])) rfl (by rw [hml]; rfl) (argsL := [(.int (5 : Int32)), (.ref b3)]) (rest := [(.ref b393), (.ref b393)]) (lenOf pd_3 rfl) rfl (by show 2 * 0 + _ ≤ _; exact Nat.le_of_eq rfl) (hb hby at_106) (fun _ _ => ⟨rfl, e393, (by decide : 2 + 1 ≤ _), (by decide : 11 + 5 ≤ _)⟩)
    dsimp only [Pt.U, Pt.locs, Pt.cells, Pt.slots] at X403 l403 y403 z403 st403 hQ403
    subst l403 y403 z403
    obtain ⟨x405, x406, rfl, N407, k408, f409, f410⟩ := hQ403
    have N411 := Fr.app N89 N407
    have ge412 : n0 ≤ x405 := by rw [← O400.1]; exact Nat.le_trans O400.2.1 f409
    have f413 := (Exa.ext E393 f394)
    have ne414 : b3 ≠ x405 := Nat.ne_of_lt (Nat.lt_of_lt_of_le (Exa.lt f413) f409)
    have ne415 : b393 ≠ x405 := Nat.ne_of_lt (Nat.lt_of_lt_of_le (Exa.lt A393) f409)
    have CR416 := CR397.trans (CHr.keep k408 sf0 CR397.1)
    have hk417 := Nat.le_trans hk398 k408.1
    have sf418 := Safe.keep k408 sf0 CR397.1 sf399
    have O419 := O400.keep k408 all0
    have f421 := (Exa.keep A393 k408)
    have f422 := (Fld.keep F401 k408 nin0)
    have f423 := (Fld.keep F402 k408 nin0)
    have la424 : ∀ c ∈ ([x8, x19, x31, x43, x55] : List Int32), ¬ c < 0 ∧ ¬ (255 : Int32) < c := by
      intro c hc
      simp only [List.mem_cons, List.not_mem_nil, or_false] at hc
      rcases hc with rfl | rfl | rfl | rfl | rfl
      · exact c9
      · exact c20
      · exact c32
      · exact c44
      · exact c56
    obtain ⟨_, _, ⟨T420, L420, k420, n420⟩, -, X420, ⟨Lc420, hQ420, l420, y420, z420⟩, st420⟩ := X403.specialBack hx (y := (⟨"java/lang/String", "<init>", "([C)V"⟩ : MethodName)) rfl ho0 (mvT hZ0 (own_w hw 12 rfl)) (mvT hZ0 (own_w hw 13 rfl)) (mvT hZ0 (own_w hw 14 rfl)) (by decide) (StrChars.Road.backV (W := 1) hZ0 hws (kI := 4) (own_w hw 7 rfl) (cs := [x8, x19, x31, x43, x55]) (bs := [x8.toInt8.toInt32, x19.toInt8.toInt32, x31.toInt8.toInt32, x43.toInt8.toInt32, x55.toInt8.toInt32]) (n := 5) ge_b393 (by rw [← O419.1]; exact O419.2.1) f421 f422 f423 f410 (S_C.ext O419.2) hzc rfl rfl (by decide) (by decide) la424 rfl (by decide) (by decide)) (g := (mkF m 109 #[.val (.int ln), .val (.int mk), .val (.long d), .second, .val (.int (5 : Int32)), .val (.ref b3), .unset, .unset, .unset, .unset] [(.ref x405), (.ref b393), (.ref b393)])) rfl (by rw [hml]; rfl) (Steps.refl _) (a := b393) (argsL := [(.ref x405)]) (rest := [(.ref b393)]) (lenOf pd_4 rfl) rfl (by show 2 * 0 + _ ≤ _; exact Nat.le_of_eq rfl) (hb hby at_109) (fun _ _ => ⟨rfl, rfl, (by decide : 3 + 1 ≤ _), (by decide : 16 + 5 ≤ _)⟩)
    dsimp only [Pt.U, Pt.locs, Pt.cells, Pt.slots] at X420 l420 y420 z420 st420 hQ420
    subst l420 y420 z420
    obtain ⟨rfl, f427, f428, f429, f430, x425, x426, f431, f432, qf432, f433, f434⟩ := hQ420
    have N435 := Fr.app N411 f427
    have ge436 : n0 ≤ x425 := by rw [← O419.1]; exact Nat.le_trans O419.2.1 f432
    have f437 := (Exa.keep f413 k408)
    have ne438 : b3 ≠ x425 := Nat.ne_of_lt (Nat.lt_of_lt_of_le (Exa.lt f437) f432)
    have ne439 : b393 ≠ x425 := Nat.ne_of_lt (Nat.lt_of_lt_of_le (Exa.lt f421) f432)
    have ne440 : x405 ≠ x425 := Nat.ne_of_lt (Nat.lt_of_lt_of_le (Arv.lt f410) f432)
    have CR441 := CR416.trans (CHr.keep f428 (sfS sf418 sf0) CR416.1)
    have hk442 := Nat.le_trans hk417 f428.1
    have sf443 := Safe.keep f428 (sfS sf418 sf0) CR416.1 sf418
    have O444 := O419.keep f428 (allS ge_b393 all0)
    have S445 : ∀ t, Steps p.tables e below (T420.setTop (mkF m 114 #[.val (.int ln), .val (.int mk), .val (.long d), .second, .val (.int (5 : Int32)), .val (.ref b3), .val (.ref b393), .unset, .unset, .unset] [])) t → Steps p.tables e below (s₁.setTop (mkF m 0 #[.val (.int ln), .val (.int mk), .val (.long d), .second, .unset, .unset, .unset, .unset, .unset, .unset] [])) t := by
      intro t kt
      refine S90 t ?_
      refine st393 _ ?_
      refine XS.dup X393.here hx rfl (hb hby at_101) rfl rfl ?_
      refine XS.iload X393.here hx rfl (hb hby at_102) rfl ?_
      refine XS.aload X393.here hx rfl (hb hby at_104) rfl rfl ?_
      show Steps p.tables e below (T393.setTop (mkF m 106 #[.val (.int ln), .val (.int mk), .val (.long d), .second, .val (.int (5 : Int32)), .val (.ref b3), .unset, .unset, .unset, .unset] [(.ref b3), (.int (5 : Int32)), (.ref b393), (.ref b393)])) _
      refine st403 _ ?_
      show Steps p.tables e below (T403.setTop (mkF m 109 #[.val (.int ln), .val (.int mk), .val (.long d), .second, .val (.int (5 : Int32)), .val (.ref b3), .unset, .unset, .unset, .unset] [(.ref x405), (.ref b393), (.ref b393)])) _
      refine st420.trans ?_
      refine XS.astore X420.here hx rfl (hb hby at_112) rfl rfl (l' := #[.val (.int ln), .val (.int mk), .val (.long d), .second, .val (.int (5 : Int32)), .val (.ref b3), .val (.ref b393), .unset, .unset, .unset]) rfl ?_
      exact kt
    have S446 : ∀ t, Steps p.tables e below (T420.setTop (mkF m 170 #[.val (.int ln), .val (.int mk), .val (.long d), .second, .val (.int (5 : Int32)), .val (.ref b3), .val (.ref b393), .unset, .unset, .unset] [(.int (if ([x8, x19, x31, x43, x55] : List Int32) = [(116 : Int32), (105 : Int32), (116 : Int32), (108 : Int32), (101 : Int32)] then (1 : Int32) else (0 : Int32)))])) t → Steps p.tables e below (s₁.setTop (mkF m 0 #[.val (.int ln), .val (.int mk), .val (.long d), .second, .unset, .unset, .unset, .unset, .unset, .unset] [])) t := by
      intro t kt
      have f447 := (Arv.keep (Arv.keep f404 k408 nin0) f428 (ninS ne395 nin0))
      obtain ⟨cl448, Ar448, q448, Sz448, Nn448, Hh448, Gg448⟩ := id f447
      have in448 : ¬ ((0 : Int32) < 0 ∨ cl448.slots.size ≤ ((0 : Int32)).toNatClampNeg) := by exact inb_of Sz448 ⟨by decide, by decide⟩
      have at448 : cl448.slots[((0 : Int32)).toNatClampNeg]? = some (.int x8) := by
        refine Has.at Hh448 in448 ?_
        rfl
      have S449 : ∀ t, Steps p.tables e below (T420.setTop (mkF m 126 #[.val (.int ln), .val (.int mk), .val (.long d), .second, .val (.int (5 : Int32)), .val (.ref b3), .val (.ref b393), .unset, .unset, .unset] [(.int (116 : Int32)), (.int x8)])) t → Steps p.tables e below (s₁.setTop (mkF m 0 #[.val (.int ln), .val (.int mk), .val (.long d), .second, .unset, .unset, .unset, .unset, .unset, .unset] [])) t := by
        intro t kt
        refine S445 t ?_
        refine XS.iload X420.here hx rfl (hb hby at_114) rfl ?_
        refine XS.iconst X420.here hx rfl (hb hby at_116) ?_
        refine XS.icmpNo X420.here hx rfl (hb hby at_117) rfl (teq ((by decide) : (5 : Int32) = (5 : Int32))).2 ?_
        refine XS.aload X420.here hx rfl (hb hby at_120) rfl rfl ?_
        refine XS.iconst X420.here hx rfl (hb hby at_122) ?_
        show Steps p.tables e below (T420.setTop (mkF m 123 #[.val (.int ln), .val (.int mk), .val (.long d), .second, .val (.int (5 : Int32)), .val (.ref b3), .val (.ref b393), .unset, .unset, .unset] [(.int (0 : Int32)), (.ref b3)])) _
        refine X420.caload hx (j := (0 : Int32)) (v := (.int x8)) (by exact Ar448.1) (State.isArrayOf_alike hZ0.alike Ar448.2.1) Ar448.2.2 in448 at448 (g := (mkF m 123 #[.val (.int ln), .val (.int mk), .val (.long d), .second, .val (.int (5 : Int32)), .val (.ref b3), .val (.ref b393), .unset, .unset, .unset] [(.int (0 : Int32)), (.ref b3)])) rfl rfl (hb hby at_123) _ ?_
        refine XS.bipush X420.here hx rfl (hb hby at_124) ?_
        exact kt
      rcases Decidable.em (x8 = (116 : Int32)) with c450 | c450
      · obtain ⟨cl451, Ar451, q451, Sz451, Nn451, Hh451, Gg451⟩ := id f447
        have in451 : ¬ ((1 : Int32) < 0 ∨ cl451.slots.size ≤ ((1 : Int32)).toNatClampNeg) := by exact inb_of Sz451 ⟨by decide, by decide⟩
        have at451 : cl451.slots[((1 : Int32)).toNatClampNeg]? = some (.int x19) := by
          refine Has.at Hh451 in451 ?_
          rfl
        have S452 : ∀ t, Steps p.tables e below (T420.setTop (mkF m 135 #[.val (.int ln), .val (.int mk), .val (.long d), .second, .val (.int (5 : Int32)), .val (.ref b3), .val (.ref b393), .unset, .unset, .unset] [(.int (105 : Int32)), (.int x19)])) t → Steps p.tables e below (s₁.setTop (mkF m 0 #[.val (.int ln), .val (.int mk), .val (.long d), .second, .unset, .unset, .unset, .unset, .unset, .unset] [])) t := by
          intro t kt
          refine S449 t ?_
          refine XS.icmpNo X420.here hx rfl (hb hby at_126) rfl (teq (c450 : x8 = (116 : Int32))).2 ?_
          refine XS.aload X420.here hx rfl (hb hby at_129) rfl rfl ?_
          refine XS.iconst X420.here hx rfl (hb hby at_131) ?_
          show Steps p.tables e below (T420.setTop (mkF m 132 #[.val (.int ln), .val (.int mk), .val (.long d), .second, .val (.int (5 : Int32)), .val (.ref b3), .val (.ref b393), .unset, .unset, .unset] [(.int (1 : Int32)), (.ref b3)])) _
          refine X420.caload hx (j := (1 : Int32)) (v := (.int x19)) (by exact Ar451.1) (State.isArrayOf_alike hZ0.alike Ar451.2.1) Ar451.2.2 in451 at451 (g := (mkF m 132 #[.val (.int ln), .val (.int mk), .val (.long d), .second, .val (.int (5 : Int32)), .val (.ref b3), .val (.ref b393), .unset, .unset, .unset] [(.int (1 : Int32)), (.ref b3)])) rfl rfl (hb hby at_132) _ ?_
          refine XS.bipush X420.here hx rfl (hb hby at_133) ?_
          exact kt
        rcases Decidable.em (x19 = (105 : Int32)) with c453 | c453
        · obtain ⟨cl454, Ar454, q454, Sz454, Nn454, Hh454, Gg454⟩ := id f447
          have in454 : ¬ ((2 : Int32) < 0 ∨ cl454.slots.size ≤ ((2 : Int32)).toNatClampNeg) := by exact inb_of Sz454 ⟨by decide, by decide⟩
          have at454 : cl454.slots[((2 : Int32)).toNatClampNeg]? = some (.int x31) := by
            refine Has.at Hh454 in454 ?_
            rfl
          have S455 : ∀ t, Steps p.tables e below (T420.setTop (mkF m 144 #[.val (.int ln), .val (.int mk), .val (.long d), .second, .val (.int (5 : Int32)), .val (.ref b3), .val (.ref b393), .unset, .unset, .unset] [(.int (116 : Int32)), (.int x31)])) t → Steps p.tables e below (s₁.setTop (mkF m 0 #[.val (.int ln), .val (.int mk), .val (.long d), .second, .unset, .unset, .unset, .unset, .unset, .unset] [])) t := by
            intro t kt
            refine S452 t ?_
            refine XS.icmpNo X420.here hx rfl (hb hby at_135) rfl (teq (c453 : x19 = (105 : Int32))).2 ?_
            refine XS.aload X420.here hx rfl (hb hby at_138) rfl rfl ?_
            refine XS.iconst X420.here hx rfl (hb hby at_140) ?_
            show Steps p.tables e below (T420.setTop (mkF m 141 #[.val (.int ln), .val (.int mk), .val (.long d), .second, .val (.int (5 : Int32)), .val (.ref b3), .val (.ref b393), .unset, .unset, .unset] [(.int (2 : Int32)), (.ref b3)])) _
            refine X420.caload hx (j := (2 : Int32)) (v := (.int x31)) (by exact Ar454.1) (State.isArrayOf_alike hZ0.alike Ar454.2.1) Ar454.2.2 in454 at454 (g := (mkF m 141 #[.val (.int ln), .val (.int mk), .val (.long d), .second, .val (.int (5 : Int32)), .val (.ref b3), .val (.ref b393), .unset, .unset, .unset] [(.int (2 : Int32)), (.ref b3)])) rfl rfl (hb hby at_141) _ ?_
            refine XS.bipush X420.here hx rfl (hb hby at_142) ?_
            exact kt
          rcases Decidable.em (x31 = (116 : Int32)) with c456 | c456
          · obtain ⟨cl457, Ar457, q457, Sz457, Nn457, Hh457, Gg457⟩ := id f447
            have in457 : ¬ ((3 : Int32) < 0 ∨ cl457.slots.size ≤ ((3 : Int32)).toNatClampNeg) := by exact inb_of Sz457 ⟨by decide, by decide⟩
            have at457 : cl457.slots[((3 : Int32)).toNatClampNeg]? = some (.int x43) := by
              refine Has.at Hh457 in457 ?_
              rfl
            have S458 : ∀ t, Steps p.tables e below (T420.setTop (mkF m 153 #[.val (.int ln), .val (.int mk), .val (.long d), .second, .val (.int (5 : Int32)), .val (.ref b3), .val (.ref b393), .unset, .unset, .unset] [(.int (108 : Int32)), (.int x43)])) t → Steps p.tables e below (s₁.setTop (mkF m 0 #[.val (.int ln), .val (.int mk), .val (.long d), .second, .unset, .unset, .unset, .unset, .unset, .unset] [])) t := by
              intro t kt
              refine S455 t ?_
              refine XS.icmpNo X420.here hx rfl (hb hby at_144) rfl (teq (c456 : x31 = (116 : Int32))).2 ?_
              refine XS.aload X420.here hx rfl (hb hby at_147) rfl rfl ?_
              refine XS.iconst X420.here hx rfl (hb hby at_149) ?_
              show Steps p.tables e below (T420.setTop (mkF m 150 #[.val (.int ln), .val (.int mk), .val (.long d), .second, .val (.int (5 : Int32)), .val (.ref b3), .val (.ref b393), .unset, .unset, .unset] [(.int (3 : Int32)), (.ref b3)])) _
              refine X420.caload hx (j := (3 : Int32)) (v := (.int x43)) (by exact Ar457.1) (State.isArrayOf_alike hZ0.alike Ar457.2.1) Ar457.2.2 in457 at457 (g := (mkF m 150 #[.val (.int ln), .val (.int mk), .val (.long d), .second, .val (.int (5 : Int32)), .val (.ref b3), .val (.ref b393), .unset, .unset, .unset] [(.int (3 : Int32)), (.ref b3)])) rfl rfl (hb hby at_150) _ ?_
              refine XS.bipush X420.here hx rfl (hb hby at_151) ?_
              exact kt
            rcases Decidable.em (x43 = (108 : Int32)) with c459 | c459
            · obtain ⟨cl460, Ar460, q460, Sz460, Nn460, Hh460, Gg460⟩ := id f447
              have in460 : ¬ ((4 : Int32) < 0 ∨ cl460.slots.size ≤ ((4 : Int32)).toNatClampNeg) := by exact inb_of Sz460 ⟨by decide, by decide⟩
              have at460 : cl460.slots[((4 : Int32)).toNatClampNeg]? = some (.int x55) := by
                refine Has.at Hh460 in460 ?_
                rfl
              have S461 : ∀ t, Steps p.tables e below (T420.setTop (mkF m 162 #[.val (.int ln), .val (.int mk), .val (.long d), .second, .val (.int (5 : Int32)), .val (.ref b3), .val (.ref b393), .unset, .unset, .unset] [(.int (101 : Int32)), (.int x55)])) t → Steps p.tables e below (s₁.setTop (mkF m 0 #[.val (.int ln), .val (.int mk), .val (.long d), .second, .unset, .unset, .unset, .unset, .unset, .unset] [])) t := by
                intro t kt
                refine S458 t ?_
                refine XS.icmpNo X420.here hx rfl (hb hby at_153) rfl (teq (c459 : x43 = (108 : Int32))).2 ?_
                refine XS.aload X420.here hx rfl (hb hby at_156) rfl rfl ?_
                refine XS.iconst X420.here hx rfl (hb hby at_158) ?_
                show Steps p.tables e below (T420.setTop (mkF m 159 #[.val (.int ln), .val (.int mk), .val (.long d), .second, .val (.int (5 : Int32)), .val (.ref b3), .val (.ref b393), .unset, .unset, .unset] [(.int (4 : Int32)), (.ref b3)])) _
                refine X420.caload hx (j := (4 : Int32)) (v := (.int x55)) (by exact Ar460.1) (State.isArrayOf_alike hZ0.alike Ar460.2.1) Ar460.2.2 in460 at460 (g := (mkF m 159 #[.val (.int ln), .val (.int mk), .val (.long d), .second, .val (.int (5 : Int32)), .val (.ref b3), .val (.ref b393), .unset, .unset, .unset] [(.int (4 : Int32)), (.ref b3)])) rfl rfl (hb hby at_159) _ ?_
                refine XS.bipush X420.here hx rfl (hb hby at_160) ?_
                exact kt
              rcases Decidable.em (x55 = (101 : Int32)) with c462 | c462
              · have S463 : ∀ t, Steps p.tables e below (T420.setTop (mkF m 170 #[.val (.int ln), .val (.int mk), .val (.long d), .second, .val (.int (5 : Int32)), .val (.ref b3), .val (.ref b393), .unset, .unset, .unset] [(.int (1 : Int32))])) t → Steps p.tables e below (s₁.setTop (mkF m 0 #[.val (.int ln), .val (.int mk), .val (.long d), .second, .unset, .unset, .unset, .unset, .unset, .unset] [])) t := by
                  intro t kt
                  refine S461 t ?_
                  refine XS.icmpNo X420.here hx rfl (hb hby at_162) rfl (teq (c462 : x55 = (101 : Int32))).2 ?_
                  refine XS.iconst X420.here hx rfl (hb hby at_165) ?_
                  refine XS.goto X420.here hx rfl (pc0 := 166) (pc' := 170) rfl (hb hby at_166) (by decide) (by decide) ?_
                  exact kt
                rw [if_pos (by rw [(c450 : x8 = (116 : Int32)), (c453 : x19 = (105 : Int32)), (c456 : x31 = (116 : Int32)), (c459 : x43 = (108 : Int32)), (c462 : x55 = (101 : Int32))])] at kt
                exact S463 t kt
              · have S464 : ∀ t, Steps p.tables e below (T420.setTop (mkF m 170 #[.val (.int ln), .val (.int mk), .val (.long d), .second, .val (.int (5 : Int32)), .val (.ref b3), .val (.ref b393), .unset, .unset, .unset] [(.int (0 : Int32))])) t → Steps p.tables e below (s₁.setTop (mkF m 0 #[.val (.int ln), .val (.int mk), .val (.long d), .second, .unset, .unset, .unset, .unset, .unset, .unset] [])) t := by
                  intro t kt
                  refine S461 t ?_
                  refine XS.icmpYes X420.here hx rfl (pc0 := 162) (pc' := 169) rfl (hb hby at_162) rfl (feq (c462 : ¬ (x55 = (101 : Int32)))).2 (by decide) (by decide) ?_
                  refine XS.iconst X420.here hx rfl (hb hby at_169) ?_
                  exact kt
                rw [if_neg (fun q => (c462 : ¬ (x55 = (101 : Int32))) (congrArg (fun l => l.getD 4 0) q))] at kt
                exact S464 t kt
            · have S465 : ∀ t, Steps p.tables e below (T420.setTop (mkF m 170 #[.val (.int ln), .val (.int mk), .val (.long d), .second, .val (.int (5 : Int32)), .val (.ref b3), .val (.ref b393), .unset, .unset, .unset] [(.int (0 : Int32))])) t → Steps p.tables e below (s₁.setTop (mkF m 0 #[.val (.int ln), .val (.int mk), .val (.long d), .second, .unset, .unset, .unset, .unset, .unset, .unset] [])) t := by
                intro t kt
                refine S458 t ?_
                refine XS.icmpYes X420.here hx rfl (pc0 := 153) (pc' := 169) rfl (hb hby at_153) rfl (feq (c459 : ¬ (x43 = (108 : Int32)))).2 (by decide) (by decide) ?_
                refine XS.iconst X420.here hx rfl (hb hby at_169) ?_
                exact kt
              rw [if_neg (fun q => (c459 : ¬ (x43 = (108 : Int32))) (congrArg (fun l => l.getD 3 0) q))] at kt
              exact S465 t kt
          · have S466 : ∀ t, Steps p.tables e below (T420.setTop (mkF m 170 #[.val (.int ln), .val (.int mk), .val (.long d), .second, .val (.int (5 : Int32)), .val (.ref b3), .val (.ref b393), .unset, .unset, .unset] [(.int (0 : Int32))])) t → Steps p.tables e below (s₁.setTop (mkF m 0 #[.val (.int ln), .val (.int mk), .val (.long d), .second, .unset, .unset, .unset, .unset, .unset, .unset] [])) t := by
              intro t kt
              refine S455 t ?_
              refine XS.icmpYes X420.here hx rfl (pc0 := 144) (pc' := 169) rfl (hb hby at_144) rfl (feq (c456 : ¬ (x31 = (116 : Int32)))).2 (by decide) (by decide) ?_
              refine XS.iconst X420.here hx rfl (hb hby at_169) ?_
              exact kt
            rw [if_neg (fun q => (c456 : ¬ (x31 = (116 : Int32))) (congrArg (fun l => l.getD 2 0) q))] at kt
            exact S466 t kt
        · have S467 : ∀ t, Steps p.tables e below (T420.setTop (mkF m 170 #[.val (.int ln), .val (.int mk), .val (.long d), .second, .val (.int (5 : Int32)), .val (.ref b3), .val (.ref b393), .unset, .unset, .unset] [(.int (0 : Int32))])) t → Steps p.tables e below (s₁.setTop (mkF m 0 #[.val (.int ln), .val (.int mk), .val (.long d), .second, .unset, .unset, .unset, .unset, .unset, .unset] [])) t := by
            intro t kt
            refine S452 t ?_
            refine XS.icmpYes X420.here hx rfl (pc0 := 135) (pc' := 169) rfl (hb hby at_135) rfl (feq (c453 : ¬ (x19 = (105 : Int32)))).2 (by decide) (by decide) ?_
            refine XS.iconst X420.here hx rfl (hb hby at_169) ?_
            exact kt
          rw [if_neg (fun q => (c453 : ¬ (x19 = (105 : Int32))) (congrArg (fun l => l.getD 1 0) q))] at kt
          exact S467 t kt
      · have S468 : ∀ t, Steps p.tables e below (T420.setTop (mkF m 170 #[.val (.int ln), .val (.int mk), .val (.long d), .second, .val (.int (5 : Int32)), .val (.ref b3), .val (.ref b393), .unset, .unset, .unset] [(.int (0 : Int32))])) t → Steps p.tables e below (s₁.setTop (mkF m 0 #[.val (.int ln), .val (.int mk), .val (.long d), .second, .unset, .unset, .unset, .unset, .unset, .unset] [])) t := by
          intro t kt
          refine S449 t ?_
          refine XS.icmpYes X420.here hx rfl (pc0 := 126) (pc' := 169) rfl (hb hby at_126) rfl (feq (c450 : ¬ (x8 = (116 : Int32)))).2 (by decide) (by decide) ?_
          refine XS.iconst X420.here hx rfl (hb hby at_169) ?_
          exact kt
        rw [if_neg (fun q => (c450 : ¬ (x8 = (116 : Int32))) (congrArg (fun l => l.getD 0 0) q))] at kt
        exact S468 t kt
    obtain ⟨_, _, ⟨T469, L469, k469, n469⟩, -, Xq469, hSq469, hgq469, ⟨Lc469, hQ469, l469, y469, z469, C469⟩, st469⟩ := callSS X420 hx (y := (⟨"com/example/favonius/favonius/phrank/Variant", "defaultFor", "(Ljava/lang/String;)Lcom/example/favonius/favonius/phrank/Variant;"⟩ : MethodName)) ho0 (mvT hZ0 (own_w hw 30 rfl)) (mvT hZ0 (own_w hw 31 rfl)) (mvT hZ0 (own_w hw 32 rfl)) (mvT hZ0 (own_w hw 33 rfl)) (by decide) (own_backS (W := 0) (rm := ({ frames := 2, cells := 2, slots := 24, locals := 28 } : Room)) (xs := []) (rm_df5 l Z a0 hw [] b393 x425 x426 x8 x19 x31 x43 x55 zc wR wZ T420.heap n0 O444 f429 f433 f430 f434 c9 c20 c32 c44 c56 S_C hzc S_R S_Z) hZ0 (own_w hw 33 rfl) (own_w hw 32 rfl) (by decide) (by decide) own_ew CR441.1 all0) (g := (mkF m 174 #[.val (.int ln), .val (.int mk), .val (.long d), .second, .val (.int (5 : Int32)), .val (.ref b3), .val (.ref b393), .val (.int (if ([x8, x19, x31, x43, x55] : List Int32) = [(116 : Int32), (105 : Int32), (116 : Int32), (108 : Int32), (101 : Int32)] then (1 : Int32) else (0 : Int32))), .unset, .unset] [(.ref b393)])) rfl (by rw [hml]; rfl) (argsL := [(.ref b393)]) (rest := []) (lenOf pd_5 rfl) rfl (by show 2 * 0 + _ ≤ _; exact Nat.le_of_eq rfl) (hb hby at_174) (fun _ _ => ⟨rfl, rfl, (by decide : 4 + 2 ≤ _), (by decide : 21 + 24 ≤ _)⟩)
    dsimp only [Pt.U, Pt.locs, Pt.cells, Pt.slots] at Xq469 hSq469 hgq469 l469 y469 z469 st469 hQ469 C469
    obtain ⟨X469, hS469, hZ469, ho469⟩ := rebS hS0 (by exact hk442) Xq469 hSq469 hgq469 hZ0 ho0
    subst l469 y469 z469
    rcases hQ469 with ⟨c470, rfl, N471, k472⟩ | ⟨c473, rfl, N474, k475⟩
    · have N476 := Fr.app N435 N471
      have sf477 := CHr.safe C469 (Exa.lt f429) sf443
      have CR478 := CR441.trans C469
      have hk479 : T469.heap.size ≤ T469.heap.size := Nat.le_refl _
      have O480 := O444.keep k472 all0
      have q481 : ¬ ((if ([x8, x19, x31, x43, x55] : List Int32) = [(116 : Int32), (105 : Int32), (116 : Int32), (108 : Int32), (101 : Int32)] then (1 : Int32) else (0 : Int32)) = (0 : Int32)) := by rw [if_pos c470]; decide
      obtain ⟨T482, X482, e482, st482⟩ := getS2 X469 hx hZ469 ho469 (host := "") (Or.inl (own_w hw 61 rfl)) Via.refl rfl (S_R.ext O480.2) (g := (mkF m 184 #[.val (.int ln), .val (.int mk), .val (.long d), .second, .val (.int (5 : Int32)), .val (.ref b3), .val (.ref b393), .val (.int (if ([x8, x19, x31, x43, x55] : List Int32) = [(116 : Int32), (105 : Int32), (116 : Int32), (108 : Int32), (101 : Int32)] then (1 : Int32) else (0 : Int32))), .val (.ref wR), .unset] [])) rfl (hb hby at_184)
      have S483 : ∀ t, Steps p.tables e below (T482.setTop (mkF m 207 #[.val (.int ln), .val (.int mk), .val (.long d), .second, .val (.int (5 : Int32)), .val (.ref b3), .val (.ref b393), .val (.int (if ([x8, x19, x31, x43, x55] : List Int32) = [(116 : Int32), (105 : Int32), (116 : Int32), (108 : Int32), (101 : Int32)] then (1 : Int32) else (0 : Int32))), .val (.ref wR), .val (.ref wR)] [(.int (1 : Int32))])) t → Steps p.tables e below (s₁.setTop (mkF m 0 #[.val (.int ln), .val (.int mk), .val (.long d), .second, .unset, .unset, .unset, .unset, .unset, .unset] [])) t := by
        intro t kt
        refine S446 t ?_
        refine XS.istore X420.here hx rfl (hb hby at_170) rfl (l' := #[.val (.int ln), .val (.int mk), .val (.long d), .second, .val (.int (5 : Int32)), .val (.ref b3), .val (.ref b393), .val (.int (if ([x8, x19, x31, x43, x55] : List Int32) = [(116 : Int32), (105 : Int32), (116 : Int32), (108 : Int32), (101 : Int32)] then (1 : Int32) else (0 : Int32))), .unset, .unset]) rfl ?_
        refine XS.aload X420.here hx rfl (hb hby at_172) rfl rfl ?_
        show Steps p.tables e below (T420.setTop (mkF m 174 #[.val (.int ln), .val (.int mk), .val (.long d), .second, .val (.int (5 : Int32)), .val (.ref b3), .val (.ref b393), .val (.int (if ([x8, x19, x31, x43, x55] : List Int32) = [(116 : Int32), (105 : Int32), (116 : Int32), (108 : Int32), (101 : Int32)] then (1 : Int32) else (0 : Int32))), .unset, .unset] [(.ref b393)])) _
        refine st469.trans ?_
        refine XS.astore X469.here hx rfl (hb hby at_177) rfl rfl (l' := #[.val (.int ln), .val (.int mk), .val (.long d), .second, .val (.int (5 : Int32)), .val (.ref b3), .val (.ref b393), .val (.int (if ([x8, x19, x31, x43, x55] : List Int32) = [(116 : Int32), (105 : Int32), (116 : Int32), (108 : Int32), (101 : Int32)] then (1 : Int32) else (0 : Int32))), .val (.ref wR), .unset]) rfl ?_
        refine XS.iload X469.here hx rfl (hb hby at_179) rfl ?_
        refine XS.ifNo X469.here hx rfl (hb hby at_181) rfl ((if0 _ _).trans (feq (q481 : ¬ ((if ([x8, x19, x31, x43, x55] : List Int32) = [(116 : Int32), (105 : Int32), (116 : Int32), (108 : Int32), (101 : Int32)] then (1 : Int32) else (0 : Int32)) = (0 : Int32)))).1) ?_
        show Steps p.tables e below (T469.setTop (mkF m 184 #[.val (.int ln), .val (.int mk), .val (.long d), .second, .val (.int (5 : Int32)), .val (.ref b3), .val (.ref b393), .val (.int (if ([x8, x19, x31, x43, x55] : List Int32) = [(116 : Int32), (105 : Int32), (116 : Int32), (108 : Int32), (101 : Int32)] then (1 : Int32) else (0 : Int32))), .val (.ref wR), .unset] [])) _
        refine st482 _ ?_
        refine XS.goto X482.here hx rfl (pc0 := 187) (pc' := 193) rfl (hb hby at_187) (by decide) (by decide) ?_
        refine XS.astore X482.here hx rfl (hb hby at_193) rfl rfl (l' := #[.val (.int ln), .val (.int mk), .val (.long d), .second, .val (.int (5 : Int32)), .val (.ref b3), .val (.ref b393), .val (.int (if ([x8, x19, x31, x43, x55] : List Int32) = [(116 : Int32), (105 : Int32), (116 : Int32), (108 : Int32), (101 : Int32)] then (1 : Int32) else (0 : Int32))), .val (.ref wR), .val (.ref wR)]) rfl ?_
        refine XS.aload X482.here hx rfl (hb hby at_195) rfl rfl ?_
        refine XS.aload X482.here hx rfl (hb hby at_197) rfl rfl ?_
        show Steps p.tables e below (T482.setTop (mkF m 199 #[.val (.int ln), .val (.int mk), .val (.long d), .second, .val (.int (5 : Int32)), .val (.ref b3), .val (.ref b393), .val (.int (if ([x8, x19, x31, x43, x55] : List Int32) = [(116 : Int32), (105 : Int32), (116 : Int32), (108 : Int32), (101 : Int32)] then (1 : Int32) else (0 : Int32))), .val (.ref wR), .val (.ref wR)] [(.ref wR), (.ref wR)])) _
        refine Jvm.RoadKit.acmp (g := (mkF m 199 #[.val (.int ln), .val (.int mk), .val (.long d), .second, .val (.int (5 : Int32)), .val (.ref b3), .val (.ref b393), .val (.int (if ([x8, x19, x31, x43, x55] : List Int32) = [(116 : Int32), (105 : Int32), (116 : Int32), (108 : Int32), (101 : Int32)] then (1 : Int32) else (0 : Int32))), .val (.ref wR), .val (.ref wR)] [(.ref wR), (.ref wR)])) X482 hx rfl rfl rfl (pc0 := 199) (pc' := 202) (same := true) rfl (hb hby at_199) rfl (decide_eq_true rfl) (by decide) (by decide) ?_
        refine XS.iconst X482.here hx rfl (hb hby at_202) ?_
        refine XS.goto X482.here hx rfl (pc0 := 203) (pc' := 207) rfl (hb hby at_203) (by decide) (by decide) ?_
        exact kt
      obtain ⟨fs, hr, hrun, hended, hRW⟩ := X482.leaveW hS469 (by rw [e482]; exact hk479) (v := some (.int (1 : Int32))) (fun h => by rw [Bd.returns] at h; cases h)
      refine ⟨_, _, pre0 _ (S483 _ ?_), hrun, hended, _, _, rfl, ?_, ?_, hRW.1, hRW.2.1, hRW.2.2.1, hRW.2.2.2.mono (by decide) (by decide)⟩
      · exact retN X482 hx (t := .boolean) Bd.returns (by simp) (hb hby at_207) hr
      · show Q_rm_law Z ln mk d zc wR wZ h0 n0 _ T482.heap _
        rw [e482]
        exact ⟨rfl, N476⟩
      · show CHr Z own_EL s.vm s.heap T482.vm T482.heap
        rw [hh, e482]
        exact CR478.trans (CHv.at X482 hZ469 own_ew CR478.1)
    · have N484 := Fr.app N435 N474
      have sf485 := CHr.safe C469 (Exa.lt f429) sf443
      have CR486 := CR441.trans C469
      have hk487 : T469.heap.size ≤ T469.heap.size := Nat.le_refl _
      have O488 := O444.keep k475 all0
      have q489 : (if ([x8, x19, x31, x43, x55] : List Int32) = [(116 : Int32), (105 : Int32), (116 : Int32), (108 : Int32), (101 : Int32)] then (1 : Int32) else (0 : Int32)) = (0 : Int32) := if_neg c473
      obtain ⟨T490, X490, e490, st490⟩ := getS2 X469 hx hZ469 ho469 (host := "") (Or.inl (own_w hw 48 rfl)) Via.refl rfl (S_Z.ext O488.2) (g := (mkF m 190 #[.val (.int ln), .val (.int mk), .val (.long d), .second, .val (.int (5 : Int32)), .val (.ref b3), .val (.ref b393), .val (.int (if ([x8, x19, x31, x43, x55] : List Int32) = [(116 : Int32), (105 : Int32), (116 : Int32), (108 : Int32), (101 : Int32)] then (1 : Int32) else (0 : Int32))), .val (.ref wZ), .unset] [])) rfl (hb hby at_190)
      have S491 : ∀ t, Steps p.tables e below (T490.setTop (mkF m 207 #[.val (.int ln), .val (.int mk), .val (.long d), .second, .val (.int (5 : Int32)), .val (.ref b3), .val (.ref b393), .val (.int (if ([x8, x19, x31, x43, x55] : List Int32) = [(116 : Int32), (105 : Int32), (116 : Int32), (108 : Int32), (101 : Int32)] then (1 : Int32) else (0 : Int32))), .val (.ref wZ), .val (.ref wZ)] [(.int (1 : Int32))])) t → Steps p.tables e below (s₁.setTop (mkF m 0 #[.val (.int ln), .val (.int mk), .val (.long d), .second, .unset, .unset, .unset, .unset, .unset, .unset] [])) t := by
        intro t kt
        refine S446 t ?_
        refine XS.istore X420.here hx rfl (hb hby at_170) rfl (l' := #[.val (.int ln), .val (.int mk), .val (.long d), .second, .val (.int (5 : Int32)), .val (.ref b3), .val (.ref b393), .val (.int (if ([x8, x19, x31, x43, x55] : List Int32) = [(116 : Int32), (105 : Int32), (116 : Int32), (108 : Int32), (101 : Int32)] then (1 : Int32) else (0 : Int32))), .unset, .unset]) rfl ?_
        refine XS.aload X420.here hx rfl (hb hby at_172) rfl rfl ?_
        show Steps p.tables e below (T420.setTop (mkF m 174 #[.val (.int ln), .val (.int mk), .val (.long d), .second, .val (.int (5 : Int32)), .val (.ref b3), .val (.ref b393), .val (.int (if ([x8, x19, x31, x43, x55] : List Int32) = [(116 : Int32), (105 : Int32), (116 : Int32), (108 : Int32), (101 : Int32)] then (1 : Int32) else (0 : Int32))), .unset, .unset] [(.ref b393)])) _
        refine st469.trans ?_
        refine XS.astore X469.here hx rfl (hb hby at_177) rfl rfl (l' := #[.val (.int ln), .val (.int mk), .val (.long d), .second, .val (.int (5 : Int32)), .val (.ref b3), .val (.ref b393), .val (.int (if ([x8, x19, x31, x43, x55] : List Int32) = [(116 : Int32), (105 : Int32), (116 : Int32), (108 : Int32), (101 : Int32)] then (1 : Int32) else (0 : Int32))), .val (.ref wZ), .unset]) rfl ?_
        refine XS.iload X469.here hx rfl (hb hby at_179) rfl ?_
        refine XS.ifYes X469.here hx rfl (pc0 := 181) (pc' := 190) rfl (hb hby at_181) rfl ((if0 _ _).trans (teq (q489 : (if ([x8, x19, x31, x43, x55] : List Int32) = [(116 : Int32), (105 : Int32), (116 : Int32), (108 : Int32), (101 : Int32)] then (1 : Int32) else (0 : Int32)) = (0 : Int32))).1) (by decide) (by decide) ?_
        show Steps p.tables e below (T469.setTop (mkF m 190 #[.val (.int ln), .val (.int mk), .val (.long d), .second, .val (.int (5 : Int32)), .val (.ref b3), .val (.ref b393), .val (.int (if ([x8, x19, x31, x43, x55] : List Int32) = [(116 : Int32), (105 : Int32), (116 : Int32), (108 : Int32), (101 : Int32)] then (1 : Int32) else (0 : Int32))), .val (.ref wZ), .unset] [])) _
        refine st490 _ ?_
        refine XS.astore X490.here hx rfl (hb hby at_193) rfl rfl (l' := #[.val (.int ln), .val (.int mk), .val (.long d), .second, .val (.int (5 : Int32)), .val (.ref b3), .val (.ref b393), .val (.int (if ([x8, x19, x31, x43, x55] : List Int32) = [(116 : Int32), (105 : Int32), (116 : Int32), (108 : Int32), (101 : Int32)] then (1 : Int32) else (0 : Int32))), .val (.ref wZ), .val (.ref wZ)]) rfl ?_
        refine XS.aload X490.here hx rfl (hb hby at_195) rfl rfl ?_
        refine XS.aload X490.here hx rfl (hb hby at_197) rfl rfl ?_
        show Steps p.tables e below (T490.setTop (mkF m 199 #[.val (.int ln), .val (.int mk), .val (.long d), .second, .val (.int (5 : Int32)), .val (.ref b3), .val (.ref b393), .val (.int (if ([x8, x19, x31, x43, x55] : List Int32) = [(116 : Int32), (105 : Int32), (116 : Int32), (108 : Int32), (101 : Int32)] then (1 : Int32) else (0 : Int32))), .val (.ref wZ), .val (.ref wZ)] [(.ref wZ), (.ref wZ)])) _
        refine Jvm.RoadKit.acmp (g := (mkF m 199 #[.val (.int ln), .val (.int mk), .val (.long d), .second, .val (.int (5 : Int32)), .val (.ref b3), .val (.ref b393), .val (.int (if ([x8, x19, x31, x43, x55] : List Int32) = [(116 : Int32), (105 : Int32), (116 : Int32), (108 : Int32), (101 : Int32)] then (1 : Int32) else (0 : Int32))), .val (.ref wZ), .val (.ref wZ)] [(.ref wZ), (.ref wZ)])) X490 hx rfl rfl rfl (pc0 := 199) (pc' := 202) (same := true) rfl (hb hby at_199) rfl (decide_eq_true rfl) (by decide) (by decide) ?_
        refine XS.iconst X490.here hx rfl (hb hby at_202) ?_
        refine XS.goto X490.here hx rfl (pc0 := 203) (pc' := 207) rfl (hb hby at_203) (by decide) (by decide) ?_
        exact kt
      obtain ⟨fs, hr, hrun, hended, hRW⟩ := X490.leaveW hS469 (by rw [e490]; exact hk487) (v := some (.int (1 : Int32))) (fun h => by rw [Bd.returns] at h; cases h)
      refine ⟨_, _, pre0 _ (S491 _ ?_), hrun, hended, _, _, rfl, ?_, ?_, hRW.1, hRW.2.1, hRW.2.2.1, hRW.2.2.2.mono (by decide) (by decide)⟩
      · exact retN X490 hx (t := .boolean) Bd.returns (by simp) (hb hby at_207) hr
      · show Q_rm_law Z ln mk d zc wR wZ h0 n0 _ T490.heap _
        rw [e490]
        exact ⟨rfl, N484⟩
      · show CHr Z own_EL s.vm s.heap T490.vm T490.heap
        rw [hh, e490]
        exact CR486.trans (CHv.at X490 hZ469 own_ew CR486.1)
  · obtain ⟨T492, h492, X492, e492, E492, A492, D492, -, st492⟩ := newO X84 hx hZ0 ho0 (own_w hw 6 rfl) (own_w hw 7 rfl) (own_w hw 8 rfl) e84 (g := (mkF m 98 #[.val (.int ln), .val (.int mk), .val (.long d), .second, .val (.int (6 : Int32)), .val (.ref b3), .unset, .unset, .unset, .unset] [])) rfl (hb hby at_98) (by decide) (by decide)
    obtain ⟨b492, g492⟩ : ∃ z, z = h84.size := ⟨_, rfl⟩
    have ge_b492 : n0 ≤ b492 := by rw [g492, ← O88.1]; exact O88.2.1
    have f493 := (Exa.wr W84 f85)
    have ne494 : b3 ≠ b492 := Nat.ne_of_lt (Nat.lt_of_lt_of_le (Exa.lt f493) (Nat.le_of_eq g492.symm))
    have sf495 : Safe Z own_EL s.vm h84 b492 := Safe.new (Nat.le_of_eq g492.symm)
    rw [← g492] at A492 D492 st492
    have CR496 := CR86.trans (CHr.ext E492 CR86.1)
    have hk497 := Nat.le_trans hk87 E492.1
    have sf498 := Safe.ext E492 CR86.1 sf495
    have O499 := O88.ext E492
    have F500 : Fld Z h492 b492 "java/lang/String" "value" "[B" .null := D492 (Or.inr (own_w hw 24 rfl)) (ty := (.array .byte)) (by decide)
    have F501 : Fld Z h492 b492 "java/lang/String" "coder" "B" (.int (0 : Int32)) := D492 (Or.inr (own_w hw 25 rfl)) (ty := .byte) (by decide)
    have f503 := (Arv.ext F84 E492)
    obtain ⟨_, _, ⟨T502, L502, k502, n502⟩, -, X502, ⟨Lc502, hQ502, l502, y502, z502⟩, st502⟩ := Jvm.LawKit.callS X492 hx (y := (⟨"com/example/favonius/favonius/phrank/VariantDefaultForPinLaw", "cut", "(I[C)[C"⟩ : MethodName)) ho0 (mvT hZ0 (own_w hw 9 rfl)) (mvT hZ0 (own_w hw 10 rfl)) (mvT hZ0 (own_w hw 3 rfl)) (mvT hZ0 (own_w hw 11 rfl)) (by decide) (backOf (W := 2) (rm_cut6 l Z a0 hw [] b3 k3 x8 x19 x31 x43 x55 x67 x79 h492 n0 O499 f503 c9 c20 c32 c44 c56 c68 c80) hZ0 (own_w hw 11 rfl) (own_w hw 3 rfl) (by decide) (by decide)) (g := (mkF m 106 #[.val (.int ln), .val (.int mk), .val (.long d), .second, .val (.int (6 : Int32)), .val (.ref b3), .unset, .unset, .unset, .unset] [(.ref b3), (.int (6 : Int32)), (.ref b492), (.ref b492)])) rfl (by rw [hml]; rfl) (argsL := [(.int (6 : Int32)), (.ref b3)]) (rest := [(.ref b492), (.ref b492)]) (lenOf pd_3 rfl) rfl (by show 2 * 0 + _ ≤ _; exact Nat.le_of_eq rfl) (hb hby at_106) (fun _ _ => ⟨rfl, e492, (by decide : 2 + 1 ≤ _), (by decide : 11 + 6 ≤ _)⟩)
    dsimp only [Pt.U, Pt.locs, Pt.cells, Pt.slots] at X502 l502 y502 z502 st502 hQ502
    subst l502 y502 z502
    obtain ⟨x504, x505, rfl, N506, k507, f508, f509⟩ := hQ502
    have N510 := Fr.app N89 N506
    have ge511 : n0 ≤ x504 := by rw [← O499.1]; exact Nat.le_trans O499.2.1 f508
    have f512 := (Exa.ext E492 f493)
    have ne513 : b3 ≠ x504 := Nat.ne_of_lt (Nat.lt_of_lt_of_le (Exa.lt f512) f508)
    have ne514 : b492 ≠ x504 := Nat.ne_of_lt (Nat.lt_of_lt_of_le (Exa.lt A492) f508)
    have CR515 := CR496.trans (CHr.keep k507 sf0 CR496.1)
    have hk516 := Nat.le_trans hk497 k507.1
    have sf517 := Safe.keep k507 sf0 CR496.1 sf498
    have O518 := O499.keep k507 all0
    have f520 := (Exa.keep A492 k507)
    have f521 := (Fld.keep F500 k507 nin0)
    have f522 := (Fld.keep F501 k507 nin0)
    have la523 : ∀ c ∈ ([x8, x19, x31, x43, x55, x67] : List Int32), ¬ c < 0 ∧ ¬ (255 : Int32) < c := by
      intro c hc
      simp only [List.mem_cons, List.not_mem_nil, or_false] at hc
      rcases hc with rfl | rfl | rfl | rfl | rfl | rfl
      · exact c9
      · exact c20
      · exact c32
      · exact c44
      · exact c56
      · exact c68
    obtain ⟨_, _, ⟨T519, L519, k519, n519⟩, -, X519, ⟨Lc519, hQ519, l519, y519, z519⟩, st519⟩ := X502.specialBack hx (y := (⟨"java/lang/String", "<init>", "([C)V"⟩ : MethodName)) rfl ho0 (mvT hZ0 (own_w hw 12 rfl)) (mvT hZ0 (own_w hw 13 rfl)) (mvT hZ0 (own_w hw 14 rfl)) (by decide) (StrChars.Road.backV (W := 1) hZ0 hws (kI := 4) (own_w hw 7 rfl) (cs := [x8, x19, x31, x43, x55, x67]) (bs := [x8.toInt8.toInt32, x19.toInt8.toInt32, x31.toInt8.toInt32, x43.toInt8.toInt32, x55.toInt8.toInt32, x67.toInt8.toInt32]) (n := 6) ge_b492 (by rw [← O518.1]; exact O518.2.1) f520 f521 f522 f509 (S_C.ext O518.2) hzc rfl rfl (by decide) (by decide) la523 rfl (by decide) (by decide)) (g := (mkF m 109 #[.val (.int ln), .val (.int mk), .val (.long d), .second, .val (.int (6 : Int32)), .val (.ref b3), .unset, .unset, .unset, .unset] [(.ref x504), (.ref b492), (.ref b492)])) rfl (by rw [hml]; rfl) (Steps.refl _) (a := b492) (argsL := [(.ref x504)]) (rest := [(.ref b492)]) (lenOf pd_4 rfl) rfl (by show 2 * 0 + _ ≤ _; exact Nat.le_of_eq rfl) (hb hby at_109) (fun _ _ => ⟨rfl, rfl, (by decide : 3 + 1 ≤ _), (by decide : 17 + 6 ≤ _)⟩)
    dsimp only [Pt.U, Pt.locs, Pt.cells, Pt.slots] at X519 l519 y519 z519 st519 hQ519
    subst l519 y519 z519
    obtain ⟨rfl, f526, f527, f528, f529, x524, x525, f530, f531, qf531, f532, f533⟩ := hQ519
    have N534 := Fr.app N510 f526
    have ge535 : n0 ≤ x524 := by rw [← O518.1]; exact Nat.le_trans O518.2.1 f531
    have f536 := (Exa.keep f512 k507)
    have ne537 : b3 ≠ x524 := Nat.ne_of_lt (Nat.lt_of_lt_of_le (Exa.lt f536) f531)
    have ne538 : b492 ≠ x524 := Nat.ne_of_lt (Nat.lt_of_lt_of_le (Exa.lt f520) f531)
    have ne539 : x504 ≠ x524 := Nat.ne_of_lt (Nat.lt_of_lt_of_le (Arv.lt f509) f531)
    have CR540 := CR515.trans (CHr.keep f527 (sfS sf517 sf0) CR515.1)
    have hk541 := Nat.le_trans hk516 f527.1
    have sf542 := Safe.keep f527 (sfS sf517 sf0) CR515.1 sf517
    have O543 := O518.keep f527 (allS ge_b492 all0)
    obtain ⟨_, _, ⟨T544, L544, k544, n544⟩, -, Xq544, hSq544, hgq544, ⟨Lc544, hQ544, l544, y544, z544, C544⟩, st544⟩ := callSS X519 hx (y := (⟨"com/example/favonius/favonius/phrank/Variant", "defaultFor", "(Ljava/lang/String;)Lcom/example/favonius/favonius/phrank/Variant;"⟩ : MethodName)) ho0 (mvT hZ0 (own_w hw 30 rfl)) (mvT hZ0 (own_w hw 31 rfl)) (mvT hZ0 (own_w hw 32 rfl)) (mvT hZ0 (own_w hw 33 rfl)) (by decide) (own_backS (W := 0) (rm := ({ frames := 2, cells := 2, slots := 24, locals := 28 } : Room)) (xs := []) (rm_df6 l Z a0 hw [] b492 x524 x525 x8 x19 x31 x43 x55 x67 zc wR wZ T519.heap n0 O543 f528 f532 f529 f533 c9 c20 c32 c44 c56 c68 S_C hzc S_R S_Z) hZ0 (own_w hw 33 rfl) (own_w hw 32 rfl) (by decide) (by decide) own_ew CR540.1 all0) (g := (mkF m 174 #[.val (.int ln), .val (.int mk), .val (.long d), .second, .val (.int (6 : Int32)), .val (.ref b3), .val (.ref b492), .val (.int (0 : Int32)), .unset, .unset] [(.ref b492)])) rfl (by rw [hml]; rfl) (argsL := [(.ref b492)]) (rest := []) (lenOf pd_5 rfl) rfl (by show 2 * 0 + _ ≤ _; exact Nat.le_of_eq rfl) (hb hby at_174) (fun _ _ => ⟨rfl, rfl, (by decide : 4 + 2 ≤ _), (by decide : 23 + 24 ≤ _)⟩)
    dsimp only [Pt.U, Pt.locs, Pt.cells, Pt.slots] at Xq544 hSq544 hgq544 l544 y544 z544 st544 hQ544 C544
    obtain ⟨X544, hS544, hZ544, ho544⟩ := rebS hS0 (by exact hk541) Xq544 hSq544 hgq544 hZ0 ho0
    subst l544 y544 z544
    obtain ⟨rfl, N545, k546⟩ := hQ544
    have N547 := Fr.app N534 N545
    have sf548 := CHr.safe C544 (Exa.lt f528) sf542
    have CR549 := CR540.trans C544
    have hk550 : T544.heap.size ≤ T544.heap.size := Nat.le_refl _
    have O551 := O543.keep k546 all0
    obtain ⟨T552, X552, e552, st552⟩ := getS2 X544 hx hZ544 ho544 (host := "") (Or.inl (own_w hw 48 rfl)) Via.refl rfl (S_Z.ext O551.2) (g := (mkF m 190 #[.val (.int ln), .val (.int mk), .val (.long d), .second, .val (.int (6 : Int32)), .val (.ref b3), .val (.ref b492), .val (.int (0 : Int32)), .val (.ref wZ), .unset] [])) rfl (hb hby at_190)
    have S553 : ∀ t, Steps p.tables e below (T552.setTop (mkF m 207 #[.val (.int ln), .val (.int mk), .val (.long d), .second, .val (.int (6 : Int32)), .val (.ref b3), .val (.ref b492), .val (.int (0 : Int32)), .val (.ref wZ), .val (.ref wZ)] [(.int (1 : Int32))])) t → Steps p.tables e below (s₁.setTop (mkF m 0 #[.val (.int ln), .val (.int mk), .val (.long d), .second, .unset, .unset, .unset, .unset, .unset, .unset] [])) t := by
      intro t kt
      refine S90 t ?_
      refine st492 _ ?_
      refine XS.dup X492.here hx rfl (hb hby at_101) rfl rfl ?_
      refine XS.iload X492.here hx rfl (hb hby at_102) rfl ?_
      refine XS.aload X492.here hx rfl (hb hby at_104) rfl rfl ?_
      show Steps p.tables e below (T492.setTop (mkF m 106 #[.val (.int ln), .val (.int mk), .val (.long d), .second, .val (.int (6 : Int32)), .val (.ref b3), .unset, .unset, .unset, .unset] [(.ref b3), (.int (6 : Int32)), (.ref b492), (.ref b492)])) _
      refine st502 _ ?_
      show Steps p.tables e below (T502.setTop (mkF m 109 #[.val (.int ln), .val (.int mk), .val (.long d), .second, .val (.int (6 : Int32)), .val (.ref b3), .unset, .unset, .unset, .unset] [(.ref x504), (.ref b492), (.ref b492)])) _
      refine st519.trans ?_
      refine XS.astore X519.here hx rfl (hb hby at_112) rfl rfl (l' := #[.val (.int ln), .val (.int mk), .val (.long d), .second, .val (.int (6 : Int32)), .val (.ref b3), .val (.ref b492), .unset, .unset, .unset]) rfl ?_
      refine XS.iload X519.here hx rfl (hb hby at_114) rfl ?_
      refine XS.iconst X519.here hx rfl (hb hby at_116) ?_
      refine XS.icmpYes X519.here hx rfl (pc0 := 117) (pc' := 169) rfl (hb hby at_117) rfl (feq ((by decide) : ¬ ((6 : Int32) = (5 : Int32)))).2 (by decide) (by decide) ?_
      refine XS.iconst X519.here hx rfl (hb hby at_169) ?_
      show Steps p.tables e below (T519.setTop (mkF m 170 #[.val (.int ln), .val (.int mk), .val (.long d), .second, .val (.int (6 : Int32)), .val (.ref b3), .val (.ref b492), .unset, .unset, .unset] [(.int (0 : Int32))])) _
      refine XS.istore X519.here hx rfl (hb hby at_170) rfl (l' := #[.val (.int ln), .val (.int mk), .val (.long d), .second, .val (.int (6 : Int32)), .val (.ref b3), .val (.ref b492), .val (.int (0 : Int32)), .unset, .unset]) rfl ?_
      refine XS.aload X519.here hx rfl (hb hby at_172) rfl rfl ?_
      show Steps p.tables e below (T519.setTop (mkF m 174 #[.val (.int ln), .val (.int mk), .val (.long d), .second, .val (.int (6 : Int32)), .val (.ref b3), .val (.ref b492), .val (.int (0 : Int32)), .unset, .unset] [(.ref b492)])) _
      refine st544.trans ?_
      refine XS.astore X544.here hx rfl (hb hby at_177) rfl rfl (l' := #[.val (.int ln), .val (.int mk), .val (.long d), .second, .val (.int (6 : Int32)), .val (.ref b3), .val (.ref b492), .val (.int (0 : Int32)), .val (.ref wZ), .unset]) rfl ?_
      refine XS.iload X544.here hx rfl (hb hby at_179) rfl ?_
      refine XS.ifYes X544.here hx rfl (pc0 := 181) (pc' := 190) rfl (hb hby at_181) rfl ((if0 _ _).trans (teq ((by decide) : (0 : Int32) = (0 : Int32))).1) (by decide) (by decide) ?_
      show Steps p.tables e below (T544.setTop (mkF m 190 #[.val (.int ln), .val (.int mk), .val (.long d), .second, .val (.int (6 : Int32)), .val (.ref b3), .val (.ref b492), .val (.int (0 : Int32)), .val (.ref wZ), .unset] [])) _
      refine st552 _ ?_
      refine XS.astore X552.here hx rfl (hb hby at_193) rfl rfl (l' := #[.val (.int ln), .val (.int mk), .val (.long d), .second, .val (.int (6 : Int32)), .val (.ref b3), .val (.ref b492), .val (.int (0 : Int32)), .val (.ref wZ), .val (.ref wZ)]) rfl ?_
      refine XS.aload X552.here hx rfl (hb hby at_195) rfl rfl ?_
      refine XS.aload X552.here hx rfl (hb hby at_197) rfl rfl ?_
      show Steps p.tables e below (T552.setTop (mkF m 199 #[.val (.int ln), .val (.int mk), .val (.long d), .second, .val (.int (6 : Int32)), .val (.ref b3), .val (.ref b492), .val (.int (0 : Int32)), .val (.ref wZ), .val (.ref wZ)] [(.ref wZ), (.ref wZ)])) _
      refine Jvm.RoadKit.acmp (g := (mkF m 199 #[.val (.int ln), .val (.int mk), .val (.long d), .second, .val (.int (6 : Int32)), .val (.ref b3), .val (.ref b492), .val (.int (0 : Int32)), .val (.ref wZ), .val (.ref wZ)] [(.ref wZ), (.ref wZ)])) X552 hx rfl rfl rfl (pc0 := 199) (pc' := 202) (same := true) rfl (hb hby at_199) rfl (decide_eq_true rfl) (by decide) (by decide) ?_
      refine XS.iconst X552.here hx rfl (hb hby at_202) ?_
      refine XS.goto X552.here hx rfl (pc0 := 203) (pc' := 207) rfl (hb hby at_203) (by decide) (by decide) ?_
      exact kt
    obtain ⟨fs, hr, hrun, hended, hRW⟩ := X552.leaveW hS544 (by rw [e552]; exact hk550) (v := some (.int (1 : Int32))) (fun h => by rw [Bd.returns] at h; cases h)
    refine ⟨_, _, pre0 _ (S553 _ ?_), hrun, hended, _, _, rfl, ?_, ?_, hRW.1, hRW.2.1, hRW.2.2.1, hRW.2.2.2.mono (by decide) (by decide)⟩
    · exact retN X552 hx (t := .boolean) Bd.returns (by simp) (hb hby at_207) hr
    · show Q_rm_law Z ln mk d zc wR wZ h0 n0 _ T552.heap _
      rw [e552]
      exact ⟨rfl, N547⟩
    · show CHr Z own_EL s.vm s.heap T552.vm T552.heap
      rw [hh, e552]
      exact CR549.trans (CHv.at X552 hZ544 own_ew CR549.1)
  · obtain ⟨T554, h554, X554, e554, E554, A554, D554, -, st554⟩ := newO X84 hx hZ0 ho0 (own_w hw 6 rfl) (own_w hw 7 rfl) (own_w hw 8 rfl) e84 (g := (mkF m 98 #[.val (.int ln), .val (.int mk), .val (.long d), .second, .val (.int (7 : Int32)), .val (.ref b3), .unset, .unset, .unset, .unset] [])) rfl (hb hby at_98) (by decide) (by decide)
    obtain ⟨b554, g554⟩ : ∃ z, z = h84.size := ⟨_, rfl⟩
    have ge_b554 : n0 ≤ b554 := by rw [g554, ← O88.1]; exact O88.2.1
    have f555 := (Exa.wr W84 f85)
    have ne556 : b3 ≠ b554 := Nat.ne_of_lt (Nat.lt_of_lt_of_le (Exa.lt f555) (Nat.le_of_eq g554.symm))
    have sf557 : Safe Z own_EL s.vm h84 b554 := Safe.new (Nat.le_of_eq g554.symm)
    rw [← g554] at A554 D554 st554
    have CR558 := CR86.trans (CHr.ext E554 CR86.1)
    have hk559 := Nat.le_trans hk87 E554.1
    have sf560 := Safe.ext E554 CR86.1 sf557
    have O561 := O88.ext E554
    have F562 : Fld Z h554 b554 "java/lang/String" "value" "[B" .null := D554 (Or.inr (own_w hw 24 rfl)) (ty := (.array .byte)) (by decide)
    have F563 : Fld Z h554 b554 "java/lang/String" "coder" "B" (.int (0 : Int32)) := D554 (Or.inr (own_w hw 25 rfl)) (ty := .byte) (by decide)
    have f565 := (Arv.ext F84 E554)
    obtain ⟨_, _, ⟨T564, L564, k564, n564⟩, -, X564, ⟨Lc564, hQ564, l564, y564, z564⟩, st564⟩ := Jvm.LawKit.callS X554 hx (y := (⟨"com/example/favonius/favonius/phrank/VariantDefaultForPinLaw", "cut", "(I[C)[C"⟩ : MethodName)) ho0 (mvT hZ0 (own_w hw 9 rfl)) (mvT hZ0 (own_w hw 10 rfl)) (mvT hZ0 (own_w hw 3 rfl)) (mvT hZ0 (own_w hw 11 rfl)) (by decide) (backOf (W := 2) (rm_cut7 l Z a0 hw [] b3 k3 x8 x19 x31 x43 x55 x67 x79 h554 n0 O561 f565 c9 c20 c32 c44 c56 c68 c80) hZ0 (own_w hw 11 rfl) (own_w hw 3 rfl) (by decide) (by decide)) (g := (mkF m 106 #[.val (.int ln), .val (.int mk), .val (.long d), .second, .val (.int (7 : Int32)), .val (.ref b3), .unset, .unset, .unset, .unset] [(.ref b3), (.int (7 : Int32)), (.ref b554), (.ref b554)])) rfl (by rw [hml]; rfl) (argsL := [(.int (7 : Int32)), (.ref b3)]) (rest := [(.ref b554), (.ref b554)]) (lenOf pd_3 rfl) rfl (by show 2 * 0 + _ ≤ _; exact Nat.le_of_eq rfl) (hb hby at_106) (fun _ _ => ⟨rfl, e554, (by decide : 2 + 1 ≤ _), (by decide : 11 + 7 ≤ _)⟩)
    dsimp only [Pt.U, Pt.locs, Pt.cells, Pt.slots] at X564 l564 y564 z564 st564 hQ564
    subst l564 y564 z564
    obtain ⟨x566, x567, rfl, N568, k569, f570, f571⟩ := hQ564
    have N572 := Fr.app N89 N568
    have ge573 : n0 ≤ x566 := by rw [← O561.1]; exact Nat.le_trans O561.2.1 f570
    have f574 := (Exa.ext E554 f555)
    have ne575 : b3 ≠ x566 := Nat.ne_of_lt (Nat.lt_of_lt_of_le (Exa.lt f574) f570)
    have ne576 : b554 ≠ x566 := Nat.ne_of_lt (Nat.lt_of_lt_of_le (Exa.lt A554) f570)
    have CR577 := CR558.trans (CHr.keep k569 sf0 CR558.1)
    have hk578 := Nat.le_trans hk559 k569.1
    have sf579 := Safe.keep k569 sf0 CR558.1 sf560
    have O580 := O561.keep k569 all0
    have f582 := (Exa.keep A554 k569)
    have f583 := (Fld.keep F562 k569 nin0)
    have f584 := (Fld.keep F563 k569 nin0)
    have la585 : ∀ c ∈ ([x8, x19, x31, x43, x55, x67, x79] : List Int32), ¬ c < 0 ∧ ¬ (255 : Int32) < c := by
      intro c hc
      simp only [List.mem_cons, List.not_mem_nil, or_false] at hc
      rcases hc with rfl | rfl | rfl | rfl | rfl | rfl | rfl
      · exact c9
      · exact c20
      · exact c32
      · exact c44
      · exact c56
      · exact c68
      · exact c80
    obtain ⟨_, _, ⟨T581, L581, k581, n581⟩, -, X581, ⟨Lc581, hQ581, l581, y581, z581⟩, st581⟩ := X564.specialBack hx (y := (⟨"java/lang/String", "<init>", "([C)V"⟩ : MethodName)) rfl ho0 (mvT hZ0 (own_w hw 12 rfl)) (mvT hZ0 (own_w hw 13 rfl)) (mvT hZ0 (own_w hw 14 rfl)) (by decide) (StrChars.Road.backV (W := 1) hZ0 hws (kI := 4) (own_w hw 7 rfl) (cs := [x8, x19, x31, x43, x55, x67, x79]) (bs := [x8.toInt8.toInt32, x19.toInt8.toInt32, x31.toInt8.toInt32, x43.toInt8.toInt32, x55.toInt8.toInt32, x67.toInt8.toInt32, x79.toInt8.toInt32]) (n := 7) ge_b554 (by rw [← O580.1]; exact O580.2.1) f582 f583 f584 f571 (S_C.ext O580.2) hzc rfl rfl (by decide) (by decide) la585 rfl (by decide) (by decide)) (g := (mkF m 109 #[.val (.int ln), .val (.int mk), .val (.long d), .second, .val (.int (7 : Int32)), .val (.ref b3), .unset, .unset, .unset, .unset] [(.ref x566), (.ref b554), (.ref b554)])) rfl (by rw [hml]; rfl) (Steps.refl _) (a := b554) (argsL := [(.ref x566)]) (rest := [(.ref b554)]) (lenOf pd_4 rfl) rfl (by show 2 * 0 + _ ≤ _; exact Nat.le_of_eq rfl) (hb hby at_109) (fun _ _ => ⟨rfl, rfl, (by decide : 3 + 1 ≤ _), (by decide : 18 + 7 ≤ _)⟩)
    dsimp only [Pt.U, Pt.locs, Pt.cells, Pt.slots] at X581 l581 y581 z581 st581 hQ581
    subst l581 y581 z581
    obtain ⟨rfl, f588, f589, f590, f591, x586, x587, f592, f593, qf593, f594, f595⟩ := hQ581
    have N596 := Fr.app N572 f588
    have ge597 : n0 ≤ x586 := by rw [← O580.1]; exact Nat.le_trans O580.2.1 f593
    have f598 := (Exa.keep f574 k569)
    have ne599 : b3 ≠ x586 := Nat.ne_of_lt (Nat.lt_of_lt_of_le (Exa.lt f598) f593)
    have ne600 : b554 ≠ x586 := Nat.ne_of_lt (Nat.lt_of_lt_of_le (Exa.lt f582) f593)
    have ne601 : x566 ≠ x586 := Nat.ne_of_lt (Nat.lt_of_lt_of_le (Arv.lt f571) f593)
    have CR602 := CR577.trans (CHr.keep f589 (sfS sf579 sf0) CR577.1)
    have hk603 := Nat.le_trans hk578 f589.1
    have sf604 := Safe.keep f589 (sfS sf579 sf0) CR577.1 sf579
    have O605 := O580.keep f589 (allS ge_b554 all0)
    obtain ⟨_, _, ⟨T606, L606, k606, n606⟩, -, Xq606, hSq606, hgq606, ⟨Lc606, hQ606, l606, y606, z606, C606⟩, st606⟩ := callSS X581 hx (y := (⟨"com/example/favonius/favonius/phrank/Variant", "defaultFor", "(Ljava/lang/String;)Lcom/example/favonius/favonius/phrank/Variant;"⟩ : MethodName)) ho0 (mvT hZ0 (own_w hw 30 rfl)) (mvT hZ0 (own_w hw 31 rfl)) (mvT hZ0 (own_w hw 32 rfl)) (mvT hZ0 (own_w hw 33 rfl)) (by decide) (own_backS (W := 0) (rm := ({ frames := 2, cells := 2, slots := 24, locals := 28 } : Room)) (xs := []) (rm_df7 l Z a0 hw [] b554 x586 x587 x8 x19 x31 x43 x55 x67 x79 zc wR wZ T581.heap n0 O605 f590 f594 f591 f595 c9 c20 c32 c44 c56 c68 c80 S_C hzc S_R S_Z) hZ0 (own_w hw 33 rfl) (own_w hw 32 rfl) (by decide) (by decide) own_ew CR602.1 all0) (g := (mkF m 174 #[.val (.int ln), .val (.int mk), .val (.long d), .second, .val (.int (7 : Int32)), .val (.ref b3), .val (.ref b554), .val (.int (0 : Int32)), .unset, .unset] [(.ref b554)])) rfl (by rw [hml]; rfl) (argsL := [(.ref b554)]) (rest := []) (lenOf pd_5 rfl) rfl (by show 2 * 0 + _ ≤ _; exact Nat.le_of_eq rfl) (hb hby at_174) (fun _ _ => ⟨rfl, rfl, (by decide : 4 + 2 ≤ _), (by decide : 25 + 24 ≤ _)⟩)
    dsimp only [Pt.U, Pt.locs, Pt.cells, Pt.slots] at Xq606 hSq606 hgq606 l606 y606 z606 st606 hQ606 C606
    obtain ⟨X606, hS606, hZ606, ho606⟩ := rebS hS0 (by exact hk603) Xq606 hSq606 hgq606 hZ0 ho0
    subst l606 y606 z606
    obtain ⟨rfl, N607, k608⟩ := hQ606
    have N609 := Fr.app N596 N607
    have sf610 := CHr.safe C606 (Exa.lt f590) sf604
    have CR611 := CR602.trans C606
    have hk612 : T606.heap.size ≤ T606.heap.size := Nat.le_refl _
    have O613 := O605.keep k608 all0
    obtain ⟨T614, X614, e614, st614⟩ := getS2 X606 hx hZ606 ho606 (host := "") (Or.inl (own_w hw 48 rfl)) Via.refl rfl (S_Z.ext O613.2) (g := (mkF m 190 #[.val (.int ln), .val (.int mk), .val (.long d), .second, .val (.int (7 : Int32)), .val (.ref b3), .val (.ref b554), .val (.int (0 : Int32)), .val (.ref wZ), .unset] [])) rfl (hb hby at_190)
    have S615 : ∀ t, Steps p.tables e below (T614.setTop (mkF m 207 #[.val (.int ln), .val (.int mk), .val (.long d), .second, .val (.int (7 : Int32)), .val (.ref b3), .val (.ref b554), .val (.int (0 : Int32)), .val (.ref wZ), .val (.ref wZ)] [(.int (1 : Int32))])) t → Steps p.tables e below (s₁.setTop (mkF m 0 #[.val (.int ln), .val (.int mk), .val (.long d), .second, .unset, .unset, .unset, .unset, .unset, .unset] [])) t := by
      intro t kt
      refine S90 t ?_
      refine st554 _ ?_
      refine XS.dup X554.here hx rfl (hb hby at_101) rfl rfl ?_
      refine XS.iload X554.here hx rfl (hb hby at_102) rfl ?_
      refine XS.aload X554.here hx rfl (hb hby at_104) rfl rfl ?_
      show Steps p.tables e below (T554.setTop (mkF m 106 #[.val (.int ln), .val (.int mk), .val (.long d), .second, .val (.int (7 : Int32)), .val (.ref b3), .unset, .unset, .unset, .unset] [(.ref b3), (.int (7 : Int32)), (.ref b554), (.ref b554)])) _
      refine st564 _ ?_
      show Steps p.tables e below (T564.setTop (mkF m 109 #[.val (.int ln), .val (.int mk), .val (.long d), .second, .val (.int (7 : Int32)), .val (.ref b3), .unset, .unset, .unset, .unset] [(.ref x566), (.ref b554), (.ref b554)])) _
      refine st581.trans ?_
      refine XS.astore X581.here hx rfl (hb hby at_112) rfl rfl (l' := #[.val (.int ln), .val (.int mk), .val (.long d), .second, .val (.int (7 : Int32)), .val (.ref b3), .val (.ref b554), .unset, .unset, .unset]) rfl ?_
      refine XS.iload X581.here hx rfl (hb hby at_114) rfl ?_
      refine XS.iconst X581.here hx rfl (hb hby at_116) ?_
      refine XS.icmpYes X581.here hx rfl (pc0 := 117) (pc' := 169) rfl (hb hby at_117) rfl (feq ((by decide) : ¬ ((7 : Int32) = (5 : Int32)))).2 (by decide) (by decide) ?_
      refine XS.iconst X581.here hx rfl (hb hby at_169) ?_
      show Steps p.tables e below (T581.setTop (mkF m 170 #[.val (.int ln), .val (.int mk), .val (.long d), .second, .val (.int (7 : Int32)), .val (.ref b3), .val (.ref b554), .unset, .unset, .unset] [(.int (0 : Int32))])) _
      refine XS.istore X581.here hx rfl (hb hby at_170) rfl (l' := #[.val (.int ln), .val (.int mk), .val (.long d), .second, .val (.int (7 : Int32)), .val (.ref b3), .val (.ref b554), .val (.int (0 : Int32)), .unset, .unset]) rfl ?_
      refine XS.aload X581.here hx rfl (hb hby at_172) rfl rfl ?_
      show Steps p.tables e below (T581.setTop (mkF m 174 #[.val (.int ln), .val (.int mk), .val (.long d), .second, .val (.int (7 : Int32)), .val (.ref b3), .val (.ref b554), .val (.int (0 : Int32)), .unset, .unset] [(.ref b554)])) _
      refine st606.trans ?_
      refine XS.astore X606.here hx rfl (hb hby at_177) rfl rfl (l' := #[.val (.int ln), .val (.int mk), .val (.long d), .second, .val (.int (7 : Int32)), .val (.ref b3), .val (.ref b554), .val (.int (0 : Int32)), .val (.ref wZ), .unset]) rfl ?_
      refine XS.iload X606.here hx rfl (hb hby at_179) rfl ?_
      refine XS.ifYes X606.here hx rfl (pc0 := 181) (pc' := 190) rfl (hb hby at_181) rfl ((if0 _ _).trans (teq ((by decide) : (0 : Int32) = (0 : Int32))).1) (by decide) (by decide) ?_
      show Steps p.tables e below (T606.setTop (mkF m 190 #[.val (.int ln), .val (.int mk), .val (.long d), .second, .val (.int (7 : Int32)), .val (.ref b3), .val (.ref b554), .val (.int (0 : Int32)), .val (.ref wZ), .unset] [])) _
      refine st614 _ ?_
      refine XS.astore X614.here hx rfl (hb hby at_193) rfl rfl (l' := #[.val (.int ln), .val (.int mk), .val (.long d), .second, .val (.int (7 : Int32)), .val (.ref b3), .val (.ref b554), .val (.int (0 : Int32)), .val (.ref wZ), .val (.ref wZ)]) rfl ?_
      refine XS.aload X614.here hx rfl (hb hby at_195) rfl rfl ?_
      refine XS.aload X614.here hx rfl (hb hby at_197) rfl rfl ?_
      show Steps p.tables e below (T614.setTop (mkF m 199 #[.val (.int ln), .val (.int mk), .val (.long d), .second, .val (.int (7 : Int32)), .val (.ref b3), .val (.ref b554), .val (.int (0 : Int32)), .val (.ref wZ), .val (.ref wZ)] [(.ref wZ), (.ref wZ)])) _
      refine Jvm.RoadKit.acmp (g := (mkF m 199 #[.val (.int ln), .val (.int mk), .val (.long d), .second, .val (.int (7 : Int32)), .val (.ref b3), .val (.ref b554), .val (.int (0 : Int32)), .val (.ref wZ), .val (.ref wZ)] [(.ref wZ), (.ref wZ)])) X614 hx rfl rfl rfl (pc0 := 199) (pc' := 202) (same := true) rfl (hb hby at_199) rfl (decide_eq_true rfl) (by decide) (by decide) ?_
      refine XS.iconst X614.here hx rfl (hb hby at_202) ?_
      refine XS.goto X614.here hx rfl (pc0 := 203) (pc' := 207) rfl (hb hby at_203) (by decide) (by decide) ?_
      exact kt
    obtain ⟨fs, hr, hrun, hended, hRW⟩ := X614.leaveW hS606 (by rw [e614]; exact hk612) (v := some (.int (1 : Int32))) (fun h => by rw [Bd.returns] at h; cases h)
    refine ⟨_, _, pre0 _ (S615 _ ?_), hrun, hended, _, _, rfl, ?_, ?_, hRW.1, hRW.2.1, hRW.2.2.1, hRW.2.2.2.mono (by decide) (by decide)⟩
    · exact retN X614 hx (t := .boolean) Bd.returns (by simp) (hb hby at_207) hr
    · show Q_rm_law Z ln mk d zc wR wZ h0 n0 _ T614.heap _
      rw [e614]
      exact ⟨rfl, N609⟩
    · show CHr Z own_EL s.vm s.heap T614.vm T614.heap
      rw [hh, e614]
      exact CR611.trans (CHv.at X614 hZ606 own_ew CR611.1)
set_option maxRecDepth 65536 in
set_option maxHeartbeats 40000000 in
theorem comes_1 {Post : Tables → Env → Array Value → State → Outcome → State → Prop} (hpost : ∀ tb e args s v u, (limb_1_1.after args s (.returned v) u = true ∧ limb_1_2.after args s (.returned v) u = true ∧ True) → ReturnedEndW s (.returned v) u (Jvm.fieldLocs frame_1_writes args s ++ Jvm.arrayLocs frame_1_arrays args s ++ Jvm.staticLocs frame_1_statics s) 24 2176 → Post tb e args s (.returned v) u) :
    ArmFor flags0 classFile x code maxLocals ret World_1 tables_1 room_1 Calls_1 rest_1 Pre_1 Post := by
  intro l hfl _ _ p e ha hc hk s m args below hf hA hF happ hP
  obtain ⟨hcalls, hrest, hpre⟩ := hP
  obtain ⟨-, -, -, hnamed, -, -, -, hat⟩ := (Spec.applies_iff hf).mp happ
  obtain ⟨hg, hn⟩ := and_e (Cond.before_iff.mp (show (Jvm.Cond.and given_1 narrow_1).before args s = true from hpre))
  obtain ⟨g0, r0⟩ := and_e hg
  obtain ⟨g1, r1⟩ := and_e r0
  obtain ⟨g2, r2⟩ := and_e r1
  obtain ⟨w0, w1, w2, rfl⟩ : ∃ w0 w1 w2 : Value, args = #[w0, w1, w2] := by
    have hs : args.size = 3 := by simpa [Cond.value, given_1] using g0
    obtain ⟨L⟩ := args
    match L, hs with
    | [w0, w1, w2], _ => exact ⟨w0, w1, w2, rfl⟩
  have hw := fun d (hd : d ∈ tables_1) => atoms_spec (ws := Jvm.Cond.code x code maxLocals ret :: tables_1) hat d (List.mem_cons_of_mem _ hd)
  have hfit : Fit s := fun {y c} hc i hi => by
    obtain ⟨ha, rfl⟩ := Array.getElem?_eq_some_iff.mp hc
    have q := List.all_eq_true.mp ((Array.all_eq_true_iff_forall_mem.mp hF) _ (Array.getElem_mem ha)) i (List.mem_range.mpr hi)
    simpa [Array.getElem?_eq_getElem hi] using q
  obtain ⟨i0, e0⟩ := is_v g1
  obtain rfl : w0 = (.int i0) := Option.some.inj e0
  obtain ⟨i1, e1⟩ := is_v g2
  obtain rfl : w1 = (.int i1) := Option.some.inj e1
  obtain ⟨i2, e2⟩ := isL_v r2
  obtain rfl : w2 = (.long i2) := Option.some.inj e2
  obtain ⟨n0, m0⟩ := and_e hn
  obtain ⟨w_Variant_Z_FREE, ev_w_Variant_Z_FREE⟩ := exa_v n0
  have E_w_Variant_Z_FREE : Exa s s.heap w_Variant_Z_FREE "com/example/favonius/favonius/phrank/Variant" := Exa.start ev_w_Variant_Z_FREE n0
  have S_w_Variant_Z_FREE : Sta s s.heap "com/example/favonius/favonius/phrank/Variant" "Z_FREE" "Lcom/example/favonius/favonius/phrank/Variant;" (.ref w_Variant_Z_FREE) := Sta.start ev_w_Variant_Z_FREE (Or.inr ⟨(own_w hw 32 rfl), (own_w hw 47 rfl)⟩)
  obtain ⟨w_Variant_R_FREE, ev_w_Variant_R_FREE⟩ := exa_v m0
  have E_w_Variant_R_FREE : Exa s s.heap w_Variant_R_FREE "com/example/favonius/favonius/phrank/Variant" := Exa.start ev_w_Variant_R_FREE m0
  have S_w_Variant_R_FREE : Sta s s.heap "com/example/favonius/favonius/phrank/Variant" "R_FREE" "Lcom/example/favonius/favonius/phrank/Variant;" (.ref w_Variant_R_FREE) := Sta.start ev_w_Variant_R_FREE (Or.inr ⟨(own_w hw 32 rfl), (own_w hw 60 rfl)⟩)
  obtain ⟨hsets, hown0⟩ := atoms_of _ (rest_1_c_eq ▸ (show rest_1_c.before _ s = true from hrest))
  obtain ⟨zc, ezc⟩ := is_v (Cond.before_iff.mp (hsets _ (List.mem_of_getElem? (i := 1) rfl)))
  have S_C : Sta s s.heap "java/lang/String" "COMPACT_STRINGS" "Z" (.int zc) := Sta.start ezc (Or.inl (hsets _ (List.mem_of_getElem? (i := 0) rfl)))
  have hcw : Jvm.Lit.compactW.before _ s = true := hsets _ (List.mem_of_getElem? (i := 2) rfl)
  have n3 := not_v (Cond.before_iff.mp (hsets _ (List.mem_of_getElem? (i := 2) rfl)))
  have hzc : ¬ (zc = (0 : Int32)) := gotF (Cond.eq_ints ezc (Term.int_eval (0))) n3
  have hch : CHv s own_EL s.vm s.heap := CHv.start (own_EWof hw) (fun p hp => hcalls.1 p (own_sub p hp)) hcw (hw _ (own_atoms _ (by simp [Bundle.stringAtoms]))) (hw _ (own_atoms _ (by simp [Bundle.stringAtoms, Bundle.sN])))
  obtain ⟨n, o, h1, h2, h3, _, L, rfl, ⟨rfl, N⟩, hC, hq⟩ := rm_law l s _ hw tables_1 i0 i1 i2 zc w_Variant_R_FREE w_Variant_Z_FREE s.heap s.heap.size (Old.start s) S_C hzc S_w_Variant_R_FREE S_w_Variant_Z_FREE p e ha hc hk s m _ below hf ((Spec.applies_iff_loose hf).mp happ).1 ⟨rfl, State.Warmed39.refl s, rfl, hch, all0⟩ trivial
  refine ⟨n, _, h1, h2, h3, hpost _ _ _ _ _ _ ⟨Cond.after_iff.mpr rfl, Cond.after_iff.mpr (eq_i res_at (Term.int_eval (1)) rfl), trivial⟩ ⟨hq.1, hq.2.1, hq.2.2.1, (hq.2.2.2.sift fun y hy => Or.inr (N y hy)).mono (by decide) (by decide)⟩⟩
theorem main_1_1 : Claimed_1_1 := comes_1 fun _ _ _ _ _ _ h hF => ⟨h.1, hF⟩
theorem main_1_2 : Claimed_1_2 := comes_1 fun _ _ _ _ _ _ h hF => ⟨h.2.1, hF⟩
end Jvm.Pilot.@@N@@
namespace Jvm.Pilot.@@N@@
open Jvm Jvm.ClassFile Sem Op Lib Jvm.Free Jvm.Stand Jvm.Pilot.@@N@@.Jvm.D
/-! MADE BY PROGRAM (witnessworld.py) out of the Statement's table words and the real class files: 21 classes; the members and pool entries that the words name. The judged class is class 1, her method 1. -/
namespace start1
open Jvm.ClassFile
def u (s : String) : CpInfo := .utf8 (stringToUtf16 s)
/-- a pool by its gaps: so many unusable entries, then the entry; so many at the end -/
def gap : Nat → List CpInfo → List CpInfo
  | 0, r => r
  | n + 1, r => .unusable :: gap n r
def poolList (es : List (Nat × CpInfo)) (last : Nat) : List CpInfo := es.foldr (fun e r => gap e.1 (e.2 :: r)) (gap last [])
def pool (es : List (Nat × CpInfo)) (last : Nat) : Array CpInfo := ⟨poolList es last⟩
def fileOf (pool : Array CpInfo) (this : Nat) (attrs : Array Attribute := #[]) (ms : Array MethodInfo := #[]) (fl : Nat := 33) (sup : Nat := 0) (ifs : Array Nat := #[]) (fds : Array FieldInfo := #[]) : ClassFile where
  minorVersion := 0
  majorVersion := 65
  constantPool := pool
  accessFlags := fl
  thisClass := this
  superClass := sup
  interfaces := ifs
  fields := fds
  methods := ms
  attributes := attrs
def plain (name : String) (sup : Option ClassId) : Class where
  name := name
  kind := .ordinary
  loader := none
  accessFlags := 33
  super := sup
  interfaces := #[]
  cf := none
  fields := #[]
  methods := #[]
  instanceTypes := #[]
  staticTypes := #[]
  resolved := #[]
  callSites := []
  init := .initialized
  statics := none
  mirror := none

def pool0 : Array CpInfo := pool [(5, u "<init>"), (0, u "()V"), (1, .class_ 10), (1, u "java/lang/Object")] 113

def k0c0 : Code := { maxStack := 0, maxLocals := 1, code := object_method_1_code, exceptionTable := #[], attributes := #[] }
def k0m0 : Method := { name := "<init>", desc := "()V", sig := { parameters := [], returnType := none }, accessFlags := 1, code := some k0c0 }
/-- java/lang/Object -/
def k0 : Class := { plain "java/lang/Object" none with
  accessFlags := 33
  interfaces := #[]
  cf := some (fileOf pool0 8 #[] #[{ accessFlags := 1, nameIndex := 5, descriptorIndex := 6, attributes := #[] }] 33 0 #[] #[])
  fields := #[]
  methods := #[k0m0]
  instanceTypes := #[]
  staticTypes := #[]
  resolved := Array.replicate 124 none
  statics := none }

def pool1 : Array CpInfo := pool [(2, .class_ 4), (1, u "java/lang/Object"), (0, u "<init>"), (0, u "()V"), (0, .methodref 8 9), (0, .class_ 10), (0, .nameAndType 11 12), (0, u "com/example/favonius/favonius/phrank/VariantDefaultForPinLaw"), (0, u "pick"), (0, u "(IIJC)C"), (0, .class_ 14), (0, u "java/lang/String"), (0, .methodref 8 16), (0, .nameAndType 17 18), (0, u "cut"), (0, u "(I[C)[C"), (0, .methodref 13 20), (0, .nameAndType 5 21), (0, u "([C)V"), (0, .methodref 23 24), (0, .class_ 25), (0, .nameAndType 26 27), (0, u "com/example/favonius/favonius/phrank/Variant"), (0, u "defaultFor"), (0, u "(Ljava/lang/String;)Lcom/example/favonius/favonius/phrank/Variant;"), (0, .fieldref 23 29), (0, .nameAndType 30 31), (0, u "R_FREE"), (0, u "Lcom/example/favonius/favonius/phrank/Variant;"), (0, .fieldref 23 33), (0, .nameAndType 34 31), (0, u "Z_FREE"), (0, .long 255), (3, u "law"), (0, u "(IIJ)Z")] 5

def k1m0 : Method := { name := "<init>", desc := "()V", sig := { parameters := [], returnType := none }, accessFlags := 1, code := none }
def k1c1 : Code := { maxStack := 7, maxLocals := 10, code := code, exceptionTable := #[], attributes := #[] }
def k1m1 : Method := { name := "law", desc := "(IIJ)Z", sig := { parameters := [.int, .int, .long], returnType := some .boolean }, accessFlags := 9, code := some k1c1 }
def k1c2 : Code := { maxStack := 4, maxLocals := 5, code := method_3_code, exceptionTable := #[], attributes := #[] }
def k1m2 : Method := { name := "pick", desc := "(IIJC)C", sig := { parameters := [.int, .int, .long, .char], returnType := some .char }, accessFlags := 10, code := some k1c2 }
def k1c3 : Code := { maxStack := 5, maxLocals := 2, code := method_4_code, exceptionTable := #[], attributes := #[] }
def k1m3 : Method := { name := "cut", desc := "(I[C)[C", sig := { parameters := [.int, (.array .char)], returnType := some (.array .char) }, accessFlags := 10, code := some k1c3 }
/-- com/example/favonius/favonius/phrank/VariantDefaultForPinLaw -/
def k1 : Class := { plain "com/example/favonius/favonius/phrank/VariantDefaultForPinLaw" (some 0) with
  accessFlags := 49
  interfaces := #[]
  cf := some (fileOf pool1 8 #[] #[{ accessFlags := 1, nameIndex := 5, descriptorIndex := 6, attributes := #[] }, { accessFlags := 9, nameIndex := 39, descriptorIndex := 40, attributes := #[] }, { accessFlags := 10, nameIndex := 11, descriptorIndex := 12, attributes := #[] }, { accessFlags := 10, nameIndex := 17, descriptorIndex := 18, attributes := #[] }] 49 2 #[] #[])
  fields := #[]
  methods := #[k1m0, k1m1, k1m2, k1m3]
  instanceTypes := #[]
  staticTypes := #[]
  resolved := Array.replicate 46 none
  statics := none }

def pool2 : Array CpInfo := pool [(1, .class_ 2), (0, u "java/io/Serializable"), (0, .class_ 4), (0, u "java/lang/Object")] 2

/-- java/io/Serializable -/
def k2 : Class := { plain "java/io/Serializable" (some 0) with
  accessFlags := 1537
  interfaces := #[]
  cf := some (fileOf pool2 1 #[] #[] 1537 3 #[] #[])
  fields := #[]
  methods := #[]
  instanceTypes := #[]
  staticTypes := #[]
  resolved := Array.replicate 7 none
  statics := none }

def pool3 : Array CpInfo := pool [(1, .class_ 2), (0, u "java/lang/Comparable"), (0, .class_ 4), (0, u "java/lang/Object")] 7

/-- java/lang/Comparable -/
def k3 : Class := { plain "java/lang/Comparable" (some 0) with
  accessFlags := 1537
  interfaces := #[]
  cf := some (fileOf pool3 1 #[] #[] 1537 3 #[] #[])
  fields := #[]
  methods := #[]
  instanceTypes := #[]
  staticTypes := #[]
  resolved := Array.replicate 12 none
  statics := none }

def pool4 : Array CpInfo := pool [(2, .class_ 4), (1, u "java/lang/CharSequence"), (42, .class_ 48), (0, u "java/lang/CharSequence$1CodePointIterator"), (10, .class_ 60), (0, u "java/lang/CharSequence$1CharIterator"), (5, .class_ 67), (0, u "java/lang/Object")] 63

/-- java/lang/CharSequence -/
def k4 : Class := { plain "java/lang/CharSequence" (some 0) with
  accessFlags := 1537
  interfaces := #[]
  cf := some (fileOf pool4 2 #[.nestMembers #[47, 59]] #[] 1537 66 #[] #[])
  fields := #[]
  methods := #[]
  instanceTypes := #[]
  staticTypes := #[]
  resolved := Array.replicate 131 none
  statics := none }

def pool5 : Array CpInfo := pool [(1, .class_ 2), (0, u "java/lang/constant/Constable"), (0, .class_ 4), (0, u "java/lang/Object")] 6

/-- java/lang/constant/Constable -/
def k5 : Class := { plain "java/lang/constant/Constable" (some 0) with
  accessFlags := 1537
  interfaces := #[]
  cf := some (fileOf pool5 1 #[] #[] 1537 3 #[] #[])
  fields := #[]
  methods := #[]
  instanceTypes := #[]
  staticTypes := #[]
  resolved := Array.replicate 11 none
  statics := none }

def pool6 : Array CpInfo := pool [(1, .class_ 2), (0, u "java/lang/constant/ConstantDesc"), (0, .class_ 4), (0, u "java/lang/Object")] 32

/-- java/lang/constant/ConstantDesc -/
def k6 : Class := { plain "java/lang/constant/ConstantDesc" (some 0) with
  accessFlags := 1537
  interfaces := #[]
  cf := some (fileOf pool6 1 #[] #[] 1537 3 #[] #[])
  fields := #[]
  methods := #[]
  instanceTypes := #[]
  staticTypes := #[]
  resolved := Array.replicate 37 none
  statics := none }

def pool7 : Array CpInfo := pool [(1, .methodref 2 3), (0, .class_ 4), (0, .nameAndType 5 6), (0, u "java/lang/Object"), (0, u "<init>"), (0, u "()V"), (0, .string 8), (0, u ""), (0, .fieldref 10 11), (0, .class_ 12), (0, .nameAndType 13 14), (0, u "java/lang/String"), (0, u "value"), (0, u "[B"), (0, .fieldref 10 16), (0, .nameAndType 17 18), (0, u "coder"), (0, u "B"), (2, u "hash"), (0, u "I"), (2, u "hashIsZero"), (0, u "Z"), (0, .methodref 10 28), (0, .nameAndType 5 29), (0, u "([CIILjava/lang/Void;)V"), (8, .fieldref 10 39), (0, .nameAndType 40 26), (0, u "COMPACT_STRINGS"), (1, .class_ 44), (1, u "java/lang/StringUTF16"), (0, u "compress"), (1, .methodref 42 48), (0, .nameAndType 49 50), (0, u "coderFromArrayLen"), (0, u "([BI)B"), (56, .class_ 109), (1, u "java/lang/StringLatin1"), (67, .methodref 42 178), (0, .nameAndType 45 179), (0, u "([CII)[B"), (361, .methodref 107 542), (0, .nameAndType 543 544), (0, u "equals"), (0, u "([B[B)Z"), (28, u "(Ljava/lang/Object;)Z"), (1, .class_ 576), (0, u "java/lang/CharSequence"), (22, u "CASE_INSENSITIVE_ORDER"), (0, u "Ljava/util/Comparator;"), (409, u "([C)V"), (90, u "serialPersistentFields"), (0, u "[Ljava/io/ObjectStreamField;"), (0, .class_ 1104), (0, u "java/lang/String$CaseInsensitiveComparator"), (1, .class_ 1107), (0, u "java/io/Serializable"), (0, .class_ 1109), (0, u "java/lang/Comparable"), (0, .class_ 1111), (0, u "java/lang/constant/Constable"), (0, .class_ 1113), (0, u "java/lang/constant/ConstantDesc"), (2, u "serialVersionUID"), (0, u "J"), (3, u "REPL"), (0, u "C"), (2, u "LATIN1"), (1, u "UTF16")] 323

def k7m0 : Method := { name := "<init>", desc := "()V", sig := { parameters := [], returnType := none }, accessFlags := 1, code := none }
def k7c1 : Code := { maxStack := 5, maxLocals := 2, code := jdk_42_method_3_code, exceptionTable := #[], attributes := #[] }
def k7m1 : Method := { name := "<init>", desc := "([C)V", sig := { parameters := [(.array .char)], returnType := none }, accessFlags := 1, code := some k7c1 }
def k7c2 : Code := { maxStack := 2, maxLocals := 3, code := jdk_42_method_66_code, exceptionTable := #[], attributes := #[] }
def k7m2 : Method := { name := "equals", desc := "(Ljava/lang/Object;)Z", sig := { parameters := [(.object "java/lang/Object")], returnType := some .boolean }, accessFlags := 1, code := some k7c2 }
def k7c3 : Code := { maxStack := 4, maxLocals := 6, code := jdk_42_method_149_code, exceptionTable := #[], attributes := #[] }
def k7m3 : Method := { name := "<init>", desc := "([CIILjava/lang/Void;)V", sig := { parameters := [(.array .char), .int, .int, (.object "java/lang/Void")], returnType := none }, accessFlags := 2, code := some k7c3 }
/-- java/lang/String -/
def k7 : Class := { plain "java/lang/String" (some 0) with
  accessFlags := 49
  interfaces := #[2, 3, 4, 5, 6]
  cf := some (fileOf pool7 10 #[.nestMembers #[1103]] #[{ accessFlags := 1, nameIndex := 5, descriptorIndex := 6, attributes := #[] }, { accessFlags := 1, nameIndex := 5, descriptorIndex := 1010, attributes := #[] }, { accessFlags := 1, nameIndex := 543, descriptorIndex := 573, attributes := #[] }, { accessFlags := 2, nameIndex := 5, descriptorIndex := 29, attributes := #[] }] 49 2 #[1106, 1108, 575, 1110, 1112] #[{ accessFlags := 18, nameIndex := 13, descriptorIndex := 14, attributes := #[] }, { accessFlags := 18, nameIndex := 17, descriptorIndex := 18, attributes := #[] }, { accessFlags := 2, nameIndex := 21, descriptorIndex := 22, attributes := #[] }, { accessFlags := 2, nameIndex := 25, descriptorIndex := 26, attributes := #[] }, { accessFlags := 26, nameIndex := 1116, descriptorIndex := 1117, attributes := #[] }, { accessFlags := 24, nameIndex := 40, descriptorIndex := 26, attributes := #[] }, { accessFlags := 26, nameIndex := 1101, descriptorIndex := 1102, attributes := #[] }, { accessFlags := 26, nameIndex := 1121, descriptorIndex := 1122, attributes := #[] }, { accessFlags := 25, nameIndex := 599, descriptorIndex := 600, attributes := #[] }, { accessFlags := 24, nameIndex := 1125, descriptorIndex := 18, attributes := #[] }, { accessFlags := 24, nameIndex := 1127, descriptorIndex := 18, attributes := #[] }])
  fields := #[{ name := "value", type := (.array .byte), accessFlags := 18, slot := 0, constantValue := 0 }, { name := "coder", type := .byte, accessFlags := 18, slot := 1, constantValue := 0 }, { name := "hash", type := .int, accessFlags := 2, slot := 2, constantValue := 0 }, { name := "hashIsZero", type := .boolean, accessFlags := 2, slot := 3, constantValue := 0 }, { name := "serialVersionUID", type := .long, accessFlags := 26, slot := 0, constantValue := 0 }, { name := "COMPACT_STRINGS", type := .boolean, accessFlags := 24, slot := 1, constantValue := 0 }, { name := "serialPersistentFields", type := (.array (.object "java/io/ObjectStreamField")), accessFlags := 26, slot := 2, constantValue := 0 }, { name := "REPL", type := .char, accessFlags := 26, slot := 3, constantValue := 0 }, { name := "CASE_INSENSITIVE_ORDER", type := (.object "java/util/Comparator"), accessFlags := 25, slot := 4, constantValue := 0 }, { name := "LATIN1", type := .byte, accessFlags := 24, slot := 5, constantValue := 0 }, { name := "UTF16", type := .byte, accessFlags := 24, slot := 6, constantValue := 0 }]
  methods := #[k7m0, k7m1, k7m2, k7m3]
  instanceTypes := #[(.array .byte), .byte, .int, .boolean]
  staticTypes := #[.long, .boolean, (.array (.object "java/io/ObjectStreamField")), .char, (.object "java/util/Comparator"), .byte, .byte]
  resolved := Array.replicate 1451 none
  statics := some 0 }

def pool8 : Array CpInfo := pool [(2, .class_ 4), (1, u "java/lang/Enum"), (0, u "name"), (0, u "Ljava/lang/String;"), (2, u "ordinal"), (0, u "I"), (1, .class_ 14), (1, u "java/lang/Object"), (4, u "hash"), (86, .class_ 108), (1, u "java/lang/Enum$EnumDesc"), (2, .class_ 112), (0, u "java/lang/constant/Constable"), (0, .class_ 114), (0, u "java/lang/Comparable"), (0, .class_ 116), (0, u "java/io/Serializable")] 87

/-- java/lang/Enum -/
def k8 : Class := { plain "java/lang/Enum" (some 0) with
  accessFlags := 1057
  interfaces := #[5, 3, 2]
  cf := some (fileOf pool8 2 #[.nestMembers #[106]] #[] 1057 12 #[111, 113, 115] #[{ accessFlags := 18, nameIndex := 5, descriptorIndex := 6, attributes := #[] }, { accessFlags := 18, nameIndex := 9, descriptorIndex := 10, attributes := #[] }, { accessFlags := 2, nameIndex := 19, descriptorIndex := 10, attributes := #[] }])
  fields := #[{ name := "name", type := (.object "java/lang/String"), accessFlags := 18, slot := 0, constantValue := 0 }, { name := "ordinal", type := .int, accessFlags := 18, slot := 1, constantValue := 0 }, { name := "hash", type := .int, accessFlags := 2, slot := 2, constantValue := 0 }]
  methods := #[]
  instanceTypes := #[(.object "java/lang/String"), .int, .int]
  staticTypes := #[]
  resolved := Array.replicate 204 none
  statics := none }

def pool9 : Array CpInfo := pool [(1, .class_ 2), (0, u "com/example/favonius/favonius/phrank/Variant"), (2, u "PLAIN"), (0, u "Lcom/example/favonius/favonius/phrank/Variant;"), (0, .fieldref 1 8), (0, .nameAndType 9 6), (0, u "Z_FREE"), (0, .fieldref 1 11), (0, .nameAndType 12 6), (0, u "R_FREE"), (2, u "FULL"), (2, u "$VALUES"), (0, u "[Lcom/example/favonius/favonius/phrank/Variant;"), (6, .class_ 28), (1, u "java/lang/Enum"), (8, u "name"), (0, u "Ljava/lang/String;"), (2, u "bigramWeight"), (0, u "Z"), (2, u "windowWeight"), (0, .string 47), (0, u "title"), (0, .methodref 49 50), (0, .class_ 51), (0, .nameAndType 52 53), (0, u "java/lang/String"), (0, u "equals"), (0, u "(Ljava/lang/Object;)Z"), (22, u "(Ljava/lang/String;)Lcom/example/favonius/favonius/phrank/Variant;"), (3, u "defaultFor")] 11

def k9c0 : Code := { maxStack := 2, maxLocals := 1, code := prog_22_method_4_code, exceptionTable := #[], attributes := #[] }
def k9m0 : Method := { name := "defaultFor", desc := "(Ljava/lang/String;)Lcom/example/favonius/favonius/phrank/Variant;", sig := { parameters := [(.object "java/lang/String")], returnType := some (.object "com/example/favonius/favonius/phrank/Variant") }, accessFlags := 9, code := some k9c0 }
/-- com/example/favonius/favonius/phrank/Variant -/
def k9 : Class := { plain "com/example/favonius/favonius/phrank/Variant" (some 8) with
  accessFlags := 16433
  interfaces := #[]
  cf := some (fileOf pool9 1 #[] #[{ accessFlags := 9, nameIndex := 80, descriptorIndex := 76, attributes := #[] }] 16433 26 #[] #[{ accessFlags := 16409, nameIndex := 5, descriptorIndex := 6, attributes := #[] }, { accessFlags := 16409, nameIndex := 9, descriptorIndex := 6, attributes := #[] }, { accessFlags := 16409, nameIndex := 12, descriptorIndex := 6, attributes := #[] }, { accessFlags := 16409, nameIndex := 15, descriptorIndex := 6, attributes := #[] }, { accessFlags := 18, nameIndex := 37, descriptorIndex := 38, attributes := #[] }, { accessFlags := 18, nameIndex := 41, descriptorIndex := 42, attributes := #[] }, { accessFlags := 18, nameIndex := 45, descriptorIndex := 42, attributes := #[] }, { accessFlags := 4122, nameIndex := 18, descriptorIndex := 19, attributes := #[] }])
  fields := #[{ name := "PLAIN", type := (.object "com/example/favonius/favonius/phrank/Variant"), accessFlags := 16409, slot := 0, constantValue := 0 }, { name := "Z_FREE", type := (.object "com/example/favonius/favonius/phrank/Variant"), accessFlags := 16409, slot := 1, constantValue := 0 }, { name := "R_FREE", type := (.object "com/example/favonius/favonius/phrank/Variant"), accessFlags := 16409, slot := 2, constantValue := 0 }, { name := "FULL", type := (.object "com/example/favonius/favonius/phrank/Variant"), accessFlags := 16409, slot := 3, constantValue := 0 }, { name := "name", type := (.object "java/lang/String"), accessFlags := 18, slot := 3, constantValue := 0 }, { name := "bigramWeight", type := .boolean, accessFlags := 18, slot := 4, constantValue := 0 }, { name := "windowWeight", type := .boolean, accessFlags := 18, slot := 5, constantValue := 0 }, { name := "$VALUES", type := (.array (.object "com/example/favonius/favonius/phrank/Variant")), accessFlags := 4122, slot := 4, constantValue := 0 }]
  methods := #[k9m0]
  instanceTypes := #[(.object "java/lang/String"), .int, .int, (.object "java/lang/String"), .boolean, .boolean]
  staticTypes := #[(.object "com/example/favonius/favonius/phrank/Variant"), (.object "com/example/favonius/favonius/phrank/Variant"), (.object "com/example/favonius/favonius/phrank/Variant"), (.object "com/example/favonius/favonius/phrank/Variant"), (.array (.object "com/example/favonius/favonius/phrank/Variant"))]
  resolved := Array.replicate 92 none
  statics := some 1 }

def pool10 : Array CpInfo := pool [(4, .class_ 6), (1, u "java/lang/Object"), (0, u "<init>"), (0, u "()V"), (5, .class_ 16), (1, u "java/lang/StringLatin1"), (104, u "$assertionsDisabled"), (0, u "Z"), (98, .class_ 223), (1, u "java/lang/StringLatin1$LinesSpliterator"), (57, u "equals"), (0, u "([B[B)Z"), (107, .class_ 391), (0, u "java/lang/StringLatin1$CharsSpliterator")] 3

def k10m0 : Method := { name := "<init>", desc := "()V", sig := { parameters := [], returnType := none }, accessFlags := 0, code := none }
def k10c1 : Code := { maxStack := 3, maxLocals := 3, code := jdk_43_method_13_code, exceptionTable := #[], attributes := #[] }
def k10m1 : Method := { name := "equals", desc := "([B[B)Z", sig := { parameters := [(.array .byte), (.array .byte)], returnType := some .boolean }, accessFlags := 9, code := some k10c1 }
/-- java/lang/StringLatin1 -/
def k10 : Class := { plain "java/lang/StringLatin1" (some 0) with
  accessFlags := 48
  interfaces := #[]
  cf := some (fileOf pool10 14 #[.nestMembers #[390, 221]] #[{ accessFlags := 0, nameIndex := 7, descriptorIndex := 8, attributes := #[] }, { accessFlags := 9, nameIndex := 281, descriptorIndex := 282, attributes := #[] }] 48 4 #[] #[{ accessFlags := 4120, nameIndex := 121, descriptorIndex := 122, attributes := #[] }])
  fields := #[{ name := "$assertionsDisabled", type := .boolean, accessFlags := 4120, slot := 0, constantValue := 0 }]
  methods := #[k10m0, k10m1]
  instanceTypes := #[]
  staticTypes := #[.boolean]
  resolved := Array.replicate 395 none
  statics := none }

def pool11 : Array CpInfo := pool [(6, .class_ 8), (1, u "java/lang/Object"), (0, u "<init>"), (0, u "()V"), (1, .class_ 14), (1, u "java/lang/StringUTF16"), (31, u "$assertionsDisabled"), (0, u "Z"), (13, u "HI_BYTE_SHIFT"), (0, u "I"), (2, u "LO_BYTE_SHIFT"), (49, .methodref 12 116), (0, .nameAndType 117 118), (0, u "compress"), (0, u "([CI[BII)I"), (3, u "([CII)[B"), (138, u "coderFromArrayLen"), (0, u "([BI)B"), (106, .class_ 371), (1, u "java/lang/StringUTF16$LinesSpliterator"), (58, u "MAX_LENGTH"), (196, .class_ 628), (0, u "java/lang/StringUTF16$CodePointsSpliterator"), (0, .class_ 630), (0, u "java/lang/StringUTF16$CharsSpliterator")] 4

def k11m0 : Method := { name := "<init>", desc := "()V", sig := { parameters := [], returnType := none }, accessFlags := 0, code := none }
def k11c1 : Code := { maxStack := 2, maxLocals := 2, code := jdk_52_method_15_code, exceptionTable := #[], attributes := #[] }
def k11m1 : Method := { name := "coderFromArrayLen", desc := "([BI)B", sig := { parameters := [(.array .byte), .int], returnType := some .byte }, accessFlags := 8, code := some k11c1 }
def k11c2 : Code := { maxStack := 5, maxLocals := 6, code := jdk_52_method_16_code, exceptionTable := #[], attributes := #[] }
def k11m2 : Method := { name := "compress", desc := "([CII)[B", sig := { parameters := [(.array .char), .int, .int], returnType := some (.array .byte) }, accessFlags := 9, code := some k11c2 }
def k11c3 : Code := { maxStack := 3, maxLocals := 7, code := jdk_52_method_21_code, exceptionTable := #[], attributes := #[] }
def k11m3 : Method := { name := "compress", desc := "([CI[BII)I", sig := { parameters := [(.array .char), .int, (.array .byte), .int, .int], returnType := some .int }, accessFlags := 9, code := some k11c3 }
/-- java/lang/StringUTF16 -/
def k11 : Class := { plain "java/lang/StringUTF16" (some 0) with
  accessFlags := 48
  interfaces := #[]
  cf := some (fileOf pool11 12 #[.nestMembers #[627, 629, 369]] #[{ accessFlags := 0, nameIndex := 9, descriptorIndex := 10, attributes := #[] }, { accessFlags := 8, nameIndex := 261, descriptorIndex := 262, attributes := #[] }, { accessFlags := 9, nameIndex := 117, descriptorIndex := 122, attributes := #[] }, { accessFlags := 9, nameIndex := 117, descriptorIndex := 118, attributes := #[] }] 48 6 #[] #[{ accessFlags := 26, nameIndex := 61, descriptorIndex := 62, attributes := #[] }, { accessFlags := 26, nameIndex := 65, descriptorIndex := 62, attributes := #[] }, { accessFlags := 24, nameIndex := 430, descriptorIndex := 62, attributes := #[] }, { accessFlags := 4120, nameIndex := 46, descriptorIndex := 47, attributes := #[] }])
  fields := #[{ name := "HI_BYTE_SHIFT", type := .int, accessFlags := 26, slot := 0, constantValue := 0 }, { name := "LO_BYTE_SHIFT", type := .int, accessFlags := 26, slot := 1, constantValue := 0 }, { name := "MAX_LENGTH", type := .int, accessFlags := 24, slot := 2, constantValue := 0 }, { name := "$assertionsDisabled", type := .boolean, accessFlags := 4120, slot := 3, constantValue := 0 }]
  methods := #[k11m0, k11m1, k11m2, k11m3]
  instanceTypes := #[]
  staticTypes := #[.int, .int, .int, .boolean]
  resolved := Array.replicate 635 none
  statics := none }

def pool12 : Array CpInfo := pool [(2, .class_ 4), (1, u "java/lang/Object"), (0, u "<init>"), (0, u "()V"), (17, .class_ 26), (1, u "jdk/internal/util/Preconditions"), (28, .class_ 56), (0, u "jdk/internal/util/Preconditions$4"), (57, .class_ 115), (0, u "jdk/internal/util/Preconditions$1"), (7, u "SIOOBE_FORMATTER"), (0, u "Ljava/util/function/BiFunction;"), (0, .class_ 126), (0, u "jdk/internal/util/Preconditions$2"), (3, u "AIOOBE_FORMATTER"), (0, .class_ 132), (0, u "jdk/internal/util/Preconditions$3"), (3, u "IOOBE_FORMATTER")] 57

def k12m0 : Method := { name := "<init>", desc := "()V", sig := { parameters := [], returnType := none }, accessFlags := 1, code := none }
/-- jdk/internal/util/Preconditions -/
def k12 : Class := { plain "jdk/internal/util/Preconditions" (some 0) with
  accessFlags := 33
  interfaces := #[]
  cf := some (fileOf pool12 24 #[.nestMembers #[55, 131, 125, 114]] #[{ accessFlags := 1, nameIndex := 5, descriptorIndex := 6, attributes := #[] }] 33 2 #[] #[{ accessFlags := 25, nameIndex := 123, descriptorIndex := 124, attributes := #[] }, { accessFlags := 25, nameIndex := 130, descriptorIndex := 124, attributes := #[] }, { accessFlags := 25, nameIndex := 136, descriptorIndex := 124, attributes := #[] }])
  fields := #[{ name := "SIOOBE_FORMATTER", type := (.object "java/util/function/BiFunction"), accessFlags := 25, slot := 0, constantValue := 0 }, { name := "AIOOBE_FORMATTER", type := (.object "java/util/function/BiFunction"), accessFlags := 25, slot := 1, constantValue := 0 }, { name := "IOOBE_FORMATTER", type := (.object "java/util/function/BiFunction"), accessFlags := 25, slot := 2, constantValue := 0 }]
  methods := #[k12m0]
  instanceTypes := #[]
  staticTypes := #[(.object "java/util/function/BiFunction"), (.object "java/util/function/BiFunction"), (.object "java/util/function/BiFunction")]
  resolved := Array.replicate 194 none
  statics := some 2 }

def pool13 : Array CpInfo := pool [(9, u "<init>"), (6, .class_ 18), (1, u "java/lang/Object"), (0, u "()V"), (1, .class_ 23), (1, u "jdk/internal/util/ArraysSupport"), (0, u "LOG2_ARRAY_LONG_INDEX_SCALE"), (0, u "I"), (2, u "U"), (0, u "Ljdk/internal/misc/Unsafe;"), (8, u "BIG_ENDIAN"), (0, u "Z"), (8, u "LOG2_BYTE_BIT_SIZE"), (4, u "LOG2_ARRAY_INT_INDEX_SCALE"), (54, u "JLA"), (0, u "Ljdk/internal/access/JavaLangAccess;"), (11, u "LOG2_ARRAY_BOOLEAN_INDEX_SCALE"), (9, u "LOG2_ARRAY_BYTE_INDEX_SCALE"), (5, u "LOG2_ARRAY_CHAR_INDEX_SCALE"), (5, u "LOG2_ARRAY_SHORT_INDEX_SCALE"), (18, u "LOG2_ARRAY_FLOAT_INDEX_SCALE"), (24, u "LOG2_ARRAY_DOUBLE_INDEX_SCALE"), (89, u "T_BOOLEAN"), (2, u "T_CHAR"), (1, u "T_FLOAT"), (1, u "T_DOUBLE"), (1, u "T_BYTE"), (1, u "T_SHORT"), (1, u "T_INT"), (1, u "T_LONG"), (1, u "SOFT_MAX_ARRAY_LENGTH")] 83

def k13m0 : Method := { name := "<init>", desc := "()V", sig := { parameters := [], returnType := none }, accessFlags := 2, code := none }
/-- jdk/internal/util/ArraysSupport -/
def k13 : Class := { plain "jdk/internal/util/ArraysSupport" (some 0) with
  accessFlags := 33
  interfaces := #[]
  cf := some (fileOf pool13 21 #[] #[{ accessFlags := 2, nameIndex := 9, descriptorIndex := 19, attributes := #[] }] 33 16 #[] #[{ accessFlags := 24, nameIndex := 28, descriptorIndex := 29, attributes := #[] }, { accessFlags := 26, nameIndex := 38, descriptorIndex := 39, attributes := #[] }, { accessFlags := 25, nameIndex := 121, descriptorIndex := 25, attributes := #[] }, { accessFlags := 25, nameIndex := 131, descriptorIndex := 25, attributes := #[] }, { accessFlags := 25, nameIndex := 137, descriptorIndex := 25, attributes := #[] }, { accessFlags := 25, nameIndex := 143, descriptorIndex := 25, attributes := #[] }, { accessFlags := 25, nameIndex := 53, descriptorIndex := 25, attributes := #[] }, { accessFlags := 25, nameIndex := 24, descriptorIndex := 25, attributes := #[] }, { accessFlags := 25, nameIndex := 162, descriptorIndex := 25, attributes := #[] }, { accessFlags := 25, nameIndex := 187, descriptorIndex := 25, attributes := #[] }, { accessFlags := 26, nameIndex := 48, descriptorIndex := 25, attributes := #[] }, { accessFlags := 25, nameIndex := 277, descriptorIndex := 25, attributes := #[] }, { accessFlags := 25, nameIndex := 280, descriptorIndex := 25, attributes := #[] }, { accessFlags := 25, nameIndex := 282, descriptorIndex := 25, attributes := #[] }, { accessFlags := 25, nameIndex := 284, descriptorIndex := 25, attributes := #[] }, { accessFlags := 25, nameIndex := 286, descriptorIndex := 25, attributes := #[] }, { accessFlags := 25, nameIndex := 288, descriptorIndex := 25, attributes := #[] }, { accessFlags := 25, nameIndex := 290, descriptorIndex := 25, attributes := #[] }, { accessFlags := 25, nameIndex := 292, descriptorIndex := 25, attributes := #[] }, { accessFlags := 26, nameIndex := 108, descriptorIndex := 109, attributes := #[] }, { accessFlags := 25, nameIndex := 294, descriptorIndex := 25, attributes := #[] }])
  fields := #[{ name := "U", type := (.object "jdk/internal/misc/Unsafe"), accessFlags := 24, slot := 0, constantValue := 0 }, { name := "BIG_ENDIAN", type := .boolean, accessFlags := 26, slot := 1, constantValue := 0 }, { name := "LOG2_ARRAY_BOOLEAN_INDEX_SCALE", type := .int, accessFlags := 25, slot := 2, constantValue := 0 }, { name := "LOG2_ARRAY_BYTE_INDEX_SCALE", type := .int, accessFlags := 25, slot := 3, constantValue := 0 }, { name := "LOG2_ARRAY_CHAR_INDEX_SCALE", type := .int, accessFlags := 25, slot := 4, constantValue := 0 }, { name := "LOG2_ARRAY_SHORT_INDEX_SCALE", type := .int, accessFlags := 25, slot := 5, constantValue := 0 }, { name := "LOG2_ARRAY_INT_INDEX_SCALE", type := .int, accessFlags := 25, slot := 6, constantValue := 0 }, { name := "LOG2_ARRAY_LONG_INDEX_SCALE", type := .int, accessFlags := 25, slot := 7, constantValue := 0 }, { name := "LOG2_ARRAY_FLOAT_INDEX_SCALE", type := .int, accessFlags := 25, slot := 8, constantValue := 0 }, { name := "LOG2_ARRAY_DOUBLE_INDEX_SCALE", type := .int, accessFlags := 25, slot := 9, constantValue := 0 }, { name := "LOG2_BYTE_BIT_SIZE", type := .int, accessFlags := 26, slot := 10, constantValue := 0 }, { name := "T_BOOLEAN", type := .int, accessFlags := 25, slot := 11, constantValue := 0 }, { name := "T_CHAR", type := .int, accessFlags := 25, slot := 12, constantValue := 0 }, { name := "T_FLOAT", type := .int, accessFlags := 25, slot := 13, constantValue := 0 }, { name := "T_DOUBLE", type := .int, accessFlags := 25, slot := 14, constantValue := 0 }, { name := "T_BYTE", type := .int, accessFlags := 25, slot := 15, constantValue := 0 }, { name := "T_SHORT", type := .int, accessFlags := 25, slot := 16, constantValue := 0 }, { name := "T_INT", type := .int, accessFlags := 25, slot := 17, constantValue := 0 }, { name := "T_LONG", type := .int, accessFlags := 25, slot := 18, constantValue := 0 }, { name := "JLA", type := (.object "jdk/internal/access/JavaLangAccess"), accessFlags := 26, slot := 19, constantValue := 0 }, { name := "SOFT_MAX_ARRAY_LENGTH", type := .int, accessFlags := 25, slot := 20, constantValue := 0 }]
  methods := #[k13m0]
  instanceTypes := #[]
  staticTypes := #[(.object "jdk/internal/misc/Unsafe"), .boolean, .int, .int, .int, .int, .int, .int, .int, .int, .int, .int, .int, .int, .int, .int, .int, .int, .int, (.object "jdk/internal/access/JavaLangAccess"), .int]
  resolved := Array.replicate 378 none
  statics := none }

def pool14 : Array CpInfo := pool [(1, u "java/lang/Cloneable"), (0, .class_ 1), (0, u "java/lang/Object"), (0, .class_ 3)] 3

/-- java/lang/Cloneable -/
def k14 : Class := { plain "java/lang/Cloneable" (some 0) with
  accessFlags := 1537
  interfaces := #[]
  cf := some (fileOf pool14 2 #[] #[] 1537 4 #[] #[])
  fields := #[]
  methods := #[]
  instanceTypes := #[]
  staticTypes := #[]
  resolved := Array.replicate 8 none
  statics := none }

/-- the primitive byte -/
def k15 : Class := { plain "byte" none with kind := .primitive 'B', accessFlags := 0x411 }
/-- [B -/
def k16 : Class := { plain "[B" (some 0) with kind := .array 15 .byte, interfaces := #[14, 2], accessFlags := 1041 }

/-- the primitive char -/
def k17 : Class := { plain "char" none with kind := .primitive 'C', accessFlags := 0x411 }
/-- [C -/
def k18 : Class := { plain "[C" (some 0) with kind := .array 17 .char, interfaces := #[14, 2], accessFlags := 1041 }

/-- the primitive int -/
def k19 : Class := { plain "int" none with kind := .primitive 'I', accessFlags := 0x411 }
/-- [I -/
def k20 : Class := { plain "[I" (some 0) with kind := .array 19 .int, interfaces := #[14, 2], accessFlags := 1041 }

def heap : Heap := #[{ cls := 7, slots := #[.long 0, .int 1, .null, .int 0, .null, .int 0, .int 0], vm := .statics 7 },
  { cls := 9, slots := #[.null, .ref 3, .ref 4, .null, .null], vm := .statics 9 },
  { cls := 12, slots := #[.null, .null, .null], vm := .statics 12 },
  { cls := 9, slots := #[.null, .int 0, .int 0, .null, .int 0, .int 0], vm := .none },
  { cls := 9, slots := #[.null, .int 0, .int 0, .null, .int 0, .int 0], vm := .none }]
def classes : Array Class := #[k0, k1, k2, k3, k4, k5, k6, k7, k8, k9, k10, k11, k12, k13, k14, k15, k16, k17, k18, k19, k20]
def interned : List (Array UInt16 × Addr) := []
def slotsUsed : Nat := 27
def theMethod : MethodId := ⟨1, 1⟩
def args0 : Array Value := #[.int 5, .int 5, .long 7]
def aboutOver (below : List Frame) : State where
  vm := { classes := classes, interned := interned.toArray }
  heap := heap
  slotsUsed := slotsUsed
  threads := #[{ frames := .invoking theMethod args0 :: below }]
def below0 : List Frame := [.native { method := ⟨0, 0⟩, args := #[] }]
def about1 : State := aboutOver below0
def p0 : Program := .bare "" "" ""
def e0 : Env := launch0.env 0 0 0
theorem w_frames : about1.frames = Frame.invoking theMethod args0 :: below0 := rfl
set_option maxRecDepth 65536 in
theorem w_args : argsFit about1.vm theMethod args0 = true := by decide +kernel
set_option maxRecDepth 65536 in
theorem w_heap : heapFits about1 = true := by decide +kernel
set_option maxRecDepth 65536 in
theorem w_runnable : about1.curStatus? = some .runnable := by decide +kernel
set_option maxRecDepth 65536 in
theorem w_alone : about1.alone = true := by decide +kernel
set_option maxRecDepth 65536 in
theorem w_named : about1.methodNamed? x = some theMethod := by decide +kernel
set_option maxRecDepth 65536 in
theorem w_hears : about1.hears theMethod below0 = true := by decide +kernel
set_option maxRecDepth 65536 in
theorem w_ripe : about1.ripe theMethod args0 below0 = true := by decide +kernel
theorem w_running : about1.status = .running := rfl
set_option maxRecDepth 65536 in
theorem w_room : about1.hasRoom e0.platform room_1 = true :=
  launch0.hasRoom_least _ room_1 (by decide +kernel) (by decide +kernel) (by decide +kernel) (by decide +kernel) (by decide +kernel) (by decide +kernel)
theorem allAtoms_all (ts : List Jvm.Cond) (a : Array Jvm.Value) (st : Jvm.State) : (allAtoms ts).before a st = ts.all (fun c => c.before a st) := by
  induction ts with
  | nil => rfl
  | cons c t ih =>
    show (Jvm.Cond.and c (allAtoms t)).before a st = _
    rw [Jvm.Cond.before_and, ih, List.all_cons]
def words1 : List Jvm.Cond := Jvm.Cond.code x code maxLocals ret :: tables_1
/-- a 'code' word, met by the world's own term for the bytes: nothing is compared byte by byte -/
theorem code_word {y : MethodName} {bytes : ByteArray} {mx : Nat} {rt : Option FieldType} {a : Array Value} {s : State} {m : MethodId} {meth : Method} {c : Code} (h1 : s.methodNamed? y = some m) (h2 : s.vm.method? m = some meth) (h3 : meth.code = some c) (h4 : c.code = bytes)
    (h5 : (c.maxLocals == mx && c.exceptionTable.isEmpty && decide (c.maxStack ≤ mostOperands) && decide (meth.sig.returnType = rt) && !meth.locks && decide (parseMethodDescriptor y.desc = some meth.sig)) = true) : (Jvm.Cond.code y bytes mx rt).before a s = true := by
  simp only [Bool.and_eq_true, beq_iff_eq, Bool.not_eq_true', decide_eq_true_eq] at h5
  obtain ⟨⟨⟨⟨⟨g1, g2⟩, g3⟩, g4⟩, g5⟩, g6⟩ := h5
  simp [Cond.before, Cond.holds, Cond.value, h1, h2, h3, h4, g1, g2, g3, g4, g5, g6]
def isCode : Jvm.Cond → Bool
  | .code _ _ _ _ => true
  | _ => false
theorem all_split {L : List Jvm.Cond} {P : Jvm.Cond → Bool} (h1 : L.all (fun c => isCode c || P c) = true) (h2 : ∀ c ∈ L.filter isCode, P c = true) : L.all P = true := by
  refine List.all_eq_true.mpr fun c hc => ?_
  have h := List.all_eq_true.mp h1 c hc
  rcases Bool.eq_false_or_eq_true (isCode c) with hi | hi
  · exact h2 c (List.mem_filter.mpr ⟨hc, hi⟩)
  · simpa [hi] using h
set_option maxRecDepth 65536 in
theorem w_c0 : (Jvm.Cond.code x code maxLocals ret).before args0 about1 = true := code_word (m := ⟨1, 1⟩) (meth := k1m1) (c := k1c1) (by decide +kernel) rfl rfl rfl (by decide +kernel)
set_option maxRecDepth 65536 in
theorem w_c1 : (Jvm.Cond.code ({ cls := "com/example/favonius/favonius/phrank/VariantDefaultForPinLaw", name := "pick", desc := "(IIJC)C" } : Jvm.MethodName) method_3_code (5 : Nat) (Option.some Jvm.ClassFile.FieldType.char)).before args0 about1 = true := code_word (m := ⟨1, 2⟩) (meth := k1m2) (c := k1c2) (by decide +kernel) rfl rfl rfl (by decide +kernel)
set_option maxRecDepth 65536 in
theorem w_c2 : (Jvm.Cond.code ({ cls := "com/example/favonius/favonius/phrank/VariantDefaultForPinLaw", name := "cut", desc := "(I[C)[C" } : Jvm.MethodName) method_4_code (2 : Nat) (Option.some (Jvm.ClassFile.FieldType.array Jvm.ClassFile.FieldType.char))).before args0 about1 = true := code_word (m := ⟨1, 3⟩) (meth := k1m3) (c := k1c3) (by decide +kernel) rfl rfl rfl (by decide +kernel)
set_option maxRecDepth 65536 in
theorem w_c3 : (Jvm.Cond.code ({ cls := "java/lang/String", name := "<init>", desc := "([C)V" } : Jvm.MethodName) jdk_42_method_3_code (2 : Nat) (Option.none : Option Jvm.ClassFile.FieldType)).before args0 about1 = true := code_word (m := ⟨7, 1⟩) (meth := k7m1) (c := k7c1) (by decide +kernel) rfl rfl rfl (by decide +kernel)
set_option maxRecDepth 65536 in
theorem w_c4 : (Jvm.Cond.code ({ cls := "java/lang/String", name := "<init>", desc := "([CIILjava/lang/Void;)V" } : Jvm.MethodName) jdk_42_method_149_code (6 : Nat) (Option.none : Option Jvm.ClassFile.FieldType)).before args0 about1 = true := code_word (m := ⟨7, 3⟩) (meth := k7m3) (c := k7c3) (by decide +kernel) rfl rfl rfl (by decide +kernel)
set_option maxRecDepth 65536 in
theorem w_c5 : (Jvm.Cond.code ({ cls := "java/lang/Object", name := "<init>", desc := "()V" } : Jvm.MethodName) object_method_1_code (1 : Nat) (Option.none : Option Jvm.ClassFile.FieldType)).before args0 about1 = true := code_word (m := ⟨0, 0⟩) (meth := k0m0) (c := k0c0) (by decide +kernel) rfl rfl rfl (by decide +kernel)
set_option maxRecDepth 65536 in
theorem w_c6 : (Jvm.Cond.code ({ cls := "com/example/favonius/favonius/phrank/Variant", name := "defaultFor", desc := "(Ljava/lang/String;)Lcom/example/favonius/favonius/phrank/Variant;" } : Jvm.MethodName) prog_22_method_4_code (1 : Nat) (Option.some (Jvm.ClassFile.FieldType.object "com/example/favonius/favonius/phrank/Variant"))).before args0 about1 = true := code_word (m := ⟨9, 0⟩) (meth := k9m0) (c := k9c0) (by decide +kernel) rfl rfl rfl (by decide +kernel)
set_option maxRecDepth 65536 in
theorem w_c7 : (Jvm.Cond.code ({ cls := "java/lang/String", name := "equals", desc := "(Ljava/lang/Object;)Z" } : Jvm.MethodName) jdk_42_method_66_code (3 : Nat) (Option.some Jvm.ClassFile.FieldType.boolean)).before args0 about1 = true := code_word (m := ⟨7, 2⟩) (meth := k7m2) (c := k7c2) (by decide +kernel) rfl rfl rfl (by decide +kernel)
set_option maxRecDepth 65536 in
theorem w_c8 : (Jvm.Cond.code ({ cls := "java/lang/StringLatin1", name := "equals", desc := "([B[B)Z" } : Jvm.MethodName) jdk_43_method_13_code (3 : Nat) (Option.some Jvm.ClassFile.FieldType.boolean)).before args0 about1 = true := code_word (m := ⟨10, 1⟩) (meth := k10m1) (c := k10c1) (by decide +kernel) rfl rfl rfl (by decide +kernel)
set_option maxRecDepth 65536 in
theorem w_c9 : (Jvm.Cond.code ({ cls := "java/lang/StringUTF16", name := "compress", desc := "([CII)[B" } : Jvm.MethodName) jdk_52_method_16_code (6 : Nat) (Option.some (Jvm.ClassFile.FieldType.array Jvm.ClassFile.FieldType.byte))).before args0 about1 = true := code_word (m := ⟨11, 2⟩) (meth := k11m2) (c := k11c2) (by decide +kernel) rfl rfl rfl (by decide +kernel)
set_option maxRecDepth 65536 in
theorem w_c10 : (Jvm.Cond.code ({ cls := "java/lang/StringUTF16", name := "compress", desc := "([CI[BII)I" } : Jvm.MethodName) jdk_52_method_21_code (7 : Nat) (Option.some Jvm.ClassFile.FieldType.int)).before args0 about1 = true := code_word (m := ⟨11, 3⟩) (meth := k11m3) (c := k11c3) (by decide +kernel) rfl rfl rfl (by decide +kernel)
set_option maxRecDepth 65536 in
theorem w_c11 : (Jvm.Cond.code ({ cls := "java/lang/StringUTF16", name := "coderFromArrayLen", desc := "([BI)B" } : Jvm.MethodName) jdk_52_method_15_code (2 : Nat) (Option.some Jvm.ClassFile.FieldType.byte)).before args0 about1 = true := code_word (m := ⟨11, 1⟩) (meth := k11m1) (c := k11c1) (by decide +kernel) rfl rfl rfl (by decide +kernel)
def codes1 : List Jvm.Cond := [Jvm.Cond.code x code maxLocals ret, Jvm.Cond.code ({ cls := "com/example/favonius/favonius/phrank/VariantDefaultForPinLaw", name := "pick", desc := "(IIJC)C" } : Jvm.MethodName) method_3_code (5 : Nat) (Option.some Jvm.ClassFile.FieldType.char), Jvm.Cond.code ({ cls := "com/example/favonius/favonius/phrank/VariantDefaultForPinLaw", name := "cut", desc := "(I[C)[C" } : Jvm.MethodName) method_4_code (2 : Nat) (Option.some (Jvm.ClassFile.FieldType.array Jvm.ClassFile.FieldType.char)), Jvm.Cond.code ({ cls := "java/lang/String", name := "<init>", desc := "([C)V" } : Jvm.MethodName) jdk_42_method_3_code (2 : Nat) (Option.none : Option Jvm.ClassFile.FieldType), Jvm.Cond.code ({ cls := "java/lang/String", name := "<init>", desc := "([CIILjava/lang/Void;)V" } : Jvm.MethodName) jdk_42_method_149_code (6 : Nat) (Option.none : Option Jvm.ClassFile.FieldType), Jvm.Cond.code ({ cls := "java/lang/Object", name := "<init>", desc := "()V" } : Jvm.MethodName) object_method_1_code (1 : Nat) (Option.none : Option Jvm.ClassFile.FieldType), Jvm.Cond.code ({ cls := "com/example/favonius/favonius/phrank/Variant", name := "defaultFor", desc := "(Ljava/lang/String;)Lcom/example/favonius/favonius/phrank/Variant;" } : Jvm.MethodName) prog_22_method_4_code (1 : Nat) (Option.some (Jvm.ClassFile.FieldType.object "com/example/favonius/favonius/phrank/Variant")), Jvm.Cond.code ({ cls := "java/lang/String", name := "equals", desc := "(Ljava/lang/Object;)Z" } : Jvm.MethodName) jdk_42_method_66_code (3 : Nat) (Option.some Jvm.ClassFile.FieldType.boolean), Jvm.Cond.code ({ cls := "java/lang/StringLatin1", name := "equals", desc := "([B[B)Z" } : Jvm.MethodName) jdk_43_method_13_code (3 : Nat) (Option.some Jvm.ClassFile.FieldType.boolean), Jvm.Cond.code ({ cls := "java/lang/StringUTF16", name := "compress", desc := "([CII)[B" } : Jvm.MethodName) jdk_52_method_16_code (6 : Nat) (Option.some (Jvm.ClassFile.FieldType.array Jvm.ClassFile.FieldType.byte)), Jvm.Cond.code ({ cls := "java/lang/StringUTF16", name := "compress", desc := "([CI[BII)I" } : Jvm.MethodName) jdk_52_method_21_code (7 : Nat) (Option.some Jvm.ClassFile.FieldType.int), Jvm.Cond.code ({ cls := "java/lang/StringUTF16", name := "coderFromArrayLen", desc := "([BI)B" } : Jvm.MethodName) jdk_52_method_15_code (2 : Nat) (Option.some Jvm.ClassFile.FieldType.byte)]
set_option maxRecDepth 65536 in
theorem codes_eq : words1.filter isCode = codes1 := rfl
theorem w_codes : ∀ c ∈ words1.filter isCode, c.before args0 about1 = true := by
  rw [codes_eq]
  intro c hc
  simp only [codes1, List.mem_cons, List.not_mem_nil, or_false] at hc
  rcases hc with rfl | rfl | rfl | rfl | rfl | rfl | rfl | rfl | rfl | rfl | rfl | rfl
  · exact w_c0
  · exact w_c1
  · exact w_c2
  · exact w_c3
  · exact w_c4
  · exact w_c5
  · exact w_c6
  · exact w_c7
  · exact w_c8
  · exact w_c9
  · exact w_c10
  · exact w_c11
set_option maxRecDepth 65536 in
theorem w_t1 : (words1.take 24).all (fun c => isCode c || c.before args0 about1) = true := by decide +kernel
set_option maxRecDepth 65536 in
theorem w_t2 : ((words1.drop 24).take 24).all (fun c => isCode c || c.before args0 about1) = true := by decide +kernel
set_option maxRecDepth 65536 in
theorem w_t3 : ((words1.drop 24).drop 24).all (fun c => isCode c || c.before args0 about1) = true := by decide +kernel
theorem w_tables : (allAtoms (Jvm.Cond.code x code maxLocals ret :: tables_1)).before args0 about1 = true := by
  rw [allAtoms_all]
  show words1.all (fun c => c.before args0 about1) = true
  refine all_split ?_ w_codes
  rw [← List.take_append_drop 24 words1, List.all_append, w_t1, ← List.take_append_drop 24 (words1.drop 24), List.all_append, w_t2, w_t3]
  rfl
set_option maxRecDepth 65536 in
theorem w_rest : rest_1_c.before args0 about1 = true := by decide +kernel
set_option maxRecDepth 65536 in
theorem w_case : (Jvm.Cond.and given_1 narrow_1).before args0 about1 = true := by decide +kernel
set_option maxRecDepth 65536 in
theorem w_consts : constsHeld consts_1 about1 := Jvm.Lit.constsHeldB_iff.mp (by decide +kernel)
theorem w_applies : (headSpec (Jvm.Cond.code x code maxLocals ret :: tables_1) room_1).applies x e0.platform about1 = true :=
  (Spec.applies_iff w_frames).mpr ⟨w_running, w_runnable, w_alone, w_named, w_hears, w_ripe, w_room, w_tables⟩
theorem atStart : AtStart classFile x code maxLocals ret World_1 tables_1 room_1 Calls_1 rest_1 Pre_1 launch0 p0 e0 about1 theMethod args0 below0 :=
  ⟨lists_1, trivial, launch0.admits_env _ _ _, launch0.least_env, fairChoices_fair.cas, fairChoices_fair.clock, w_frames, w_args, w_heap, w_applies, ⟨w_consts, trivial⟩, w_rest, w_case⟩
end start1
theorem witness_1 : WitnessClaimed_1 := ⟨start1.p0, start1.e0, start1.about1, start1.theMethod, start1.args0, start1.below0, start1.atStart⟩
end Jvm.Pilot.@@N@@
