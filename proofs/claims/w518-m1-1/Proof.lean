import JvmDerived
import JvmDerived.Pilot.@@N@@Statement
import JvmDerived.Pilot.@@N@@Code
set_option linter.unusedVariables false
set_option linter.unusedSimpArgs false
/- laws to paste: Road.backV (cut by pick.py; bodies as the Statement names them) -/
namespace Jvm.Pilot.@@N@@
namespace StrChars
open Jvm Sem ClassFile Op Lib Jvm.Stand Jvm.Free.XT Jvm.Free.ALB Jvm.Free.JM Jvm.Free
open Jvm.Lib.Cold (StaticIs)
/-- a char array whose places are chars -/
def Ch (a : Addr) (A : Cell) (U : State) : Prop := Arr .char a A U ∧ Typed .char A
theorem Ch.mv {a : Addr} {A : Cell} {U U' : State} (h : Ch a A U) (hal : U.vm.Alike U'.vm) (hh : U'.heap = U.heap) : Ch a A U' := ⟨h.1.mv hal hh, h.2⟩
theorem Ch.keep {a : Addr} {A : Cell} {U U' : State} (h : Ch a A U) (hal : U.vm.Alike U'.vm) (hk : U'.heap[a]? = some A) : Ch a A U' := ⟨h.1.keep hal hk, h.2⟩
/-- what place i of a char[]'s cell holds -/
def cv (A : Cell) (i : Nat) : Int32 := match A.slots[i]? with | some (.int x) => x | _ => 0
theorem Ch.get {a : Addr} {A : Cell} {U : State} (h : Ch a A U) {i : Nat} (hi : i < A.slots.size) : A.slots[i]? = some (.int (cv A i)) := by
  have e := Array.getElem?_eq_getElem hi
  have f := h.2 i _ e
  unfold cv; rw [e]
  generalize A.slots[i] = v at f
  cases v <;> simp [fits] at f ⊢
/-- the byte that i2b leaves of a char -/
def lo8 (x : Int32) : Int32 := x.toInt8.toInt32
theorem fits_lo8 (y : Int32) : fits .byte (.int (lo8 y)) = true := by
  have h1 := y.toInt8.le_toInt
  have h2 := y.toInt8.toInt_lt
  simp only [lo8, fits, Bool.and_eq_true, decide_eq_true_eq, Int32.le_iff_toInt_le, Int8.toInt_toInt32, show (-128 : Int32).toInt = -128 from by decide, show (127 : Int32).toInt = 127 from by decide]
  omega
/-- A' is A but that each place j of lo .. hi - 1 holds f j -/
def Laid (A A' : Cell) (lo hi : Nat) (f : Nat → Value) : Prop := A'.cls = A.cls ∧ A'.vm = A.vm ∧ A'.slots.size = A.slots.size ∧ ∀ i, A'.slots[i]? = if lo ≤ i ∧ i < hi then some (f i) else A.slots[i]?
theorem Laid.zero (A : Cell) (lo : Nat) (f : Nat → Value) : Laid A A lo (lo + 0) f := ⟨rfl, rfl, rfl, fun i => by rw [if_neg (by omega)]⟩
theorem Laid.step {A Ak : Cell} {lo k : Nat} {f : Nat → Value} {v : Value} (h : Laid A Ak lo k f) (hlo : lo ≤ k) (hk : k < Ak.slots.size) (hv : v = f k) : Laid A (Ak.setSlot k v) lo (k + 1) f := by
  refine ⟨h.1, h.2.1, by simpa [Cell.setSlot] using h.2.2.1, fun i => ?_⟩
  by_cases e : k = i
  · subst e; rw [Cell.slots_setSlot_self v hk, if_pos (by omega), hv]
  · rw [Cell.slots_setSlot_ne v e, h.2.2.2 i]
    by_cases q : lo ≤ i ∧ i < k
    · rw [if_pos q, if_pos (by omega)]
    · rw [if_neg q, if_neg (by omega)]
def U16 : String := "java/lang/StringUTF16"
namespace Cmp5
def yN : MethodName := ⟨"java/lang/StringUTF16", "compress", "([CI[BII)I"⟩
abbrev yB : ByteArray := jdk_52_method_21_code
theorem d0 : decode yB 0 = .ok (.iconst 0, 1) := by decide +kernel
theorem d1 : decode yB 1 = .ok (.istore 5, 2) := by decide +kernel
theorem d3 : decode yB 3 = .ok (.iload 5, 2) := by decide +kernel
theorem d5 : decode yB 5 = .ok (.iload 4, 2) := by decide +kernel
theorem d7 : decode yB 7 = .ok (.if_icmp (.ge) 37, 3) := by decide +kernel
theorem d10 : decode yB 10 = .ok (.aload_n 0, 1) := by decide +kernel
theorem d11 : decode yB 11 = .ok (.iload_n 1, 1) := by decide +kernel
theorem d12 : decode yB 12 = .ok (.caload, 1) := by decide +kernel
theorem d13 : decode yB 13 = .ok (.istore 6, 2) := by decide +kernel
theorem d15 : decode yB 15 = .ok (.iload 6, 2) := by decide +kernel
theorem d17 : decode yB 17 = .ok (.sipush 255, 3) := by decide +kernel
theorem d20 : decode yB 20 = .ok (.if_icmp (.le) 6, 3) := by decide +kernel
theorem d26 : decode yB 26 = .ok (.aload_n 2, 1) := by decide +kernel
theorem d27 : decode yB 27 = .ok (.iload_n 3, 1) := by decide +kernel
theorem d28 : decode yB 28 = .ok (.iload 6, 2) := by decide +kernel
theorem d30 : decode yB 30 = .ok (.i2b, 1) := by decide +kernel
theorem d31 : decode yB 31 = .ok (.bastore, 1) := by decide +kernel
theorem d32 : decode yB 32 = .ok (.iinc 1 1, 3) := by decide +kernel
theorem d35 : decode yB 35 = .ok (.iinc 3 1, 3) := by decide +kernel
theorem d38 : decode yB 38 = .ok (.iinc 5 1, 3) := by decide +kernel
theorem d41 : decode yB 41 = .ok (.goto (-38), 3) := by decide +kernel
theorem d44 : decode yB 44 = .ok (.iload 4, 2) := by decide +kernel
theorem d46 : decode yB 46 = .ok (.ireturn, 1) := by decide +kernel
def site : List Cond := []
def tab : Cond := tabOf yN yB 7 (some .int) site
def P (b : Addr) (A : Cell) (d : Addr) (B : Cell) (o q len : Nat) (args : Array Value) (s : State) : Prop := args = #[.ref b, .int (Int32.ofNat o), .ref d, .int (Int32.ofNat q), .int (Int32.ofNat len)] ∧ Ch b A s ∧ Arr .byte d B s ∧ b ≠ d ∧ o + len ≤ A.slots.size ∧ q + len ≤ B.slots.size ∧ ∀ i, i < len → ¬ 255 < cv A (o + i)
def E (b : Addr) (A : Cell) (d : Addr) (B : Cell) (o q len : Nat) (r : Option Value) (s u : State) : Prop := r = some (.int (Int32.ofNat len)) ∧ ∃ B', Put d B' s u ∧ Laid B B' q (q + len) (fun j => Value.int (lo8 (cv A (o + (j - q)))))
/-- no char of the range above 255: len; the places written hold each char's low byte -/
theorem law (l : Launch) (b : Addr) (A : Cell) (d : Addr) (B : Cell) (o q len : Nat) : Law l yN 5 5 0 0 yB 7 (some .int) site (P b A d B o q len) (E b A d B o q len) (copyLocs d q len) 0 0 := by
  refine Law.of_walk (plainFor_of_name (by decide +kernel)) (by decide +kernel) (by decide +kernel) (by decide) (fun _ _ h => by rw [h.1]; rfl) (fun _ U U' hal hh h => ⟨h.1, h.2.1.mv hal hh, h.2.2.1.mv hal hh, h.2.2.2⟩) (fun r U U' V V' h1 hal h2 h => ⟨h.1, h.2.elim fun B' q => ⟨B', q.1.mv h1 h2, q.2⟩⟩) ?_
  intro p e s m args below meth c s₁ X0 hexec hbytes hml hret hlk hnm hown hh0 W hP
  obtain ⟨rfl, hA, hB, hne, l1, l2, hp⟩ := hP
  have c1 : Steps p.tables e below (s₁.setTop (entryFrame m #[.ref b, .int (Int32.ofNat o), .ref d, .int (Int32.ofNat q), .int (Int32.ofNat len)] 7)) (s₁.setTop (mkF m 0 #[.val (.ref b), .val (.int (Int32.ofNat o)), .val (.ref d), .val (.int (Int32.ofNat q)), .val (.int (Int32.ofNat len)), .unset, .unset] [])) := entry rfl
  have hA0 := hA.1.mv X0.warmed.alike hh0
  have hB0 := hB.mv X0.warmed.alike hh0
  have a31 := hA.1.2.2.2
  have c2 : Steps p.tables e below (s₁.setTop (entryFrame m #[.ref b, .int (Int32.ofNat o), .ref d, .int (Int32.ofNat q), .int (Int32.ofNat len)] 7)) (s₁.setTop (mkF m 3 #[.val (.ref b), .val (.int (Int32.ofNat o)), .val (.ref d), .val (.int (Int32.ofNat q)), .val (.int (Int32.ofNat len)), .val (.int 0), .unset] [])) := c1.trans (by
    refine iconstV X0.here hexec rfl 0 (hb hbytes d0) (by decide) ?_
    refine XS.istore X0.here hexec rfl (hb hbytes d1) rfl rfl ?_
    exact Steps.refl _)
  have loop : ∀ (r i : Nat), i + r = len → ∀ (z : Slot), (z = .unset ∨ ∃ w, z = .val w ∧ w.category = 1) → ∀ (Tl : State) (Bk : Cell), Stand p l e { frames := 0, locals := 0, cells := 0, slots := 0 } s m #[.ref b, .int (Int32.ofNat o), .ref d, .int (Int32.ofNat q), .int (Int32.ofNat len)] below meth c Tl ([] ++ copyLocs d q i) 0 0 → Put d Bk s₁ Tl → Laid B Bk q (q + i) (fun j => Value.int (lo8 (cv A (o + (j - q))))) →
      Steps p.tables e below (s₁.setTop (entryFrame m #[.ref b, .int (Int32.ofNat o), .ref d, .int (Int32.ofNat q), .int (Int32.ofNat len)] 7)) (Tl.setTop (mkF m 3 #[.val (.ref b), .val (.int (Int32.ofNat (o + i))), .val (.ref d), .val (.int (Int32.ofNat (q + i))), .val (.int (Int32.ofNat len)), .val (.int (Int32.ofNat i)), z] [])) → ∃ (T' : State) (B' : Cell) (z' : Slot), Stand p l e { frames := 0, locals := 0, cells := 0, slots := 0 } s m #[.ref b, .int (Int32.ofNat o), .ref d, .int (Int32.ofNat q), .int (Int32.ofNat len)] below meth c T' ([] ++ copyLocs d q len) 0 0 ∧ Put d B' s₁ T' ∧ Laid B B' q (q + len) (fun j => Value.int (lo8 (cv A (o + (j - q))))) ∧
      Steps p.tables e below (s₁.setTop (entryFrame m #[.ref b, .int (Int32.ofNat o), .ref d, .int (Int32.ofNat q), .int (Int32.ofNat len)] 7)) (T'.setTop (mkF m 3 #[.val (.ref b), .val (.int (Int32.ofNat (o + len))), .val (.ref d), .val (.int (Int32.ofNat (q + len))), .val (.int (Int32.ofNat len)), .val (.int (Int32.ofNat len)), z'] [])) := by
    intro r
    induction r with
    | zero =>
      intro i hi z hz Tl Bk Xl pl fl cl
      have hil : i = len := by omega
      rw [hil] at Xl fl cl
      exact ⟨Tl, Bk, z, Xl, pl, fl, cl⟩
    | succ r ih =>
      intro i hi z hz Tl Bk Xl pl fl cl
      have all := X0.warmed.alike.symm.trans Xl.warmed.alike
      have hAl := hA0.keep all (pl.other hne hA0.1)
      have hBk := hB0.like all pl.1 fl.1 fl.2.1 fl.2.2.1
      have hlt : q + i < Bk.slots.size := by rw [fl.2.2.1]; omega
      have c3 : Steps p.tables e below (s₁.setTop (entryFrame m #[.ref b, .int (Int32.ofNat o), .ref d, .int (Int32.ofNat q), .int (Int32.ofNat len)] 7)) (Tl.setTop (mkF m 12 #[.val (.ref b), .val (.int (Int32.ofNat (o + i))), .val (.ref d), .val (.int (Int32.ofNat (q + i))), .val (.int (Int32.ofNat len)), .val (.int (Int32.ofNat i)), z] [.int (Int32.ofNat (o + i)), .ref b])) := cl.trans (by
        refine XS.iload Xl.here hexec rfl (hb hbytes d3) rfl ?_
        refine XS.iload Xl.here hexec rfl (hb hbytes d5) rfl ?_
        refine XS.icmpNo Xl.here hexec rfl (hb hbytes d7) rfl (ii_ge_f (lt32 (by omega) (by omega))) ?_
        refine XS.aloadN Xl.here hexec rfl (hb hbytes d10) rfl rfl ?_
        refine XS.iloadN Xl.here hexec rfl (hb hbytes d11) rfl ?_
        exact Steps.refl _)
      have c4 : Steps p.tables e below (s₁.setTop (entryFrame m #[.ref b, .int (Int32.ofNat o), .ref d, .int (Int32.ofNat q), .int (Int32.ofNat len)] 7)) (Tl.setTop (mkF m 13 #[.val (.ref b), .val (.int (Int32.ofNat (o + i))), .val (.ref d), .val (.int (Int32.ofNat (q + i))), .val (.int (Int32.ofNat len)), .val (.int (Int32.ofNat i)), z] [.int (cv A (o + i))])) := c3.trans (by
        refine Xl.aget hexec hAl rfl (hA.get (i := o + i) (by omega)) rfl rfl (hb hbytes d12) ?_
        exact Steps.refl _)
      have c5 : Steps p.tables e below (s₁.setTop (entryFrame m #[.ref b, .int (Int32.ofNat o), .ref d, .int (Int32.ofNat q), .int (Int32.ofNat len)] 7)) (Tl.setTop (mkF m 15 #[.val (.ref b), .val (.int (Int32.ofNat (o + i))), .val (.ref d), .val (.int (Int32.ofNat (q + i))), .val (.int (Int32.ofNat len)), .val (.int (Int32.ofNat i)), .val (.int (cv A (o + i)))] [])) := c4.trans (by
        refine XS.istoreS Xl.here hexec rfl (hb hbytes d13) rfl rfl hz ?_
        exact Steps.refl _)
      have c6 : Steps p.tables e below (s₁.setTop (entryFrame m #[.ref b, .int (Int32.ofNat o), .ref d, .int (Int32.ofNat q), .int (Int32.ofNat len)] 7)) (Tl.setTop (mkF m 31 #[.val (.ref b), .val (.int (Int32.ofNat (o + i))), .val (.ref d), .val (.int (Int32.ofNat (q + i))), .val (.int (Int32.ofNat len)), .val (.int (Int32.ofNat i)), .val (.int (cv A (o + i)))] [.int (lo8 (cv A (o + i))), .int (Int32.ofNat (q + i)), .ref d])) := c5.trans (by
        refine XS.iload Xl.here hexec rfl (hb hbytes d15) rfl ?_
        refine sipushV Xl.here hexec rfl 255 (hb hbytes d17) (by decide) ?_
        refine XS.icmpYes Xl.here hexec rfl (pc0 := 20) rfl (hb hbytes d20) rfl (ii_le_t (hp i (by omega))) (by decide) rfl ?_
        refine XS.aloadN Xl.here hexec rfl (hb hbytes d26) rfl rfl ?_
        refine XS.iloadN Xl.here hexec rfl (hb hbytes d27) rfl ?_
        refine XS.iload Xl.here hexec rfl (hb hbytes d28) rfl ?_
        refine i2b Xl.here hexec rfl (hb hbytes d30) rfl ?_
        exact Steps.refl _)
      obtain ⟨T7, X7, p7, st7⟩ := Xl.aput hexec hBk rfl hlt rfl (fits_lo8 (cv A (o + i))) (g := (mkF m 31 #[.val (.ref b), .val (.int (Int32.ofNat (o + i))), .val (.ref d), .val (.int (Int32.ofNat (q + i))), .val (.int (Int32.ofNat len)), .val (.int (Int32.ofNat i)), .val (.int (cv A (o + i)))] [.int (lo8 (cv A (o + i))), .int (Int32.ofNat (q + i)), .ref d])) rfl (rest := []) rfl (hb hbytes d31)
      have c8 : Steps p.tables e below (s₁.setTop (entryFrame m #[.ref b, .int (Int32.ofNat o), .ref d, .int (Int32.ofNat q), .int (Int32.ofNat len)] 7)) (T7.setTop (mkF m 32 #[.val (.ref b), .val (.int (Int32.ofNat (o + i))), .val (.ref d), .val (.int (Int32.ofNat (q + i))), .val (.int (Int32.ofNat len)), .val (.int (Int32.ofNat i)), .val (.int (cv A (o + i)))] [])) := c6.trans (st7 _ (Steps.refl _))
      have c9 : Steps p.tables e below (s₁.setTop (entryFrame m #[.ref b, .int (Int32.ofNat o), .ref d, .int (Int32.ofNat q), .int (Int32.ofNat len)] 7)) (T7.setTop (mkF m 3 #[.val (.ref b), .val (.int (Int32.ofNat (o + i) + 1)), .val (.ref d), .val (.int (Int32.ofNat (q + i) + 1)), .val (.int (Int32.ofNat len)), .val (.int (Int32.ofNat i + 1)), .val (.int (cv A (o + i)))] [])) := c8.trans (by
        refine iincV X7.here hexec rfl 1 (hb hbytes d32) (by decide) rfl rfl ?_
        refine iincV X7.here hexec rfl 1 (hb hbytes d35) (by decide) rfl rfl ?_
        refine iincV X7.here hexec rfl 1 (hb hbytes d38) (by decide) rfl rfl ?_
        refine XS.goto X7.here hexec rfl (pc0 := 41) rfl (hb hbytes d41) (by decide) rfl ?_
        exact Steps.refl _)
      have c10 : Steps p.tables e below (s₁.setTop (entryFrame m #[.ref b, .int (Int32.ofNat o), .ref d, .int (Int32.ofNat q), .int (Int32.ofNat len)] 7)) (T7.setTop (mkF m 3 #[.val (.ref b), .val (.int (Int32.ofNat (o + (i + 1)))), .val (.ref d), .val (.int (Int32.ofNat (q + (i + 1)))), .val (.int (Int32.ofNat len)), .val (.int (Int32.ofNat (i + 1))), .val (.int (cv A (o + i)))] [])) := by
        have := c9
        rw [succ32, succ32, succ32] at this
        exact this
      exact ih (i + 1) (by omega) _ (Or.inr ⟨_, rfl, rfl⟩) T7 _ (by rw [copyLocs_step, ← List.append_assoc]; exact X7) (pl.trans p7) (fl.step (by omega) hlt (by simp)) c10
  obtain ⟨T9, B9, z9, X9, p9, f9, g9⟩ := loop len 0 (by omega) .unset (Or.inl rfl) s₁ B (by simpa [copyLocs] using X0) ⟨hB0.1, fun _ _ => rfl, rfl⟩ (Laid.zero _ _ _) c2
  have c11 : Steps p.tables e below (s₁.setTop (entryFrame m #[.ref b, .int (Int32.ofNat o), .ref d, .int (Int32.ofNat q), .int (Int32.ofNat len)] 7)) (T9.setTop (mkF m 46 #[.val (.ref b), .val (.int (Int32.ofNat (o + len))), .val (.ref d), .val (.int (Int32.ofNat (q + len))), .val (.int (Int32.ofNat len)), .val (.int (Int32.ofNat len)), z9] [.int (Int32.ofNat len)])) := g9.trans (by
    refine XS.iload X9.here hexec rfl (hb hbytes d3) rfl ?_
    refine XS.iload X9.here hexec rfl (hb hbytes d5) rfl ?_
    refine XS.icmpYes X9.here hexec rfl (pc0 := 7) rfl (hb hbytes d7) rfl (ii_ge_t (nlt32 (by omega) (Nat.le_refl _))) (by decide) rfl ?_
    refine XS.iload X9.here hexec rfl (hb hbytes d44) rfl ?_
    exact Steps.refl _)
  exact ⟨T9, some (.int (Int32.ofNat len)), _, _, _, X9, by simp, rfl, rfl, (fun h => by cases h), ⟨rfl, B9, p9.from hh0, f9⟩, fun fs hl => c11.trans (X9.ireturnOut hexec hret rfl (Or.inl rfl) (hb hbytes d46) hl)⟩
end Cmp5
namespace Cmp3
def yN : MethodName := ⟨"java/lang/StringUTF16", "compress", "([CII)[B"⟩
abbrev yB : ByteArray := jdk_52_method_16_code
theorem d0 : decode yB 0 = .ok (.iload_n 2, 1) := by decide +kernel
theorem d1 : decode yB 1 = .ok (.newarray .byte, 2) := by decide +kernel
theorem d3 : decode yB 3 = .ok (.astore_n 3, 1) := by decide +kernel
theorem d4 : decode yB 4 = .ok (.aload_n 0, 1) := by decide +kernel
theorem d5 : decode yB 5 = .ok (.iload_n 1, 1) := by decide +kernel
theorem d6 : decode yB 6 = .ok (.aload_n 3, 1) := by decide +kernel
theorem d7 : decode yB 7 = .ok (.iconst 0, 1) := by decide +kernel
theorem d8 : decode yB 8 = .ok (.iload_n 2, 1) := by decide +kernel
theorem d9 : decode yB 9 = .ok (.invokestatic 115, 3) := by decide +kernel
theorem d12 : decode yB 12 = .ok (.istore 4, 2) := by decide +kernel
theorem d14 : decode yB 14 = .ok (.iload 4, 2) := by decide +kernel
theorem d16 : decode yB 16 = .ok (.iload_n 2, 1) := by decide +kernel
theorem d17 : decode yB 17 = .ok (.if_icmp (.eq) 40, 3) := by decide +kernel
theorem d57 : decode yB 57 = .ok (.aload_n 3, 1) := by decide +kernel
theorem d58 : decode yB 58 = .ok (.areturn, 1) := by decide +kernel
def site : List Cond := [.arrayClass .byte, Cmp5.tab] ++ staticW U16 115 Cmp5.yN
def tab : Cond := tabOf yN yB 6 (some (.array .byte)) site
def P (b : Addr) (A : Cell) (o len : Nat) (args : Array Value) (s : State) : Prop := args = #[.ref b, .int (Int32.ofNat o), .int (Int32.ofNat len)] ∧ Ch b A s ∧ o + len ≤ A.slots.size ∧ len ≤ 536870912 ∧ ∀ i, i < len → ¬ 255 < cv A (o + i)
def E (b : Addr) (A : Cell) (o len : Nat) (r : Option Value) (s u : State) : Prop := NewArr .byte "[B" len (fun j => .int (lo8 (cv A (o + j)))) r s u ∧ u.heap.size = s.heap.size + 1
/-- no char of the range above 255: a new byte[] of their low bytes -/
theorem law (l : Launch) (b : Addr) (A : Cell) (o len : Nat) : Law l yN 3 3 1 18 yB 6 (some (.array .byte)) site (P b A o len) (E b A o len) [] 1 len := by
  refine Law.of_walk (plainFor_of_name (by decide +kernel)) (by decide +kernel) (by decide +kernel) (by decide) (fun _ _ h => by rw [h.1]; rfl) (fun _ U U' hal hh h => ⟨h.1, h.2.1.mv hal hh, h.2.2⟩) (fun r U U' V V' h1 hal h2 h => ⟨NewArr.mv r U U' V V' h1 hal h2 h.1, by rw [h1, h2]; exact h.2⟩) ?_
  intro p e s m args below meth c s₁ X0 hexec hbytes hml hret hlk hnm hown hh0 W hP
  obtain ⟨rfl, hA, l1, l2, hp⟩ := hP
  have a31 := hA.1.2.2.2
  have c1 : Steps p.tables e below (s₁.setTop (entryFrame m #[.ref b, .int (Int32.ofNat o), .int (Int32.ofNat len)] 6)) (s₁.setTop (mkF m 0 #[.val (.ref b), .val (.int (Int32.ofNat o)), .val (.int (Int32.ofNat len)), .unset, .unset, .unset] [])) := entry rfl
  have c2 : Steps p.tables e below (s₁.setTop (entryFrame m #[.ref b, .int (Int32.ofNat o), .int (Int32.ofNat len)] 6)) (s₁.setTop (mkF m 1 #[.val (.ref b), .val (.int (Int32.ofNat o)), .val (.int (Int32.ofNat len)), .unset, .unset, .unset] [.int (Int32.ofNat len)])) := c1.trans (by
    refine XS.iloadN X0.here hexec rfl (hb hbytes d0) rfl ?_
    exact Steps.refl _)
  obtain ⟨T3, B3, X3, ba3, bs3, bv3, bh3, bf3, st3⟩ := X0.anew hexec (atype := .byte) (wk W (.arrayClass .byte)) rfl (by show len * 1 ≤ _; omega) (by omega) (g := (mkF m 1 #[.val (.ref b), .val (.int (Int32.ofNat o)), .val (.int (Int32.ofNat len)), .unset, .unset, .unset] [.int (Int32.ofNat len)])) rfl (hb hbytes d1) (rest := []) rfl (Nat.le_refl _) (by show 0 + len ≤ len; omega)
  rw [hh0] at ba3 st3
  have kp3 : XT.Kept s T3 := (XT.Kept.of_eq hh0).push bh3
  have hA3 := hA.keep X3.warmed.alike (kp3 _ _ hA.1.1)
  have hne : b ≠ s.heap.size := hA.1.ne
  have c4 : Steps p.tables e below (s₁.setTop (entryFrame m #[.ref b, .int (Int32.ofNat o), .int (Int32.ofNat len)] 6)) (T3.setTop (mkF m 3 #[.val (.ref b), .val (.int (Int32.ofNat o)), .val (.int (Int32.ofNat len)), .unset, .unset, .unset] [.ref s.heap.size])) := c2.trans (st3 _ (Steps.refl _))
  have c5 : Steps p.tables e below (s₁.setTop (entryFrame m #[.ref b, .int (Int32.ofNat o), .int (Int32.ofNat len)] 6)) (T3.setTop (mkF m 9 #[.val (.ref b), .val (.int (Int32.ofNat o)), .val (.int (Int32.ofNat len)), .val (.ref s.heap.size), .unset, .unset] [.int (Int32.ofNat len), .int 0, .ref s.heap.size, .int (Int32.ofNat o), .ref b])) := c4.trans (by
    refine XS.astoreN X3.here hexec rfl (hb hbytes d3) rfl rfl rfl ?_
    refine XS.aloadN X3.here hexec rfl (hb hbytes d4) rfl rfl ?_
    refine XS.iloadN X3.here hexec rfl (hb hbytes d5) rfl ?_
    refine XS.aloadN X3.here hexec rfl (hb hbytes d6) rfl rfl ?_
    refine iconstV X3.here hexec rfl 0 (hb hbytes d7) (by decide) ?_
    refine XS.iloadN X3.here hexec rfl (hb hbytes d8) rfl ?_
    exact Steps.refl _)
  obtain ⟨v6, T6, X6, E6, g6⟩ := X3.callS hexec (Cmp5.law l b A s.heap.size B3 o 0 len) hown (wks W (staticW U16 115 Cmp5.yN)) (wk W Cmp5.tab) (W := 0) (Nat.le_of_ble_eq_true rfl) (Nat.le_of_ble_eq_true rfl) (Nat.le_refl _) (by show 0 + len + 0 ≤ len; omega) (g := (mkF m 9 #[.val (.ref b), .val (.int (Int32.ofNat o)), .val (.int (Int32.ofNat len)), .val (.ref s.heap.size), .unset, .unset] [.int (Int32.ofNat len), .int (Int32.ofNat 0), .ref s.heap.size, .int (Int32.ofNat o), .ref b])) rfl (by rw [hml]; rfl) c5 (argsL := [.ref b, .int (Int32.ofNat o), .ref s.heap.size, .int (Int32.ofNat 0), .int (Int32.ofNat len)]) (rest := []) rfl rfl (by show 2 * 0 + 0 ≤ _; decide) (hb hbytes d9) (⟨rfl, hA3, ba3, hne, l1, by rw [bs3]; simp, hp⟩)
  obtain ⟨rfl, B6, p6, f6⟩ := E6
  have c7 : Steps p.tables e below (s₁.setTop (entryFrame m #[.ref b, .int (Int32.ofNat o), .int (Int32.ofNat len)] 6)) (T6.setTop (mkF m 12 #[.val (.ref b), .val (.int (Int32.ofNat o)), .val (.int (Int32.ofNat len)), .val (.ref s.heap.size), .unset, .unset] [.int (Int32.ofNat len)])) := g6
  have c8 : Steps p.tables e below (s₁.setTop (entryFrame m #[.ref b, .int (Int32.ofNat o), .int (Int32.ofNat len)] 6)) (T6.setTop (mkF m 58 #[.val (.ref b), .val (.int (Int32.ofNat o)), .val (.int (Int32.ofNat len)), .val (.ref s.heap.size), .val (.int (Int32.ofNat len)), .unset] [.ref s.heap.size])) := c7.trans (by
    refine XS.istore X6.here hexec rfl (hb hbytes d12) rfl rfl ?_
    refine XS.iload X6.here hexec rfl (hb hbytes d14) rfl ?_
    refine XS.iloadN X6.here hexec rfl (hb hbytes d16) rfl ?_
    refine XS.icmpYes X6.here hexec rfl (pc0 := 17) rfl (hb hbytes d17) rfl (ii_eq_t rfl) (by decide) rfl ?_
    refine XS.aloadN X6.here hexec rfl (hb hbytes d57) rfl rfl ?_
    exact Steps.refl _)
  have X8 := X6.wide (L' := []) (cells' := 1) (slots' := len) (fun x hx hlt => by
    simp only [List.nil_append, copyLocs, List.mem_map, List.mem_range] at hx
    obtain ⟨i, -, rfl⟩ := hx
    exact absurd hlt (Nat.lt_irrefl _)) (Nat.le_refl _) (by omega)
  exact ⟨T6, some (.ref s.heap.size), _, _, _, X8, rfl, rfl, rfl, (fun h => by cases h), ⟨⟨rfl, B6, ba3.like (X3.warmed.alike.symm.trans X6.warmed.alike) p6.1 f6.1 f6.2.1 f6.2.2.1, f6.2.1.trans bv3, by rw [X6.warmed.alike.findClass, f6.1]; exact bf3, by rw [f6.2.2.1, bs3]; simp, fun j hj => by rw [f6.2.2.2 j, if_pos (by omega)]; rfl, kp3.put p6 (Nat.le_refl _)⟩, by rw [p6.2.2, bh3, hh0]; simp⟩, fun fs hl => c8.trans (X8.areturnOut hexec rfl hret rfl (hb hbytes d58) hl)⟩
end Cmp3
namespace CodL
def yN : MethodName := ⟨"java/lang/StringUTF16", "coderFromArrayLen", "([BI)B"⟩
abbrev yB : ByteArray := jdk_52_method_15_code
theorem d0 : decode yB 0 = .ok (.iload_n 1, 1) := by decide +kernel
theorem d1 : decode yB 1 = .ok (.aload_n 0, 1) := by decide +kernel
theorem d2 : decode yB 2 = .ok (.arraylength, 1) := by decide +kernel
theorem d3 : decode yB 3 = .ok (.isub, 1) := by decide +kernel
theorem d4 : decode yB 4 = .ok (.bipush 31, 2) := by decide +kernel
theorem d6 : decode yB 6 = .ok (.iushr, 1) := by decide +kernel
theorem d7 : decode yB 7 = .ok (.i2b, 1) := by decide +kernel
theorem d8 : decode yB 8 = .ok (.ireturn, 1) := by decide +kernel
def site : List Cond := []
def tab : Cond := tabOf yN yB 2 (some .byte) site
def P (d : Addr) (B : Cell) (args : Array Value) (s : State) : Prop := args = #[.ref d, .int (Int32.ofNat B.slots.size)] ∧ Arr .byte d B s
def E (r : Option Value) (s u : State) : Prop := XT.PureE (some (.int 0)) r s u
/-- an array as long as the number of chars: LATIN1 -/
theorem law (l : Launch) (d : Addr) (B : Cell) : Law l yN 2 2 0 0 yB 2 (some .byte) site (P d B) E [] 0 0 := by
  refine Law.of_walk (plainFor_of_name (by decide +kernel)) (by decide +kernel) (by decide +kernel) (by decide) (fun _ _ h => by rw [h.1]; rfl) (fun _ U U' hal hh h => ⟨h.1, h.2.mv hal hh⟩) (fun r U U' V V' h1 hal h2 h => XT.PureE.mv r U U' V V' h1 hal h2 h) ?_
  intro p e s m args below meth c s₁ X0 hexec hbytes hml hret hlk hnm hown hh0 W hP
  obtain ⟨rfl, hB⟩ := hP
  have hB0 := hB.mv X0.warmed.alike hh0
  have c1 : Steps p.tables e below (s₁.setTop (entryFrame m #[.ref d, .int (Int32.ofNat B.slots.size)] 2)) (s₁.setTop (mkF m 0 #[.val (.ref d), .val (.int (Int32.ofNat B.slots.size))] [])) := entry rfl
  have c2 : Steps p.tables e below (s₁.setTop (entryFrame m #[.ref d, .int (Int32.ofNat B.slots.size)] 2)) (s₁.setTop (mkF m 2 #[.val (.ref d), .val (.int (Int32.ofNat B.slots.size))] [.ref d, .int (Int32.ofNat B.slots.size)])) := c1.trans (by
    refine XS.iloadN X0.here hexec rfl (hb hbytes d0) rfl ?_
    refine XS.aloadN X0.here hexec rfl (hb hbytes d1) rfl rfl ?_
    exact Steps.refl _)
  have c3 : Steps p.tables e below (s₁.setTop (entryFrame m #[.ref d, .int (Int32.ofNat B.slots.size)] 2)) (s₁.setTop (mkF m 8 #[.val (.ref d), .val (.int (Int32.ofNat B.slots.size))] [.int (lo8 (ushr (Int32.ofNat B.slots.size - Int32.ofNat B.slots.size) 31))])) := c2.trans (by
    refine X0.alen hexec hB0 rfl rfl (hb hbytes d2) ?_
    refine XS.isub X0.here hexec rfl (hb hbytes d3) rfl ?_
    refine bipushV X0.here hexec rfl 31 (hb hbytes d4) (by decide) ?_
    refine iushr X0.here hexec rfl (hb hbytes d6) rfl ?_
    refine i2b X0.here hexec rfl (hb hbytes d7) rfl ?_
    exact Steps.refl _)
  have e0 : lo8 (ushr (Int32.ofNat B.slots.size - Int32.ofNat B.slots.size) 31) = 0 := by rw [Int32.sub_self]; decide
  rw [e0] at c3
  exact ⟨s₁, some (.int 0), _, _, _, X0, rfl, rfl, rfl, (fun h => by cases h), ⟨rfl, hh0⟩, fun fs hl => c3.trans (X0.ireturnOut hexec hret rfl (Or.inr (Or.inr (Or.inl rfl))) (hb hbytes d8) hl)⟩
end CodL
/-- the String at a is Latin-1 over a new byte[] (the heap's one new cell): the low bytes of the len chars of A from o on; every cell but a is kept -/
def Got (a : Addr) (D : Cell) (fV fC : Field) (A : Cell) (o len : Nat) (r : Option Value) (s u : State) : Prop := r = none ∧ ∃ D' V : Cell, Blank "java/lang/String" a D' u ∧ Same D D' [fV.slot, fC.slot] ∧ D'.slots[fV.slot]? = some (.ref s.heap.size) ∧ D'.slots[fC.slot]? = some (.int 0) ∧ Arr .byte s.heap.size V u ∧ V.vm = .none ∧ u.vm.findClass "[B" = some V.cls ∧ V.slots.size = len ∧ (∀ j, j < len → V.slots[j]? = some (.int (lo8 (cv A (o + j))))) ∧ (∀ (y : Addr) (c : Cell), y ≠ a → s.heap[y]? = some c → u.heap[y]? = some c) ∧ u.heap.size = s.heap.size + 1
theorem Got.mv {a : Addr} {D A : Cell} {fV fC : Field} {o len : Nat} : ∀ r (U U' V V' : State), U'.heap = U.heap → V.vm.Alike V'.vm → V'.heap = V.heap → Got a D fV fC A o len r U V → Got a D fV fC A o len r U' V' :=
  fun r U U' V V' h1 hal h2 ⟨e0, D', X, a1, a2, a3, a4, a5, a6, a7, a8, a9, a10, a11⟩ => ⟨e0, D', X, a1.mv hal h2, a2, by rw [h1]; exact a3, a4, by rw [h1]; exact a5.mv hal h2, a6, by rw [hal.findClass]; exact a7, a8, a9, by rw [h1, h2]; exact a10, by rw [h1, h2]; exact a11⟩
namespace New4
def yN : MethodName := ⟨"java/lang/String", "<init>", "([CIILjava/lang/Void;)V"⟩
abbrev yB : ByteArray := jdk_42_method_149_code
theorem d0 : decode yB 0 = .ok (.aload_n 0, 1) := by decide +kernel
theorem d1 : decode yB 1 = .ok (.invokespecial 1, 3) := by decide +kernel
theorem d4 : decode yB 4 = .ok (.iload_n 3, 1) := by decide +kernel
theorem d5 : decode yB 5 = .ok (.ifCond (.ne) 22, 3) := by decide +kernel
theorem d27 : decode yB 27 = .ok (.getstatic 38, 3) := by decide +kernel
theorem d30 : decode yB 30 = .ok (.ifCond (.eq) 28, 3) := by decide +kernel
theorem d33 : decode yB 33 = .ok (.aload_n 1, 1) := by decide +kernel
theorem d34 : decode yB 34 = .ok (.iload_n 2, 1) := by decide +kernel
theorem d35 : decode yB 35 = .ok (.iload_n 3, 1) := by decide +kernel
theorem d36 : decode yB 36 = .ok (.invokestatic 177, 3) := by decide +kernel
theorem d39 : decode yB 39 = .ok (.astore 5, 2) := by decide +kernel
theorem d41 : decode yB 41 = .ok (.aload_n 0, 1) := by decide +kernel
theorem d42 : decode yB 42 = .ok (.aload 5, 2) := by decide +kernel
theorem d44 : decode yB 44 = .ok (.iload_n 3, 1) := by decide +kernel
theorem d45 : decode yB 45 = .ok (.invokestatic 47, 3) := by decide +kernel
theorem d48 : decode yB 48 = .ok (.putfield 15, 3) := by decide +kernel
theorem d51 : decode yB 51 = .ok (.aload_n 0, 1) := by decide +kernel
theorem d52 : decode yB 52 = .ok (.aload 5, 2) := by decide +kernel
theorem d54 : decode yB 54 = .ok (.putfield 9, 3) := by decide +kernel
theorem d57 : decode yB 57 = .ok (.return_, 1) := by decide +kernel
def site : List Cond := [.fieldLink "java/lang/String" 38 "java/lang/String" "COMPACT_STRINGS" "Z", Cmp3.tab, CodL.tab, .laysFinal "java/lang/String" "java/lang/String" "value" "[B", .fieldLink "java/lang/String" 9 "java/lang/String" "value" "[B", .laysFinal "java/lang/String" "java/lang/String" "coder" "B", .fieldLink "java/lang/String" 15 "java/lang/String" "coder" "B"] ++ objW "java/lang/String" 1 ++ staticW "java/lang/String" 177 Cmp3.yN ++ staticW "java/lang/String" 47 CodL.yN
def tab : Cond := tabOf yN yB 6 none site
def P (a : Addr) (D : Cell) (fV fC : Field) (b : Addr) (A : Cell) (z : Int32) (o len : Nat) (args : Array Value) (s : State) : Prop := args = #[.ref a, .ref b, .int (Int32.ofNat o), .int (Int32.ofNat len), .null] ∧ Blank "java/lang/String" a D s ∧ Found "java/lang/String" "value" "[B" fV s ∧ Found "java/lang/String" "coder" "B" fC s ∧ Ch b A s ∧ StaticIs s "java/lang/String" "COMPACT_STRINGS" "Z" (.int z) ∧ ¬ z = 0 ∧ 0 < len ∧ o + len ≤ A.slots.size ∧ len ≤ 536870912 ∧ ∀ i, i < len → ¬ 255 < cv A (o + i)
def E (a : Addr) (D : Cell) (fV fC : Field) (A : Cell) (o len : Nat) (r : Option Value) (s u : State) : Prop := Got a D fV fC A o len r s u
/-- len > 0, no char of the range above 255: a Latin-1 String of their low bytes -/
theorem law (l : Launch) (a : Addr) (D : Cell) (fV fC : Field) (b : Addr) (A : Cell) (z : Int32) (o len : Nat) : Law l yN 5 4 2 35 yB 6 none site (P a D fV fC b A z o len) (E a D fV fC A o len) [⟨a, fC.slot⟩, ⟨a, fV.slot⟩] 1 len := by
  refine Law.of_walk (plainFor_of_name (by decide +kernel)) (by decide +kernel) (by decide +kernel) (by decide) (fun _ _ h => by rw [h.1]; rfl) (fun _ U U' hal hh h => ⟨h.1, h.2.1.mv hal hh, h.2.2.1.al hal, h.2.2.2.1.al hal, h.2.2.2.2.1.mv hal hh, h.2.2.2.2.2.1.there hal hh, h.2.2.2.2.2.2⟩) (fun r U U' V V' h1 hal h2 h => Got.mv r U U' V V' h1 hal h2 h) ?_
  intro p e s m args below meth c s₁ X0 hexec hbytes hml hret hlk hnm hown hh0 W hP
  obtain ⟨rfl, hB, f1, f2, hA, s1, hz, l0, l1, l2, hp⟩ := hP
  have a31 := hA.1.2.2.2
  have c1 : Steps p.tables e below (s₁.setTop (entryFrame m #[.ref a, .ref b, .int (Int32.ofNat o), .int (Int32.ofNat len), .null] 6)) (s₁.setTop (mkF m 0 #[.val (.ref a), .val (.ref b), .val (.int (Int32.ofNat o)), .val (.int (Int32.ofNat len)), .val .null, .unset] [])) := entry rfl
  have c2 : Steps p.tables e below (s₁.setTop (entryFrame m #[.ref a, .ref b, .int (Int32.ofNat o), .int (Int32.ofNat len), .null] 6)) (s₁.setTop (mkF m 1 #[.val (.ref a), .val (.ref b), .val (.int (Int32.ofNat o)), .val (.int (Int32.ofNat len)), .val .null, .unset] [.ref a])) := c1.trans (by
    refine XS.aloadN X0.here hexec rfl (hb hbytes d0) rfl rfl ?_
    exact Steps.refl _)
  obtain ⟨T3, X3, q3, st3⟩ := X0.oinit hexec hown (wks W (objW "java/lang/String" 1)) (g := (mkF m 1 #[.val (.ref a), .val (.ref b), .val (.int (Int32.ofNat o)), .val (.int (Int32.ofNat len)), .val .null, .unset] [.ref a])) rfl (by rw [hml]; rfl) (rest := []) rfl (hb hbytes d1) (W := 0) (by show 2 * 0 + 0 ≤ _; decide) (Nat.le_of_ble_eq_true rfl) (Nat.le_of_ble_eq_true rfl)
  have hh3 := q3.trans hh0
  have c4 : Steps p.tables e below (s₁.setTop (entryFrame m #[.ref a, .ref b, .int (Int32.ofNat o), .int (Int32.ofNat len), .null] 6)) (T3.setTop (mkF m 27 #[.val (.ref a), .val (.ref b), .val (.int (Int32.ofNat o)), .val (.int (Int32.ofNat len)), .val .null, .unset] [])) := (c2.trans (st3 _ (Steps.refl _))).trans (by
    refine XS.iloadN X3.here hexec rfl (hb hbytes d4) rfl ?_
    refine XS.ifYes X3.here hexec rfl (pc0 := 5) rfl (hb hbytes d5) rfl (i0_ne_t (nz32 (by omega) l0)) (by decide) rfl ?_
    exact Steps.refl _)
  obtain ⟨T5, X5, q5, st5⟩ := X3.sget hexec hown (wk W (.fieldLink "java/lang/String" 38 "java/lang/String" "COMPACT_STRINGS" "Z")) s1 (fun _ _ h => by rw [hh3]; exact h) (g := (mkF m 27 #[.val (.ref a), .val (.ref b), .val (.int (Int32.ofNat o)), .val (.int (Int32.ofNat len)), .val .null, .unset] [])) rfl (hb hbytes d27)
  have hh5 := q5.trans hh3
  have c6 : Steps p.tables e below (s₁.setTop (entryFrame m #[.ref a, .ref b, .int (Int32.ofNat o), .int (Int32.ofNat len), .null] 6)) (T5.setTop (mkF m 30 #[.val (.ref a), .val (.ref b), .val (.int (Int32.ofNat o)), .val (.int (Int32.ofNat len)), .val .null, .unset] [.int z])) := c4.trans (st5 _ (Steps.refl _))
  have c7 : Steps p.tables e below (s₁.setTop (entryFrame m #[.ref a, .ref b, .int (Int32.ofNat o), .int (Int32.ofNat len), .null] 6)) (T5.setTop (mkF m 36 #[.val (.ref a), .val (.ref b), .val (.int (Int32.ofNat o)), .val (.int (Int32.ofNat len)), .val .null, .unset] [.int (Int32.ofNat len), .int (Int32.ofNat o), .ref b])) := c6.trans (by
    refine XS.ifNo X5.here hexec rfl (hb hbytes d30) rfl (i0_eq_f hz) ?_
    refine XS.aloadN X5.here hexec rfl (hb hbytes d33) rfl rfl ?_
    refine XS.iloadN X5.here hexec rfl (hb hbytes d34) rfl ?_
    refine XS.iloadN X5.here hexec rfl (hb hbytes d35) rfl ?_
    exact Steps.refl _)
  obtain ⟨v8, T8, X8, E8, g8⟩ := X5.callS hexec (Cmp3.law l b A o len) hown (wks W (staticW "java/lang/String" 177 Cmp3.yN)) (wk W Cmp3.tab) (W := 0) (Nat.le_of_ble_eq_true rfl) (Nat.le_of_ble_eq_true rfl) (Nat.le_refl _) (by show 0 + len ≤ len; omega) (g := (mkF m 36 #[.val (.ref a), .val (.ref b), .val (.int (Int32.ofNat o)), .val (.int (Int32.ofNat len)), .val .null, .unset] [.int (Int32.ofNat len), .int (Int32.ofNat o), .ref b])) rfl (by rw [hml]; rfl) c7 (argsL := [.ref b, .int (Int32.ofNat o), .int (Int32.ofNat len)]) (rest := []) rfl rfl (by show 2 * 0 + 0 ≤ _; decide) (hb hbytes d36) (⟨rfl, hA.mv X5.warmed.alike hh5, l1, l2, hp⟩)
  obtain ⟨e8, z8⟩ := E8
  obtain ⟨rfl, N, n1, n2, n3, n4, n5, n6⟩ := NewArr.mv _ T5 s _ _ hh5.symm (Vm.Alike.refl _) rfl e8
  rw [hh5] at z8
  have hB1 := hB.keep X8.warmed.alike (n6 _ _ hB.1)
  have hne : s.heap.size ≠ a := (Nat.ne_of_lt (Array.getElem?_eq_some_iff.mp hB.1).1).symm
  have c9 : Steps p.tables e below (s₁.setTop (entryFrame m #[.ref a, .ref b, .int (Int32.ofNat o), .int (Int32.ofNat len), .null] 6)) (T8.setTop (mkF m 39 #[.val (.ref a), .val (.ref b), .val (.int (Int32.ofNat o)), .val (.int (Int32.ofNat len)), .val .null, .unset] [.ref s.heap.size])) := g8
  have c10 : Steps p.tables e below (s₁.setTop (entryFrame m #[.ref a, .ref b, .int (Int32.ofNat o), .int (Int32.ofNat len), .null] 6)) (T8.setTop (mkF m 45 #[.val (.ref a), .val (.ref b), .val (.int (Int32.ofNat o)), .val (.int (Int32.ofNat len)), .val .null, .val (.ref s.heap.size)] [.int (Int32.ofNat N.slots.size), .ref s.heap.size, .ref a])) := by
    have hc : Steps p.tables e below (s₁.setTop (entryFrame m #[.ref a, .ref b, .int (Int32.ofNat o), .int (Int32.ofNat len), .null] 6)) (T8.setTop (mkF m 45 #[.val (.ref a), .val (.ref b), .val (.int (Int32.ofNat o)), .val (.int (Int32.ofNat len)), .val .null, .val (.ref s.heap.size)] [.int (Int32.ofNat len), .ref s.heap.size, .ref a])) := c9.trans (by
      refine XS.astore X8.here hexec rfl (hb hbytes d39) rfl rfl rfl ?_
      refine XS.aloadN X8.here hexec rfl (hb hbytes d41) rfl rfl ?_
      refine XS.aload X8.here hexec rfl (hb hbytes d42) rfl rfl ?_
      refine XS.iloadN X8.here hexec rfl (hb hbytes d44) rfl ?_
      exact Steps.refl _)
    rw [n4]; exact hc
  obtain ⟨v11, T11, X11, E11, g11⟩ := X8.callS hexec (CodL.law l s.heap.size N) hown (wks W (staticW "java/lang/String" 47 CodL.yN)) (wk W CodL.tab) (W := 1) (Nat.le_of_ble_eq_true rfl) (Nat.le_of_ble_eq_true rfl) (Nat.le_refl _) (by show 0 + len + 0 ≤ len; omega) (g := (mkF m 45 #[.val (.ref a), .val (.ref b), .val (.int (Int32.ofNat o)), .val (.int (Int32.ofNat len)), .val .null, .val (.ref s.heap.size)] [.int (Int32.ofNat N.slots.size), .ref s.heap.size, .ref a])) rfl (by rw [hml]; rfl) c10 (argsL := [.ref s.heap.size, .int (Int32.ofNat N.slots.size)]) (rest := [.ref a]) rfl rfl (by show 2 * 0 + (1 + 0) ≤ _; decide) (hb hbytes d45) (⟨rfl, n1⟩)
  obtain ⟨rfl, q11⟩ := E11
  have hB11 := hB1.mv (X8.warmed.alike.symm.trans X11.warmed.alike) q11
  have c12 : Steps p.tables e below (s₁.setTop (entryFrame m #[.ref a, .ref b, .int (Int32.ofNat o), .int (Int32.ofNat len), .null] 6)) (T11.setTop (mkF m 48 #[.val (.ref a), .val (.ref b), .val (.int (Int32.ofNat o)), .val (.int (Int32.ofNat len)), .val .null, .val (.ref s.heap.size)] [.int 0, .ref a])) := g11
  obtain ⟨T13, X13, p13, bl13, sl13, st13⟩ := X11.finit hexec hown (wk W (.fieldLink "java/lang/String" 15 "java/lang/String" "coder" "B")) (Or.inr ⟨_, (wk W (.laysFinal "java/lang/String" "java/lang/String" "coder" "B"))⟩) (Or.inl ⟨rfl, hnm⟩) f2 (Or.inl rfl) hB11 (t := .byte) (by decide +kernel) rfl (g := (mkF m 48 #[.val (.ref a), .val (.ref b), .val (.int (Int32.ofNat o)), .val (.int (Int32.ofNat len)), .val .null, .val (.ref s.heap.size)] [.int 0, .ref a])) rfl (rest := []) rfl (hb hbytes d48)
  have c14 : Steps p.tables e below (s₁.setTop (entryFrame m #[.ref a, .ref b, .int (Int32.ofNat o), .int (Int32.ofNat len), .null] 6)) (T13.setTop (mkF m 54 #[.val (.ref a), .val (.ref b), .val (.int (Int32.ofNat o)), .val (.int (Int32.ofNat len)), .val .null, .val (.ref s.heap.size)] [.ref s.heap.size, .ref a])) := (c12.trans (st13 _ (Steps.refl _))).trans (by
    refine XS.aloadN X13.here hexec rfl (hb hbytes d51) rfl rfl ?_
    refine XS.aload X13.here hexec rfl (hb hbytes d52) rfl rfl ?_
    exact Steps.refl _)
  obtain ⟨T15, X15, p15, bl15, sl15, st15⟩ := X13.finit hexec hown (wk W (.fieldLink "java/lang/String" 9 "java/lang/String" "value" "[B")) (Or.inr ⟨_, (wk W (.laysFinal "java/lang/String" "java/lang/String" "value" "[B"))⟩) (Or.inl ⟨rfl, hnm⟩) f1 (Or.inl rfl) bl13 (t := (.array .byte)) (by decide +kernel) rfl (g := (mkF m 54 #[.val (.ref a), .val (.ref b), .val (.int (Int32.ofNat o)), .val (.int (Int32.ofNat len)), .val .null, .val (.ref s.heap.size)] [.ref s.heap.size, .ref a])) rfl (rest := []) rfl (hb hbytes d54)
  have c16 : Steps p.tables e below (s₁.setTop (entryFrame m #[.ref a, .ref b, .int (Int32.ofNat o), .int (Int32.ofNat len), .null] 6)) (T15.setTop (mkF m 57 #[.val (.ref a), .val (.ref b), .val (.int (Int32.ofNat o)), .val (.int (Int32.ofNat len)), .val .null, .val (.ref s.heap.size)] [])) := c14.trans (st15 _ (Steps.refl _))
  have ap := apart (Or.inr ⟨_, (wk W (.laysFinal "java/lang/String" "java/lang/String" "value" "[B"))⟩) (Or.inr ⟨_, (wk W (.laysFinal "java/lang/String" "java/lang/String" "coder" "B"))⟩) f1 f2 (t₁ := .array .byte) (t₂ := .byte) (by decide +kernel) (by decide +kernel) (by decide)
  have al := X8.warmed.alike.symm.trans X15.warmed.alike
  have n7 : T11.heap[s.heap.size]? = some N := by rw [q11]; exact n1.1
  exact ⟨T15, none, _, _, _, X15, by simp, rfl, by omega, (fun _ => rfl), ⟨rfl, _, N, bl15, ((Same.refl D _).set _ (by simp)).set _ (by simp), sl15, (Cell.slots_setSlot_ne _ ap).trans sl13, n1.keep al (p15.other hne (p13.other hne n7)), n2, by rw [al.findClass]; exact n3, n4, n5, fun y c h1 h2 => p15.other h1 (p13.other h1 (by rw [q11]; exact n6 y c h2)), by rw [p15.2.2, p13.2.2, q11]; exact z8⟩, fun fs hl => c16.trans (X15.returnOut hexec hret (hb hbytes d57) hl)⟩
end New4
namespace New1
def yN : MethodName := ⟨"java/lang/String", "<init>", "([C)V"⟩
abbrev yB : ByteArray := jdk_42_method_3_code
theorem d0 : decode yB 0 = .ok (.aload_n 0, 1) := by decide +kernel
theorem d1 : decode yB 1 = .ok (.aload_n 1, 1) := by decide +kernel
theorem d2 : decode yB 2 = .ok (.iconst 0, 1) := by decide +kernel
theorem d3 : decode yB 3 = .ok (.aload_n 1, 1) := by decide +kernel
theorem d4 : decode yB 4 = .ok (.arraylength, 1) := by decide +kernel
theorem d5 : decode yB 5 = .ok (.aconst_null, 1) := by decide +kernel
theorem d6 : decode yB 6 = .ok (.invokespecial 27, 3) := by decide +kernel
theorem d9 : decode yB 9 = .ok (.return_, 1) := by decide +kernel
def site : List Cond := [New4.tab] ++ initW "java/lang/String" 27 New4.yN
def tab : Cond := tabOf yN yB 2 none site
def P (a : Addr) (D : Cell) (fV fC : Field) (b : Addr) (A : Cell) (z : Int32) (args : Array Value) (s : State) : Prop := args = #[.ref a, .ref b] ∧ Blank "java/lang/String" a D s ∧ Found "java/lang/String" "value" "[B" fV s ∧ Found "java/lang/String" "coder" "B" fC s ∧ Ch b A s ∧ StaticIs s "java/lang/String" "COMPACT_STRINGS" "Z" (.int z) ∧ ¬ z = 0 ∧ 0 < A.slots.size ∧ A.slots.size ≤ 536870912 ∧ ∀ i, i < A.slots.size → ¬ 255 < cv A i
def E (a : Addr) (D : Cell) (fV fC : Field) (A : Cell) (r : Option Value) (s u : State) : Prop := Got a D fV fC A 0 A.slots.size r s u
/-- new String(chars), not empty, no char above 255: a Latin-1 String of their low bytes -/
theorem law (l : Launch) (a : Addr) (D : Cell) (fV fC : Field) (b : Addr) (A : Cell) (z : Int32) : Law l yN 2 1 3 52 yB 2 none site (P a D fV fC b A z) (E a D fV fC A) [⟨a, fC.slot⟩, ⟨a, fV.slot⟩] 1 A.slots.size := by
  refine Law.of_walk (plainFor_of_name (by decide +kernel)) (by decide +kernel) (by decide +kernel) (by decide) (fun _ _ h => by rw [h.1]; rfl) (fun _ U U' hal hh h => ⟨h.1, h.2.1.mv hal hh, h.2.2.1.al hal, h.2.2.2.1.al hal, h.2.2.2.2.1.mv hal hh, h.2.2.2.2.2.1.there hal hh, h.2.2.2.2.2.2⟩) (fun r U U' V V' h1 hal h2 h => Got.mv r U U' V V' h1 hal h2 h) ?_
  intro p e s m args below meth c s₁ X0 hexec hbytes hml hret hlk hnm hown hh0 W hP
  obtain ⟨rfl, hB, f1, f2, hA, s1, hz, l0, l2, hp⟩ := hP
  have c1 : Steps p.tables e below (s₁.setTop (entryFrame m #[.ref a, .ref b] 2)) (s₁.setTop (mkF m 0 #[.val (.ref a), .val (.ref b)] [])) := entry rfl
  have c2 : Steps p.tables e below (s₁.setTop (entryFrame m #[.ref a, .ref b] 2)) (s₁.setTop (mkF m 6 #[.val (.ref a), .val (.ref b)] [.null, .int (Int32.ofNat A.slots.size), .int 0, .ref b, .ref a])) := c1.trans (by
    refine XS.aloadN X0.here hexec rfl (hb hbytes d0) rfl rfl ?_
    refine XS.aloadN X0.here hexec rfl (hb hbytes d1) rfl rfl ?_
    refine iconstV X0.here hexec rfl 0 (hb hbytes d2) (by decide) ?_
    refine XS.aloadN X0.here hexec rfl (hb hbytes d3) rfl rfl ?_
    refine X0.alen hexec (hA.1.mv X0.warmed.alike hh0) rfl rfl (hb hbytes d4) ?_
    refine XS.aconstNull X0.here hexec rfl (hb hbytes d5) ?_
    exact Steps.refl _)
  obtain ⟨v3, T3, X3, E3, g3⟩ := X0.callN hexec (New4.law l a D fV fC b A z 0 A.slots.size) rfl hown (wks W (initW "java/lang/String" 27 New4.yN)) (W New4.tab (by simp only [site, List.mem_cons, List.mem_append, true_or, or_true])) (W := 0) (Nat.le_of_ble_eq_true rfl) (Nat.le_of_ble_eq_true rfl) (Nat.le_refl _) (by show 0 + A.slots.size ≤ A.slots.size; omega) (g := (mkF m 6 #[.val (.ref a), .val (.ref b)] [.null, .int (Int32.ofNat A.slots.size), .int (Int32.ofNat 0), .ref b, .ref a])) rfl (by rw [hml]; rfl) c2 (argsL := [.ref b, .int (Int32.ofNat 0), .int (Int32.ofNat A.slots.size), .null]) (rest := []) rfl rfl (by show 2 * 0 + 0 ≤ _; decide) (hb hbytes d6) (⟨rfl, hB.mv X0.warmed.alike hh0, f1.al X0.warmed.alike, f2.al X0.warmed.alike, hA.mv X0.warmed.alike hh0, s1.there X0.warmed.alike hh0, hz, l0, by omega, l2, fun i hi => by rw [Nat.zero_add]; exact hp i hi⟩)
  have e0 := Got.mv _ s₁ s _ _ hh0.symm (Vm.Alike.refl _) rfl E3
  obtain rfl := e0.1
  have c4 : Steps p.tables e below (s₁.setTop (entryFrame m #[.ref a, .ref b] 2)) (T3.setTop (mkF m 9 #[.val (.ref a), .val (.ref b)] [])) := g3
  exact ⟨T3, none, _, _, _, X3, by simp, rfl, by omega, (fun _ => rfl), e0, fun fs hl => c4.trans (X3.returnOut hexec hret (hb hbytes d9) hl)⟩
theorem pays {l : Launch} {R : Room} {p : Program} {e : Env} {below : List Frame} {s : State} {sargs : Array Value} {len W : Nat} (a : Addr) (D : Cell) (fV fC : Field) (b : Addr) (A : Cell) (z : Int32) (htab : tab.before sargs s = true) (hfr : 4 ≤ R.frames) (hlo : W + 65 ≤ R.locals) :
    Back l R p e below s sargs yN len W (fun A₁ a₁ => A₁.cells + 1 ≤ R.cells ∧ A₁.slots + A.slots.size ≤ R.slots ∧ P a D fV fC b A z a₁ A₁.U) (fun A₁ _ v₁ B₁ => E a D fV fC A v₁ A₁.U B₁.U ∧ B₁.locs = A₁.locs ++ [⟨a, fC.slot⟩, ⟨a, fV.slot⟩] ∧ B₁.cells = A₁.cells + 1 ∧ B₁.slots = A₁.slots + A.slots.size) :=
  (law l a D fV fC b A z).pays htab hfr (by omega)
end New1
end StrChars
namespace StrChars.Road
open Jvm Sem ClassFile Op Lib Jvm.Stand Jvm.Free Jvm.Free.XT
open Jvm.Lib.Cold (StaticIs)
abbrev ST : String := "java/lang/String"
/-- every table word that New1's law asks, flat -/
abbrev words : List Jvm.Cond := [.code New1.yN New1.yB 2 none, .initialized ST, .methodLink ST 27 New4.yN, .instanceMethod New4.yN,
  .code New4.yN New4.yB 6 none, .fieldLink ST 38 ST "COMPACT_STRINGS" "Z", .laysFinal ST ST "value" "[B", .fieldLink ST 9 ST "value" "[B", .laysFinal ST ST "coder" "B", .fieldLink ST 15 ST "coder" "B",
  .methodLink ST 1 Lib.objectInit, .instanceMethod Lib.objectInit, .code Lib.objectInit ⟨#[0xb1]⟩ 1 none, .methodLink ST 177 Cmp3.yN, .static Cmp3.yN, .methodLink ST 47 CodL.yN, .static CodL.yN,
  .code Cmp3.yN Cmp3.yB 6 (some (.array .byte)), .initialized U16, .arrayClass .byte, .methodLink U16 115 Cmp5.yN, .static Cmp5.yN, .code Cmp5.yN Cmp5.yB 7 (some .int), .code CodL.yN CodL.yB 2 (some .byte)]
theorem tab_of {a : Array Value} {s : State} (h : ∀ w ∈ words, w.before a s = true) : New1.tab.before a s = true := by
  have h5 : Cmp5.tab.before a s = true := unparts (wk h (.code Cmp5.yN Cmp5.yB 7 (some .int))) (wks h (.initialized Cmp5.yN.cls :: Cmp5.site))
  have hc : CodL.tab.before a s = true := unparts (wk h (.code CodL.yN CodL.yB 2 (some .byte))) (wks h (.initialized CodL.yN.cls :: CodL.site))
  have q5 : ∀ w ∈ Cmp5.tab :: words, w.before a s = true := fun w hw => (List.mem_cons.mp hw).elim (fun e => e ▸ h5) (h w)
  have h3 : Cmp3.tab.before a s = true := unparts (wk q5 (.code Cmp3.yN Cmp3.yB 6 (some (.array .byte)))) (wks q5 (.initialized Cmp3.yN.cls :: Cmp3.site))
  have q3 : ∀ w ∈ Cmp3.tab :: CodL.tab :: words, w.before a s = true := fun w hw => (List.mem_cons.mp hw).elim (fun e => e ▸ h3) fun hw => (List.mem_cons.mp hw).elim (fun e => e ▸ hc) (h w)
  have h4 : New4.tab.before a s = true := unparts (wk q3 (.code New4.yN New4.yB 6 none)) (wks q3 (.initialized New4.yN.cls :: New4.site))
  have q4 : ∀ w ∈ New4.tab :: words, w.before a s = true := fun w hw => (List.mem_cons.mp hw).elim (fun e => e ▸ h4) (h w)
  exact unparts (wk q4 (.code New1.yN New1.yB 2 none)) (wks q4 (.initialized New1.yN.cls :: New1.site))
/-- the words ride from the start Z to the walk's own state -/
theorem moved {Z s : State} {a0 args : Array Value} (hZ : Z.Warmed39 s.vm) (hw : ∀ d ∈ words, d.before a0 Z = true) : ∀ d ∈ words, d.before args s = true := fun d hd => by
  have q := hw d hd
  have t : ∀ d ∈ words, d = .arrayClass .byte ∨ (d.onTables && d.keepsFace) = true := by decide +kernel
  rcases t d hd with rfl | t
  · exact RoadKit.mvA hZ q
  · exact RoadKit.mv hZ q t
/-- WHAT COMES BACK, over the tables of the start Z: h the heap at the call, h' behind it -/
def Q (Z : State) (x : Addr) (A : Cell) (h : Heap) (v : Option Value) (h' : Heap) (L : List Loc) : Prop := v = none ∧ (∀ y ∈ L, y.base = x) ∧ RoadKit.Keep h h' [x] ∧ h'.size = h.size + 1 ∧ RoadKit.Exa Z h' x ST ∧ RoadKit.Fld Z h' x ST "value" "[B" (.ref h.size) ∧ RoadKit.Fld Z h' x ST "coder" "B" (.int 0) ∧
  (∃ V : Cell, RoadKit.Arr Z h' h.size V .byte ∧ V.vm = .none ∧ Z.vm.findClass "[B" = some V.cls ∧ V.slots.size = A.slots.size ∧ ∀ j, j < A.slots.size → V.slots[j]? = some (.int (lo8 (cv A j)))) ∧
  ∀ (O n d : String) (w : Value), RoadKit.Fld Z h x O n d w → RoadKit.slotOf Z O n d ≠ RoadKit.slotOf Z ST "value" "[B" → RoadKit.slotOf Z O n d ≠ RoadKit.slotOf Z ST "coder" "B" → RoadKit.Fld Z h' x O n d w
/-- **new String(chars) AT A CALL, IN THE ROAD'S FORM**: for specialBack behind newO: x the fresh String, b the char[] with the cell A -/
theorem back {p : Program} {l : Launch} {e : Env} {R : Room} {s : State} {args : Array Value} {below : List Frame} {len W : Nat} {Z : State} {a0 : Array Value} {h : Heap} (hZ : Z.Warmed39 s.vm) (hw : ∀ d ∈ words, d.before a0 Z = true) {kI : Nat} (wi : (Jvm.Cond.instantiable ST kI).before a0 Z = true)
    {x b : Addr} {A : Cell} {z : Int32} {v0 c0 : Value} (E : RoadKit.Exa Z h x ST) (V : RoadKit.Fld Z h x ST "value" "[B" v0) (C : RoadKit.Fld Z h x ST "coder" "B" c0) (K : RoadKit.Arr Z h b A .char) (hty : Typed .char A) (S : RoadKit.Sta Z h ST "COMPACT_STRINGS" "Z" (.int z)) (hz : ¬ z = 0)
    (l0 : 0 < A.slots.size) (l2 : A.slots.size ≤ 536870912) (hp : ∀ i, i < A.slots.size → ¬ 255 < cv A i) (hfr : 4 ≤ R.frames) (hlo : W + 65 ≤ R.locals) :
    Back l R p e below s args New1.yN len W (fun P a => a = #[.ref x, .ref b] ∧ P.U.heap = h ∧ P.cells + 1 ≤ R.cells ∧ P.slots + A.slots.size ≤ R.slots)
      (fun P _ v B => ∃ L, Q Z x A h v B.U.heap L ∧ B.locs = P.locs ++ L ∧ B.cells = P.cells + 1 ∧ B.slots = P.slots + A.slots.size) := by
  intro m meth c P g ig mk a X hg hsize hdg hW hn hp'
  obtain ⟨rfl, rfl, r1, r2⟩ := hp'
  have al : Z.vm.Alike P.U.vm := hZ.alike.trans X.warmed.alike
  obtain ⟨D, cfV, kV, iV, fV, hD, gV, stV, knV, obV, asV, slV⟩ := id V
  obtain ⟨D', cfC, kC, iC, fC, hD', gC, stC, -, -, asC, slC⟩ := id C
  cases hD.symm.trans hD'
  obtain ⟨D2, kD, e1, e2, e3, e4, e5⟩ := id E
  cases hD.symm.trans e1
  obtain ⟨c2, k2, i1, i2, i3, -⟩ := Cond.instantiable_spec wi
  cases e2.symm.trans i1
  cases e3.symm.trans i2
  obtain ⟨kU, u1, u2⟩ := al.2.2 _ _ e3
  have hB : Blank ST x D P.U := ⟨hD, ⟨knV, fun q hq => by rw [hq] at obV; cases obV⟩, by rw [al.findClass]; exact e2, kU, u1, by rw [u2]; exact i3, by rw [u2]; exact e5 i3⟩
  have F1 : Found ST "value" "[B" fV P.U := ⟨SBG.found_only al ⟨cfV, kV, iV, gV⟩, stV⟩
  have F2 : Found ST "coder" "B" fC P.U := ⟨SBG.found_only al ⟨cfC, kC, iC, gC⟩, stC⟩
  have hA : Ch b A P.U := ⟨⟨K.1, State.isArrayOf_alike al K.2.1, K.2.2, by omega⟩, hty⟩
  have hS : StaticIs P.U ST "COMPACT_STRINGS" "Z" (.int z) := by
    obtain ⟨cfS, iS, kS, fS, st, cS, t1, t2, t3, t4, t5, t6, t7⟩ := S
    exact StaticIs.there (s := { Z with heap := P.U.heap }) ⟨cfS, iS, kS, fS, st, cS, t1, t2, t3, t4, t5, (fun q => by rw [q] at t6; cases t6), t7⟩ al rfl
  obtain ⟨v, B, X', ⟨⟨hv, E', V', q1, q2, q3, q4, q5, q6, q7, q8, q9, q10, q11⟩, hl, hc, hs⟩, st⟩ := New1.pays x D fV fC b A z (tab_of (moved hZ hw)) hfr hlo m meth c P g ig mk _ X hg hsize hdg hW hn ⟨r1, r2, rfl, hB, F1, F2, hA, hS, hz, l0, l2, hp⟩
  have al' : Z.vm.Alike B.U.vm := hZ.alike.trans X'.warmed.alike
  have hsz : E'.slots.size = D.slots.size := by
    obtain ⟨-, -, -, kB, w1, w2, w3⟩ := q1
    obtain ⟨kB', y1, y2⟩ := al'.2.2 _ _ e3
    rw [q2.2.1] at w1
    cases w1.symm.trans y1
    rw [w3, e5 i3, y2]
  refine ⟨v, B, X', ⟨_, ⟨hv, ?_, ⟨by omega, fun y cy hy hn' => q10 y cy (by simpa using hn') hy, fun y cy hy => ?_⟩, q11, ⟨E', _, q1.1, by rw [q2.2.1]; exact e2, by rw [q2.2.1]; exact e3, by rw [q2.1]; exact obV, fun _ => by rw [hsz]; exact e5 i3⟩,
    ⟨E', cfV, kV, iV, fV, q1.1, gV, stV, by rw [q2.1]; exact knV, by rw [q2.1]; exact obV, by rw [q2.2.1]; exact asV, q3⟩, ⟨E', cfC, kC, iC, fC, q1.1, gC, stC, by rw [q2.1]; exact knV, by rw [q2.1]; exact obV, by rw [q2.2.1]; exact asC, q4⟩,
    ⟨V', ⟨q5.1, State.isArrayOf_alike al'.symm q5.2.1, q5.2.2.1⟩, q6, by rw [← al'.findClass]; exact q7, q8, fun j hj => by have := q9 j hj; rwa [Nat.zero_add] at this⟩, fun O n d w F n1 n2 => ?_⟩, hl, hc, hs⟩, st⟩
  · intro y hy
    simp only [List.mem_cons, List.not_mem_nil, or_false] at hy
    rcases hy with rfl | rfl <;> rfl
  · by_cases q : y = x
    · subst q
      cases hD.symm.trans hy
      exact ⟨E', q1.1, q2.2.1, q2.1, hsz⟩
    · exact ⟨cy, q10 y cy q hy, rfl, rfl, rfl⟩
  · obtain ⟨D3, cf, k, i, f, g1, g2, g3, g4, g5, g6, g7⟩ := F
    cases hD.symm.trans g1
    simp only [RoadKit.slotOf, g2, gV, gC, Option.map_some, Option.getD_some] at n1 n2
    exact ⟨E', cf, k, i, f, q1.1, g2, g3, by rw [q2.1]; exact g4, by rw [q2.1]; exact g5, by rw [q2.2.1]; exact g6, by rw [q2.2.2 f.slot (by simp [n1, n2])]; exact g7⟩
end StrChars.Road
namespace StrChars.Road
open Jvm Sem ClassFile Op Lib Jvm.Stand Jvm.Free Jvm.Free.XT
/-- WHAT COMES BACK, the byte[] as a list of values -/
def QA (Z : State) (x : Addr) (zn : Int32) (cs : List Int32) (h : Heap) (v : Option Value) (h' : Heap) (L : List Loc) : Prop := v = none ∧ (∀ y ∈ L, y.base = x) ∧ RoadKit.Keep h h' [x] ∧ h'.size = h.size + 1 ∧ RoadKit.Exa Z h' x ST ∧ RoadKit.Fld Z h' x ST "value" "[B" (.ref h.size) ∧ RoadKit.Fld Z h' x ST "coder" "B" (.int 0) ∧
  (∃ kb, Z.vm.findClass "[B" = some kb ∧ RoadKit.Arv Z h' h.size kb .byte zn (cs.map fun c => .int (lo8 c)) (.int 0)) ∧
  ∀ (O n d : String) (w : Value), RoadKit.Fld Z h x O n d w → RoadKit.slotOf Z O n d ≠ RoadKit.slotOf Z ST "value" "[B" → RoadKit.slotOf Z O n d ≠ RoadKit.slotOf Z ST "coder" "B" → RoadKit.Fld Z h' x O n d w
/-- **new String(chars) AT A CALL, THE ARRAYS AS LISTS**: the char[] at b holds cs, not empty, no char above 255 -/
theorem backArv {p : Program} {l : Launch} {e : Env} {R : Room} {s : State} {args : Array Value} {below : List Frame} {len W : Nat} {Z : State} {a0 : Array Value} {h : Heap} (hZ : Z.Warmed39 s.vm) (hw : ∀ d ∈ words, d.before a0 Z = true) {kI : Nat} (wi : (Jvm.Cond.instantiable ST kI).before a0 Z = true)
    {x b : Addr} {k : ClassId} {zn z : Int32} {cs : List Int32} {dv v0 c0 : Value} (E : RoadKit.Exa Z h x ST) (V : RoadKit.Fld Z h x ST "value" "[B" v0) (C : RoadKit.Fld Z h x ST "coder" "B" c0) (K : RoadKit.Arv Z h b k .char zn (cs.map Value.int) dv) (S : RoadKit.Sta Z h ST "COMPACT_STRINGS" "Z" (.int z)) (hz : ¬ z = 0)
    (hlen : zn.toNatClampNeg = cs.length) (h0 : 0 < cs.length) (hbig : cs.length ≤ 536870912) (hall : ∀ c ∈ cs, ¬ 255 < c) (hfr : 4 ≤ R.frames) (hlo : W + 65 ≤ R.locals) :
    Back l R p e below s args New1.yN len W (fun P a => a = #[.ref x, .ref b] ∧ P.U.heap = h ∧ P.cells + 1 ≤ R.cells ∧ P.slots + cs.length ≤ R.slots)
      (fun P _ v B => ∃ L, QA Z x zn cs h v B.U.heap L ∧ B.locs = P.locs ++ L ∧ B.cells = P.cells + 1 ∧ B.slots = P.slots + cs.length) := by
  obtain ⟨A, K1, K2, K3, K4, K5, K6⟩ := K
  have e : A.slots.size = cs.length := K3.trans hlen
  have hat : ∀ (i : Nat) (hi : i < cs.length), A.slots[i]? = some (.int cs[i]) := fun i hi => by rw [K5 i (by omega)]; simp [List.getD_eq_getElem?_getD, hi]
  have hcv : ∀ (i : Nat) (hi : i < cs.length), cv A i = cs[i] := fun i hi => by unfold cv; rw [hat i hi]
  have hty : Typed .char A := fun i v hv => by
    have hi : i < A.slots.size := (Array.getElem?_eq_some_iff.mp hv).1
    have q := K5 i hi
    rw [hv] at q
    rw [Option.some.inj q]
    exact K6 i hi
  refine Back.mono (back hZ hw wi E V C K1 hty S hz (by omega) (by omega) (fun i hi => by rw [hcv i (by omega)]; exact hall _ (List.getElem_mem _)) hfr hlo) (fun P a hp => ⟨hp.1, hp.2.1, hp.2.2.1, by rw [e]; exact hp.2.2.2⟩) (fun P a v B hp hq => ?_)
  obtain ⟨L, ⟨q1, q2, q3, q4, q5, q6, q7, ⟨V', v1, v2, v3, v4, v5⟩, q9⟩, hl, hc, hs⟩ := hq
  refine ⟨L, ⟨q1, q2, q3, q4, q5, q6, q7, ⟨V'.cls, v3, V', v1, rfl, by rw [v4, e, hlen], K4, fun i hi => ?_, fun i hi => ?_⟩, q9⟩, hl, hc, by rw [hs, e]⟩
  · have hi' : i < cs.length := by omega
    rw [v5 i (by omega), hcv i hi']; simp [List.getD_eq_getElem?_getD, hi']
  · have hi' : i < cs.length := by omega
    simp only [List.getD_eq_getElem?_getD, List.getElem?_map, List.getElem?_eq_getElem hi', Option.map_some, Option.getD_some]
    exact fits_lo8 _
end StrChars.Road
namespace StrChars.Road
open Jvm Sem ClassFile Op Lib Jvm.Stand Jvm.Free Jvm.Free.XT
/-- WHAT COMES BACK, in the writer's own shape -/
def QV (Z : State) (x : Addr) (N : Int32) (bs : List Int32) (h : Heap) (n0 : Nat) (v : Option Value) (h' : Heap) (L : List Loc) : Prop := v = none ∧ RoadKit.Fr n0 L ∧ RoadKit.Keep h h' [x] ∧ RoadKit.Exa Z h' x ST ∧ RoadKit.Fld Z h' x ST "coder" "B" (.int 0) ∧
  ∃ (t : Addr) (kb : ClassId), n0 ≤ t ∧ h.size ≤ t ∧ ¬ t = x ∧ RoadKit.Fld Z h' x ST "value" "[B" (.ref t) ∧ RoadKit.Arv Z h' t kb .byte N (bs.map Value.int) (.int 0)
/-- **new String(chars) AT A CALL, FOR THE WRITER**: a char[] of n known ints, each 0 to 255 -/
theorem backV {p : Program} {l : Launch} {e : Env} {R : Room} {s : State} {args : Array Value} {below : List Frame} {len W : Nat} {Z : State} {a0 : Array Value} {h : Heap} (hZ : Z.Warmed39 s.vm) (hw : ∀ d ∈ words, d.before a0 Z = true) {kI : Nat} (wi : (Jvm.Cond.instantiable ST kI).before a0 Z = true)
    {x b : Addr} {kC : ClassId} {cs bs : List Int32} {d v0 c0 : Value} {z N : Int32} {n n0 : Nat} (hx0 : n0 ≤ x) (hh0 : n0 ≤ h.size) (E : RoadKit.Exa Z h x ST) (V : RoadKit.Fld Z h x ST "value" "[B" v0) (C : RoadKit.Fld Z h x ST "coder" "B" c0) (K : RoadKit.Arv Z h b kC .char N (cs.map Value.int) d) (S : RoadKit.Sta Z h ST "COMPACT_STRINGS" "Z" (.int z)) (hz : ¬ z = 0)
    (hn : cs.length = n) (hN : N = Int32.ofNat n) (l0 : 0 < n) (l2 : n ≤ 4000) (hp : ∀ c ∈ cs, ¬ c < 0 ∧ ¬ (255 : Int32) < c) (hb : bs = cs.map (fun c => c.toInt8.toInt32)) (hfr : 4 ≤ R.frames) (hlo : W + 65 ≤ R.locals) :
    Back l R p e below s args (⟨"java/lang/String", "<init>", "([C)V"⟩ : MethodName) len W (fun P a => a = #[.ref x, .ref b] ∧ P.U.heap = h ∧ P.cells + 1 ≤ R.cells ∧ P.slots + n ≤ R.slots)
      (fun P _ v B => ∃ L, QV Z x N bs h n0 v B.U.heap L ∧ B.locs = P.locs ++ L ∧ B.cells = P.cells + 1 ∧ B.slots = P.slots + n) := by
  subst hn hN hb
  refine Back.mono (backArv hZ hw wi E V C K S hz (n32 (by omega)) l0 (by omega) (fun c hc => (hp c hc).2) hfr hlo) (fun P a hp => hp) (fun P a v B hp hq => ?_)
  obtain ⟨L, ⟨q1, q2, q3, q4, q5, q6, q7, ⟨kb, v1, v2⟩, q9⟩, hl, hc, hs⟩ := hq
  exact ⟨L, ⟨q1, fun y hy => by rw [q2 y hy]; exact hx0, q3, q5, q7, h.size, kb, hh0, Nat.le_refl _, Nat.ne_of_gt E.lt, q6, by rw [List.map_map]; exact v2⟩, hl, hc, hs⟩
end StrChars.Road
end Jvm.Pilot.@@N@@
namespace Jvm.Pilot.@@N@@
open Jvm Jvm.ClassFile Sem Op Lib Jvm.Free Jvm.Stand Jvm.LawKit Jvm.RoadKit Bundle Jvm.Pilot.@@N@@.Jvm.D
theorem own_b1 {v A K : Int32} (h : v < A) (d : ¬ (K < A)) : v < K := by rw [Int32.lt_iff_toInt_lt] at *; omega
theorem own_b2 {v A K : Int32} (h : v < A) (d : A.toInt ≤ K.toInt + 1) : ¬ (K < v) := by rw [Int32.lt_iff_toInt_lt] at *; omega
theorem own_b3 {v A K : Int32} (h : ¬ (v < A)) (d : ¬ (A < K)) : ¬ (v < K) := by rw [Int32.lt_iff_toInt_lt] at *; omega
theorem own_b4 {v A K : Int32} (h : ¬ (v < A)) (d : K < A) : K < v := by rw [Int32.lt_iff_toInt_lt] at *; omega
theorem own_b5 {v A K : Int32} (h : A < v) (d : K.toInt ≤ A.toInt + 1) : ¬ (v < K) := by rw [Int32.lt_iff_toInt_lt] at *; omega
theorem own_b6 {v A K : Int32} (h : A < v) (d : ¬ (A < K)) : K < v := by rw [Int32.lt_iff_toInt_lt] at *; omega
theorem own_b7 {v A K : Int32} (h : ¬ (A < v)) (d : A < K) : v < K := by rw [Int32.lt_iff_toInt_lt] at *; omega
theorem own_b8 {v A K : Int32} (h : ¬ (A < v)) (d : ¬ (K < A)) : ¬ (K < v) := by rw [Int32.lt_iff_toInt_lt] at *; omega
theorem own_w {Z : State} {a0 : Array Value} (hw : ∀ d ∈ tables_1, d.before a0 Z = true) (i : Nat) {d : Jvm.Cond} (h : tables_1[i]? = some d) : d.before a0 Z = true := hw d (List.mem_of_getElem? h)
theorem own_fldI {args : Array Value} {s : State} {t : Term} {x : Addr} {C n d : String} {k : Int32} (ht : t.eval args s none [] s = some (.ref x)) (h : (Jvm.Cond.eq (.field t C n d) (.int k)).value args s none s [] = some true) : s.fieldOf? x C n d = some (.int k) := by
  obtain ⟨u, v, e1, e2, -, -⟩ := cmp_v (Or.inl h)
  have e3 : (Term.field t C n d).eval args s none [] s = s.fieldOf? x C n d := fld_at ht
  cases (show some (Value.int k) = some v from e2)
  rw [e3] at e1
  cases u <;> simp [Jvm.Cond.value, Term.eval, ht, e1] at h
  rw [e1, h]
theorem own_fldR {args : Array Value} {s : State} {t u : Term} {x y : Addr} {C n d : String} (ht : t.eval args s none [] s = some (.ref x)) (hu : u.eval args s none [] s = some (.ref y)) (h : (Jvm.Cond.eq (.field t C n d) u).value args s none s [] = some true) : s.fieldOf? x C n d = some (.ref y) := by
  obtain ⟨v, w, e1, e2, -, -⟩ := cmp_v (Or.inl h)
  have e3 : (Term.field t C n d).eval args s none [] s = s.fieldOf? x C n d := fld_at ht
  rw [e3] at e1
  cases v <;> simp [Jvm.Cond.value, Term.eval, ht, hu, e1] at h
  rw [e1, h]
theorem own_lat (x : Int32) : ¬ (x &&& (255 : Int32)) < 0 ∧ ¬ (255 : Int32) < (x &&& (255 : Int32)) := by
  have h := c_and x 255 (by decide)
  have e0 : (0 : Int32).toInt = 0 := by decide
  have e1 : (255 : Int32).toInt = 255 := by decide
  rw [e1] at h
  rw [Int32.lt_iff_toInt_lt, Int32.lt_iff_toInt_lt, e0, e1]
  omega
theorem own_words : ∀ d ∈ StrChars.Road.words, d ∈ tables_1 := by decide +kernel
theorem d0_0 : decode jdk_30_method_1_code 0 = .ok (.aload_n 0, 1) := by decide +kernel
theorem d0_1 : decode jdk_30_method_1_code 1 = .ok (.invokespecial 1, 3) := by decide +kernel
theorem d0_4 : decode jdk_30_method_1_code 4 = .ok (.return_, 1) := by decide +kernel
theorem pn_0 : plainName "java/lang/Record" = true := by first | (simp [plainName, overriddenIn]; done) | decide +kernel
theorem ef_rm_rec (m : MethodId) (x0 : Addr) : entryFrame m #[(.ref x0)] 1 = mkF m 0 #[.val (.ref x0)] [] := by first | (simp [entryFrame, mkF, argsToLocals, Value.category]; done) | rfl
def Q_rm_rec (Z : State) (a' : Addr) (h0 : Heap) (n0 : Nat) (v : Option Value) (h : Heap) (L : List Loc) : Prop := ((v = none) ∧ (Fr n0 L) ∧ (h = h0))
set_option maxRecDepth 65536 in
set_option maxHeartbeats 40000000 in
theorem rm_rec (l : Launch) (Z : State) (a0 : Array Value) (hw : ∀ d ∈ tables_1, d.before a0 Z = true) (ws : List Jvm.Cond) (a' : Addr) (h0 : Heap) (n0 : Nat) (O0 : Old Z n0 h0) :
    MetFree l (⟨"java/lang/Record", "<init>", "()V"⟩ : MethodName) (head1 (Jvm.Cond.code (⟨"java/lang/Record", "<init>", "()V"⟩ : MethodName) jdk_30_method_1_code 1 none :: ws) ({ frames := 1, cells := 0, slots := 0, locals := 12 } : Room)) (fun a U => a = #[(.ref a')] ∧ Z.Warmed39 U.vm ∧ U.heap = h0) (fun _ _ _ _ _ => True) (fun _ U o U' => ∃ v L, o = .returned v ∧ Q_rm_rec Z a' h0 n0 v U'.heap L ∧ FrameEnd U o U' L ({ frames := 1, cells := 0, slots := 0, locals := 12 } : Room).cells ({ frames := 1, cells := 0, slots := 0, locals := 12 } : Room).slots) := by
  refine MetFree.of_bodySF (plainFor_of_name pn_0) hisR ?_
  intro p e s m args below meth c s₁ Bd hml0 hP hK
  obtain ⟨rfl, hZ, hh⟩ := hP
  have hx := Bd.exec
  have hby := Bd.bytes
  have hml : c.maxLocals = 1 := hml0
  have hown : s.vm.findClass "java/lang/Record" = some m.cls := findClass_of_methodNamed Bd.named
  have hnm := (name_of_methodNamed Bd.named Bd.method).1
  have X0 : Stand p l e ({ frames := 1, cells := 0, slots := 0, locals := 12 } : Room) s m #[(.ref a')] below meth c s₁ [] 0 0 := Stand.of_body Bd
  have e0 : s₁.heap = h0 := by rw [← hh, Bd.state]; rfl
  have N0 := Fr.nil n0
  have pre0 : ∀ t, Steps p.tables e below (s₁.setTop (mkF m 0 #[.val (.ref a')] [])) t → Steps p.tables e below (s₁.setTop (entryFrame m #[(.ref a')] 1)) t := fun t k => castTop (ef_rm_rec m a') k
  obtain ⟨T1, X1, e1, st1⟩ := initO X0 hx hZ hown (own_w hw 41 rfl) (own_w hw 12 rfl) (own_w hw 13 rfl) e0 (g := (mkF m 1 #[.val (.ref a')] [(.ref a')])) rfl (by rw [hml]; rfl) rfl (hb hby d0_1) (by decide) (W := 0) (by show 2 * 0 + _ ≤ _; exact Nat.le_of_eq rfl) (by decide)
  have S2 : ∀ t, Steps p.tables e below (T1.setTop (mkF m 4 #[.val (.ref a')] [])) t → Steps p.tables e below (s₁.setTop (mkF m 0 #[.val (.ref a')] [])) t := by
    intro t kt
    refine XS.aloadN X0.here hx rfl (hb hby d0_0) rfl rfl ?_
    show Steps p.tables e below (s₁.setTop (mkF m 1 #[.val (.ref a')] [(.ref a')])) _
    refine st1 _ ?_
    exact kt
  obtain ⟨fs, hr, hrun, hended, hW, hsame⟩ := X1.leave (v := none) (fun _ => rfl)
  refine ⟨_, _, pre0 _ (S2 _ ?_), hrun, hended, _, _, rfl, ?_, ⟨_, rfl⟩, hW, hsame.mono (by decide) (by decide)⟩
  · exact X1.returnOut hx Bd.returns (hb hby d0_4) hr
  · show Q_rm_rec Z a' h0 n0 _ T1.heap _
    rw [e1]
    exact ⟨rfl, N0, rfl⟩
theorem d1_0 : decode prog_45_method_1_code 0 = .ok (.aload_n 0, 1) := by decide +kernel
theorem d1_1 : decode prog_45_method_1_code 1 = .ok (.invokespecial 1, 3) := by decide +kernel
theorem pd_0 : parseMethodDescriptor "()V" = some ⟨[], none⟩ := by decide +kernel
theorem d1_4 : decode prog_45_method_1_code 4 = .ok (.aload_n 0, 1) := by decide +kernel
theorem d1_5 : decode prog_45_method_1_code 5 = .ok (.aload_n 1, 1) := by decide +kernel
theorem d1_6 : decode prog_45_method_1_code 6 = .ok (.putfield 7, 3) := by decide +kernel
theorem d1_9 : decode prog_45_method_1_code 9 = .ok (.aload_n 0, 1) := by decide +kernel
theorem d1_10 : decode prog_45_method_1_code 10 = .ok (.iload_n 2, 1) := by decide +kernel
theorem d1_11 : decode prog_45_method_1_code 11 = .ok (.putfield 13, 3) := by decide +kernel
theorem d1_14 : decode prog_45_method_1_code 14 = .ok (.aload_n 0, 1) := by decide +kernel
theorem d1_15 : decode prog_45_method_1_code 15 = .ok (.iload_n 3, 1) := by decide +kernel
theorem d1_16 : decode prog_45_method_1_code 16 = .ok (.putfield 17, 3) := by decide +kernel
theorem d1_19 : decode prog_45_method_1_code 19 = .ok (.aload_n 0, 1) := by decide +kernel
theorem d1_20 : decode prog_45_method_1_code 20 = .ok (.iload 4, 2) := by decide +kernel
theorem d1_22 : decode prog_45_method_1_code 22 = .ok (.putfield 20, 3) := by decide +kernel
theorem d1_25 : decode prog_45_method_1_code 25 = .ok (.aload_n 0, 1) := by decide +kernel
theorem d1_26 : decode prog_45_method_1_code 26 = .ok (.iload 5, 2) := by decide +kernel
theorem d1_28 : decode prog_45_method_1_code 28 = .ok (.putfield 23, 3) := by decide +kernel
theorem d1_31 : decode prog_45_method_1_code 31 = .ok (.return_, 1) := by decide +kernel
theorem pn_1 : plainName "com/example/ogmios/ogmios/queue/QueueDeclaration" = true := by first | (simp [plainName, overriddenIn]; done) | decide +kernel
theorem ef_rm_qinit00 (m : MethodId) (x0 : Addr) (x1 : Addr) (x2 : Int32) (x3 : Int32) (x4 : Int32) (x5 : Int32) : entryFrame m #[(.ref x0), (.ref x1), (.int x2), (.int x3), (.int x4), (.int x5)] 6 = mkF m 0 #[.val (.ref x0), .val (.ref x1), .val (.int x2), .val (.int x3), .val (.int x4), .val (.int x5)] [] := by first | (simp [entryFrame, mkF, argsToLocals, Value.category]; done) | rfl
def Q_rm_qinit00 (Z : State) (a' : Addr) (nm : Addr) (au : Int32) (mp : Int32) (h0 : Heap) (n0 : Nat) (v : Option Value) (h : Heap) (L : List Loc) : Prop := ((v = none) ∧ (Fr n0 L) ∧ (Keep h0 h [a']) ∧ (Exa Z h a' "com/example/ogmios/ogmios/queue/QueueDeclaration") ∧ (Fld Z h a' "com/example/ogmios/ogmios/queue/QueueDeclaration" "durable" "Z" (.int (0 : Int32))) ∧ (Fld Z h a' "com/example/ogmios/ogmios/queue/QueueDeclaration" "exclusive" "Z" (.int (0 : Int32))))
set_option maxRecDepth 65536 in
set_option maxHeartbeats 40000000 in
theorem rm_qinit00 (l : Launch) (Z : State) (a0 : Array Value) (hw : ∀ d ∈ tables_1, d.before a0 Z = true) (ws : List Jvm.Cond) (a' : Addr) (nm : Addr) (au : Int32) (mp : Int32) (h0 : Heap) (n0 : Nat) (O0 : Old Z n0 h0) (E_a : Exa Z h0 a' "com/example/ogmios/ogmios/queue/QueueDeclaration") (g_a : n0 ≤ a') (F_name : Fld Z h0 a' "com/example/ogmios/ogmios/queue/QueueDeclaration" "name" "Ljava/lang/String;" .null) (F_durable : Fld Z h0 a' "com/example/ogmios/ogmios/queue/QueueDeclaration" "durable" "Z" (.int (0 : Int32))) (F_exclusive : Fld Z h0 a' "com/example/ogmios/ogmios/queue/QueueDeclaration" "exclusive" "Z" (.int (0 : Int32))) (F_autoDelete : Fld Z h0 a' "com/example/ogmios/ogmios/queue/QueueDeclaration" "autoDelete" "Z" (.int (0 : Int32))) (F_maxPriority : Fld Z h0 a' "com/example/ogmios/ogmios/queue/QueueDeclaration" "maxPriority" "I" (.int (0 : Int32))) :
    MetFree l (⟨"com/example/ogmios/ogmios/queue/QueueDeclaration", "<init>", "(Ljava/lang/String;ZZZI)V"⟩ : MethodName) (head1 (Jvm.Cond.code (⟨"com/example/ogmios/ogmios/queue/QueueDeclaration", "<init>", "(Ljava/lang/String;ZZZI)V"⟩ : MethodName) prog_45_method_1_code 6 none :: ws) ({ frames := 2, cells := 0, slots := 0, locals := 24 } : Room)) (fun a U => a = #[(.ref a'), (.ref nm), (.int (0 : Int32)), (.int (0 : Int32)), (.int au), (.int mp)] ∧ Z.Warmed39 U.vm ∧ U.heap = h0) (fun _ _ _ _ _ => True) (fun _ U o U' => ∃ v L, o = .returned v ∧ Q_rm_qinit00 Z a' nm au mp h0 n0 v U'.heap L ∧ FrameEnd U o U' L ({ frames := 2, cells := 0, slots := 0, locals := 24 } : Room).cells ({ frames := 2, cells := 0, slots := 0, locals := 24 } : Room).slots) := by
  refine MetFree.of_bodySF (plainFor_of_name pn_1) hisR ?_
  intro p e s m args below meth c s₁ Bd hml0 hP hK
  obtain ⟨rfl, hZ, hh⟩ := hP
  have hx := Bd.exec
  have hby := Bd.bytes
  have hml : c.maxLocals = 6 := hml0
  have hown : s.vm.findClass "com/example/ogmios/ogmios/queue/QueueDeclaration" = some m.cls := findClass_of_methodNamed Bd.named
  have hnm := (name_of_methodNamed Bd.named Bd.method).1
  have X0 : Stand p l e ({ frames := 2, cells := 0, slots := 0, locals := 24 } : Room) s m #[(.ref a'), (.ref nm), (.int (0 : Int32)), (.int (0 : Int32)), (.int au), (.int mp)] below meth c s₁ [] 0 0 := Stand.of_body Bd
  have e0 : s₁.heap = h0 := by rw [← hh, Bd.state]; rfl
  have N0 := Fr.nil n0
  have K0 : Keep h0 h0 [a'] := Keep.refl _ _
  have pre0 : ∀ t, Steps p.tables e below (s₁.setTop (mkF m 0 #[.val (.ref a'), .val (.ref nm), .val (.int (0 : Int32)), .val (.int (0 : Int32)), .val (.int au), .val (.int mp)] [])) t → Steps p.tables e below (s₁.setTop (entryFrame m #[(.ref a'), (.ref nm), (.int (0 : Int32)), (.int (0 : Int32)), (.int au), (.int mp)] 6)) t := fun t k => castTop (ef_rm_qinit00 m a' nm (0 : Int32) (0 : Int32) au mp) k
  obtain ⟨_, _, ⟨T1, L1, k1, n1⟩, -, X1, ⟨Lc1, hQ1, l1, y1, z1⟩, st1⟩ := X0.specialBack hx (y := (⟨"java/lang/Record", "<init>", "()V"⟩ : MethodName)) rfl hown (mvT hZ (own_w hw 36 rfl)) (mvT hZ (own_w hw 37 rfl)) (mvT hZ (own_w hw 40 rfl)) (by decide) (backOf (W := 0) (rm_rec l Z a0 hw [] a' h0 n0 O0 ) hZ (own_w hw 40 rfl) (own_w hw 39 rfl) (by decide) (by decide)) (g := (mkF m 1 #[.val (.ref a'), .val (.ref nm), .val (.int (0 : Int32)), .val (.int (0 : Int32)), .val (.int au), .val (.int mp)] [(.ref a')])) rfl (by rw [hml]; rfl) (Steps.refl _) (a := a') (argsL := []) (rest := []) (lenOf pd_0 rfl) rfl (by show 2 * 0 + _ ≤ _; exact Nat.le_of_eq rfl) (hb hby d1_1) (fun _ _ => ⟨rfl, e0, (by decide : 0 + 0 ≤ _), (by decide : 0 + 0 ≤ _)⟩)
  dsimp only [Pt.U, Pt.locs, Pt.cells, Pt.slots] at X1 l1 y1 z1 st1 hQ1
  subst l1 y1 z1
  obtain ⟨rfl, N2, k3⟩ := hQ1
  have N4 := Fr.app N0 N2
  obtain ⟨T5, h5, X5, e5, W5, st5⟩ := putF X1 hx hZ hown (host := "") (Or.inl (own_w hw 42 rfl)) Via.refl k3 F_name E_a (Or.inr ⟨(own_w hw 43 rfl), rfl, hnm⟩) (own_w hw 31 rfl) (ty := (.object "java/lang/String")) (by decide) rfl rfl (g := (mkF m 6 #[.val (.ref a'), .val (.ref nm), .val (.int (0 : Int32)), .val (.int (0 : Int32)), .val (.int au), .val (.int mp)] [(.ref nm), (.ref a')])) rfl rfl (hb hby d1_6)
  have O6 := O0.wr W5 g_a
  have K7 : Keep h0 h5 [a'] := K0.wr W5 (Or.inl (List.mem_of_getElem? (i := 0) rfl))
  have N8 := Fr.snoc X5 N4 g_a
  have F5 : Fld Z h5 a' "com/example/ogmios/ogmios/queue/QueueDeclaration" "name" "Ljava/lang/String;" (.ref nm) := Fld.same W5 F_name
  have f9 := (Fld.other W5 F_durable (Or.inr (slot_ne (Or.inr (own_w hw 45 rfl)) (Or.inr (own_w hw 43 rfl)) (by decide) (t := .boolean) (t' := (.object "java/lang/String")) (by decide) (by decide))))
  have f10 := (Exa.wr W5 E_a)
  obtain ⟨T11, h11, X11, e11, W11, st11⟩ := putFN X5 hx hZ hown (own_w hw 44 rfl) Via.refl e5 f9 f10 (Or.inr ⟨(own_w hw 45 rfl), rfl, hnm⟩) (own_w hw 31 rfl) (ty := .boolean) (v' := (.int (0 : Int32))) (by decide) rfl rfl (g := (mkF m 11 #[.val (.ref a'), .val (.ref nm), .val (.int (0 : Int32)), .val (.int (0 : Int32)), .val (.int au), .val (.int mp)] [(.int (0 : Int32)), (.ref a')])) rfl rfl (hb hby d1_11)
  have O12 := O6.wr W11 g_a
  have K13 : Keep h0 h11 [a'] := K7.wr W11 (Or.inl (List.mem_of_getElem? (i := 0) rfl))
  have N14 := Fr.snoc X11 N8 g_a
  have F11 : Fld Z h11 a' "com/example/ogmios/ogmios/queue/QueueDeclaration" "durable" "Z" (.int (0 : Int32)) := Fld.same W11 f9
  have f15 := (Fld.other W11 (Fld.other W5 F_exclusive (Or.inr (slot_ne (Or.inr (own_w hw 47 rfl)) (Or.inr (own_w hw 43 rfl)) (by decide) (t := .boolean) (t' := (.object "java/lang/String")) (by decide) (by decide)))) (Or.inr (slot_ne (Or.inr (own_w hw 47 rfl)) (Or.inr (own_w hw 45 rfl)) (by decide) (t := .boolean) (t' := .boolean) (by decide) (by decide))))
  have f16 := (Exa.wr W11 f10)
  obtain ⟨T17, h17, X17, e17, W17, st17⟩ := putFN X11 hx hZ hown (own_w hw 46 rfl) Via.refl e11 f15 f16 (Or.inr ⟨(own_w hw 47 rfl), rfl, hnm⟩) (own_w hw 31 rfl) (ty := .boolean) (v' := (.int (0 : Int32))) (by decide) rfl rfl (g := (mkF m 16 #[.val (.ref a'), .val (.ref nm), .val (.int (0 : Int32)), .val (.int (0 : Int32)), .val (.int au), .val (.int mp)] [(.int (0 : Int32)), (.ref a')])) rfl rfl (hb hby d1_16)
  have O18 := O12.wr W17 g_a
  have K19 : Keep h0 h17 [a'] := K13.wr W17 (Or.inl (List.mem_of_getElem? (i := 0) rfl))
  have N20 := Fr.snoc X17 N14 g_a
  have F17 : Fld Z h17 a' "com/example/ogmios/ogmios/queue/QueueDeclaration" "exclusive" "Z" (.int (0 : Int32)) := Fld.same W17 f15
  have f21 := (Fld.other W17 (Fld.other W11 (Fld.other W5 F_autoDelete (Or.inr (slot_ne (Or.inr (own_w hw 49 rfl)) (Or.inr (own_w hw 43 rfl)) (by decide) (t := .boolean) (t' := (.object "java/lang/String")) (by decide) (by decide)))) (Or.inr (slot_ne (Or.inr (own_w hw 49 rfl)) (Or.inr (own_w hw 45 rfl)) (by decide) (t := .boolean) (t' := .boolean) (by decide) (by decide)))) (Or.inr (slot_ne (Or.inr (own_w hw 49 rfl)) (Or.inr (own_w hw 47 rfl)) (by decide) (t := .boolean) (t' := .boolean) (by decide) (by decide))))
  have f22 := (Exa.wr W17 f16)
  obtain ⟨T23, h23, X23, e23, W23, st23⟩ := putFN X17 hx hZ hown (own_w hw 48 rfl) Via.refl e17 f21 f22 (Or.inr ⟨(own_w hw 49 rfl), rfl, hnm⟩) (own_w hw 31 rfl) (ty := .boolean) (v' := (.int (nar .boolean au))) (by decide) rfl (fits_nar_bool _) (g := (mkF m 22 #[.val (.ref a'), .val (.ref nm), .val (.int (0 : Int32)), .val (.int (0 : Int32)), .val (.int au), .val (.int mp)] [(.int au), (.ref a')])) rfl rfl (hb hby d1_22)
  have O24 := O18.wr W23 g_a
  have K25 : Keep h0 h23 [a'] := K19.wr W23 (Or.inl (List.mem_of_getElem? (i := 0) rfl))
  have N26 := Fr.snoc X23 N20 g_a
  have F23 : Fld Z h23 a' "com/example/ogmios/ogmios/queue/QueueDeclaration" "autoDelete" "Z" (.int (nar .boolean au)) := Fld.same W23 f21
  have f27 := (Fld.other W23 (Fld.other W17 (Fld.other W11 (Fld.other W5 F_maxPriority (Or.inr (slot_ne (Or.inr (own_w hw 51 rfl)) (Or.inr (own_w hw 43 rfl)) (by decide) (t := .int) (t' := (.object "java/lang/String")) (by decide) (by decide)))) (Or.inr (slot_ne (Or.inr (own_w hw 51 rfl)) (Or.inr (own_w hw 45 rfl)) (by decide) (t := .int) (t' := .boolean) (by decide) (by decide)))) (Or.inr (slot_ne (Or.inr (own_w hw 51 rfl)) (Or.inr (own_w hw 47 rfl)) (by decide) (t := .int) (t' := .boolean) (by decide) (by decide)))) (Or.inr (slot_ne (Or.inr (own_w hw 51 rfl)) (Or.inr (own_w hw 49 rfl)) (by decide) (t := .int) (t' := .boolean) (by decide) (by decide))))
  have f28 := (Exa.wr W23 f22)
  obtain ⟨T29, h29, X29, e29, W29, st29⟩ := putF X23 hx hZ hown (host := "") (Or.inl (own_w hw 50 rfl)) Via.refl e23 f27 f28 (Or.inr ⟨(own_w hw 51 rfl), rfl, hnm⟩) (own_w hw 31 rfl) (ty := .int) (by decide) rfl rfl (g := (mkF m 28 #[.val (.ref a'), .val (.ref nm), .val (.int (0 : Int32)), .val (.int (0 : Int32)), .val (.int au), .val (.int mp)] [(.int mp), (.ref a')])) rfl rfl (hb hby d1_28)
  have O30 := O24.wr W29 g_a
  have K31 : Keep h0 h29 [a'] := K25.wr W29 (Or.inl (List.mem_of_getElem? (i := 0) rfl))
  have N32 := Fr.snoc X29 N26 g_a
  have F29 : Fld Z h29 a' "com/example/ogmios/ogmios/queue/QueueDeclaration" "maxPriority" "I" (.int mp) := Fld.same W29 f27
  have S33 : ∀ t, Steps p.tables e below (T29.setTop (mkF m 31 #[.val (.ref a'), .val (.ref nm), .val (.int (0 : Int32)), .val (.int (0 : Int32)), .val (.int au), .val (.int mp)] [])) t → Steps p.tables e below (s₁.setTop (mkF m 0 #[.val (.ref a'), .val (.ref nm), .val (.int (0 : Int32)), .val (.int (0 : Int32)), .val (.int au), .val (.int mp)] [])) t := by
    intro t kt
    refine XS.aloadN X0.here hx rfl (hb hby d1_0) rfl rfl ?_
    show Steps p.tables e below (s₁.setTop (mkF m 1 #[.val (.ref a'), .val (.ref nm), .val (.int (0 : Int32)), .val (.int (0 : Int32)), .val (.int au), .val (.int mp)] [(.ref a')])) _
    refine st1.trans ?_
    refine XS.aloadN X1.here hx rfl (hb hby d1_4) rfl rfl ?_
    refine XS.aloadN X1.here hx rfl (hb hby d1_5) rfl rfl ?_
    show Steps p.tables e below (T1.setTop (mkF m 6 #[.val (.ref a'), .val (.ref nm), .val (.int (0 : Int32)), .val (.int (0 : Int32)), .val (.int au), .val (.int mp)] [(.ref nm), (.ref a')])) _
    refine st5 _ ?_
    refine XS.aloadN X5.here hx rfl (hb hby d1_9) rfl rfl ?_
    refine XS.iloadN X5.here hx rfl (hb hby d1_10) rfl ?_
    show Steps p.tables e below (T5.setTop (mkF m 11 #[.val (.ref a'), .val (.ref nm), .val (.int (0 : Int32)), .val (.int (0 : Int32)), .val (.int au), .val (.int mp)] [(.int (0 : Int32)), (.ref a')])) _
    refine st11 _ ?_
    refine XS.aloadN X11.here hx rfl (hb hby d1_14) rfl rfl ?_
    refine XS.iloadN X11.here hx rfl (hb hby d1_15) rfl ?_
    show Steps p.tables e below (T11.setTop (mkF m 16 #[.val (.ref a'), .val (.ref nm), .val (.int (0 : Int32)), .val (.int (0 : Int32)), .val (.int au), .val (.int mp)] [(.int (0 : Int32)), (.ref a')])) _
    refine st17 _ ?_
    refine XS.aloadN X17.here hx rfl (hb hby d1_19) rfl rfl ?_
    refine XS.iload X17.here hx rfl (hb hby d1_20) rfl ?_
    show Steps p.tables e below (T17.setTop (mkF m 22 #[.val (.ref a'), .val (.ref nm), .val (.int (0 : Int32)), .val (.int (0 : Int32)), .val (.int au), .val (.int mp)] [(.int au), (.ref a')])) _
    refine st23 _ ?_
    refine XS.aloadN X23.here hx rfl (hb hby d1_25) rfl rfl ?_
    refine XS.iload X23.here hx rfl (hb hby d1_26) rfl ?_
    show Steps p.tables e below (T23.setTop (mkF m 28 #[.val (.ref a'), .val (.ref nm), .val (.int (0 : Int32)), .val (.int (0 : Int32)), .val (.int au), .val (.int mp)] [(.int mp), (.ref a')])) _
    refine st29 _ ?_
    exact kt
  obtain ⟨fs, hr, hrun, hended, hW, hsame⟩ := X29.leave (v := none) (fun _ => rfl)
  have f34 := (Exa.wr W29 f28)
  have f35 := (Fld.other W29 (Fld.other W23 (Fld.other W17 F11 (Or.inr (slot_ne (Or.inr (own_w hw 45 rfl)) (Or.inr (own_w hw 47 rfl)) (by decide) (t := .boolean) (t' := .boolean) (by decide) (by decide)))) (Or.inr (slot_ne (Or.inr (own_w hw 45 rfl)) (Or.inr (own_w hw 49 rfl)) (by decide) (t := .boolean) (t' := .boolean) (by decide) (by decide)))) (Or.inr (slot_ne (Or.inr (own_w hw 45 rfl)) (Or.inr (own_w hw 51 rfl)) (by decide) (t := .boolean) (t' := .int) (by decide) (by decide))))
  have f36 := (Fld.other W29 (Fld.other W23 F17 (Or.inr (slot_ne (Or.inr (own_w hw 47 rfl)) (Or.inr (own_w hw 49 rfl)) (by decide) (t := .boolean) (t' := .boolean) (by decide) (by decide)))) (Or.inr (slot_ne (Or.inr (own_w hw 47 rfl)) (Or.inr (own_w hw 51 rfl)) (by decide) (t := .boolean) (t' := .int) (by decide) (by decide))))
  refine ⟨_, _, pre0 _ (S33 _ ?_), hrun, hended, _, _, rfl, ?_, ⟨_, rfl⟩, hW, hsame.mono (by decide) (by decide)⟩
  · exact X29.returnOut hx Bd.returns (hb hby d1_31) hr
  · show Q_rm_qinit00 Z a' nm au mp h0 n0 _ T29.heap _
    rw [e29]
    exact ⟨rfl, N32, K31, f34, f35, f36⟩
theorem d2_0 : decode prog_45_method_3_code 0 = .ok (.aload_n 0, 1) := by decide +kernel
theorem d2_1 : decode prog_45_method_3_code 1 = .ok (.getfield 13, 3) := by decide +kernel
theorem d2_4 : decode prog_45_method_3_code 4 = .ok (.ifCond .eq 14, 3) := by decide +kernel
theorem d2_18 : decode prog_45_method_3_code 18 = .ok (.iconst 0, 1) := by decide +kernel
theorem d2_19 : decode prog_45_method_3_code 19 = .ok (.ireturn, 1) := by decide +kernel
theorem ef_rm_kept00 (m : MethodId) (x0 : Addr) : entryFrame m #[(.ref x0)] 1 = mkF m 0 #[.val (.ref x0)] [] := by first | (simp [entryFrame, mkF, argsToLocals, Value.category]; done) | rfl
def Q_rm_kept00 (Z : State) (a' : Addr) (h0 : Heap) (n0 : Nat) (v : Option Value) (h : Heap) (L : List Loc) : Prop := ((v = some (.int (0 : Int32))) ∧ (Fr n0 L) ∧ (h = h0))
set_option maxRecDepth 65536 in
set_option maxHeartbeats 40000000 in
theorem rm_kept00 (l : Launch) (Z : State) (a0 : Array Value) (hw : ∀ d ∈ tables_1, d.before a0 Z = true) (ws : List Jvm.Cond) (a' : Addr) (h0 : Heap) (n0 : Nat) (O0 : Old Z n0 h0) (F_d : Fld Z h0 a' "com/example/ogmios/ogmios/queue/QueueDeclaration" "durable" "Z" (.int (0 : Int32))) (F_x : Fld Z h0 a' "com/example/ogmios/ogmios/queue/QueueDeclaration" "exclusive" "Z" (.int (0 : Int32))) :
    MetFree l (⟨"com/example/ogmios/ogmios/queue/QueueDeclaration", "kept", "()Z"⟩ : MethodName) (head1 (Jvm.Cond.code (⟨"com/example/ogmios/ogmios/queue/QueueDeclaration", "kept", "()Z"⟩ : MethodName) prog_45_method_3_code 1 (some .boolean) :: ws) ({ frames := 0, cells := 0, slots := 0, locals := 0 } : Room)) (fun a U => a = #[(.ref a')] ∧ Z.Warmed39 U.vm ∧ U.heap = h0) (fun _ _ _ _ _ => True) (fun _ U o U' => ∃ v L, o = .returned v ∧ Q_rm_kept00 Z a' h0 n0 v U'.heap L ∧ FrameEnd U o U' L ({ frames := 0, cells := 0, slots := 0, locals := 0 } : Room).cells ({ frames := 0, cells := 0, slots := 0, locals := 0 } : Room).slots) := by
  refine MetFree.of_bodySF (plainFor_of_name pn_1) hisR ?_
  intro p e s m args below meth c s₁ Bd hml0 hP hK
  obtain ⟨rfl, hZ, hh⟩ := hP
  have hx := Bd.exec
  have hby := Bd.bytes
  have hml : c.maxLocals = 1 := hml0
  have hown : s.vm.findClass "com/example/ogmios/ogmios/queue/QueueDeclaration" = some m.cls := findClass_of_methodNamed Bd.named
  have hnm := (name_of_methodNamed Bd.named Bd.method).1
  have X0 : Stand p l e ({ frames := 0, cells := 0, slots := 0, locals := 0 } : Room) s m #[(.ref a')] below meth c s₁ [] 0 0 := Stand.of_body Bd
  have e0 : s₁.heap = h0 := by rw [← hh, Bd.state]; rfl
  have N0 := Fr.nil n0
  have pre0 : ∀ t, Steps p.tables e below (s₁.setTop (mkF m 0 #[.val (.ref a')] [])) t → Steps p.tables e below (s₁.setTop (entryFrame m #[(.ref a')] 1)) t := fun t k => castTop (ef_rm_kept00 m a') k
  obtain ⟨T1, X1, e1, st1⟩ := getF X0 hx hZ hown (host := "") (Or.inl (own_w hw 44 rfl)) Via.refl e0 F_d (g := (mkF m 1 #[.val (.ref a')] [(.ref a')])) rfl rfl (hb hby d2_1)
  have S2 : ∀ t, Steps p.tables e below (T1.setTop (mkF m 19 #[.val (.ref a')] [(.int (0 : Int32))])) t → Steps p.tables e below (s₁.setTop (mkF m 0 #[.val (.ref a')] [])) t := by
    intro t kt
    refine XS.aloadN X0.here hx rfl (hb hby d2_0) rfl rfl ?_
    show Steps p.tables e below (s₁.setTop (mkF m 1 #[.val (.ref a')] [(.ref a')])) _
    refine st1 _ ?_
    refine XS.ifYes X1.here hx rfl (pc0 := 4) (pc' := 18) rfl (hb hby d2_4) rfl ((if0 _ _).trans (teq ((by decide) : (0 : Int32) = (0 : Int32))).1) (by decide) (by decide) ?_
    refine XS.iconst X1.here hx rfl (hb hby d2_18) ?_
    exact kt
  obtain ⟨fs, hr, hrun, hended, hW, hsame⟩ := X1.leave (v := some (.int (0 : Int32))) (fun h => by rw [Bd.returns] at h; cases h)
  refine ⟨_, _, pre0 _ (S2 _ ?_), hrun, hended, _, _, rfl, ?_, ⟨_, rfl⟩, hW, hsame.mono (by decide) (by decide)⟩
  · exact retN X1 hx (t := .boolean) Bd.returns (by simp) (hb hby d2_19) hr
  · show Q_rm_kept00 Z a' h0 n0 _ T1.heap _
    rw [e1]
    exact ⟨rfl, N0, rfl⟩
theorem ef_rm_qinit01 (m : MethodId) (x0 : Addr) (x1 : Addr) (x2 : Int32) (x3 : Int32) (x4 : Int32) (x5 : Int32) : entryFrame m #[(.ref x0), (.ref x1), (.int x2), (.int x3), (.int x4), (.int x5)] 6 = mkF m 0 #[.val (.ref x0), .val (.ref x1), .val (.int x2), .val (.int x3), .val (.int x4), .val (.int x5)] [] := by first | (simp [entryFrame, mkF, argsToLocals, Value.category]; done) | rfl
def Q_rm_qinit01 (Z : State) (a' : Addr) (nm : Addr) (au : Int32) (mp : Int32) (h0 : Heap) (n0 : Nat) (v : Option Value) (h : Heap) (L : List Loc) : Prop := ((v = none) ∧ (Fr n0 L) ∧ (Keep h0 h [a']) ∧ (Exa Z h a' "com/example/ogmios/ogmios/queue/QueueDeclaration") ∧ (Fld Z h a' "com/example/ogmios/ogmios/queue/QueueDeclaration" "durable" "Z" (.int (0 : Int32))) ∧ (Fld Z h a' "com/example/ogmios/ogmios/queue/QueueDeclaration" "exclusive" "Z" (.int (1 : Int32))))
set_option maxRecDepth 65536 in
set_option maxHeartbeats 40000000 in
theorem rm_qinit01 (l : Launch) (Z : State) (a0 : Array Value) (hw : ∀ d ∈ tables_1, d.before a0 Z = true) (ws : List Jvm.Cond) (a' : Addr) (nm : Addr) (au : Int32) (mp : Int32) (h0 : Heap) (n0 : Nat) (O0 : Old Z n0 h0) (E_a : Exa Z h0 a' "com/example/ogmios/ogmios/queue/QueueDeclaration") (g_a : n0 ≤ a') (F_name : Fld Z h0 a' "com/example/ogmios/ogmios/queue/QueueDeclaration" "name" "Ljava/lang/String;" .null) (F_durable : Fld Z h0 a' "com/example/ogmios/ogmios/queue/QueueDeclaration" "durable" "Z" (.int (0 : Int32))) (F_exclusive : Fld Z h0 a' "com/example/ogmios/ogmios/queue/QueueDeclaration" "exclusive" "Z" (.int (0 : Int32))) (F_autoDelete : Fld Z h0 a' "com/example/ogmios/ogmios/queue/QueueDeclaration" "autoDelete" "Z" (.int (0 : Int32))) (F_maxPriority : Fld Z h0 a' "com/example/ogmios/ogmios/queue/QueueDeclaration" "maxPriority" "I" (.int (0 : Int32))) :
    MetFree l (⟨"com/example/ogmios/ogmios/queue/QueueDeclaration", "<init>", "(Ljava/lang/String;ZZZI)V"⟩ : MethodName) (head1 (Jvm.Cond.code (⟨"com/example/ogmios/ogmios/queue/QueueDeclaration", "<init>", "(Ljava/lang/String;ZZZI)V"⟩ : MethodName) prog_45_method_1_code 6 none :: ws) ({ frames := 2, cells := 0, slots := 0, locals := 24 } : Room)) (fun a U => a = #[(.ref a'), (.ref nm), (.int (0 : Int32)), (.int (1 : Int32)), (.int au), (.int mp)] ∧ Z.Warmed39 U.vm ∧ U.heap = h0) (fun _ _ _ _ _ => True) (fun _ U o U' => ∃ v L, o = .returned v ∧ Q_rm_qinit01 Z a' nm au mp h0 n0 v U'.heap L ∧ FrameEnd U o U' L ({ frames := 2, cells := 0, slots := 0, locals := 24 } : Room).cells ({ frames := 2, cells := 0, slots := 0, locals := 24 } : Room).slots) := by
  refine MetFree.of_bodySF (plainFor_of_name pn_1) hisR ?_
  intro p e s m args below meth c s₁ Bd hml0 hP hK
  obtain ⟨rfl, hZ, hh⟩ := hP
  have hx := Bd.exec
  have hby := Bd.bytes
  have hml : c.maxLocals = 6 := hml0
  have hown : s.vm.findClass "com/example/ogmios/ogmios/queue/QueueDeclaration" = some m.cls := findClass_of_methodNamed Bd.named
  have hnm := (name_of_methodNamed Bd.named Bd.method).1
  have X0 : Stand p l e ({ frames := 2, cells := 0, slots := 0, locals := 24 } : Room) s m #[(.ref a'), (.ref nm), (.int (0 : Int32)), (.int (1 : Int32)), (.int au), (.int mp)] below meth c s₁ [] 0 0 := Stand.of_body Bd
  have e0 : s₁.heap = h0 := by rw [← hh, Bd.state]; rfl
  have N0 := Fr.nil n0
  have K0 : Keep h0 h0 [a'] := Keep.refl _ _
  have pre0 : ∀ t, Steps p.tables e below (s₁.setTop (mkF m 0 #[.val (.ref a'), .val (.ref nm), .val (.int (0 : Int32)), .val (.int (1 : Int32)), .val (.int au), .val (.int mp)] [])) t → Steps p.tables e below (s₁.setTop (entryFrame m #[(.ref a'), (.ref nm), (.int (0 : Int32)), (.int (1 : Int32)), (.int au), (.int mp)] 6)) t := fun t k => castTop (ef_rm_qinit01 m a' nm (0 : Int32) (1 : Int32) au mp) k
  obtain ⟨_, _, ⟨T1, L1, k1, n1⟩, -, X1, ⟨Lc1, hQ1, l1, y1, z1⟩, st1⟩ := X0.specialBack hx (y := (⟨"java/lang/Record", "<init>", "()V"⟩ : MethodName)) rfl hown (mvT hZ (own_w hw 36 rfl)) (mvT hZ (own_w hw 37 rfl)) (mvT hZ (own_w hw 40 rfl)) (by decide) (backOf (W := 0) (rm_rec l Z a0 hw [] a' h0 n0 O0 ) hZ (own_w hw 40 rfl) (own_w hw 39 rfl) (by decide) (by decide)) (g := (mkF m 1 #[.val (.ref a'), .val (.ref nm), .val (.int (0 : Int32)), .val (.int (1 : Int32)), .val (.int au), .val (.int mp)] [(.ref a')])) rfl (by rw [hml]; rfl) (Steps.refl _) (a := a') (argsL := []) (rest := []) (lenOf pd_0 rfl) rfl (by show 2 * 0 + _ ≤ _; exact Nat.le_of_eq rfl) (hb hby d1_1) (fun _ _ => ⟨rfl, e0, (by decide : 0 + 0 ≤ _), (by decide : 0 + 0 ≤ _)⟩)
  dsimp only [Pt.U, Pt.locs, Pt.cells, Pt.slots] at X1 l1 y1 z1 st1 hQ1
  subst l1 y1 z1
  obtain ⟨rfl, N2, k3⟩ := hQ1
  have N4 := Fr.app N0 N2
  obtain ⟨T5, h5, X5, e5, W5, st5⟩ := putF X1 hx hZ hown (host := "") (Or.inl (own_w hw 42 rfl)) Via.refl k3 F_name E_a (Or.inr ⟨(own_w hw 43 rfl), rfl, hnm⟩) (own_w hw 31 rfl) (ty := (.object "java/lang/String")) (by decide) rfl rfl (g := (mkF m 6 #[.val (.ref a'), .val (.ref nm), .val (.int (0 : Int32)), .val (.int (1 : Int32)), .val (.int au), .val (.int mp)] [(.ref nm), (.ref a')])) rfl rfl (hb hby d1_6)
  have O6 := O0.wr W5 g_a
  have K7 : Keep h0 h5 [a'] := K0.wr W5 (Or.inl (List.mem_of_getElem? (i := 0) rfl))
  have N8 := Fr.snoc X5 N4 g_a
  have F5 : Fld Z h5 a' "com/example/ogmios/ogmios/queue/QueueDeclaration" "name" "Ljava/lang/String;" (.ref nm) := Fld.same W5 F_name
  have f9 := (Fld.other W5 F_durable (Or.inr (slot_ne (Or.inr (own_w hw 45 rfl)) (Or.inr (own_w hw 43 rfl)) (by decide) (t := .boolean) (t' := (.object "java/lang/String")) (by decide) (by decide))))
  have f10 := (Exa.wr W5 E_a)
  obtain ⟨T11, h11, X11, e11, W11, st11⟩ := putFN X5 hx hZ hown (own_w hw 44 rfl) Via.refl e5 f9 f10 (Or.inr ⟨(own_w hw 45 rfl), rfl, hnm⟩) (own_w hw 31 rfl) (ty := .boolean) (v' := (.int (0 : Int32))) (by decide) rfl rfl (g := (mkF m 11 #[.val (.ref a'), .val (.ref nm), .val (.int (0 : Int32)), .val (.int (1 : Int32)), .val (.int au), .val (.int mp)] [(.int (0 : Int32)), (.ref a')])) rfl rfl (hb hby d1_11)
  have O12 := O6.wr W11 g_a
  have K13 : Keep h0 h11 [a'] := K7.wr W11 (Or.inl (List.mem_of_getElem? (i := 0) rfl))
  have N14 := Fr.snoc X11 N8 g_a
  have F11 : Fld Z h11 a' "com/example/ogmios/ogmios/queue/QueueDeclaration" "durable" "Z" (.int (0 : Int32)) := Fld.same W11 f9
  have f15 := (Fld.other W11 (Fld.other W5 F_exclusive (Or.inr (slot_ne (Or.inr (own_w hw 47 rfl)) (Or.inr (own_w hw 43 rfl)) (by decide) (t := .boolean) (t' := (.object "java/lang/String")) (by decide) (by decide)))) (Or.inr (slot_ne (Or.inr (own_w hw 47 rfl)) (Or.inr (own_w hw 45 rfl)) (by decide) (t := .boolean) (t' := .boolean) (by decide) (by decide))))
  have f16 := (Exa.wr W11 f10)
  obtain ⟨T17, h17, X17, e17, W17, st17⟩ := putFN X11 hx hZ hown (own_w hw 46 rfl) Via.refl e11 f15 f16 (Or.inr ⟨(own_w hw 47 rfl), rfl, hnm⟩) (own_w hw 31 rfl) (ty := .boolean) (v' := (.int (1 : Int32))) (by decide) rfl rfl (g := (mkF m 16 #[.val (.ref a'), .val (.ref nm), .val (.int (0 : Int32)), .val (.int (1 : Int32)), .val (.int au), .val (.int mp)] [(.int (1 : Int32)), (.ref a')])) rfl rfl (hb hby d1_16)
  have O18 := O12.wr W17 g_a
  have K19 : Keep h0 h17 [a'] := K13.wr W17 (Or.inl (List.mem_of_getElem? (i := 0) rfl))
  have N20 := Fr.snoc X17 N14 g_a
  have F17 : Fld Z h17 a' "com/example/ogmios/ogmios/queue/QueueDeclaration" "exclusive" "Z" (.int (1 : Int32)) := Fld.same W17 f15
  have f21 := (Fld.other W17 (Fld.other W11 (Fld.other W5 F_autoDelete (Or.inr (slot_ne (Or.inr (own_w hw 49 rfl)) (Or.inr (own_w hw 43 rfl)) (by decide) (t := .boolean) (t' := (.object "java/lang/String")) (by decide) (by decide)))) (Or.inr (slot_ne (Or.inr (own_w hw 49 rfl)) (Or.inr (own_w hw 45 rfl)) (by decide) (t := .boolean) (t' := .boolean) (by decide) (by decide)))) (Or.inr (slot_ne (Or.inr (own_w hw 49 rfl)) (Or.inr (own_w hw 47 rfl)) (by decide) (t := .boolean) (t' := .boolean) (by decide) (by decide))))
  have f22 := (Exa.wr W17 f16)
  obtain ⟨T23, h23, X23, e23, W23, st23⟩ := putFN X17 hx hZ hown (own_w hw 48 rfl) Via.refl e17 f21 f22 (Or.inr ⟨(own_w hw 49 rfl), rfl, hnm⟩) (own_w hw 31 rfl) (ty := .boolean) (v' := (.int (nar .boolean au))) (by decide) rfl (fits_nar_bool _) (g := (mkF m 22 #[.val (.ref a'), .val (.ref nm), .val (.int (0 : Int32)), .val (.int (1 : Int32)), .val (.int au), .val (.int mp)] [(.int au), (.ref a')])) rfl rfl (hb hby d1_22)
  have O24 := O18.wr W23 g_a
  have K25 : Keep h0 h23 [a'] := K19.wr W23 (Or.inl (List.mem_of_getElem? (i := 0) rfl))
  have N26 := Fr.snoc X23 N20 g_a
  have F23 : Fld Z h23 a' "com/example/ogmios/ogmios/queue/QueueDeclaration" "autoDelete" "Z" (.int (nar .boolean au)) := Fld.same W23 f21
  have f27 := (Fld.other W23 (Fld.other W17 (Fld.other W11 (Fld.other W5 F_maxPriority (Or.inr (slot_ne (Or.inr (own_w hw 51 rfl)) (Or.inr (own_w hw 43 rfl)) (by decide) (t := .int) (t' := (.object "java/lang/String")) (by decide) (by decide)))) (Or.inr (slot_ne (Or.inr (own_w hw 51 rfl)) (Or.inr (own_w hw 45 rfl)) (by decide) (t := .int) (t' := .boolean) (by decide) (by decide)))) (Or.inr (slot_ne (Or.inr (own_w hw 51 rfl)) (Or.inr (own_w hw 47 rfl)) (by decide) (t := .int) (t' := .boolean) (by decide) (by decide)))) (Or.inr (slot_ne (Or.inr (own_w hw 51 rfl)) (Or.inr (own_w hw 49 rfl)) (by decide) (t := .int) (t' := .boolean) (by decide) (by decide))))
  have f28 := (Exa.wr W23 f22)
  obtain ⟨T29, h29, X29, e29, W29, st29⟩ := putF X23 hx hZ hown (host := "") (Or.inl (own_w hw 50 rfl)) Via.refl e23 f27 f28 (Or.inr ⟨(own_w hw 51 rfl), rfl, hnm⟩) (own_w hw 31 rfl) (ty := .int) (by decide) rfl rfl (g := (mkF m 28 #[.val (.ref a'), .val (.ref nm), .val (.int (0 : Int32)), .val (.int (1 : Int32)), .val (.int au), .val (.int mp)] [(.int mp), (.ref a')])) rfl rfl (hb hby d1_28)
  have O30 := O24.wr W29 g_a
  have K31 : Keep h0 h29 [a'] := K25.wr W29 (Or.inl (List.mem_of_getElem? (i := 0) rfl))
  have N32 := Fr.snoc X29 N26 g_a
  have F29 : Fld Z h29 a' "com/example/ogmios/ogmios/queue/QueueDeclaration" "maxPriority" "I" (.int mp) := Fld.same W29 f27
  have S33 : ∀ t, Steps p.tables e below (T29.setTop (mkF m 31 #[.val (.ref a'), .val (.ref nm), .val (.int (0 : Int32)), .val (.int (1 : Int32)), .val (.int au), .val (.int mp)] [])) t → Steps p.tables e below (s₁.setTop (mkF m 0 #[.val (.ref a'), .val (.ref nm), .val (.int (0 : Int32)), .val (.int (1 : Int32)), .val (.int au), .val (.int mp)] [])) t := by
    intro t kt
    refine XS.aloadN X0.here hx rfl (hb hby d1_0) rfl rfl ?_
    show Steps p.tables e below (s₁.setTop (mkF m 1 #[.val (.ref a'), .val (.ref nm), .val (.int (0 : Int32)), .val (.int (1 : Int32)), .val (.int au), .val (.int mp)] [(.ref a')])) _
    refine st1.trans ?_
    refine XS.aloadN X1.here hx rfl (hb hby d1_4) rfl rfl ?_
    refine XS.aloadN X1.here hx rfl (hb hby d1_5) rfl rfl ?_
    show Steps p.tables e below (T1.setTop (mkF m 6 #[.val (.ref a'), .val (.ref nm), .val (.int (0 : Int32)), .val (.int (1 : Int32)), .val (.int au), .val (.int mp)] [(.ref nm), (.ref a')])) _
    refine st5 _ ?_
    refine XS.aloadN X5.here hx rfl (hb hby d1_9) rfl rfl ?_
    refine XS.iloadN X5.here hx rfl (hb hby d1_10) rfl ?_
    show Steps p.tables e below (T5.setTop (mkF m 11 #[.val (.ref a'), .val (.ref nm), .val (.int (0 : Int32)), .val (.int (1 : Int32)), .val (.int au), .val (.int mp)] [(.int (0 : Int32)), (.ref a')])) _
    refine st11 _ ?_
    refine XS.aloadN X11.here hx rfl (hb hby d1_14) rfl rfl ?_
    refine XS.iloadN X11.here hx rfl (hb hby d1_15) rfl ?_
    show Steps p.tables e below (T11.setTop (mkF m 16 #[.val (.ref a'), .val (.ref nm), .val (.int (0 : Int32)), .val (.int (1 : Int32)), .val (.int au), .val (.int mp)] [(.int (1 : Int32)), (.ref a')])) _
    refine st17 _ ?_
    refine XS.aloadN X17.here hx rfl (hb hby d1_19) rfl rfl ?_
    refine XS.iload X17.here hx rfl (hb hby d1_20) rfl ?_
    show Steps p.tables e below (T17.setTop (mkF m 22 #[.val (.ref a'), .val (.ref nm), .val (.int (0 : Int32)), .val (.int (1 : Int32)), .val (.int au), .val (.int mp)] [(.int au), (.ref a')])) _
    refine st23 _ ?_
    refine XS.aloadN X23.here hx rfl (hb hby d1_25) rfl rfl ?_
    refine XS.iload X23.here hx rfl (hb hby d1_26) rfl ?_
    show Steps p.tables e below (T23.setTop (mkF m 28 #[.val (.ref a'), .val (.ref nm), .val (.int (0 : Int32)), .val (.int (1 : Int32)), .val (.int au), .val (.int mp)] [(.int mp), (.ref a')])) _
    refine st29 _ ?_
    exact kt
  obtain ⟨fs, hr, hrun, hended, hW, hsame⟩ := X29.leave (v := none) (fun _ => rfl)
  have f34 := (Exa.wr W29 f28)
  have f35 := (Fld.other W29 (Fld.other W23 (Fld.other W17 F11 (Or.inr (slot_ne (Or.inr (own_w hw 45 rfl)) (Or.inr (own_w hw 47 rfl)) (by decide) (t := .boolean) (t' := .boolean) (by decide) (by decide)))) (Or.inr (slot_ne (Or.inr (own_w hw 45 rfl)) (Or.inr (own_w hw 49 rfl)) (by decide) (t := .boolean) (t' := .boolean) (by decide) (by decide)))) (Or.inr (slot_ne (Or.inr (own_w hw 45 rfl)) (Or.inr (own_w hw 51 rfl)) (by decide) (t := .boolean) (t' := .int) (by decide) (by decide))))
  have f36 := (Fld.other W29 (Fld.other W23 F17 (Or.inr (slot_ne (Or.inr (own_w hw 47 rfl)) (Or.inr (own_w hw 49 rfl)) (by decide) (t := .boolean) (t' := .boolean) (by decide) (by decide)))) (Or.inr (slot_ne (Or.inr (own_w hw 47 rfl)) (Or.inr (own_w hw 51 rfl)) (by decide) (t := .boolean) (t' := .int) (by decide) (by decide))))
  refine ⟨_, _, pre0 _ (S33 _ ?_), hrun, hended, _, _, rfl, ?_, ⟨_, rfl⟩, hW, hsame.mono (by decide) (by decide)⟩
  · exact X29.returnOut hx Bd.returns (hb hby d1_31) hr
  · show Q_rm_qinit01 Z a' nm au mp h0 n0 _ T29.heap _
    rw [e29]
    exact ⟨rfl, N32, K31, f34, f35, f36⟩
theorem ef_rm_kept01 (m : MethodId) (x0 : Addr) : entryFrame m #[(.ref x0)] 1 = mkF m 0 #[.val (.ref x0)] [] := by first | (simp [entryFrame, mkF, argsToLocals, Value.category]; done) | rfl
def Q_rm_kept01 (Z : State) (a' : Addr) (h0 : Heap) (n0 : Nat) (v : Option Value) (h : Heap) (L : List Loc) : Prop := ((v = some (.int (0 : Int32))) ∧ (Fr n0 L) ∧ (h = h0))
set_option maxRecDepth 65536 in
set_option maxHeartbeats 40000000 in
theorem rm_kept01 (l : Launch) (Z : State) (a0 : Array Value) (hw : ∀ d ∈ tables_1, d.before a0 Z = true) (ws : List Jvm.Cond) (a' : Addr) (h0 : Heap) (n0 : Nat) (O0 : Old Z n0 h0) (F_d : Fld Z h0 a' "com/example/ogmios/ogmios/queue/QueueDeclaration" "durable" "Z" (.int (0 : Int32))) (F_x : Fld Z h0 a' "com/example/ogmios/ogmios/queue/QueueDeclaration" "exclusive" "Z" (.int (1 : Int32))) :
    MetFree l (⟨"com/example/ogmios/ogmios/queue/QueueDeclaration", "kept", "()Z"⟩ : MethodName) (head1 (Jvm.Cond.code (⟨"com/example/ogmios/ogmios/queue/QueueDeclaration", "kept", "()Z"⟩ : MethodName) prog_45_method_3_code 1 (some .boolean) :: ws) ({ frames := 0, cells := 0, slots := 0, locals := 0 } : Room)) (fun a U => a = #[(.ref a')] ∧ Z.Warmed39 U.vm ∧ U.heap = h0) (fun _ _ _ _ _ => True) (fun _ U o U' => ∃ v L, o = .returned v ∧ Q_rm_kept01 Z a' h0 n0 v U'.heap L ∧ FrameEnd U o U' L ({ frames := 0, cells := 0, slots := 0, locals := 0 } : Room).cells ({ frames := 0, cells := 0, slots := 0, locals := 0 } : Room).slots) := by
  refine MetFree.of_bodySF (plainFor_of_name pn_1) hisR ?_
  intro p e s m args below meth c s₁ Bd hml0 hP hK
  obtain ⟨rfl, hZ, hh⟩ := hP
  have hx := Bd.exec
  have hby := Bd.bytes
  have hml : c.maxLocals = 1 := hml0
  have hown : s.vm.findClass "com/example/ogmios/ogmios/queue/QueueDeclaration" = some m.cls := findClass_of_methodNamed Bd.named
  have hnm := (name_of_methodNamed Bd.named Bd.method).1
  have X0 : Stand p l e ({ frames := 0, cells := 0, slots := 0, locals := 0 } : Room) s m #[(.ref a')] below meth c s₁ [] 0 0 := Stand.of_body Bd
  have e0 : s₁.heap = h0 := by rw [← hh, Bd.state]; rfl
  have N0 := Fr.nil n0
  have pre0 : ∀ t, Steps p.tables e below (s₁.setTop (mkF m 0 #[.val (.ref a')] [])) t → Steps p.tables e below (s₁.setTop (entryFrame m #[(.ref a')] 1)) t := fun t k => castTop (ef_rm_kept01 m a') k
  obtain ⟨T1, X1, e1, st1⟩ := getF X0 hx hZ hown (host := "") (Or.inl (own_w hw 44 rfl)) Via.refl e0 F_d (g := (mkF m 1 #[.val (.ref a')] [(.ref a')])) rfl rfl (hb hby d2_1)
  have S2 : ∀ t, Steps p.tables e below (T1.setTop (mkF m 19 #[.val (.ref a')] [(.int (0 : Int32))])) t → Steps p.tables e below (s₁.setTop (mkF m 0 #[.val (.ref a')] [])) t := by
    intro t kt
    refine XS.aloadN X0.here hx rfl (hb hby d2_0) rfl rfl ?_
    show Steps p.tables e below (s₁.setTop (mkF m 1 #[.val (.ref a')] [(.ref a')])) _
    refine st1 _ ?_
    refine XS.ifYes X1.here hx rfl (pc0 := 4) (pc' := 18) rfl (hb hby d2_4) rfl ((if0 _ _).trans (teq ((by decide) : (0 : Int32) = (0 : Int32))).1) (by decide) (by decide) ?_
    refine XS.iconst X1.here hx rfl (hb hby d2_18) ?_
    exact kt
  obtain ⟨fs, hr, hrun, hended, hW, hsame⟩ := X1.leave (v := some (.int (0 : Int32))) (fun h => by rw [Bd.returns] at h; cases h)
  refine ⟨_, _, pre0 _ (S2 _ ?_), hrun, hended, _, _, rfl, ?_, ⟨_, rfl⟩, hW, hsame.mono (by decide) (by decide)⟩
  · exact retN X1 hx (t := .boolean) Bd.returns (by simp) (hb hby d2_19) hr
  · show Q_rm_kept01 Z a' h0 n0 _ T1.heap _
    rw [e1]
    exact ⟨rfl, N0, rfl⟩
theorem ef_rm_qinit10 (m : MethodId) (x0 : Addr) (x1 : Addr) (x2 : Int32) (x3 : Int32) (x4 : Int32) (x5 : Int32) : entryFrame m #[(.ref x0), (.ref x1), (.int x2), (.int x3), (.int x4), (.int x5)] 6 = mkF m 0 #[.val (.ref x0), .val (.ref x1), .val (.int x2), .val (.int x3), .val (.int x4), .val (.int x5)] [] := by first | (simp [entryFrame, mkF, argsToLocals, Value.category]; done) | rfl
def Q_rm_qinit10 (Z : State) (a' : Addr) (nm : Addr) (au : Int32) (mp : Int32) (h0 : Heap) (n0 : Nat) (v : Option Value) (h : Heap) (L : List Loc) : Prop := ((v = none) ∧ (Fr n0 L) ∧ (Keep h0 h [a']) ∧ (Exa Z h a' "com/example/ogmios/ogmios/queue/QueueDeclaration") ∧ (Fld Z h a' "com/example/ogmios/ogmios/queue/QueueDeclaration" "durable" "Z" (.int (1 : Int32))) ∧ (Fld Z h a' "com/example/ogmios/ogmios/queue/QueueDeclaration" "exclusive" "Z" (.int (0 : Int32))))
set_option maxRecDepth 65536 in
set_option maxHeartbeats 40000000 in
theorem rm_qinit10 (l : Launch) (Z : State) (a0 : Array Value) (hw : ∀ d ∈ tables_1, d.before a0 Z = true) (ws : List Jvm.Cond) (a' : Addr) (nm : Addr) (au : Int32) (mp : Int32) (h0 : Heap) (n0 : Nat) (O0 : Old Z n0 h0) (E_a : Exa Z h0 a' "com/example/ogmios/ogmios/queue/QueueDeclaration") (g_a : n0 ≤ a') (F_name : Fld Z h0 a' "com/example/ogmios/ogmios/queue/QueueDeclaration" "name" "Ljava/lang/String;" .null) (F_durable : Fld Z h0 a' "com/example/ogmios/ogmios/queue/QueueDeclaration" "durable" "Z" (.int (0 : Int32))) (F_exclusive : Fld Z h0 a' "com/example/ogmios/ogmios/queue/QueueDeclaration" "exclusive" "Z" (.int (0 : Int32))) (F_autoDelete : Fld Z h0 a' "com/example/ogmios/ogmios/queue/QueueDeclaration" "autoDelete" "Z" (.int (0 : Int32))) (F_maxPriority : Fld Z h0 a' "com/example/ogmios/ogmios/queue/QueueDeclaration" "maxPriority" "I" (.int (0 : Int32))) :
    MetFree l (⟨"com/example/ogmios/ogmios/queue/QueueDeclaration", "<init>", "(Ljava/lang/String;ZZZI)V"⟩ : MethodName) (head1 (Jvm.Cond.code (⟨"com/example/ogmios/ogmios/queue/QueueDeclaration", "<init>", "(Ljava/lang/String;ZZZI)V"⟩ : MethodName) prog_45_method_1_code 6 none :: ws) ({ frames := 2, cells := 0, slots := 0, locals := 24 } : Room)) (fun a U => a = #[(.ref a'), (.ref nm), (.int (1 : Int32)), (.int (0 : Int32)), (.int au), (.int mp)] ∧ Z.Warmed39 U.vm ∧ U.heap = h0) (fun _ _ _ _ _ => True) (fun _ U o U' => ∃ v L, o = .returned v ∧ Q_rm_qinit10 Z a' nm au mp h0 n0 v U'.heap L ∧ FrameEnd U o U' L ({ frames := 2, cells := 0, slots := 0, locals := 24 } : Room).cells ({ frames := 2, cells := 0, slots := 0, locals := 24 } : Room).slots) := by
  refine MetFree.of_bodySF (plainFor_of_name pn_1) hisR ?_
  intro p e s m args below meth c s₁ Bd hml0 hP hK
  obtain ⟨rfl, hZ, hh⟩ := hP
  have hx := Bd.exec
  have hby := Bd.bytes
  have hml : c.maxLocals = 6 := hml0
  have hown : s.vm.findClass "com/example/ogmios/ogmios/queue/QueueDeclaration" = some m.cls := findClass_of_methodNamed Bd.named
  have hnm := (name_of_methodNamed Bd.named Bd.method).1
  have X0 : Stand p l e ({ frames := 2, cells := 0, slots := 0, locals := 24 } : Room) s m #[(.ref a'), (.ref nm), (.int (1 : Int32)), (.int (0 : Int32)), (.int au), (.int mp)] below meth c s₁ [] 0 0 := Stand.of_body Bd
  have e0 : s₁.heap = h0 := by rw [← hh, Bd.state]; rfl
  have N0 := Fr.nil n0
  have K0 : Keep h0 h0 [a'] := Keep.refl _ _
  have pre0 : ∀ t, Steps p.tables e below (s₁.setTop (mkF m 0 #[.val (.ref a'), .val (.ref nm), .val (.int (1 : Int32)), .val (.int (0 : Int32)), .val (.int au), .val (.int mp)] [])) t → Steps p.tables e below (s₁.setTop (entryFrame m #[(.ref a'), (.ref nm), (.int (1 : Int32)), (.int (0 : Int32)), (.int au), (.int mp)] 6)) t := fun t k => castTop (ef_rm_qinit10 m a' nm (1 : Int32) (0 : Int32) au mp) k
  obtain ⟨_, _, ⟨T1, L1, k1, n1⟩, -, X1, ⟨Lc1, hQ1, l1, y1, z1⟩, st1⟩ := X0.specialBack hx (y := (⟨"java/lang/Record", "<init>", "()V"⟩ : MethodName)) rfl hown (mvT hZ (own_w hw 36 rfl)) (mvT hZ (own_w hw 37 rfl)) (mvT hZ (own_w hw 40 rfl)) (by decide) (backOf (W := 0) (rm_rec l Z a0 hw [] a' h0 n0 O0 ) hZ (own_w hw 40 rfl) (own_w hw 39 rfl) (by decide) (by decide)) (g := (mkF m 1 #[.val (.ref a'), .val (.ref nm), .val (.int (1 : Int32)), .val (.int (0 : Int32)), .val (.int au), .val (.int mp)] [(.ref a')])) rfl (by rw [hml]; rfl) (Steps.refl _) (a := a') (argsL := []) (rest := []) (lenOf pd_0 rfl) rfl (by show 2 * 0 + _ ≤ _; exact Nat.le_of_eq rfl) (hb hby d1_1) (fun _ _ => ⟨rfl, e0, (by decide : 0 + 0 ≤ _), (by decide : 0 + 0 ≤ _)⟩)
  dsimp only [Pt.U, Pt.locs, Pt.cells, Pt.slots] at X1 l1 y1 z1 st1 hQ1
  subst l1 y1 z1
  obtain ⟨rfl, N2, k3⟩ := hQ1
  have N4 := Fr.app N0 N2
  obtain ⟨T5, h5, X5, e5, W5, st5⟩ := putF X1 hx hZ hown (host := "") (Or.inl (own_w hw 42 rfl)) Via.refl k3 F_name E_a (Or.inr ⟨(own_w hw 43 rfl), rfl, hnm⟩) (own_w hw 31 rfl) (ty := (.object "java/lang/String")) (by decide) rfl rfl (g := (mkF m 6 #[.val (.ref a'), .val (.ref nm), .val (.int (1 : Int32)), .val (.int (0 : Int32)), .val (.int au), .val (.int mp)] [(.ref nm), (.ref a')])) rfl rfl (hb hby d1_6)
  have O6 := O0.wr W5 g_a
  have K7 : Keep h0 h5 [a'] := K0.wr W5 (Or.inl (List.mem_of_getElem? (i := 0) rfl))
  have N8 := Fr.snoc X5 N4 g_a
  have F5 : Fld Z h5 a' "com/example/ogmios/ogmios/queue/QueueDeclaration" "name" "Ljava/lang/String;" (.ref nm) := Fld.same W5 F_name
  have f9 := (Fld.other W5 F_durable (Or.inr (slot_ne (Or.inr (own_w hw 45 rfl)) (Or.inr (own_w hw 43 rfl)) (by decide) (t := .boolean) (t' := (.object "java/lang/String")) (by decide) (by decide))))
  have f10 := (Exa.wr W5 E_a)
  obtain ⟨T11, h11, X11, e11, W11, st11⟩ := putFN X5 hx hZ hown (own_w hw 44 rfl) Via.refl e5 f9 f10 (Or.inr ⟨(own_w hw 45 rfl), rfl, hnm⟩) (own_w hw 31 rfl) (ty := .boolean) (v' := (.int (1 : Int32))) (by decide) rfl rfl (g := (mkF m 11 #[.val (.ref a'), .val (.ref nm), .val (.int (1 : Int32)), .val (.int (0 : Int32)), .val (.int au), .val (.int mp)] [(.int (1 : Int32)), (.ref a')])) rfl rfl (hb hby d1_11)
  have O12 := O6.wr W11 g_a
  have K13 : Keep h0 h11 [a'] := K7.wr W11 (Or.inl (List.mem_of_getElem? (i := 0) rfl))
  have N14 := Fr.snoc X11 N8 g_a
  have F11 : Fld Z h11 a' "com/example/ogmios/ogmios/queue/QueueDeclaration" "durable" "Z" (.int (1 : Int32)) := Fld.same W11 f9
  have f15 := (Fld.other W11 (Fld.other W5 F_exclusive (Or.inr (slot_ne (Or.inr (own_w hw 47 rfl)) (Or.inr (own_w hw 43 rfl)) (by decide) (t := .boolean) (t' := (.object "java/lang/String")) (by decide) (by decide)))) (Or.inr (slot_ne (Or.inr (own_w hw 47 rfl)) (Or.inr (own_w hw 45 rfl)) (by decide) (t := .boolean) (t' := .boolean) (by decide) (by decide))))
  have f16 := (Exa.wr W11 f10)
  obtain ⟨T17, h17, X17, e17, W17, st17⟩ := putFN X11 hx hZ hown (own_w hw 46 rfl) Via.refl e11 f15 f16 (Or.inr ⟨(own_w hw 47 rfl), rfl, hnm⟩) (own_w hw 31 rfl) (ty := .boolean) (v' := (.int (0 : Int32))) (by decide) rfl rfl (g := (mkF m 16 #[.val (.ref a'), .val (.ref nm), .val (.int (1 : Int32)), .val (.int (0 : Int32)), .val (.int au), .val (.int mp)] [(.int (0 : Int32)), (.ref a')])) rfl rfl (hb hby d1_16)
  have O18 := O12.wr W17 g_a
  have K19 : Keep h0 h17 [a'] := K13.wr W17 (Or.inl (List.mem_of_getElem? (i := 0) rfl))
  have N20 := Fr.snoc X17 N14 g_a
  have F17 : Fld Z h17 a' "com/example/ogmios/ogmios/queue/QueueDeclaration" "exclusive" "Z" (.int (0 : Int32)) := Fld.same W17 f15
  have f21 := (Fld.other W17 (Fld.other W11 (Fld.other W5 F_autoDelete (Or.inr (slot_ne (Or.inr (own_w hw 49 rfl)) (Or.inr (own_w hw 43 rfl)) (by decide) (t := .boolean) (t' := (.object "java/lang/String")) (by decide) (by decide)))) (Or.inr (slot_ne (Or.inr (own_w hw 49 rfl)) (Or.inr (own_w hw 45 rfl)) (by decide) (t := .boolean) (t' := .boolean) (by decide) (by decide)))) (Or.inr (slot_ne (Or.inr (own_w hw 49 rfl)) (Or.inr (own_w hw 47 rfl)) (by decide) (t := .boolean) (t' := .boolean) (by decide) (by decide))))
  have f22 := (Exa.wr W17 f16)
  obtain ⟨T23, h23, X23, e23, W23, st23⟩ := putFN X17 hx hZ hown (own_w hw 48 rfl) Via.refl e17 f21 f22 (Or.inr ⟨(own_w hw 49 rfl), rfl, hnm⟩) (own_w hw 31 rfl) (ty := .boolean) (v' := (.int (nar .boolean au))) (by decide) rfl (fits_nar_bool _) (g := (mkF m 22 #[.val (.ref a'), .val (.ref nm), .val (.int (1 : Int32)), .val (.int (0 : Int32)), .val (.int au), .val (.int mp)] [(.int au), (.ref a')])) rfl rfl (hb hby d1_22)
  have O24 := O18.wr W23 g_a
  have K25 : Keep h0 h23 [a'] := K19.wr W23 (Or.inl (List.mem_of_getElem? (i := 0) rfl))
  have N26 := Fr.snoc X23 N20 g_a
  have F23 : Fld Z h23 a' "com/example/ogmios/ogmios/queue/QueueDeclaration" "autoDelete" "Z" (.int (nar .boolean au)) := Fld.same W23 f21
  have f27 := (Fld.other W23 (Fld.other W17 (Fld.other W11 (Fld.other W5 F_maxPriority (Or.inr (slot_ne (Or.inr (own_w hw 51 rfl)) (Or.inr (own_w hw 43 rfl)) (by decide) (t := .int) (t' := (.object "java/lang/String")) (by decide) (by decide)))) (Or.inr (slot_ne (Or.inr (own_w hw 51 rfl)) (Or.inr (own_w hw 45 rfl)) (by decide) (t := .int) (t' := .boolean) (by decide) (by decide)))) (Or.inr (slot_ne (Or.inr (own_w hw 51 rfl)) (Or.inr (own_w hw 47 rfl)) (by decide) (t := .int) (t' := .boolean) (by decide) (by decide)))) (Or.inr (slot_ne (Or.inr (own_w hw 51 rfl)) (Or.inr (own_w hw 49 rfl)) (by decide) (t := .int) (t' := .boolean) (by decide) (by decide))))
  have f28 := (Exa.wr W23 f22)
  obtain ⟨T29, h29, X29, e29, W29, st29⟩ := putF X23 hx hZ hown (host := "") (Or.inl (own_w hw 50 rfl)) Via.refl e23 f27 f28 (Or.inr ⟨(own_w hw 51 rfl), rfl, hnm⟩) (own_w hw 31 rfl) (ty := .int) (by decide) rfl rfl (g := (mkF m 28 #[.val (.ref a'), .val (.ref nm), .val (.int (1 : Int32)), .val (.int (0 : Int32)), .val (.int au), .val (.int mp)] [(.int mp), (.ref a')])) rfl rfl (hb hby d1_28)
  have O30 := O24.wr W29 g_a
  have K31 : Keep h0 h29 [a'] := K25.wr W29 (Or.inl (List.mem_of_getElem? (i := 0) rfl))
  have N32 := Fr.snoc X29 N26 g_a
  have F29 : Fld Z h29 a' "com/example/ogmios/ogmios/queue/QueueDeclaration" "maxPriority" "I" (.int mp) := Fld.same W29 f27
  have S33 : ∀ t, Steps p.tables e below (T29.setTop (mkF m 31 #[.val (.ref a'), .val (.ref nm), .val (.int (1 : Int32)), .val (.int (0 : Int32)), .val (.int au), .val (.int mp)] [])) t → Steps p.tables e below (s₁.setTop (mkF m 0 #[.val (.ref a'), .val (.ref nm), .val (.int (1 : Int32)), .val (.int (0 : Int32)), .val (.int au), .val (.int mp)] [])) t := by
    intro t kt
    refine XS.aloadN X0.here hx rfl (hb hby d1_0) rfl rfl ?_
    show Steps p.tables e below (s₁.setTop (mkF m 1 #[.val (.ref a'), .val (.ref nm), .val (.int (1 : Int32)), .val (.int (0 : Int32)), .val (.int au), .val (.int mp)] [(.ref a')])) _
    refine st1.trans ?_
    refine XS.aloadN X1.here hx rfl (hb hby d1_4) rfl rfl ?_
    refine XS.aloadN X1.here hx rfl (hb hby d1_5) rfl rfl ?_
    show Steps p.tables e below (T1.setTop (mkF m 6 #[.val (.ref a'), .val (.ref nm), .val (.int (1 : Int32)), .val (.int (0 : Int32)), .val (.int au), .val (.int mp)] [(.ref nm), (.ref a')])) _
    refine st5 _ ?_
    refine XS.aloadN X5.here hx rfl (hb hby d1_9) rfl rfl ?_
    refine XS.iloadN X5.here hx rfl (hb hby d1_10) rfl ?_
    show Steps p.tables e below (T5.setTop (mkF m 11 #[.val (.ref a'), .val (.ref nm), .val (.int (1 : Int32)), .val (.int (0 : Int32)), .val (.int au), .val (.int mp)] [(.int (1 : Int32)), (.ref a')])) _
    refine st11 _ ?_
    refine XS.aloadN X11.here hx rfl (hb hby d1_14) rfl rfl ?_
    refine XS.iloadN X11.here hx rfl (hb hby d1_15) rfl ?_
    show Steps p.tables e below (T11.setTop (mkF m 16 #[.val (.ref a'), .val (.ref nm), .val (.int (1 : Int32)), .val (.int (0 : Int32)), .val (.int au), .val (.int mp)] [(.int (0 : Int32)), (.ref a')])) _
    refine st17 _ ?_
    refine XS.aloadN X17.here hx rfl (hb hby d1_19) rfl rfl ?_
    refine XS.iload X17.here hx rfl (hb hby d1_20) rfl ?_
    show Steps p.tables e below (T17.setTop (mkF m 22 #[.val (.ref a'), .val (.ref nm), .val (.int (1 : Int32)), .val (.int (0 : Int32)), .val (.int au), .val (.int mp)] [(.int au), (.ref a')])) _
    refine st23 _ ?_
    refine XS.aloadN X23.here hx rfl (hb hby d1_25) rfl rfl ?_
    refine XS.iload X23.here hx rfl (hb hby d1_26) rfl ?_
    show Steps p.tables e below (T23.setTop (mkF m 28 #[.val (.ref a'), .val (.ref nm), .val (.int (1 : Int32)), .val (.int (0 : Int32)), .val (.int au), .val (.int mp)] [(.int mp), (.ref a')])) _
    refine st29 _ ?_
    exact kt
  obtain ⟨fs, hr, hrun, hended, hW, hsame⟩ := X29.leave (v := none) (fun _ => rfl)
  have f34 := (Exa.wr W29 f28)
  have f35 := (Fld.other W29 (Fld.other W23 (Fld.other W17 F11 (Or.inr (slot_ne (Or.inr (own_w hw 45 rfl)) (Or.inr (own_w hw 47 rfl)) (by decide) (t := .boolean) (t' := .boolean) (by decide) (by decide)))) (Or.inr (slot_ne (Or.inr (own_w hw 45 rfl)) (Or.inr (own_w hw 49 rfl)) (by decide) (t := .boolean) (t' := .boolean) (by decide) (by decide)))) (Or.inr (slot_ne (Or.inr (own_w hw 45 rfl)) (Or.inr (own_w hw 51 rfl)) (by decide) (t := .boolean) (t' := .int) (by decide) (by decide))))
  have f36 := (Fld.other W29 (Fld.other W23 F17 (Or.inr (slot_ne (Or.inr (own_w hw 47 rfl)) (Or.inr (own_w hw 49 rfl)) (by decide) (t := .boolean) (t' := .boolean) (by decide) (by decide)))) (Or.inr (slot_ne (Or.inr (own_w hw 47 rfl)) (Or.inr (own_w hw 51 rfl)) (by decide) (t := .boolean) (t' := .int) (by decide) (by decide))))
  refine ⟨_, _, pre0 _ (S33 _ ?_), hrun, hended, _, _, rfl, ?_, ⟨_, rfl⟩, hW, hsame.mono (by decide) (by decide)⟩
  · exact X29.returnOut hx Bd.returns (hb hby d1_31) hr
  · show Q_rm_qinit10 Z a' nm au mp h0 n0 _ T29.heap _
    rw [e29]
    exact ⟨rfl, N32, K31, f34, f35, f36⟩
theorem d2_7 : decode prog_45_method_3_code 7 = .ok (.aload_n 0, 1) := by decide +kernel
theorem d2_8 : decode prog_45_method_3_code 8 = .ok (.getfield 17, 3) := by decide +kernel
theorem d2_11 : decode prog_45_method_3_code 11 = .ok (.ifCond .ne 7, 3) := by decide +kernel
theorem d2_14 : decode prog_45_method_3_code 14 = .ok (.iconst 1, 1) := by decide +kernel
theorem d2_15 : decode prog_45_method_3_code 15 = .ok (.goto 4, 3) := by decide +kernel
theorem ef_rm_kept10 (m : MethodId) (x0 : Addr) : entryFrame m #[(.ref x0)] 1 = mkF m 0 #[.val (.ref x0)] [] := by first | (simp [entryFrame, mkF, argsToLocals, Value.category]; done) | rfl
def Q_rm_kept10 (Z : State) (a' : Addr) (h0 : Heap) (n0 : Nat) (v : Option Value) (h : Heap) (L : List Loc) : Prop := ((v = some (.int (1 : Int32))) ∧ (Fr n0 L) ∧ (h = h0))
set_option maxRecDepth 65536 in
set_option maxHeartbeats 40000000 in
theorem rm_kept10 (l : Launch) (Z : State) (a0 : Array Value) (hw : ∀ d ∈ tables_1, d.before a0 Z = true) (ws : List Jvm.Cond) (a' : Addr) (h0 : Heap) (n0 : Nat) (O0 : Old Z n0 h0) (F_d : Fld Z h0 a' "com/example/ogmios/ogmios/queue/QueueDeclaration" "durable" "Z" (.int (1 : Int32))) (F_x : Fld Z h0 a' "com/example/ogmios/ogmios/queue/QueueDeclaration" "exclusive" "Z" (.int (0 : Int32))) :
    MetFree l (⟨"com/example/ogmios/ogmios/queue/QueueDeclaration", "kept", "()Z"⟩ : MethodName) (head1 (Jvm.Cond.code (⟨"com/example/ogmios/ogmios/queue/QueueDeclaration", "kept", "()Z"⟩ : MethodName) prog_45_method_3_code 1 (some .boolean) :: ws) ({ frames := 0, cells := 0, slots := 0, locals := 0 } : Room)) (fun a U => a = #[(.ref a')] ∧ Z.Warmed39 U.vm ∧ U.heap = h0) (fun _ _ _ _ _ => True) (fun _ U o U' => ∃ v L, o = .returned v ∧ Q_rm_kept10 Z a' h0 n0 v U'.heap L ∧ FrameEnd U o U' L ({ frames := 0, cells := 0, slots := 0, locals := 0 } : Room).cells ({ frames := 0, cells := 0, slots := 0, locals := 0 } : Room).slots) := by
  refine MetFree.of_bodySF (plainFor_of_name pn_1) hisR ?_
  intro p e s m args below meth c s₁ Bd hml0 hP hK
  obtain ⟨rfl, hZ, hh⟩ := hP
  have hx := Bd.exec
  have hby := Bd.bytes
  have hml : c.maxLocals = 1 := hml0
  have hown : s.vm.findClass "com/example/ogmios/ogmios/queue/QueueDeclaration" = some m.cls := findClass_of_methodNamed Bd.named
  have hnm := (name_of_methodNamed Bd.named Bd.method).1
  have X0 : Stand p l e ({ frames := 0, cells := 0, slots := 0, locals := 0 } : Room) s m #[(.ref a')] below meth c s₁ [] 0 0 := Stand.of_body Bd
  have e0 : s₁.heap = h0 := by rw [← hh, Bd.state]; rfl
  have N0 := Fr.nil n0
  have pre0 : ∀ t, Steps p.tables e below (s₁.setTop (mkF m 0 #[.val (.ref a')] [])) t → Steps p.tables e below (s₁.setTop (entryFrame m #[(.ref a')] 1)) t := fun t k => castTop (ef_rm_kept10 m a') k
  obtain ⟨T1, X1, e1, st1⟩ := getF X0 hx hZ hown (host := "") (Or.inl (own_w hw 44 rfl)) Via.refl e0 F_d (g := (mkF m 1 #[.val (.ref a')] [(.ref a')])) rfl rfl (hb hby d2_1)
  obtain ⟨T2, X2, e2, st2⟩ := getF X1 hx hZ hown (host := "") (Or.inl (own_w hw 46 rfl)) Via.refl e1 F_x (g := (mkF m 8 #[.val (.ref a')] [(.ref a')])) rfl rfl (hb hby d2_8)
  have S3 : ∀ t, Steps p.tables e below (T2.setTop (mkF m 19 #[.val (.ref a')] [(.int (1 : Int32))])) t → Steps p.tables e below (s₁.setTop (mkF m 0 #[.val (.ref a')] [])) t := by
    intro t kt
    refine XS.aloadN X0.here hx rfl (hb hby d2_0) rfl rfl ?_
    show Steps p.tables e below (s₁.setTop (mkF m 1 #[.val (.ref a')] [(.ref a')])) _
    refine st1 _ ?_
    refine XS.ifNo X1.here hx rfl (hb hby d2_4) rfl ((if0 _ _).trans (feq ((by decide) : ¬ ((1 : Int32) = (0 : Int32)))).1) ?_
    refine XS.aloadN X1.here hx rfl (hb hby d2_7) rfl rfl ?_
    show Steps p.tables e below (T1.setTop (mkF m 8 #[.val (.ref a')] [(.ref a')])) _
    refine st2 _ ?_
    refine XS.ifNo X2.here hx rfl (hb hby d2_11) rfl ((if0 _ _).trans (teq ((by decide) : (0 : Int32) = (0 : Int32))).2) ?_
    refine XS.iconst X2.here hx rfl (hb hby d2_14) ?_
    refine XS.goto X2.here hx rfl (pc0 := 15) (pc' := 19) rfl (hb hby d2_15) (by decide) (by decide) ?_
    exact kt
  obtain ⟨fs, hr, hrun, hended, hW, hsame⟩ := X2.leave (v := some (.int (1 : Int32))) (fun h => by rw [Bd.returns] at h; cases h)
  refine ⟨_, _, pre0 _ (S3 _ ?_), hrun, hended, _, _, rfl, ?_, ⟨_, rfl⟩, hW, hsame.mono (by decide) (by decide)⟩
  · exact retN X2 hx (t := .boolean) Bd.returns (by simp) (hb hby d2_19) hr
  · show Q_rm_kept10 Z a' h0 n0 _ T2.heap _
    rw [e2]
    exact ⟨rfl, N0, rfl⟩
theorem ef_rm_qinit11 (m : MethodId) (x0 : Addr) (x1 : Addr) (x2 : Int32) (x3 : Int32) (x4 : Int32) (x5 : Int32) : entryFrame m #[(.ref x0), (.ref x1), (.int x2), (.int x3), (.int x4), (.int x5)] 6 = mkF m 0 #[.val (.ref x0), .val (.ref x1), .val (.int x2), .val (.int x3), .val (.int x4), .val (.int x5)] [] := by first | (simp [entryFrame, mkF, argsToLocals, Value.category]; done) | rfl
def Q_rm_qinit11 (Z : State) (a' : Addr) (nm : Addr) (au : Int32) (mp : Int32) (h0 : Heap) (n0 : Nat) (v : Option Value) (h : Heap) (L : List Loc) : Prop := ((v = none) ∧ (Fr n0 L) ∧ (Keep h0 h [a']) ∧ (Exa Z h a' "com/example/ogmios/ogmios/queue/QueueDeclaration") ∧ (Fld Z h a' "com/example/ogmios/ogmios/queue/QueueDeclaration" "durable" "Z" (.int (1 : Int32))) ∧ (Fld Z h a' "com/example/ogmios/ogmios/queue/QueueDeclaration" "exclusive" "Z" (.int (1 : Int32))))
set_option maxRecDepth 65536 in
set_option maxHeartbeats 40000000 in
theorem rm_qinit11 (l : Launch) (Z : State) (a0 : Array Value) (hw : ∀ d ∈ tables_1, d.before a0 Z = true) (ws : List Jvm.Cond) (a' : Addr) (nm : Addr) (au : Int32) (mp : Int32) (h0 : Heap) (n0 : Nat) (O0 : Old Z n0 h0) (E_a : Exa Z h0 a' "com/example/ogmios/ogmios/queue/QueueDeclaration") (g_a : n0 ≤ a') (F_name : Fld Z h0 a' "com/example/ogmios/ogmios/queue/QueueDeclaration" "name" "Ljava/lang/String;" .null) (F_durable : Fld Z h0 a' "com/example/ogmios/ogmios/queue/QueueDeclaration" "durable" "Z" (.int (0 : Int32))) (F_exclusive : Fld Z h0 a' "com/example/ogmios/ogmios/queue/QueueDeclaration" "exclusive" "Z" (.int (0 : Int32))) (F_autoDelete : Fld Z h0 a' "com/example/ogmios/ogmios/queue/QueueDeclaration" "autoDelete" "Z" (.int (0 : Int32))) (F_maxPriority : Fld Z h0 a' "com/example/ogmios/ogmios/queue/QueueDeclaration" "maxPriority" "I" (.int (0 : Int32))) :
    MetFree l (⟨"com/example/ogmios/ogmios/queue/QueueDeclaration", "<init>", "(Ljava/lang/String;ZZZI)V"⟩ : MethodName) (head1 (Jvm.Cond.code (⟨"com/example/ogmios/ogmios/queue/QueueDeclaration", "<init>", "(Ljava/lang/String;ZZZI)V"⟩ : MethodName) prog_45_method_1_code 6 none :: ws) ({ frames := 2, cells := 0, slots := 0, locals := 24 } : Room)) (fun a U => a = #[(.ref a'), (.ref nm), (.int (1 : Int32)), (.int (1 : Int32)), (.int au), (.int mp)] ∧ Z.Warmed39 U.vm ∧ U.heap = h0) (fun _ _ _ _ _ => True) (fun _ U o U' => ∃ v L, o = .returned v ∧ Q_rm_qinit11 Z a' nm au mp h0 n0 v U'.heap L ∧ FrameEnd U o U' L ({ frames := 2, cells := 0, slots := 0, locals := 24 } : Room).cells ({ frames := 2, cells := 0, slots := 0, locals := 24 } : Room).slots) := by
  refine MetFree.of_bodySF (plainFor_of_name pn_1) hisR ?_
  intro p e s m args below meth c s₁ Bd hml0 hP hK
  obtain ⟨rfl, hZ, hh⟩ := hP
  have hx := Bd.exec
  have hby := Bd.bytes
  have hml : c.maxLocals = 6 := hml0
  have hown : s.vm.findClass "com/example/ogmios/ogmios/queue/QueueDeclaration" = some m.cls := findClass_of_methodNamed Bd.named
  have hnm := (name_of_methodNamed Bd.named Bd.method).1
  have X0 : Stand p l e ({ frames := 2, cells := 0, slots := 0, locals := 24 } : Room) s m #[(.ref a'), (.ref nm), (.int (1 : Int32)), (.int (1 : Int32)), (.int au), (.int mp)] below meth c s₁ [] 0 0 := Stand.of_body Bd
  have e0 : s₁.heap = h0 := by rw [← hh, Bd.state]; rfl
  have N0 := Fr.nil n0
  have K0 : Keep h0 h0 [a'] := Keep.refl _ _
  have pre0 : ∀ t, Steps p.tables e below (s₁.setTop (mkF m 0 #[.val (.ref a'), .val (.ref nm), .val (.int (1 : Int32)), .val (.int (1 : Int32)), .val (.int au), .val (.int mp)] [])) t → Steps p.tables e below (s₁.setTop (entryFrame m #[(.ref a'), (.ref nm), (.int (1 : Int32)), (.int (1 : Int32)), (.int au), (.int mp)] 6)) t := fun t k => castTop (ef_rm_qinit11 m a' nm (1 : Int32) (1 : Int32) au mp) k
  obtain ⟨_, _, ⟨T1, L1, k1, n1⟩, -, X1, ⟨Lc1, hQ1, l1, y1, z1⟩, st1⟩ := X0.specialBack hx (y := (⟨"java/lang/Record", "<init>", "()V"⟩ : MethodName)) rfl hown (mvT hZ (own_w hw 36 rfl)) (mvT hZ (own_w hw 37 rfl)) (mvT hZ (own_w hw 40 rfl)) (by decide) (backOf (W := 0) (rm_rec l Z a0 hw [] a' h0 n0 O0 ) hZ (own_w hw 40 rfl) (own_w hw 39 rfl) (by decide) (by decide)) (g := (mkF m 1 #[.val (.ref a'), .val (.ref nm), .val (.int (1 : Int32)), .val (.int (1 : Int32)), .val (.int au), .val (.int mp)] [(.ref a')])) rfl (by rw [hml]; rfl) (Steps.refl _) (a := a') (argsL := []) (rest := []) (lenOf pd_0 rfl) rfl (by show 2 * 0 + _ ≤ _; exact Nat.le_of_eq rfl) (hb hby d1_1) (fun _ _ => ⟨rfl, e0, (by decide : 0 + 0 ≤ _), (by decide : 0 + 0 ≤ _)⟩)
  dsimp only [Pt.U, Pt.locs, Pt.cells, Pt.slots] at X1 l1 y1 z1 st1 hQ1
  subst l1 y1 z1
  obtain ⟨rfl, N2, k3⟩ := hQ1
  have N4 := Fr.app N0 N2
  obtain ⟨T5, h5, X5, e5, W5, st5⟩ := putF X1 hx hZ hown (host := "") (Or.inl (own_w hw 42 rfl)) Via.refl k3 F_name E_a (Or.inr ⟨(own_w hw 43 rfl), rfl, hnm⟩) (own_w hw 31 rfl) (ty := (.object "java/lang/String")) (by decide) rfl rfl (g := (mkF m 6 #[.val (.ref a'), .val (.ref nm), .val (.int (1 : Int32)), .val (.int (1 : Int32)), .val (.int au), .val (.int mp)] [(.ref nm), (.ref a')])) rfl rfl (hb hby d1_6)
  have O6 := O0.wr W5 g_a
  have K7 : Keep h0 h5 [a'] := K0.wr W5 (Or.inl (List.mem_of_getElem? (i := 0) rfl))
  have N8 := Fr.snoc X5 N4 g_a
  have F5 : Fld Z h5 a' "com/example/ogmios/ogmios/queue/QueueDeclaration" "name" "Ljava/lang/String;" (.ref nm) := Fld.same W5 F_name
  have f9 := (Fld.other W5 F_durable (Or.inr (slot_ne (Or.inr (own_w hw 45 rfl)) (Or.inr (own_w hw 43 rfl)) (by decide) (t := .boolean) (t' := (.object "java/lang/String")) (by decide) (by decide))))
  have f10 := (Exa.wr W5 E_a)
  obtain ⟨T11, h11, X11, e11, W11, st11⟩ := putFN X5 hx hZ hown (own_w hw 44 rfl) Via.refl e5 f9 f10 (Or.inr ⟨(own_w hw 45 rfl), rfl, hnm⟩) (own_w hw 31 rfl) (ty := .boolean) (v' := (.int (1 : Int32))) (by decide) rfl rfl (g := (mkF m 11 #[.val (.ref a'), .val (.ref nm), .val (.int (1 : Int32)), .val (.int (1 : Int32)), .val (.int au), .val (.int mp)] [(.int (1 : Int32)), (.ref a')])) rfl rfl (hb hby d1_11)
  have O12 := O6.wr W11 g_a
  have K13 : Keep h0 h11 [a'] := K7.wr W11 (Or.inl (List.mem_of_getElem? (i := 0) rfl))
  have N14 := Fr.snoc X11 N8 g_a
  have F11 : Fld Z h11 a' "com/example/ogmios/ogmios/queue/QueueDeclaration" "durable" "Z" (.int (1 : Int32)) := Fld.same W11 f9
  have f15 := (Fld.other W11 (Fld.other W5 F_exclusive (Or.inr (slot_ne (Or.inr (own_w hw 47 rfl)) (Or.inr (own_w hw 43 rfl)) (by decide) (t := .boolean) (t' := (.object "java/lang/String")) (by decide) (by decide)))) (Or.inr (slot_ne (Or.inr (own_w hw 47 rfl)) (Or.inr (own_w hw 45 rfl)) (by decide) (t := .boolean) (t' := .boolean) (by decide) (by decide))))
  have f16 := (Exa.wr W11 f10)
  obtain ⟨T17, h17, X17, e17, W17, st17⟩ := putFN X11 hx hZ hown (own_w hw 46 rfl) Via.refl e11 f15 f16 (Or.inr ⟨(own_w hw 47 rfl), rfl, hnm⟩) (own_w hw 31 rfl) (ty := .boolean) (v' := (.int (1 : Int32))) (by decide) rfl rfl (g := (mkF m 16 #[.val (.ref a'), .val (.ref nm), .val (.int (1 : Int32)), .val (.int (1 : Int32)), .val (.int au), .val (.int mp)] [(.int (1 : Int32)), (.ref a')])) rfl rfl (hb hby d1_16)
  have O18 := O12.wr W17 g_a
  have K19 : Keep h0 h17 [a'] := K13.wr W17 (Or.inl (List.mem_of_getElem? (i := 0) rfl))
  have N20 := Fr.snoc X17 N14 g_a
  have F17 : Fld Z h17 a' "com/example/ogmios/ogmios/queue/QueueDeclaration" "exclusive" "Z" (.int (1 : Int32)) := Fld.same W17 f15
  have f21 := (Fld.other W17 (Fld.other W11 (Fld.other W5 F_autoDelete (Or.inr (slot_ne (Or.inr (own_w hw 49 rfl)) (Or.inr (own_w hw 43 rfl)) (by decide) (t := .boolean) (t' := (.object "java/lang/String")) (by decide) (by decide)))) (Or.inr (slot_ne (Or.inr (own_w hw 49 rfl)) (Or.inr (own_w hw 45 rfl)) (by decide) (t := .boolean) (t' := .boolean) (by decide) (by decide)))) (Or.inr (slot_ne (Or.inr (own_w hw 49 rfl)) (Or.inr (own_w hw 47 rfl)) (by decide) (t := .boolean) (t' := .boolean) (by decide) (by decide))))
  have f22 := (Exa.wr W17 f16)
  obtain ⟨T23, h23, X23, e23, W23, st23⟩ := putFN X17 hx hZ hown (own_w hw 48 rfl) Via.refl e17 f21 f22 (Or.inr ⟨(own_w hw 49 rfl), rfl, hnm⟩) (own_w hw 31 rfl) (ty := .boolean) (v' := (.int (nar .boolean au))) (by decide) rfl (fits_nar_bool _) (g := (mkF m 22 #[.val (.ref a'), .val (.ref nm), .val (.int (1 : Int32)), .val (.int (1 : Int32)), .val (.int au), .val (.int mp)] [(.int au), (.ref a')])) rfl rfl (hb hby d1_22)
  have O24 := O18.wr W23 g_a
  have K25 : Keep h0 h23 [a'] := K19.wr W23 (Or.inl (List.mem_of_getElem? (i := 0) rfl))
  have N26 := Fr.snoc X23 N20 g_a
  have F23 : Fld Z h23 a' "com/example/ogmios/ogmios/queue/QueueDeclaration" "autoDelete" "Z" (.int (nar .boolean au)) := Fld.same W23 f21
  have f27 := (Fld.other W23 (Fld.other W17 (Fld.other W11 (Fld.other W5 F_maxPriority (Or.inr (slot_ne (Or.inr (own_w hw 51 rfl)) (Or.inr (own_w hw 43 rfl)) (by decide) (t := .int) (t' := (.object "java/lang/String")) (by decide) (by decide)))) (Or.inr (slot_ne (Or.inr (own_w hw 51 rfl)) (Or.inr (own_w hw 45 rfl)) (by decide) (t := .int) (t' := .boolean) (by decide) (by decide)))) (Or.inr (slot_ne (Or.inr (own_w hw 51 rfl)) (Or.inr (own_w hw 47 rfl)) (by decide) (t := .int) (t' := .boolean) (by decide) (by decide)))) (Or.inr (slot_ne (Or.inr (own_w hw 51 rfl)) (Or.inr (own_w hw 49 rfl)) (by decide) (t := .int) (t' := .boolean) (by decide) (by decide))))
  have f28 := (Exa.wr W23 f22)
  obtain ⟨T29, h29, X29, e29, W29, st29⟩ := putF X23 hx hZ hown (host := "") (Or.inl (own_w hw 50 rfl)) Via.refl e23 f27 f28 (Or.inr ⟨(own_w hw 51 rfl), rfl, hnm⟩) (own_w hw 31 rfl) (ty := .int) (by decide) rfl rfl (g := (mkF m 28 #[.val (.ref a'), .val (.ref nm), .val (.int (1 : Int32)), .val (.int (1 : Int32)), .val (.int au), .val (.int mp)] [(.int mp), (.ref a')])) rfl rfl (hb hby d1_28)
  have O30 := O24.wr W29 g_a
  have K31 : Keep h0 h29 [a'] := K25.wr W29 (Or.inl (List.mem_of_getElem? (i := 0) rfl))
  have N32 := Fr.snoc X29 N26 g_a
  have F29 : Fld Z h29 a' "com/example/ogmios/ogmios/queue/QueueDeclaration" "maxPriority" "I" (.int mp) := Fld.same W29 f27
  have S33 : ∀ t, Steps p.tables e below (T29.setTop (mkF m 31 #[.val (.ref a'), .val (.ref nm), .val (.int (1 : Int32)), .val (.int (1 : Int32)), .val (.int au), .val (.int mp)] [])) t → Steps p.tables e below (s₁.setTop (mkF m 0 #[.val (.ref a'), .val (.ref nm), .val (.int (1 : Int32)), .val (.int (1 : Int32)), .val (.int au), .val (.int mp)] [])) t := by
    intro t kt
    refine XS.aloadN X0.here hx rfl (hb hby d1_0) rfl rfl ?_
    show Steps p.tables e below (s₁.setTop (mkF m 1 #[.val (.ref a'), .val (.ref nm), .val (.int (1 : Int32)), .val (.int (1 : Int32)), .val (.int au), .val (.int mp)] [(.ref a')])) _
    refine st1.trans ?_
    refine XS.aloadN X1.here hx rfl (hb hby d1_4) rfl rfl ?_
    refine XS.aloadN X1.here hx rfl (hb hby d1_5) rfl rfl ?_
    show Steps p.tables e below (T1.setTop (mkF m 6 #[.val (.ref a'), .val (.ref nm), .val (.int (1 : Int32)), .val (.int (1 : Int32)), .val (.int au), .val (.int mp)] [(.ref nm), (.ref a')])) _
    refine st5 _ ?_
    refine XS.aloadN X5.here hx rfl (hb hby d1_9) rfl rfl ?_
    refine XS.iloadN X5.here hx rfl (hb hby d1_10) rfl ?_
    show Steps p.tables e below (T5.setTop (mkF m 11 #[.val (.ref a'), .val (.ref nm), .val (.int (1 : Int32)), .val (.int (1 : Int32)), .val (.int au), .val (.int mp)] [(.int (1 : Int32)), (.ref a')])) _
    refine st11 _ ?_
    refine XS.aloadN X11.here hx rfl (hb hby d1_14) rfl rfl ?_
    refine XS.iloadN X11.here hx rfl (hb hby d1_15) rfl ?_
    show Steps p.tables e below (T11.setTop (mkF m 16 #[.val (.ref a'), .val (.ref nm), .val (.int (1 : Int32)), .val (.int (1 : Int32)), .val (.int au), .val (.int mp)] [(.int (1 : Int32)), (.ref a')])) _
    refine st17 _ ?_
    refine XS.aloadN X17.here hx rfl (hb hby d1_19) rfl rfl ?_
    refine XS.iload X17.here hx rfl (hb hby d1_20) rfl ?_
    show Steps p.tables e below (T17.setTop (mkF m 22 #[.val (.ref a'), .val (.ref nm), .val (.int (1 : Int32)), .val (.int (1 : Int32)), .val (.int au), .val (.int mp)] [(.int au), (.ref a')])) _
    refine st23 _ ?_
    refine XS.aloadN X23.here hx rfl (hb hby d1_25) rfl rfl ?_
    refine XS.iload X23.here hx rfl (hb hby d1_26) rfl ?_
    show Steps p.tables e below (T23.setTop (mkF m 28 #[.val (.ref a'), .val (.ref nm), .val (.int (1 : Int32)), .val (.int (1 : Int32)), .val (.int au), .val (.int mp)] [(.int mp), (.ref a')])) _
    refine st29 _ ?_
    exact kt
  obtain ⟨fs, hr, hrun, hended, hW, hsame⟩ := X29.leave (v := none) (fun _ => rfl)
  have f34 := (Exa.wr W29 f28)
  have f35 := (Fld.other W29 (Fld.other W23 (Fld.other W17 F11 (Or.inr (slot_ne (Or.inr (own_w hw 45 rfl)) (Or.inr (own_w hw 47 rfl)) (by decide) (t := .boolean) (t' := .boolean) (by decide) (by decide)))) (Or.inr (slot_ne (Or.inr (own_w hw 45 rfl)) (Or.inr (own_w hw 49 rfl)) (by decide) (t := .boolean) (t' := .boolean) (by decide) (by decide)))) (Or.inr (slot_ne (Or.inr (own_w hw 45 rfl)) (Or.inr (own_w hw 51 rfl)) (by decide) (t := .boolean) (t' := .int) (by decide) (by decide))))
  have f36 := (Fld.other W29 (Fld.other W23 F17 (Or.inr (slot_ne (Or.inr (own_w hw 47 rfl)) (Or.inr (own_w hw 49 rfl)) (by decide) (t := .boolean) (t' := .boolean) (by decide) (by decide)))) (Or.inr (slot_ne (Or.inr (own_w hw 47 rfl)) (Or.inr (own_w hw 51 rfl)) (by decide) (t := .boolean) (t' := .int) (by decide) (by decide))))
  refine ⟨_, _, pre0 _ (S33 _ ?_), hrun, hended, _, _, rfl, ?_, ⟨_, rfl⟩, hW, hsame.mono (by decide) (by decide)⟩
  · exact X29.returnOut hx Bd.returns (hb hby d1_31) hr
  · show Q_rm_qinit11 Z a' nm au mp h0 n0 _ T29.heap _
    rw [e29]
    exact ⟨rfl, N32, K31, f34, f35, f36⟩
theorem ef_rm_kept11 (m : MethodId) (x0 : Addr) : entryFrame m #[(.ref x0)] 1 = mkF m 0 #[.val (.ref x0)] [] := by first | (simp [entryFrame, mkF, argsToLocals, Value.category]; done) | rfl
def Q_rm_kept11 (Z : State) (a' : Addr) (h0 : Heap) (n0 : Nat) (v : Option Value) (h : Heap) (L : List Loc) : Prop := ((v = some (.int (0 : Int32))) ∧ (Fr n0 L) ∧ (h = h0))
set_option maxRecDepth 65536 in
set_option maxHeartbeats 40000000 in
theorem rm_kept11 (l : Launch) (Z : State) (a0 : Array Value) (hw : ∀ d ∈ tables_1, d.before a0 Z = true) (ws : List Jvm.Cond) (a' : Addr) (h0 : Heap) (n0 : Nat) (O0 : Old Z n0 h0) (F_d : Fld Z h0 a' "com/example/ogmios/ogmios/queue/QueueDeclaration" "durable" "Z" (.int (1 : Int32))) (F_x : Fld Z h0 a' "com/example/ogmios/ogmios/queue/QueueDeclaration" "exclusive" "Z" (.int (1 : Int32))) :
    MetFree l (⟨"com/example/ogmios/ogmios/queue/QueueDeclaration", "kept", "()Z"⟩ : MethodName) (head1 (Jvm.Cond.code (⟨"com/example/ogmios/ogmios/queue/QueueDeclaration", "kept", "()Z"⟩ : MethodName) prog_45_method_3_code 1 (some .boolean) :: ws) ({ frames := 0, cells := 0, slots := 0, locals := 0 } : Room)) (fun a U => a = #[(.ref a')] ∧ Z.Warmed39 U.vm ∧ U.heap = h0) (fun _ _ _ _ _ => True) (fun _ U o U' => ∃ v L, o = .returned v ∧ Q_rm_kept11 Z a' h0 n0 v U'.heap L ∧ FrameEnd U o U' L ({ frames := 0, cells := 0, slots := 0, locals := 0 } : Room).cells ({ frames := 0, cells := 0, slots := 0, locals := 0 } : Room).slots) := by
  refine MetFree.of_bodySF (plainFor_of_name pn_1) hisR ?_
  intro p e s m args below meth c s₁ Bd hml0 hP hK
  obtain ⟨rfl, hZ, hh⟩ := hP
  have hx := Bd.exec
  have hby := Bd.bytes
  have hml : c.maxLocals = 1 := hml0
  have hown : s.vm.findClass "com/example/ogmios/ogmios/queue/QueueDeclaration" = some m.cls := findClass_of_methodNamed Bd.named
  have hnm := (name_of_methodNamed Bd.named Bd.method).1
  have X0 : Stand p l e ({ frames := 0, cells := 0, slots := 0, locals := 0 } : Room) s m #[(.ref a')] below meth c s₁ [] 0 0 := Stand.of_body Bd
  have e0 : s₁.heap = h0 := by rw [← hh, Bd.state]; rfl
  have N0 := Fr.nil n0
  have pre0 : ∀ t, Steps p.tables e below (s₁.setTop (mkF m 0 #[.val (.ref a')] [])) t → Steps p.tables e below (s₁.setTop (entryFrame m #[(.ref a')] 1)) t := fun t k => castTop (ef_rm_kept11 m a') k
  obtain ⟨T1, X1, e1, st1⟩ := getF X0 hx hZ hown (host := "") (Or.inl (own_w hw 44 rfl)) Via.refl e0 F_d (g := (mkF m 1 #[.val (.ref a')] [(.ref a')])) rfl rfl (hb hby d2_1)
  obtain ⟨T2, X2, e2, st2⟩ := getF X1 hx hZ hown (host := "") (Or.inl (own_w hw 46 rfl)) Via.refl e1 F_x (g := (mkF m 8 #[.val (.ref a')] [(.ref a')])) rfl rfl (hb hby d2_8)
  have S3 : ∀ t, Steps p.tables e below (T2.setTop (mkF m 19 #[.val (.ref a')] [(.int (0 : Int32))])) t → Steps p.tables e below (s₁.setTop (mkF m 0 #[.val (.ref a')] [])) t := by
    intro t kt
    refine XS.aloadN X0.here hx rfl (hb hby d2_0) rfl rfl ?_
    show Steps p.tables e below (s₁.setTop (mkF m 1 #[.val (.ref a')] [(.ref a')])) _
    refine st1 _ ?_
    refine XS.ifNo X1.here hx rfl (hb hby d2_4) rfl ((if0 _ _).trans (feq ((by decide) : ¬ ((1 : Int32) = (0 : Int32)))).1) ?_
    refine XS.aloadN X1.here hx rfl (hb hby d2_7) rfl rfl ?_
    show Steps p.tables e below (T1.setTop (mkF m 8 #[.val (.ref a')] [(.ref a')])) _
    refine st2 _ ?_
    refine XS.ifYes X2.here hx rfl (pc0 := 11) (pc' := 18) rfl (hb hby d2_11) rfl ((if0 _ _).trans (feq ((by decide) : ¬ ((1 : Int32) = (0 : Int32)))).2) (by decide) (by decide) ?_
    refine XS.iconst X2.here hx rfl (hb hby d2_18) ?_
    exact kt
  obtain ⟨fs, hr, hrun, hended, hW, hsame⟩ := X2.leave (v := some (.int (0 : Int32))) (fun h => by rw [Bd.returns] at h; cases h)
  refine ⟨_, _, pre0 _ (S3 _ ?_), hrun, hended, _, _, rfl, ?_, ⟨_, rfl⟩, hW, hsame.mono (by decide) (by decide)⟩
  · exact retN X2 hx (t := .boolean) Bd.returns (by simp) (hb hby d2_19) hr
  · show Q_rm_kept11 Z a' h0 n0 _ T2.heap _
    rw [e2]
    exact ⟨rfl, N0, rfl⟩
theorem pd_1 : parseMethodDescriptor "([C)V" = some ⟨[(.array .char)], none⟩ := by decide +kernel
theorem pd_2 : parseMethodDescriptor "(Ljava/lang/String;ZZZI)V" = some ⟨[(.object "java/lang/String"), .boolean, .boolean, .boolean, .int], none⟩ := by decide +kernel
theorem pd_3 : parseMethodDescriptor "()Z" = some ⟨[], some .boolean⟩ := by decide +kernel
theorem pn_2 : plainName "com/example/ogmios/ogmios/queue/QueueDeclarationKeptPinLaw" = true := by first | (simp [plainName, overriddenIn]; done) | decide +kernel
theorem ef_rm_law (m : MethodId) (x0 : Int32) (x1 : Int32) (x2 : Int32) (x3 : Int32) : entryFrame m #[(.int x0), (.int x1), (.int x2), (.int x3)] maxLocals = mkF m 0 #[.val (.int x0), .val (.int x1), .val (.int x2), .val (.int x3), .unset, .unset, .unset, .unset, .unset, .unset, .unset] [] := by first | (simp [entryFrame, mkF, argsToLocals, Value.category, maxLocals]; done) | rfl
def Q_rm_law (Z : State) (fl : Int32) (c0 : Int32) (c1 : Int32) (mp : Int32) (zc : Int32) (h0 : Heap) (n0 : Nat) (v : Option Value) (h : Heap) (L : List Loc) : Prop := ((v = some (.int (1 : Int32))) ∧ (Fr n0 L))
set_option maxRecDepth 65536 in
set_option maxHeartbeats 40000000 in
theorem rm_law (l : Launch) (Z : State) (a0 : Array Value) (hw : ∀ d ∈ tables_1, d.before a0 Z = true) (ws : List Jvm.Cond) (fl : Int32) (c0 : Int32) (c1 : Int32) (mp : Int32) (zc : Int32) (h0 : Heap) (n0 : Nat) (O0 : Old Z n0 h0) (S_C : Sta Z Z.heap "java/lang/String" "COMPACT_STRINGS" "Z" (.int zc)) (hzc : ¬ (zc = (0 : Int32))) :
    MetFree l x (head1 (Jvm.Cond.code x code maxLocals ret :: ws) room_1) (fun a U => a = #[(.int fl), (.int c0), (.int c1), (.int mp)] ∧ Z.Warmed39 U.vm ∧ U.heap = h0) (fun _ _ _ _ _ => True) (fun _ U o U' => ∃ v L, o = .returned v ∧ Q_rm_law Z fl c0 c1 mp zc h0 n0 v U'.heap L ∧ FrameEnd U o U' L room_1.cells room_1.slots) := by
  refine MetFree.of_bodySF (plainFor_of_name pn_2) hisR ?_
  intro p e s m args below meth c s₁ Bd hml0 hP hK
  obtain ⟨rfl, hZ, hh⟩ := hP
  have hx := Bd.exec
  have hby := Bd.bytes
  have hml : c.maxLocals = 11 := hml0
  have hown : s.vm.findClass "com/example/ogmios/ogmios/queue/QueueDeclarationKeptPinLaw" = some m.cls := findClass_of_methodNamed Bd.named
  have hnm := (name_of_methodNamed Bd.named Bd.method).1
  have X0 : Stand p l e room_1 s m #[(.int fl), (.int c0), (.int c1), (.int mp)] below meth c s₁ [] 0 0 := Stand.of_body Bd
  have e0 : s₁.heap = h0 := by rw [← hh, Bd.state]; rfl
  have N0 := Fr.nil n0
  have hws : ∀ d ∈ StrChars.Road.words, d.before a0 Z = true := fun d hd => hw d (own_words d hd)
  have pre0 : ∀ t, Steps p.tables e below (s₁.setTop (mkF m 0 #[.val (.int fl), .val (.int c0), .val (.int c1), .val (.int mp), .unset, .unset, .unset, .unset, .unset, .unset, .unset] [])) t → Steps p.tables e below (s₁.setTop (entryFrame m #[(.int fl), (.int c0), (.int c1), (.int mp)] maxLocals)) t := fun t k => castTop (ef_rm_law m fl c0 c1 mp) k
  have S1 : ∀ t, Steps p.tables e below (s₁.setTop (mkF m 3 #[.val (.int fl), .val (.int c0), .val (.int c1), .val (.int mp), .unset, .unset, .unset, .unset, .unset, .unset, .unset] [(.int (fl &&& (1 : Int32)))])) t → Steps p.tables e below (s₁.setTop (mkF m 0 #[.val (.int fl), .val (.int c0), .val (.int c1), .val (.int mp), .unset, .unset, .unset, .unset, .unset, .unset, .unset] [])) t := by
    intro t kt
    refine XS.iloadN X0.here hx rfl (hb hby at_0) rfl ?_
    refine XS.iconst X0.here hx rfl (hb hby at_1) ?_
    refine XS.iand X0.here hx rfl (hb hby at_2) rfl ?_
    exact kt
  rcases Decidable.em ((fl &&& (1 : Int32)) = (0 : Int32)) with c2 | c2
  · have S3 : ∀ t, Steps p.tables e below (s₁.setTop (mkF m 16 #[.val (.int fl), .val (.int c0), .val (.int c1), .val (.int mp), .val (.int (0 : Int32)), .unset, .unset, .unset, .unset, .unset, .unset] [(.int (fl &&& (2 : Int32)))])) t → Steps p.tables e below (s₁.setTop (mkF m 0 #[.val (.int fl), .val (.int c0), .val (.int c1), .val (.int mp), .unset, .unset, .unset, .unset, .unset, .unset, .unset] [])) t := by
      intro t kt
      refine S1 t ?_
      refine XS.ifYes X0.here hx rfl (pc0 := 3) (pc' := 10) rfl (hb hby at_3) rfl ((if0 _ _).trans (teq (c2 : (fl &&& (1 : Int32)) = (0 : Int32))).1) (by decide) (by decide) ?_
      refine XS.iconst X0.here hx rfl (hb hby at_10) ?_
      refine XS.istore X0.here hx rfl (hb hby at_11) rfl (l' := #[.val (.int fl), .val (.int c0), .val (.int c1), .val (.int mp), .val (.int (0 : Int32)), .unset, .unset, .unset, .unset, .unset, .unset]) rfl ?_
      refine XS.iloadN X0.here hx rfl (hb hby at_13) rfl ?_
      refine XS.iconst X0.here hx rfl (hb hby at_14) ?_
      refine XS.iand X0.here hx rfl (hb hby at_15) rfl ?_
      exact kt
    rcases Decidable.em ((fl &&& (2 : Int32)) = (0 : Int32)) with c4 | c4
    · have S5 : ∀ t, Steps p.tables e below (s₁.setTop (mkF m 29 #[.val (.int fl), .val (.int c0), .val (.int c1), .val (.int mp), .val (.int (0 : Int32)), .val (.int (0 : Int32)), .unset, .unset, .unset, .unset, .unset] [(.int (fl &&& (4 : Int32)))])) t → Steps p.tables e below (s₁.setTop (mkF m 0 #[.val (.int fl), .val (.int c0), .val (.int c1), .val (.int mp), .unset, .unset, .unset, .unset, .unset, .unset, .unset] [])) t := by
        intro t kt
        refine S3 t ?_
        refine XS.ifYes X0.here hx rfl (pc0 := 16) (pc' := 23) rfl (hb hby at_16) rfl ((if0 _ _).trans (teq (c4 : (fl &&& (2 : Int32)) = (0 : Int32))).1) (by decide) (by decide) ?_
        refine XS.iconst X0.here hx rfl (hb hby at_23) ?_
        refine XS.istore X0.here hx rfl (hb hby at_24) rfl (l' := #[.val (.int fl), .val (.int c0), .val (.int c1), .val (.int mp), .val (.int (0 : Int32)), .val (.int (0 : Int32)), .unset, .unset, .unset, .unset, .unset]) rfl ?_
        refine XS.iloadN X0.here hx rfl (hb hby at_26) rfl ?_
        refine XS.iconst X0.here hx rfl (hb hby at_27) ?_
        refine XS.iand X0.here hx rfl (hb hby at_28) rfl ?_
        exact kt
      have S6 : ∀ t, Steps p.tables e below (s₁.setTop (mkF m 37 #[.val (.int fl), .val (.int c0), .val (.int c1), .val (.int mp), .val (.int (0 : Int32)), .val (.int (0 : Int32)), .unset, .unset, .unset, .unset, .unset] [(.int (if (fl &&& (4 : Int32)) = (0 : Int32) then (0 : Int32) else (1 : Int32)))])) t → Steps p.tables e below (s₁.setTop (mkF m 0 #[.val (.int fl), .val (.int c0), .val (.int c1), .val (.int mp), .unset, .unset, .unset, .unset, .unset, .unset, .unset] [])) t := by
        intro t kt
        rcases Decidable.em ((fl &&& (4 : Int32)) = (0 : Int32)) with c7 | c7
        · rw [if_pos c7] at kt
          refine S5 t ?_
          refine XS.ifYes X0.here hx rfl (pc0 := 29) (pc' := 36) rfl (hb hby at_29) rfl ((if0 _ _).trans (teq (c7 : (fl &&& (4 : Int32)) = (0 : Int32))).1) (by decide) (by decide) ?_
          refine XS.iconst X0.here hx rfl (hb hby at_36) ?_
          exact kt
        · rw [if_neg c7] at kt
          refine S5 t ?_
          refine XS.ifNo X0.here hx rfl (hb hby at_29) rfl ((if0 _ _).trans (feq (c7 : ¬ ((fl &&& (4 : Int32)) = (0 : Int32)))).1) ?_
          refine XS.iconst X0.here hx rfl (hb hby at_32) ?_
          refine XS.goto X0.here hx rfl (pc0 := 33) (pc' := 37) rfl (hb hby at_33) (by decide) (by decide) ?_
          exact kt
      obtain ⟨T8, h8, k8, X8, e8, E8, A8, B8, st8⟩ := newPE X0 hx hZ (own_w hw 0 rfl) e0 (g := (mkF m 40 #[.val (.int fl), .val (.int c0), .val (.int c1), .val (.int mp), .val (.int (0 : Int32)), .val (.int (0 : Int32)), .val (.int (if (fl &&& (4 : Int32)) = (0 : Int32) then (0 : Int32) else (1 : Int32))), .unset, .unset, .unset, .unset] [(.int (2 : Int32))])) rfl (hb hby at_40) rfl (by decide) (cap := 2) (by decide) (by decide) (by decide) (by decide) (ad := "[C") (by first | rfl | decide)
      obtain ⟨b8, g8⟩ : ∃ z, z = h0.size := ⟨_, rfl⟩
      have ge_b8 : n0 ≤ b8 := by rw [g8, ← O0.1]; exact O0.2.1
      rw [← g8] at A8 B8 st8
      have O9 := O0.ext E8
      have F8 : Arv Z h8 b8 k8 .char (2 : Int32) [(.int (0 : Int32)), (.int (0 : Int32))] (.int (0 : Int32)) := (Arv.new A8 (by decide)).pad (pad_rep [] (.int (0 : Int32)) 2)
      obtain ⟨cl10, Ar10, q10, Sz10, Nn10, Hh10, Gg10⟩ := id F8
      have in10 : ¬ ((0 : Int32) < 0 ∨ cl10.slots.size ≤ ((0 : Int32)).toNatClampNeg) := inb_of Sz10 ⟨by decide, by decide⟩
      obtain ⟨T10, h10, X10, e10, W10, st10⟩ := stC X8 hx hZ e8 Ar10 (j := (0 : Int32)) in10 (g := (mkF m 53 #[.val (.int fl), .val (.int c0), .val (.int c1), .val (.int mp), .val (.int (0 : Int32)), .val (.int (0 : Int32)), .val (.int (if (fl &&& (4 : Int32)) = (0 : Int32) then (0 : Int32) else (1 : Int32))), .val (.ref b8), .unset, .unset, .unset] [(.int (c0 &&& (255 : Int32))), (.int (0 : Int32)), (.ref b8)])) rfl rfl (hb hby at_53)
      rw [show nar .char (c0 &&& (255 : Int32)) = (c0 &&& (255 : Int32)) from i2c_mask _] at W10
      have O11 := O9.wr W10 ge_b8
      have N12 := Fr.snoc X10 N0 ge_b8
      have F10 : Arv Z h10 b8 k8 .char (2 : Int32) [(.int (c0 &&& (255 : Int32))), (.int (0 : Int32))] (.int (0 : Int32)) := Arv.set Ar10 q10 Sz10 Nn10 Hh10 Gg10 (by rw [← (i2c_mask _ : nar .char (c0 &&& (255 : Int32)) = (c0 &&& (255 : Int32)))]; exact fits_nar_char _) W10 0 rfl (Nat.le_of_ble_eq_true rfl)
      obtain ⟨cl13, Ar13, q13, Sz13, Nn13, Hh13, Gg13⟩ := id F10
      have in13 : ¬ ((1 : Int32) < 0 ∨ cl13.slots.size ≤ ((1 : Int32)).toNatClampNeg) := inb_of Sz13 ⟨by decide, by decide⟩
      obtain ⟨T13, h13, X13, e13, W13, st13⟩ := stC X10 hx hZ e10 Ar13 (j := (1 : Int32)) in13 (g := (mkF m 63 #[.val (.int fl), .val (.int c0), .val (.int c1), .val (.int mp), .val (.int (0 : Int32)), .val (.int (0 : Int32)), .val (.int (if (fl &&& (4 : Int32)) = (0 : Int32) then (0 : Int32) else (1 : Int32))), .val (.ref b8), .unset, .unset, .unset] [(.int (c1 &&& (255 : Int32))), (.int (1 : Int32)), (.ref b8)])) rfl rfl (hb hby at_63)
      rw [show nar .char (c1 &&& (255 : Int32)) = (c1 &&& (255 : Int32)) from i2c_mask _] at W13
      have O14 := O11.wr W13 ge_b8
      have N15 := Fr.snoc X13 N12 ge_b8
      have F13 : Arv Z h13 b8 k8 .char (2 : Int32) [(.int (c0 &&& (255 : Int32))), (.int (c1 &&& (255 : Int32)))] (.int (0 : Int32)) := Arv.set Ar13 q13 Sz13 Nn13 Hh13 Gg13 (by rw [← (i2c_mask _ : nar .char (c1 &&& (255 : Int32)) = (c1 &&& (255 : Int32)))]; exact fits_nar_char _) W13 1 rfl (Nat.le_of_ble_eq_true rfl)
      obtain ⟨T16, h16, X16, e16, E16, A16, D16, -, st16⟩ := newO X13 hx hZ hown (own_w hw 1 rfl) (own_w hw 2 rfl) (own_w hw 3 rfl) e13 (g := (mkF m 64 #[.val (.int fl), .val (.int c0), .val (.int c1), .val (.int mp), .val (.int (0 : Int32)), .val (.int (0 : Int32)), .val (.int (if (fl &&& (4 : Int32)) = (0 : Int32) then (0 : Int32) else (1 : Int32))), .val (.ref b8), .unset, .unset, .unset] [])) rfl (hb hby at_64) (by decide) (by decide)
      obtain ⟨b16, g16⟩ : ∃ z, z = h13.size := ⟨_, rfl⟩
      have ge_b16 : n0 ≤ b16 := by rw [g16, ← O14.1]; exact O14.2.1
      have f17 := (Exa.wr W13 (Exa.wr W10 B8))
      have ne18 : b8 ≠ b16 := Nat.ne_of_lt (Nat.lt_of_lt_of_le (Exa.lt f17) (Nat.le_of_eq g16.symm))
      rw [← g16] at A16 D16 st16
      have O19 := O14.ext E16
      have F20 : Fld Z h16 b16 "java/lang/String" "coder" "B" (.int (0 : Int32)) := D16 (Or.inr (own_w hw 27 rfl)) (ty := .byte) (by decide)
      have F21 : Fld Z h16 b16 "java/lang/String" "value" "[B" .null := D16 (Or.inr (own_w hw 29 rfl)) (ty := (.array .byte)) (by decide)
      have f23 := (Arv.ext F13 E16)
      have la24 : ∀ c ∈ ([(c0 &&& (255 : Int32)), (c1 &&& (255 : Int32))] : List Int32), ¬ c < 0 ∧ ¬ (255 : Int32) < c := by
        intro c hc
        simp only [List.mem_cons, List.not_mem_nil, or_false] at hc
        rcases hc with rfl | rfl
        · exact own_lat _
        · exact own_lat _
      obtain ⟨_, _, ⟨T22, L22, k22, n22⟩, -, X22, ⟨Lc22, hQ22, l22, y22, z22⟩, st22⟩ := X16.specialBack hx (y := (⟨"java/lang/String", "<init>", "([C)V"⟩ : MethodName)) rfl hown (mvT hZ (own_w hw 4 rfl)) (mvT hZ (own_w hw 5 rfl)) (mvT hZ (own_w hw 6 rfl)) (by decide) (StrChars.Road.backV (W := 1) hZ hws (kI := 4) (own_w hw 2 rfl) (cs := [(c0 &&& (255 : Int32)), (c1 &&& (255 : Int32))]) (bs := [(c0 &&& (255 : Int32)).toInt8.toInt32, (c1 &&& (255 : Int32)).toInt8.toInt32]) (n := 2) ge_b16 (by rw [← O19.1]; exact O19.2.1) A16 F21 F20 f23 (S_C.ext O19.2) hzc rfl rfl (by decide) (by decide) la24 rfl (by decide) (by decide)) (g := (mkF m 70 #[.val (.int fl), .val (.int c0), .val (.int c1), .val (.int mp), .val (.int (0 : Int32)), .val (.int (0 : Int32)), .val (.int (if (fl &&& (4 : Int32)) = (0 : Int32) then (0 : Int32) else (1 : Int32))), .val (.ref b8), .unset, .unset, .unset] [(.ref b8), (.ref b16), (.ref b16)])) rfl (by rw [hml]; rfl) (Steps.refl _) (a := b16) (argsL := [(.ref b8)]) (rest := [(.ref b16)]) (lenOf pd_1 rfl) rfl (by show 2 * 0 + _ ≤ _; exact Nat.le_of_eq rfl) (hb hby at_70) (fun _ _ => ⟨rfl, e16, (by decide : 2 + 1 ≤ _), (by decide : 6 + 2 ≤ _)⟩)
      dsimp only [Pt.U, Pt.locs, Pt.cells, Pt.slots] at X22 l22 y22 z22 st22 hQ22
      subst l22 y22 z22
      obtain ⟨rfl, f27, f28, f29, f30, x25, x26, f31, f32, qf32, f33, f34⟩ := hQ22
      have N35 := Fr.app N15 f27
      have ge36 : n0 ≤ x25 := by rw [← O19.1]; exact Nat.le_trans O19.2.1 f32
      have f37 := (Exa.ext E16 f17)
      have ne38 : b8 ≠ x25 := Nat.ne_of_lt (Nat.lt_of_lt_of_le (Exa.lt f37) f32)
      have ne39 : b16 ≠ x25 := Nat.ne_of_lt (Nat.lt_of_lt_of_le (Exa.lt A16) f32)
      have O40 := O19.keep f28 (allS ge_b16 all0)
      obtain ⟨T41, h41, X41, e41, E41, A41, D41, -, st41⟩ := newO X22 hx hZ hown (own_w hw 30 rfl) (own_w hw 31 rfl) (own_w hw 32 rfl) rfl (g := (mkF m 75 #[.val (.int fl), .val (.int c0), .val (.int c1), .val (.int mp), .val (.int (0 : Int32)), .val (.int (0 : Int32)), .val (.int (if (fl &&& (4 : Int32)) = (0 : Int32) then (0 : Int32) else (1 : Int32))), .val (.ref b8), .val (.ref b16), .unset, .unset] [])) rfl (hb hby at_75) (by decide) (by decide)
      obtain ⟨b41, g41⟩ : ∃ z, z = T22.heap.size := ⟨_, rfl⟩
      have ge_b41 : n0 ≤ b41 := by rw [g41, ← O40.1]; exact O40.2.1
      have f42 := (Exa.keep f37 f28)
      have ne43 : b8 ≠ b41 := Nat.ne_of_lt (Nat.lt_of_lt_of_le (Exa.lt f42) (Nat.le_of_eq g41.symm))
      have ne44 : b16 ≠ b41 := Nat.ne_of_lt (Nat.lt_of_lt_of_le (Exa.lt f29) (Nat.le_of_eq g41.symm))
      have ne45 : x25 ≠ b41 := Nat.ne_of_lt (Nat.lt_of_lt_of_le (Arv.lt f34) (Nat.le_of_eq g41.symm))
      rw [← g41] at A41 D41 st41
      have O46 := O40.ext E41
      have F47 : Fld Z h41 b41 "com/example/ogmios/ogmios/queue/QueueDeclaration" "name" "Ljava/lang/String;" .null := D41 (Or.inr (own_w hw 43 rfl)) (ty := (.object "java/lang/String")) (by decide)
      have F48 : Fld Z h41 b41 "com/example/ogmios/ogmios/queue/QueueDeclaration" "durable" "Z" (.int (0 : Int32)) := D41 (Or.inr (own_w hw 45 rfl)) (ty := .boolean) (by decide)
      have F49 : Fld Z h41 b41 "com/example/ogmios/ogmios/queue/QueueDeclaration" "exclusive" "Z" (.int (0 : Int32)) := D41 (Or.inr (own_w hw 47 rfl)) (ty := .boolean) (by decide)
      have F50 : Fld Z h41 b41 "com/example/ogmios/ogmios/queue/QueueDeclaration" "autoDelete" "Z" (.int (0 : Int32)) := D41 (Or.inr (own_w hw 49 rfl)) (ty := .boolean) (by decide)
      have F51 : Fld Z h41 b41 "com/example/ogmios/ogmios/queue/QueueDeclaration" "maxPriority" "I" (.int (0 : Int32)) := D41 (Or.inr (own_w hw 51 rfl)) (ty := .int) (by decide)
      obtain ⟨_, _, ⟨T52, L52, k52, n52⟩, -, X52, ⟨Lc52, hQ52, l52, y52, z52⟩, st52⟩ := X41.specialBack hx (y := (⟨"com/example/ogmios/ogmios/queue/QueueDeclaration", "<init>", "(Ljava/lang/String;ZZZI)V"⟩ : MethodName)) rfl hown (mvT hZ (own_w hw 33 rfl)) (mvT hZ (own_w hw 34 rfl)) (mvT hZ (own_w hw 35 rfl)) (by decide) (backOf (W := 1) (rm_qinit00 l Z a0 hw [] b41 b16 (if (fl &&& (4 : Int32)) = (0 : Int32) then (0 : Int32) else (1 : Int32)) mp h41 n0 O46 A41 ge_b41 F47 F48 F49 F50 F51) hZ (own_w hw 35 rfl) (own_w hw 32 rfl) (by decide) (by decide)) (g := (mkF m 88 #[.val (.int fl), .val (.int c0), .val (.int c1), .val (.int mp), .val (.int (0 : Int32)), .val (.int (0 : Int32)), .val (.int (if (fl &&& (4 : Int32)) = (0 : Int32) then (0 : Int32) else (1 : Int32))), .val (.ref b8), .val (.ref b16), .unset, .unset] [(.int mp), (.int (if (fl &&& (4 : Int32)) = (0 : Int32) then (0 : Int32) else (1 : Int32))), (.int (0 : Int32)), (.int (0 : Int32)), (.ref b16), (.ref b41), (.ref b41)])) rfl (by rw [hml]; rfl) (Steps.refl _) (a := b41) (argsL := [(.ref b16), (.int (0 : Int32)), (.int (0 : Int32)), (.int (if (fl &&& (4 : Int32)) = (0 : Int32) then (0 : Int32) else (1 : Int32))), (.int mp)]) (rest := [(.ref b41)]) (lenOf pd_2 rfl) rfl (by show 2 * 0 + _ ≤ _; exact Nat.le_of_eq rfl) (hb hby at_88) (fun _ _ => ⟨rfl, e41, (by decide : 4 + 0 ≤ _), (by decide : 13 + 0 ≤ _)⟩)
      dsimp only [Pt.U, Pt.locs, Pt.cells, Pt.slots] at X52 l52 y52 z52 st52 hQ52
      subst l52 y52 z52
      obtain ⟨rfl, N53, k54, f55, f56, f57⟩ := hQ52
      have N58 := Fr.app N35 N53
      have O59 := O46.keep k54 (allS ge_b41 all0)
      obtain ⟨cq60, kq60, q60a, q60b, q60c⟩ := isOf hZ rfl f55
      obtain ⟨_, _, ⟨T60, L60, k60, n60⟩, -, X60, ⟨Lc60, hQ60, l60, y60, z60⟩, st60⟩ := X52.virtualBack hx (y := (⟨"com/example/ogmios/ogmios/queue/QueueDeclaration", "kept", "()Z"⟩ : MethodName)) (z := (⟨"com/example/ogmios/ogmios/queue/QueueDeclaration", "kept", "()Z"⟩ : MethodName)) hown (mvT hZ (own_w hw 52 rfl)) (mvT hZ (own_w hw 53 rfl)) (notFace_of_selects (args := #[]) (mvT hZ (own_w hw 55 rfl))) (mvT hZ (own_w hw 55 rfl)) (mvT hZ (own_w hw 54 rfl)) (by decide) (backOf (W := 0) (rm_kept00 l Z a0 hw [] b41 T52.heap n0 O59 f56 f57) hZ (own_w hw 56 rfl) (own_w hw 32 rfl) (by decide) (by decide)) q60a q60c (g := (mkF m 120 #[.val (.int fl), .val (.int c0), .val (.int c1), .val (.int mp), .val (.int (0 : Int32)), .val (.int (0 : Int32)), .val (.int (if (fl &&& (4 : Int32)) = (0 : Int32) then (0 : Int32) else (1 : Int32))), .val (.ref b8), .val (.ref b16), .val (.ref b41), .val (.int (0 : Int32))] [(.ref b41)])) rfl (by rw [hml]; rfl) (Steps.refl _) (argsL := []) (rest := []) (lenOf pd_3 rfl) rfl (by show 2 * 0 + _ ≤ _; exact Nat.le_of_eq rfl) (hb hby at_120) (fun _ _ => ⟨rfl, rfl, (by decide : 4 + 0 ≤ _), (by decide : 13 + 0 ≤ _)⟩)
      dsimp only [Pt.U, Pt.locs, Pt.cells, Pt.slots] at X60 l60 y60 z60 st60 hQ60
      subst l60 y60 z60
      obtain ⟨rfl, N61, k62⟩ := hQ60
      have N63 := Fr.app N58 N61
      have S64 : ∀ t, Steps p.tables e below (T60.setTop (mkF m 133 #[.val (.int fl), .val (.int c0), .val (.int c1), .val (.int mp), .val (.int (0 : Int32)), .val (.int (0 : Int32)), .val (.int (if (fl &&& (4 : Int32)) = (0 : Int32) then (0 : Int32) else (1 : Int32))), .val (.ref b8), .val (.ref b16), .val (.ref b41), .val (.int (0 : Int32))] [(.int (1 : Int32))])) t → Steps p.tables e below (s₁.setTop (mkF m 0 #[.val (.int fl), .val (.int c0), .val (.int c1), .val (.int mp), .unset, .unset, .unset, .unset, .unset, .unset, .unset] [])) t := by
        intro t kt
        refine S6 t ?_
        refine XS.istore X0.here hx rfl (hb hby at_37) rfl (l' := #[.val (.int fl), .val (.int c0), .val (.int c1), .val (.int mp), .val (.int (0 : Int32)), .val (.int (0 : Int32)), .val (.int (if (fl &&& (4 : Int32)) = (0 : Int32) then (0 : Int32) else (1 : Int32))), .unset, .unset, .unset, .unset]) rfl ?_
        refine XS.iconst X0.here hx rfl (hb hby at_39) ?_
        show Steps p.tables e below (s₁.setTop (mkF m 40 #[.val (.int fl), .val (.int c0), .val (.int c1), .val (.int mp), .val (.int (0 : Int32)), .val (.int (0 : Int32)), .val (.int (if (fl &&& (4 : Int32)) = (0 : Int32) then (0 : Int32) else (1 : Int32))), .unset, .unset, .unset, .unset] [(.int (2 : Int32))])) _
        refine st8 _ ?_
        refine XS.astore X8.here hx rfl (hb hby at_42) rfl rfl (l' := #[.val (.int fl), .val (.int c0), .val (.int c1), .val (.int mp), .val (.int (0 : Int32)), .val (.int (0 : Int32)), .val (.int (if (fl &&& (4 : Int32)) = (0 : Int32) then (0 : Int32) else (1 : Int32))), .val (.ref b8), .unset, .unset, .unset]) rfl ?_
        refine XS.aload X8.here hx rfl (hb hby at_44) rfl rfl ?_
        refine XS.iconst X8.here hx rfl (hb hby at_46) ?_
        refine XS.iloadN X8.here hx rfl (hb hby at_47) rfl ?_
        refine XS.sipush X8.here hx rfl (hb hby at_48) ?_
        show Steps p.tables e below (T8.setTop (mkF m 51 #[.val (.int fl), .val (.int c0), .val (.int c1), .val (.int mp), .val (.int (0 : Int32)), .val (.int (0 : Int32)), .val (.int (if (fl &&& (4 : Int32)) = (0 : Int32) then (0 : Int32) else (1 : Int32))), .val (.ref b8), .unset, .unset, .unset] [(.int (255 : Int32)), (.int c0), (.int (0 : Int32)), (.ref b8)])) _
        refine XS.iand X8.here hx rfl (hb hby at_51) rfl ?_
        refine XS.i2c X8.here hx rfl (hb hby at_52) rfl ?_
        rw [i2c_mask]
        show Steps p.tables e below (T8.setTop (mkF m 53 #[.val (.int fl), .val (.int c0), .val (.int c1), .val (.int mp), .val (.int (0 : Int32)), .val (.int (0 : Int32)), .val (.int (if (fl &&& (4 : Int32)) = (0 : Int32) then (0 : Int32) else (1 : Int32))), .val (.ref b8), .unset, .unset, .unset] [(.int (c0 &&& (255 : Int32))), (.int (0 : Int32)), (.ref b8)])) _
        refine st10 _ ?_
        refine XS.aload X10.here hx rfl (hb hby at_54) rfl rfl ?_
        refine XS.iconst X10.here hx rfl (hb hby at_56) ?_
        refine XS.iloadN X10.here hx rfl (hb hby at_57) rfl ?_
        refine XS.sipush X10.here hx rfl (hb hby at_58) ?_
        refine XS.iand X10.here hx rfl (hb hby at_61) rfl ?_
        show Steps p.tables e below (T10.setTop (mkF m 62 #[.val (.int fl), .val (.int c0), .val (.int c1), .val (.int mp), .val (.int (0 : Int32)), .val (.int (0 : Int32)), .val (.int (if (fl &&& (4 : Int32)) = (0 : Int32) then (0 : Int32) else (1 : Int32))), .val (.ref b8), .unset, .unset, .unset] [(.int (c1 &&& (255 : Int32))), (.int (1 : Int32)), (.ref b8)])) _
        refine XS.i2c X10.here hx rfl (hb hby at_62) rfl ?_
        rw [i2c_mask]
        show Steps p.tables e below (T10.setTop (mkF m 63 #[.val (.int fl), .val (.int c0), .val (.int c1), .val (.int mp), .val (.int (0 : Int32)), .val (.int (0 : Int32)), .val (.int (if (fl &&& (4 : Int32)) = (0 : Int32) then (0 : Int32) else (1 : Int32))), .val (.ref b8), .unset, .unset, .unset] [(.int (c1 &&& (255 : Int32))), (.int (1 : Int32)), (.ref b8)])) _
        refine st13 _ ?_
        show Steps p.tables e below (T13.setTop (mkF m 64 #[.val (.int fl), .val (.int c0), .val (.int c1), .val (.int mp), .val (.int (0 : Int32)), .val (.int (0 : Int32)), .val (.int (if (fl &&& (4 : Int32)) = (0 : Int32) then (0 : Int32) else (1 : Int32))), .val (.ref b8), .unset, .unset, .unset] [])) _
        refine st16 _ ?_
        refine XS.dup X16.here hx rfl (hb hby at_67) rfl rfl ?_
        refine XS.aload X16.here hx rfl (hb hby at_68) rfl rfl ?_
        show Steps p.tables e below (T16.setTop (mkF m 70 #[.val (.int fl), .val (.int c0), .val (.int c1), .val (.int mp), .val (.int (0 : Int32)), .val (.int (0 : Int32)), .val (.int (if (fl &&& (4 : Int32)) = (0 : Int32) then (0 : Int32) else (1 : Int32))), .val (.ref b8), .unset, .unset, .unset] [(.ref b8), (.ref b16), (.ref b16)])) _
        refine st22.trans ?_
        refine XS.astore X22.here hx rfl (hb hby at_73) rfl rfl (l' := #[.val (.int fl), .val (.int c0), .val (.int c1), .val (.int mp), .val (.int (0 : Int32)), .val (.int (0 : Int32)), .val (.int (if (fl &&& (4 : Int32)) = (0 : Int32) then (0 : Int32) else (1 : Int32))), .val (.ref b8), .val (.ref b16), .unset, .unset]) rfl ?_
        show Steps p.tables e below (T22.setTop (mkF m 75 #[.val (.int fl), .val (.int c0), .val (.int c1), .val (.int mp), .val (.int (0 : Int32)), .val (.int (0 : Int32)), .val (.int (if (fl &&& (4 : Int32)) = (0 : Int32) then (0 : Int32) else (1 : Int32))), .val (.ref b8), .val (.ref b16), .unset, .unset] [])) _
        refine st41 _ ?_
        refine XS.dup X41.here hx rfl (hb hby at_78) rfl rfl ?_
        refine XS.aload X41.here hx rfl (hb hby at_79) rfl rfl ?_
        refine XS.iload X41.here hx rfl (hb hby at_81) rfl ?_
        refine XS.iload X41.here hx rfl (hb hby at_83) rfl ?_
        refine XS.iload X41.here hx rfl (hb hby at_85) rfl ?_
        show Steps p.tables e below (T41.setTop (mkF m 87 #[.val (.int fl), .val (.int c0), .val (.int c1), .val (.int mp), .val (.int (0 : Int32)), .val (.int (0 : Int32)), .val (.int (if (fl &&& (4 : Int32)) = (0 : Int32) then (0 : Int32) else (1 : Int32))), .val (.ref b8), .val (.ref b16), .unset, .unset] [(.int (if (fl &&& (4 : Int32)) = (0 : Int32) then (0 : Int32) else (1 : Int32))), (.int (0 : Int32)), (.int (0 : Int32)), (.ref b16), (.ref b41), (.ref b41)])) _
        refine XS.iloadN X41.here hx rfl (hb hby at_87) rfl ?_
        show Steps p.tables e below (T41.setTop (mkF m 88 #[.val (.int fl), .val (.int c0), .val (.int c1), .val (.int mp), .val (.int (0 : Int32)), .val (.int (0 : Int32)), .val (.int (if (fl &&& (4 : Int32)) = (0 : Int32) then (0 : Int32) else (1 : Int32))), .val (.ref b8), .val (.ref b16), .unset, .unset] [(.int mp), (.int (if (fl &&& (4 : Int32)) = (0 : Int32) then (0 : Int32) else (1 : Int32))), (.int (0 : Int32)), (.int (0 : Int32)), (.ref b16), (.ref b41), (.ref b41)])) _
        refine st52.trans ?_
        refine XS.astore X52.here hx rfl (hb hby at_91) rfl rfl (l' := #[.val (.int fl), .val (.int c0), .val (.int c1), .val (.int mp), .val (.int (0 : Int32)), .val (.int (0 : Int32)), .val (.int (if (fl &&& (4 : Int32)) = (0 : Int32) then (0 : Int32) else (1 : Int32))), .val (.ref b8), .val (.ref b16), .val (.ref b41), .unset]) rfl ?_
        refine XS.iload X52.here hx rfl (hb hby at_93) rfl ?_
        refine XS.ifYes X52.here hx rfl (pc0 := 95) (pc' := 104) rfl (hb hby at_95) rfl ((if0 _ _).trans (teq ((by decide) : (0 : Int32) = (0 : Int32))).1) (by decide) (by decide) ?_
        refine XS.iload X52.here hx rfl (hb hby at_104) rfl ?_
        refine XS.ifYes X52.here hx rfl (pc0 := 106) (pc' := 115) rfl (hb hby at_106) rfl ((if0 _ _).trans (teq ((by decide) : (0 : Int32) = (0 : Int32))).1) (by decide) (by decide) ?_
        show Steps p.tables e below (T52.setTop (mkF m 115 #[.val (.int fl), .val (.int c0), .val (.int c1), .val (.int mp), .val (.int (0 : Int32)), .val (.int (0 : Int32)), .val (.int (if (fl &&& (4 : Int32)) = (0 : Int32) then (0 : Int32) else (1 : Int32))), .val (.ref b8), .val (.ref b16), .val (.ref b41), .unset] [])) _
        refine XS.iconst X52.here hx rfl (hb hby at_115) ?_
        refine XS.istore X52.here hx rfl (hb hby at_116) rfl (l' := #[.val (.int fl), .val (.int c0), .val (.int c1), .val (.int mp), .val (.int (0 : Int32)), .val (.int (0 : Int32)), .val (.int (if (fl &&& (4 : Int32)) = (0 : Int32) then (0 : Int32) else (1 : Int32))), .val (.ref b8), .val (.ref b16), .val (.ref b41), .val (.int (0 : Int32))]) rfl ?_
        refine XS.aload X52.here hx rfl (hb hby at_118) rfl rfl ?_
        show Steps p.tables e below (T52.setTop (mkF m 120 #[.val (.int fl), .val (.int c0), .val (.int c1), .val (.int mp), .val (.int (0 : Int32)), .val (.int (0 : Int32)), .val (.int (if (fl &&& (4 : Int32)) = (0 : Int32) then (0 : Int32) else (1 : Int32))), .val (.ref b8), .val (.ref b16), .val (.ref b41), .val (.int (0 : Int32))] [(.ref b41)])) _
        refine st60.trans ?_
        refine XS.iload X60.here hx rfl (hb hby at_123) rfl ?_
        refine XS.icmpNo X60.here hx rfl (hb hby at_125) rfl (teq ((by decide) : (0 : Int32) = (0 : Int32))).2 ?_
        refine XS.iconst X60.here hx rfl (hb hby at_128) ?_
        refine XS.goto X60.here hx rfl (pc0 := 129) (pc' := 133) rfl (hb hby at_129) (by decide) (by decide) ?_
        exact kt
      obtain ⟨fs, hr, hrun, hended, hW, hsame⟩ := X60.leave (v := some (.int (1 : Int32))) (fun h => by rw [Bd.returns] at h; cases h)
      refine ⟨_, _, pre0 _ (S64 _ ?_), hrun, hended, _, _, rfl, ?_, ⟨_, rfl⟩, hW, hsame.mono (by decide) (by decide)⟩
      · exact retN X60 hx (t := .boolean) Bd.returns (by simp) (hb hby at_133) hr
      · show Q_rm_law Z fl c0 c1 mp zc h0 n0 _ T60.heap _
        rw [k62]
        exact ⟨rfl, N63⟩
    · have S65 : ∀ t, Steps p.tables e below (s₁.setTop (mkF m 29 #[.val (.int fl), .val (.int c0), .val (.int c1), .val (.int mp), .val (.int (0 : Int32)), .val (.int (1 : Int32)), .unset, .unset, .unset, .unset, .unset] [(.int (fl &&& (4 : Int32)))])) t → Steps p.tables e below (s₁.setTop (mkF m 0 #[.val (.int fl), .val (.int c0), .val (.int c1), .val (.int mp), .unset, .unset, .unset, .unset, .unset, .unset, .unset] [])) t := by
        intro t kt
        refine S3 t ?_
        refine XS.ifNo X0.here hx rfl (hb hby at_16) rfl ((if0 _ _).trans (feq (c4 : ¬ ((fl &&& (2 : Int32)) = (0 : Int32)))).1) ?_
        refine XS.iconst X0.here hx rfl (hb hby at_19) ?_
        refine XS.goto X0.here hx rfl (pc0 := 20) (pc' := 24) rfl (hb hby at_20) (by decide) (by decide) ?_
        refine XS.istore X0.here hx rfl (hb hby at_24) rfl (l' := #[.val (.int fl), .val (.int c0), .val (.int c1), .val (.int mp), .val (.int (0 : Int32)), .val (.int (1 : Int32)), .unset, .unset, .unset, .unset, .unset]) rfl ?_
        refine XS.iloadN X0.here hx rfl (hb hby at_26) rfl ?_
        refine XS.iconst X0.here hx rfl (hb hby at_27) ?_
        show Steps p.tables e below (s₁.setTop (mkF m 28 #[.val (.int fl), .val (.int c0), .val (.int c1), .val (.int mp), .val (.int (0 : Int32)), .val (.int (1 : Int32)), .unset, .unset, .unset, .unset, .unset] [(.int (4 : Int32)), (.int fl)])) _
        refine XS.iand X0.here hx rfl (hb hby at_28) rfl ?_
        exact kt
      have S66 : ∀ t, Steps p.tables e below (s₁.setTop (mkF m 37 #[.val (.int fl), .val (.int c0), .val (.int c1), .val (.int mp), .val (.int (0 : Int32)), .val (.int (1 : Int32)), .unset, .unset, .unset, .unset, .unset] [(.int (if (fl &&& (4 : Int32)) = (0 : Int32) then (0 : Int32) else (1 : Int32)))])) t → Steps p.tables e below (s₁.setTop (mkF m 0 #[.val (.int fl), .val (.int c0), .val (.int c1), .val (.int mp), .unset, .unset, .unset, .unset, .unset, .unset, .unset] [])) t := by
        intro t kt
        rcases Decidable.em ((fl &&& (4 : Int32)) = (0 : Int32)) with c67 | c67
        · rw [if_pos c67] at kt
          refine S65 t ?_
          refine XS.ifYes X0.here hx rfl (pc0 := 29) (pc' := 36) rfl (hb hby at_29) rfl ((if0 _ _).trans (teq (c67 : (fl &&& (4 : Int32)) = (0 : Int32))).1) (by decide) (by decide) ?_
          refine XS.iconst X0.here hx rfl (hb hby at_36) ?_
          exact kt
        · rw [if_neg c67] at kt
          refine S65 t ?_
          refine XS.ifNo X0.here hx rfl (hb hby at_29) rfl ((if0 _ _).trans (feq (c67 : ¬ ((fl &&& (4 : Int32)) = (0 : Int32)))).1) ?_
          refine XS.iconst X0.here hx rfl (hb hby at_32) ?_
          refine XS.goto X0.here hx rfl (pc0 := 33) (pc' := 37) rfl (hb hby at_33) (by decide) (by decide) ?_
          exact kt
      obtain ⟨T68, h68, k68, X68, e68, E68, A68, B68, st68⟩ := newPE X0 hx hZ (own_w hw 0 rfl) e0 (g := (mkF m 40 #[.val (.int fl), .val (.int c0), .val (.int c1), .val (.int mp), .val (.int (0 : Int32)), .val (.int (1 : Int32)), .val (.int (if (fl &&& (4 : Int32)) = (0 : Int32) then (0 : Int32) else (1 : Int32))), .unset, .unset, .unset, .unset] [(.int (2 : Int32))])) rfl (hb hby at_40) rfl (by decide) (cap := 2) (by decide) (by decide) (by decide) (by decide) (ad := "[C") (by first | rfl | decide)
      obtain ⟨b68, g68⟩ : ∃ z, z = h0.size := ⟨_, rfl⟩
      have ge_b68 : n0 ≤ b68 := by rw [g68, ← O0.1]; exact O0.2.1
      rw [← g68] at A68 B68 st68
      have O69 := O0.ext E68
      have F68 : Arv Z h68 b68 k68 .char (2 : Int32) [(.int (0 : Int32)), (.int (0 : Int32))] (.int (0 : Int32)) := (Arv.new A68 (by decide)).pad (pad_rep [] (.int (0 : Int32)) 2)
      obtain ⟨cl70, Ar70, q70, Sz70, Nn70, Hh70, Gg70⟩ := id F68
      have in70 : ¬ ((0 : Int32) < 0 ∨ cl70.slots.size ≤ ((0 : Int32)).toNatClampNeg) := inb_of Sz70 ⟨by decide, by decide⟩
      obtain ⟨T70, h70, X70, e70, W70, st70⟩ := stC X68 hx hZ e68 Ar70 (j := (0 : Int32)) in70 (g := (mkF m 53 #[.val (.int fl), .val (.int c0), .val (.int c1), .val (.int mp), .val (.int (0 : Int32)), .val (.int (1 : Int32)), .val (.int (if (fl &&& (4 : Int32)) = (0 : Int32) then (0 : Int32) else (1 : Int32))), .val (.ref b68), .unset, .unset, .unset] [(.int (c0 &&& (255 : Int32))), (.int (0 : Int32)), (.ref b68)])) rfl rfl (hb hby at_53)
      rw [show nar .char (c0 &&& (255 : Int32)) = (c0 &&& (255 : Int32)) from i2c_mask _] at W70
      have O71 := O69.wr W70 ge_b68
      have N72 := Fr.snoc X70 N0 ge_b68
      have F70 : Arv Z h70 b68 k68 .char (2 : Int32) [(.int (c0 &&& (255 : Int32))), (.int (0 : Int32))] (.int (0 : Int32)) := Arv.set Ar70 q70 Sz70 Nn70 Hh70 Gg70 (by rw [← (i2c_mask _ : nar .char (c0 &&& (255 : Int32)) = (c0 &&& (255 : Int32)))]; exact fits_nar_char _) W70 0 rfl (Nat.le_of_ble_eq_true rfl)
      obtain ⟨cl73, Ar73, q73, Sz73, Nn73, Hh73, Gg73⟩ := id F70
      have in73 : ¬ ((1 : Int32) < 0 ∨ cl73.slots.size ≤ ((1 : Int32)).toNatClampNeg) := inb_of Sz73 ⟨by decide, by decide⟩
      obtain ⟨T73, h73, X73, e73, W73, st73⟩ := stC X70 hx hZ e70 Ar73 (j := (1 : Int32)) in73 (g := (mkF m 63 #[.val (.int fl), .val (.int c0), .val (.int c1), .val (.int mp), .val (.int (0 : Int32)), .val (.int (1 : Int32)), .val (.int (if (fl &&& (4 : Int32)) = (0 : Int32) then (0 : Int32) else (1 : Int32))), .val (.ref b68), .unset, .unset, .unset] [(.int (c1 &&& (255 : Int32))), (.int (1 : Int32)), (.ref b68)])) rfl rfl (hb hby at_63)
      rw [show nar .char (c1 &&& (255 : Int32)) = (c1 &&& (255 : Int32)) from i2c_mask _] at W73
      have O74 := O71.wr W73 ge_b68
      have N75 := Fr.snoc X73 N72 ge_b68
      have F73 : Arv Z h73 b68 k68 .char (2 : Int32) [(.int (c0 &&& (255 : Int32))), (.int (c1 &&& (255 : Int32)))] (.int (0 : Int32)) := Arv.set Ar73 q73 Sz73 Nn73 Hh73 Gg73 (by rw [← (i2c_mask _ : nar .char (c1 &&& (255 : Int32)) = (c1 &&& (255 : Int32)))]; exact fits_nar_char _) W73 1 rfl (Nat.le_of_ble_eq_true rfl)
      obtain ⟨T76, h76, X76, e76, E76, A76, D76, -, st76⟩ := newO X73 hx hZ hown (own_w hw 1 rfl) (own_w hw 2 rfl) (own_w hw 3 rfl) e73 (g := (mkF m 64 #[.val (.int fl), .val (.int c0), .val (.int c1), .val (.int mp), .val (.int (0 : Int32)), .val (.int (1 : Int32)), .val (.int (if (fl &&& (4 : Int32)) = (0 : Int32) then (0 : Int32) else (1 : Int32))), .val (.ref b68), .unset, .unset, .unset] [])) rfl (hb hby at_64) (by decide) (by decide)
      obtain ⟨b76, g76⟩ : ∃ z, z = h73.size := ⟨_, rfl⟩
      have ge_b76 : n0 ≤ b76 := by rw [g76, ← O74.1]; exact O74.2.1
      have f77 := (Exa.wr W73 (Exa.wr W70 B68))
      have ne78 : b68 ≠ b76 := Nat.ne_of_lt (Nat.lt_of_lt_of_le (Exa.lt f77) (Nat.le_of_eq g76.symm))
      rw [← g76] at A76 D76 st76
      have O79 := O74.ext E76
      have F80 : Fld Z h76 b76 "java/lang/String" "coder" "B" (.int (0 : Int32)) := D76 (Or.inr (own_w hw 27 rfl)) (ty := .byte) (by decide)
      have F81 : Fld Z h76 b76 "java/lang/String" "value" "[B" .null := D76 (Or.inr (own_w hw 29 rfl)) (ty := (.array .byte)) (by decide)
      have f83 := (Arv.ext F73 E76)
      have la84 : ∀ c ∈ ([(c0 &&& (255 : Int32)), (c1 &&& (255 : Int32))] : List Int32), ¬ c < 0 ∧ ¬ (255 : Int32) < c := by
        intro c hc
        simp only [List.mem_cons, List.not_mem_nil, or_false] at hc
        rcases hc with rfl | rfl
        · exact own_lat _
        · exact own_lat _
      obtain ⟨_, _, ⟨T82, L82, k82, n82⟩, -, X82, ⟨Lc82, hQ82, l82, y82, z82⟩, st82⟩ := X76.specialBack hx (y := (⟨"java/lang/String", "<init>", "([C)V"⟩ : MethodName)) rfl hown (mvT hZ (own_w hw 4 rfl)) (mvT hZ (own_w hw 5 rfl)) (mvT hZ (own_w hw 6 rfl)) (by decide) (StrChars.Road.backV (W := 1) hZ hws (kI := 4) (own_w hw 2 rfl) (cs := [(c0 &&& (255 : Int32)), (c1 &&& (255 : Int32))]) (bs := [(c0 &&& (255 : Int32)).toInt8.toInt32, (c1 &&& (255 : Int32)).toInt8.toInt32]) (n := 2) ge_b76 (by rw [← O79.1]; exact O79.2.1) A76 F81 F80 f83 (S_C.ext O79.2) hzc rfl rfl (by decide) (by decide) la84 rfl (by decide) (by decide)) (g := (mkF m 70 #[.val (.int fl), .val (.int c0), .val (.int c1), .val (.int mp), .val (.int (0 : Int32)), .val (.int (1 : Int32)), .val (.int (if (fl &&& (4 : Int32)) = (0 : Int32) then (0 : Int32) else (1 : Int32))), .val (.ref b68), .unset, .unset, .unset] [(.ref b68), (.ref b76), (.ref b76)])) rfl (by rw [hml]; rfl) (Steps.refl _) (a := b76) (argsL := [(.ref b68)]) (rest := [(.ref b76)]) (lenOf pd_1 rfl) rfl (by show 2 * 0 + _ ≤ _; exact Nat.le_of_eq rfl) (hb hby at_70) (fun _ _ => ⟨rfl, e76, (by decide : 2 + 1 ≤ _), (by decide : 6 + 2 ≤ _)⟩)
      dsimp only [Pt.U, Pt.locs, Pt.cells, Pt.slots] at X82 l82 y82 z82 st82 hQ82
      subst l82 y82 z82
      obtain ⟨rfl, f87, f88, f89, f90, x85, x86, f91, f92, qf92, f93, f94⟩ := hQ82
      have N95 := Fr.app N75 f87
      have ge96 : n0 ≤ x85 := by rw [← O79.1]; exact Nat.le_trans O79.2.1 f92
      have f97 := (Exa.ext E76 f77)
      have ne98 : b68 ≠ x85 := Nat.ne_of_lt (Nat.lt_of_lt_of_le (Exa.lt f97) f92)
      have ne99 : b76 ≠ x85 := Nat.ne_of_lt (Nat.lt_of_lt_of_le (Exa.lt A76) f92)
      have O100 := O79.keep f88 (allS ge_b76 all0)
      obtain ⟨T101, h101, X101, e101, E101, A101, D101, -, st101⟩ := newO X82 hx hZ hown (own_w hw 30 rfl) (own_w hw 31 rfl) (own_w hw 32 rfl) rfl (g := (mkF m 75 #[.val (.int fl), .val (.int c0), .val (.int c1), .val (.int mp), .val (.int (0 : Int32)), .val (.int (1 : Int32)), .val (.int (if (fl &&& (4 : Int32)) = (0 : Int32) then (0 : Int32) else (1 : Int32))), .val (.ref b68), .val (.ref b76), .unset, .unset] [])) rfl (hb hby at_75) (by decide) (by decide)
      obtain ⟨b101, g101⟩ : ∃ z, z = T82.heap.size := ⟨_, rfl⟩
      have ge_b101 : n0 ≤ b101 := by rw [g101, ← O100.1]; exact O100.2.1
      have f102 := (Exa.keep f97 f88)
      have ne103 : b68 ≠ b101 := Nat.ne_of_lt (Nat.lt_of_lt_of_le (Exa.lt f102) (Nat.le_of_eq g101.symm))
      have ne104 : b76 ≠ b101 := Nat.ne_of_lt (Nat.lt_of_lt_of_le (Exa.lt f89) (Nat.le_of_eq g101.symm))
      have ne105 : x85 ≠ b101 := Nat.ne_of_lt (Nat.lt_of_lt_of_le (Arv.lt f94) (Nat.le_of_eq g101.symm))
      rw [← g101] at A101 D101 st101
      have O106 := O100.ext E101
      have F107 : Fld Z h101 b101 "com/example/ogmios/ogmios/queue/QueueDeclaration" "name" "Ljava/lang/String;" .null := D101 (Or.inr (own_w hw 43 rfl)) (ty := (.object "java/lang/String")) (by decide)
      have F108 : Fld Z h101 b101 "com/example/ogmios/ogmios/queue/QueueDeclaration" "durable" "Z" (.int (0 : Int32)) := D101 (Or.inr (own_w hw 45 rfl)) (ty := .boolean) (by decide)
      have F109 : Fld Z h101 b101 "com/example/ogmios/ogmios/queue/QueueDeclaration" "exclusive" "Z" (.int (0 : Int32)) := D101 (Or.inr (own_w hw 47 rfl)) (ty := .boolean) (by decide)
      have F110 : Fld Z h101 b101 "com/example/ogmios/ogmios/queue/QueueDeclaration" "autoDelete" "Z" (.int (0 : Int32)) := D101 (Or.inr (own_w hw 49 rfl)) (ty := .boolean) (by decide)
      have F111 : Fld Z h101 b101 "com/example/ogmios/ogmios/queue/QueueDeclaration" "maxPriority" "I" (.int (0 : Int32)) := D101 (Or.inr (own_w hw 51 rfl)) (ty := .int) (by decide)
      obtain ⟨_, _, ⟨T112, L112, k112, n112⟩, -, X112, ⟨Lc112, hQ112, l112, y112, z112⟩, st112⟩ := X101.specialBack hx (y := (⟨"com/example/ogmios/ogmios/queue/QueueDeclaration", "<init>", "(Ljava/lang/String;ZZZI)V"⟩ : MethodName)) rfl hown (mvT hZ (own_w hw 33 rfl)) (mvT hZ (own_w hw 34 rfl)) (mvT hZ (own_w hw 35 rfl)) (by decide) (backOf (W := 1) (rm_qinit01 l Z a0 hw [] b101 b76 (if (fl &&& (4 : Int32)) = (0 : Int32) then (0 : Int32) else (1 : Int32)) mp h101 n0 O106 A101 ge_b101 F107 F108 F109 F110 F111) hZ (own_w hw 35 rfl) (own_w hw 32 rfl) (by decide) (by decide)) (g := (mkF m 88 #[.val (.int fl), .val (.int c0), .val (.int c1), .val (.int mp), .val (.int (0 : Int32)), .val (.int (1 : Int32)), .val (.int (if (fl &&& (4 : Int32)) = (0 : Int32) then (0 : Int32) else (1 : Int32))), .val (.ref b68), .val (.ref b76), .unset, .unset] [(.int mp), (.int (if (fl &&& (4 : Int32)) = (0 : Int32) then (0 : Int32) else (1 : Int32))), (.int (1 : Int32)), (.int (0 : Int32)), (.ref b76), (.ref b101), (.ref b101)])) rfl (by rw [hml]; rfl) (Steps.refl _) (a := b101) (argsL := [(.ref b76), (.int (0 : Int32)), (.int (1 : Int32)), (.int (if (fl &&& (4 : Int32)) = (0 : Int32) then (0 : Int32) else (1 : Int32))), (.int mp)]) (rest := [(.ref b101)]) (lenOf pd_2 rfl) rfl (by show 2 * 0 + _ ≤ _; exact Nat.le_of_eq rfl) (hb hby at_88) (fun _ _ => ⟨rfl, e101, (by decide : 4 + 0 ≤ _), (by decide : 13 + 0 ≤ _)⟩)
      dsimp only [Pt.U, Pt.locs, Pt.cells, Pt.slots] at X112 l112 y112 z112 st112 hQ112
      subst l112 y112 z112
      obtain ⟨rfl, N113, k114, f115, f116, f117⟩ := hQ112
      have N118 := Fr.app N95 N113
      have O119 := O106.keep k114 (allS ge_b101 all0)
      obtain ⟨cq120, kq120, q120a, q120b, q120c⟩ := isOf hZ rfl f115
      obtain ⟨_, _, ⟨T120, L120, k120, n120⟩, -, X120, ⟨Lc120, hQ120, l120, y120, z120⟩, st120⟩ := X112.virtualBack hx (y := (⟨"com/example/ogmios/ogmios/queue/QueueDeclaration", "kept", "()Z"⟩ : MethodName)) (z := (⟨"com/example/ogmios/ogmios/queue/QueueDeclaration", "kept", "()Z"⟩ : MethodName)) hown (mvT hZ (own_w hw 52 rfl)) (mvT hZ (own_w hw 53 rfl)) (notFace_of_selects (args := #[]) (mvT hZ (own_w hw 55 rfl))) (mvT hZ (own_w hw 55 rfl)) (mvT hZ (own_w hw 54 rfl)) (by decide) (backOf (W := 0) (rm_kept01 l Z a0 hw [] b101 T112.heap n0 O119 f116 f117) hZ (own_w hw 56 rfl) (own_w hw 32 rfl) (by decide) (by decide)) q120a q120c (g := (mkF m 120 #[.val (.int fl), .val (.int c0), .val (.int c1), .val (.int mp), .val (.int (0 : Int32)), .val (.int (1 : Int32)), .val (.int (if (fl &&& (4 : Int32)) = (0 : Int32) then (0 : Int32) else (1 : Int32))), .val (.ref b68), .val (.ref b76), .val (.ref b101), .val (.int (0 : Int32))] [(.ref b101)])) rfl (by rw [hml]; rfl) (Steps.refl _) (argsL := []) (rest := []) (lenOf pd_3 rfl) rfl (by show 2 * 0 + _ ≤ _; exact Nat.le_of_eq rfl) (hb hby at_120) (fun _ _ => ⟨rfl, rfl, (by decide : 4 + 0 ≤ _), (by decide : 13 + 0 ≤ _)⟩)
      dsimp only [Pt.U, Pt.locs, Pt.cells, Pt.slots] at X120 l120 y120 z120 st120 hQ120
      subst l120 y120 z120
      obtain ⟨rfl, N121, k122⟩ := hQ120
      have N123 := Fr.app N118 N121
      have S124 : ∀ t, Steps p.tables e below (T120.setTop (mkF m 133 #[.val (.int fl), .val (.int c0), .val (.int c1), .val (.int mp), .val (.int (0 : Int32)), .val (.int (1 : Int32)), .val (.int (if (fl &&& (4 : Int32)) = (0 : Int32) then (0 : Int32) else (1 : Int32))), .val (.ref b68), .val (.ref b76), .val (.ref b101), .val (.int (0 : Int32))] [(.int (1 : Int32))])) t → Steps p.tables e below (s₁.setTop (mkF m 0 #[.val (.int fl), .val (.int c0), .val (.int c1), .val (.int mp), .unset, .unset, .unset, .unset, .unset, .unset, .unset] [])) t := by
        intro t kt
        refine S66 t ?_
        refine XS.istore X0.here hx rfl (hb hby at_37) rfl (l' := #[.val (.int fl), .val (.int c0), .val (.int c1), .val (.int mp), .val (.int (0 : Int32)), .val (.int (1 : Int32)), .val (.int (if (fl &&& (4 : Int32)) = (0 : Int32) then (0 : Int32) else (1 : Int32))), .unset, .unset, .unset, .unset]) rfl ?_
        refine XS.iconst X0.here hx rfl (hb hby at_39) ?_
        show Steps p.tables e below (s₁.setTop (mkF m 40 #[.val (.int fl), .val (.int c0), .val (.int c1), .val (.int mp), .val (.int (0 : Int32)), .val (.int (1 : Int32)), .val (.int (if (fl &&& (4 : Int32)) = (0 : Int32) then (0 : Int32) else (1 : Int32))), .unset, .unset, .unset, .unset] [(.int (2 : Int32))])) _
        refine st68 _ ?_
        refine XS.astore X68.here hx rfl (hb hby at_42) rfl rfl (l' := #[.val (.int fl), .val (.int c0), .val (.int c1), .val (.int mp), .val (.int (0 : Int32)), .val (.int (1 : Int32)), .val (.int (if (fl &&& (4 : Int32)) = (0 : Int32) then (0 : Int32) else (1 : Int32))), .val (.ref b68), .unset, .unset, .unset]) rfl ?_
        refine XS.aload X68.here hx rfl (hb hby at_44) rfl rfl ?_
        refine XS.iconst X68.here hx rfl (hb hby at_46) ?_
        refine XS.iloadN X68.here hx rfl (hb hby at_47) rfl ?_
        refine XS.sipush X68.here hx rfl (hb hby at_48) ?_
        show Steps p.tables e below (T68.setTop (mkF m 51 #[.val (.int fl), .val (.int c0), .val (.int c1), .val (.int mp), .val (.int (0 : Int32)), .val (.int (1 : Int32)), .val (.int (if (fl &&& (4 : Int32)) = (0 : Int32) then (0 : Int32) else (1 : Int32))), .val (.ref b68), .unset, .unset, .unset] [(.int (255 : Int32)), (.int c0), (.int (0 : Int32)), (.ref b68)])) _
        refine XS.iand X68.here hx rfl (hb hby at_51) rfl ?_
        refine XS.i2c X68.here hx rfl (hb hby at_52) rfl ?_
        rw [i2c_mask]
        show Steps p.tables e below (T68.setTop (mkF m 53 #[.val (.int fl), .val (.int c0), .val (.int c1), .val (.int mp), .val (.int (0 : Int32)), .val (.int (1 : Int32)), .val (.int (if (fl &&& (4 : Int32)) = (0 : Int32) then (0 : Int32) else (1 : Int32))), .val (.ref b68), .unset, .unset, .unset] [(.int (c0 &&& (255 : Int32))), (.int (0 : Int32)), (.ref b68)])) _
        refine st70 _ ?_
        refine XS.aload X70.here hx rfl (hb hby at_54) rfl rfl ?_
        refine XS.iconst X70.here hx rfl (hb hby at_56) ?_
        refine XS.iloadN X70.here hx rfl (hb hby at_57) rfl ?_
        refine XS.sipush X70.here hx rfl (hb hby at_58) ?_
        refine XS.iand X70.here hx rfl (hb hby at_61) rfl ?_
        show Steps p.tables e below (T70.setTop (mkF m 62 #[.val (.int fl), .val (.int c0), .val (.int c1), .val (.int mp), .val (.int (0 : Int32)), .val (.int (1 : Int32)), .val (.int (if (fl &&& (4 : Int32)) = (0 : Int32) then (0 : Int32) else (1 : Int32))), .val (.ref b68), .unset, .unset, .unset] [(.int (c1 &&& (255 : Int32))), (.int (1 : Int32)), (.ref b68)])) _
        refine XS.i2c X70.here hx rfl (hb hby at_62) rfl ?_
        rw [i2c_mask]
        show Steps p.tables e below (T70.setTop (mkF m 63 #[.val (.int fl), .val (.int c0), .val (.int c1), .val (.int mp), .val (.int (0 : Int32)), .val (.int (1 : Int32)), .val (.int (if (fl &&& (4 : Int32)) = (0 : Int32) then (0 : Int32) else (1 : Int32))), .val (.ref b68), .unset, .unset, .unset] [(.int (c1 &&& (255 : Int32))), (.int (1 : Int32)), (.ref b68)])) _
        refine st73 _ ?_
        show Steps p.tables e below (T73.setTop (mkF m 64 #[.val (.int fl), .val (.int c0), .val (.int c1), .val (.int mp), .val (.int (0 : Int32)), .val (.int (1 : Int32)), .val (.int (if (fl &&& (4 : Int32)) = (0 : Int32) then (0 : Int32) else (1 : Int32))), .val (.ref b68), .unset, .unset, .unset] [])) _
        refine st76 _ ?_
        refine XS.dup X76.here hx rfl (hb hby at_67) rfl rfl ?_
        refine XS.aload X76.here hx rfl (hb hby at_68) rfl rfl ?_
        show Steps p.tables e below (T76.setTop (mkF m 70 #[.val (.int fl), .val (.int c0), .val (.int c1), .val (.int mp), .val (.int (0 : Int32)), .val (.int (1 : Int32)), .val (.int (if (fl &&& (4 : Int32)) = (0 : Int32) then (0 : Int32) else (1 : Int32))), .val (.ref b68), .unset, .unset, .unset] [(.ref b68), (.ref b76), (.ref b76)])) _
        refine st82.trans ?_
        refine XS.astore X82.here hx rfl (hb hby at_73) rfl rfl (l' := #[.val (.int fl), .val (.int c0), .val (.int c1), .val (.int mp), .val (.int (0 : Int32)), .val (.int (1 : Int32)), .val (.int (if (fl &&& (4 : Int32)) = (0 : Int32) then (0 : Int32) else (1 : Int32))), .val (.ref b68), .val (.ref b76), .unset, .unset]) rfl ?_
        show Steps p.tables e below (T82.setTop (mkF m 75 #[.val (.int fl), .val (.int c0), .val (.int c1), .val (.int mp), .val (.int (0 : Int32)), .val (.int (1 : Int32)), .val (.int (if (fl &&& (4 : Int32)) = (0 : Int32) then (0 : Int32) else (1 : Int32))), .val (.ref b68), .val (.ref b76), .unset, .unset] [])) _
        refine st101 _ ?_
        refine XS.dup X101.here hx rfl (hb hby at_78) rfl rfl ?_
        refine XS.aload X101.here hx rfl (hb hby at_79) rfl rfl ?_
        refine XS.iload X101.here hx rfl (hb hby at_81) rfl ?_
        refine XS.iload X101.here hx rfl (hb hby at_83) rfl ?_
        refine XS.iload X101.here hx rfl (hb hby at_85) rfl ?_
        show Steps p.tables e below (T101.setTop (mkF m 87 #[.val (.int fl), .val (.int c0), .val (.int c1), .val (.int mp), .val (.int (0 : Int32)), .val (.int (1 : Int32)), .val (.int (if (fl &&& (4 : Int32)) = (0 : Int32) then (0 : Int32) else (1 : Int32))), .val (.ref b68), .val (.ref b76), .unset, .unset] [(.int (if (fl &&& (4 : Int32)) = (0 : Int32) then (0 : Int32) else (1 : Int32))), (.int (1 : Int32)), (.int (0 : Int32)), (.ref b76), (.ref b101), (.ref b101)])) _
        refine XS.iloadN X101.here hx rfl (hb hby at_87) rfl ?_
        show Steps p.tables e below (T101.setTop (mkF m 88 #[.val (.int fl), .val (.int c0), .val (.int c1), .val (.int mp), .val (.int (0 : Int32)), .val (.int (1 : Int32)), .val (.int (if (fl &&& (4 : Int32)) = (0 : Int32) then (0 : Int32) else (1 : Int32))), .val (.ref b68), .val (.ref b76), .unset, .unset] [(.int mp), (.int (if (fl &&& (4 : Int32)) = (0 : Int32) then (0 : Int32) else (1 : Int32))), (.int (1 : Int32)), (.int (0 : Int32)), (.ref b76), (.ref b101), (.ref b101)])) _
        refine st112.trans ?_
        refine XS.astore X112.here hx rfl (hb hby at_91) rfl rfl (l' := #[.val (.int fl), .val (.int c0), .val (.int c1), .val (.int mp), .val (.int (0 : Int32)), .val (.int (1 : Int32)), .val (.int (if (fl &&& (4 : Int32)) = (0 : Int32) then (0 : Int32) else (1 : Int32))), .val (.ref b68), .val (.ref b76), .val (.ref b101), .unset]) rfl ?_
        refine XS.iload X112.here hx rfl (hb hby at_93) rfl ?_
        refine XS.ifNo X112.here hx rfl (hb hby at_95) rfl ((if0 _ _).trans (feq ((by decide) : ¬ ((1 : Int32) = (0 : Int32)))).1) ?_
        refine XS.iconst X112.here hx rfl (hb hby at_98) ?_
        refine XS.istore X112.here hx rfl (hb hby at_99) rfl (l' := #[.val (.int fl), .val (.int c0), .val (.int c1), .val (.int mp), .val (.int (0 : Int32)), .val (.int (1 : Int32)), .val (.int (if (fl &&& (4 : Int32)) = (0 : Int32) then (0 : Int32) else (1 : Int32))), .val (.ref b68), .val (.ref b76), .val (.ref b101), .val (.int (0 : Int32))]) rfl ?_
        show Steps p.tables e below (T112.setTop (mkF m 101 #[.val (.int fl), .val (.int c0), .val (.int c1), .val (.int mp), .val (.int (0 : Int32)), .val (.int (1 : Int32)), .val (.int (if (fl &&& (4 : Int32)) = (0 : Int32) then (0 : Int32) else (1 : Int32))), .val (.ref b68), .val (.ref b76), .val (.ref b101), .val (.int (0 : Int32))] [])) _
        refine XS.goto X112.here hx rfl (pc0 := 101) (pc' := 118) rfl (hb hby at_101) (by decide) (by decide) ?_
        refine XS.aload X112.here hx rfl (hb hby at_118) rfl rfl ?_
        show Steps p.tables e below (T112.setTop (mkF m 120 #[.val (.int fl), .val (.int c0), .val (.int c1), .val (.int mp), .val (.int (0 : Int32)), .val (.int (1 : Int32)), .val (.int (if (fl &&& (4 : Int32)) = (0 : Int32) then (0 : Int32) else (1 : Int32))), .val (.ref b68), .val (.ref b76), .val (.ref b101), .val (.int (0 : Int32))] [(.ref b101)])) _
        refine st120.trans ?_
        refine XS.iload X120.here hx rfl (hb hby at_123) rfl ?_
        refine XS.icmpNo X120.here hx rfl (hb hby at_125) rfl (teq ((by decide) : (0 : Int32) = (0 : Int32))).2 ?_
        refine XS.iconst X120.here hx rfl (hb hby at_128) ?_
        refine XS.goto X120.here hx rfl (pc0 := 129) (pc' := 133) rfl (hb hby at_129) (by decide) (by decide) ?_
        exact kt
      obtain ⟨fs, hr, hrun, hended, hW, hsame⟩ := X120.leave (v := some (.int (1 : Int32))) (fun h => by rw [Bd.returns] at h; cases h)
      refine ⟨_, _, pre0 _ (S124 _ ?_), hrun, hended, _, _, rfl, ?_, ⟨_, rfl⟩, hW, hsame.mono (by decide) (by decide)⟩
      · exact retN X120 hx (t := .boolean) Bd.returns (by simp) (hb hby at_133) hr
      · show Q_rm_law Z fl c0 c1 mp zc h0 n0 _ T120.heap _
        rw [k122]
        exact ⟨rfl, N123⟩
  · have S125 : ∀ t, Steps p.tables e below (s₁.setTop (mkF m 16 #[.val (.int fl), .val (.int c0), .val (.int c1), .val (.int mp), .val (.int (1 : Int32)), .unset, .unset, .unset, .unset, .unset, .unset] [(.int (fl &&& (2 : Int32)))])) t → Steps p.tables e below (s₁.setTop (mkF m 0 #[.val (.int fl), .val (.int c0), .val (.int c1), .val (.int mp), .unset, .unset, .unset, .unset, .unset, .unset, .unset] [])) t := by
      intro t kt
      refine S1 t ?_
      refine XS.ifNo X0.here hx rfl (hb hby at_3) rfl ((if0 _ _).trans (feq (c2 : ¬ ((fl &&& (1 : Int32)) = (0 : Int32)))).1) ?_
      refine XS.iconst X0.here hx rfl (hb hby at_6) ?_
      refine XS.goto X0.here hx rfl (pc0 := 7) (pc' := 11) rfl (hb hby at_7) (by decide) (by decide) ?_
      refine XS.istore X0.here hx rfl (hb hby at_11) rfl (l' := #[.val (.int fl), .val (.int c0), .val (.int c1), .val (.int mp), .val (.int (1 : Int32)), .unset, .unset, .unset, .unset, .unset, .unset]) rfl ?_
      refine XS.iloadN X0.here hx rfl (hb hby at_13) rfl ?_
      refine XS.iconst X0.here hx rfl (hb hby at_14) ?_
      show Steps p.tables e below (s₁.setTop (mkF m 15 #[.val (.int fl), .val (.int c0), .val (.int c1), .val (.int mp), .val (.int (1 : Int32)), .unset, .unset, .unset, .unset, .unset, .unset] [(.int (2 : Int32)), (.int fl)])) _
      refine XS.iand X0.here hx rfl (hb hby at_15) rfl ?_
      exact kt
    rcases Decidable.em ((fl &&& (2 : Int32)) = (0 : Int32)) with c126 | c126
    · have S127 : ∀ t, Steps p.tables e below (s₁.setTop (mkF m 29 #[.val (.int fl), .val (.int c0), .val (.int c1), .val (.int mp), .val (.int (1 : Int32)), .val (.int (0 : Int32)), .unset, .unset, .unset, .unset, .unset] [(.int (fl &&& (4 : Int32)))])) t → Steps p.tables e below (s₁.setTop (mkF m 0 #[.val (.int fl), .val (.int c0), .val (.int c1), .val (.int mp), .unset, .unset, .unset, .unset, .unset, .unset, .unset] [])) t := by
        intro t kt
        refine S125 t ?_
        refine XS.ifYes X0.here hx rfl (pc0 := 16) (pc' := 23) rfl (hb hby at_16) rfl ((if0 _ _).trans (teq (c126 : (fl &&& (2 : Int32)) = (0 : Int32))).1) (by decide) (by decide) ?_
        refine XS.iconst X0.here hx rfl (hb hby at_23) ?_
        refine XS.istore X0.here hx rfl (hb hby at_24) rfl (l' := #[.val (.int fl), .val (.int c0), .val (.int c1), .val (.int mp), .val (.int (1 : Int32)), .val (.int (0 : Int32)), .unset, .unset, .unset, .unset, .unset]) rfl ?_
        refine XS.iloadN X0.here hx rfl (hb hby at_26) rfl ?_
        refine XS.iconst X0.here hx rfl (hb hby at_27) ?_
        refine XS.iand X0.here hx rfl (hb hby at_28) rfl ?_
        exact kt
      have S128 : ∀ t, Steps p.tables e below (s₁.setTop (mkF m 37 #[.val (.int fl), .val (.int c0), .val (.int c1), .val (.int mp), .val (.int (1 : Int32)), .val (.int (0 : Int32)), .unset, .unset, .unset, .unset, .unset] [(.int (if (fl &&& (4 : Int32)) = (0 : Int32) then (0 : Int32) else (1 : Int32)))])) t → Steps p.tables e below (s₁.setTop (mkF m 0 #[.val (.int fl), .val (.int c0), .val (.int c1), .val (.int mp), .unset, .unset, .unset, .unset, .unset, .unset, .unset] [])) t := by
        intro t kt
        rcases Decidable.em ((fl &&& (4 : Int32)) = (0 : Int32)) with c129 | c129
        · rw [if_pos c129] at kt
          refine S127 t ?_
          refine XS.ifYes X0.here hx rfl (pc0 := 29) (pc' := 36) rfl (hb hby at_29) rfl ((if0 _ _).trans (teq (c129 : (fl &&& (4 : Int32)) = (0 : Int32))).1) (by decide) (by decide) ?_
          refine XS.iconst X0.here hx rfl (hb hby at_36) ?_
          exact kt
        · rw [if_neg c129] at kt
          refine S127 t ?_
          refine XS.ifNo X0.here hx rfl (hb hby at_29) rfl ((if0 _ _).trans (feq (c129 : ¬ ((fl &&& (4 : Int32)) = (0 : Int32)))).1) ?_
          refine XS.iconst X0.here hx rfl (hb hby at_32) ?_
          refine XS.goto X0.here hx rfl (pc0 := 33) (pc' := 37) rfl (hb hby at_33) (by decide) (by decide) ?_
          exact kt
      obtain ⟨T130, h130, k130, X130, e130, E130, A130, B130, st130⟩ := newPE X0 hx hZ (own_w hw 0 rfl) e0 (g := (mkF m 40 #[.val (.int fl), .val (.int c0), .val (.int c1), .val (.int mp), .val (.int (1 : Int32)), .val (.int (0 : Int32)), .val (.int (if (fl &&& (4 : Int32)) = (0 : Int32) then (0 : Int32) else (1 : Int32))), .unset, .unset, .unset, .unset] [(.int (2 : Int32))])) rfl (hb hby at_40) rfl (by decide) (cap := 2) (by decide) (by decide) (by decide) (by decide) (ad := "[C") (by first | rfl | decide)
      obtain ⟨b130, g130⟩ : ∃ z, z = h0.size := ⟨_, rfl⟩
      have ge_b130 : n0 ≤ b130 := by rw [g130, ← O0.1]; exact O0.2.1
      rw [← g130] at A130 B130 st130
      have O131 := O0.ext E130
      have F130 : Arv Z h130 b130 k130 .char (2 : Int32) [(.int (0 : Int32)), (.int (0 : Int32))] (.int (0 : Int32)) := (Arv.new A130 (by decide)).pad (pad_rep [] (.int (0 : Int32)) 2)
      obtain ⟨cl132, Ar132, q132, Sz132, Nn132, Hh132, Gg132⟩ := id F130
      have in132 : ¬ ((0 : Int32) < 0 ∨ cl132.slots.size ≤ ((0 : Int32)).toNatClampNeg) := inb_of Sz132 ⟨by decide, by decide⟩
      obtain ⟨T132, h132, X132, e132, W132, st132⟩ := stC X130 hx hZ e130 Ar132 (j := (0 : Int32)) in132 (g := (mkF m 53 #[.val (.int fl), .val (.int c0), .val (.int c1), .val (.int mp), .val (.int (1 : Int32)), .val (.int (0 : Int32)), .val (.int (if (fl &&& (4 : Int32)) = (0 : Int32) then (0 : Int32) else (1 : Int32))), .val (.ref b130), .unset, .unset, .unset] [(.int (c0 &&& (255 : Int32))), (.int (0 : Int32)), (.ref b130)])) rfl rfl (hb hby at_53)
      rw [show nar .char (c0 &&& (255 : Int32)) = (c0 &&& (255 : Int32)) from i2c_mask _] at W132
      have O133 := O131.wr W132 ge_b130
      have N134 := Fr.snoc X132 N0 ge_b130
      have F132 : Arv Z h132 b130 k130 .char (2 : Int32) [(.int (c0 &&& (255 : Int32))), (.int (0 : Int32))] (.int (0 : Int32)) := Arv.set Ar132 q132 Sz132 Nn132 Hh132 Gg132 (by rw [← (i2c_mask _ : nar .char (c0 &&& (255 : Int32)) = (c0 &&& (255 : Int32)))]; exact fits_nar_char _) W132 0 rfl (Nat.le_of_ble_eq_true rfl)
      obtain ⟨cl135, Ar135, q135, Sz135, Nn135, Hh135, Gg135⟩ := id F132
      have in135 : ¬ ((1 : Int32) < 0 ∨ cl135.slots.size ≤ ((1 : Int32)).toNatClampNeg) := inb_of Sz135 ⟨by decide, by decide⟩
      obtain ⟨T135, h135, X135, e135, W135, st135⟩ := stC X132 hx hZ e132 Ar135 (j := (1 : Int32)) in135 (g := (mkF m 63 #[.val (.int fl), .val (.int c0), .val (.int c1), .val (.int mp), .val (.int (1 : Int32)), .val (.int (0 : Int32)), .val (.int (if (fl &&& (4 : Int32)) = (0 : Int32) then (0 : Int32) else (1 : Int32))), .val (.ref b130), .unset, .unset, .unset] [(.int (c1 &&& (255 : Int32))), (.int (1 : Int32)), (.ref b130)])) rfl rfl (hb hby at_63)
      rw [show nar .char (c1 &&& (255 : Int32)) = (c1 &&& (255 : Int32)) from i2c_mask _] at W135
      have O136 := O133.wr W135 ge_b130
      have N137 := Fr.snoc X135 N134 ge_b130
      have F135 : Arv Z h135 b130 k130 .char (2 : Int32) [(.int (c0 &&& (255 : Int32))), (.int (c1 &&& (255 : Int32)))] (.int (0 : Int32)) := Arv.set Ar135 q135 Sz135 Nn135 Hh135 Gg135 (by rw [← (i2c_mask _ : nar .char (c1 &&& (255 : Int32)) = (c1 &&& (255 : Int32)))]; exact fits_nar_char _) W135 1 rfl (Nat.le_of_ble_eq_true rfl)
      obtain ⟨T138, h138, X138, e138, E138, A138, D138, -, st138⟩ := newO X135 hx hZ hown (own_w hw 1 rfl) (own_w hw 2 rfl) (own_w hw 3 rfl) e135 (g := (mkF m 64 #[.val (.int fl), .val (.int c0), .val (.int c1), .val (.int mp), .val (.int (1 : Int32)), .val (.int (0 : Int32)), .val (.int (if (fl &&& (4 : Int32)) = (0 : Int32) then (0 : Int32) else (1 : Int32))), .val (.ref b130), .unset, .unset, .unset] [])) rfl (hb hby at_64) (by decide) (by decide)
      obtain ⟨b138, g138⟩ : ∃ z, z = h135.size := ⟨_, rfl⟩
      have ge_b138 : n0 ≤ b138 := by rw [g138, ← O136.1]; exact O136.2.1
      have f139 := (Exa.wr W135 (Exa.wr W132 B130))
      have ne140 : b130 ≠ b138 := Nat.ne_of_lt (Nat.lt_of_lt_of_le (Exa.lt f139) (Nat.le_of_eq g138.symm))
      rw [← g138] at A138 D138 st138
      have O141 := O136.ext E138
      have F142 : Fld Z h138 b138 "java/lang/String" "coder" "B" (.int (0 : Int32)) := D138 (Or.inr (own_w hw 27 rfl)) (ty := .byte) (by decide)
      have F143 : Fld Z h138 b138 "java/lang/String" "value" "[B" .null := D138 (Or.inr (own_w hw 29 rfl)) (ty := (.array .byte)) (by decide)
      have f145 := (Arv.ext F135 E138)
      have la146 : ∀ c ∈ ([(c0 &&& (255 : Int32)), (c1 &&& (255 : Int32))] : List Int32), ¬ c < 0 ∧ ¬ (255 : Int32) < c := by
        intro c hc
        simp only [List.mem_cons, List.not_mem_nil, or_false] at hc
        rcases hc with rfl | rfl
        · exact own_lat _
        · exact own_lat _
      obtain ⟨_, _, ⟨T144, L144, k144, n144⟩, -, X144, ⟨Lc144, hQ144, l144, y144, z144⟩, st144⟩ := X138.specialBack hx (y := (⟨"java/lang/String", "<init>", "([C)V"⟩ : MethodName)) rfl hown (mvT hZ (own_w hw 4 rfl)) (mvT hZ (own_w hw 5 rfl)) (mvT hZ (own_w hw 6 rfl)) (by decide) (StrChars.Road.backV (W := 1) hZ hws (kI := 4) (own_w hw 2 rfl) (cs := [(c0 &&& (255 : Int32)), (c1 &&& (255 : Int32))]) (bs := [(c0 &&& (255 : Int32)).toInt8.toInt32, (c1 &&& (255 : Int32)).toInt8.toInt32]) (n := 2) ge_b138 (by rw [← O141.1]; exact O141.2.1) A138 F143 F142 f145 (S_C.ext O141.2) hzc rfl rfl (by decide) (by decide) la146 rfl (by decide) (by decide)) (g := (mkF m 70 #[.val (.int fl), .val (.int c0), .val (.int c1), .val (.int mp), .val (.int (1 : Int32)), .val (.int (0 : Int32)), .val (.int (if (fl &&& (4 : Int32)) = (0 : Int32) then (0 : Int32) else (1 : Int32))), .val (.ref b130), .unset, .unset, .unset] [(.ref b130), (.ref b138), (.ref b138)])) rfl (by rw [hml]; rfl) (Steps.refl _) (a := b138) (argsL := [(.ref b130)]) (rest := [(.ref b138)]) (lenOf pd_1 rfl) rfl (by show 2 * 0 + _ ≤ _; exact Nat.le_of_eq rfl) (hb hby at_70) (fun _ _ => ⟨rfl, e138, (by decide : 2 + 1 ≤ _), (by decide : 6 + 2 ≤ _)⟩)
      dsimp only [Pt.U, Pt.locs, Pt.cells, Pt.slots] at X144 l144 y144 z144 st144 hQ144
      subst l144 y144 z144
      obtain ⟨rfl, f149, f150, f151, f152, x147, x148, f153, f154, qf154, f155, f156⟩ := hQ144
      have N157 := Fr.app N137 f149
      have ge158 : n0 ≤ x147 := by rw [← O141.1]; exact Nat.le_trans O141.2.1 f154
      have f159 := (Exa.ext E138 f139)
      have ne160 : b130 ≠ x147 := Nat.ne_of_lt (Nat.lt_of_lt_of_le (Exa.lt f159) f154)
      have ne161 : b138 ≠ x147 := Nat.ne_of_lt (Nat.lt_of_lt_of_le (Exa.lt A138) f154)
      have O162 := O141.keep f150 (allS ge_b138 all0)
      obtain ⟨T163, h163, X163, e163, E163, A163, D163, -, st163⟩ := newO X144 hx hZ hown (own_w hw 30 rfl) (own_w hw 31 rfl) (own_w hw 32 rfl) rfl (g := (mkF m 75 #[.val (.int fl), .val (.int c0), .val (.int c1), .val (.int mp), .val (.int (1 : Int32)), .val (.int (0 : Int32)), .val (.int (if (fl &&& (4 : Int32)) = (0 : Int32) then (0 : Int32) else (1 : Int32))), .val (.ref b130), .val (.ref b138), .unset, .unset] [])) rfl (hb hby at_75) (by decide) (by decide)
      obtain ⟨b163, g163⟩ : ∃ z, z = T144.heap.size := ⟨_, rfl⟩
      have ge_b163 : n0 ≤ b163 := by rw [g163, ← O162.1]; exact O162.2.1
      have f164 := (Exa.keep f159 f150)
      have ne165 : b130 ≠ b163 := Nat.ne_of_lt (Nat.lt_of_lt_of_le (Exa.lt f164) (Nat.le_of_eq g163.symm))
      have ne166 : b138 ≠ b163 := Nat.ne_of_lt (Nat.lt_of_lt_of_le (Exa.lt f151) (Nat.le_of_eq g163.symm))
      have ne167 : x147 ≠ b163 := Nat.ne_of_lt (Nat.lt_of_lt_of_le (Arv.lt f156) (Nat.le_of_eq g163.symm))
      rw [← g163] at A163 D163 st163
      have O168 := O162.ext E163
      have F169 : Fld Z h163 b163 "com/example/ogmios/ogmios/queue/QueueDeclaration" "name" "Ljava/lang/String;" .null := D163 (Or.inr (own_w hw 43 rfl)) (ty := (.object "java/lang/String")) (by decide)
      have F170 : Fld Z h163 b163 "com/example/ogmios/ogmios/queue/QueueDeclaration" "durable" "Z" (.int (0 : Int32)) := D163 (Or.inr (own_w hw 45 rfl)) (ty := .boolean) (by decide)
      have F171 : Fld Z h163 b163 "com/example/ogmios/ogmios/queue/QueueDeclaration" "exclusive" "Z" (.int (0 : Int32)) := D163 (Or.inr (own_w hw 47 rfl)) (ty := .boolean) (by decide)
      have F172 : Fld Z h163 b163 "com/example/ogmios/ogmios/queue/QueueDeclaration" "autoDelete" "Z" (.int (0 : Int32)) := D163 (Or.inr (own_w hw 49 rfl)) (ty := .boolean) (by decide)
      have F173 : Fld Z h163 b163 "com/example/ogmios/ogmios/queue/QueueDeclaration" "maxPriority" "I" (.int (0 : Int32)) := D163 (Or.inr (own_w hw 51 rfl)) (ty := .int) (by decide)
      obtain ⟨_, _, ⟨T174, L174, k174, n174⟩, -, X174, ⟨Lc174, hQ174, l174, y174, z174⟩, st174⟩ := X163.specialBack hx (y := (⟨"com/example/ogmios/ogmios/queue/QueueDeclaration", "<init>", "(Ljava/lang/String;ZZZI)V"⟩ : MethodName)) rfl hown (mvT hZ (own_w hw 33 rfl)) (mvT hZ (own_w hw 34 rfl)) (mvT hZ (own_w hw 35 rfl)) (by decide) (backOf (W := 1) (rm_qinit10 l Z a0 hw [] b163 b138 (if (fl &&& (4 : Int32)) = (0 : Int32) then (0 : Int32) else (1 : Int32)) mp h163 n0 O168 A163 ge_b163 F169 F170 F171 F172 F173) hZ (own_w hw 35 rfl) (own_w hw 32 rfl) (by decide) (by decide)) (g := (mkF m 88 #[.val (.int fl), .val (.int c0), .val (.int c1), .val (.int mp), .val (.int (1 : Int32)), .val (.int (0 : Int32)), .val (.int (if (fl &&& (4 : Int32)) = (0 : Int32) then (0 : Int32) else (1 : Int32))), .val (.ref b130), .val (.ref b138), .unset, .unset] [(.int mp), (.int (if (fl &&& (4 : Int32)) = (0 : Int32) then (0 : Int32) else (1 : Int32))), (.int (0 : Int32)), (.int (1 : Int32)), (.ref b138), (.ref b163), (.ref b163)])) rfl (by rw [hml]; rfl) (Steps.refl _) (a := b163) (argsL := [(.ref b138), (.int (1 : Int32)), (.int (0 : Int32)), (.int (if (fl &&& (4 : Int32)) = (0 : Int32) then (0 : Int32) else (1 : Int32))), (.int mp)]) (rest := [(.ref b163)]) (lenOf pd_2 rfl) rfl (by show 2 * 0 + _ ≤ _; exact Nat.le_of_eq rfl) (hb hby at_88) (fun _ _ => ⟨rfl, e163, (by decide : 4 + 0 ≤ _), (by decide : 13 + 0 ≤ _)⟩)
      dsimp only [Pt.U, Pt.locs, Pt.cells, Pt.slots] at X174 l174 y174 z174 st174 hQ174
      subst l174 y174 z174
      obtain ⟨rfl, N175, k176, f177, f178, f179⟩ := hQ174
      have N180 := Fr.app N157 N175
      have O181 := O168.keep k176 (allS ge_b163 all0)
      obtain ⟨cq182, kq182, q182a, q182b, q182c⟩ := isOf hZ rfl f177
      obtain ⟨_, _, ⟨T182, L182, k182, n182⟩, -, X182, ⟨Lc182, hQ182, l182, y182, z182⟩, st182⟩ := X174.virtualBack hx (y := (⟨"com/example/ogmios/ogmios/queue/QueueDeclaration", "kept", "()Z"⟩ : MethodName)) (z := (⟨"com/example/ogmios/ogmios/queue/QueueDeclaration", "kept", "()Z"⟩ : MethodName)) hown (mvT hZ (own_w hw 52 rfl)) (mvT hZ (own_w hw 53 rfl)) (notFace_of_selects (args := #[]) (mvT hZ (own_w hw 55 rfl))) (mvT hZ (own_w hw 55 rfl)) (mvT hZ (own_w hw 54 rfl)) (by decide) (backOf (W := 0) (rm_kept10 l Z a0 hw [] b163 T174.heap n0 O181 f178 f179) hZ (own_w hw 56 rfl) (own_w hw 32 rfl) (by decide) (by decide)) q182a q182c (g := (mkF m 120 #[.val (.int fl), .val (.int c0), .val (.int c1), .val (.int mp), .val (.int (1 : Int32)), .val (.int (0 : Int32)), .val (.int (if (fl &&& (4 : Int32)) = (0 : Int32) then (0 : Int32) else (1 : Int32))), .val (.ref b130), .val (.ref b138), .val (.ref b163), .val (.int (1 : Int32))] [(.ref b163)])) rfl (by rw [hml]; rfl) (Steps.refl _) (argsL := []) (rest := []) (lenOf pd_3 rfl) rfl (by show 2 * 0 + _ ≤ _; exact Nat.le_of_eq rfl) (hb hby at_120) (fun _ _ => ⟨rfl, rfl, (by decide : 4 + 0 ≤ _), (by decide : 13 + 0 ≤ _)⟩)
      dsimp only [Pt.U, Pt.locs, Pt.cells, Pt.slots] at X182 l182 y182 z182 st182 hQ182
      subst l182 y182 z182
      obtain ⟨rfl, N183, k184⟩ := hQ182
      have N185 := Fr.app N180 N183
      have S186 : ∀ t, Steps p.tables e below (T182.setTop (mkF m 133 #[.val (.int fl), .val (.int c0), .val (.int c1), .val (.int mp), .val (.int (1 : Int32)), .val (.int (0 : Int32)), .val (.int (if (fl &&& (4 : Int32)) = (0 : Int32) then (0 : Int32) else (1 : Int32))), .val (.ref b130), .val (.ref b138), .val (.ref b163), .val (.int (1 : Int32))] [(.int (1 : Int32))])) t → Steps p.tables e below (s₁.setTop (mkF m 0 #[.val (.int fl), .val (.int c0), .val (.int c1), .val (.int mp), .unset, .unset, .unset, .unset, .unset, .unset, .unset] [])) t := by
        intro t kt
        refine S128 t ?_
        refine XS.istore X0.here hx rfl (hb hby at_37) rfl (l' := #[.val (.int fl), .val (.int c0), .val (.int c1), .val (.int mp), .val (.int (1 : Int32)), .val (.int (0 : Int32)), .val (.int (if (fl &&& (4 : Int32)) = (0 : Int32) then (0 : Int32) else (1 : Int32))), .unset, .unset, .unset, .unset]) rfl ?_
        refine XS.iconst X0.here hx rfl (hb hby at_39) ?_
        show Steps p.tables e below (s₁.setTop (mkF m 40 #[.val (.int fl), .val (.int c0), .val (.int c1), .val (.int mp), .val (.int (1 : Int32)), .val (.int (0 : Int32)), .val (.int (if (fl &&& (4 : Int32)) = (0 : Int32) then (0 : Int32) else (1 : Int32))), .unset, .unset, .unset, .unset] [(.int (2 : Int32))])) _
        refine st130 _ ?_
        refine XS.astore X130.here hx rfl (hb hby at_42) rfl rfl (l' := #[.val (.int fl), .val (.int c0), .val (.int c1), .val (.int mp), .val (.int (1 : Int32)), .val (.int (0 : Int32)), .val (.int (if (fl &&& (4 : Int32)) = (0 : Int32) then (0 : Int32) else (1 : Int32))), .val (.ref b130), .unset, .unset, .unset]) rfl ?_
        refine XS.aload X130.here hx rfl (hb hby at_44) rfl rfl ?_
        refine XS.iconst X130.here hx rfl (hb hby at_46) ?_
        refine XS.iloadN X130.here hx rfl (hb hby at_47) rfl ?_
        refine XS.sipush X130.here hx rfl (hb hby at_48) ?_
        show Steps p.tables e below (T130.setTop (mkF m 51 #[.val (.int fl), .val (.int c0), .val (.int c1), .val (.int mp), .val (.int (1 : Int32)), .val (.int (0 : Int32)), .val (.int (if (fl &&& (4 : Int32)) = (0 : Int32) then (0 : Int32) else (1 : Int32))), .val (.ref b130), .unset, .unset, .unset] [(.int (255 : Int32)), (.int c0), (.int (0 : Int32)), (.ref b130)])) _
        refine XS.iand X130.here hx rfl (hb hby at_51) rfl ?_
        refine XS.i2c X130.here hx rfl (hb hby at_52) rfl ?_
        rw [i2c_mask]
        show Steps p.tables e below (T130.setTop (mkF m 53 #[.val (.int fl), .val (.int c0), .val (.int c1), .val (.int mp), .val (.int (1 : Int32)), .val (.int (0 : Int32)), .val (.int (if (fl &&& (4 : Int32)) = (0 : Int32) then (0 : Int32) else (1 : Int32))), .val (.ref b130), .unset, .unset, .unset] [(.int (c0 &&& (255 : Int32))), (.int (0 : Int32)), (.ref b130)])) _
        refine st132 _ ?_
        refine XS.aload X132.here hx rfl (hb hby at_54) rfl rfl ?_
        refine XS.iconst X132.here hx rfl (hb hby at_56) ?_
        refine XS.iloadN X132.here hx rfl (hb hby at_57) rfl ?_
        refine XS.sipush X132.here hx rfl (hb hby at_58) ?_
        refine XS.iand X132.here hx rfl (hb hby at_61) rfl ?_
        show Steps p.tables e below (T132.setTop (mkF m 62 #[.val (.int fl), .val (.int c0), .val (.int c1), .val (.int mp), .val (.int (1 : Int32)), .val (.int (0 : Int32)), .val (.int (if (fl &&& (4 : Int32)) = (0 : Int32) then (0 : Int32) else (1 : Int32))), .val (.ref b130), .unset, .unset, .unset] [(.int (c1 &&& (255 : Int32))), (.int (1 : Int32)), (.ref b130)])) _
        refine XS.i2c X132.here hx rfl (hb hby at_62) rfl ?_
        rw [i2c_mask]
        show Steps p.tables e below (T132.setTop (mkF m 63 #[.val (.int fl), .val (.int c0), .val (.int c1), .val (.int mp), .val (.int (1 : Int32)), .val (.int (0 : Int32)), .val (.int (if (fl &&& (4 : Int32)) = (0 : Int32) then (0 : Int32) else (1 : Int32))), .val (.ref b130), .unset, .unset, .unset] [(.int (c1 &&& (255 : Int32))), (.int (1 : Int32)), (.ref b130)])) _
        refine st135 _ ?_
        show Steps p.tables e below (T135.setTop (mkF m 64 #[.val (.int fl), .val (.int c0), .val (.int c1), .val (.int mp), .val (.int (1 : Int32)), .val (.int (0 : Int32)), .val (.int (if (fl &&& (4 : Int32)) = (0 : Int32) then (0 : Int32) else (1 : Int32))), .val (.ref b130), .unset, .unset, .unset] [])) _
        refine st138 _ ?_
        refine XS.dup X138.here hx rfl (hb hby at_67) rfl rfl ?_
        refine XS.aload X138.here hx rfl (hb hby at_68) rfl rfl ?_
        show Steps p.tables e below (T138.setTop (mkF m 70 #[.val (.int fl), .val (.int c0), .val (.int c1), .val (.int mp), .val (.int (1 : Int32)), .val (.int (0 : Int32)), .val (.int (if (fl &&& (4 : Int32)) = (0 : Int32) then (0 : Int32) else (1 : Int32))), .val (.ref b130), .unset, .unset, .unset] [(.ref b130), (.ref b138), (.ref b138)])) _
        refine st144.trans ?_
        refine XS.astore X144.here hx rfl (hb hby at_73) rfl rfl (l' := #[.val (.int fl), .val (.int c0), .val (.int c1), .val (.int mp), .val (.int (1 : Int32)), .val (.int (0 : Int32)), .val (.int (if (fl &&& (4 : Int32)) = (0 : Int32) then (0 : Int32) else (1 : Int32))), .val (.ref b130), .val (.ref b138), .unset, .unset]) rfl ?_
        show Steps p.tables e below (T144.setTop (mkF m 75 #[.val (.int fl), .val (.int c0), .val (.int c1), .val (.int mp), .val (.int (1 : Int32)), .val (.int (0 : Int32)), .val (.int (if (fl &&& (4 : Int32)) = (0 : Int32) then (0 : Int32) else (1 : Int32))), .val (.ref b130), .val (.ref b138), .unset, .unset] [])) _
        refine st163 _ ?_
        refine XS.dup X163.here hx rfl (hb hby at_78) rfl rfl ?_
        refine XS.aload X163.here hx rfl (hb hby at_79) rfl rfl ?_
        refine XS.iload X163.here hx rfl (hb hby at_81) rfl ?_
        refine XS.iload X163.here hx rfl (hb hby at_83) rfl ?_
        refine XS.iload X163.here hx rfl (hb hby at_85) rfl ?_
        show Steps p.tables e below (T163.setTop (mkF m 87 #[.val (.int fl), .val (.int c0), .val (.int c1), .val (.int mp), .val (.int (1 : Int32)), .val (.int (0 : Int32)), .val (.int (if (fl &&& (4 : Int32)) = (0 : Int32) then (0 : Int32) else (1 : Int32))), .val (.ref b130), .val (.ref b138), .unset, .unset] [(.int (if (fl &&& (4 : Int32)) = (0 : Int32) then (0 : Int32) else (1 : Int32))), (.int (0 : Int32)), (.int (1 : Int32)), (.ref b138), (.ref b163), (.ref b163)])) _
        refine XS.iloadN X163.here hx rfl (hb hby at_87) rfl ?_
        show Steps p.tables e below (T163.setTop (mkF m 88 #[.val (.int fl), .val (.int c0), .val (.int c1), .val (.int mp), .val (.int (1 : Int32)), .val (.int (0 : Int32)), .val (.int (if (fl &&& (4 : Int32)) = (0 : Int32) then (0 : Int32) else (1 : Int32))), .val (.ref b130), .val (.ref b138), .unset, .unset] [(.int mp), (.int (if (fl &&& (4 : Int32)) = (0 : Int32) then (0 : Int32) else (1 : Int32))), (.int (0 : Int32)), (.int (1 : Int32)), (.ref b138), (.ref b163), (.ref b163)])) _
        refine st174.trans ?_
        refine XS.astore X174.here hx rfl (hb hby at_91) rfl rfl (l' := #[.val (.int fl), .val (.int c0), .val (.int c1), .val (.int mp), .val (.int (1 : Int32)), .val (.int (0 : Int32)), .val (.int (if (fl &&& (4 : Int32)) = (0 : Int32) then (0 : Int32) else (1 : Int32))), .val (.ref b130), .val (.ref b138), .val (.ref b163), .unset]) rfl ?_
        refine XS.iload X174.here hx rfl (hb hby at_93) rfl ?_
        refine XS.ifYes X174.here hx rfl (pc0 := 95) (pc' := 104) rfl (hb hby at_95) rfl ((if0 _ _).trans (teq ((by decide) : (0 : Int32) = (0 : Int32))).1) (by decide) (by decide) ?_
        refine XS.iload X174.here hx rfl (hb hby at_104) rfl ?_
        refine XS.ifNo X174.here hx rfl (hb hby at_106) rfl ((if0 _ _).trans (feq ((by decide) : ¬ ((1 : Int32) = (0 : Int32)))).1) ?_
        show Steps p.tables e below (T174.setTop (mkF m 109 #[.val (.int fl), .val (.int c0), .val (.int c1), .val (.int mp), .val (.int (1 : Int32)), .val (.int (0 : Int32)), .val (.int (if (fl &&& (4 : Int32)) = (0 : Int32) then (0 : Int32) else (1 : Int32))), .val (.ref b130), .val (.ref b138), .val (.ref b163), .unset] [])) _
        refine XS.iconst X174.here hx rfl (hb hby at_109) ?_
        refine XS.istore X174.here hx rfl (hb hby at_110) rfl (l' := #[.val (.int fl), .val (.int c0), .val (.int c1), .val (.int mp), .val (.int (1 : Int32)), .val (.int (0 : Int32)), .val (.int (if (fl &&& (4 : Int32)) = (0 : Int32) then (0 : Int32) else (1 : Int32))), .val (.ref b130), .val (.ref b138), .val (.ref b163), .val (.int (1 : Int32))]) rfl ?_
        refine XS.goto X174.here hx rfl (pc0 := 112) (pc' := 118) rfl (hb hby at_112) (by decide) (by decide) ?_
        refine XS.aload X174.here hx rfl (hb hby at_118) rfl rfl ?_
        show Steps p.tables e below (T174.setTop (mkF m 120 #[.val (.int fl), .val (.int c0), .val (.int c1), .val (.int mp), .val (.int (1 : Int32)), .val (.int (0 : Int32)), .val (.int (if (fl &&& (4 : Int32)) = (0 : Int32) then (0 : Int32) else (1 : Int32))), .val (.ref b130), .val (.ref b138), .val (.ref b163), .val (.int (1 : Int32))] [(.ref b163)])) _
        refine st182.trans ?_
        refine XS.iload X182.here hx rfl (hb hby at_123) rfl ?_
        refine XS.icmpNo X182.here hx rfl (hb hby at_125) rfl (teq ((by decide) : (1 : Int32) = (1 : Int32))).2 ?_
        refine XS.iconst X182.here hx rfl (hb hby at_128) ?_
        refine XS.goto X182.here hx rfl (pc0 := 129) (pc' := 133) rfl (hb hby at_129) (by decide) (by decide) ?_
        exact kt
      obtain ⟨fs, hr, hrun, hended, hW, hsame⟩ := X182.leave (v := some (.int (1 : Int32))) (fun h => by rw [Bd.returns] at h; cases h)
      refine ⟨_, _, pre0 _ (S186 _ ?_), hrun, hended, _, _, rfl, ?_, ⟨_, rfl⟩, hW, hsame.mono (by decide) (by decide)⟩
      · exact retN X182 hx (t := .boolean) Bd.returns (by simp) (hb hby at_133) hr
      · show Q_rm_law Z fl c0 c1 mp zc h0 n0 _ T182.heap _
        rw [k184]
        exact ⟨rfl, N185⟩
    · have S187 : ∀ t, Steps p.tables e below (s₁.setTop (mkF m 29 #[.val (.int fl), .val (.int c0), .val (.int c1), .val (.int mp), .val (.int (1 : Int32)), .val (.int (1 : Int32)), .unset, .unset, .unset, .unset, .unset] [(.int (fl &&& (4 : Int32)))])) t → Steps p.tables e below (s₁.setTop (mkF m 0 #[.val (.int fl), .val (.int c0), .val (.int c1), .val (.int mp), .unset, .unset, .unset, .unset, .unset, .unset, .unset] [])) t := by
        intro t kt
        refine S125 t ?_
        refine XS.ifNo X0.here hx rfl (hb hby at_16) rfl ((if0 _ _).trans (feq (c126 : ¬ ((fl &&& (2 : Int32)) = (0 : Int32)))).1) ?_
        refine XS.iconst X0.here hx rfl (hb hby at_19) ?_
        refine XS.goto X0.here hx rfl (pc0 := 20) (pc' := 24) rfl (hb hby at_20) (by decide) (by decide) ?_
        refine XS.istore X0.here hx rfl (hb hby at_24) rfl (l' := #[.val (.int fl), .val (.int c0), .val (.int c1), .val (.int mp), .val (.int (1 : Int32)), .val (.int (1 : Int32)), .unset, .unset, .unset, .unset, .unset]) rfl ?_
        refine XS.iloadN X0.here hx rfl (hb hby at_26) rfl ?_
        refine XS.iconst X0.here hx rfl (hb hby at_27) ?_
        show Steps p.tables e below (s₁.setTop (mkF m 28 #[.val (.int fl), .val (.int c0), .val (.int c1), .val (.int mp), .val (.int (1 : Int32)), .val (.int (1 : Int32)), .unset, .unset, .unset, .unset, .unset] [(.int (4 : Int32)), (.int fl)])) _
        refine XS.iand X0.here hx rfl (hb hby at_28) rfl ?_
        exact kt
      have S188 : ∀ t, Steps p.tables e below (s₁.setTop (mkF m 37 #[.val (.int fl), .val (.int c0), .val (.int c1), .val (.int mp), .val (.int (1 : Int32)), .val (.int (1 : Int32)), .unset, .unset, .unset, .unset, .unset] [(.int (if (fl &&& (4 : Int32)) = (0 : Int32) then (0 : Int32) else (1 : Int32)))])) t → Steps p.tables e below (s₁.setTop (mkF m 0 #[.val (.int fl), .val (.int c0), .val (.int c1), .val (.int mp), .unset, .unset, .unset, .unset, .unset, .unset, .unset] [])) t := by
        intro t kt
        rcases Decidable.em ((fl &&& (4 : Int32)) = (0 : Int32)) with c189 | c189
        · rw [if_pos c189] at kt
          refine S187 t ?_
          refine XS.ifYes X0.here hx rfl (pc0 := 29) (pc' := 36) rfl (hb hby at_29) rfl ((if0 _ _).trans (teq (c189 : (fl &&& (4 : Int32)) = (0 : Int32))).1) (by decide) (by decide) ?_
          refine XS.iconst X0.here hx rfl (hb hby at_36) ?_
          exact kt
        · rw [if_neg c189] at kt
          refine S187 t ?_
          refine XS.ifNo X0.here hx rfl (hb hby at_29) rfl ((if0 _ _).trans (feq (c189 : ¬ ((fl &&& (4 : Int32)) = (0 : Int32)))).1) ?_
          refine XS.iconst X0.here hx rfl (hb hby at_32) ?_
          refine XS.goto X0.here hx rfl (pc0 := 33) (pc' := 37) rfl (hb hby at_33) (by decide) (by decide) ?_
          exact kt
      obtain ⟨T190, h190, k190, X190, e190, E190, A190, B190, st190⟩ := newPE X0 hx hZ (own_w hw 0 rfl) e0 (g := (mkF m 40 #[.val (.int fl), .val (.int c0), .val (.int c1), .val (.int mp), .val (.int (1 : Int32)), .val (.int (1 : Int32)), .val (.int (if (fl &&& (4 : Int32)) = (0 : Int32) then (0 : Int32) else (1 : Int32))), .unset, .unset, .unset, .unset] [(.int (2 : Int32))])) rfl (hb hby at_40) rfl (by decide) (cap := 2) (by decide) (by decide) (by decide) (by decide) (ad := "[C") (by first | rfl | decide)
      obtain ⟨b190, g190⟩ : ∃ z, z = h0.size := ⟨_, rfl⟩
      have ge_b190 : n0 ≤ b190 := by rw [g190, ← O0.1]; exact O0.2.1
      rw [← g190] at A190 B190 st190
      have O191 := O0.ext E190
      have F190 : Arv Z h190 b190 k190 .char (2 : Int32) [(.int (0 : Int32)), (.int (0 : Int32))] (.int (0 : Int32)) := (Arv.new A190 (by decide)).pad (pad_rep [] (.int (0 : Int32)) 2)
      obtain ⟨cl192, Ar192, q192, Sz192, Nn192, Hh192, Gg192⟩ := id F190
      have in192 : ¬ ((0 : Int32) < 0 ∨ cl192.slots.size ≤ ((0 : Int32)).toNatClampNeg) := inb_of Sz192 ⟨by decide, by decide⟩
      obtain ⟨T192, h192, X192, e192, W192, st192⟩ := stC X190 hx hZ e190 Ar192 (j := (0 : Int32)) in192 (g := (mkF m 53 #[.val (.int fl), .val (.int c0), .val (.int c1), .val (.int mp), .val (.int (1 : Int32)), .val (.int (1 : Int32)), .val (.int (if (fl &&& (4 : Int32)) = (0 : Int32) then (0 : Int32) else (1 : Int32))), .val (.ref b190), .unset, .unset, .unset] [(.int (c0 &&& (255 : Int32))), (.int (0 : Int32)), (.ref b190)])) rfl rfl (hb hby at_53)
      rw [show nar .char (c0 &&& (255 : Int32)) = (c0 &&& (255 : Int32)) from i2c_mask _] at W192
      have O193 := O191.wr W192 ge_b190
      have N194 := Fr.snoc X192 N0 ge_b190
      have F192 : Arv Z h192 b190 k190 .char (2 : Int32) [(.int (c0 &&& (255 : Int32))), (.int (0 : Int32))] (.int (0 : Int32)) := Arv.set Ar192 q192 Sz192 Nn192 Hh192 Gg192 (by rw [← (i2c_mask _ : nar .char (c0 &&& (255 : Int32)) = (c0 &&& (255 : Int32)))]; exact fits_nar_char _) W192 0 rfl (Nat.le_of_ble_eq_true rfl)
      obtain ⟨cl195, Ar195, q195, Sz195, Nn195, Hh195, Gg195⟩ := id F192
      have in195 : ¬ ((1 : Int32) < 0 ∨ cl195.slots.size ≤ ((1 : Int32)).toNatClampNeg) := inb_of Sz195 ⟨by decide, by decide⟩
      obtain ⟨T195, h195, X195, e195, W195, st195⟩ := stC X192 hx hZ e192 Ar195 (j := (1 : Int32)) in195 (g := (mkF m 63 #[.val (.int fl), .val (.int c0), .val (.int c1), .val (.int mp), .val (.int (1 : Int32)), .val (.int (1 : Int32)), .val (.int (if (fl &&& (4 : Int32)) = (0 : Int32) then (0 : Int32) else (1 : Int32))), .val (.ref b190), .unset, .unset, .unset] [(.int (c1 &&& (255 : Int32))), (.int (1 : Int32)), (.ref b190)])) rfl rfl (hb hby at_63)
      rw [show nar .char (c1 &&& (255 : Int32)) = (c1 &&& (255 : Int32)) from i2c_mask _] at W195
      have O196 := O193.wr W195 ge_b190
      have N197 := Fr.snoc X195 N194 ge_b190
      have F195 : Arv Z h195 b190 k190 .char (2 : Int32) [(.int (c0 &&& (255 : Int32))), (.int (c1 &&& (255 : Int32)))] (.int (0 : Int32)) := Arv.set Ar195 q195 Sz195 Nn195 Hh195 Gg195 (by rw [← (i2c_mask _ : nar .char (c1 &&& (255 : Int32)) = (c1 &&& (255 : Int32)))]; exact fits_nar_char _) W195 1 rfl (Nat.le_of_ble_eq_true rfl)
      obtain ⟨T198, h198, X198, e198, E198, A198, D198, -, st198⟩ := newO X195 hx hZ hown (own_w hw 1 rfl) (own_w hw 2 rfl) (own_w hw 3 rfl) e195 (g := (mkF m 64 #[.val (.int fl), .val (.int c0), .val (.int c1), .val (.int mp), .val (.int (1 : Int32)), .val (.int (1 : Int32)), .val (.int (if (fl &&& (4 : Int32)) = (0 : Int32) then (0 : Int32) else (1 : Int32))), .val (.ref b190), .unset, .unset, .unset] [])) rfl (hb hby at_64) (by decide) (by decide)
      obtain ⟨b198, g198⟩ : ∃ z, z = h195.size := ⟨_, rfl⟩
      have ge_b198 : n0 ≤ b198 := by rw [g198, ← O196.1]; exact O196.2.1
      have f199 := (Exa.wr W195 (Exa.wr W192 B190))
      have ne200 : b190 ≠ b198 := Nat.ne_of_lt (Nat.lt_of_lt_of_le (Exa.lt f199) (Nat.le_of_eq g198.symm))
      rw [← g198] at A198 D198 st198
      have O201 := O196.ext E198
      have F202 : Fld Z h198 b198 "java/lang/String" "coder" "B" (.int (0 : Int32)) := D198 (Or.inr (own_w hw 27 rfl)) (ty := .byte) (by decide)
      have F203 : Fld Z h198 b198 "java/lang/String" "value" "[B" .null := D198 (Or.inr (own_w hw 29 rfl)) (ty := (.array .byte)) (by decide)
      have f205 := (Arv.ext F195 E198)
      have la206 : ∀ c ∈ ([(c0 &&& (255 : Int32)), (c1 &&& (255 : Int32))] : List Int32), ¬ c < 0 ∧ ¬ (255 : Int32) < c := by
        intro c hc
        simp only [List.mem_cons, List.not_mem_nil, or_false] at hc
        rcases hc with rfl | rfl
        · exact own_lat _
        · exact own_lat _
      obtain ⟨_, _, ⟨T204, L204, k204, n204⟩, -, X204, ⟨Lc204, hQ204, l204, y204, z204⟩, st204⟩ := X198.specialBack hx (y := (⟨"java/lang/String", "<init>", "([C)V"⟩ : MethodName)) rfl hown (mvT hZ (own_w hw 4 rfl)) (mvT hZ (own_w hw 5 rfl)) (mvT hZ (own_w hw 6 rfl)) (by decide) (StrChars.Road.backV (W := 1) hZ hws (kI := 4) (own_w hw 2 rfl) (cs := [(c0 &&& (255 : Int32)), (c1 &&& (255 : Int32))]) (bs := [(c0 &&& (255 : Int32)).toInt8.toInt32, (c1 &&& (255 : Int32)).toInt8.toInt32]) (n := 2) ge_b198 (by rw [← O201.1]; exact O201.2.1) A198 F203 F202 f205 (S_C.ext O201.2) hzc rfl rfl (by decide) (by decide) la206 rfl (by decide) (by decide)) (g := (mkF m 70 #[.val (.int fl), .val (.int c0), .val (.int c1), .val (.int mp), .val (.int (1 : Int32)), .val (.int (1 : Int32)), .val (.int (if (fl &&& (4 : Int32)) = (0 : Int32) then (0 : Int32) else (1 : Int32))), .val (.ref b190), .unset, .unset, .unset] [(.ref b190), (.ref b198), (.ref b198)])) rfl (by rw [hml]; rfl) (Steps.refl _) (a := b198) (argsL := [(.ref b190)]) (rest := [(.ref b198)]) (lenOf pd_1 rfl) rfl (by show 2 * 0 + _ ≤ _; exact Nat.le_of_eq rfl) (hb hby at_70) (fun _ _ => ⟨rfl, e198, (by decide : 2 + 1 ≤ _), (by decide : 6 + 2 ≤ _)⟩)
      dsimp only [Pt.U, Pt.locs, Pt.cells, Pt.slots] at X204 l204 y204 z204 st204 hQ204
      subst l204 y204 z204
      obtain ⟨rfl, f209, f210, f211, f212, x207, x208, f213, f214, qf214, f215, f216⟩ := hQ204
      have N217 := Fr.app N197 f209
      have ge218 : n0 ≤ x207 := by rw [← O201.1]; exact Nat.le_trans O201.2.1 f214
      have f219 := (Exa.ext E198 f199)
      have ne220 : b190 ≠ x207 := Nat.ne_of_lt (Nat.lt_of_lt_of_le (Exa.lt f219) f214)
      have ne221 : b198 ≠ x207 := Nat.ne_of_lt (Nat.lt_of_lt_of_le (Exa.lt A198) f214)
      have O222 := O201.keep f210 (allS ge_b198 all0)
      obtain ⟨T223, h223, X223, e223, E223, A223, D223, -, st223⟩ := newO X204 hx hZ hown (own_w hw 30 rfl) (own_w hw 31 rfl) (own_w hw 32 rfl) rfl (g := (mkF m 75 #[.val (.int fl), .val (.int c0), .val (.int c1), .val (.int mp), .val (.int (1 : Int32)), .val (.int (1 : Int32)), .val (.int (if (fl &&& (4 : Int32)) = (0 : Int32) then (0 : Int32) else (1 : Int32))), .val (.ref b190), .val (.ref b198), .unset, .unset] [])) rfl (hb hby at_75) (by decide) (by decide)
      obtain ⟨b223, g223⟩ : ∃ z, z = T204.heap.size := ⟨_, rfl⟩
      have ge_b223 : n0 ≤ b223 := by rw [g223, ← O222.1]; exact O222.2.1
      have f224 := (Exa.keep f219 f210)
      have ne225 : b190 ≠ b223 := Nat.ne_of_lt (Nat.lt_of_lt_of_le (Exa.lt f224) (Nat.le_of_eq g223.symm))
      have ne226 : b198 ≠ b223 := Nat.ne_of_lt (Nat.lt_of_lt_of_le (Exa.lt f211) (Nat.le_of_eq g223.symm))
      have ne227 : x207 ≠ b223 := Nat.ne_of_lt (Nat.lt_of_lt_of_le (Arv.lt f216) (Nat.le_of_eq g223.symm))
      rw [← g223] at A223 D223 st223
      have O228 := O222.ext E223
      have F229 : Fld Z h223 b223 "com/example/ogmios/ogmios/queue/QueueDeclaration" "name" "Ljava/lang/String;" .null := D223 (Or.inr (own_w hw 43 rfl)) (ty := (.object "java/lang/String")) (by decide)
      have F230 : Fld Z h223 b223 "com/example/ogmios/ogmios/queue/QueueDeclaration" "durable" "Z" (.int (0 : Int32)) := D223 (Or.inr (own_w hw 45 rfl)) (ty := .boolean) (by decide)
      have F231 : Fld Z h223 b223 "com/example/ogmios/ogmios/queue/QueueDeclaration" "exclusive" "Z" (.int (0 : Int32)) := D223 (Or.inr (own_w hw 47 rfl)) (ty := .boolean) (by decide)
      have F232 : Fld Z h223 b223 "com/example/ogmios/ogmios/queue/QueueDeclaration" "autoDelete" "Z" (.int (0 : Int32)) := D223 (Or.inr (own_w hw 49 rfl)) (ty := .boolean) (by decide)
      have F233 : Fld Z h223 b223 "com/example/ogmios/ogmios/queue/QueueDeclaration" "maxPriority" "I" (.int (0 : Int32)) := D223 (Or.inr (own_w hw 51 rfl)) (ty := .int) (by decide)
      obtain ⟨_, _, ⟨T234, L234, k234, n234⟩, -, X234, ⟨Lc234, hQ234, l234, y234, z234⟩, st234⟩ := X223.specialBack hx (y := (⟨"com/example/ogmios/ogmios/queue/QueueDeclaration", "<init>", "(Ljava/lang/String;ZZZI)V"⟩ : MethodName)) rfl hown (mvT hZ (own_w hw 33 rfl)) (mvT hZ (own_w hw 34 rfl)) (mvT hZ (own_w hw 35 rfl)) (by decide) (backOf (W := 1) (rm_qinit11 l Z a0 hw [] b223 b198 (if (fl &&& (4 : Int32)) = (0 : Int32) then (0 : Int32) else (1 : Int32)) mp h223 n0 O228 A223 ge_b223 F229 F230 F231 F232 F233) hZ (own_w hw 35 rfl) (own_w hw 32 rfl) (by decide) (by decide)) (g := (mkF m 88 #[.val (.int fl), .val (.int c0), .val (.int c1), .val (.int mp), .val (.int (1 : Int32)), .val (.int (1 : Int32)), .val (.int (if (fl &&& (4 : Int32)) = (0 : Int32) then (0 : Int32) else (1 : Int32))), .val (.ref b190), .val (.ref b198), .unset, .unset] [(.int mp), (.int (if (fl &&& (4 : Int32)) = (0 : Int32) then (0 : Int32) else (1 : Int32))), (.int (1 : Int32)), (.int (1 : Int32)), (.ref b198), (.ref b223), (.ref b223)])) rfl (by rw [hml]; rfl) (Steps.refl _) (a := b223) (argsL := [(.ref b198), (.int (1 : Int32)), (.int (1 : Int32)), (.int (if (fl &&& (4 : Int32)) = (0 : Int32) then (0 : Int32) else (1 : Int32))), (.int mp)]) (rest := [(.ref b223)]) (lenOf pd_2 rfl) rfl (by show 2 * 0 + _ ≤ _; exact Nat.le_of_eq rfl) (hb hby at_88) (fun _ _ => ⟨rfl, e223, (by decide : 4 + 0 ≤ _), (by decide : 13 + 0 ≤ _)⟩)
      dsimp only [Pt.U, Pt.locs, Pt.cells, Pt.slots] at X234 l234 y234 z234 st234 hQ234
      subst l234 y234 z234
      obtain ⟨rfl, N235, k236, f237, f238, f239⟩ := hQ234
      have N240 := Fr.app N217 N235
      have O241 := O228.keep k236 (allS ge_b223 all0)
      obtain ⟨cq242, kq242, q242a, q242b, q242c⟩ := isOf hZ rfl f237
      obtain ⟨_, _, ⟨T242, L242, k242, n242⟩, -, X242, ⟨Lc242, hQ242, l242, y242, z242⟩, st242⟩ := X234.virtualBack hx (y := (⟨"com/example/ogmios/ogmios/queue/QueueDeclaration", "kept", "()Z"⟩ : MethodName)) (z := (⟨"com/example/ogmios/ogmios/queue/QueueDeclaration", "kept", "()Z"⟩ : MethodName)) hown (mvT hZ (own_w hw 52 rfl)) (mvT hZ (own_w hw 53 rfl)) (notFace_of_selects (args := #[]) (mvT hZ (own_w hw 55 rfl))) (mvT hZ (own_w hw 55 rfl)) (mvT hZ (own_w hw 54 rfl)) (by decide) (backOf (W := 0) (rm_kept11 l Z a0 hw [] b223 T234.heap n0 O241 f238 f239) hZ (own_w hw 56 rfl) (own_w hw 32 rfl) (by decide) (by decide)) q242a q242c (g := (mkF m 120 #[.val (.int fl), .val (.int c0), .val (.int c1), .val (.int mp), .val (.int (1 : Int32)), .val (.int (1 : Int32)), .val (.int (if (fl &&& (4 : Int32)) = (0 : Int32) then (0 : Int32) else (1 : Int32))), .val (.ref b190), .val (.ref b198), .val (.ref b223), .val (.int (0 : Int32))] [(.ref b223)])) rfl (by rw [hml]; rfl) (Steps.refl _) (argsL := []) (rest := []) (lenOf pd_3 rfl) rfl (by show 2 * 0 + _ ≤ _; exact Nat.le_of_eq rfl) (hb hby at_120) (fun _ _ => ⟨rfl, rfl, (by decide : 4 + 0 ≤ _), (by decide : 13 + 0 ≤ _)⟩)
      dsimp only [Pt.U, Pt.locs, Pt.cells, Pt.slots] at X242 l242 y242 z242 st242 hQ242
      subst l242 y242 z242
      obtain ⟨rfl, N243, k244⟩ := hQ242
      have N245 := Fr.app N240 N243
      have S246 : ∀ t, Steps p.tables e below (T242.setTop (mkF m 133 #[.val (.int fl), .val (.int c0), .val (.int c1), .val (.int mp), .val (.int (1 : Int32)), .val (.int (1 : Int32)), .val (.int (if (fl &&& (4 : Int32)) = (0 : Int32) then (0 : Int32) else (1 : Int32))), .val (.ref b190), .val (.ref b198), .val (.ref b223), .val (.int (0 : Int32))] [(.int (1 : Int32))])) t → Steps p.tables e below (s₁.setTop (mkF m 0 #[.val (.int fl), .val (.int c0), .val (.int c1), .val (.int mp), .unset, .unset, .unset, .unset, .unset, .unset, .unset] [])) t := by
        intro t kt
        refine S188 t ?_
        refine XS.istore X0.here hx rfl (hb hby at_37) rfl (l' := #[.val (.int fl), .val (.int c0), .val (.int c1), .val (.int mp), .val (.int (1 : Int32)), .val (.int (1 : Int32)), .val (.int (if (fl &&& (4 : Int32)) = (0 : Int32) then (0 : Int32) else (1 : Int32))), .unset, .unset, .unset, .unset]) rfl ?_
        refine XS.iconst X0.here hx rfl (hb hby at_39) ?_
        show Steps p.tables e below (s₁.setTop (mkF m 40 #[.val (.int fl), .val (.int c0), .val (.int c1), .val (.int mp), .val (.int (1 : Int32)), .val (.int (1 : Int32)), .val (.int (if (fl &&& (4 : Int32)) = (0 : Int32) then (0 : Int32) else (1 : Int32))), .unset, .unset, .unset, .unset] [(.int (2 : Int32))])) _
        refine st190 _ ?_
        refine XS.astore X190.here hx rfl (hb hby at_42) rfl rfl (l' := #[.val (.int fl), .val (.int c0), .val (.int c1), .val (.int mp), .val (.int (1 : Int32)), .val (.int (1 : Int32)), .val (.int (if (fl &&& (4 : Int32)) = (0 : Int32) then (0 : Int32) else (1 : Int32))), .val (.ref b190), .unset, .unset, .unset]) rfl ?_
        refine XS.aload X190.here hx rfl (hb hby at_44) rfl rfl ?_
        refine XS.iconst X190.here hx rfl (hb hby at_46) ?_
        refine XS.iloadN X190.here hx rfl (hb hby at_47) rfl ?_
        refine XS.sipush X190.here hx rfl (hb hby at_48) ?_
        show Steps p.tables e below (T190.setTop (mkF m 51 #[.val (.int fl), .val (.int c0), .val (.int c1), .val (.int mp), .val (.int (1 : Int32)), .val (.int (1 : Int32)), .val (.int (if (fl &&& (4 : Int32)) = (0 : Int32) then (0 : Int32) else (1 : Int32))), .val (.ref b190), .unset, .unset, .unset] [(.int (255 : Int32)), (.int c0), (.int (0 : Int32)), (.ref b190)])) _
        refine XS.iand X190.here hx rfl (hb hby at_51) rfl ?_
        refine XS.i2c X190.here hx rfl (hb hby at_52) rfl ?_
        rw [i2c_mask]
        show Steps p.tables e below (T190.setTop (mkF m 53 #[.val (.int fl), .val (.int c0), .val (.int c1), .val (.int mp), .val (.int (1 : Int32)), .val (.int (1 : Int32)), .val (.int (if (fl &&& (4 : Int32)) = (0 : Int32) then (0 : Int32) else (1 : Int32))), .val (.ref b190), .unset, .unset, .unset] [(.int (c0 &&& (255 : Int32))), (.int (0 : Int32)), (.ref b190)])) _
        refine st192 _ ?_
        refine XS.aload X192.here hx rfl (hb hby at_54) rfl rfl ?_
        refine XS.iconst X192.here hx rfl (hb hby at_56) ?_
        refine XS.iloadN X192.here hx rfl (hb hby at_57) rfl ?_
        refine XS.sipush X192.here hx rfl (hb hby at_58) ?_
        refine XS.iand X192.here hx rfl (hb hby at_61) rfl ?_
        show Steps p.tables e below (T192.setTop (mkF m 62 #[.val (.int fl), .val (.int c0), .val (.int c1), .val (.int mp), .val (.int (1 : Int32)), .val (.int (1 : Int32)), .val (.int (if (fl &&& (4 : Int32)) = (0 : Int32) then (0 : Int32) else (1 : Int32))), .val (.ref b190), .unset, .unset, .unset] [(.int (c1 &&& (255 : Int32))), (.int (1 : Int32)), (.ref b190)])) _
        refine XS.i2c X192.here hx rfl (hb hby at_62) rfl ?_
        rw [i2c_mask]
        show Steps p.tables e below (T192.setTop (mkF m 63 #[.val (.int fl), .val (.int c0), .val (.int c1), .val (.int mp), .val (.int (1 : Int32)), .val (.int (1 : Int32)), .val (.int (if (fl &&& (4 : Int32)) = (0 : Int32) then (0 : Int32) else (1 : Int32))), .val (.ref b190), .unset, .unset, .unset] [(.int (c1 &&& (255 : Int32))), (.int (1 : Int32)), (.ref b190)])) _
        refine st195 _ ?_
        show Steps p.tables e below (T195.setTop (mkF m 64 #[.val (.int fl), .val (.int c0), .val (.int c1), .val (.int mp), .val (.int (1 : Int32)), .val (.int (1 : Int32)), .val (.int (if (fl &&& (4 : Int32)) = (0 : Int32) then (0 : Int32) else (1 : Int32))), .val (.ref b190), .unset, .unset, .unset] [])) _
        refine st198 _ ?_
        refine XS.dup X198.here hx rfl (hb hby at_67) rfl rfl ?_
        refine XS.aload X198.here hx rfl (hb hby at_68) rfl rfl ?_
        show Steps p.tables e below (T198.setTop (mkF m 70 #[.val (.int fl), .val (.int c0), .val (.int c1), .val (.int mp), .val (.int (1 : Int32)), .val (.int (1 : Int32)), .val (.int (if (fl &&& (4 : Int32)) = (0 : Int32) then (0 : Int32) else (1 : Int32))), .val (.ref b190), .unset, .unset, .unset] [(.ref b190), (.ref b198), (.ref b198)])) _
        refine st204.trans ?_
        refine XS.astore X204.here hx rfl (hb hby at_73) rfl rfl (l' := #[.val (.int fl), .val (.int c0), .val (.int c1), .val (.int mp), .val (.int (1 : Int32)), .val (.int (1 : Int32)), .val (.int (if (fl &&& (4 : Int32)) = (0 : Int32) then (0 : Int32) else (1 : Int32))), .val (.ref b190), .val (.ref b198), .unset, .unset]) rfl ?_
        show Steps p.tables e below (T204.setTop (mkF m 75 #[.val (.int fl), .val (.int c0), .val (.int c1), .val (.int mp), .val (.int (1 : Int32)), .val (.int (1 : Int32)), .val (.int (if (fl &&& (4 : Int32)) = (0 : Int32) then (0 : Int32) else (1 : Int32))), .val (.ref b190), .val (.ref b198), .unset, .unset] [])) _
        refine st223 _ ?_
        refine XS.dup X223.here hx rfl (hb hby at_78) rfl rfl ?_
        refine XS.aload X223.here hx rfl (hb hby at_79) rfl rfl ?_
        refine XS.iload X223.here hx rfl (hb hby at_81) rfl ?_
        refine XS.iload X223.here hx rfl (hb hby at_83) rfl ?_
        refine XS.iload X223.here hx rfl (hb hby at_85) rfl ?_
        show Steps p.tables e below (T223.setTop (mkF m 87 #[.val (.int fl), .val (.int c0), .val (.int c1), .val (.int mp), .val (.int (1 : Int32)), .val (.int (1 : Int32)), .val (.int (if (fl &&& (4 : Int32)) = (0 : Int32) then (0 : Int32) else (1 : Int32))), .val (.ref b190), .val (.ref b198), .unset, .unset] [(.int (if (fl &&& (4 : Int32)) = (0 : Int32) then (0 : Int32) else (1 : Int32))), (.int (1 : Int32)), (.int (1 : Int32)), (.ref b198), (.ref b223), (.ref b223)])) _
        refine XS.iloadN X223.here hx rfl (hb hby at_87) rfl ?_
        show Steps p.tables e below (T223.setTop (mkF m 88 #[.val (.int fl), .val (.int c0), .val (.int c1), .val (.int mp), .val (.int (1 : Int32)), .val (.int (1 : Int32)), .val (.int (if (fl &&& (4 : Int32)) = (0 : Int32) then (0 : Int32) else (1 : Int32))), .val (.ref b190), .val (.ref b198), .unset, .unset] [(.int mp), (.int (if (fl &&& (4 : Int32)) = (0 : Int32) then (0 : Int32) else (1 : Int32))), (.int (1 : Int32)), (.int (1 : Int32)), (.ref b198), (.ref b223), (.ref b223)])) _
        refine st234.trans ?_
        refine XS.astore X234.here hx rfl (hb hby at_91) rfl rfl (l' := #[.val (.int fl), .val (.int c0), .val (.int c1), .val (.int mp), .val (.int (1 : Int32)), .val (.int (1 : Int32)), .val (.int (if (fl &&& (4 : Int32)) = (0 : Int32) then (0 : Int32) else (1 : Int32))), .val (.ref b190), .val (.ref b198), .val (.ref b223), .unset]) rfl ?_
        refine XS.iload X234.here hx rfl (hb hby at_93) rfl ?_
        refine XS.ifNo X234.here hx rfl (hb hby at_95) rfl ((if0 _ _).trans (feq ((by decide) : ¬ ((1 : Int32) = (0 : Int32)))).1) ?_
        refine XS.iconst X234.here hx rfl (hb hby at_98) ?_
        refine XS.istore X234.here hx rfl (hb hby at_99) rfl (l' := #[.val (.int fl), .val (.int c0), .val (.int c1), .val (.int mp), .val (.int (1 : Int32)), .val (.int (1 : Int32)), .val (.int (if (fl &&& (4 : Int32)) = (0 : Int32) then (0 : Int32) else (1 : Int32))), .val (.ref b190), .val (.ref b198), .val (.ref b223), .val (.int (0 : Int32))]) rfl ?_
        show Steps p.tables e below (T234.setTop (mkF m 101 #[.val (.int fl), .val (.int c0), .val (.int c1), .val (.int mp), .val (.int (1 : Int32)), .val (.int (1 : Int32)), .val (.int (if (fl &&& (4 : Int32)) = (0 : Int32) then (0 : Int32) else (1 : Int32))), .val (.ref b190), .val (.ref b198), .val (.ref b223), .val (.int (0 : Int32))] [])) _
        refine XS.goto X234.here hx rfl (pc0 := 101) (pc' := 118) rfl (hb hby at_101) (by decide) (by decide) ?_
        refine XS.aload X234.here hx rfl (hb hby at_118) rfl rfl ?_
        show Steps p.tables e below (T234.setTop (mkF m 120 #[.val (.int fl), .val (.int c0), .val (.int c1), .val (.int mp), .val (.int (1 : Int32)), .val (.int (1 : Int32)), .val (.int (if (fl &&& (4 : Int32)) = (0 : Int32) then (0 : Int32) else (1 : Int32))), .val (.ref b190), .val (.ref b198), .val (.ref b223), .val (.int (0 : Int32))] [(.ref b223)])) _
        refine st242.trans ?_
        refine XS.iload X242.here hx rfl (hb hby at_123) rfl ?_
        refine XS.icmpNo X242.here hx rfl (hb hby at_125) rfl (teq ((by decide) : (0 : Int32) = (0 : Int32))).2 ?_
        refine XS.iconst X242.here hx rfl (hb hby at_128) ?_
        refine XS.goto X242.here hx rfl (pc0 := 129) (pc' := 133) rfl (hb hby at_129) (by decide) (by decide) ?_
        exact kt
      obtain ⟨fs, hr, hrun, hended, hW, hsame⟩ := X242.leave (v := some (.int (1 : Int32))) (fun h => by rw [Bd.returns] at h; cases h)
      refine ⟨_, _, pre0 _ (S246 _ ?_), hrun, hended, _, _, rfl, ?_, ⟨_, rfl⟩, hW, hsame.mono (by decide) (by decide)⟩
      · exact retN X242 hx (t := .boolean) Bd.returns (by simp) (hb hby at_133) hr
      · show Q_rm_law Z fl c0 c1 mp zc h0 n0 _ T242.heap _
        rw [k244]
        exact ⟨rfl, N245⟩
set_option maxRecDepth 65536 in
set_option maxHeartbeats 40000000 in
theorem comes_1 {Post : Tables → Env → Array Value → State → Outcome → State → Prop} (hpost : ∀ tb e args s v u, (limb_1_1.after args s (.returned v) u = true ∧ limb_1_2.after args s (.returned v) u = true ∧ True) → FrameEnd s (.returned v) u (Jvm.fieldLocs frame_1_writes args s ++ Jvm.arrayLocs frame_1_arrays args s ++ Jvm.staticLocs frame_1_statics s) 16 128 → Post tb e args s (.returned v) u) :
    ArmFor flags0 classFile x code maxLocals ret World_1 tables_1 room_1 Calls_1 rest_1 Pre_1 Post := by
  intro l hfl _ _ p e ha hc hk s m args below hf hA hF happ hP
  obtain ⟨hcalls, hrest, hpre⟩ := hP
  obtain ⟨-, -, -, hnamed, -, -, -, hat⟩ := (Spec.applies_iff hf).mp happ
  obtain ⟨hg, hn⟩ := and_e (Cond.before_iff.mp (show (Jvm.Cond.and given_1 narrow_1).before args s = true from hpre))
  obtain ⟨g0, r0⟩ := and_e hg
  obtain ⟨g1, r1⟩ := and_e r0
  obtain ⟨g2, r2⟩ := and_e r1
  obtain ⟨g3, r3⟩ := and_e r2
  obtain ⟨w0, w1, w2, w3, rfl⟩ : ∃ w0 w1 w2 w3 : Value, args = #[w0, w1, w2, w3] := by
    have hs : args.size = 4 := by simpa [Cond.value, given_1] using g0
    obtain ⟨L⟩ := args
    match L, hs with
    | [w0, w1, w2, w3], _ => exact ⟨w0, w1, w2, w3, rfl⟩
  have hw := fun d (hd : d ∈ tables_1) => atoms_spec (ws := Jvm.Cond.code x code maxLocals ret :: tables_1) hat d (List.mem_cons_of_mem _ hd)
  have hfit : Fit s := fun {y c} hc i hi => by
    obtain ⟨ha, rfl⟩ := Array.getElem?_eq_some_iff.mp hc
    have q := List.all_eq_true.mp ((Array.all_eq_true_iff_forall_mem.mp hF) _ (Array.getElem_mem ha)) i (List.mem_range.mpr hi)
    simpa [Array.getElem?_eq_getElem hi] using q
  obtain ⟨i0, e0⟩ := is_v g1
  obtain rfl : w0 = (.int i0) := Option.some.inj e0
  obtain ⟨i1, e1⟩ := is_v g2
  obtain rfl : w1 = (.int i1) := Option.some.inj e1
  obtain ⟨i2, e2⟩ := is_v g3
  obtain rfl : w2 = (.int i2) := Option.some.inj e2
  obtain ⟨i3, e3⟩ := is_v r3
  obtain rfl : w3 = (.int i3) := Option.some.inj e3
  obtain ⟨hsets, hown0⟩ := atoms_of _ (rest_1_c_eq ▸ (show rest_1_c.before _ s = true from hrest))
  obtain ⟨zc, ezc⟩ := is_v (Cond.before_iff.mp (hsets _ (List.mem_of_getElem? (i := 1) rfl)))
  have S_C : Sta s s.heap "java/lang/String" "COMPACT_STRINGS" "Z" (.int zc) := Sta.start ezc (Or.inl (hsets _ (List.mem_of_getElem? (i := 0) rfl)))
  have n3 := not_v (Cond.before_iff.mp (hsets _ (List.mem_of_getElem? (i := 2) rfl)))
  have hzc : ¬ (zc = (0 : Int32)) := gotF (Cond.eq_ints ezc (Term.int_eval (0))) n3
  obtain ⟨n, o, h1, h2, h3, _, L, rfl, ⟨rfl, N⟩, hq⟩ := rm_law l s _ hw tables_1 i0 i1 i2 i3 zc s.heap s.heap.size (Old.start s) S_C hzc p e ha hc hk s m _ below hf ((Spec.applies_iff_loose hf).mp happ).1 ⟨rfl, State.Warmed39.refl s, rfl⟩ trivial
  refine ⟨n, _, h1, h2, h3, hpost _ _ _ _ _ _ ⟨Cond.after_iff.mpr rfl, Cond.after_iff.mpr (eq_i res_at (Term.int_eval (1)) rfl), trivial⟩ ⟨hq.1, hq.2.1, (hq.2.2.sift fun y hy => Or.inr (N y hy)).mono (by decide) (by decide)⟩⟩
theorem main_1_1 : Claimed_1_1 := comes_1 fun _ _ _ _ _ _ h hF => ⟨h.1, hF⟩
theorem main_1_2 : Claimed_1_2 := comes_1 fun _ _ _ _ _ _ h hF => ⟨h.2.1, hF⟩
end Jvm.Pilot.@@N@@
namespace Jvm.Pilot.@@N@@
open Jvm Jvm.ClassFile Sem Op Lib Jvm.Free Jvm.Stand Jvm.Pilot.@@N@@.Jvm.D
/-! MADE BY PROGRAM (witnessworld.py) out of the Statement's table words and the real class files: 21 classes; the members and pool entries that the words name. The judged class is class 1, her method 1. -/
namespace start1
open Jvm.ClassFile
def u (s : String) : CpInfo := .utf8 (stringToUtf16 s)
/-- a pool by its gaps: so many unusable entries, then the entry; so many at the end -/
def gap : Nat → List CpInfo → List CpInfo
  | 0, r => r
  | n + 1, r => .unusable :: gap n r
def poolList (es : List (Nat × CpInfo)) (last : Nat) : List CpInfo := es.foldr (fun e r => gap e.1 (e.2 :: r)) (gap last [])
def pool (es : List (Nat × CpInfo)) (last : Nat) : Array CpInfo := ⟨poolList es last⟩
def fileOf (pool : Array CpInfo) (this : Nat) (attrs : Array Attribute := #[]) (ms : Array MethodInfo := #[]) (fl : Nat := 33) (sup : Nat := 0) (ifs : Array Nat := #[]) (fds : Array FieldInfo := #[]) : ClassFile where
  minorVersion := 0
  majorVersion := 65
  constantPool := pool
  accessFlags := fl
  thisClass := this
  superClass := sup
  interfaces := ifs
  fields := fds
  methods := ms
  attributes := attrs
def plain (name : String) (sup : Option ClassId) : Class where
  name := name
  kind := .ordinary
  loader := none
  accessFlags := 33
  super := sup
  interfaces := #[]
  cf := none
  fields := #[]
  methods := #[]
  instanceTypes := #[]
  staticTypes := #[]
  resolved := #[]
  callSites := []
  init := .initialized
  statics := none
  mirror := none

def pool0 : Array CpInfo := pool [(5, u "<init>"), (0, u "()V"), (1, .class_ 10), (1, u "java/lang/Object")] 113

def k0c0 : Code := { maxStack := 0, maxLocals := 1, code := object_method_1_code, exceptionTable := #[], attributes := #[] }
def k0m0 : Method := { name := "<init>", desc := "()V", sig := { parameters := [], returnType := none }, accessFlags := 1, code := some k0c0 }
/-- java/lang/Object -/
def k0 : Class := { plain "java/lang/Object" none with
  accessFlags := 33
  interfaces := #[]
  cf := some (fileOf pool0 8 #[] #[{ accessFlags := 1, nameIndex := 5, descriptorIndex := 6, attributes := #[] }] 33 0 #[] #[])
  fields := #[]
  methods := #[k0m0]
  instanceTypes := #[]
  staticTypes := #[]
  resolved := Array.replicate 124 none
  statics := none }

def pool1 : Array CpInfo := pool [(2, .class_ 4), (1, u "java/lang/Object"), (0, u "<init>"), (0, u "()V"), (0, .class_ 8), (0, u "java/lang/String"), (0, .methodref 7 10), (0, .nameAndType 5 11), (0, u "([C)V"), (0, .class_ 13), (0, u "com/example/ogmios/ogmios/queue/QueueDeclaration"), (0, .methodref 12 15), (0, .nameAndType 5 16), (0, u "(Ljava/lang/String;ZZZI)V"), (0, .methodref 12 18), (0, .nameAndType 19 20), (0, u "kept"), (0, u "()Z"), (0, .class_ 22), (0, u "com/example/ogmios/ogmios/queue/QueueDeclarationKeptPinLaw"), (2, u "law"), (0, u "(IIII)Z")] 5

def k1m0 : Method := { name := "<init>", desc := "()V", sig := { parameters := [], returnType := none }, accessFlags := 1, code := none }
def k1c1 : Code := { maxStack := 7, maxLocals := 11, code := code, exceptionTable := #[], attributes := #[] }
def k1m1 : Method := { name := "law", desc := "(IIII)Z", sig := { parameters := [.int, .int, .int, .int], returnType := some .boolean }, accessFlags := 9, code := some k1c1 }
/-- com/example/ogmios/ogmios/queue/QueueDeclarationKeptPinLaw -/
def k1 : Class := { plain "com/example/ogmios/ogmios/queue/QueueDeclarationKeptPinLaw" (some 0) with
  accessFlags := 49
  interfaces := #[]
  cf := some (fileOf pool1 21 #[] #[{ accessFlags := 1, nameIndex := 5, descriptorIndex := 6, attributes := #[] }, { accessFlags := 9, nameIndex := 25, descriptorIndex := 26, attributes := #[] }] 49 2 #[] #[])
  fields := #[]
  methods := #[k1m0, k1m1]
  instanceTypes := #[]
  staticTypes := #[]
  resolved := Array.replicate 32 none
  statics := none }

def pool2 : Array CpInfo := pool [(1, .class_ 2), (0, u "java/io/Serializable"), (0, .class_ 4), (0, u "java/lang/Object")] 2

/-- java/io/Serializable -/
def k2 : Class := { plain "java/io/Serializable" (some 0) with
  accessFlags := 1537
  interfaces := #[]
  cf := some (fileOf pool2 1 #[] #[] 1537 3 #[] #[])
  fields := #[]
  methods := #[]
  instanceTypes := #[]
  staticTypes := #[]
  resolved := Array.replicate 7 none
  statics := none }

def pool3 : Array CpInfo := pool [(1, .class_ 2), (0, u "java/lang/Comparable"), (0, .class_ 4), (0, u "java/lang/Object")] 7

/-- java/lang/Comparable -/
def k3 : Class := { plain "java/lang/Comparable" (some 0) with
  accessFlags := 1537
  interfaces := #[]
  cf := some (fileOf pool3 1 #[] #[] 1537 3 #[] #[])
  fields := #[]
  methods := #[]
  instanceTypes := #[]
  staticTypes := #[]
  resolved := Array.replicate 12 none
  statics := none }

def pool4 : Array CpInfo := pool [(2, .class_ 4), (1, u "java/lang/CharSequence"), (42, .class_ 48), (0, u "java/lang/CharSequence$1CodePointIterator"), (10, .class_ 60), (0, u "java/lang/CharSequence$1CharIterator"), (5, .class_ 67), (0, u "java/lang/Object")] 63

/-- java/lang/CharSequence -/
def k4 : Class := { plain "java/lang/CharSequence" (some 0) with
  accessFlags := 1537
  interfaces := #[]
  cf := some (fileOf pool4 2 #[.nestMembers #[47, 59]] #[] 1537 66 #[] #[])
  fields := #[]
  methods := #[]
  instanceTypes := #[]
  staticTypes := #[]
  resolved := Array.replicate 131 none
  statics := none }

def pool5 : Array CpInfo := pool [(1, .class_ 2), (0, u "java/lang/constant/Constable"), (0, .class_ 4), (0, u "java/lang/Object")] 6

/-- java/lang/constant/Constable -/
def k5 : Class := { plain "java/lang/constant/Constable" (some 0) with
  accessFlags := 1537
  interfaces := #[]
  cf := some (fileOf pool5 1 #[] #[] 1537 3 #[] #[])
  fields := #[]
  methods := #[]
  instanceTypes := #[]
  staticTypes := #[]
  resolved := Array.replicate 11 none
  statics := none }

def pool6 : Array CpInfo := pool [(1, .class_ 2), (0, u "java/lang/constant/ConstantDesc"), (0, .class_ 4), (0, u "java/lang/Object")] 32

/-- java/lang/constant/ConstantDesc -/
def k6 : Class := { plain "java/lang/constant/ConstantDesc" (some 0) with
  accessFlags := 1537
  interfaces := #[]
  cf := some (fileOf pool6 1 #[] #[] 1537 3 #[] #[])
  fields := #[]
  methods := #[]
  instanceTypes := #[]
  staticTypes := #[]
  resolved := Array.replicate 37 none
  statics := none }

def pool7 : Array CpInfo := pool [(1, .methodref 2 3), (0, .class_ 4), (0, .nameAndType 5 6), (0, u "java/lang/Object"), (0, u "<init>"), (0, u "()V"), (2, .fieldref 10 11), (0, .class_ 12), (0, .nameAndType 13 14), (0, u "java/lang/String"), (0, u "value"), (0, u "[B"), (0, .fieldref 10 16), (0, .nameAndType 17 18), (0, u "coder"), (0, u "B"), (2, u "hash"), (0, u "I"), (2, u "hashIsZero"), (0, u "Z"), (0, .methodref 10 28), (0, .nameAndType 5 29), (0, u "([CIILjava/lang/Void;)V"), (8, .fieldref 10 39), (0, .nameAndType 40 26), (0, u "COMPACT_STRINGS"), (1, .class_ 44), (1, u "java/lang/StringUTF16"), (0, u "compress"), (1, .methodref 42 48), (0, .nameAndType 49 50), (0, u "coderFromArrayLen"), (0, u "([BI)B"), (126, .methodref 42 178), (0, .nameAndType 45 179), (0, u "([CII)[B"), (395, .class_ 576), (0, u "java/lang/CharSequence"), (22, u "CASE_INSENSITIVE_ORDER"), (0, u "Ljava/util/Comparator;"), (409, u "([C)V"), (90, u "serialPersistentFields"), (0, u "[Ljava/io/ObjectStreamField;"), (0, .class_ 1104), (0, u "java/lang/String$CaseInsensitiveComparator"), (1, .class_ 1107), (0, u "java/io/Serializable"), (0, .class_ 1109), (0, u "java/lang/Comparable"), (0, .class_ 1111), (0, u "java/lang/constant/Constable"), (0, .class_ 1113), (0, u "java/lang/constant/ConstantDesc"), (2, u "serialVersionUID"), (0, u "J"), (3, u "REPL"), (0, u "C"), (2, u "LATIN1"), (1, u "UTF16")] 323

def k7m0 : Method := { name := "<init>", desc := "()V", sig := { parameters := [], returnType := none }, accessFlags := 1, code := none }
def k7c1 : Code := { maxStack := 5, maxLocals := 2, code := jdk_42_method_3_code, exceptionTable := #[], attributes := #[] }
def k7m1 : Method := { name := "<init>", desc := "([C)V", sig := { parameters := [(.array .char)], returnType := none }, accessFlags := 1, code := some k7c1 }
def k7c2 : Code := { maxStack := 4, maxLocals := 6, code := jdk_42_method_149_code, exceptionTable := #[], attributes := #[] }
def k7m2 : Method := { name := "<init>", desc := "([CIILjava/lang/Void;)V", sig := { parameters := [(.array .char), .int, .int, (.object "java/lang/Void")], returnType := none }, accessFlags := 2, code := some k7c2 }
/-- java/lang/String -/
def k7 : Class := { plain "java/lang/String" (some 0) with
  accessFlags := 49
  interfaces := #[2, 3, 4, 5, 6]
  cf := some (fileOf pool7 10 #[.nestMembers #[1103]] #[{ accessFlags := 1, nameIndex := 5, descriptorIndex := 6, attributes := #[] }, { accessFlags := 1, nameIndex := 5, descriptorIndex := 1010, attributes := #[] }, { accessFlags := 2, nameIndex := 5, descriptorIndex := 29, attributes := #[] }] 49 2 #[1106, 1108, 575, 1110, 1112] #[{ accessFlags := 18, nameIndex := 13, descriptorIndex := 14, attributes := #[] }, { accessFlags := 18, nameIndex := 17, descriptorIndex := 18, attributes := #[] }, { accessFlags := 2, nameIndex := 21, descriptorIndex := 22, attributes := #[] }, { accessFlags := 2, nameIndex := 25, descriptorIndex := 26, attributes := #[] }, { accessFlags := 26, nameIndex := 1116, descriptorIndex := 1117, attributes := #[] }, { accessFlags := 24, nameIndex := 40, descriptorIndex := 26, attributes := #[] }, { accessFlags := 26, nameIndex := 1101, descriptorIndex := 1102, attributes := #[] }, { accessFlags := 26, nameIndex := 1121, descriptorIndex := 1122, attributes := #[] }, { accessFlags := 25, nameIndex := 599, descriptorIndex := 600, attributes := #[] }, { accessFlags := 24, nameIndex := 1125, descriptorIndex := 18, attributes := #[] }, { accessFlags := 24, nameIndex := 1127, descriptorIndex := 18, attributes := #[] }])
  fields := #[{ name := "value", type := (.array .byte), accessFlags := 18, slot := 0, constantValue := 0 }, { name := "coder", type := .byte, accessFlags := 18, slot := 1, constantValue := 0 }, { name := "hash", type := .int, accessFlags := 2, slot := 2, constantValue := 0 }, { name := "hashIsZero", type := .boolean, accessFlags := 2, slot := 3, constantValue := 0 }, { name := "serialVersionUID", type := .long, accessFlags := 26, slot := 0, constantValue := 0 }, { name := "COMPACT_STRINGS", type := .boolean, accessFlags := 24, slot := 1, constantValue := 0 }, { name := "serialPersistentFields", type := (.array (.object "java/io/ObjectStreamField")), accessFlags := 26, slot := 2, constantValue := 0 }, { name := "REPL", type := .char, accessFlags := 26, slot := 3, constantValue := 0 }, { name := "CASE_INSENSITIVE_ORDER", type := (.object "java/util/Comparator"), accessFlags := 25, slot := 4, constantValue := 0 }, { name := "LATIN1", type := .byte, accessFlags := 24, slot := 5, constantValue := 0 }, { name := "UTF16", type := .byte, accessFlags := 24, slot := 6, constantValue := 0 }]
  methods := #[k7m0, k7m1, k7m2]
  instanceTypes := #[(.array .byte), .byte, .int, .boolean]
  staticTypes := #[.long, .boolean, (.array (.object "java/io/ObjectStreamField")), .char, (.object "java/util/Comparator"), .byte, .byte]
  resolved := Array.replicate 1451 none
  statics := some 0 }

def pool8 : Array CpInfo := pool [(6, .class_ 8), (1, u "java/lang/Object"), (0, u "<init>"), (0, u "()V"), (1, .class_ 14), (1, u "java/lang/StringUTF16"), (31, u "$assertionsDisabled"), (0, u "Z"), (13, u "HI_BYTE_SHIFT"), (0, u "I"), (2, u "LO_BYTE_SHIFT"), (49, .methodref 12 116), (0, .nameAndType 117 118), (0, u "compress"), (0, u "([CI[BII)I"), (3, u "([CII)[B"), (138, u "coderFromArrayLen"), (0, u "([BI)B"), (106, .class_ 371), (1, u "java/lang/StringUTF16$LinesSpliterator"), (58, u "MAX_LENGTH"), (196, .class_ 628), (0, u "java/lang/StringUTF16$CodePointsSpliterator"), (0, .class_ 630), (0, u "java/lang/StringUTF16$CharsSpliterator")] 4

def k8m0 : Method := { name := "<init>", desc := "()V", sig := { parameters := [], returnType := none }, accessFlags := 0, code := none }
def k8c1 : Code := { maxStack := 2, maxLocals := 2, code := jdk_52_method_15_code, exceptionTable := #[], attributes := #[] }
def k8m1 : Method := { name := "coderFromArrayLen", desc := "([BI)B", sig := { parameters := [(.array .byte), .int], returnType := some .byte }, accessFlags := 8, code := some k8c1 }
def k8c2 : Code := { maxStack := 5, maxLocals := 6, code := jdk_52_method_16_code, exceptionTable := #[], attributes := #[] }
def k8m2 : Method := { name := "compress", desc := "([CII)[B", sig := { parameters := [(.array .char), .int, .int], returnType := some (.array .byte) }, accessFlags := 9, code := some k8c2 }
def k8c3 : Code := { maxStack := 3, maxLocals := 7, code := jdk_52_method_21_code, exceptionTable := #[], attributes := #[] }
def k8m3 : Method := { name := "compress", desc := "([CI[BII)I", sig := { parameters := [(.array .char), .int, (.array .byte), .int, .int], returnType := some .int }, accessFlags := 9, code := some k8c3 }
/-- java/lang/StringUTF16 -/
def k8 : Class := { plain "java/lang/StringUTF16" (some 0) with
  accessFlags := 48
  interfaces := #[]
  cf := some (fileOf pool8 12 #[.nestMembers #[627, 629, 369]] #[{ accessFlags := 0, nameIndex := 9, descriptorIndex := 10, attributes := #[] }, { accessFlags := 8, nameIndex := 261, descriptorIndex := 262, attributes := #[] }, { accessFlags := 9, nameIndex := 117, descriptorIndex := 122, attributes := #[] }, { accessFlags := 9, nameIndex := 117, descriptorIndex := 118, attributes := #[] }] 48 6 #[] #[{ accessFlags := 26, nameIndex := 61, descriptorIndex := 62, attributes := #[] }, { accessFlags := 26, nameIndex := 65, descriptorIndex := 62, attributes := #[] }, { accessFlags := 24, nameIndex := 430, descriptorIndex := 62, attributes := #[] }, { accessFlags := 4120, nameIndex := 46, descriptorIndex := 47, attributes := #[] }])
  fields := #[{ name := "HI_BYTE_SHIFT", type := .int, accessFlags := 26, slot := 0, constantValue := 0 }, { name := "LO_BYTE_SHIFT", type := .int, accessFlags := 26, slot := 1, constantValue := 0 }, { name := "MAX_LENGTH", type := .int, accessFlags := 24, slot := 2, constantValue := 0 }, { name := "$assertionsDisabled", type := .boolean, accessFlags := 4120, slot := 3, constantValue := 0 }]
  methods := #[k8m0, k8m1, k8m2, k8m3]
  instanceTypes := #[]
  staticTypes := #[.int, .int, .int, .boolean]
  resolved := Array.replicate 635 none
  statics := none }

def pool9 : Array CpInfo := pool [(1, .methodref 2 3), (0, .class_ 4), (0, .nameAndType 5 6), (0, u "java/lang/Object"), (0, u "<init>"), (0, u "()V"), (0, .class_ 8), (0, u "java/lang/Record")] 13

def k9c0 : Code := { maxStack := 1, maxLocals := 1, code := jdk_30_method_1_code, exceptionTable := #[], attributes := #[] }
def k9m0 : Method := { name := "<init>", desc := "()V", sig := { parameters := [], returnType := none }, accessFlags := 4, code := some k9c0 }
/-- java/lang/Record -/
def k9 : Class := { plain "java/lang/Record" (some 0) with
  accessFlags := 1057
  interfaces := #[]
  cf := some (fileOf pool9 7 #[] #[{ accessFlags := 4, nameIndex := 5, descriptorIndex := 6, attributes := #[] }] 1057 2 #[] #[])
  fields := #[]
  methods := #[k9m0]
  instanceTypes := #[]
  staticTypes := #[]
  resolved := Array.replicate 22 none
  statics := none }

def pool10 : Array CpInfo := pool [(1, .methodref 2 3), (0, .class_ 4), (0, .nameAndType 5 6), (0, u "java/lang/Record"), (0, u "<init>"), (0, u "()V"), (0, .fieldref 8 9), (0, .class_ 10), (0, .nameAndType 11 12), (0, u "com/example/ogmios/ogmios/queue/QueueDeclaration"), (0, u "name"), (0, u "Ljava/lang/String;"), (0, .fieldref 8 14), (0, .nameAndType 15 16), (0, u "durable"), (0, u "Z"), (0, .fieldref 8 18), (0, .nameAndType 19 16), (0, u "exclusive"), (0, .fieldref 8 21), (0, .nameAndType 22 16), (0, u "autoDelete"), (0, .fieldref 8 24), (0, .nameAndType 25 26), (0, u "maxPriority"), (0, u "I"), (28, u "MAX_PRIORITY"), (1, u "HIGHEST_PRIORITY"), (1, u "(Ljava/lang/String;ZZZI)V"), (6, u "kept"), (0, u "()Z")] 28

def k10c0 : Code := { maxStack := 2, maxLocals := 6, code := prog_45_method_1_code, exceptionTable := #[], attributes := #[] }
def k10m0 : Method := { name := "<init>", desc := "(Ljava/lang/String;ZZZI)V", sig := { parameters := [(.object "java/lang/String"), .boolean, .boolean, .boolean, .int], returnType := none }, accessFlags := 1, code := some k10c0 }
def k10c1 : Code := { maxStack := 1, maxLocals := 1, code := prog_45_method_3_code, exceptionTable := #[], attributes := #[] }
def k10m1 : Method := { name := "kept", desc := "()Z", sig := { parameters := [], returnType := some .boolean }, accessFlags := 1, code := some k10c1 }
/-- com/example/ogmios/ogmios/queue/QueueDeclaration -/
def k10 : Class := { plain "com/example/ogmios/ogmios/queue/QueueDeclaration" (some 9) with
  accessFlags := 49
  interfaces := #[]
  cf := some (fileOf pool10 8 #[] #[{ accessFlags := 1, nameIndex := 5, descriptorIndex := 59, attributes := #[] }, { accessFlags := 1, nameIndex := 66, descriptorIndex := 67, attributes := #[] }] 49 2 #[] #[{ accessFlags := 18, nameIndex := 11, descriptorIndex := 12, attributes := #[] }, { accessFlags := 18, nameIndex := 15, descriptorIndex := 16, attributes := #[] }, { accessFlags := 18, nameIndex := 19, descriptorIndex := 16, attributes := #[] }, { accessFlags := 18, nameIndex := 22, descriptorIndex := 16, attributes := #[] }, { accessFlags := 18, nameIndex := 25, descriptorIndex := 26, attributes := #[] }, { accessFlags := 26, nameIndex := 55, descriptorIndex := 12, attributes := #[] }, { accessFlags := 26, nameIndex := 57, descriptorIndex := 26, attributes := #[] }])
  fields := #[{ name := "name", type := (.object "java/lang/String"), accessFlags := 18, slot := 0, constantValue := 0 }, { name := "durable", type := .boolean, accessFlags := 18, slot := 1, constantValue := 0 }, { name := "exclusive", type := .boolean, accessFlags := 18, slot := 2, constantValue := 0 }, { name := "autoDelete", type := .boolean, accessFlags := 18, slot := 3, constantValue := 0 }, { name := "maxPriority", type := .int, accessFlags := 18, slot := 4, constantValue := 0 }, { name := "MAX_PRIORITY", type := (.object "java/lang/String"), accessFlags := 26, slot := 0, constantValue := 0 }, { name := "HIGHEST_PRIORITY", type := .int, accessFlags := 26, slot := 1, constantValue := 0 }]
  methods := #[k10m0, k10m1]
  instanceTypes := #[(.object "java/lang/String"), .boolean, .boolean, .boolean, .int]
  staticTypes := #[(.object "java/lang/String"), .int]
  resolved := Array.replicate 96 none
  statics := none }

def pool11 : Array CpInfo := pool [(4, .class_ 6), (1, u "java/lang/Object"), (0, u "<init>"), (0, u "()V"), (5, .class_ 16), (1, u "java/lang/StringLatin1"), (104, u "$assertionsDisabled"), (0, u "Z"), (98, .class_ 223), (1, u "java/lang/StringLatin1$LinesSpliterator"), (166, .class_ 391), (0, u "java/lang/StringLatin1$CharsSpliterator")] 3

def k11m0 : Method := { name := "<init>", desc := "()V", sig := { parameters := [], returnType := none }, accessFlags := 0, code := none }
/-- java/lang/StringLatin1 -/
def k11 : Class := { plain "java/lang/StringLatin1" (some 0) with
  accessFlags := 48
  interfaces := #[]
  cf := some (fileOf pool11 14 #[.nestMembers #[390, 221]] #[{ accessFlags := 0, nameIndex := 7, descriptorIndex := 8, attributes := #[] }] 48 4 #[] #[{ accessFlags := 4120, nameIndex := 121, descriptorIndex := 122, attributes := #[] }])
  fields := #[{ name := "$assertionsDisabled", type := .boolean, accessFlags := 4120, slot := 0, constantValue := 0 }]
  methods := #[k11m0]
  instanceTypes := #[]
  staticTypes := #[.boolean]
  resolved := Array.replicate 395 none
  statics := none }

def pool12 : Array CpInfo := pool [(2, .class_ 4), (1, u "java/lang/Object"), (0, u "<init>"), (0, u "()V"), (17, .class_ 26), (1, u "jdk/internal/util/Preconditions"), (28, .class_ 56), (0, u "jdk/internal/util/Preconditions$4"), (57, .class_ 115), (0, u "jdk/internal/util/Preconditions$1"), (7, u "SIOOBE_FORMATTER"), (0, u "Ljava/util/function/BiFunction;"), (0, .class_ 126), (0, u "jdk/internal/util/Preconditions$2"), (3, u "AIOOBE_FORMATTER"), (0, .class_ 132), (0, u "jdk/internal/util/Preconditions$3"), (3, u "IOOBE_FORMATTER")] 57

def k12m0 : Method := { name := "<init>", desc := "()V", sig := { parameters := [], returnType := none }, accessFlags := 1, code := none }
/-- jdk/internal/util/Preconditions -/
def k12 : Class := { plain "jdk/internal/util/Preconditions" (some 0) with
  accessFlags := 33
  interfaces := #[]
  cf := some (fileOf pool12 24 #[.nestMembers #[55, 131, 125, 114]] #[{ accessFlags := 1, nameIndex := 5, descriptorIndex := 6, attributes := #[] }] 33 2 #[] #[{ accessFlags := 25, nameIndex := 123, descriptorIndex := 124, attributes := #[] }, { accessFlags := 25, nameIndex := 130, descriptorIndex := 124, attributes := #[] }, { accessFlags := 25, nameIndex := 136, descriptorIndex := 124, attributes := #[] }])
  fields := #[{ name := "SIOOBE_FORMATTER", type := (.object "java/util/function/BiFunction"), accessFlags := 25, slot := 0, constantValue := 0 }, { name := "AIOOBE_FORMATTER", type := (.object "java/util/function/BiFunction"), accessFlags := 25, slot := 1, constantValue := 0 }, { name := "IOOBE_FORMATTER", type := (.object "java/util/function/BiFunction"), accessFlags := 25, slot := 2, constantValue := 0 }]
  methods := #[k12m0]
  instanceTypes := #[]
  staticTypes := #[(.object "java/util/function/BiFunction"), (.object "java/util/function/BiFunction"), (.object "java/util/function/BiFunction")]
  resolved := Array.replicate 194 none
  statics := some 1 }

def pool13 : Array CpInfo := pool [(9, u "<init>"), (6, .class_ 18), (1, u "java/lang/Object"), (0, u "()V"), (1, .class_ 23), (1, u "jdk/internal/util/ArraysSupport"), (0, u "LOG2_ARRAY_LONG_INDEX_SCALE"), (0, u "I"), (2, u "U"), (0, u "Ljdk/internal/misc/Unsafe;"), (8, u "BIG_ENDIAN"), (0, u "Z"), (8, u "LOG2_BYTE_BIT_SIZE"), (4, u "LOG2_ARRAY_INT_INDEX_SCALE"), (54, u "JLA"), (0, u "Ljdk/internal/access/JavaLangAccess;"), (11, u "LOG2_ARRAY_BOOLEAN_INDEX_SCALE"), (9, u "LOG2_ARRAY_BYTE_INDEX_SCALE"), (5, u "LOG2_ARRAY_CHAR_INDEX_SCALE"), (5, u "LOG2_ARRAY_SHORT_INDEX_SCALE"), (18, u "LOG2_ARRAY_FLOAT_INDEX_SCALE"), (24, u "LOG2_ARRAY_DOUBLE_INDEX_SCALE"), (89, u "T_BOOLEAN"), (2, u "T_CHAR"), (1, u "T_FLOAT"), (1, u "T_DOUBLE"), (1, u "T_BYTE"), (1, u "T_SHORT"), (1, u "T_INT"), (1, u "T_LONG"), (1, u "SOFT_MAX_ARRAY_LENGTH")] 83

def k13m0 : Method := { name := "<init>", desc := "()V", sig := { parameters := [], returnType := none }, accessFlags := 2, code := none }
/-- jdk/internal/util/ArraysSupport -/
def k13 : Class := { plain "jdk/internal/util/ArraysSupport" (some 0) with
  accessFlags := 33
  interfaces := #[]
  cf := some (fileOf pool13 21 #[] #[{ accessFlags := 2, nameIndex := 9, descriptorIndex := 19, attributes := #[] }] 33 16 #[] #[{ accessFlags := 24, nameIndex := 28, descriptorIndex := 29, attributes := #[] }, { accessFlags := 26, nameIndex := 38, descriptorIndex := 39, attributes := #[] }, { accessFlags := 25, nameIndex := 121, descriptorIndex := 25, attributes := #[] }, { accessFlags := 25, nameIndex := 131, descriptorIndex := 25, attributes := #[] }, { accessFlags := 25, nameIndex := 137, descriptorIndex := 25, attributes := #[] }, { accessFlags := 25, nameIndex := 143, descriptorIndex := 25, attributes := #[] }, { accessFlags := 25, nameIndex := 53, descriptorIndex := 25, attributes := #[] }, { accessFlags := 25, nameIndex := 24, descriptorIndex := 25, attributes := #[] }, { accessFlags := 25, nameIndex := 162, descriptorIndex := 25, attributes := #[] }, { accessFlags := 25, nameIndex := 187, descriptorIndex := 25, attributes := #[] }, { accessFlags := 26, nameIndex := 48, descriptorIndex := 25, attributes := #[] }, { accessFlags := 25, nameIndex := 277, descriptorIndex := 25, attributes := #[] }, { accessFlags := 25, nameIndex := 280, descriptorIndex := 25, attributes := #[] }, { accessFlags := 25, nameIndex := 282, descriptorIndex := 25, attributes := #[] }, { accessFlags := 25, nameIndex := 284, descriptorIndex := 25, attributes := #[] }, { accessFlags := 25, nameIndex := 286, descriptorIndex := 25, attributes := #[] }, { accessFlags := 25, nameIndex := 288, descriptorIndex := 25, attributes := #[] }, { accessFlags := 25, nameIndex := 290, descriptorIndex := 25, attributes := #[] }, { accessFlags := 25, nameIndex := 292, descriptorIndex := 25, attributes := #[] }, { accessFlags := 26, nameIndex := 108, descriptorIndex := 109, attributes := #[] }, { accessFlags := 25, nameIndex := 294, descriptorIndex := 25, attributes := #[] }])
  fields := #[{ name := "U", type := (.object "jdk/internal/misc/Unsafe"), accessFlags := 24, slot := 0, constantValue := 0 }, { name := "BIG_ENDIAN", type := .boolean, accessFlags := 26, slot := 1, constantValue := 0 }, { name := "LOG2_ARRAY_BOOLEAN_INDEX_SCALE", type := .int, accessFlags := 25, slot := 2, constantValue := 0 }, { name := "LOG2_ARRAY_BYTE_INDEX_SCALE", type := .int, accessFlags := 25, slot := 3, constantValue := 0 }, { name := "LOG2_ARRAY_CHAR_INDEX_SCALE", type := .int, accessFlags := 25, slot := 4, constantValue := 0 }, { name := "LOG2_ARRAY_SHORT_INDEX_SCALE", type := .int, accessFlags := 25, slot := 5, constantValue := 0 }, { name := "LOG2_ARRAY_INT_INDEX_SCALE", type := .int, accessFlags := 25, slot := 6, constantValue := 0 }, { name := "LOG2_ARRAY_LONG_INDEX_SCALE", type := .int, accessFlags := 25, slot := 7, constantValue := 0 }, { name := "LOG2_ARRAY_FLOAT_INDEX_SCALE", type := .int, accessFlags := 25, slot := 8, constantValue := 0 }, { name := "LOG2_ARRAY_DOUBLE_INDEX_SCALE", type := .int, accessFlags := 25, slot := 9, constantValue := 0 }, { name := "LOG2_BYTE_BIT_SIZE", type := .int, accessFlags := 26, slot := 10, constantValue := 0 }, { name := "T_BOOLEAN", type := .int, accessFlags := 25, slot := 11, constantValue := 0 }, { name := "T_CHAR", type := .int, accessFlags := 25, slot := 12, constantValue := 0 }, { name := "T_FLOAT", type := .int, accessFlags := 25, slot := 13, constantValue := 0 }, { name := "T_DOUBLE", type := .int, accessFlags := 25, slot := 14, constantValue := 0 }, { name := "T_BYTE", type := .int, accessFlags := 25, slot := 15, constantValue := 0 }, { name := "T_SHORT", type := .int, accessFlags := 25, slot := 16, constantValue := 0 }, { name := "T_INT", type := .int, accessFlags := 25, slot := 17, constantValue := 0 }, { name := "T_LONG", type := .int, accessFlags := 25, slot := 18, constantValue := 0 }, { name := "JLA", type := (.object "jdk/internal/access/JavaLangAccess"), accessFlags := 26, slot := 19, constantValue := 0 }, { name := "SOFT_MAX_ARRAY_LENGTH", type := .int, accessFlags := 25, slot := 20, constantValue := 0 }]
  methods := #[k13m0]
  instanceTypes := #[]
  staticTypes := #[(.object "jdk/internal/misc/Unsafe"), .boolean, .int, .int, .int, .int, .int, .int, .int, .int, .int, .int, .int, .int, .int, .int, .int, .int, .int, (.object "jdk/internal/access/JavaLangAccess"), .int]
  resolved := Array.replicate 378 none
  statics := none }

def pool14 : Array CpInfo := pool [(1, u "java/lang/Cloneable"), (0, .class_ 1), (0, u "java/lang/Object"), (0, .class_ 3)] 3

/-- java/lang/Cloneable -/
def k14 : Class := { plain "java/lang/Cloneable" (some 0) with
  accessFlags := 1537
  interfaces := #[]
  cf := some (fileOf pool14 2 #[] #[] 1537 4 #[] #[])
  fields := #[]
  methods := #[]
  instanceTypes := #[]
  staticTypes := #[]
  resolved := Array.replicate 8 none
  statics := none }

/-- the primitive byte -/
def k15 : Class := { plain "byte" none with kind := .primitive 'B', accessFlags := 0x411 }
/-- [B -/
def k16 : Class := { plain "[B" (some 0) with kind := .array 15 .byte, interfaces := #[14, 2], accessFlags := 1041 }

/-- the primitive char -/
def k17 : Class := { plain "char" none with kind := .primitive 'C', accessFlags := 0x411 }
/-- [C -/
def k18 : Class := { plain "[C" (some 0) with kind := .array 17 .char, interfaces := #[14, 2], accessFlags := 1041 }

/-- the primitive int -/
def k19 : Class := { plain "int" none with kind := .primitive 'I', accessFlags := 0x411 }
/-- [I -/
def k20 : Class := { plain "[I" (some 0) with kind := .array 19 .int, interfaces := #[14, 2], accessFlags := 1041 }

def heap : Heap := #[{ cls := 7, slots := #[.long 0, .int 1, .null, .int 0, .null, .int 0, .int 0], vm := .statics 7 },
  { cls := 12, slots := #[.null, .null, .null], vm := .statics 12 }]
def classes : Array Class := #[k0, k1, k2, k3, k4, k5, k6, k7, k8, k9, k10, k11, k12, k13, k14, k15, k16, k17, k18, k19, k20]
def interned : List (Array UInt16 × Addr) := []
def slotsUsed : Nat := 10
def theMethod : MethodId := ⟨1, 1⟩
def args0 : Array Value := #[.int 5, .int 5, .int 5, .int 5]
def aboutOver (below : List Frame) : State where
  vm := { classes := classes, interned := interned.toArray }
  heap := heap
  slotsUsed := slotsUsed
  threads := #[{ frames := .invoking theMethod args0 :: below }]
def below0 : List Frame := [.native { method := ⟨0, 0⟩, args := #[] }]
def about1 : State := aboutOver below0
def p0 : Program := .bare "" "" ""
def e0 : Env := launch0.env 0 0 0
theorem w_frames : about1.frames = Frame.invoking theMethod args0 :: below0 := rfl
set_option maxRecDepth 65536 in
theorem w_args : argsFit about1.vm theMethod args0 = true := by decide +kernel
set_option maxRecDepth 65536 in
theorem w_heap : heapFits about1 = true := by decide +kernel
set_option maxRecDepth 65536 in
theorem w_runnable : about1.curStatus? = some .runnable := by decide +kernel
set_option maxRecDepth 65536 in
theorem w_alone : about1.alone = true := by decide +kernel
set_option maxRecDepth 65536 in
theorem w_named : about1.methodNamed? x = some theMethod := by decide +kernel
set_option maxRecDepth 65536 in
theorem w_hears : about1.hears theMethod below0 = true := by decide +kernel
set_option maxRecDepth 65536 in
theorem w_ripe : about1.ripe theMethod args0 below0 = true := by decide +kernel
theorem w_running : about1.status = .running := rfl
set_option maxRecDepth 65536 in
theorem w_room : about1.hasRoom e0.platform room_1 = true :=
  launch0.hasRoom_least _ room_1 (by decide +kernel) (by decide +kernel) (by decide +kernel) (by decide +kernel) (by decide +kernel) (by decide +kernel)
theorem allAtoms_all (ts : List Jvm.Cond) (a : Array Jvm.Value) (st : Jvm.State) : (allAtoms ts).before a st = ts.all (fun c => c.before a st) := by
  induction ts with
  | nil => rfl
  | cons c t ih =>
    show (Jvm.Cond.and c (allAtoms t)).before a st = _
    rw [Jvm.Cond.before_and, ih, List.all_cons]
def words1 : List Jvm.Cond := Jvm.Cond.code x code maxLocals ret :: tables_1
/-- a 'code' word, met by the world's own term for the bytes: nothing is compared byte by byte -/
theorem code_word {y : MethodName} {bytes : ByteArray} {mx : Nat} {rt : Option FieldType} {a : Array Value} {s : State} {m : MethodId} {meth : Method} {c : Code} (h1 : s.methodNamed? y = some m) (h2 : s.vm.method? m = some meth) (h3 : meth.code = some c) (h4 : c.code = bytes)
    (h5 : (c.maxLocals == mx && c.exceptionTable.isEmpty && decide (c.maxStack ≤ mostOperands) && decide (meth.sig.returnType = rt) && !meth.locks && decide (parseMethodDescriptor y.desc = some meth.sig)) = true) : (Jvm.Cond.code y bytes mx rt).before a s = true := by
  simp only [Bool.and_eq_true, beq_iff_eq, Bool.not_eq_true', decide_eq_true_eq] at h5
  obtain ⟨⟨⟨⟨⟨g1, g2⟩, g3⟩, g4⟩, g5⟩, g6⟩ := h5
  simp [Cond.before, Cond.holds, Cond.value, h1, h2, h3, h4, g1, g2, g3, g4, g5, g6]
def isCode : Jvm.Cond → Bool
  | .code _ _ _ _ => true
  | _ => false
theorem all_split {L : List Jvm.Cond} {P : Jvm.Cond → Bool} (h1 : L.all (fun c => isCode c || P c) = true) (h2 : ∀ c ∈ L.filter isCode, P c = true) : L.all P = true := by
  refine List.all_eq_true.mpr fun c hc => ?_
  have h := List.all_eq_true.mp h1 c hc
  rcases Bool.eq_false_or_eq_true (isCode c) with hi | hi
  · exact h2 c (List.mem_filter.mpr ⟨hc, hi⟩)
  · simpa [hi] using h
set_option maxRecDepth 65536 in
theorem w_c0 : (Jvm.Cond.code x code maxLocals ret).before args0 about1 = true := code_word (m := ⟨1, 1⟩) (meth := k1m1) (c := k1c1) (by decide +kernel) rfl rfl rfl (by decide +kernel)
set_option maxRecDepth 65536 in
theorem w_c1 : (Jvm.Cond.code ({ cls := "java/lang/String", name := "<init>", desc := "([C)V" } : Jvm.MethodName) jdk_42_method_3_code (2 : Nat) (Option.none : Option Jvm.ClassFile.FieldType)).before args0 about1 = true := code_word (m := ⟨7, 1⟩) (meth := k7m1) (c := k7c1) (by decide +kernel) rfl rfl rfl (by decide +kernel)
set_option maxRecDepth 65536 in
theorem w_c2 : (Jvm.Cond.code ({ cls := "java/lang/String", name := "<init>", desc := "([CIILjava/lang/Void;)V" } : Jvm.MethodName) jdk_42_method_149_code (6 : Nat) (Option.none : Option Jvm.ClassFile.FieldType)).before args0 about1 = true := code_word (m := ⟨7, 2⟩) (meth := k7m2) (c := k7c2) (by decide +kernel) rfl rfl rfl (by decide +kernel)
set_option maxRecDepth 65536 in
theorem w_c3 : (Jvm.Cond.code ({ cls := "java/lang/Object", name := "<init>", desc := "()V" } : Jvm.MethodName) object_method_1_code (1 : Nat) (Option.none : Option Jvm.ClassFile.FieldType)).before args0 about1 = true := code_word (m := ⟨0, 0⟩) (meth := k0m0) (c := k0c0) (by decide +kernel) rfl rfl rfl (by decide +kernel)
set_option maxRecDepth 65536 in
theorem w_c4 : (Jvm.Cond.code ({ cls := "java/lang/StringUTF16", name := "compress", desc := "([CII)[B" } : Jvm.MethodName) jdk_52_method_16_code (6 : Nat) (Option.some (Jvm.ClassFile.FieldType.array Jvm.ClassFile.FieldType.byte))).before args0 about1 = true := code_word (m := ⟨8, 2⟩) (meth := k8m2) (c := k8c2) (by decide +kernel) rfl rfl rfl (by decide +kernel)
set_option maxRecDepth 65536 in
theorem w_c5 : (Jvm.Cond.code ({ cls := "java/lang/StringUTF16", name := "compress", desc := "([CI[BII)I" } : Jvm.MethodName) jdk_52_method_21_code (7 : Nat) (Option.some Jvm.ClassFile.FieldType.int)).before args0 about1 = true := code_word (m := ⟨8, 3⟩) (meth := k8m3) (c := k8c3) (by decide +kernel) rfl rfl rfl (by decide +kernel)
set_option maxRecDepth 65536 in
theorem w_c6 : (Jvm.Cond.code ({ cls := "java/lang/StringUTF16", name := "coderFromArrayLen", desc := "([BI)B" } : Jvm.MethodName) jdk_52_method_15_code (2 : Nat) (Option.some Jvm.ClassFile.FieldType.byte)).before args0 about1 = true := code_word (m := ⟨8, 1⟩) (meth := k8m1) (c := k8c1) (by decide +kernel) rfl rfl rfl (by decide +kernel)
set_option maxRecDepth 65536 in
theorem w_c7 : (Jvm.Cond.code ({ cls := "com/example/ogmios/ogmios/queue/QueueDeclaration", name := "<init>", desc := "(Ljava/lang/String;ZZZI)V" } : Jvm.MethodName) prog_45_method_1_code (6 : Nat) (Option.none : Option Jvm.ClassFile.FieldType)).before args0 about1 = true := code_word (m := ⟨10, 0⟩) (meth := k10m0) (c := k10c0) (by decide +kernel) rfl rfl rfl (by decide +kernel)
set_option maxRecDepth 65536 in
theorem w_c8 : (Jvm.Cond.code ({ cls := "java/lang/Record", name := "<init>", desc := "()V" } : Jvm.MethodName) jdk_30_method_1_code (1 : Nat) (Option.none : Option Jvm.ClassFile.FieldType)).before args0 about1 = true := code_word (m := ⟨9, 0⟩) (meth := k9m0) (c := k9c0) (by decide +kernel) rfl rfl rfl (by decide +kernel)
set_option maxRecDepth 65536 in
theorem w_c9 : (Jvm.Cond.code ({ cls := "com/example/ogmios/ogmios/queue/QueueDeclaration", name := "kept", desc := "()Z" } : Jvm.MethodName) prog_45_method_3_code (1 : Nat) (Option.some Jvm.ClassFile.FieldType.boolean)).before args0 about1 = true := code_word (m := ⟨10, 1⟩) (meth := k10m1) (c := k10c1) (by decide +kernel) rfl rfl rfl (by decide +kernel)
def codes1 : List Jvm.Cond := [Jvm.Cond.code x code maxLocals ret, Jvm.Cond.code ({ cls := "java/lang/String", name := "<init>", desc := "([C)V" } : Jvm.MethodName) jdk_42_method_3_code (2 : Nat) (Option.none : Option Jvm.ClassFile.FieldType), Jvm.Cond.code ({ cls := "java/lang/String", name := "<init>", desc := "([CIILjava/lang/Void;)V" } : Jvm.MethodName) jdk_42_method_149_code (6 : Nat) (Option.none : Option Jvm.ClassFile.FieldType), Jvm.Cond.code ({ cls := "java/lang/Object", name := "<init>", desc := "()V" } : Jvm.MethodName) object_method_1_code (1 : Nat) (Option.none : Option Jvm.ClassFile.FieldType), Jvm.Cond.code ({ cls := "java/lang/StringUTF16", name := "compress", desc := "([CII)[B" } : Jvm.MethodName) jdk_52_method_16_code (6 : Nat) (Option.some (Jvm.ClassFile.FieldType.array Jvm.ClassFile.FieldType.byte)), Jvm.Cond.code ({ cls := "java/lang/StringUTF16", name := "compress", desc := "([CI[BII)I" } : Jvm.MethodName) jdk_52_method_21_code (7 : Nat) (Option.some Jvm.ClassFile.FieldType.int), Jvm.Cond.code ({ cls := "java/lang/StringUTF16", name := "coderFromArrayLen", desc := "([BI)B" } : Jvm.MethodName) jdk_52_method_15_code (2 : Nat) (Option.some Jvm.ClassFile.FieldType.byte), Jvm.Cond.code ({ cls := "com/example/ogmios/ogmios/queue/QueueDeclaration", name := "<init>", desc := "(Ljava/lang/String;ZZZI)V" } : Jvm.MethodName) prog_45_method_1_code (6 : Nat) (Option.none : Option Jvm.ClassFile.FieldType), Jvm.Cond.code ({ cls := "java/lang/Record", name := "<init>", desc := "()V" } : Jvm.MethodName) jdk_30_method_1_code (1 : Nat) (Option.none : Option Jvm.ClassFile.FieldType), Jvm.Cond.code ({ cls := "com/example/ogmios/ogmios/queue/QueueDeclaration", name := "kept", desc := "()Z" } : Jvm.MethodName) prog_45_method_3_code (1 : Nat) (Option.some Jvm.ClassFile.FieldType.boolean)]
set_option maxRecDepth 65536 in
theorem codes_eq : words1.filter isCode = codes1 := rfl
theorem w_codes : ∀ c ∈ words1.filter isCode, c.before args0 about1 = true := by
  rw [codes_eq]
  intro c hc
  simp only [codes1, List.mem_cons, List.not_mem_nil, or_false] at hc
  rcases hc with rfl | rfl | rfl | rfl | rfl | rfl | rfl | rfl | rfl | rfl
  · exact w_c0
  · exact w_c1
  · exact w_c2
  · exact w_c3
  · exact w_c4
  · exact w_c5
  · exact w_c6
  · exact w_c7
  · exact w_c8
  · exact w_c9
set_option maxRecDepth 65536 in
theorem w_t1 : (words1.take 24).all (fun c => isCode c || c.before args0 about1) = true := by decide +kernel
set_option maxRecDepth 65536 in
theorem w_t2 : ((words1.drop 24).take 24).all (fun c => isCode c || c.before args0 about1) = true := by decide +kernel
set_option maxRecDepth 65536 in
theorem w_t3 : ((words1.drop 24).drop 24).all (fun c => isCode c || c.before args0 about1) = true := by decide +kernel
theorem w_tables : (allAtoms (Jvm.Cond.code x code maxLocals ret :: tables_1)).before args0 about1 = true := by
  rw [allAtoms_all]
  show words1.all (fun c => c.before args0 about1) = true
  refine all_split ?_ w_codes
  rw [← List.take_append_drop 24 words1, List.all_append, w_t1, ← List.take_append_drop 24 (words1.drop 24), List.all_append, w_t2, w_t3]
  rfl
set_option maxRecDepth 65536 in
theorem w_rest : rest_1_c.before args0 about1 = true := by decide +kernel
set_option maxRecDepth 65536 in
theorem w_case : (Jvm.Cond.and given_1 narrow_1).before args0 about1 = true := by decide +kernel
theorem w_applies : (headSpec (Jvm.Cond.code x code maxLocals ret :: tables_1) room_1).applies x e0.platform about1 = true :=
  (Spec.applies_iff w_frames).mpr ⟨w_running, w_runnable, w_alone, w_named, w_hears, w_ripe, w_room, w_tables⟩
theorem atStart : AtStart classFile x code maxLocals ret World_1 tables_1 room_1 Calls_1 rest_1 Pre_1 launch0 p0 e0 about1 theMethod args0 below0 :=
  ⟨lists_1, trivial, launch0.admits_env _ _ _, launch0.least_env, fairChoices_fair.cas, fairChoices_fair.clock, w_frames, w_args, w_heap, w_applies, trivial, w_rest, w_case⟩
end start1
theorem witness_1 : WitnessClaimed_1 := ⟨start1.p0, start1.e0, start1.about1, start1.theMethod, start1.args0, start1.below0, start1.atStart⟩
end Jvm.Pilot.@@N@@
