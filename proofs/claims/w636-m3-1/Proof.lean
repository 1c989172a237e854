import JvmDerived
import JvmDerived.Pilot.@@N@@Statement
import JvmDerived.Pilot.@@N@@Code
set_option linter.unusedVariables false
set_option linter.unusedSimpArgs false
/- laws to paste: Road.backV, Road.chN, Road.eqW, Road.codOf (cut by pick.py; bodies as the Statement names them) -/
namespace Jvm.Pilot.@@N@@
namespace StrChars
open Jvm Sem ClassFile Op Lib Jvm.Stand Jvm.Free.XT Jvm.Free.ALB Jvm.Free.JM Jvm.Free
open Jvm.Lib.Cold (StaticIs)
/-- a char array whose places are chars -/
def Ch (a : Addr) (A : Cell) (U : State) : Prop := Arr .char a A U ∧ Typed .char A
theorem Ch.mv {a : Addr} {A : Cell} {U U' : State} (h : Ch a A U) (hal : U.vm.Alike U'.vm) (hh : U'.heap = U.heap) : Ch a A U' := ⟨h.1.mv hal hh, h.2⟩
theorem Ch.keep {a : Addr} {A : Cell} {U U' : State} (h : Ch a A U) (hal : U.vm.Alike U'.vm) (hk : U'.heap[a]? = some A) : Ch a A U' := ⟨h.1.keep hal hk, h.2⟩
/-- what place i of a char[]'s cell holds -/
def cv (A : Cell) (i : Nat) : Int32 := match A.slots[i]? with | some (.int x) => x | _ => 0
theorem Ch.get {a : Addr} {A : Cell} {U : State} (h : Ch a A U) {i : Nat} (hi : i < A.slots.size) : A.slots[i]? = some (.int (cv A i)) := by
  have e := Array.getElem?_eq_getElem hi
  have f := h.2 i _ e
  unfold cv; rw [e]
  generalize A.slots[i] = v at f
  cases v <;> simp [fits] at f ⊢
/-- the byte that i2b leaves of a char -/
def lo8 (x : Int32) : Int32 := x.toInt8.toInt32
theorem fits_lo8 (y : Int32) : fits .byte (.int (lo8 y)) = true := by
  have h1 := y.toInt8.le_toInt
  have h2 := y.toInt8.toInt_lt
  simp only [lo8, fits, Bool.and_eq_true, decide_eq_true_eq, Int32.le_iff_toInt_le, Int8.toInt_toInt32, show (-128 : Int32).toInt = -128 from by decide, show (127 : Int32).toInt = 127 from by decide]
  omega
/-- A' is A but that each place j of lo .. hi - 1 holds f j -/
def Laid (A A' : Cell) (lo hi : Nat) (f : Nat → Value) : Prop := A'.cls = A.cls ∧ A'.vm = A.vm ∧ A'.slots.size = A.slots.size ∧ ∀ i, A'.slots[i]? = if lo ≤ i ∧ i < hi then some (f i) else A.slots[i]?
theorem Laid.zero (A : Cell) (lo : Nat) (f : Nat → Value) : Laid A A lo (lo + 0) f := ⟨rfl, rfl, rfl, fun i => by rw [if_neg (by omega)]⟩
theorem Laid.step {A Ak : Cell} {lo k : Nat} {f : Nat → Value} {v : Value} (h : Laid A Ak lo k f) (hlo : lo ≤ k) (hk : k < Ak.slots.size) (hv : v = f k) : Laid A (Ak.setSlot k v) lo (k + 1) f := by
  refine ⟨h.1, h.2.1, by simpa [Cell.setSlot] using h.2.2.1, fun i => ?_⟩
  by_cases e : k = i
  · subst e; rw [Cell.slots_setSlot_self v hk, if_pos (by omega), hv]
  · rw [Cell.slots_setSlot_ne v e, h.2.2.2 i]
    by_cases q : lo ≤ i ∧ i < k
    · rw [if_pos q, if_pos (by omega)]
    · rw [if_neg q, if_neg (by omega)]
def U16 : String := "java/lang/StringUTF16"
namespace Cmp5
def yN : MethodName := ⟨"java/lang/StringUTF16", "compress", "([CI[BII)I"⟩
abbrev yB : ByteArray := jdk_52_method_21_code
theorem d0 : decode yB 0 = .ok (.iconst 0, 1) := by decide +kernel
theorem d1 : decode yB 1 = .ok (.istore 5, 2) := by decide +kernel
theorem d3 : decode yB 3 = .ok (.iload 5, 2) := by decide +kernel
theorem d5 : decode yB 5 = .ok (.iload 4, 2) := by decide +kernel
theorem d7 : decode yB 7 = .ok (.if_icmp (.ge) 37, 3) := by decide +kernel
theorem d10 : decode yB 10 = .ok (.aload_n 0, 1) := by decide +kernel
theorem d11 : decode yB 11 = .ok (.iload_n 1, 1) := by decide +kernel
theorem d12 : decode yB 12 = .ok (.caload, 1) := by decide +kernel
theorem d13 : decode yB 13 = .ok (.istore 6, 2) := by decide +kernel
theorem d15 : decode yB 15 = .ok (.iload 6, 2) := by decide +kernel
theorem d17 : decode yB 17 = .ok (.sipush 255, 3) := by decide +kernel
theorem d20 : decode yB 20 = .ok (.if_icmp (.le) 6, 3) := by decide +kernel
theorem d26 : decode yB 26 = .ok (.aload_n 2, 1) := by decide +kernel
theorem d27 : decode yB 27 = .ok (.iload_n 3, 1) := by decide +kernel
theorem d28 : decode yB 28 = .ok (.iload 6, 2) := by decide +kernel
theorem d30 : decode yB 30 = .ok (.i2b, 1) := by decide +kernel
theorem d31 : decode yB 31 = .ok (.bastore, 1) := by decide +kernel
theorem d32 : decode yB 32 = .ok (.iinc 1 1, 3) := by decide +kernel
theorem d35 : decode yB 35 = .ok (.iinc 3 1, 3) := by decide +kernel
theorem d38 : decode yB 38 = .ok (.iinc 5 1, 3) := by decide +kernel
theorem d41 : decode yB 41 = .ok (.goto (-38), 3) := by decide +kernel
theorem d44 : decode yB 44 = .ok (.iload 4, 2) := by decide +kernel
theorem d46 : decode yB 46 = .ok (.ireturn, 1) := by decide +kernel
def site : List Cond := []
def tab : Cond := tabOf yN yB 7 (some .int) site
def P (b : Addr) (A : Cell) (d : Addr) (B : Cell) (o q len : Nat) (args : Array Value) (s : State) : Prop := args = #[.ref b, .int (Int32.ofNat o), .ref d, .int (Int32.ofNat q), .int (Int32.ofNat len)] ∧ Ch b A s ∧ Arr .byte d B s ∧ b ≠ d ∧ o + len ≤ A.slots.size ∧ q + len ≤ B.slots.size ∧ ∀ i, i < len → ¬ 255 < cv A (o + i)
def E (b : Addr) (A : Cell) (d : Addr) (B : Cell) (o q len : Nat) (r : Option Value) (s u : State) : Prop := r = some (.int (Int32.ofNat len)) ∧ ∃ B', Put d B' s u ∧ Laid B B' q (q + len) (fun j => Value.int (lo8 (cv A (o + (j - q)))))
/-- no char of the range above 255: len; the places written hold each char's low byte -/
theorem law (l : Launch) (b : Addr) (A : Cell) (d : Addr) (B : Cell) (o q len : Nat) : Law l yN 5 5 0 0 yB 7 (some .int) site (P b A d B o q len) (E b A d B o q len) (copyLocs d q len) 0 0 := by
  refine Law.of_walk (plainFor_of_name (by decide +kernel)) (by decide +kernel) (by decide +kernel) (by decide) (fun _ _ h => by rw [h.1]; rfl) (fun _ U U' hal hh h => ⟨h.1, h.2.1.mv hal hh, h.2.2.1.mv hal hh, h.2.2.2⟩) (fun r U U' V V' h1 hal h2 h => ⟨h.1, h.2.elim fun B' q => ⟨B', q.1.mv h1 h2, q.2⟩⟩) ?_
  intro p e s m args below meth c s₁ X0 hexec hbytes hml hret hlk hnm hown hh0 W hP
  obtain ⟨rfl, hA, hB, hne, l1, l2, hp⟩ := hP
  have c1 : Steps p.tables e below (s₁.setTop (entryFrame m #[.ref b, .int (Int32.ofNat o), .ref d, .int (Int32.ofNat q), .int (Int32.ofNat len)] 7)) (s₁.setTop (mkF m 0 #[.val (.ref b), .val (.int (Int32.ofNat o)), .val (.ref d), .val (.int (Int32.ofNat q)), .val (.int (Int32.ofNat len)), .unset, .unset] [])) := entry rfl
  have hA0 := hA.1.mv X0.warmed.alike hh0
  have hB0 := hB.mv X0.warmed.alike hh0
  have a31 := hA.1.2.2.2
  have c2 : Steps p.tables e below (s₁.setTop (entryFrame m #[.ref b, .int (Int32.ofNat o), .ref d, .int (Int32.ofNat q), .int (Int32.ofNat len)] 7)) (s₁.setTop (mkF m 3 #[.val (.ref b), .val (.int (Int32.ofNat o)), .val (.ref d), .val (.int (Int32.ofNat q)), .val (.int (Int32.ofNat len)), .val (.int 0), .unset] [])) := c1.trans (by
    refine iconstV X0.here hexec rfl 0 (hb hbytes d0) (by decide) ?_
    refine XS.istore X0.here hexec rfl (hb hbytes d1) rfl rfl ?_
    exact Steps.refl _)
  have loop : ∀ (r i : Nat), i + r = len → ∀ (z : Slot), (z = .unset ∨ ∃ w, z = .val w ∧ w.category = 1) → ∀ (Tl : State) (Bk : Cell), Stand p l e { frames := 0, locals := 0, cells := 0, slots := 0 } s m #[.ref b, .int (Int32.ofNat o), .ref d, .int (Int32.ofNat q), .int (Int32.ofNat len)] below meth c Tl ([] ++ copyLocs d q i) 0 0 → Put d Bk s₁ Tl → Laid B Bk q (q + i) (fun j => Value.int (lo8 (cv A (o + (j - q))))) →
      Steps p.tables e below (s₁.setTop (entryFrame m #[.ref b, .int (Int32.ofNat o), .ref d, .int (Int32.ofNat q), .int (Int32.ofNat len)] 7)) (Tl.setTop (mkF m 3 #[.val (.ref b), .val (.int (Int32.ofNat (o + i))), .val (.ref d), .val (.int (Int32.ofNat (q + i))), .val (.int (Int32.ofNat len)), .val (.int (Int32.ofNat i)), z] [])) → ∃ (T' : State) (B' : Cell) (z' : Slot), Stand p l e { frames := 0, locals := 0, cells := 0, slots := 0 } s m #[.ref b, .int (Int32.ofNat o), .ref d, .int (Int32.ofNat q), .int (Int32.ofNat len)] below meth c T' ([] ++ copyLocs d q len) 0 0 ∧ Put d B' s₁ T' ∧ Laid B B' q (q + len) (fun j => Value.int (lo8 (cv A (o + (j - q))))) ∧
      Steps p.tables e below (s₁.setTop (entryFrame m #[.ref b, .int (Int32.ofNat o), .ref d, .int (Int32.ofNat q), .int (Int32.ofNat len)] 7)) (T'.setTop (mkF m 3 #[.val (.ref b), .val (.int (Int32.ofNat (o + len))), .val (.ref d), .val (.int (Int32.ofNat (q + len))), .val (.int (Int32.ofNat len)), .val (.int (Int32.ofNat len)), z'] [])) := by
    intro r
    induction r with
    | zero =>
      intro i hi z hz Tl Bk Xl pl fl cl
      have hil : i = len := by omega
      rw [hil] at Xl fl cl
      exact ⟨Tl, Bk, z, Xl, pl, fl, cl⟩
    | succ r ih =>
      intro i hi z hz Tl Bk Xl pl fl cl
      have all := X0.warmed.alike.symm.trans Xl.warmed.alike
      have hAl := hA0.keep all (pl.other hne hA0.1)
      have hBk := hB0.like all pl.1 fl.1 fl.2.1 fl.2.2.1
      have hlt : q + i < Bk.slots.size := by rw [fl.2.2.1]; omega
      have c3 : Steps p.tables e below (s₁.setTop (entryFrame m #[.ref b, .int (Int32.ofNat o), .ref d, .int (Int32.ofNat q), .int (Int32.ofNat len)] 7)) (Tl.setTop (mkF m 12 #[.val (.ref b), .val (.int (Int32.ofNat (o + i))), .val (.ref d), .val (.int (Int32.ofNat (q + i))), .val (.int (Int32.ofNat len)), .val (.int (Int32.ofNat i)), z] [.int (Int32.ofNat (o + i)), .ref b])) := cl.trans (by
        refine XS.iload Xl.here hexec rfl (hb hbytes d3) rfl ?_
        refine XS.iload Xl.here hexec rfl (hb hbytes d5) rfl ?_
        refine XS.icmpNo Xl.here hexec rfl (hb hbytes d7) rfl (ii_ge_f (lt32 (by omega) (by omega))) ?_
        refine XS.aloadN Xl.here hexec rfl (hb hbytes d10) rfl rfl ?_
        refine XS.iloadN Xl.here hexec rfl (hb hbytes d11) rfl ?_
        exact Steps.refl _)
      have c4 : Steps p.tables e below (s₁.setTop (entryFrame m #[.ref b, .int (Int32.ofNat o), .ref d, .int (Int32.ofNat q), .int (Int32.ofNat len)] 7)) (Tl.setTop (mkF m 13 #[.val (.ref b), .val (.int (Int32.ofNat (o + i))), .val (.ref d), .val (.int (Int32.ofNat (q + i))), .val (.int (Int32.ofNat len)), .val (.int (Int32.ofNat i)), z] [.int (cv A (o + i))])) := c3.trans (by
        refine Xl.aget hexec hAl rfl (hA.get (i := o + i) (by omega)) rfl rfl (hb hbytes d12) ?_
        exact Steps.refl _)
      have c5 : Steps p.tables e below (s₁.setTop (entryFrame m #[.ref b, .int (Int32.ofNat o), .ref d, .int (Int32.ofNat q), .int (Int32.ofNat len)] 7)) (Tl.setTop (mkF m 15 #[.val (.ref b), .val (.int (Int32.ofNat (o + i))), .val (.ref d), .val (.int (Int32.ofNat (q + i))), .val (.int (Int32.ofNat len)), .val (.int (Int32.ofNat i)), .val (.int (cv A (o + i)))] [])) := c4.trans (by
        refine XS.istoreS Xl.here hexec rfl (hb hbytes d13) rfl rfl hz ?_
        exact Steps.refl _)
      have c6 : Steps p.tables e below (s₁.setTop (entryFrame m #[.ref b, .int (Int32.ofNat o), .ref d, .int (Int32.ofNat q), .int (Int32.ofNat len)] 7)) (Tl.setTop (mkF m 31 #[.val (.ref b), .val (.int (Int32.ofNat (o + i))), .val (.ref d), .val (.int (Int32.ofNat (q + i))), .val (.int (Int32.ofNat len)), .val (.int (Int32.ofNat i)), .val (.int (cv A (o + i)))] [.int (lo8 (cv A (o + i))), .int (Int32.ofNat (q + i)), .ref d])) := c5.trans (by
        refine XS.iload Xl.here hexec rfl (hb hbytes d15) rfl ?_
        refine sipushV Xl.here hexec rfl 255 (hb hbytes d17) (by decide) ?_
        refine XS.icmpYes Xl.here hexec rfl (pc0 := 20) rfl (hb hbytes d20) rfl (ii_le_t (hp i (by omega))) (by decide) rfl ?_
        refine XS.aloadN Xl.here hexec rfl (hb hbytes d26) rfl rfl ?_
        refine XS.iloadN Xl.here hexec rfl (hb hbytes d27) rfl ?_
        refine XS.iload Xl.here hexec rfl (hb hbytes d28) rfl ?_
        refine i2b Xl.here hexec rfl (hb hbytes d30) rfl ?_
        exact Steps.refl _)
      obtain ⟨T7, X7, p7, st7⟩ := Xl.aput hexec hBk rfl hlt rfl (fits_lo8 (cv A (o + i))) (g := (mkF m 31 #[.val (.ref b), .val (.int (Int32.ofNat (o + i))), .val (.ref d), .val (.int (Int32.ofNat (q + i))), .val (.int (Int32.ofNat len)), .val (.int (Int32.ofNat i)), .val (.int (cv A (o + i)))] [.int (lo8 (cv A (o + i))), .int (Int32.ofNat (q + i)), .ref d])) rfl (rest := []) rfl (hb hbytes d31)
      have c8 : Steps p.tables e below (s₁.setTop (entryFrame m #[.ref b, .int (Int32.ofNat o), .ref d, .int (Int32.ofNat q), .int (Int32.ofNat len)] 7)) (T7.setTop (mkF m 32 #[.val (.ref b), .val (.int (Int32.ofNat (o + i))), .val (.ref d), .val (.int (Int32.ofNat (q + i))), .val (.int (Int32.ofNat len)), .val (.int (Int32.ofNat i)), .val (.int (cv A (o + i)))] [])) := c6.trans (st7 _ (Steps.refl _))
      have c9 : Steps p.tables e below (s₁.setTop (entryFrame m #[.ref b, .int (Int32.ofNat o), .ref d, .int (Int32.ofNat q), .int (Int32.ofNat len)] 7)) (T7.setTop (mkF m 3 #[.val (.ref b), .val (.int (Int32.ofNat (o + i) + 1)), .val (.ref d), .val (.int (Int32.ofNat (q + i) + 1)), .val (.int (Int32.ofNat len)), .val (.int (Int32.ofNat i + 1)), .val (.int (cv A (o + i)))] [])) := c8.trans (by
        refine iincV X7.here hexec rfl 1 (hb hbytes d32) (by decide) rfl rfl ?_
        refine iincV X7.here hexec rfl 1 (hb hbytes d35) (by decide) rfl rfl ?_
        refine iincV X7.here hexec rfl 1 (hb hbytes d38) (by decide) rfl rfl ?_
        refine XS.goto X7.here hexec rfl (pc0 := 41) rfl (hb hbytes d41) (by decide) rfl ?_
        exact Steps.refl _)
      have c10 : Steps p.tables e below (s₁.setTop (entryFrame m #[.ref b, .int (Int32.ofNat o), .ref d, .int (Int32.ofNat q), .int (Int32.ofNat len)] 7)) (T7.setTop (mkF m 3 #[.val (.ref b), .val (.int (Int32.ofNat (o + (i + 1)))), .val (.ref d), .val (.int (Int32.ofNat (q + (i + 1)))), .val (.int (Int32.ofNat len)), .val (.int (Int32.ofNat (i + 1))), .val (.int (cv A (o + i)))] [])) := by
        have := c9
        rw [succ32, succ32, succ32] at this
        exact this
      exact ih (i + 1) (by omega) _ (Or.inr ⟨_, rfl, rfl⟩) T7 _ (by rw [copyLocs_step, ← List.append_assoc]; exact X7) (pl.trans p7) (fl.step (by omega) hlt (by simp)) c10
  obtain ⟨T9, B9, z9, X9, p9, f9, g9⟩ := loop len 0 (by omega) .unset (Or.inl rfl) s₁ B (by simpa [copyLocs] using X0) ⟨hB0.1, fun _ _ => rfl, rfl⟩ (Laid.zero _ _ _) c2
  have c11 : Steps p.tables e below (s₁.setTop (entryFrame m #[.ref b, .int (Int32.ofNat o), .ref d, .int (Int32.ofNat q), .int (Int32.ofNat len)] 7)) (T9.setTop (mkF m 46 #[.val (.ref b), .val (.int (Int32.ofNat (o + len))), .val (.ref d), .val (.int (Int32.ofNat (q + len))), .val (.int (Int32.ofNat len)), .val (.int (Int32.ofNat len)), z9] [.int (Int32.ofNat len)])) := g9.trans (by
    refine XS.iload X9.here hexec rfl (hb hbytes d3) rfl ?_
    refine XS.iload X9.here hexec rfl (hb hbytes d5) rfl ?_
    refine XS.icmpYes X9.here hexec rfl (pc0 := 7) rfl (hb hbytes d7) rfl (ii_ge_t (nlt32 (by omega) (Nat.le_refl _))) (by decide) rfl ?_
    refine XS.iload X9.here hexec rfl (hb hbytes d44) rfl ?_
    exact Steps.refl _)
  exact ⟨T9, some (.int (Int32.ofNat len)), _, _, _, X9, by simp, rfl, rfl, (fun h => by cases h), ⟨rfl, B9, p9.from hh0, f9⟩, fun fs hl => c11.trans (X9.ireturnOut hexec hret rfl (Or.inl rfl) (hb hbytes d46) hl)⟩
end Cmp5
namespace Cmp3
def yN : MethodName := ⟨"java/lang/StringUTF16", "compress", "([CII)[B"⟩
abbrev yB : ByteArray := jdk_52_method_16_code
theorem d0 : decode yB 0 = .ok (.iload_n 2, 1) := by decide +kernel
theorem d1 : decode yB 1 = .ok (.newarray .byte, 2) := by decide +kernel
theorem d3 : decode yB 3 = .ok (.astore_n 3, 1) := by decide +kernel
theorem d4 : decode yB 4 = .ok (.aload_n 0, 1) := by decide +kernel
theorem d5 : decode yB 5 = .ok (.iload_n 1, 1) := by decide +kernel
theorem d6 : decode yB 6 = .ok (.aload_n 3, 1) := by decide +kernel
theorem d7 : decode yB 7 = .ok (.iconst 0, 1) := by decide +kernel
theorem d8 : decode yB 8 = .ok (.iload_n 2, 1) := by decide +kernel
theorem d9 : decode yB 9 = .ok (.invokestatic 115, 3) := by decide +kernel
theorem d12 : decode yB 12 = .ok (.istore 4, 2) := by decide +kernel
theorem d14 : decode yB 14 = .ok (.iload 4, 2) := by decide +kernel
theorem d16 : decode yB 16 = .ok (.iload_n 2, 1) := by decide +kernel
theorem d17 : decode yB 17 = .ok (.if_icmp (.eq) 40, 3) := by decide +kernel
theorem d57 : decode yB 57 = .ok (.aload_n 3, 1) := by decide +kernel
theorem d58 : decode yB 58 = .ok (.areturn, 1) := by decide +kernel
def site : List Cond := [.arrayClass .byte, Cmp5.tab] ++ staticW U16 115 Cmp5.yN
def tab : Cond := tabOf yN yB 6 (some (.array .byte)) site
def P (b : Addr) (A : Cell) (o len : Nat) (args : Array Value) (s : State) : Prop := args = #[.ref b, .int (Int32.ofNat o), .int (Int32.ofNat len)] ∧ Ch b A s ∧ o + len ≤ A.slots.size ∧ len ≤ 536870912 ∧ ∀ i, i < len → ¬ 255 < cv A (o + i)
def E (b : Addr) (A : Cell) (o len : Nat) (r : Option Value) (s u : State) : Prop := NewArr .byte "[B" len (fun j => .int (lo8 (cv A (o + j)))) r s u ∧ u.heap.size = s.heap.size + 1
/-- no char of the range above 255: a new byte[] of their low bytes -/
theorem law (l : Launch) (b : Addr) (A : Cell) (o len : Nat) : Law l yN 3 3 1 18 yB 6 (some (.array .byte)) site (P b A o len) (E b A o len) [] 1 len := by
  refine Law.of_walk (plainFor_of_name (by decide +kernel)) (by decide +kernel) (by decide +kernel) (by decide) (fun _ _ h => by rw [h.1]; rfl) (fun _ U U' hal hh h => ⟨h.1, h.2.1.mv hal hh, h.2.2⟩) (fun r U U' V V' h1 hal h2 h => ⟨NewArr.mv r U U' V V' h1 hal h2 h.1, by rw [h1, h2]; exact h.2⟩) ?_
  intro p e s m args below meth c s₁ X0 hexec hbytes hml hret hlk hnm hown hh0 W hP
  obtain ⟨rfl, hA, l1, l2, hp⟩ := hP
  have a31 := hA.1.2.2.2
  have c1 : Steps p.tables e below (s₁.setTop (entryFrame m #[.ref b, .int (Int32.ofNat o), .int (Int32.ofNat len)] 6)) (s₁.setTop (mkF m 0 #[.val (.ref b), .val (.int (Int32.ofNat o)), .val (.int (Int32.ofNat len)), .unset, .unset, .unset] [])) := entry rfl
  have c2 : Steps p.tables e below (s₁.setTop (entryFrame m #[.ref b, .int (Int32.ofNat o), .int (Int32.ofNat len)] 6)) (s₁.setTop (mkF m 1 #[.val (.ref b), .val (.int (Int32.ofNat o)), .val (.int (Int32.ofNat len)), .unset, .unset, .unset] [.int (Int32.ofNat len)])) := c1.trans (by
    refine XS.iloadN X0.here hexec rfl (hb hbytes d0) rfl ?_
    exact Steps.refl _)
  obtain ⟨T3, B3, X3, ba3, bs3, bv3, bh3, bf3, st3⟩ := X0.anew hexec (atype := .byte) (wk W (.arrayClass .byte)) rfl (by show len * 1 ≤ _; omega) (by omega) (g := (mkF m 1 #[.val (.ref b), .val (.int (Int32.ofNat o)), .val (.int (Int32.ofNat len)), .unset, .unset, .unset] [.int (Int32.ofNat len)])) rfl (hb hbytes d1) (rest := []) rfl (Nat.le_refl _) (by show 0 + len ≤ len; omega)
  rw [hh0] at ba3 st3
  have kp3 : XT.Kept s T3 := (XT.Kept.of_eq hh0).push bh3
  have hA3 := hA.keep X3.warmed.alike (kp3 _ _ hA.1.1)
  have hne : b ≠ s.heap.size := hA.1.ne
  have c4 : Steps p.tables e below (s₁.setTop (entryFrame m #[.ref b, .int (Int32.ofNat o), .int (Int32.ofNat len)] 6)) (T3.setTop (mkF m 3 #[.val (.ref b), .val (.int (Int32.ofNat o)), .val (.int (Int32.ofNat len)), .unset, .unset, .unset] [.ref s.heap.size])) := c2.trans (st3 _ (Steps.refl _))
  have c5 : Steps p.tables e below (s₁.setTop (entryFrame m #[.ref b, .int (Int32.ofNat o), .int (Int32.ofNat len)] 6)) (T3.setTop (mkF m 9 #[.val (.ref b), .val (.int (Int32.ofNat o)), .val (.int (Int32.ofNat len)), .val (.ref s.heap.size), .unset, .unset] [.int (Int32.ofNat len), .int 0, .ref s.heap.size, .int (Int32.ofNat o), .ref b])) := c4.trans (by
    refine XS.astoreN X3.here hexec rfl (hb hbytes d3) rfl rfl rfl ?_
    refine XS.aloadN X3.here hexec rfl (hb hbytes d4) rfl rfl ?_
    refine XS.iloadN X3.here hexec rfl (hb hbytes d5) rfl ?_
    refine XS.aloadN X3.here hexec rfl (hb hbytes d6) rfl rfl ?_
    refine iconstV X3.here hexec rfl 0 (hb hbytes d7) (by decide) ?_
    refine XS.iloadN X3.here hexec rfl (hb hbytes d8) rfl ?_
    exact Steps.refl _)
  obtain ⟨v6, T6, X6, E6, g6⟩ := X3.callS hexec (Cmp5.law l b A s.heap.size B3 o 0 len) hown (wks W (staticW U16 115 Cmp5.yN)) (wk W Cmp5.tab) (W := 0) (Nat.le_of_ble_eq_true rfl) (Nat.le_of_ble_eq_true rfl) (Nat.le_refl _) (by show 0 + len + 0 ≤ len; omega) (g := (mkF m 9 #[.val (.ref b), .val (.int (Int32.ofNat o)), .val (.int (Int32.ofNat len)), .val (.ref s.heap.size), .unset, .unset] [.int (Int32.ofNat len), .int (Int32.ofNat 0), .ref s.heap.size, .int (Int32.ofNat o), .ref b])) rfl (by rw [hml]; rfl) c5 (argsL := [.ref b, .int (Int32.ofNat o), .ref s.heap.size, .int (Int32.ofNat 0), .int (Int32.ofNat len)]) (rest := []) rfl rfl (by show 2 * 0 + 0 ≤ _; decide) (hb hbytes d9) (⟨rfl, hA3, ba3, hne, l1, by rw [bs3]; simp, hp⟩)
  obtain ⟨rfl, B6, p6, f6⟩ := E6
  have c7 : Steps p.tables e below (s₁.setTop (entryFrame m #[.ref b, .int (Int32.ofNat o), .int (Int32.ofNat len)] 6)) (T6.setTop (mkF m 12 #[.val (.ref b), .val (.int (Int32.ofNat o)), .val (.int (Int32.ofNat len)), .val (.ref s.heap.size), .unset, .unset] [.int (Int32.ofNat len)])) := g6
  have c8 : Steps p.tables e below (s₁.setTop (entryFrame m #[.ref b, .int (Int32.ofNat o), .int (Int32.ofNat len)] 6)) (T6.setTop (mkF m 58 #[.val (.ref b), .val (.int (Int32.ofNat o)), .val (.int (Int32.ofNat len)), .val (.ref s.heap.size), .val (.int (Int32.ofNat len)), .unset] [.ref s.heap.size])) := c7.trans (by
    refine XS.istore X6.here hexec rfl (hb hbytes d12) rfl rfl ?_
    refine XS.iload X6.here hexec rfl (hb hbytes d14) rfl ?_
    refine XS.iloadN X6.here hexec rfl (hb hbytes d16) rfl ?_
    refine XS.icmpYes X6.here hexec rfl (pc0 := 17) rfl (hb hbytes d17) rfl (ii_eq_t rfl) (by decide) rfl ?_
    refine XS.aloadN X6.here hexec rfl (hb hbytes d57) rfl rfl ?_
    exact Steps.refl _)
  have X8 := X6.wide (L' := []) (cells' := 1) (slots' := len) (fun x hx hlt => by
    simp only [List.nil_append, copyLocs, List.mem_map, List.mem_range] at hx
    obtain ⟨i, -, rfl⟩ := hx
    exact absurd hlt (Nat.lt_irrefl _)) (Nat.le_refl _) (by omega)
  exact ⟨T6, some (.ref s.heap.size), _, _, _, X8, rfl, rfl, rfl, (fun h => by cases h), ⟨⟨rfl, B6, ba3.like (X3.warmed.alike.symm.trans X6.warmed.alike) p6.1 f6.1 f6.2.1 f6.2.2.1, f6.2.1.trans bv3, by rw [X6.warmed.alike.findClass, f6.1]; exact bf3, by rw [f6.2.2.1, bs3]; simp, fun j hj => by rw [f6.2.2.2 j, if_pos (by omega)]; rfl, kp3.put p6 (Nat.le_refl _)⟩, by rw [p6.2.2, bh3, hh0]; simp⟩, fun fs hl => c8.trans (X8.areturnOut hexec rfl hret rfl (hb hbytes d58) hl)⟩
end Cmp3
namespace CodL
def yN : MethodName := ⟨"java/lang/StringUTF16", "coderFromArrayLen", "([BI)B"⟩
abbrev yB : ByteArray := jdk_52_method_15_code
theorem d0 : decode yB 0 = .ok (.iload_n 1, 1) := by decide +kernel
theorem d1 : decode yB 1 = .ok (.aload_n 0, 1) := by decide +kernel
theorem d2 : decode yB 2 = .ok (.arraylength, 1) := by decide +kernel
theorem d3 : decode yB 3 = .ok (.isub, 1) := by decide +kernel
theorem d4 : decode yB 4 = .ok (.bipush 31, 2) := by decide +kernel
theorem d6 : decode yB 6 = .ok (.iushr, 1) := by decide +kernel
theorem d7 : decode yB 7 = .ok (.i2b, 1) := by decide +kernel
theorem d8 : decode yB 8 = .ok (.ireturn, 1) := by decide +kernel
def site : List Cond := []
def tab : Cond := tabOf yN yB 2 (some .byte) site
def P (d : Addr) (B : Cell) (args : Array Value) (s : State) : Prop := args = #[.ref d, .int (Int32.ofNat B.slots.size)] ∧ Arr .byte d B s
def E (r : Option Value) (s u : State) : Prop := XT.PureE (some (.int 0)) r s u
/-- an array as long as the number of chars: LATIN1 -/
theorem law (l : Launch) (d : Addr) (B : Cell) : Law l yN 2 2 0 0 yB 2 (some .byte) site (P d B) E [] 0 0 := by
  refine Law.of_walk (plainFor_of_name (by decide +kernel)) (by decide +kernel) (by decide +kernel) (by decide) (fun _ _ h => by rw [h.1]; rfl) (fun _ U U' hal hh h => ⟨h.1, h.2.mv hal hh⟩) (fun r U U' V V' h1 hal h2 h => XT.PureE.mv r U U' V V' h1 hal h2 h) ?_
  intro p e s m args below meth c s₁ X0 hexec hbytes hml hret hlk hnm hown hh0 W hP
  obtain ⟨rfl, hB⟩ := hP
  have hB0 := hB.mv X0.warmed.alike hh0
  have c1 : Steps p.tables e below (s₁.setTop (entryFrame m #[.ref d, .int (Int32.ofNat B.slots.size)] 2)) (s₁.setTop (mkF m 0 #[.val (.ref d), .val (.int (Int32.ofNat B.slots.size))] [])) := entry rfl
  have c2 : Steps p.tables e below (s₁.setTop (entryFrame m #[.ref d, .int (Int32.ofNat B.slots.size)] 2)) (s₁.setTop (mkF m 2 #[.val (.ref d), .val (.int (Int32.ofNat B.slots.size))] [.ref d, .int (Int32.ofNat B.slots.size)])) := c1.trans (by
    refine XS.iloadN X0.here hexec rfl (hb hbytes d0) rfl ?_
    refine XS.aloadN X0.here hexec rfl (hb hbytes d1) rfl rfl ?_
    exact Steps.refl _)
  have c3 : Steps p.tables e below (s₁.setTop (entryFrame m #[.ref d, .int (Int32.ofNat B.slots.size)] 2)) (s₁.setTop (mkF m 8 #[.val (.ref d), .val (.int (Int32.ofNat B.slots.size))] [.int (lo8 (ushr (Int32.ofNat B.slots.size - Int32.ofNat B.slots.size) 31))])) := c2.trans (by
    refine X0.alen hexec hB0 rfl rfl (hb hbytes d2) ?_
    refine XS.isub X0.here hexec rfl (hb hbytes d3) rfl ?_
    refine bipushV X0.here hexec rfl 31 (hb hbytes d4) (by decide) ?_
    refine iushr X0.here hexec rfl (hb hbytes d6) rfl ?_
    refine i2b X0.here hexec rfl (hb hbytes d7) rfl ?_
    exact Steps.refl _)
  have e0 : lo8 (ushr (Int32.ofNat B.slots.size - Int32.ofNat B.slots.size) 31) = 0 := by rw [Int32.sub_self]; decide
  rw [e0] at c3
  exact ⟨s₁, some (.int 0), _, _, _, X0, rfl, rfl, rfl, (fun h => by cases h), ⟨rfl, hh0⟩, fun fs hl => c3.trans (X0.ireturnOut hexec hret rfl (Or.inr (Or.inr (Or.inl rfl))) (hb hbytes d8) hl)⟩
end CodL
/-- the String at a is Latin-1 over a new byte[] (the heap's one new cell): the low bytes of the len chars of A from o on; every cell but a is kept -/
def Got (a : Addr) (D : Cell) (fV fC : Field) (A : Cell) (o len : Nat) (r : Option Value) (s u : State) : Prop := r = none ∧ ∃ D' V : Cell, Blank "java/lang/String" a D' u ∧ Same D D' [fV.slot, fC.slot] ∧ D'.slots[fV.slot]? = some (.ref s.heap.size) ∧ D'.slots[fC.slot]? = some (.int 0) ∧ Arr .byte s.heap.size V u ∧ V.vm = .none ∧ u.vm.findClass "[B" = some V.cls ∧ V.slots.size = len ∧ (∀ j, j < len → V.slots[j]? = some (.int (lo8 (cv A (o + j))))) ∧ (∀ (y : Addr) (c : Cell), y ≠ a → s.heap[y]? = some c → u.heap[y]? = some c) ∧ u.heap.size = s.heap.size + 1
theorem Got.mv {a : Addr} {D A : Cell} {fV fC : Field} {o len : Nat} : ∀ r (U U' V V' : State), U'.heap = U.heap → V.vm.Alike V'.vm → V'.heap = V.heap → Got a D fV fC A o len r U V → Got a D fV fC A o len r U' V' :=
  fun r U U' V V' h1 hal h2 ⟨e0, D', X, a1, a2, a3, a4, a5, a6, a7, a8, a9, a10, a11⟩ => ⟨e0, D', X, a1.mv hal h2, a2, by rw [h1]; exact a3, a4, by rw [h1]; exact a5.mv hal h2, a6, by rw [hal.findClass]; exact a7, a8, a9, by rw [h1, h2]; exact a10, by rw [h1, h2]; exact a11⟩
namespace New4
def yN : MethodName := ⟨"java/lang/String", "<init>", "([CIILjava/lang/Void;)V"⟩
abbrev yB : ByteArray := jdk_42_method_149_code
theorem d0 : decode yB 0 = .ok (.aload_n 0, 1) := by decide +kernel
theorem d1 : decode yB 1 = .ok (.invokespecial 1, 3) := by decide +kernel
theorem d4 : decode yB 4 = .ok (.iload_n 3, 1) := by decide +kernel
theorem d5 : decode yB 5 = .ok (.ifCond (.ne) 22, 3) := by decide +kernel
theorem d27 : decode yB 27 = .ok (.getstatic 38, 3) := by decide +kernel
theorem d30 : decode yB 30 = .ok (.ifCond (.eq) 28, 3) := by decide +kernel
theorem d33 : decode yB 33 = .ok (.aload_n 1, 1) := by decide +kernel
theorem d34 : decode yB 34 = .ok (.iload_n 2, 1) := by decide +kernel
theorem d35 : decode yB 35 = .ok (.iload_n 3, 1) := by decide +kernel
theorem d36 : decode yB 36 = .ok (.invokestatic 177, 3) := by decide +kernel
theorem d39 : decode yB 39 = .ok (.astore 5, 2) := by decide +kernel
theorem d41 : decode yB 41 = .ok (.aload_n 0, 1) := by decide +kernel
theorem d42 : decode yB 42 = .ok (.aload 5, 2) := by decide +kernel
theorem d44 : decode yB 44 = .ok (.iload_n 3, 1) := by decide +kernel
theorem d45 : decode yB 45 = .ok (.invokestatic 47, 3) := by decide +kernel
theorem d48 : decode yB 48 = .ok (.putfield 15, 3) := by decide +kernel
theorem d51 : decode yB 51 = .ok (.aload_n 0, 1) := by decide +kernel
theorem d52 : decode yB 52 = .ok (.aload 5, 2) := by decide +kernel
theorem d54 : decode yB 54 = .ok (.putfield 9, 3) := by decide +kernel
theorem d57 : decode yB 57 = .ok (.return_, 1) := by decide +kernel
def site : List Cond := [.fieldLink "java/lang/String" 38 "java/lang/String" "COMPACT_STRINGS" "Z", Cmp3.tab, CodL.tab, .laysFinal "java/lang/String" "java/lang/String" "value" "[B", .fieldLink "java/lang/String" 9 "java/lang/String" "value" "[B", .laysFinal "java/lang/String" "java/lang/String" "coder" "B", .fieldLink "java/lang/String" 15 "java/lang/String" "coder" "B"] ++ objW "java/lang/String" 1 ++ staticW "java/lang/String" 177 Cmp3.yN ++ staticW "java/lang/String" 47 CodL.yN
def tab : Cond := tabOf yN yB 6 none site
def P (a : Addr) (D : Cell) (fV fC : Field) (b : Addr) (A : Cell) (z : Int32) (o len : Nat) (args : Array Value) (s : State) : Prop := args = #[.ref a, .ref b, .int (Int32.ofNat o), .int (Int32.ofNat len), .null] ∧ Blank "java/lang/String" a D s ∧ Found "java/lang/String" "value" "[B" fV s ∧ Found "java/lang/String" "coder" "B" fC s ∧ Ch b A s ∧ StaticIs s "java/lang/String" "COMPACT_STRINGS" "Z" (.int z) ∧ ¬ z = 0 ∧ 0 < len ∧ o + len ≤ A.slots.size ∧ len ≤ 536870912 ∧ ∀ i, i < len → ¬ 255 < cv A (o + i)
def E (a : Addr) (D : Cell) (fV fC : Field) (A : Cell) (o len : Nat) (r : Option Value) (s u : State) : Prop := Got a D fV fC A o len r s u
/-- len > 0, no char of the range above 255: a Latin-1 String of their low bytes -/
theorem law (l : Launch) (a : Addr) (D : Cell) (fV fC : Field) (b : Addr) (A : Cell) (z : Int32) (o len : Nat) : Law l yN 5 4 2 35 yB 6 none site (P a D fV fC b A z o len) (E a D fV fC A o len) [⟨a, fC.slot⟩, ⟨a, fV.slot⟩] 1 len := by
  refine Law.of_walk (plainFor_of_name (by decide +kernel)) (by decide +kernel) (by decide +kernel) (by decide) (fun _ _ h => by rw [h.1]; rfl) (fun _ U U' hal hh h => ⟨h.1, h.2.1.mv hal hh, h.2.2.1.al hal, h.2.2.2.1.al hal, h.2.2.2.2.1.mv hal hh, h.2.2.2.2.2.1.there hal hh, h.2.2.2.2.2.2⟩) (fun r U U' V V' h1 hal h2 h => Got.mv r U U' V V' h1 hal h2 h) ?_
  intro p e s m args below meth c s₁ X0 hexec hbytes hml hret hlk hnm hown hh0 W hP
  obtain ⟨rfl, hB, f1, f2, hA, s1, hz, l0, l1, l2, hp⟩ := hP
  have a31 := hA.1.2.2.2
  have c1 : Steps p.tables e below (s₁.setTop (entryFrame m #[.ref a, .ref b, .int (Int32.ofNat o), .int (Int32.ofNat len), .null] 6)) (s₁.setTop (mkF m 0 #[.val (.ref a), .val (.ref b), .val (.int (Int32.ofNat o)), .val (.int (Int32.ofNat len)), .val .null, .unset] [])) := entry rfl
  have c2 : Steps p.tables e below (s₁.setTop (entryFrame m #[.ref a, .ref b, .int (Int32.ofNat o), .int (Int32.ofNat len), .null] 6)) (s₁.setTop (mkF m 1 #[.val (.ref a), .val (.ref b), .val (.int (Int32.ofNat o)), .val (.int (Int32.ofNat len)), .val .null, .unset] [.ref a])) := c1.trans (by
    refine XS.aloadN X0.here hexec rfl (hb hbytes d0) rfl rfl ?_
    exact Steps.refl _)
  obtain ⟨T3, X3, q3, st3⟩ := X0.oinit hexec hown (wks W (objW "java/lang/String" 1)) (g := (mkF m 1 #[.val (.ref a), .val (.ref b), .val (.int (Int32.ofNat o)), .val (.int (Int32.ofNat len)), .val .null, .unset] [.ref a])) rfl (by rw [hml]; rfl) (rest := []) rfl (hb hbytes d1) (W := 0) (by show 2 * 0 + 0 ≤ _; decide) (Nat.le_of_ble_eq_true rfl) (Nat.le_of_ble_eq_true rfl)
  have hh3 := q3.trans hh0
  have c4 : Steps p.tables e below (s₁.setTop (entryFrame m #[.ref a, .ref b, .int (Int32.ofNat o), .int (Int32.ofNat len), .null] 6)) (T3.setTop (mkF m 27 #[.val (.ref a), .val (.ref b), .val (.int (Int32.ofNat o)), .val (.int (Int32.ofNat len)), .val .null, .unset] [])) := (c2.trans (st3 _ (Steps.refl _))).trans (by
    refine XS.iloadN X3.here hexec rfl (hb hbytes d4) rfl ?_
    refine XS.ifYes X3.here hexec rfl (pc0 := 5) rfl (hb hbytes d5) rfl (i0_ne_t (nz32 (by omega) l0)) (by decide) rfl ?_
    exact Steps.refl _)
  obtain ⟨T5, X5, q5, st5⟩ := X3.sget hexec hown (wk W (.fieldLink "java/lang/String" 38 "java/lang/String" "COMPACT_STRINGS" "Z")) s1 (fun _ _ h => by rw [hh3]; exact h) (g := (mkF m 27 #[.val (.ref a), .val (.ref b), .val (.int (Int32.ofNat o)), .val (.int (Int32.ofNat len)), .val .null, .unset] [])) rfl (hb hbytes d27)
  have hh5 := q5.trans hh3
  have c6 : Steps p.tables e below (s₁.setTop (entryFrame m #[.ref a, .ref b, .int (Int32.ofNat o), .int (Int32.ofNat len), .null] 6)) (T5.setTop (mkF m 30 #[.val (.ref a), .val (.ref b), .val (.int (Int32.ofNat o)), .val (.int (Int32.ofNat len)), .val .null, .unset] [.int z])) := c4.trans (st5 _ (Steps.refl _))
  have c7 : Steps p.tables e below (s₁.setTop (entryFrame m #[.ref a, .ref b, .int (Int32.ofNat o), .int (Int32.ofNat len), .null] 6)) (T5.setTop (mkF m 36 #[.val (.ref a), .val (.ref b), .val (.int (Int32.ofNat o)), .val (.int (Int32.ofNat len)), .val .null, .unset] [.int (Int32.ofNat len), .int (Int32.ofNat o), .ref b])) := c6.trans (by
    refine XS.ifNo X5.here hexec rfl (hb hbytes d30) rfl (i0_eq_f hz) ?_
    refine XS.aloadN X5.here hexec rfl (hb hbytes d33) rfl rfl ?_
    refine XS.iloadN X5.here hexec rfl (hb hbytes d34) rfl ?_
    refine XS.iloadN X5.here hexec rfl (hb hbytes d35) rfl ?_
    exact Steps.refl _)
  obtain ⟨v8, T8, X8, E8, g8⟩ := X5.callS hexec (Cmp3.law l b A o len) hown (wks W (staticW "java/lang/String" 177 Cmp3.yN)) (wk W Cmp3.tab) (W := 0) (Nat.le_of_ble_eq_true rfl) (Nat.le_of_ble_eq_true rfl) (Nat.le_refl _) (by show 0 + len ≤ len; omega) (g := (mkF m 36 #[.val (.ref a), .val (.ref b), .val (.int (Int32.ofNat o)), .val (.int (Int32.ofNat len)), .val .null, .unset] [.int (Int32.ofNat len), .int (Int32.ofNat o), .ref b])) rfl (by rw [hml]; rfl) c7 (argsL := [.ref b, .int (Int32.ofNat o), .int (Int32.ofNat len)]) (rest := []) rfl rfl (by show 2 * 0 + 0 ≤ _; decide) (hb hbytes d36) (⟨rfl, hA.mv X5.warmed.alike hh5, l1, l2, hp⟩)
  obtain ⟨e8, z8⟩ := E8
  obtain ⟨rfl, N, n1, n2, n3, n4, n5, n6⟩ := NewArr.mv _ T5 s _ _ hh5.symm (Vm.Alike.refl _) rfl e8
  rw [hh5] at z8
  have hB1 := hB.keep X8.warmed.alike (n6 _ _ hB.1)
  have hne : s.heap.size ≠ a := (Nat.ne_of_lt (Array.getElem?_eq_some_iff.mp hB.1).1).symm
  have c9 : Steps p.tables e below (s₁.setTop (entryFrame m #[.ref a, .ref b, .int (Int32.ofNat o), .int (Int32.ofNat len), .null] 6)) (T8.setTop (mkF m 39 #[.val (.ref a), .val (.ref b), .val (.int (Int32.ofNat o)), .val (.int (Int32.ofNat len)), .val .null, .unset] [.ref s.heap.size])) := g8
  have c10 : Steps p.tables e below (s₁.setTop (entryFrame m #[.ref a, .ref b, .int (Int32.ofNat o), .int (Int32.ofNat len), .null] 6)) (T8.setTop (mkF m 45 #[.val (.ref a), .val (.ref b), .val (.int (Int32.ofNat o)), .val (.int (Int32.ofNat len)), .val .null, .val (.ref s.heap.size)] [.int (Int32.ofNat N.slots.size), .ref s.heap.size, .ref a])) := by
    have hc : Steps p.tables e below (s₁.setTop (entryFrame m #[.ref a, .ref b, .int (Int32.ofNat o), .int (Int32.ofNat len), .null] 6)) (T8.setTop (mkF m 45 #[.val (.ref a), .val (.ref b), .val (.int (Int32.ofNat o)), .val (.int (Int32.ofNat len)), .val .null, .val (.ref s.heap.size)] [.int (Int32.ofNat len), .ref s.heap.size, .ref a])) := c9.trans (by
      refine XS.astore X8.here hexec rfl (hb hbytes d39) rfl rfl rfl ?_
      refine XS.aloadN X8.here hexec rfl (hb hbytes d41) rfl rfl ?_
      refine XS.aload X8.here hexec rfl (hb hbytes d42) rfl rfl ?_
      refine XS.iloadN X8.here hexec rfl (hb hbytes d44) rfl ?_
      exact Steps.refl _)
    rw [n4]; exact hc
  obtain ⟨v11, T11, X11, E11, g11⟩ := X8.callS hexec (CodL.law l s.heap.size N) hown (wks W (staticW "java/lang/String" 47 CodL.yN)) (wk W CodL.tab) (W := 1) (Nat.le_of_ble_eq_true rfl) (Nat.le_of_ble_eq_true rfl) (Nat.le_refl _) (by show 0 + len + 0 ≤ len; omega) (g := (mkF m 45 #[.val (.ref a), .val (.ref b), .val (.int (Int32.ofNat o)), .val (.int (Int32.ofNat len)), .val .null, .val (.ref s.heap.size)] [.int (Int32.ofNat N.slots.size), .ref s.heap.size, .ref a])) rfl (by rw [hml]; rfl) c10 (argsL := [.ref s.heap.size, .int (Int32.ofNat N.slots.size)]) (rest := [.ref a]) rfl rfl (by show 2 * 0 + (1 + 0) ≤ _; decide) (hb hbytes d45) (⟨rfl, n1⟩)
  obtain ⟨rfl, q11⟩ := E11
  have hB11 := hB1.mv (X8.warmed.alike.symm.trans X11.warmed.alike) q11
  have c12 : Steps p.tables e below (s₁.setTop (entryFrame m #[.ref a, .ref b, .int (Int32.ofNat o), .int (Int32.ofNat len), .null] 6)) (T11.setTop (mkF m 48 #[.val (.ref a), .val (.ref b), .val (.int (Int32.ofNat o)), .val (.int (Int32.ofNat len)), .val .null, .val (.ref s.heap.size)] [.int 0, .ref a])) := g11
  obtain ⟨T13, X13, p13, bl13, sl13, st13⟩ := X11.finit hexec hown (wk W (.fieldLink "java/lang/String" 15 "java/lang/String" "coder" "B")) (Or.inr ⟨_, (wk W (.laysFinal "java/lang/String" "java/lang/String" "coder" "B"))⟩) (Or.inl ⟨rfl, hnm⟩) f2 (Or.inl rfl) hB11 (t := .byte) (by decide +kernel) rfl (g := (mkF m 48 #[.val (.ref a), .val (.ref b), .val (.int (Int32.ofNat o)), .val (.int (Int32.ofNat len)), .val .null, .val (.ref s.heap.size)] [.int 0, .ref a])) rfl (rest := []) rfl (hb hbytes d48)
  have c14 : Steps p.tables e below (s₁.setTop (entryFrame m #[.ref a, .ref b, .int (Int32.ofNat o), .int (Int32.ofNat len), .null] 6)) (T13.setTop (mkF m 54 #[.val (.ref a), .val (.ref b), .val (.int (Int32.ofNat o)), .val (.int (Int32.ofNat len)), .val .null, .val (.ref s.heap.size)] [.ref s.heap.size, .ref a])) := (c12.trans (st13 _ (Steps.refl _))).trans (by
    refine XS.aloadN X13.here hexec rfl (hb hbytes d51) rfl rfl ?_
    refine XS.aload X13.here hexec rfl (hb hbytes d52) rfl rfl ?_
    exact Steps.refl _)
  obtain ⟨T15, X15, p15, bl15, sl15, st15⟩ := X13.finit hexec hown (wk W (.fieldLink "java/lang/String" 9 "java/lang/String" "value" "[B")) (Or.inr ⟨_, (wk W (.laysFinal "java/lang/String" "java/lang/String" "value" "[B"))⟩) (Or.inl ⟨rfl, hnm⟩) f1 (Or.inl rfl) bl13 (t := (.array .byte)) (by decide +kernel) rfl (g := (mkF m 54 #[.val (.ref a), .val (.ref b), .val (.int (Int32.ofNat o)), .val (.int (Int32.ofNat len)), .val .null, .val (.ref s.heap.size)] [.ref s.heap.size, .ref a])) rfl (rest := []) rfl (hb hbytes d54)
  have c16 : Steps p.tables e below (s₁.setTop (entryFrame m #[.ref a, .ref b, .int (Int32.ofNat o), .int (Int32.ofNat len), .null] 6)) (T15.setTop (mkF m 57 #[.val (.ref a), .val (.ref b), .val (.int (Int32.ofNat o)), .val (.int (Int32.ofNat len)), .val .null, .val (.ref s.heap.size)] [])) := c14.trans (st15 _ (Steps.refl _))
  have ap := apart (Or.inr ⟨_, (wk W (.laysFinal "java/lang/String" "java/lang/String" "value" "[B"))⟩) (Or.inr ⟨_, (wk W (.laysFinal "java/lang/String" "java/lang/String" "coder" "B"))⟩) f1 f2 (t₁ := .array .byte) (t₂ := .byte) (by decide +kernel) (by decide +kernel) (by decide)
  have al := X8.warmed.alike.symm.trans X15.warmed.alike
  have n7 : T11.heap[s.heap.size]? = some N := by rw [q11]; exact n1.1
  exact ⟨T15, none, _, _, _, X15, by simp, rfl, by omega, (fun _ => rfl), ⟨rfl, _, N, bl15, ((Same.refl D _).set _ (by simp)).set _ (by simp), sl15, (Cell.slots_setSlot_ne _ ap).trans sl13, n1.keep al (p15.other hne (p13.other hne n7)), n2, by rw [al.findClass]; exact n3, n4, n5, fun y c h1 h2 => p15.other h1 (p13.other h1 (by rw [q11]; exact n6 y c h2)), by rw [p15.2.2, p13.2.2, q11]; exact z8⟩, fun fs hl => c16.trans (X15.returnOut hexec hret (hb hbytes d57) hl)⟩
end New4
namespace New1
def yN : MethodName := ⟨"java/lang/String", "<init>", "([C)V"⟩
abbrev yB : ByteArray := jdk_42_method_3_code
theorem d0 : decode yB 0 = .ok (.aload_n 0, 1) := by decide +kernel
theorem d1 : decode yB 1 = .ok (.aload_n 1, 1) := by decide +kernel
theorem d2 : decode yB 2 = .ok (.iconst 0, 1) := by decide +kernel
theorem d3 : decode yB 3 = .ok (.aload_n 1, 1) := by decide +kernel
theorem d4 : decode yB 4 = .ok (.arraylength, 1) := by decide +kernel
theorem d5 : decode yB 5 = .ok (.aconst_null, 1) := by decide +kernel
theorem d6 : decode yB 6 = .ok (.invokespecial 27, 3) := by decide +kernel
theorem d9 : decode yB 9 = .ok (.return_, 1) := by decide +kernel
def site : List Cond := [New4.tab] ++ initW "java/lang/String" 27 New4.yN
def tab : Cond := tabOf yN yB 2 none site
def P (a : Addr) (D : Cell) (fV fC : Field) (b : Addr) (A : Cell) (z : Int32) (args : Array Value) (s : State) : Prop := args = #[.ref a, .ref b] ∧ Blank "java/lang/String" a D s ∧ Found "java/lang/String" "value" "[B" fV s ∧ Found "java/lang/String" "coder" "B" fC s ∧ Ch b A s ∧ StaticIs s "java/lang/String" "COMPACT_STRINGS" "Z" (.int z) ∧ ¬ z = 0 ∧ 0 < A.slots.size ∧ A.slots.size ≤ 536870912 ∧ ∀ i, i < A.slots.size → ¬ 255 < cv A i
def E (a : Addr) (D : Cell) (fV fC : Field) (A : Cell) (r : Option Value) (s u : State) : Prop := Got a D fV fC A 0 A.slots.size r s u
/-- new String(chars), not empty, no char above 255: a Latin-1 String of their low bytes -/
theorem law (l : Launch) (a : Addr) (D : Cell) (fV fC : Field) (b : Addr) (A : Cell) (z : Int32) : Law l yN 2 1 3 52 yB 2 none site (P a D fV fC b A z) (E a D fV fC A) [⟨a, fC.slot⟩, ⟨a, fV.slot⟩] 1 A.slots.size := by
  refine Law.of_walk (plainFor_of_name (by decide +kernel)) (by decide +kernel) (by decide +kernel) (by decide) (fun _ _ h => by rw [h.1]; rfl) (fun _ U U' hal hh h => ⟨h.1, h.2.1.mv hal hh, h.2.2.1.al hal, h.2.2.2.1.al hal, h.2.2.2.2.1.mv hal hh, h.2.2.2.2.2.1.there hal hh, h.2.2.2.2.2.2⟩) (fun r U U' V V' h1 hal h2 h => Got.mv r U U' V V' h1 hal h2 h) ?_
  intro p e s m args below meth c s₁ X0 hexec hbytes hml hret hlk hnm hown hh0 W hP
  obtain ⟨rfl, hB, f1, f2, hA, s1, hz, l0, l2, hp⟩ := hP
  have c1 : Steps p.tables e below (s₁.setTop (entryFrame m #[.ref a, .ref b] 2)) (s₁.setTop (mkF m 0 #[.val (.ref a), .val (.ref b)] [])) := entry rfl
  have c2 : Steps p.tables e below (s₁.setTop (entryFrame m #[.ref a, .ref b] 2)) (s₁.setTop (mkF m 6 #[.val (.ref a), .val (.ref b)] [.null, .int (Int32.ofNat A.slots.size), .int 0, .ref b, .ref a])) := c1.trans (by
    refine XS.aloadN X0.here hexec rfl (hb hbytes d0) rfl rfl ?_
    refine XS.aloadN X0.here hexec rfl (hb hbytes d1) rfl rfl ?_
    refine iconstV X0.here hexec rfl 0 (hb hbytes d2) (by decide) ?_
    refine XS.aloadN X0.here hexec rfl (hb hbytes d3) rfl rfl ?_
    refine X0.alen hexec (hA.1.mv X0.warmed.alike hh0) rfl rfl (hb hbytes d4) ?_
    refine XS.aconstNull X0.here hexec rfl (hb hbytes d5) ?_
    exact Steps.refl _)
  obtain ⟨v3, T3, X3, E3, g3⟩ := X0.callN hexec (New4.law l a D fV fC b A z 0 A.slots.size) rfl hown (wks W (initW "java/lang/String" 27 New4.yN)) (W New4.tab (by simp only [site, List.mem_cons, List.mem_append, true_or, or_true])) (W := 0) (Nat.le_of_ble_eq_true rfl) (Nat.le_of_ble_eq_true rfl) (Nat.le_refl _) (by show 0 + A.slots.size ≤ A.slots.size; omega) (g := (mkF m 6 #[.val (.ref a), .val (.ref b)] [.null, .int (Int32.ofNat A.slots.size), .int (Int32.ofNat 0), .ref b, .ref a])) rfl (by rw [hml]; rfl) c2 (argsL := [.ref b, .int (Int32.ofNat 0), .int (Int32.ofNat A.slots.size), .null]) (rest := []) rfl rfl (by show 2 * 0 + 0 ≤ _; decide) (hb hbytes d6) (⟨rfl, hB.mv X0.warmed.alike hh0, f1.al X0.warmed.alike, f2.al X0.warmed.alike, hA.mv X0.warmed.alike hh0, s1.there X0.warmed.alike hh0, hz, l0, by omega, l2, fun i hi => by rw [Nat.zero_add]; exact hp i hi⟩)
  have e0 := Got.mv _ s₁ s _ _ hh0.symm (Vm.Alike.refl _) rfl E3
  obtain rfl := e0.1
  have c4 : Steps p.tables e below (s₁.setTop (entryFrame m #[.ref a, .ref b] 2)) (T3.setTop (mkF m 9 #[.val (.ref a), .val (.ref b)] [])) := g3
  exact ⟨T3, none, _, _, _, X3, by simp, rfl, by omega, (fun _ => rfl), e0, fun fs hl => c4.trans (X3.returnOut hexec hret (hb hbytes d9) hl)⟩
theorem pays {l : Launch} {R : Room} {p : Program} {e : Env} {below : List Frame} {s : State} {sargs : Array Value} {len W : Nat} (a : Addr) (D : Cell) (fV fC : Field) (b : Addr) (A : Cell) (z : Int32) (htab : tab.before sargs s = true) (hfr : 4 ≤ R.frames) (hlo : W + 65 ≤ R.locals) :
    Back l R p e below s sargs yN len W (fun A₁ a₁ => A₁.cells + 1 ≤ R.cells ∧ A₁.slots + A.slots.size ≤ R.slots ∧ P a D fV fC b A z a₁ A₁.U) (fun A₁ _ v₁ B₁ => E a D fV fC A v₁ A₁.U B₁.U ∧ B₁.locs = A₁.locs ++ [⟨a, fC.slot⟩, ⟨a, fV.slot⟩] ∧ B₁.cells = A₁.cells + 1 ∧ B₁.slots = A₁.slots + A.slots.size) :=
  (law l a D fV fC b A z).pays htab hfr (by omega)
end New1
/-- the byte, read back as charAt reads it, is the char -/
theorem lo8_mask {x : Int32} (h0 : ¬ x < 0) (h1 : ¬ 255 < x) : lo8 x &&& 255 = x := by
  have t : ∀ k : Fin 256, lo8 (Int32.ofNat k.val) &&& 255 = Int32.ofNat k.val := by decide +kernel
  rw [Int32.lt_iff_toInt_lt] at h0 h1
  have e0 : (0 : Int32).toInt = 0 := rfl
  have e1 : (255 : Int32).toInt = 255 := rfl
  obtain ⟨k, hk⟩ : ∃ k : Nat, x.toInt = k := ⟨x.toInt.toNat, by omega⟩
  have hx : x = Int32.ofNat k := Int32.toInt_inj.mp (by rw [hk, Int32.toInt_ofNat_small (by omega)])
  rw [hx]
  exact t ⟨k, by omega⟩
end StrChars
namespace StrChars.Road
open Jvm Sem ClassFile Op Lib Jvm.Stand Jvm.Free Jvm.Free.XT
open Jvm.Lib.Cold (StaticIs)
abbrev ST : String := "java/lang/String"
/-- every table word that New1's law asks, flat -/
abbrev words : List Jvm.Cond := [.code New1.yN New1.yB 2 none, .initialized ST, .methodLink ST 27 New4.yN, .instanceMethod New4.yN,
  .code New4.yN New4.yB 6 none, .fieldLink ST 38 ST "COMPACT_STRINGS" "Z", .laysFinal ST ST "value" "[B", .fieldLink ST 9 ST "value" "[B", .laysFinal ST ST "coder" "B", .fieldLink ST 15 ST "coder" "B",
  .methodLink ST 1 Lib.objectInit, .instanceMethod Lib.objectInit, .code Lib.objectInit ⟨#[0xb1]⟩ 1 none, .methodLink ST 177 Cmp3.yN, .static Cmp3.yN, .methodLink ST 47 CodL.yN, .static CodL.yN,
  .code Cmp3.yN Cmp3.yB 6 (some (.array .byte)), .initialized U16, .arrayClass .byte, .methodLink U16 115 Cmp5.yN, .static Cmp5.yN, .code Cmp5.yN Cmp5.yB 7 (some .int), .code CodL.yN CodL.yB 2 (some .byte)]
theorem tab_of {a : Array Value} {s : State} (h : ∀ w ∈ words, w.before a s = true) : New1.tab.before a s = true := by
  have h5 : Cmp5.tab.before a s = true := unparts (wk h (.code Cmp5.yN Cmp5.yB 7 (some .int))) (wks h (.initialized Cmp5.yN.cls :: Cmp5.site))
  have hc : CodL.tab.before a s = true := unparts (wk h (.code CodL.yN CodL.yB 2 (some .byte))) (wks h (.initialized CodL.yN.cls :: CodL.site))
  have q5 : ∀ w ∈ Cmp5.tab :: words, w.before a s = true := fun w hw => (List.mem_cons.mp hw).elim (fun e => e ▸ h5) (h w)
  have h3 : Cmp3.tab.before a s = true := unparts (wk q5 (.code Cmp3.yN Cmp3.yB 6 (some (.array .byte)))) (wks q5 (.initialized Cmp3.yN.cls :: Cmp3.site))
  have q3 : ∀ w ∈ Cmp3.tab :: CodL.tab :: words, w.before a s = true := fun w hw => (List.mem_cons.mp hw).elim (fun e => e ▸ h3) fun hw => (List.mem_cons.mp hw).elim (fun e => e ▸ hc) (h w)
  have h4 : New4.tab.before a s = true := unparts (wk q3 (.code New4.yN New4.yB 6 none)) (wks q3 (.initialized New4.yN.cls :: New4.site))
  have q4 : ∀ w ∈ New4.tab :: words, w.before a s = true := fun w hw => (List.mem_cons.mp hw).elim (fun e => e ▸ h4) (h w)
  exact unparts (wk q4 (.code New1.yN New1.yB 2 none)) (wks q4 (.initialized New1.yN.cls :: New1.site))
/-- the words ride from the start Z to the walk's own state -/
theorem moved {Z s : State} {a0 args : Array Value} (hZ : Z.Warmed39 s.vm) (hw : ∀ d ∈ words, d.before a0 Z = true) : ∀ d ∈ words, d.before args s = true := fun d hd => by
  have q := hw d hd
  have t : ∀ d ∈ words, d = .arrayClass .byte ∨ (d.onTables && d.keepsFace) = true := by decide +kernel
  rcases t d hd with rfl | t
  · exact RoadKit.mvA hZ q
  · exact RoadKit.mv hZ q t
/-- WHAT COMES BACK, over the tables of the start Z: h the heap at the call, h' behind it -/
def Q (Z : State) (x : Addr) (A : Cell) (h : Heap) (v : Option Value) (h' : Heap) (L : List Loc) : Prop := v = none ∧ (∀ y ∈ L, y.base = x) ∧ RoadKit.Keep h h' [x] ∧ h'.size = h.size + 1 ∧ RoadKit.Exa Z h' x ST ∧ RoadKit.Fld Z h' x ST "value" "[B" (.ref h.size) ∧ RoadKit.Fld Z h' x ST "coder" "B" (.int 0) ∧
  (∃ V : Cell, RoadKit.Arr Z h' h.size V .byte ∧ V.vm = .none ∧ Z.vm.findClass "[B" = some V.cls ∧ V.slots.size = A.slots.size ∧ ∀ j, j < A.slots.size → V.slots[j]? = some (.int (lo8 (cv A j)))) ∧
  ∀ (O n d : String) (w : Value), RoadKit.Fld Z h x O n d w → RoadKit.slotOf Z O n d ≠ RoadKit.slotOf Z ST "value" "[B" → RoadKit.slotOf Z O n d ≠ RoadKit.slotOf Z ST "coder" "B" → RoadKit.Fld Z h' x O n d w
/-- **new String(chars) AT A CALL, IN THE ROAD'S FORM**: for specialBack behind newO: x the fresh String, b the char[] with the cell A -/
theorem back {p : Program} {l : Launch} {e : Env} {R : Room} {s : State} {args : Array Value} {below : List Frame} {len W : Nat} {Z : State} {a0 : Array Value} {h : Heap} (hZ : Z.Warmed39 s.vm) (hw : ∀ d ∈ words, d.before a0 Z = true) {kI : Nat} (wi : (Jvm.Cond.instantiable ST kI).before a0 Z = true)
    {x b : Addr} {A : Cell} {z : Int32} {v0 c0 : Value} (E : RoadKit.Exa Z h x ST) (V : RoadKit.Fld Z h x ST "value" "[B" v0) (C : RoadKit.Fld Z h x ST "coder" "B" c0) (K : RoadKit.Arr Z h b A .char) (hty : Typed .char A) (S : RoadKit.Sta Z h ST "COMPACT_STRINGS" "Z" (.int z)) (hz : ¬ z = 0)
    (l0 : 0 < A.slots.size) (l2 : A.slots.size ≤ 536870912) (hp : ∀ i, i < A.slots.size → ¬ 255 < cv A i) (hfr : 4 ≤ R.frames) (hlo : W + 65 ≤ R.locals) :
    Back l R p e below s args New1.yN len W (fun P a => a = #[.ref x, .ref b] ∧ P.U.heap = h ∧ P.cells + 1 ≤ R.cells ∧ P.slots + A.slots.size ≤ R.slots)
      (fun P _ v B => ∃ L, Q Z x A h v B.U.heap L ∧ B.locs = P.locs ++ L ∧ B.cells = P.cells + 1 ∧ B.slots = P.slots + A.slots.size) := by
  intro m meth c P g ig mk a X hg hsize hdg hW hn hp'
  obtain ⟨rfl, rfl, r1, r2⟩ := hp'
  have al : Z.vm.Alike P.U.vm := hZ.alike.trans X.warmed.alike
  obtain ⟨D, cfV, kV, iV, fV, hD, gV, stV, knV, obV, asV, slV⟩ := id V
  obtain ⟨D', cfC, kC, iC, fC, hD', gC, stC, -, -, asC, slC⟩ := id C
  cases hD.symm.trans hD'
  obtain ⟨D2, kD, e1, e2, e3, e4, e5⟩ := id E
  cases hD.symm.trans e1
  obtain ⟨c2, k2, i1, i2, i3, -⟩ := Cond.instantiable_spec wi
  cases e2.symm.trans i1
  cases e3.symm.trans i2
  obtain ⟨kU, u1, u2⟩ := al.2.2 _ _ e3
  have hB : Blank ST x D P.U := ⟨hD, ⟨knV, fun q hq => by rw [hq] at obV; cases obV⟩, by rw [al.findClass]; exact e2, kU, u1, by rw [u2]; exact i3, by rw [u2]; exact e5 i3⟩
  have F1 : Found ST "value" "[B" fV P.U := ⟨SBG.found_only al ⟨cfV, kV, iV, gV⟩, stV⟩
  have F2 : Found ST "coder" "B" fC P.U := ⟨SBG.found_only al ⟨cfC, kC, iC, gC⟩, stC⟩
  have hA : Ch b A P.U := ⟨⟨K.1, State.isArrayOf_alike al K.2.1, K.2.2, by omega⟩, hty⟩
  have hS : StaticIs P.U ST "COMPACT_STRINGS" "Z" (.int z) := by
    obtain ⟨cfS, iS, kS, fS, st, cS, t1, t2, t3, t4, t5, t6, t7⟩ := S
    exact StaticIs.there (s := { Z with heap := P.U.heap }) ⟨cfS, iS, kS, fS, st, cS, t1, t2, t3, t4, t5, (fun q => by rw [q] at t6; cases t6), t7⟩ al rfl
  obtain ⟨v, B, X', ⟨⟨hv, E', V', q1, q2, q3, q4, q5, q6, q7, q8, q9, q10, q11⟩, hl, hc, hs⟩, st⟩ := New1.pays x D fV fC b A z (tab_of (moved hZ hw)) hfr hlo m meth c P g ig mk _ X hg hsize hdg hW hn ⟨r1, r2, rfl, hB, F1, F2, hA, hS, hz, l0, l2, hp⟩
  have al' : Z.vm.Alike B.U.vm := hZ.alike.trans X'.warmed.alike
  have hsz : E'.slots.size = D.slots.size := by
    obtain ⟨-, -, -, kB, w1, w2, w3⟩ := q1
    obtain ⟨kB', y1, y2⟩ := al'.2.2 _ _ e3
    rw [q2.2.1] at w1
    cases w1.symm.trans y1
    rw [w3, e5 i3, y2]
  refine ⟨v, B, X', ⟨_, ⟨hv, ?_, ⟨by omega, fun y cy hy hn' => q10 y cy (by simpa using hn') hy, fun y cy hy => ?_⟩, q11, ⟨E', _, q1.1, by rw [q2.2.1]; exact e2, by rw [q2.2.1]; exact e3, by rw [q2.1]; exact obV, fun _ => by rw [hsz]; exact e5 i3⟩,
    ⟨E', cfV, kV, iV, fV, q1.1, gV, stV, by rw [q2.1]; exact knV, by rw [q2.1]; exact obV, by rw [q2.2.1]; exact asV, q3⟩, ⟨E', cfC, kC, iC, fC, q1.1, gC, stC, by rw [q2.1]; exact knV, by rw [q2.1]; exact obV, by rw [q2.2.1]; exact asC, q4⟩,
    ⟨V', ⟨q5.1, State.isArrayOf_alike al'.symm q5.2.1, q5.2.2.1⟩, q6, by rw [← al'.findClass]; exact q7, q8, fun j hj => by have := q9 j hj; rwa [Nat.zero_add] at this⟩, fun O n d w F n1 n2 => ?_⟩, hl, hc, hs⟩, st⟩
  · intro y hy
    simp only [List.mem_cons, List.not_mem_nil, or_false] at hy
    rcases hy with rfl | rfl <;> rfl
  · by_cases q : y = x
    · subst q
      cases hD.symm.trans hy
      exact ⟨E', q1.1, q2.2.1, q2.1, hsz⟩
    · exact ⟨cy, q10 y cy q hy, rfl, rfl, rfl⟩
  · obtain ⟨D3, cf, k, i, f, g1, g2, g3, g4, g5, g6, g7⟩ := F
    cases hD.symm.trans g1
    simp only [RoadKit.slotOf, g2, gV, gC, Option.map_some, Option.getD_some] at n1 n2
    exact ⟨E', cf, k, i, f, q1.1, g2, g3, by rw [q2.1]; exact g4, by rw [q2.1]; exact g5, by rw [q2.2.1]; exact g6, by rw [q2.2.2 f.slot (by simp [n1, n2])]; exact g7⟩
end StrChars.Road
namespace StrChars.Road
open Jvm Sem ClassFile Op Lib Jvm.Stand Jvm.Free Jvm.Free.XT
/-- WHAT COMES BACK, the byte[] as a list of values -/
def QA (Z : State) (x : Addr) (zn : Int32) (cs : List Int32) (h : Heap) (v : Option Value) (h' : Heap) (L : List Loc) : Prop := v = none ∧ (∀ y ∈ L, y.base = x) ∧ RoadKit.Keep h h' [x] ∧ h'.size = h.size + 1 ∧ RoadKit.Exa Z h' x ST ∧ RoadKit.Fld Z h' x ST "value" "[B" (.ref h.size) ∧ RoadKit.Fld Z h' x ST "coder" "B" (.int 0) ∧
  (∃ kb, Z.vm.findClass "[B" = some kb ∧ RoadKit.Arv Z h' h.size kb .byte zn (cs.map fun c => .int (lo8 c)) (.int 0)) ∧
  ∀ (O n d : String) (w : Value), RoadKit.Fld Z h x O n d w → RoadKit.slotOf Z O n d ≠ RoadKit.slotOf Z ST "value" "[B" → RoadKit.slotOf Z O n d ≠ RoadKit.slotOf Z ST "coder" "B" → RoadKit.Fld Z h' x O n d w
/-- **new String(chars) AT A CALL, THE ARRAYS AS LISTS**: the char[] at b holds cs, not empty, no char above 255 -/
theorem backArv {p : Program} {l : Launch} {e : Env} {R : Room} {s : State} {args : Array Value} {below : List Frame} {len W : Nat} {Z : State} {a0 : Array Value} {h : Heap} (hZ : Z.Warmed39 s.vm) (hw : ∀ d ∈ words, d.before a0 Z = true) {kI : Nat} (wi : (Jvm.Cond.instantiable ST kI).before a0 Z = true)
    {x b : Addr} {k : ClassId} {zn z : Int32} {cs : List Int32} {dv v0 c0 : Value} (E : RoadKit.Exa Z h x ST) (V : RoadKit.Fld Z h x ST "value" "[B" v0) (C : RoadKit.Fld Z h x ST "coder" "B" c0) (K : RoadKit.Arv Z h b k .char zn (cs.map Value.int) dv) (S : RoadKit.Sta Z h ST "COMPACT_STRINGS" "Z" (.int z)) (hz : ¬ z = 0)
    (hlen : zn.toNatClampNeg = cs.length) (h0 : 0 < cs.length) (hbig : cs.length ≤ 536870912) (hall : ∀ c ∈ cs, ¬ 255 < c) (hfr : 4 ≤ R.frames) (hlo : W + 65 ≤ R.locals) :
    Back l R p e below s args New1.yN len W (fun P a => a = #[.ref x, .ref b] ∧ P.U.heap = h ∧ P.cells + 1 ≤ R.cells ∧ P.slots + cs.length ≤ R.slots)
      (fun P _ v B => ∃ L, QA Z x zn cs h v B.U.heap L ∧ B.locs = P.locs ++ L ∧ B.cells = P.cells + 1 ∧ B.slots = P.slots + cs.length) := by
  obtain ⟨A, K1, K2, K3, K4, K5, K6⟩ := K
  have e : A.slots.size = cs.length := K3.trans hlen
  have hat : ∀ (i : Nat) (hi : i < cs.length), A.slots[i]? = some (.int cs[i]) := fun i hi => by rw [K5 i (by omega)]; simp [List.getD_eq_getElem?_getD, hi]
  have hcv : ∀ (i : Nat) (hi : i < cs.length), cv A i = cs[i] := fun i hi => by unfold cv; rw [hat i hi]
  have hty : Typed .char A := fun i v hv => by
    have hi : i < A.slots.size := (Array.getElem?_eq_some_iff.mp hv).1
    have q := K5 i hi
    rw [hv] at q
    rw [Option.some.inj q]
    exact K6 i hi
  refine Back.mono (back hZ hw wi E V C K1 hty S hz (by omega) (by omega) (fun i hi => by rw [hcv i (by omega)]; exact hall _ (List.getElem_mem _)) hfr hlo) (fun P a hp => ⟨hp.1, hp.2.1, hp.2.2.1, by rw [e]; exact hp.2.2.2⟩) (fun P a v B hp hq => ?_)
  obtain ⟨L, ⟨q1, q2, q3, q4, q5, q6, q7, ⟨V', v1, v2, v3, v4, v5⟩, q9⟩, hl, hc, hs⟩ := hq
  refine ⟨L, ⟨q1, q2, q3, q4, q5, q6, q7, ⟨V'.cls, v3, V', v1, rfl, by rw [v4, e, hlen], K4, fun i hi => ?_, fun i hi => ?_⟩, q9⟩, hl, hc, by rw [hs, e]⟩
  · have hi' : i < cs.length := by omega
    rw [v5 i (by omega), hcv i hi']; simp [List.getD_eq_getElem?_getD, hi']
  · have hi' : i < cs.length := by omega
    simp only [List.getD_eq_getElem?_getD, List.getElem?_map, List.getElem?_eq_getElem hi', Option.map_some, Option.getD_some]
    exact fits_lo8 _
end StrChars.Road
namespace StrChars.Road
open Jvm Sem ClassFile Op Lib Jvm.Stand Jvm.Free Jvm.Free.XT
/-- WHAT COMES BACK, in the writer's own shape -/
def QV (Z : State) (x : Addr) (N : Int32) (bs : List Int32) (h : Heap) (n0 : Nat) (v : Option Value) (h' : Heap) (L : List Loc) : Prop := v = none ∧ RoadKit.Fr n0 L ∧ RoadKit.Keep h h' [x] ∧ RoadKit.Exa Z h' x ST ∧ RoadKit.Fld Z h' x ST "coder" "B" (.int 0) ∧
  ∃ (t : Addr) (kb : ClassId), n0 ≤ t ∧ h.size ≤ t ∧ ¬ t = x ∧ RoadKit.Fld Z h' x ST "value" "[B" (.ref t) ∧ RoadKit.Arv Z h' t kb .byte N (bs.map Value.int) (.int 0)
/-- **new String(chars) AT A CALL, FOR THE WRITER**: a char[] of n known ints, each 0 to 255 -/
theorem backV {p : Program} {l : Launch} {e : Env} {R : Room} {s : State} {args : Array Value} {below : List Frame} {len W : Nat} {Z : State} {a0 : Array Value} {h : Heap} (hZ : Z.Warmed39 s.vm) (hw : ∀ d ∈ words, d.before a0 Z = true) {kI : Nat} (wi : (Jvm.Cond.instantiable ST kI).before a0 Z = true)
    {x b : Addr} {kC : ClassId} {cs bs : List Int32} {d v0 c0 : Value} {z N : Int32} {n n0 : Nat} (hx0 : n0 ≤ x) (hh0 : n0 ≤ h.size) (E : RoadKit.Exa Z h x ST) (V : RoadKit.Fld Z h x ST "value" "[B" v0) (C : RoadKit.Fld Z h x ST "coder" "B" c0) (K : RoadKit.Arv Z h b kC .char N (cs.map Value.int) d) (S : RoadKit.Sta Z h ST "COMPACT_STRINGS" "Z" (.int z)) (hz : ¬ z = 0)
    (hn : cs.length = n) (hN : N = Int32.ofNat n) (l0 : 0 < n) (l2 : n ≤ 4000) (hp : ∀ c ∈ cs, ¬ c < 0 ∧ ¬ (255 : Int32) < c) (hb : bs = cs.map (fun c => c.toInt8.toInt32)) (hfr : 4 ≤ R.frames) (hlo : W + 65 ≤ R.locals) :
    Back l R p e below s args (⟨"java/lang/String", "<init>", "([C)V"⟩ : MethodName) len W (fun P a => a = #[.ref x, .ref b] ∧ P.U.heap = h ∧ P.cells + 1 ≤ R.cells ∧ P.slots + n ≤ R.slots)
      (fun P _ v B => ∃ L, QV Z x N bs h n0 v B.U.heap L ∧ B.locs = P.locs ++ L ∧ B.cells = P.cells + 1 ∧ B.slots = P.slots + n) := by
  subst hn hN hb
  refine Back.mono (backArv hZ hw wi E V C K S hz (n32 (by omega)) l0 (by omega) (fun c hc => (hp c hc).2) hfr hlo) (fun P a hp => hp) (fun P a v B hp hq => ?_)
  obtain ⟨L, ⟨q1, q2, q3, q4, q5, q6, q7, ⟨kb, v1, v2⟩, q9⟩, hl, hc, hs⟩ := hq
  exact ⟨L, ⟨q1, fun y hy => by rw [q2 y hy]; exact hx0, q3, q5, q7, h.size, kb, hh0, Nat.le_refl _, Nat.ne_of_gt E.lt, q6, by rw [List.map_map]; exact v2⟩, hl, hc, hs⟩
end StrChars.Road
namespace StrChars
open Jvm Sem ClassFile Op Lib Jvm.Stand Jvm.Free.XT Jvm.Free.ALB Jvm.Free.JM Jvm.Free
open Jvm.Lib.Cold (StaticIs)
def hi8 (x : Int32) : Int32 := lo8 (x >>> ((8 : Int32) &&& 31))
/-- what StringUTF16.getChar makes of two bytes -/
def pairCh (u v : Int32) : Int32 := (((u &&& 255) <<< ((0 : Int32) &&& 31)) ||| ((v &&& 255) <<< ((8 : Int32) &&& 31))).toUInt32.toUInt16.toUInt32.toInt32
theorem lo8_and (x : Int32) : (lo8 x &&& 255).toBitVec.toNat = x.toBitVec.toNat % 256 := by
  have h : (lo8 x).toBitVec = (x.toBitVec.signExtend 8).signExtend 32 := by rw [lo8, Int8.toBitVec_toInt32, Int32.toBitVec_toInt8]
  rw [Int32.toBitVec_and, BitVec.toNat_and, h]
  have e : ((x.toBitVec.signExtend 8).signExtend 32).toNat % 256 = x.toBitVec.toNat % 256 := by
    rw [BitVec.toNat_signExtend]
    have hlt := x.toBitVec.isLt
    simp only [BitVec.toNat_setWidth, BitVec.toNat_signExtend]
    split <;> split <;> omega
  rw [← e]
  exact Nat.and_two_pow_sub_one_eq_mod _ 8
theorem pair_says {c : Int32} (h0 : ¬ c < 0) (h1 : ¬ 65535 < c) : pairCh (lo8 c) (hi8 c) = c := by
  rw [Int32.lt_iff_toInt_lt] at h0 h1
  have e0 : (0 : Int32).toInt = 0 := rfl
  have e1 : (65535 : Int32).toInt = 65535 := rfl
  have hc : c.toInt = c.toBitVec.toNat := by
    have := c.toBitVec.isLt
    have e : c.toInt = c.toBitVec.toInt := rfl
    rw [e] at h0 h1
    rw [e]
    rw [BitVec.toInt_eq_toNat_cond] at h0 h1 ⊢
    split at h0 <;> split <;> omega
  have hn : c.toBitVec.toNat < 65536 := by omega
  have a1 := lo8_and c
  have a2 : (hi8 c &&& 255).toBitVec.toNat = c.toBitVec.toNat / 256 := by
    rw [hi8, lo8_and]
    have e : ((8 : Int32) &&& 31) = 8 := by decide
    rw [e, Int32.toBitVec_shiftRight]
    have e2 : ((8 : Int32).toBitVec.smod 32) = 8#32 := by decide
    rw [e2, BitVec.sshiftRight_eq', BitVec.toNat_sshiftRight_of_msb_false (by rw [BitVec.msb_eq_false_iff_two_mul_lt]; omega)]
    show c.toBitVec.toNat >>> 8 % 256 = _
    rw [Nat.shiftRight_eq_div_pow]
    omega
  unfold pairCh
  apply Int32.toBitVec_inj.mp
  apply BitVec.eq_of_toNat_eq
  have f0 : ((0 : Int32) &&& 31) = 0 := by decide
  have f8 : ((8 : Int32) &&& 31) = 8 := by decide
  rw [f0, f8]
  have g : (((lo8 c &&& 255) <<< (0 : Int32)) ||| ((hi8 c &&& 255) <<< (8 : Int32))).toBitVec.toNat = c.toBitVec.toNat := by
    rw [Int32.toBitVec_or, Int32.toBitVec_shiftLeft, Int32.toBitVec_shiftLeft]
    have s0 : ((0 : Int32).toBitVec.smod 32) = 0#32 := by decide
    have s8 : ((8 : Int32).toBitVec.smod 32) = 8#32 := by decide
    rw [s0, s8, BitVec.toNat_or]
    simp only [BitVec.shiftLeft_eq', BitVec.toNat_shiftLeft, a1, a2]
    show (c.toBitVec.toNat % 256) <<< 0 % 2 ^ 32 ||| (c.toBitVec.toNat / 256) <<< 8 % 2 ^ 32 = _
    rw [Nat.shiftLeft_zero, Nat.mod_eq_of_lt (show c.toBitVec.toNat % 256 < 2 ^ 32 by omega), Nat.mod_eq_of_lt (show (c.toBitVec.toNat / 256) <<< 8 < 2 ^ 32 by rw [Nat.shiftLeft_eq]; omega), Nat.or_comm, ← Nat.shiftLeft_add_eq_or_of_lt (by omega), Nat.shiftLeft_eq]
    omega
  show BitVec.toNat (((((lo8 c &&& 255) <<< (0 : Int32)) ||| ((hi8 c &&& 255) <<< (8 : Int32))).toBitVec.setWidth 16).setWidth 32) = _
  rw [BitVec.toNat_setWidth, BitVec.toNat_setWidth, g]
  omega
end StrChars
namespace StrChars
open Jvm Sem ClassFile Op Lib Jvm.Stand Jvm.Free.XT Jvm.Free.ALB Jvm.Free.JM Jvm.Free
open Jvm.Lib.Cold (StaticIs)
/-- charAt's cast of a byte read back -/
def chr8 (u : Int32) : Int32 := (u &&& 255).toUInt32.toUInt16.toUInt32.toInt32
theorem chr8_lo8 {c : Int32} (h0 : ¬ c < 0) (h1 : ¬ 255 < c) : chr8 (lo8 c) = c := by
  have t : ∀ k : Fin 256, (Int32.ofNat k.val).toUInt32.toUInt16.toUInt32.toInt32 = Int32.ofNat k.val := by decide +kernel
  unfold chr8
  rw [lo8_mask h0 h1]
  rw [Int32.lt_iff_toInt_lt] at h0 h1
  have e0 : (0 : Int32).toInt = 0 := rfl
  have e1 : (255 : Int32).toInt = 255 := rfl
  obtain ⟨k, hk⟩ : ∃ k : Nat, c.toInt = k := ⟨c.toInt.toNat, by omega⟩
  have hx : c = Int32.ofNat k := Int32.toInt_inj.mp (by rw [hk, Int32.toInt_ofNat_small (by omega)])
  rw [hx]
  exact t ⟨k, by omega⟩
theorem narrow_ch {c : Int32} (h0 : ¬ c < 0) (h1 : ¬ 65535 < c) : narrow .char (.int c) = .int c := by
  have q : narrow .char (.int (pairCh (lo8 c) (hi8 c))) = .int (pairCh (lo8 c) (hi8 c)) := narrow_c _
  rwa [pair_says h0 h1] at q
/-- the array's cell V codes the n chars f 0 .. f (n - 1) by the coder cd, as the JDK does: coder 1 just where some char is above 255 -/
def Cod (cd : Int32) (n : Nat) (f : Nat → Int32) (V : Cell) : Prop := (cd = 0 ∧ V.slots.size = n ∧ ∀ j, j < n → V.slots[j]? = some (.int (lo8 (f j))) ∧ ¬ 255 < f j) ∨ (cd = 1 ∧ V.slots.size = 2 * n ∧ (∀ j, j < n → V.slots[2 * j]? = some (.int (lo8 (f j))) ∧ V.slots[2 * j + 1]? = some (.int (hi8 (f j)))) ∧ ∃ j, j < n ∧ 255 < f j)
theorem Cod.cd {cd : Int32} {n : Nat} {f : Nat → Int32} {V : Cell} (h : Cod cd n f V) : cd = 0 ∨ cd = 1 := h.imp (fun q => q.1) fun q => q.1
/-- **x is a String of the n chars f 0 .. f (n - 1)**, Latin-1 or UTF-16; its array at t has the cell V -/
def Txt (x t : Addr) (V : Cell) (cd : Int32) (n : Nat) (f : Nat → Int32) (U : State) : Prop := Exact "java/lang/String" x U ∧ Has x "java/lang/String" "value" "[B" (.ref t) U ∧ Has x "java/lang/String" "coder" "B" (.int cd) U ∧ XT.Arr .byte t V U ∧ Cod cd n f V ∧ ∀ j, j < n → ¬ f j < 0 ∧ ¬ 65535 < f j
theorem Txt.mv {x t : Addr} {V : Cell} {cd : Int32} {n : Nat} {f : Nat → Int32} {U U' : State} (h : Txt x t V cd n f U) (hal : U.vm.Alike U'.vm) (hh : U'.heap = U.heap) : Txt x t V cd n f U' := ⟨h.1.mv hal hh, h.2.1.mv hal hh, h.2.2.1.mv hal hh, h.2.2.2.1.mv hal hh, h.2.2.2.2⟩
namespace IsL
def yN : MethodName := ⟨"java/lang/String", "isLatin1", "()Z"⟩
abbrev yB : ByteArray := jdk_42_method_154_code
theorem d0 : decode yB 0 = .ok (.getstatic 38, 3) := by decide +kernel
theorem d3 : decode yB 3 = .ok (.ifCond (.eq) 14, 3) := by decide +kernel
theorem d6 : decode yB 6 = .ok (.aload_n 0, 1) := by decide +kernel
theorem d7 : decode yB 7 = .ok (.getfield 15, 3) := by decide +kernel
theorem d10 : decode yB 10 = .ok (.ifCond (.ne) 7, 3) := by decide +kernel
theorem d13 : decode yB 13 = .ok (.iconst 1, 1) := by decide +kernel
theorem d14 : decode yB 14 = .ok (.goto 4, 3) := by decide +kernel
theorem d17 : decode yB 17 = .ok (.iconst 0, 1) := by decide +kernel
theorem d18 : decode yB 18 = .ok (.ireturn, 1) := by decide +kernel
def site : List Cond := [.fieldLink "java/lang/String" 38 "java/lang/String" "COMPACT_STRINGS" "Z", .fieldLink "java/lang/String" 15 "java/lang/String" "coder" "B"]
def tab : Cond := tabOf yN yB 1 (some .boolean) site
def P (x : Addr) (cd z : Int32) (args : Array Value) (s : State) : Prop := args = #[.ref x] ∧ Has x "java/lang/String" "coder" "B" (.int cd) s ∧ (cd = 0 ∨ cd = 1) ∧ StaticIs s "java/lang/String" "COMPACT_STRINGS" "Z" (.int z) ∧ ¬ z = 0
def E (cd : Int32) (r : Option Value) (s u : State) : Prop := XT.PureE (some (.int (1 - cd))) r s u
theorem law (l : Launch) (x : Addr) (cd z : Int32) : Law l yN 1 0 0 0 yB 1 (some .boolean) site (P x cd z) (E cd) [] 0 0 := by
  refine Law.of_walk (plainFor_of_name (by decide +kernel)) (by decide +kernel) (by decide +kernel) (by decide) (fun _ _ h => by rw [h.1]; rfl) (fun _ U U' hal hh h => ⟨h.1, h.2.1.mv hal hh, h.2.2.1, h.2.2.2.1.there hal hh, h.2.2.2.2⟩) (fun r U U' V V' h1 hal h2 h => XT.PureE.mv r U U' V V' h1 hal h2 h) ?_
  intro p e s m args below meth c s₁ X0 hexec hbytes hml hret hlk hnm hown hh0 W hP
  obtain ⟨rfl, hx, hc, s1, hz⟩ := hP
  have c1 : Steps p.tables e below (s₁.setTop (entryFrame m #[.ref x] 1)) (s₁.setTop (mkF m 0 #[.val (.ref x)] [])) := entry rfl
  obtain ⟨T2, X2, q2, st2⟩ := X0.sget hexec hown (wk W (.fieldLink "java/lang/String" 38 "java/lang/String" "COMPACT_STRINGS" "Z")) s1 (fun _ _ h => by rw [hh0]; exact h) (g := (mkF m 0 #[.val (.ref x)] [])) rfl (hb hbytes d0)
  have hh2 := q2.trans hh0
  have c3 : Steps p.tables e below (s₁.setTop (entryFrame m #[.ref x] 1)) (T2.setTop (mkF m 7 #[.val (.ref x)] [.ref x])) := (c1.trans (st2 _ (Steps.refl _))).trans (by
    refine XS.ifNo X2.here hexec rfl (hb hbytes d3) rfl (i0_eq_f hz) ?_
    refine XS.aloadN X2.here hexec rfl (hb hbytes d6) rfl rfl ?_
    exact Steps.refl _)
  obtain ⟨T4, X4, q4, st4⟩ := X2.hget hexec hown (wk W (.fieldLink "java/lang/String" 15 "java/lang/String" "coder" "B")) (hx.mv X2.warmed.alike hh2) (g := (mkF m 7 #[.val (.ref x)] [.ref x])) rfl (rest := []) rfl (hb hbytes d7)
  have c5 : Steps p.tables e below (s₁.setTop (entryFrame m #[.ref x] 1)) (T4.setTop (mkF m 10 #[.val (.ref x)] [.int cd])) := c3.trans (st4 _ (Steps.refl _))
  have c6 : Steps p.tables e below (s₁.setTop (entryFrame m #[.ref x] 1)) (T4.setTop (mkF m 18 #[.val (.ref x)] [.int (1 - cd)])) := by
    rcases hc with rfl | rfl
    · exact c5.trans (by
        refine XS.ifNo X4.here hexec rfl (hb hbytes d10) rfl (i0_ne_f rfl) ?_
        refine iconstV X4.here hexec rfl 1 (hb hbytes d13) (by decide) ?_
        refine XS.goto X4.here hexec rfl (pc0 := 14) rfl (hb hbytes d14) (by decide) rfl ?_
        exact Steps.refl _)
    · exact c5.trans (by
        refine XS.ifYes X4.here hexec rfl (pc0 := 10) rfl (hb hbytes d10) rfl (i0_ne_t (by decide)) (by decide) rfl ?_
        refine iconstV X4.here hexec rfl 0 (hb hbytes d17) (by decide) ?_
        exact Steps.refl _)
  exact ⟨T4, some (.int (1 - cd)), _, _, _, X4, rfl, rfl, rfl, (fun h => by cases h), ⟨rfl, q4.trans hh2⟩, fun fs hl => c6.trans (X4.ireturnOut hexec hret (by rcases hc with rfl | rfl <;> rfl) (Or.inr (Or.inl rfl)) (hb hbytes d18) hl)⟩
end IsL
namespace LChA
def yN : MethodName := ⟨"java/lang/StringLatin1", "charAt", "([BI)C"⟩
abbrev yB : ByteArray := jdk_43_method_2_code
theorem d0 : decode yB 0 = .ok (.iload_n 1, 1) := by decide +kernel
theorem d1 : decode yB 1 = .ok (.aload_n 0, 1) := by decide +kernel
theorem d2 : decode yB 2 = .ok (.arraylength, 1) := by decide +kernel
theorem d3 : decode yB 3 = .ok (.invokestatic 9, 3) := by decide +kernel
theorem d6 : decode yB 6 = .ok (.aload_n 0, 1) := by decide +kernel
theorem d7 : decode yB 7 = .ok (.iload_n 1, 1) := by decide +kernel
theorem d8 : decode yB 8 = .ok (.baload, 1) := by decide +kernel
theorem d9 : decode yB 9 = .ok (.sipush 255, 3) := by decide +kernel
theorem d12 : decode yB 12 = .ok (.iand, 1) := by decide +kernel
theorem d13 : decode yB 13 = .ok (.i2c, 1) := by decide +kernel
theorem d14 : decode yB 14 = .ok (.ireturn, 1) := by decide +kernel
def site : List Cond := [JO.Str_checkIndex.tab] ++ staticW "java/lang/StringLatin1" 9 JO.Str_checkIndex.yN
def tab : Cond := tabOf yN yB 2 (some .char) site
def P (t : Addr) (V : Cell) (i : Nat) (u : Int32) (fm : Value) (args : Array Value) (s : State) : Prop := args = #[.ref t, .int (Int32.ofNat i)] ∧ XT.Arr .byte t V s ∧ V.slots[i]? = some (.int u) ∧ (StaticIs s "jdk/internal/util/Preconditions" "SIOOBE_FORMATTER" "Ljava/util/function/BiFunction;" fm ∧ fm.isRef = true)
def E (u : Int32) (r : Option Value) (s w : State) : Prop := XT.PureE (some (.int (chr8 u))) r s w
theorem law (l : Launch) (t : Addr) (V : Cell) (i : Nat) (u : Int32) (fm : Value) : Law l yN 2 2 2 27 yB 2 (some .char) site (P t V i u fm) (E u) [] 0 0 := by
  refine Law.of_walk (plainFor_of_name (by decide +kernel)) (by decide +kernel) (by decide +kernel) (by decide) (fun _ _ h => by rw [h.1]; rfl) (fun _ U U' hal hh h => ⟨h.1, h.2.1.mv hal hh, h.2.2.1, h.2.2.2.1.there hal hh, h.2.2.2.2⟩) (fun r U U' V V' h1 hal h2 h => XT.PureE.mv r U U' V V' h1 hal h2 h) ?_
  intro p e s m args below meth c s₁ X0 hexec hbytes hml hret hlk hnm hown hh0 W hP
  obtain ⟨rfl, hV, hu, s1, rf⟩ := hP
  have v31 := hV.2.2.2
  have hi : i < V.slots.size := (Array.getElem?_eq_some_iff.mp hu).1
  have c1 : Steps p.tables e below (s₁.setTop (entryFrame m #[.ref t, .int (Int32.ofNat i)] 2)) (s₁.setTop (mkF m 0 #[.val (.ref t), .val (.int (Int32.ofNat i))] [])) := entry rfl
  have c2 : Steps p.tables e below (s₁.setTop (entryFrame m #[.ref t, .int (Int32.ofNat i)] 2)) (s₁.setTop (mkF m 3 #[.val (.ref t), .val (.int (Int32.ofNat i))] [.int (Int32.ofNat V.slots.size), .int (Int32.ofNat i)])) := c1.trans (by
    refine XS.iloadN X0.here hexec rfl (hb hbytes d0) rfl ?_
    refine XS.aloadN X0.here hexec rfl (hb hbytes d1) rfl rfl ?_
    refine X0.alen hexec (hV.mv X0.warmed.alike hh0) rfl rfl (hb hbytes d2) ?_
    exact Steps.refl _)
  obtain ⟨v3, T3, X3, E3, g3⟩ := X0.callS hexec (JO.Str_checkIndex.law l (Int32.ofNat i) (Int32.ofNat V.slots.size) fm) hown (wks W (staticW "java/lang/StringLatin1" 9 JO.Str_checkIndex.yN)) (wk W JO.Str_checkIndex.tab) (W := 0) (Nat.le_of_ble_eq_true rfl) (Nat.le_of_ble_eq_true rfl) (Nat.le_refl _) (Nat.le_refl _) (g := (mkF m 3 #[.val (.ref t), .val (.int (Int32.ofNat i))] [.int (Int32.ofNat V.slots.size), .int (Int32.ofNat i)])) rfl (by rw [hml]; rfl) c2 (argsL := [.int (Int32.ofNat i), .int (Int32.ofNat V.slots.size)]) (rest := []) rfl rfl (by show 2 * 0 + 0 ≤ _; decide) (hb hbytes d3) (⟨rfl, rf, s1.there X0.warmed.alike hh0, Int32.ofNat_not_neg (by omega), lt32 v31 hi⟩)
  obtain ⟨rfl, q3⟩ := E3
  have hh3 := q3.trans hh0
  have c4 : Steps p.tables e below (s₁.setTop (entryFrame m #[.ref t, .int (Int32.ofNat i)] 2)) (T3.setTop (mkF m 14 #[.val (.ref t), .val (.int (Int32.ofNat i))] [.int (chr8 u)])) := Steps.trans g3 (by
    refine XS.aloadN X3.here hexec rfl (hb hbytes d6) rfl rfl ?_
    refine XS.iloadN X3.here hexec rfl (hb hbytes d7) rfl ?_
    refine X3.aget hexec (hV.mv X3.warmed.alike hh3) rfl hu rfl rfl (hb hbytes d8) ?_
    refine sipushV X3.here hexec rfl 255 (hb hbytes d9) (by decide) ?_
    refine XS.iand X3.here hexec rfl (hb hbytes d12) rfl ?_
    refine i2c X3.here hexec rfl (hb hbytes d13) rfl ?_
    exact Steps.refl _)
  exact ⟨T3, some (.int (chr8 u)), _, _, _, X3, rfl, rfl, rfl, (fun h => by cases h), ⟨rfl, hh3⟩, fun fs hl => c4.trans (X3.ireturnOut hexec hret (narrow_c _) (Or.inr (Or.inr (Or.inr (Or.inl rfl)))) (hb hbytes d14) hl)⟩
end LChA
end StrChars
namespace StrChars.Road
open Jvm Sem ClassFile Op Lib Jvm.Stand Jvm.Free Jvm.Free.XT
open Jvm.Lib.Cold (StaticIs)
theorem consq {a : Array Value} {s : State} {c : Jvm.Cond} {L : List Jvm.Cond} (h0 : c.before a s = true) (h : ∀ w ∈ L, w.before a s = true) : ∀ w ∈ c :: L, w.before a s = true := fun w hw => (List.mem_cons.mp hw).elim (fun e => e ▸ h0) (h w)
/-- the bytes of the chars cs, low before high -/
def wideBytes : List Int32 → List Value
  | [] => []
  | c :: cs => .int (lo8 c) :: .int (hi8 c) :: wideBytes cs
theorem wide_lo (d : Value) : ∀ (cs : List Int32) (j : Nat), j < cs.length → (wideBytes cs).getD (2 * j) d = .int (lo8 (cs.getD j 0))
  | [], j, h => absurd h (Nat.not_lt_zero j)
  | c :: cs, 0, _ => rfl
  | c :: cs, j + 1, h => by
    have q := wide_lo d cs j (by simpa using h)
    rw [show 2 * (j + 1) = 2 * j + 1 + 1 from by omega]
    simpa [wideBytes] using q
theorem wide_hi (d : Value) : ∀ (cs : List Int32) (j : Nat), j < cs.length → (wideBytes cs).getD (2 * j + 1) d = .int (hi8 (cs.getD j 0))
  | [], j, h => absurd h (Nat.not_lt_zero j)
  | c :: cs, 0, _ => rfl
  | c :: cs, j + 1, h => by
    have q := wide_hi d cs j (by simpa using h)
    rw [show 2 * (j + 1) + 1 = 2 * j + 1 + 1 + 1 from by omega]
    simpa [wideBytes] using q
theorem low_at (d : Value) (cs : List Int32) (j : Nat) (h : j < cs.length) : (cs.map fun c => Value.int (lo8 c)).getD j d = .int (lo8 (cs.getD j 0)) := by
  simp [List.getD_eq_getElem?_getD, h]
/-- an array of N2 bytes vs codes the chars cs by the coder cd -/
def CodA (cs : List Int32) (cd N2 : Int32) (vs : List Value) : Prop := (cd = 0 ∧ N2 = Int32.ofNat cs.length ∧ vs = (cs.map fun c => Value.int (lo8 c)) ∧ ∀ c ∈ cs, ¬ 255 < c) ∨ (cd = 1 ∧ N2 = Int32.ofNat (2 * cs.length) ∧ vs = wideBytes cs ∧ ∃ c ∈ cs, 255 < c)
theorem CodA.cod {cs : List Int32} {cd N2 : Int32} {vs : List Value} {V : Cell} (h : CodA cs cd N2 vs) (hn : 2 * cs.length < 2 ^ 31) (hs : V.slots.size = N2.toNatClampNeg) (hv : RoadKit.Has V vs (.int 0)) : Cod cd cs.length (fun j => cs.getD j 0) V := by
  rcases h with ⟨rfl, rfl, rfl, h⟩ | ⟨rfl, rfl, rfl, c, hc, hw⟩
  · rw [n32 (by omega)] at hs
    exact Or.inl ⟨rfl, hs, fun j hj => ⟨by rw [hv j (by omega), low_at _ _ _ hj], by
      have e : cs.getD j 0 = cs[j] := by simp [List.getD_eq_getElem?_getD, hj]
      show ¬ 255 < cs.getD j 0
      rw [e]; exact h _ (List.getElem_mem _)⟩⟩
  · rw [n32 (by omega)] at hs
    obtain ⟨j, hj, rfl⟩ := List.getElem_of_mem hc
    exact Or.inr ⟨rfl, hs, fun j hj => ⟨by rw [hv _ (by omega), wide_lo _ _ _ hj], by rw [hv _ (by omega), wide_hi _ _ _ hj]⟩, j, hj, by
      have e : cs.getD j 0 = cs[j] := by simp [List.getD_eq_getElem?_getD, hj]
      show 255 < cs.getD j 0
      rw [e]; exact hw⟩
/-- an object of exactly java/lang/String, its two fields found: as the laws ask it -/
theorem strObj {Z U : State} {a0 : Array Value} {kI : Nat} (wi : (Jvm.Cond.instantiable ST kI).before a0 Z = true) (al : Z.vm.Alike U.vm) {x : Addr} {v0 c0 : Value} (E : RoadKit.Exa Z U.heap x ST) (V : RoadKit.Fld Z U.heap x ST "value" "[B" v0) (C : RoadKit.Fld Z U.heap x ST "coder" "B" c0) :
    ∃ (D : Cell) (fV fC : Field), Blank ST x D U ∧ Found ST "value" "[B" fV U ∧ Found ST "coder" "B" fC U ∧ D.slots[fV.slot]? = some v0 ∧ D.slots[fC.slot]? = some c0 ∧ RoadKit.slotOf Z ST "value" "[B" = fV.slot ∧ RoadKit.slotOf Z ST "coder" "B" = fC.slot := by
  obtain ⟨D, cfV, kV, iV, fV, hD, gV, stV, knV, obV, asV, slV⟩ := V
  obtain ⟨D', cfC, kC, iC, fC, hD', gC, stC, -, -, asC, slC⟩ := C
  cases hD.symm.trans hD'
  obtain ⟨D2, kD, e1, e2, e3, e4, e5⟩ := E
  cases hD.symm.trans e1
  obtain ⟨c2, k2, i1, i2, i3, -⟩ := Cond.instantiable_spec wi
  cases e2.symm.trans i1
  cases e3.symm.trans i2
  obtain ⟨kU, u1, u2⟩ := al.2.2 _ _ e3
  exact ⟨D, fV, fC, ⟨hD, ⟨knV, fun q hq => by rw [hq] at obV; cases obV⟩, by rw [al.findClass]; exact e2, kU, u1, by rw [u2]; exact i3, by rw [u2]; exact e5 i3⟩, ⟨SBG.found_only al ⟨cfV, kV, iV, gV⟩, stV⟩, ⟨SBG.found_only al ⟨cfC, kC, iC, gC⟩, stC⟩, slV, slC, by simp [RoadKit.slotOf, gV], by simp [RoadKit.slotOf, gC]⟩
theorem sta_is {Z U : State} (al : Z.vm.Alike U.vm) {C n d : String} {v : Value} (S : RoadKit.Sta Z U.heap C n d v) : StaticIs U C n d v := by
  obtain ⟨cfS, iS, kS, fS, st, cS, t1, t2, t3, t4, t5, t6, t7⟩ := S
  exact StaticIs.there (s := { Z with heap := U.heap }) ⟨cfS, iS, kS, fS, st, cS, t1, t2, t3, t4, t5, (fun q => by rw [q] at t6; cases t6), t7⟩ al rfl
end StrChars.Road
namespace StrChars
open Jvm Sem ClassFile Op Lib Jvm.Stand Jvm.Free.XT Jvm.Free.ALB Jvm.Free.JM Jvm.Free
open Jvm.Lib.Cold (StaticIs)
/-- what place i of a byte[]'s cell holds -/
def yv (A : Cell) (i : Nat) : Int32 := match A.slots[i]? with | some (.int x) => x | _ => 0
theorem yv_get {a : Addr} {A : Cell} {U : State} (h : XT.Arr .byte a A U) (ht : Typed .byte A) {i : Nat} (hi : i < A.slots.size) : A.slots[i]? = some (.int (yv A i)) := by
  have e := Array.getElem?_eq_getElem hi
  have f := ht i _ e
  unfold yv; rw [e]
  generalize A.slots[i] = v at f
  cases v <;> simp [fits] at f ⊢
/-- the two arrays are equal, place for place -/
def EqC (A B : Cell) : Prop := A.slots.size = B.slots.size ∧ ∀ i, i < A.slots.size → yv A i = yv B i
/-- a boolean that says whether p -/
def Says01 (q : Prop) (r : Option Value) (s u : State) : Prop := ∃ v : Int32, r = some (.int v) ∧ u.heap = s.heap ∧ ((v = 1 ∧ q) ∨ (v = 0 ∧ ¬ q))
theorem Says01.mv {q : Prop} : ∀ r (U U' V V' : State), U'.heap = U.heap → V.vm.Alike V'.vm → V'.heap = V.heap → Says01 q r U V → Says01 q r U' V' :=
  fun r U U' V V' h1 _ h2 ⟨v, a, b, c⟩ => ⟨v, a, by rw [h1, h2]; exact b, c⟩
namespace LEq
def yN : MethodName := ⟨"java/lang/StringLatin1", "equals", "([B[B)Z"⟩
abbrev yB : ByteArray := jdk_43_method_13_code
theorem d0 : decode yB 0 = .ok (.aload_n 0, 1) := by decide +kernel
theorem d1 : decode yB 1 = .ok (.arraylength, 1) := by decide +kernel
theorem d2 : decode yB 2 = .ok (.aload_n 1, 1) := by decide +kernel
theorem d3 : decode yB 3 = .ok (.arraylength, 1) := by decide +kernel
theorem d4 : decode yB 4 = .ok (.if_icmp (.ne) 30, 3) := by decide +kernel
theorem d7 : decode yB 7 = .ok (.iconst 0, 1) := by decide +kernel
theorem d8 : decode yB 8 = .ok (.istore_n 2, 1) := by decide +kernel
theorem d9 : decode yB 9 = .ok (.iload_n 2, 1) := by decide +kernel
theorem d10 : decode yB 10 = .ok (.aload_n 0, 1) := by decide +kernel
theorem d11 : decode yB 11 = .ok (.arraylength, 1) := by decide +kernel
theorem d12 : decode yB 12 = .ok (.if_icmp (.ge) 20, 3) := by decide +kernel
theorem d15 : decode yB 15 = .ok (.aload_n 0, 1) := by decide +kernel
theorem d16 : decode yB 16 = .ok (.iload_n 2, 1) := by decide +kernel
theorem d17 : decode yB 17 = .ok (.baload, 1) := by decide +kernel
theorem d18 : decode yB 18 = .ok (.aload_n 1, 1) := by decide +kernel
theorem d19 : decode yB 19 = .ok (.iload_n 2, 1) := by decide +kernel
theorem d20 : decode yB 20 = .ok (.baload, 1) := by decide +kernel
theorem d21 : decode yB 21 = .ok (.if_icmp (.eq) 5, 3) := by decide +kernel
theorem d24 : decode yB 24 = .ok (.iconst 0, 1) := by decide +kernel
theorem d25 : decode yB 25 = .ok (.ireturn, 1) := by decide +kernel
theorem d26 : decode yB 26 = .ok (.iinc 2 1, 3) := by decide +kernel
theorem d29 : decode yB 29 = .ok (.goto (-20), 3) := by decide +kernel
theorem d32 : decode yB 32 = .ok (.iconst 1, 1) := by decide +kernel
theorem d33 : decode yB 33 = .ok (.ireturn, 1) := by decide +kernel
theorem d34 : decode yB 34 = .ok (.iconst 0, 1) := by decide +kernel
theorem d35 : decode yB 35 = .ok (.ireturn, 1) := by decide +kernel
def site : List Cond := []
def tab : Cond := tabOf yN yB 3 (some .boolean) site
def P (a : Addr) (A : Cell) (b : Addr) (B : Cell) (args : Array Value) (s : State) : Prop := args = #[.ref a, .ref b] ∧ XT.Arr .byte a A s ∧ Typed .byte A ∧ XT.Arr .byte b B s ∧ Typed .byte B
/-- whether two byte[] are equal, place for place -/
theorem law (l : Launch) (a : Addr) (A : Cell) (b : Addr) (B : Cell) : Law l yN 2 2 0 0 yB 3 (some .boolean) site (P a A b B) (Says01 (EqC A B)) [] 0 0 := by
  refine Law.of_walk (plainFor_of_name (by decide +kernel)) (by decide +kernel) (by decide +kernel) (by decide) (fun _ _ h => by rw [h.1]; rfl) (fun _ U U' hal hh h => ⟨h.1, h.2.1.mv hal hh, h.2.2.1, h.2.2.2.1.mv hal hh, h.2.2.2.2⟩) (fun r U U' V V' h1 hal h2 h => Says01.mv r U U' V V' h1 hal h2 h) ?_
  intro p e s m args below meth c s₁ X0 hexec hbytes hml hret hlk hnm hown hh0 W hP
  obtain ⟨rfl, hA, tA, hB, tB⟩ := hP
  have a31 := hA.2.2.2
  have b31 := hB.2.2.2
  have hA0 := hA.mv X0.warmed.alike hh0
  have hB0 := hB.mv X0.warmed.alike hh0
  have c1 : Steps p.tables e below (s₁.setTop (entryFrame m #[.ref a, .ref b] 3)) (s₁.setTop (mkF m 0 #[.val (.ref a), .val (.ref b), .unset] [])) := entry rfl
  have c2 : Steps p.tables e below (s₁.setTop (entryFrame m #[.ref a, .ref b] 3)) (s₁.setTop (mkF m 4 #[.val (.ref a), .val (.ref b), .unset] [.int (Int32.ofNat B.slots.size), .int (Int32.ofNat A.slots.size)])) := c1.trans (by
    refine XS.aloadN X0.here hexec rfl (hb hbytes d0) rfl rfl ?_
    refine X0.alen hexec hA0 rfl rfl (hb hbytes d1) ?_
    refine XS.aloadN X0.here hexec rfl (hb hbytes d2) rfl rfl ?_
    refine X0.alen hexec hB0 rfl rfl (hb hbytes d3) ?_
    exact Steps.refl _)
  by_cases hs : A.slots.size = B.slots.size
  · have c3 : Steps p.tables e below (s₁.setTop (entryFrame m #[.ref a, .ref b] 3)) (s₁.setTop (mkF m 9 #[.val (.ref a), .val (.ref b), .val (.int 0)] [])) := c2.trans (by
      refine XS.icmpNo X0.here hexec rfl (hb hbytes d4) rfl (ii_ne_f (by rw [hs])) ?_
      refine iconstV X0.here hexec rfl 0 (hb hbytes d7) (by decide) ?_
      refine XS.istoreN X0.here hexec rfl (hb hbytes d8) rfl rfl ?_
      exact Steps.refl _)
    have loop : ∀ (r i : Nat), i + r = A.slots.size → (∀ j, j < i → yv A j = yv B j) → Steps p.tables e below (s₁.setTop (entryFrame m #[.ref a, .ref b] 3)) (s₁.setTop (mkF m 9 #[.val (.ref a), .val (.ref b), .val (.int (Int32.ofNat i))] [])) → ∃ (pc : Nat) (Ls : Array Slot) (v : Int32), (pc = 25 ∨ pc = 33) ∧ ((v = 1 ∧ EqC A B) ∨ (v = 0 ∧ ¬ EqC A B)) ∧ Steps p.tables e below (s₁.setTop (entryFrame m #[.ref a, .ref b] 3)) (s₁.setTop (mkF m pc Ls [.int v])) := by
      intro r
      induction r with
      | zero =>
        intro i hi he cl
        exact ⟨33, _, 1, Or.inr rfl, Or.inl ⟨rfl, hs, fun j hj => he j (by omega)⟩, cl.trans (by
          refine XS.iloadN X0.here hexec rfl (hb hbytes d9) rfl ?_
          refine XS.aloadN X0.here hexec rfl (hb hbytes d10) rfl rfl ?_
          refine X0.alen hexec hA0 rfl rfl (hb hbytes d11) ?_
          refine XS.icmpYes X0.here hexec rfl (pc0 := 12) rfl (hb hbytes d12) rfl (ii_ge_t (nlt32 (by omega) (by omega))) (by decide) rfl ?_
          refine iconstV X0.here hexec rfl 1 (hb hbytes d32) (by decide) ?_
          exact Steps.refl _)⟩
      | succ r ih =>
        intro i hi he cl
        have c4 : Steps p.tables e below (s₁.setTop (entryFrame m #[.ref a, .ref b] 3)) (s₁.setTop (mkF m 21 #[.val (.ref a), .val (.ref b), .val (.int (Int32.ofNat i))] [.int (yv B i), .int (yv A i)])) := cl.trans (by
          refine XS.iloadN X0.here hexec rfl (hb hbytes d9) rfl ?_
          refine XS.aloadN X0.here hexec rfl (hb hbytes d10) rfl rfl ?_
          refine X0.alen hexec hA0 rfl rfl (hb hbytes d11) ?_
          refine XS.icmpNo X0.here hexec rfl (hb hbytes d12) rfl (ii_ge_f (lt32 (by omega) (by omega))) ?_
          refine XS.aloadN X0.here hexec rfl (hb hbytes d15) rfl rfl ?_
          refine XS.iloadN X0.here hexec rfl (hb hbytes d16) rfl ?_
          refine X0.aget hexec hA0 rfl (yv_get hA tA (i := i) (by omega)) rfl rfl (hb hbytes d17) ?_
          refine XS.aloadN X0.here hexec rfl (hb hbytes d18) rfl rfl ?_
          refine XS.iloadN X0.here hexec rfl (hb hbytes d19) rfl ?_
          refine X0.aget hexec hB0 rfl (yv_get hB tB (i := i) (by omega)) rfl rfl (hb hbytes d20) ?_
          exact Steps.refl _)
        by_cases hv : yv A i = yv B i
        · have c5 : Steps p.tables e below (s₁.setTop (entryFrame m #[.ref a, .ref b] 3)) (s₁.setTop (mkF m 9 #[.val (.ref a), .val (.ref b), .val (.int (Int32.ofNat i + 1))] [])) := c4.trans (by
            refine XS.icmpYes X0.here hexec rfl (pc0 := 21) rfl (hb hbytes d21) rfl (ii_eq_t hv) (by decide) rfl ?_
            refine iincV X0.here hexec rfl 1 (hb hbytes d26) (by decide) rfl rfl ?_
            refine XS.goto X0.here hexec rfl (pc0 := 29) rfl (hb hbytes d29) (by decide) rfl ?_
            exact Steps.refl _)
          rw [succ32] at c5
          exact ih (i + 1) (by omega) (fun j hj => by
            by_cases e : j = i
            · rw [e]; exact hv
            · exact he j (by omega)) c5
        · exact ⟨25, _, 0, Or.inl rfl, Or.inr ⟨rfl, fun q => hv (q.2 i (by omega))⟩, c4.trans (by
            refine XS.icmpNo X0.here hexec rfl (hb hbytes d21) rfl (ii_eq_f hv) ?_
            refine iconstV X0.here hexec rfl 0 (hb hbytes d24) (by decide) ?_
            exact Steps.refl _)⟩
    obtain ⟨pc, Ls, v, hpc, hv, cz⟩ := loop A.slots.size 0 (by omega) (fun j hj => absurd hj (Nat.not_lt_zero j)) c3
    have nv : narrow .boolean (.int v) = .int v := by rcases hv with ⟨rfl, -⟩ | ⟨rfl, -⟩ <;> rfl
    rcases hpc with rfl | rfl
    · exact ⟨s₁, some (.int v), _, _, _, X0, rfl, rfl, rfl, (fun h => by cases h), ⟨v, rfl, hh0, hv⟩, fun fs hl => cz.trans (X0.ireturnOut hexec hret nv (Or.inr (Or.inl rfl)) (hb hbytes d25) hl)⟩
    · exact ⟨s₁, some (.int v), _, _, _, X0, rfl, rfl, rfl, (fun h => by cases h), ⟨v, rfl, hh0, hv⟩, fun fs hl => cz.trans (X0.ireturnOut hexec hret nv (Or.inr (Or.inl rfl)) (hb hbytes d33) hl)⟩
  · have c3 : Steps p.tables e below (s₁.setTop (entryFrame m #[.ref a, .ref b] 3)) (s₁.setTop (mkF m 35 #[.val (.ref a), .val (.ref b), .unset] [.int 0])) := c2.trans (by
      refine XS.icmpYes X0.here hexec rfl (pc0 := 4) rfl (hb hbytes d4) rfl (ii_ne_t (ne32 a31 b31 hs)) (by decide) rfl ?_
      refine iconstV X0.here hexec rfl 0 (hb hbytes d34) (by decide) ?_
      exact Steps.refl _)
    exact ⟨s₁, some (.int 0), _, _, _, X0, rfl, rfl, rfl, (fun h => by cases h), ⟨0, rfl, hh0, Or.inr ⟨rfl, fun q => hs q.1⟩⟩, fun fs hl => c3.trans (X0.ireturnOut hexec hret rfl (Or.inr (Or.inl rfl)) (hb hbytes d35) hl)⟩
end LEq
theorem Cod.ty {cd : Int32} {n : Nat} {f : Nat → Int32} {V : Cell} (h : Cod cd n f V) : Typed .byte V := fun i v hv => by
  have hi : i < V.slots.size := (Array.getElem?_eq_some_iff.mp hv).1
  rcases h with ⟨-, k1, k2⟩ | ⟨-, k1, k2, -⟩
  · rw [(k2 i (by omega)).1] at hv; cases hv; exact fits_lo8 _
  · rcases Nat.mod_two_eq_zero_or_one i with e | e
    · obtain ⟨j, rfl⟩ : ∃ j, i = 2 * j := ⟨i / 2, by omega⟩
      rw [(k2 j (by omega)).1] at hv; cases hv; exact fits_lo8 _
    · obtain ⟨j, rfl⟩ : ∃ j, i = 2 * j + 1 := ⟨i / 2, by omega⟩
      rw [(k2 j (by omega)).2] at hv; cases hv; exact fits_lo8 _
/-- the same text -/
def SameT (n : Nat) (f : Nat → Int32) (k : Nat) (g : Nat → Int32) : Prop := n = k ∧ ∀ j, j < n → f j = g j
theorem lo8_inj {x y : Int32} (h0 : ¬ x < 0) (h1 : ¬ 255 < x) (k0 : ¬ y < 0) (k1 : ¬ 255 < y) (h : lo8 x = lo8 y) : x = y := by
  rw [← lo8_mask h0 h1, ← lo8_mask k0 k1, h]
/-- arrays coded by one coder are equal just where the texts are -/
theorem Cod.eqv {cd : Int32} {n k : Nat} {f g : Nat → Int32} {V V' : Cell} (h : Cod cd n f V) (h' : Cod cd k g V') (hf : ∀ j, j < n → ¬ f j < 0 ∧ ¬ 65535 < f j) (hg : ∀ j, j < k → ¬ g j < 0 ∧ ¬ 65535 < g j) : EqC V V' ↔ SameT n f k g := by
  have yvv : ∀ {W : Cell} {i : Nat} {x : Int32}, W.slots[i]? = some (.int x) → yv W i = x := fun q => by unfold yv; rw [q]
  rcases h with ⟨rfl, k1, k2⟩ | ⟨rfl, k1, k2, -⟩
  · rcases h' with ⟨-, m1, m2⟩ | ⟨e, -⟩
    · constructor
      · rintro ⟨e1, e2⟩
        refine ⟨by omega, fun j hj => ?_⟩
        have q := e2 j (by omega)
        rw [yvv (k2 j hj).1, yvv (m2 j (by omega)).1] at q
        exact lo8_inj (hf j hj).1 (k2 j hj).2 (hg j (by omega)).1 (m2 j (by omega)).2 q
      · rintro ⟨rfl, e2⟩
        refine ⟨by omega, fun j hj => ?_⟩
        rw [yvv (k2 j (by omega)).1, yvv (m2 j (by omega)).1, e2 j (by omega)]
    · exact absurd e (by decide)
  · rcases h' with ⟨e, -⟩ | ⟨-, m1, m2, -⟩
    · exact absurd e (by decide)
    · constructor
      · rintro ⟨e1, e2⟩
        refine ⟨by omega, fun j hj => ?_⟩
        have q1 := e2 (2 * j) (by omega)
        have q2 := e2 (2 * j + 1) (by omega)
        rw [yvv (k2 j hj).1, yvv (m2 j (by omega)).1] at q1
        rw [yvv (k2 j hj).2, yvv (m2 j (by omega)).2] at q2
        rw [← pair_says (hf j hj).1 (hf j hj).2, ← pair_says (hg j (by omega)).1 (hg j (by omega)).2, q1, q2]
      · rintro ⟨rfl, e2⟩
        refine ⟨by omega, fun i hi => ?_⟩
        rcases Nat.mod_two_eq_zero_or_one i with e | e
        · obtain ⟨j, rfl⟩ : ∃ j, i = 2 * j := ⟨i / 2, by omega⟩
          rw [yvv (k2 j (by omega)).1, yvv (m2 j (by omega)).1, e2 j (by omega)]
        · obtain ⟨j, rfl⟩ : ∃ j, i = 2 * j + 1 := ⟨i / 2, by omega⟩
          rw [yvv (k2 j (by omega)).2, yvv (m2 j (by omega)).2, e2 j (by omega)]
/-- two codings differ: so do the texts -/
theorem Cod.dif {cd cd' : Int32} {n k : Nat} {f g : Nat → Int32} {V V' : Cell} (h : Cod cd n f V) (h' : Cod cd' k g V') (hne : ¬ cd = cd') : ¬ SameT n f k g := by
  rintro ⟨rfl, e⟩
  rcases h with ⟨rfl, -, k2⟩ | ⟨rfl, -, -, j, hj, hw⟩
  · rcases h' with ⟨rfl, -⟩ | ⟨-, -, -, j, hj, hw⟩
    · exact hne rfl
    · exact (k2 j hj).2 (by rw [e j hj]; exact hw)
  · rcases h' with ⟨-, -, m2⟩ | ⟨rfl, -⟩
    · exact (m2 j hj).2 (by rw [← e j hj]; exact hw)
    · exact hne rfl
/-- an object of exactly C is an instance of C -/
theorem cinst {p : Program} {l : Launch} {e : Env} {R : Room} {s : State} {m : MethodId} {args : Array Value} {below : List Frame} {meth : Method} {c : Code} {T : State} {locs : List Loc} {cells slots : Nat} (X : Stand p l e R s m args below meth c T locs cells slots) (hexec : p.tables.exec = Jvm.exec) {own C : String} {index : Nat} (hown : s.vm.findClass own = some m.cls) (hlink : (Cond.classLink own index C).before args s = true) {a : Addr} (hE : Exact C a T)
    {g : JFrame} (hg : g.method = m) {rest : List Value} (hstack : g.stack = .ref a :: rest) (hdg : decode c.code g.pc = .ok (.instanceof index, 3)) :
    ∃ T', Stand p l e R s m args below meth c T' locs cells slots ∧ T'.heap = T.heap ∧ ∀ target, Steps p.tables e below (T'.setTop { g with pc := g.pc + 3, stack := .int 1 :: rest }) target → Steps p.tables e below (T.setTop g) target := by
  obtain ⟨cB, h1, D, h2, h3, h4⟩ := hE
  have h1' : s.vm.findClass C = some cB := by rw [← X.warmed.alike.findClass]; exact h1
  obtain ⟨vm', X', st⟩ := X.instanceofYes hexec hown hlink h2 h4 h1' (by rw [h3]; exact Jvm.Free.SB.assignable_self _ _) hg hstack hdg
  exact ⟨_, X', rfl, st⟩
theorem cself {p : Program} {l : Launch} {e : Env} {R : Room} {s : State} {m : MethodId} {args : Array Value} {below : List Frame} {meth : Method} {c : Code} {T : State} {locs : List Loc} {cells slots : Nat} (X : Stand p l e R s m args below meth c T locs cells slots) (hexec : p.tables.exec = Jvm.exec) {own C : String} {index : Nat} (hown : s.vm.findClass own = some m.cls) (hlink : (Cond.classLink own index C).before args s = true) {a : Addr} (hE : Exact C a T)
    {g : JFrame} (hg : g.method = m) {rest : List Value} (hstack : g.stack = .ref a :: rest) (hdg : decode c.code g.pc = .ok (.checkcast index, 3)) :
    ∃ T', Stand p l e R s m args below meth c T' locs cells slots ∧ T'.heap = T.heap ∧ ∀ target, Steps p.tables e below (T'.setTop { g with pc := g.pc + 3, stack := .ref a :: rest }) target → Steps p.tables e below (T.setTop g) target := by
  obtain ⟨cB, h1, D, h2, h3, h4⟩ := hE
  have h1' : s.vm.findClass C = some cB := by rw [← X.warmed.alike.findClass]; exact h1
  obtain ⟨vm', X', st⟩ := X.checkcastYes hexec hown hlink h2 h4 h1' (by rw [h3]; exact Jvm.Free.SB.assignable_self _ _) hg hstack hdg
  exact ⟨_, X', rfl, fun t h => st t (by rw [← hstack] at h; exact h)⟩
namespace SEq
def yN : MethodName := ⟨"java/lang/String", "equals", "(Ljava/lang/Object;)Z"⟩
abbrev yB : ByteArray := jdk_42_method_66_code
theorem d0 : decode yB 0 = .ok (.aload_n 0, 1) := by decide +kernel
theorem d1 : decode yB 1 = .ok (.aload_n 1, 1) := by decide +kernel
theorem d2 : decode yB 2 = .ok (.if_acmp (.ne) 5, 3) := by decide +kernel
theorem d5 : decode yB 5 = .ok (.iconst 1, 1) := by decide +kernel
theorem d6 : decode yB 6 = .ok (.ireturn, 1) := by decide +kernel
theorem d7 : decode yB 7 = .ok (.aload_n 1, 1) := by decide +kernel
theorem d8 : decode yB 8 = .ok (.instanceof 10, 3) := by decide +kernel
theorem d11 : decode yB 11 = .ok (.ifCond (.eq) 43, 3) := by decide +kernel
theorem d14 : decode yB 14 = .ok (.aload_n 1, 1) := by decide +kernel
theorem d15 : decode yB 15 = .ok (.checkcast 10, 3) := by decide +kernel
theorem d18 : decode yB 18 = .ok (.astore_n 2, 1) := by decide +kernel
theorem d19 : decode yB 19 = .ok (.getstatic 38, 3) := by decide +kernel
theorem d22 : decode yB 22 = .ok (.ifCond (.eq) 14, 3) := by decide +kernel
theorem d25 : decode yB 25 = .ok (.aload_n 0, 1) := by decide +kernel
theorem d26 : decode yB 26 = .ok (.getfield 15, 3) := by decide +kernel
theorem d29 : decode yB 29 = .ok (.aload_n 2, 1) := by decide +kernel
theorem d30 : decode yB 30 = .ok (.getfield 15, 3) := by decide +kernel
theorem d33 : decode yB 33 = .ok (.if_icmp (.ne) 21, 3) := by decide +kernel
theorem d36 : decode yB 36 = .ok (.aload_n 0, 1) := by decide +kernel
theorem d37 : decode yB 37 = .ok (.getfield 9, 3) := by decide +kernel
theorem d40 : decode yB 40 = .ok (.aload_n 2, 1) := by decide +kernel
theorem d41 : decode yB 41 = .ok (.getfield 9, 3) := by decide +kernel
theorem d44 : decode yB 44 = .ok (.invokestatic 541, 3) := by decide +kernel
theorem d47 : decode yB 47 = .ok (.ifCond (.eq) 7, 3) := by decide +kernel
theorem d50 : decode yB 50 = .ok (.iconst 1, 1) := by decide +kernel
theorem d51 : decode yB 51 = .ok (.goto 4, 3) := by decide +kernel
theorem d54 : decode yB 54 = .ok (.iconst 0, 1) := by decide +kernel
theorem d55 : decode yB 55 = .ok (.ireturn, 1) := by decide +kernel
def site : List Cond := [.classLink "java/lang/String" 10 "java/lang/String", .fieldLink "java/lang/String" 38 "java/lang/String" "COMPACT_STRINGS" "Z", .fieldLink "java/lang/String" 15 "java/lang/String" "coder" "B", .fieldLink "java/lang/String" 9 "java/lang/String" "value" "[B", LEq.tab] ++ staticW "java/lang/String" 541 LEq.yN
def tab : Cond := tabOf yN yB 3 (some .boolean) site
def P (x t : Addr) (V : Cell) (cd : Int32) (n : Nat) (f : Nat → Int32) (y t' : Addr) (V' : Cell) (cd' : Int32) (k : Nat) (g : Nat → Int32) (z : Int32) (args : Array Value) (s : State) : Prop := args = #[.ref x, .ref y] ∧ Txt x t V cd n f s ∧ Txt y t' V' cd' k g s ∧ StaticIs s "java/lang/String" "COMPACT_STRINGS" "Z" (.int z) ∧ ¬ z = 0
/-- equals(Object) of two Strings: whether the texts are the same -/
theorem law (l : Launch) (x t : Addr) (V : Cell) (cd : Int32) (n : Nat) (f : Nat → Int32) (y t' : Addr) (V' : Cell) (cd' : Int32) (k : Nat) (g : Nat → Int32) (z : Int32) : Law l yN 2 1 1 14 yB 3 (some .boolean) site (P x t V cd n f y t' V' cd' k g z) (Says01 (SameT n f k g)) [] 0 0 := by
  refine Law.of_walk (plainFor_of_name (by decide +kernel)) (by decide +kernel) (by decide +kernel) (by decide) (fun _ _ h => by rw [h.1]; rfl) (fun _ U U' hal hh h => ⟨h.1, h.2.1.mv hal hh, h.2.2.1.mv hal hh, h.2.2.2.1.there hal hh, h.2.2.2.2⟩) (fun r U U' V V' h1 hal h2 h => Says01.mv r U U' V V' h1 hal h2 h) ?_
  intro p e s m args below meth c s₁ X0 hexec hbytes hml hret hlk hnm hown hh0 W hP
  obtain ⟨rfl, hx, hy, s1, hz⟩ := hP
  have c1 : Steps p.tables e below (s₁.setTop (entryFrame m #[.ref x, .ref y] 3)) (s₁.setTop (mkF m 2 #[.val (.ref x), .val (.ref y), .unset] [.ref y, .ref x])) := Steps.trans (entry rfl) (by
    show Steps p.tables e below (s₁.setTop (mkF m 0 #[.val (.ref x), .val (.ref y), .unset] [])) _
    refine XS.aloadN X0.here hexec rfl (hb hbytes d0) rfl rfl ?_
    refine XS.aloadN X0.here hexec rfl (hb hbytes d1) rfl rfl ?_
    exact Steps.refl _)
  by_cases hxy : x = y
  · have c2 : Steps p.tables e below (s₁.setTop (entryFrame m #[.ref x, .ref y] 3)) (s₁.setTop (mkF m 6 #[.val (.ref x), .val (.ref y), .unset] [.int 1])) := c1.trans (by
      refine acmpNo X0.here hexec rfl (hb hbytes d2) rfl rfl rfl (by simp [acmp, hxy]) ?_
      refine iconstV X0.here hexec rfl 1 (hb hbytes d5) (by decide) ?_
      exact Steps.refl _)
    subst hxy
    have ec : cd = cd' := by
      obtain ⟨D, fd, a1, a2, a3⟩ := hx.2.2.1
      obtain ⟨D', fd', b1, b2, b3⟩ := hy.2.2.1
      cases a1.symm.trans b1
      obtain ⟨q1, q2, q3, q4⟩ := a2.1
      obtain ⟨r1, r2, r3, r4⟩ := b2.1
      cases q4.symm.trans r4
      cases a3.symm.trans b3; rfl
    have et : t = t' := by
      obtain ⟨D, fd, a1, a2, a3⟩ := hx.2.1
      obtain ⟨D', fd', b1, b2, b3⟩ := hy.2.1
      cases a1.symm.trans b1
      obtain ⟨q1, q2, q3, q4⟩ := a2.1
      obtain ⟨r1, r2, r3, r4⟩ := b2.1
      cases q4.symm.trans r4
      cases a3.symm.trans b3; rfl
    subst ec et
    have ev : V = V' := by cases hx.2.2.2.1.1.symm.trans hy.2.2.2.1.1; rfl
    subst ev
    have hs : SameT n f k g := (Cod.eqv hx.2.2.2.2.1 hy.2.2.2.2.1 hx.2.2.2.2.2 hy.2.2.2.2.2).mp ⟨rfl, fun _ _ => rfl⟩
    exact ⟨s₁, some (.int 1), _, _, _, X0, rfl, rfl, rfl, (fun h => by cases h), ⟨1, rfl, hh0, Or.inl ⟨rfl, hs⟩⟩, fun fs hl => c2.trans (X0.ireturnOut hexec hret rfl (Or.inr (Or.inl rfl)) (hb hbytes d6) hl)⟩
  · have c2 : Steps p.tables e below (s₁.setTop (entryFrame m #[.ref x, .ref y] 3)) (s₁.setTop (mkF m 8 #[.val (.ref x), .val (.ref y), .unset] [.ref y])) := c1.trans (by
      refine acmpYes X0.here hexec rfl (pc0 := 2) rfl (hb hbytes d2) rfl rfl rfl (by simp [acmp, hxy]) (by decide) rfl ?_
      refine XS.aloadN X0.here hexec rfl (hb hbytes d7) rfl rfl ?_
      exact Steps.refl _)
    obtain ⟨T3, X3, q3, st3⟩ := cinst X0 hexec hown (wk W (.classLink "java/lang/String" 10 "java/lang/String")) (hy.mv X0.warmed.alike hh0).1 (g := (mkF m 8 #[.val (.ref x), .val (.ref y), .unset] [.ref y])) rfl (rest := []) rfl (hb hbytes d8)
    have hh3 := q3.trans hh0
    have c4 : Steps p.tables e below (s₁.setTop (entryFrame m #[.ref x, .ref y] 3)) (T3.setTop (mkF m 15 #[.val (.ref x), .val (.ref y), .unset] [.ref y])) := (c2.trans (st3 _ (Steps.refl _))).trans (by
      refine XS.ifNo X3.here hexec rfl (hb hbytes d11) rfl (i0_eq_f (by decide)) ?_
      refine XS.aloadN X3.here hexec rfl (hb hbytes d14) rfl rfl ?_
      exact Steps.refl _)
    obtain ⟨T5, X5, q5, st5⟩ := cself X3 hexec hown (wk W (.classLink "java/lang/String" 10 "java/lang/String")) (hy.mv X3.warmed.alike hh3).1 (g := (mkF m 15 #[.val (.ref x), .val (.ref y), .unset] [.ref y])) rfl (rest := []) rfl (hb hbytes d15)
    have hh5 := q5.trans hh3
    have c6 : Steps p.tables e below (s₁.setTop (entryFrame m #[.ref x, .ref y] 3)) (T5.setTop (mkF m 19 #[.val (.ref x), .val (.ref y), .val (.ref y)] [])) := (c4.trans (st5 _ (Steps.refl _))).trans (by
      refine XS.astoreN X5.here hexec rfl (hb hbytes d18) rfl rfl rfl ?_
      exact Steps.refl _)
    obtain ⟨T7, X7, q7, st7⟩ := X5.sget hexec hown (wk W (.fieldLink "java/lang/String" 38 "java/lang/String" "COMPACT_STRINGS" "Z")) s1 (fun _ _ h => by rw [hh5]; exact h) (g := (mkF m 19 #[.val (.ref x), .val (.ref y), .val (.ref y)] [])) rfl (hb hbytes d19)
    have hh7 := q7.trans hh5
    have c8 : Steps p.tables e below (s₁.setTop (entryFrame m #[.ref x, .ref y] 3)) (T7.setTop (mkF m 26 #[.val (.ref x), .val (.ref y), .val (.ref y)] [.ref x])) := (c6.trans (st7 _ (Steps.refl _))).trans (by
      refine XS.ifNo X7.here hexec rfl (hb hbytes d22) rfl (i0_eq_f hz) ?_
      refine XS.aloadN X7.here hexec rfl (hb hbytes d25) rfl rfl ?_
      exact Steps.refl _)
    obtain ⟨T9, X9, q9, st9⟩ := X7.hget hexec hown (wk W (.fieldLink "java/lang/String" 15 "java/lang/String" "coder" "B")) (hx.mv X7.warmed.alike hh7).2.2.1 (g := (mkF m 26 #[.val (.ref x), .val (.ref y), .val (.ref y)] [.ref x])) rfl (rest := []) rfl (hb hbytes d26)
    have hh9 := q9.trans hh7
    have c10 : Steps p.tables e below (s₁.setTop (entryFrame m #[.ref x, .ref y] 3)) (T9.setTop (mkF m 30 #[.val (.ref x), .val (.ref y), .val (.ref y)] [.ref y, .int cd])) := (c8.trans (st9 _ (Steps.refl _))).trans (by
      refine XS.aloadN X9.here hexec rfl (hb hbytes d29) rfl rfl ?_
      exact Steps.refl _)
    obtain ⟨T11, X11, q11, st11⟩ := X9.hget hexec hown (wk W (.fieldLink "java/lang/String" 15 "java/lang/String" "coder" "B")) (hy.mv X9.warmed.alike hh9).2.2.1 (g := (mkF m 30 #[.val (.ref x), .val (.ref y), .val (.ref y)] [.ref y, .int cd])) rfl (rest := [.int cd]) rfl (hb hbytes d30)
    have hh11 := q11.trans hh9
    have c12 : Steps p.tables e below (s₁.setTop (entryFrame m #[.ref x, .ref y] 3)) (T11.setTop (mkF m 33 #[.val (.ref x), .val (.ref y), .val (.ref y)] [.int cd', .int cd])) := c10.trans (st11 _ (Steps.refl _))
    by_cases hcd : cd = cd'
    · subst hcd
      have c13 : Steps p.tables e below (s₁.setTop (entryFrame m #[.ref x, .ref y] 3)) (T11.setTop (mkF m 37 #[.val (.ref x), .val (.ref y), .val (.ref y)] [.ref x])) := c12.trans (by
        refine XS.icmpNo X11.here hexec rfl (hb hbytes d33) rfl (ii_ne_f rfl) ?_
        refine XS.aloadN X11.here hexec rfl (hb hbytes d36) rfl rfl ?_
        exact Steps.refl _)
      obtain ⟨T14, X14, q14, st14⟩ := X11.hget hexec hown (wk W (.fieldLink "java/lang/String" 9 "java/lang/String" "value" "[B")) (hx.mv X11.warmed.alike hh11).2.1 (g := (mkF m 37 #[.val (.ref x), .val (.ref y), .val (.ref y)] [.ref x])) rfl (rest := []) rfl (hb hbytes d37)
      have hh14 := q14.trans hh11
      have c15 : Steps p.tables e below (s₁.setTop (entryFrame m #[.ref x, .ref y] 3)) (T14.setTop (mkF m 41 #[.val (.ref x), .val (.ref y), .val (.ref y)] [.ref y, .ref t])) := (c13.trans (st14 _ (Steps.refl _))).trans (by
        refine XS.aloadN X14.here hexec rfl (hb hbytes d40) rfl rfl ?_
        exact Steps.refl _)
      obtain ⟨T16, X16, q16, st16⟩ := X14.hget hexec hown (wk W (.fieldLink "java/lang/String" 9 "java/lang/String" "value" "[B")) (hy.mv X14.warmed.alike hh14).2.1 (g := (mkF m 41 #[.val (.ref x), .val (.ref y), .val (.ref y)] [.ref y, .ref t])) rfl (rest := [.ref t]) rfl (hb hbytes d41)
      have hh16 := q16.trans hh14
      have c17 : Steps p.tables e below (s₁.setTop (entryFrame m #[.ref x, .ref y] 3)) (T16.setTop (mkF m 44 #[.val (.ref x), .val (.ref y), .val (.ref y)] [.ref t', .ref t])) := c15.trans (st16 _ (Steps.refl _))
      obtain ⟨v18, T18, X18, E18, g18⟩ := X16.callS hexec (LEq.law l t V t' V') hown (wks W (staticW "java/lang/String" 541 LEq.yN)) (wk W LEq.tab) (W := 0) (Nat.le_of_ble_eq_true rfl) (Nat.le_of_ble_eq_true rfl) (Nat.le_refl _) (Nat.le_refl _) (g := (mkF m 44 #[.val (.ref x), .val (.ref y), .val (.ref y)] [.ref t', .ref t])) rfl (by rw [hml]; rfl) c17 (argsL := [.ref t, .ref t']) (rest := []) rfl rfl (by show 2 * 0 + 0 ≤ _; decide) (hb hbytes d44) (⟨rfl, hx.2.2.2.1.mv X16.warmed.alike hh16, hx.2.2.2.2.1.ty, hy.2.2.2.1.mv X16.warmed.alike hh16, hy.2.2.2.2.1.ty⟩)
      obtain ⟨v, rfl, q18, hv⟩ := E18
      have iff := Cod.eqv hx.2.2.2.2.1 hy.2.2.2.2.1 hx.2.2.2.2.2 hy.2.2.2.2.2
      rcases hv with ⟨rfl, he⟩ | ⟨rfl, he⟩
      · have c19 : Steps p.tables e below (s₁.setTop (entryFrame m #[.ref x, .ref y] 3)) (T18.setTop (mkF m 55 #[.val (.ref x), .val (.ref y), .val (.ref y)] [.int 1])) := Steps.trans g18 (by
          refine XS.ifNo X18.here hexec rfl (hb hbytes d47) rfl (i0_eq_f (by decide)) ?_
          refine iconstV X18.here hexec rfl 1 (hb hbytes d50) (by decide) ?_
          refine XS.goto X18.here hexec rfl (pc0 := 51) rfl (hb hbytes d51) (by decide) rfl ?_
          exact Steps.refl _)
        exact ⟨T18, some (.int 1), _, _, _, X18, rfl, rfl, rfl, (fun h => by cases h), ⟨1, rfl, q18.trans hh16, Or.inl ⟨rfl, iff.mp he⟩⟩, fun fs hl => c19.trans (X18.ireturnOut hexec hret rfl (Or.inr (Or.inl rfl)) (hb hbytes d55) hl)⟩
      · have c19 : Steps p.tables e below (s₁.setTop (entryFrame m #[.ref x, .ref y] 3)) (T18.setTop (mkF m 55 #[.val (.ref x), .val (.ref y), .val (.ref y)] [.int 0])) := Steps.trans g18 (by
          refine XS.ifYes X18.here hexec rfl (pc0 := 47) rfl (hb hbytes d47) rfl (i0_eq_t rfl) (by decide) rfl ?_
          refine iconstV X18.here hexec rfl 0 (hb hbytes d54) (by decide) ?_
          exact Steps.refl _)
        exact ⟨T18, some (.int 0), _, _, _, X18, rfl, rfl, rfl, (fun h => by cases h), ⟨0, rfl, q18.trans hh16, Or.inr ⟨rfl, fun q => he (iff.mpr q)⟩⟩, fun fs hl => c19.trans (X18.ireturnOut hexec hret rfl (Or.inr (Or.inl rfl)) (hb hbytes d55) hl)⟩
    · have c13 : Steps p.tables e below (s₁.setTop (entryFrame m #[.ref x, .ref y] 3)) (T11.setTop (mkF m 55 #[.val (.ref x), .val (.ref y), .val (.ref y)] [.int 0])) := c12.trans (by
        refine XS.icmpYes X11.here hexec rfl (pc0 := 33) rfl (hb hbytes d33) rfl (ii_ne_t hcd) (by decide) rfl ?_
        refine iconstV X11.here hexec rfl 0 (hb hbytes d54) (by decide) ?_
        exact Steps.refl _)
      exact ⟨T11, some (.int 0), _, _, _, X11, rfl, rfl, rfl, (fun h => by cases h), ⟨0, rfl, hh11, Or.inr ⟨rfl, Cod.dif hx.2.2.2.2.1 hy.2.2.2.2.1 hcd⟩⟩, fun fs hl => c13.trans (X11.ireturnOut hexec hret rfl (Or.inr (Or.inl rfl)) (hb hbytes d55) hl)⟩
theorem pays {l : Launch} {R : Room} {p : Program} {e : Env} {below : List Frame} {s : State} {sargs : Array Value} {len W : Nat} (x t : Addr) (V : Cell) (cd : Int32) (n : Nat) (f : Nat → Int32) (y t' : Addr) (V' : Cell) (cd' : Int32) (k : Nat) (g : Nat → Int32) (z : Int32) (htab : tab.before sargs s = true) (hfr : 2 ≤ R.frames) (hlo : W + 28 ≤ R.locals) :
    Back l R p e below s sargs yN len W (fun A₁ a₁ => A₁.cells + 0 ≤ R.cells ∧ A₁.slots + 0 ≤ R.slots ∧ P x t V cd n f y t' V' cd' k g z a₁ A₁.U) (fun A₁ _ v₁ B₁ => Says01 (SameT n f k g) v₁ A₁.U B₁.U ∧ B₁.locs = A₁.locs ++ [] ∧ B₁.cells = A₁.cells + 0 ∧ B₁.slots = A₁.slots + 0) :=
  (law l x t V cd n f y t' V' cd' k g z).pays htab hfr (by omega)
end SEq
end StrChars
namespace StrChars.Road
open Jvm Sem ClassFile Op Lib Jvm.Stand Jvm.Free Jvm.Free.XT
open Jvm.Lib.Cold (StaticIs)
/-- the words of String.equals(Object) -/
abbrev wordsEq : List Jvm.Cond := [.code SEq.yN SEq.yB 3 (some .boolean), .initialized ST, .classLink ST 10 ST, .fieldLink ST 38 ST "COMPACT_STRINGS" "Z", .fieldLink ST 15 ST "coder" "B", .fieldLink ST 9 ST "value" "[B", .methodLink ST 541 LEq.yN, .static LEq.yN, .code LEq.yN LEq.yB 3 (some .boolean), .initialized "java/lang/StringLatin1"]
theorem tabEq_of {a : Array Value} {s : State} (h : ∀ w ∈ wordsEq, w.before a s = true) : SEq.tab.before a s = true := by
  have hl : LEq.tab.before a s = true := unparts (wk h (.code LEq.yN LEq.yB 3 (some .boolean))) (wks h (.initialized LEq.yN.cls :: LEq.site))
  have q := consq hl h
  exact unparts (wk q (.code SEq.yN SEq.yB 3 (some .boolean))) (wks q (.initialized SEq.yN.cls :: SEq.site))
theorem movedEq {Z s : State} {a0 args : Array Value} (hZ : Z.Warmed39 s.vm) (hw : ∀ d ∈ wordsEq, d.before a0 Z = true) : ∀ d ∈ wordsEq, d.before args s = true := fun d hd => by
  have t : ∀ d ∈ wordsEq, (d.onTables && d.keepsFace) = true := by decide +kernel
  exact RoadKit.mv hZ (hw d hd) (t d hd)
/-- the road's facts of a String, as the laws ask it -/
theorem txt_of {Z U : State} {a0 : Array Value} {kI : Nat} (wi : (Jvm.Cond.instantiable ST kI).before a0 Z = true) (al : Z.vm.Alike U.vm) {x t : Addr} {kb : ClassId} {cs : List Int32} {cd N2 : Int32} {vs : List Value} (E : RoadKit.Exa Z U.heap x ST) (V : RoadKit.Fld Z U.heap x ST "value" "[B" (.ref t)) (C : RoadKit.Fld Z U.heap x ST "coder" "B" (.int cd)) (K : RoadKit.Arv Z U.heap t kb .byte N2 vs (.int 0)) (hc : CodA cs cd N2 vs) (hb : ∀ c ∈ cs, ¬ c < 0 ∧ ¬ (65535 : Int32) < c) (l2 : cs.length ≤ 4000) :
    ∃ A, Txt x t A cd cs.length (fun j => cs.getD j 0) U := by
  obtain ⟨A, K1, K2, K3, K4, K5, K6⟩ := K
  have hcod := hc.cod (by omega) K3 K5
  obtain ⟨D, fV, fC, hB, F1, F2, g1, g2, -, -⟩ := strObj wi al E V C
  exact ⟨A, ⟨_, hB.2.2.1, D, hB.1, rfl, by cases q : D.vm <;> first | rfl | exact absurd q (hB.2.1.2 _)⟩, Has.of hB F1 g1, Has.of hB F2 g2, ⟨K1.1, State.isArrayOf_alike al K1.2.1, K1.2.2, by rcases hcod with ⟨-, q, -⟩ | ⟨-, q, -⟩ <;> omega⟩, hcod, fun j hj => by
    have e : cs.getD j 0 = cs[j] := by simp [List.getD_eq_getElem?_getD, hj]
    show ¬ cs.getD j 0 < 0 ∧ ¬ 65535 < cs.getD j 0
    rw [e]; exact hb _ (List.getElem_mem _)⟩
theorem same_list (cs ds : List Int32) : SameT cs.length (fun j => cs.getD j 0) ds.length (fun j => ds.getD j 0) ↔ cs = ds := by
  constructor
  · rintro ⟨e, q⟩
    refine List.ext_getElem e fun j h1 h2 => ?_
    have := q j h1
    simpa [List.getD_eq_getElem?_getD, h1, h2] using this
  · rintro rfl
    exact ⟨rfl, fun _ _ => rfl⟩
/-- **equals(Object) OF TWO SUCH STRINGS**: 1 just where the chars are the same -/
theorem eqW {p : Program} {l : Launch} {e : Env} {R : Room} {s : State} {args : Array Value} {below : List Frame} {len W : Nat} {Z : State} {a0 : Array Value} {h : Heap} (hZ : Z.Warmed39 s.vm) (hw : ∀ d ∈ wordsEq, d.before a0 Z = true) {kI : Nat} (wi : (Jvm.Cond.instantiable ST kI).before a0 Z = true)
    {x t : Addr} {kb : ClassId} {cs : List Int32} {cd N2 : Int32} {vs : List Value} (E : RoadKit.Exa Z h x ST) (V : RoadKit.Fld Z h x ST "value" "[B" (.ref t)) (C : RoadKit.Fld Z h x ST "coder" "B" (.int cd)) (K : RoadKit.Arv Z h t kb .byte N2 vs (.int 0)) (hc : CodA cs cd N2 vs) (hb : ∀ c ∈ cs, ¬ c < 0 ∧ ¬ (65535 : Int32) < c) (l2 : cs.length ≤ 4000)
    {y t' : Addr} {kb' : ClassId} {ds : List Int32} {cd' N2' : Int32} {vs' : List Value} (E' : RoadKit.Exa Z h y ST) (V' : RoadKit.Fld Z h y ST "value" "[B" (.ref t')) (C' : RoadKit.Fld Z h y ST "coder" "B" (.int cd')) (K' : RoadKit.Arv Z h t' kb' .byte N2' vs' (.int 0)) (hc' : CodA ds cd' N2' vs') (hb' : ∀ c ∈ ds, ¬ c < 0 ∧ ¬ (65535 : Int32) < c) (l2' : ds.length ≤ 4000)
    {z : Int32} (S : RoadKit.Sta Z h ST "COMPACT_STRINGS" "Z" (.int z)) (hz : ¬ z = 0) (hfr : 2 ≤ R.frames) (hlo : W + 28 ≤ R.locals) :
    Back l R p e below s args (⟨"java/lang/String", "equals", "(Ljava/lang/Object;)Z"⟩ : MethodName) len W (fun P a => a = #[.ref x, .ref y] ∧ P.U.heap = h ∧ P.cells + 0 ≤ R.cells ∧ P.slots + 0 ≤ R.slots)
      (fun P _ v B => ∃ L, (((v = some (.int 1) ∧ cs = ds) ∨ (v = some (.int 0) ∧ ¬ cs = ds)) ∧ L = [] ∧ B.U.heap = h) ∧ B.locs = P.locs ++ L ∧ B.cells = P.cells + 0 ∧ B.slots = P.slots + 0) := by
  intro m meth c P g ig mk a X hg hsize hdg hW hn hp'
  obtain ⟨rfl, rfl, r1, r2⟩ := hp'
  have al : Z.vm.Alike P.U.vm := hZ.alike.trans X.warmed.alike
  obtain ⟨A, hx⟩ := txt_of wi al E V C K hc hb l2
  obtain ⟨A', hy⟩ := txt_of wi al E' V' C' K' hc' hb' l2'
  obtain ⟨v, B, X', ⟨⟨w, hv, hh, hq⟩, hl, hk, hs⟩, st⟩ := SEq.pays x t A cd cs.length (fun j => cs.getD j 0) y t' A' cd' ds.length (fun j => ds.getD j 0) z (tabEq_of (movedEq hZ hw)) hfr hlo m meth c P g ig mk _ X hg hsize hdg hW hn ⟨r1, r2, rfl, hx, hy, sta_is al S, hz⟩
  refine ⟨v, B, X', ⟨[], ⟨?_, rfl, hh⟩, hl, hk, hs⟩, st⟩
  rcases hq with ⟨rfl, q⟩ | ⟨rfl, q⟩
  · exact Or.inl ⟨hv, (same_list cs ds).mp q⟩
  · exact Or.inr ⟨hv, fun e => q ((same_list cs ds).mpr e)⟩
end StrChars.Road
namespace StrChars
open Jvm Sem ClassFile Op Lib Jvm.Stand Jvm.Free.XT Jvm.Free.ALB Jvm.Free.JM Jvm.Free
open Jvm.Lib.Cold (StaticIs)
namespace ChN
def yN : MethodName := ⟨"java/lang/String", "charAt", "(I)C"⟩
abbrev yB : ByteArray := jdk_42_method_56_code
theorem d0 : decode yB 0 = .ok (.aload_n 0, 1) := by decide +kernel
theorem d1 : decode yB 1 = .ok (.invokevirtual 492, 3) := by decide +kernel
theorem d4 : decode yB 4 = .ok (.ifCond (.eq) 12, 3) := by decide +kernel
theorem d7 : decode yB 7 = .ok (.aload_n 0, 1) := by decide +kernel
theorem d8 : decode yB 8 = .ok (.getfield 9, 3) := by decide +kernel
theorem d11 : decode yB 11 = .ok (.iload_n 1, 1) := by decide +kernel
theorem d12 : decode yB 12 = .ok (.invokestatic 495, 3) := by decide +kernel
theorem d15 : decode yB 15 = .ok (.ireturn, 1) := by decide +kernel
def site : List Cond := [.fieldLink "java/lang/String" 9 "java/lang/String" "value" "[B", IsL.tab, LChA.tab] ++ virtW "java/lang/String" 492 "java/lang/String" IsL.yN IsL.yN ++ staticW "java/lang/String" 495 LChA.yN
def tab : Cond := tabOf yN yB 2 (some .char) site
def P (x t : Addr) (V : Cell) (n : Nat) (f : Nat → Int32) (z : Int32) (fm : Value) (i : Nat) (args : Array Value) (s : State) : Prop := args = #[.ref x, .int (Int32.ofNat i)] ∧ Txt x t V 0 n f s ∧ i < n ∧ StaticIs s "java/lang/String" "COMPACT_STRINGS" "Z" (.int z) ∧ ¬ z = 0 ∧ StaticIs s "jdk/internal/util/Preconditions" "SIOOBE_FORMATTER" "Ljava/util/function/BiFunction;" fm ∧ fm.isRef = true
def E (f : Nat → Int32) (i : Nat) (r : Option Value) (s u : State) : Prop := XT.PureE (some (.int (f i))) r s u
/-- charAt(i) of a Latin-1 String of n chars, i < n: f i -/
theorem law (l : Launch) (x t : Addr) (V : Cell) (n : Nat) (f : Nat → Int32) (z : Int32) (fm : Value) (i : Nat) : Law l yN 2 1 3 40 yB 2 (some .char) site (P x t V n f z fm i) (E f i) [] 0 0 := by
  refine Law.of_walk (plainFor_of_name (by decide +kernel)) (by decide +kernel) (by decide +kernel) (by decide) (fun _ _ h => by rw [h.1]; rfl) (fun _ U U' hal hh h => ⟨h.1, h.2.1.mv hal hh, h.2.2.1, h.2.2.2.1.there hal hh, h.2.2.2.2.1, h.2.2.2.2.2.1.there hal hh, h.2.2.2.2.2.2⟩) (fun r U U' V V' h1 hal h2 h => XT.PureE.mv r U U' V V' h1 hal h2 h) ?_
  intro p e s m args below meth c s₁ X0 hexec hbytes hml hret hlk hnm hown hh0 W hP
  obtain ⟨rfl, hx, hi, s1, hz, s3, rf⟩ := hP
  have v31 := hx.2.2.2.1.2.2.2
  have hr := hx.2.2.2.2.2 i hi
  have hx0 := hx.mv X0.warmed.alike hh0
  have c1 : Steps p.tables e below (s₁.setTop (entryFrame m #[.ref x, .int (Int32.ofNat i)] 2)) (s₁.setTop (mkF m 1 #[.val (.ref x), .val (.int (Int32.ofNat i))] [.ref x])) := Steps.trans (entry rfl) (by
    show Steps p.tables e below (s₁.setTop (mkF m 0 #[.val (.ref x), .val (.int (Int32.ofNat i))] [])) _
    refine XS.aloadN X0.here hexec rfl (hb hbytes d0) rfl rfl ?_
    exact Steps.refl _)
  obtain ⟨v2, T2, X2, E2, g2⟩ := X0.callV hexec (IsL.law l x 0 z) hown (wks W (virtW "java/lang/String" 492 "java/lang/String" IsL.yN IsL.yN)) rfl (by decide) (wk W IsL.tab) (W := 0) (Nat.le_of_ble_eq_true rfl) (Nat.le_of_ble_eq_true rfl) (Nat.le_refl _) (Nat.le_refl _) (hx0.1.fc X0.warmed.alike) hx0.1.is (g := (mkF m 1 #[.val (.ref x), .val (.int (Int32.ofNat i))] [.ref x])) rfl (by rw [hml]; rfl) c1 (argsL := []) (rest := []) rfl rfl (by show 2 * 0 + 0 ≤ _; decide) (hb hbytes d1) (⟨rfl, hx0.2.2.1, hx.2.2.2.2.1.cd, s1.there X0.warmed.alike hh0, hz⟩)
  obtain ⟨rfl, q2⟩ := E2
  have hh2 := q2.trans hh0
  have hx2 := hx.mv X2.warmed.alike hh2
  obtain ⟨-, k1, k2⟩ | ⟨k0, -⟩ := hx.2.2.2.2.1
  · have c3 : Steps p.tables e below (s₁.setTop (entryFrame m #[.ref x, .int (Int32.ofNat i)] 2)) (T2.setTop (mkF m 8 #[.val (.ref x), .val (.int (Int32.ofNat i))] [.ref x])) := Steps.trans g2 (by
      refine XS.ifNo X2.here hexec rfl (hb hbytes d4) rfl (i0_eq_f (by decide)) ?_
      refine XS.aloadN X2.here hexec rfl (hb hbytes d7) rfl rfl ?_
      exact Steps.refl _)
    obtain ⟨T4, X4, q4, st4⟩ := X2.hget hexec hown (wk W (.fieldLink "java/lang/String" 9 "java/lang/String" "value" "[B")) hx2.2.1 (g := (mkF m 8 #[.val (.ref x), .val (.int (Int32.ofNat i))] [.ref x])) rfl (rest := []) rfl (hb hbytes d8)
    have hh4 := q4.trans hh2
    have c5 : Steps p.tables e below (s₁.setTop (entryFrame m #[.ref x, .int (Int32.ofNat i)] 2)) (T4.setTop (mkF m 12 #[.val (.ref x), .val (.int (Int32.ofNat i))] [.int (Int32.ofNat i), .ref t])) := (c3.trans (st4 _ (Steps.refl _))).trans (by
      refine XS.iloadN X4.here hexec rfl (hb hbytes d11) rfl ?_
      exact Steps.refl _)
    obtain ⟨v6, T6, X6, E6, g6⟩ := X4.callS hexec (LChA.law l t V i (lo8 (f i)) fm) hown (wks W (staticW "java/lang/String" 495 LChA.yN)) (wk W LChA.tab) (W := 0) (Nat.le_of_ble_eq_true rfl) (Nat.le_of_ble_eq_true rfl) (Nat.le_refl _) (Nat.le_refl _) (g := (mkF m 12 #[.val (.ref x), .val (.int (Int32.ofNat i))] [.int (Int32.ofNat i), .ref t])) rfl (by rw [hml]; rfl) c5 (argsL := [.ref t, .int (Int32.ofNat i)]) (rest := []) rfl rfl (by show 2 * 0 + 0 ≤ _; decide) (hb hbytes d12) (⟨rfl, hx.2.2.2.1.mv X4.warmed.alike hh4, (k2 i hi).1, s3.there X4.warmed.alike hh4, rf⟩)
    obtain ⟨rfl, q6⟩ := E6
    rw [chr8_lo8 hr.1 (k2 i hi).2] at g6
    exact ⟨T6, some (.int (f i)), _, _, _, X6, rfl, rfl, rfl, (fun h => by cases h), ⟨rfl, q6.trans hh4⟩, fun fs hl => Steps.trans g6 (X6.ireturnOut hexec hret (narrow_ch hr.1 hr.2) (Or.inr (Or.inr (Or.inr (Or.inl rfl)))) (hb hbytes d15) hl)⟩
  · exact absurd k0 (by decide)
theorem pays {l : Launch} {R : Room} {p : Program} {e : Env} {below : List Frame} {s : State} {sargs : Array Value} {len W : Nat} (x t : Addr) (V : Cell) (n : Nat) (f : Nat → Int32) (z : Int32) (fm : Value) (i : Nat) (htab : tab.before sargs s = true) (hfr : 4 ≤ R.frames) (hlo : W + 53 ≤ R.locals) :
    Back l R p e below s sargs yN len W (fun A₁ a₁ => A₁.cells + 0 ≤ R.cells ∧ A₁.slots + 0 ≤ R.slots ∧ P x t V n f z fm i a₁ A₁.U) (fun A₁ _ v₁ B₁ => E f i v₁ A₁.U B₁.U ∧ B₁.locs = A₁.locs ++ [] ∧ B₁.cells = A₁.cells + 0 ∧ B₁.slots = A₁.slots + 0) :=
  (law l x t V n f z fm i).pays htab hfr (by omega)
end ChN
end StrChars
namespace StrChars.Road
open Jvm Sem ClassFile Op Lib Jvm.Stand Jvm.Free Jvm.Free.XT
open Jvm.Lib.Cold (StaticIs)
/-- the words of String.charAt(int), the Latin-1 road alone -/
abbrev wordsChN : List Jvm.Cond := [.code ChN.yN ChN.yB 2 (some .char), .initialized ST, .fieldLink ST 9 ST "value" "[B", .fieldLink ST 38 ST "COMPACT_STRINGS" "Z", .fieldLink ST 15 ST "coder" "B", .code IsL.yN IsL.yB 1 (some .boolean), .methodLink ST 492 IsL.yN, .declares IsL.yN, .selects ST IsL.yN IsL.yN, .instanceMethod IsL.yN,
  .methodLink ST 495 LChA.yN, .static LChA.yN, .code LChA.yN LChA.yB 2 (some .char), .initialized "java/lang/StringLatin1", .methodLink "java/lang/StringLatin1" 9 JO.Str_checkIndex.yN, .static JO.Str_checkIndex.yN, .code JO.Str_checkIndex.yN JO.Str_checkIndex.yB 2 none,
  .fieldLink ST 1053 "jdk/internal/util/Preconditions" "SIOOBE_FORMATTER" "Ljava/util/function/BiFunction;", .methodLink ST 1059 JC.PreCheck.yN, .static JC.PreCheck.yN, .code JC.PreCheck.yN JC.PreCheck.yB 3 (some .int), .initialized "jdk/internal/util/Preconditions"]
theorem tabChN_of {a : Array Value} {s : State} (h : ∀ w ∈ wordsChN, w.before a s = true) : ChN.tab.before a s = true := by
  have hp : JC.PreCheck.tab.before a s = true := unparts (wk h (.code JC.PreCheck.yN JC.PreCheck.yB 3 (some .int))) (wks h (.initialized JC.PreCheck.yN.cls :: JC.PreCheck.site))
  have qk := consq hp h
  have hk : JO.Str_checkIndex.tab.before a s = true := unparts (wk qk (.code JO.Str_checkIndex.yN JO.Str_checkIndex.yB 2 none)) (wks qk (.initialized JO.Str_checkIndex.yN.cls :: JO.Str_checkIndex.site))
  have ql := consq hk h
  have hl : LChA.tab.before a s = true := unparts (wk ql (.code LChA.yN LChA.yB 2 (some .char))) (wks ql (.initialized LChA.yN.cls :: LChA.site))
  have hi : IsL.tab.before a s = true := unparts (wk h (.code IsL.yN IsL.yB 1 (some .boolean))) (wks h (.initialized IsL.yN.cls :: IsL.site))
  have q := consq hi (consq hl h)
  exact unparts (wk q (.code ChN.yN ChN.yB 2 (some .char))) (wks q (.initialized ChN.yN.cls :: ChN.site))
theorem movedChN {Z s : State} {a0 args : Array Value} (hZ : Z.Warmed39 s.vm) (hw : ∀ d ∈ wordsChN, d.before a0 Z = true) : ∀ d ∈ wordsChN, d.before args s = true := fun d hd => by
  have t : ∀ d ∈ wordsChN, (d.onTables && d.keepsFace) = true := by decide +kernel
  exact RoadKit.mv hZ (hw d hd) (t d hd)
/-- **charAt(i) OF A LATIN-1 STRING**, i < n: the char -/
theorem chN {p : Program} {l : Launch} {e : Env} {R : Room} {s : State} {args : Array Value} {below : List Frame} {len W : Nat} {Z : State} {a0 : Array Value} {h : Heap} (hZ : Z.Warmed39 s.vm) (hw : ∀ d ∈ wordsChN, d.before a0 Z = true) {kI : Nat} (wi : (Jvm.Cond.instantiable ST kI).before a0 Z = true)
    {x t : Addr} {kb : ClassId} {cs : List Int32} {N2 z : Int32} {vs : List Value} {fm : Value} {i : Nat} {j : Int32} (E : RoadKit.Exa Z h x ST) (V : RoadKit.Fld Z h x ST "value" "[B" (.ref t)) (C : RoadKit.Fld Z h x ST "coder" "B" (.int 0)) (K : RoadKit.Arv Z h t kb .byte N2 vs (.int 0)) (hc : CodA cs 0 N2 vs) (hb : ∀ c ∈ cs, ¬ c < 0 ∧ ¬ (65535 : Int32) < c)
    (S : RoadKit.Sta Z h ST "COMPACT_STRINGS" "Z" (.int z)) (hz : ¬ z = 0) (F : RoadKit.Sta Z h "jdk/internal/util/Preconditions" "SIOOBE_FORMATTER" "Ljava/util/function/BiFunction;" fm) (rf : fm.isRef = true) (l2 : cs.length ≤ 4000) (hi : i < cs.length) (hj : j = Int32.ofNat i) (hfr : 4 ≤ R.frames) (hlo : W + 53 ≤ R.locals) :
    Back l R p e below s args (⟨"java/lang/String", "charAt", "(I)C"⟩ : MethodName) len W (fun P a => a = #[.ref x, .int j] ∧ P.U.heap = h ∧ P.cells + 0 ≤ R.cells ∧ P.slots + 0 ≤ R.slots)
      (fun P _ v B => ∃ L, (v = some (.int (cs.getD i 0)) ∧ L = [] ∧ B.U.heap = h) ∧ B.locs = P.locs ++ L ∧ B.cells = P.cells + 0 ∧ B.slots = P.slots + 0) := by
  subst hj
  intro m meth c P g ig mk a X hg hsize hdg hW hn hp'
  obtain ⟨rfl, rfl, r1, r2⟩ := hp'
  have al : Z.vm.Alike P.U.vm := hZ.alike.trans X.warmed.alike
  obtain ⟨A, hx⟩ := txt_of wi al E V C K hc hb l2
  obtain ⟨v, B, X', ⟨⟨hv, hh⟩, hl, hk, hs⟩, st⟩ := ChN.pays x t A cs.length (fun j => cs.getD j 0) z fm i (tabChN_of (movedChN hZ hw)) hfr hlo m meth c P g ig mk _ X hg hsize hdg hW hn ⟨r1, r2, rfl, hx, hi, sta_is al S, hz, sta_is al F, rf⟩
  exact ⟨v, B, X', ⟨[], ⟨hv, rfl, hh⟩, hl, hk, hs⟩, st⟩
/-- what backV says of its String, as the contracts of this text ask it: cs's low bytes, coder 0 -/
theorem codOf {cs : List Int32} {n : Nat} (hn : cs.length = n) (hb : ∀ c ∈ cs, ¬ 255 < c) : CodA cs 0 (Int32.ofNat n) ((cs.map lo8).map Value.int) := Or.inl ⟨rfl, by rw [hn], by simp [List.map_map, Function.comp_def], hb⟩
end StrChars.Road
end Jvm.Pilot.@@N@@
namespace Jvm.Pilot.@@N@@
open Jvm Jvm.ClassFile Sem Op Lib Jvm.Free Jvm.Stand Jvm.LawKit Jvm.RoadKit Bundle Jvm.Pilot.@@N@@.Jvm.D
theorem own_b1 {v A K : Int32} (h : v < A) (d : ¬ (K < A)) : v < K := by rw [Int32.lt_iff_toInt_lt] at *; omega
theorem own_b2 {v A K : Int32} (h : v < A) (d : A.toInt ≤ K.toInt + 1) : ¬ (K < v) := by rw [Int32.lt_iff_toInt_lt] at *; omega
theorem own_b3 {v A K : Int32} (h : ¬ (v < A)) (d : ¬ (A < K)) : ¬ (v < K) := by rw [Int32.lt_iff_toInt_lt] at *; omega
theorem own_b4 {v A K : Int32} (h : ¬ (v < A)) (d : K < A) : K < v := by rw [Int32.lt_iff_toInt_lt] at *; omega
theorem own_b5 {v A K : Int32} (h : A < v) (d : K.toInt ≤ A.toInt + 1) : ¬ (v < K) := by rw [Int32.lt_iff_toInt_lt] at *; omega
theorem own_b6 {v A K : Int32} (h : A < v) (d : ¬ (A < K)) : K < v := by rw [Int32.lt_iff_toInt_lt] at *; omega
theorem own_b7 {v A K : Int32} (h : ¬ (A < v)) (d : A < K) : v < K := by rw [Int32.lt_iff_toInt_lt] at *; omega
theorem own_b8 {v A K : Int32} (h : ¬ (A < v)) (d : ¬ (K < A)) : ¬ (K < v) := by rw [Int32.lt_iff_toInt_lt] at *; omega
theorem own_w {Z : State} {a0 : Array Value} (hw : ∀ d ∈ tables_1, d.before a0 Z = true) (i : Nat) {d : Jvm.Cond} (h : tables_1[i]? = some d) : d.before a0 Z = true := hw d (List.mem_of_getElem? h)
theorem own_fldI {args : Array Value} {s : State} {t : Term} {x : Addr} {C n d : String} {k : Int32} (ht : t.eval args s none [] s = some (.ref x)) (h : (Jvm.Cond.eq (.field t C n d) (.int k)).value args s none s [] = some true) : s.fieldOf? x C n d = some (.int k) := by
  obtain ⟨u, v, e1, e2, -, -⟩ := cmp_v (Or.inl h)
  have e3 : (Term.field t C n d).eval args s none [] s = s.fieldOf? x C n d := fld_at ht
  cases (show some (Value.int k) = some v from e2)
  rw [e3] at e1
  cases u <;> simp [Jvm.Cond.value, Term.eval, ht, e1] at h
  rw [e1, h]
theorem own_fldR {args : Array Value} {s : State} {t u : Term} {x y : Addr} {C n d : String} (ht : t.eval args s none [] s = some (.ref x)) (hu : u.eval args s none [] s = some (.ref y)) (h : (Jvm.Cond.eq (.field t C n d) u).value args s none s [] = some true) : s.fieldOf? x C n d = some (.ref y) := by
  obtain ⟨v, w, e1, e2, -, -⟩ := cmp_v (Or.inl h)
  have e3 : (Term.field t C n d).eval args s none [] s = s.fieldOf? x C n d := fld_at ht
  rw [e3] at e1
  cases v <;> simp [Jvm.Cond.value, Term.eval, ht, hu, e1] at h
  rw [e1, h]
theorem own_lat (x : Int32) : ¬ (x &&& (255 : Int32)) < 0 ∧ ¬ (255 : Int32) < (x &&& (255 : Int32)) := by
  have h := c_and x 255 (by decide)
  have e0 : (0 : Int32).toInt = 0 := by decide
  have e1 : (255 : Int32).toInt = 255 := by decide
  rw [e1] at h
  rw [Int32.lt_iff_toInt_lt, Int32.lt_iff_toInt_lt, e0, e1]
  omega
theorem own_up {cs : List Int32} (h : ∀ c ∈ cs, ¬ c < 0 ∧ ¬ (255 : Int32) < c) : ∀ c ∈ cs, ¬ c < 0 ∧ ¬ (65535 : Int32) < c := fun c hc => ⟨(h c hc).1, fun q => (h c hc).2 (by
  have e1 : (255 : Int32).toInt = 255 := by decide
  have e2 : (65535 : Int32).toInt = 65535 := by decide
  rw [Int32.lt_iff_toInt_lt] at q ⊢
  omega)⟩
theorem own_nar {x : Int32} (h : ¬ (x < (0 : Int32)) ∧ ¬ ((255 : Int32) < x)) : x.toUInt32.toUInt16.toUInt32.toInt32 = x := by
  have e1 : (255 : Int32).toInt = 255 := by decide
  have e0 : (0 : Int32).toInt = 0 := by decide
  have h1 := h.1
  have h2 := h.2
  rw [Int32.lt_iff_toInt_lt] at h1 h2
  have e : x = x &&& (255 : Int32) := by
    apply Int32.toInt_inj.mp
    have q := c_mask x 255 8 (by decide) (by decide)
    have q2 : ((2 ^ 8 : Nat) : Int) = 256 := by decide
    rw [q, q2]; omega
  rw [e]; exact i2c_mask x
theorem own_words : ∀ d ∈ StrChars.Road.words, d ∈ tables_1 := by decide +kernel
theorem own_wordsChN : ∀ d ∈ StrChars.Road.wordsChN, d ∈ tables_1 := by decide +kernel
theorem own_wordsEq : ∀ d ∈ StrChars.Road.wordsEq, d ∈ tables_1 := by decide +kernel
section OwnS
variable {p : Program} {l : Launch} {e : Env} {R : Room} {s : State} {args : Array Value} {below : List Frame} {Z : State} {a0 : Array Value} {EL : List (String × Nat)} {h : Heap} {vm0 : Vm}
theorem own_backS {y : MethodName} {bytes : ByteArray} {maxL : Nat} {ret : Option FieldType} {rm : Room} {len W : Nat} {as' : Array Value} {Q : Option Value → Heap → List Loc → Prop} {xs : List Addr}
    (hM : MetFree l y (head1 [Jvm.Cond.code y bytes maxL ret] rm) (fun a U => a = as' ∧ Z.Warmed39 U.vm ∧ U.heap = h ∧ CHv Z EL U.vm h ∧ ∀ x ∈ xs, Safe Z EL U.vm h x) (fun _ _ _ _ _ => True) (fun _ U o U' => ∃ v L, o = .returned v ∧ Q v U'.heap L ∧ CHr Z EL U.vm U.heap U'.vm U'.heap ∧ ReturnedEndW U o U' L rm.cells rm.slots))
    (hZ : Z.Warmed39 vm0) (wc : (Jvm.Cond.code y bytes maxL ret).before a0 Z = true) (wz : (Jvm.Cond.initialized y.cls).before a0 Z = true) (hf : rm.frames + 1 ≤ R.frames) (hl : W + (maxL + 11) + rm.locals ≤ R.locals) (hEL : EW Z a0 EL) (H : CHv Z EL vm0 h) (hxs : ∀ x ∈ xs, x < h.size ∧ Safe Z EL vm0 h x) :
    BackS l R p e below (s.setVm vm0) args y len W (fun A a => a = as' ∧ A.U.heap = h ∧ A.cells + rm.cells ≤ R.cells ∧ A.slots + rm.slots ≤ R.slots)
      (fun A _ v B => ∃ L, Q v B.U.heap L ∧ B.locs = A.locs ++ L ∧ B.cells = A.cells + rm.cells ∧ B.slots = A.slots + rm.slots ∧ CHr Z EL vm0 h B.U.vm B.U.heap) := by
  refine BackS.of_freeW (bytes := bytes) (maxL := maxL) (ret := ret) (E := fun _ first o t L k n => k = rm.cells ∧ n = rm.slots ∧ (∃ v, o = .returned v ∧ Q v t.heap L) ∧ CHr Z EL first.vm first.heap t.vm t.heap) hM hf hl ?_ ?_ (fun _ _ _ _ _ _ _ _ _ => trivial) ?_ ?_
  · intro m meth c A a Y hp
    have hU : Z.Warmed39 A.U.vm := wtrans (s := s.setVm vm0) hZ Y.warmed
    refine ⟨?_, mv hU wc, mv hU wz, hp.2.2.1, hp.2.2.2⟩
    show (Jvm.Cond.and _ .tt).before a A.U = true
    rw [Cond.before_and, mv hU wc]; rfl
  · intro m meth c A a g mk Y hp
    have C := CHv.at Y hZ hEL H
    exact ⟨hp.1, wtrans (s := s.setVm vm0) hZ Y.warmed, hp.2.1, C.1, fun x hx => C.safe (hxs x hx).1 (hxs x hx).2⟩
  · rintro _ _ _ _ ⟨v, L, h1, h2, h3, h4⟩
    exact ⟨L, _, _, h4, rfl, rfl, ⟨v, h1, h2⟩, h3⟩
  · rintro m meth c A a g mk v t L k n Y hp - - ⟨e1, e2, ⟨v', e3, e4⟩, e5⟩
    cases e3; subst e1 e2
    refine ⟨L, e4, rfl, rfl, rfl, (CHv.at Y hZ hEL H).trans ?_⟩
    rw [← hp.2.1]; exact e5
end OwnS
def own_EL : List (String × Nat) := [("com/example/pico_notify/piconotify/XmlBoolPinLaw", 7), ("java/lang/String", 7), ("com/example/pico_notify/piconotify/Xml", 246), ("com/example/pico_notify/piconotify/Xml", 248), ("com/example/pico_notify/piconotify/Xml", 256), ("com/example/pico_notify/piconotify/Xml", 258)]
theorem own_atoms : ∀ d ∈ Bundle.stringAtoms, d ∈ tables_1 := by decide +kernel
theorem own_EWof {Z : State} {a0 : Array Value} (hw : ∀ d ∈ tables_1, d.before a0 Z = true) : EW Z a0 own_EL := (EW.cons (own_w hw 4 rfl) (by decide) (EW.cons (own_w hw 52 rfl) (by decide) (EW.cons (own_w hw 57 rfl) (by decide) (EW.cons (own_w hw 67 rfl) (by decide) (EW.cons (own_w hw 68 rfl) (by decide) (EW.cons (own_w hw 69 rfl) (by decide) EW.nil))))))
theorem own_sub : ∀ p ∈ own_EL, p ∈ consts_1 := by decide +kernel
section OwnW
open Jvm.Free.SB Jvm.Free.SBG
variable {p : Program} {l : Launch} {e : Env} {R : Room} {s : State} {m : MethodId} {args : Array Value} {below : List Frame} {meth : Method} {c : Code} {T : State} {locs : List Loc} {cells slots : Nat}
theorem own_now (X : Stand p l e R s m args below meth c T locs cells slots) {index : Nat} {k k' : Class} {cf : ClassFile} {text : String} {cl : ClassId} (hk : s.vm.classes[cl]? = some k) (hk' : T.vm.classes[cl]? = some k') (hcf : k.cf = some cf)
    (hnm : namesOf? cf.constantPool index = some (.string text)) (hres : k.resolved[index]? = some none ∨ ∃ a, k.resolved[index]? = some (some (.string a))) :
    (k'.resolved[index]? = some none ∧ k.resolved[index]? = some none) ∨ ∃ a, k'.resolved[index]? = some (some (.string a)) := by
  rcases X.warmed.wide.entry hk hk' index with q | ⟨-, r, q, hr | ⟨a, t, rfl, -⟩⟩
  · rcases hres with h0 | ⟨a, h0⟩
    · exact Or.inl ⟨q.trans h0, h0⟩
    · exact Or.inr ⟨a, q.trans h0⟩
  · exfalso
    cases r <;> simp [State.rightAt, hk, hcf, hnm] at hr
  · exact Or.inr ⟨a, q⟩
/-- the machine's part, once: whatever state V the instruction's meaning leads to, the walk goes on there -/
theorem own_stepW (X : Stand p l e R s m args below meth c T locs cells slots) (hx : p.tables.exec = Jvm.exec) {index : Nat} {g : JFrame} (hg : g.method = m) (hd : decode c.code g.pc = .ok (.ldc_w index, 3)) {V : State} {a : Addr} (hV : V.topJava?.isSome = true)
    (sem : ∀ (Q : Unit → Pre) (E : CtlPost) (d : Bool) (acts : List Action), (∀ d' acts', Q () d' acts' (V.setTop { g with stack := .ref a :: g.stack })) → wp (ldc_w.sem index) Q E e d acts (T.setTop g)) :
    ∀ target, Steps p.tables e below (V.setTop { g with pc := g.pc + 3, stack := .ref a :: g.stack }) target → Steps p.tables e below (T.setTop g) target := by
  intro target kt
  subst hg
  refine Steps.instr (c := _) (by simpa using X.here) ?_
  simp [jvm, wpRun, exec, X.here.top, hx, hd]
  refine sem _ _ _ _ fun d' acts' acts2 => ?_
  simp [jvm, afterInstr, hV]
  rw [State.modifyTopJava_setTop]
  exact kt
/-- what is asked of the state behind the load -/
def own_After (R : Room) (p : Program) (l : Launch) (e : Env) (s : State) (m : MethodId) (args : Array Value) (below : List Frame) (meth : Method) (c : Code) (T : State) (locs : List Loc) (cells slots index : Nat) (a : Addr) (V : State) : Prop :=
  Stand p l e R (s.setVm V.vm) m args below meth c V locs cells slots ∧ s.Since V.vm V.heap.size ∧ (∃ k, V.vm.classes[m.cls]? = some k ∧ k.resolved[index]? = some (some (.string a))) ∧ (∀ b, b < T.heap.size → V.heap[b]? = T.heap[b]?) ∧ T.Warmed39 V.vm ∧
    (V.vm.interned = T.vm.interned ∨ ∃ us : Array UInt16, V.vm.interned = T.vm.interned.push (us, a) ∧ T.vm.interned.find? (fun q => q.1 == us) = none ∧ (us.all (· < 256) = true → SlIn 0 T.heap.size V a us))
/-- the pool's entry of a class, as three facts that the tables' notes ask -/
def own_Pool (k : Class) (index i : Nat) (us : Array UInt16) (text : String) : Prop :=
  k.cf.bind (namesOf? ·.constantPool index) = some (.string text) ∧ k.cf.bind (·.constantPool[index]?) = some (.string i) ∧ k.cf.bind (·.constantPool.utf8? i) = some us
/-- open, and the text is interned already: the entry is noted, nothing is made -/
theorem own_found (X : Stand p l e R s m args below meth c T locs cells slots) {index i : Nat} {k k' : Class} {us : Array UInt16} {text : String} {a : Addr} (hk : s.vm.classes[m.cls]? = some k) (hk' : T.vm.classes[m.cls]? = some k') (P : own_Pool k index i us text) (P' : own_Pool k' index i us text)
    (o1 : k'.resolved[index]? = some none) (o0 : k.resolved[index]? = some none) (hf : T.vm.interned.find? (fun q => q.1 == us) = some (us, a)) : own_After R p l e s m args below meth c T locs cells slots index a (T.setVm (T.vm.noted m.cls index (.string a))) := by
  have hW : s.Warmed39 (T.vm.noted m.cls index (.string a)) := X.warmed.wide.notedString hk (Or.inl o0) P.1 P.2.1 P.2.2 hf
  have hB : T.Interned1 (T.setVm (T.vm.noted m.cls index (.string a))) := ⟨Nat.le_refl _, Or.inl rfl⟩
  exact ⟨X.retabled hW, ⟨hW, State.Booked.step (X.warmed.no_new_pair _) X.same.2.1 hB⟩, ⟨_, Vm.classes_note_self index (.string a) hk', Class.resolved_note_self (.string a) o1⟩, fun _ _ => rfl, (State.Warmed39.refl T).notedString hk' (Or.inl o1) P'.1 P'.2.1 P'.2.2 hf, Or.inl rfl⟩
/-- open, and the text is new: two cells are laid, the pair is interned, the entry is noted -/
theorem own_made (X : Stand p l e R s m args below meth c T locs cells slots) {index i : Nat} {k k' : Class} {us : Array UInt16} {text : String} (hk : s.vm.classes[m.cls]? = some k) (hk' : T.vm.classes[m.cls]? = some k') (P : own_Pool k index i us text) (P' : own_Pool k' index i us text)
    (o1 : k'.resolved[index]? = some none) (o0 : k.resolved[index]? = some none) (hf : T.vm.interned.find? (fun q => q.1 == us) = none) (hS : ∀ a ∈ Bundle.stringAtoms, a.before args s = true) {Y : StringT} (LY : Y.Laid s.vm) (hn4 : Y.kS.instanceTypes.size = 4) {kS : Class} (htS : kS.instanceTypes = Y.kS.instanceTypes)
    {n : Nat} (hB : (stringBytes us).size ≤ n) (hbig : n ≤ 536870912) :
    own_After R p l e s m args below meth c T locs (cells + 2) (slots + (n + 4)) index (T.heap.size + 1) ((withString T Y.cB Y.cS kS Y.fv Y.fc us).setVm (({ T.vm with interned := T.vm.interned.push (us, T.heap.size + 1) } : Vm).noted m.cls index (.string (T.heap.size + 1)))) := by
  have hp : (T.vm.interned.push (us, T.heap.size + 1)).find? (fun q => q.1 == us) = some (us, T.heap.size + 1) := by rw [Array.find?_push, hf]; simp
  have hW : s.Warmed39 (({ T.vm with interned := T.vm.interned.push (us, T.heap.size + 1) } : Vm).noted m.cls index (.string (T.heap.size + 1))) := (X.warmed.wide.interns us (T.heap.size + 1)).notedString hk (Or.inl o0) P.1 P.2.1 P.2.2 hp
  have hT : T.Warmed39 (({ T.vm with interned := T.vm.interned.push (us, T.heap.size + 1) } : Vm).noted m.cls index (.string (T.heap.size + 1))) := ((State.Warmed39.refl T).interns us (T.heap.size + 1)).notedString hk' (Or.inl o1) P'.1 P'.2.1 P'.2.2 hp
  -- the heap is the old one with two cells at its end
  have hH : (withString T Y.cB Y.cS kS Y.fv Y.fc us).heap = (T.heap.push (bytesOf Y.cB us)).push (stringAt Y.cS kS Y.fv Y.fc us T.heap.size) := by rw [withString_eq]; rfl
  have hz : (withString T Y.cB Y.cS kS Y.fv Y.fc us).heap.size = T.heap.size + 2 := by rw [hH, Array.size_push, Array.size_push]
  have g0 : ∀ b, b < T.heap.size → (withString T Y.cB Y.cS kS Y.fv Y.fc us).heap[b]? = T.heap[b]? := fun b hb => by
    rw [hH, Array.getElem?_push_lt (by rw [Array.size_push]; omega), Array.getElem_push_lt hb, Array.getElem?_eq_getElem hb]
  have g1 : (withString T Y.cB Y.cS kS Y.fv Y.fc us).heap[T.heap.size]? = some (bytesOf Y.cB us) := by
    rw [hH, Array.getElem?_push_lt (by rw [Array.size_push]; omega), Array.getElem_push_eq]
  have g2 : (withString T Y.cB Y.cS kS Y.fv Y.fc us).heap[T.heap.size + 1]? = some (stringAt Y.cS kS Y.fv Y.fc us T.heap.size) := by
    have := Array.getElem?_push_size (xs := T.heap.push (bytesOf Y.cB us)) (x := stringAt Y.cS kS Y.fv Y.fc us T.heap.size)
    rw [Array.size_push] at this
    rw [hH]; exact this
  have b1 : (bytesOf Y.cB us).slots.size = (stringBytes us).size := by rw [(Cell.writeAll_facts _ _).2.2]; simp [bytes0]
  have b2 : (stringAt Y.cS kS Y.fv Y.fc us T.heap.size).slots.size = 4 := by simp [string0, Cell.setSlot, htS, hn4]
  have X2 := (X.pushed (bytesOf Y.cB us)).pushed (stringAt Y.cS kS Y.fv Y.fc us T.heap.size)
  rw [← withString_eq] at X2
  refine ⟨(X2.mono (by omega) (by rw [b1, b2]; omega)).retabled hW, ⟨hW, State.Booked.step (X.warmed.no_new_pair _) X.same.2.1 ⟨?_, Or.inr ⟨us, T.heap.size + 1, rfl, Nat.le_succ _, ?_⟩⟩⟩,
    ⟨_, Vm.classes_note_self (vm := { T.vm with interned := T.vm.interned.push (us, T.heap.size + 1) }) index (.string (T.heap.size + 1)) hk', Class.resolved_note_self (.string (T.heap.size + 1)) o1⟩, g0, hT,
    Or.inr ⟨us, rfl, hf, fun hl => made_sl (W := (withString T Y.cB Y.cS kS Y.fv Y.fc us).setVm (({ T.vm with interned := T.vm.interned.push (us, T.heap.size + 1) } : Vm).noted m.cls index (.string (T.heap.size + 1)))) hS LY hn4 htS hW.alike g1 g2 hl (by omega) 0⟩⟩
  · show T.heap.size ≤ (withString T Y.cB Y.cS kS Y.fv Y.fc us).heap.size
    omega
  · show T.heap.size + 1 < (withString T Y.cB Y.cS kS Y.fv Y.fc us).heap.size
    omega
theorem own_ldcN (X : Stand p l e R s m args below meth c T locs cells slots) (hx : p.tables.exec = Jvm.exec) {own text : String} {index : Nat} (hown : s.vm.findClass own = some m.cls)
    (hlink : (Jvm.Cond.stringLink own index text).before args s = true) (hS : ∀ a ∈ Bundle.stringAtoms, a.before args s = true)
    {g : JFrame} (hg : g.method = m) (hd : decode c.code g.pc = .ok (.ldc_w index, 3)) {n : Nat} (hn : 4 * text.toList.length ≤ n) (hbig : n ≤ 536870912) (hc2 : cells + 2 ≤ R.cells) (hs2 : slots + (n + 4) ≤ R.slots) :
    ∃ (a : Addr) (V : State), own_After R p l e s m args below meth c T locs (cells + 2) (slots + (n + 4)) index a V ∧ ∀ target, Steps p.tables e below (V.setTop { g with pc := g.pc + 3, stack := .ref a :: g.stack }) target → Steps p.tables e below (T.setTop g) target := by
  obtain ⟨k, cf, i, us, hk, hcf, hc, hu, hnm, hdec, hres⟩ := Cond.stringLink_spec hown hlink
  obtain ⟨k', hk', he⟩ := X.warmed.alike.2.2 _ _ hk
  have hcf' : k'.cf = some cf := by rw [he]; exact hcf
  have P : ∀ {z : Class}, z.cf = some cf → own_Pool z index i us text := fun h => ⟨by rw [h]; exact hnm, by rw [h]; exact hc, by rw [h]; simp [ConstantPool.utf8?, hu]⟩
  have Xm : Stand p l e R s m args below meth c T locs (cells + 2) (slots + (n + 4)) := X.mono (by omega) (by omega)
  subst hg
  rcases own_now X hk hk' hcf hnm hres with ⟨o1, o0⟩ | ⟨a, hr⟩
  · cases hf : T.vm.interned.find? (fun q => q.1 == us) with
    | some pr =>
      obtain ⟨u2, a⟩ := pr
      obtain rfl : u2 = us := by simpa using Array.find?_some hf
      exact ⟨a, _, own_found Xm hk hk' (P hcf) (P hcf') o1 o0 hf, own_stepW X hx rfl hd (by simpa using X.here.top) fun Q E d acts h => (ldc_w.wp_string_found (e := e) (s := T) (f := g) X.here.top hk' hcf' hc hu o1 hf).mpr (h _ _)⟩
    | none =>
      obtain ⟨Y, LY, hn4, fv, fc⟩ := StringT.of_atoms (args := args) hS
      obtain ⟨kS, kB, LT, htS⟩ := LY.warmer X.warmed.alike
      have hB : (stringBytes us).size ≤ n := Nat.le_trans (text_bytes_le hdec) hn
      have hfs : T.fitsSlot = s.fitsSlot := (show T.fitsSlot = (s.setVm T.vm).fitsSlot from rfl).trans (State.fitsSlot_setVm X.warmed.alike)
      have r1 : ¬ (stringBytes us).size > e.platform.arrayLengthLimit := by rw [Launch.admits_arrayLengthLimit X.admits]; omega
      have r2 : ¬ (stringBytes us).size * componentBytes .byte > e.platform.maxHeapBytes := by rw [Launch.admits_maxHeapBytes X.admits]; simp only [componentBytes]; omega
      have r3 : T.slotsUsed + (stringBytes us).size + kS.instanceTypes.size ≤ e.platform.maxSlots := by
        have := X.slotsAbove hs2
        rw [htS, hn4]; omega
      refine ⟨_, _, own_made X hk hk' (P hcf) (P hcf') o1 o0 hf hS LY hn4 htS hB hbig, own_stepW X hx rfl hd ?_ fun Q E d acts h => ?_⟩
      · have : (withString T Y.cB Y.cS kS Y.fv Y.fc us).topJava?.isSome := by simpa [withString] using X.here.top
        simpa using this
      · exact ldc_w.wp_string_new (e := e) (s := T) (f := g) X.here.top hk' hcf' hc hu o1 hf LT.found LT.cls LT.initialized LT.ordinary LT.foundB LT.clsB LT.kindB LT.value LT.coder r1 r2 (X.cellsAbove hc2) r3 (stringBytes_fit LT.clsB LT.kindB us) LT.valueSlot LT.coderSlot
          (by rw [hfs]; exact fv _) (by rw [hfs]; exact fc _) h
  · exact ⟨a, T, ⟨Xm.retabled X.warmed.wide, X.warmed.since _, ⟨k', hk', hr⟩, fun _ _ => rfl, State.Warmed39.refl T, Or.inl rfl⟩, own_stepW X hx rfl hd X.here.top fun Q E d acts h => (ldc_w.wp_string (e := e) (s := T) (f := g) X.here.top hk' hcf' hc hr).mpr (h _ _)⟩
end OwnW
section OwnW2
open Jvm.Free.SB Jvm.Free.SBG
variable {p : Program} {l : Launch} {e : Env} {R : Room} {s : State} {m : MethodId} {args : Array Value} {below : List Frame} {meth : Method} {c : Code} {T : State} {locs : List Loc} {cells slots : Nat} {Z : State} {a0 : Array Value} {EL : List (String × Nat)} {h : Heap} {vm0 : Vm} {own text : String} {index : Nat}
theorem own_told {vm : Vm} {cl : ClassId} {a : Addr} (hW : Z.Warmed39 vm) (w : (Jvm.Cond.stringLink own index text).before a0 Z = true) (hf : vm.findClass own = some cl) (hL : ∃ k, vm.classes[cl]? = some k ∧ k.resolved[index]? = some (some (.string a))) (hmem : (own, index) ∈ EL) (H : CHv Z EL vm h)
    {vs : List Value} {z : Int32} (ht : (∀ c ∈ text.toList, c.toNat < 256) ∧ text.toList.map (fun c => Value.int (Jvm.Lit.byteI c.toNat.toUInt16)) = vs) (hz : ¬ z < 0) (hl : z.toNatClampNeg = vs.length) :
    ∃ (b : Addr) (k : ClassId), Exa Z h a "java/lang/String" ∧ Fld Z h a "java/lang/String" "coder" "B" (.int 0) ∧ Fld Z h a "java/lang/String" "value" "[B" (.ref b) ∧ Arv Z h b k .byte z vs (.int 0) ∧ a < h.size ∧ b < h.size ∧ ∀ x, Safe Z EL vm h x → x ≠ a ∧ x ≠ b := by
  -- what the pool's entry says, and that the tables book a for it
  have w2 : (Jvm.Cond.stringLink own index text).before a0 (Wst Z vm h) = true := mvS (s := { Z with heap := h }) hW w
  obtain ⟨kc, cf, i, us, g1, g2, g3, g4, -, g5, -⟩ := Cond.stringLink_spec (s := Wst Z vm h) hf w2
  have hbk : Booksv vm own index us a := by
    obtain ⟨k1, e1, e2⟩ := hL
    cases (show vm.classes[cl]? = some kc from g1).symm.trans e1
    exact ⟨cl, kc, cf, i, hf, g1, g2, g3, g4, Or.inl e2⟩
  obtain ⟨q, rfl, F⟩ := SlB.of (H _ hmem us a hbk)
  -- the same String seen from the start's own tables
  have G : SlB ({ Z with heap := h } : State) q us := F.carry (W := Wst Z vm h) (V := { Z with heap := h }) hW.alike.symm F.ha F.hd
  obtain ⟨cS, ⟨S, f1, rfl⟩, ⟨kS, f2, -, f3⟩, -, hby⟩ := G
  obtain ⟨c1, k1, i1, v1, v2⟩ := S.ffV
  obtain ⟨c2, k2, i2, v3, v4⟩ := S.ffC
  obtain ⟨s1, s2, s3, -, -, s6, s7, s8, s9, s10, s11, s12, -, -, -, s16⟩ := S
  -- its bytes are the text's
  have hb : q.SA.slots = us.map fun u => Value.int (Jvm.Lit.byteI u) := by
    rw [hby, SBG.stringBytes_lat (Jvm.ClassFile.lat_of_text g5 ht.1)]; rfl
  have hv : q.SA.slots.toList = vs := by
    rw [hb, ← ht.2, Array.toList_map, Jvm.ClassFile.units_of_text g5 ht.1, List.map_map]; rfl
  have hsz : q.SA.slots.size = vs.length := by rw [← hv, Array.length_toList]
  have hat : ∀ j, j < q.SA.slots.size → q.SA.slots[j]? = some (vs.getD j (.int 0)) := fun j hj => by
    rw [← hv]; simp [hj]
  refine ⟨q.sd, q.SA.cls, ⟨q.sC, kS, s1, f1, f2, s3, fun _ => f3⟩, ⟨q.sC, c2, k2, i2, q.fSC, s1, v3, s7, s2, s3, v4, s9⟩, ⟨q.sC, c1, k1, i1, q.fSV, s1, v1, s6, s2, s3, v2, s8⟩,
    ⟨q.SA, ⟨s10, s11, s12⟩, rfl, by rw [hsz, hl], hz, hat, fun j hj => ?_⟩, (Array.getElem?_eq_some_iff.mp s1).1, (Array.getElem?_eq_some_iff.mp s10).1,
    fun x hx => ⟨fun e => hx ⟨_, hmem, us, _, hbk, q, rfl, F, Or.inl e⟩, fun e => hx ⟨_, hmem, us, _, hbk, q, rfl, F, Or.inr e⟩⟩⟩
  have e1 := s16 j hj
  have e2 := hat j hj
  rw [Array.getD_eq_getD_getElem?, e2] at e1
  exact e1
theorem own_ldcW (X : Stand p l e R (s.setVm vm0) m args below meth c T locs cells slots) (hx : p.tables.exec = Jvm.exec) (hZ : Z.Warmed39 vm0) (hown : vm0.findClass own = some m.cls) (w : (Jvm.Cond.stringLink own index text).before a0 Z = true) (wS : ∀ a ∈ Bundle.stringAtoms, a.before a0 Z = true)
    (eT : T.heap = h) {k0 : Nat} (hS : s.Since vm0 k0) (hk : k0 ≤ h.size) (hEL : EW Z a0 EL) (hmem : (own, index) ∈ EL) (H : CHv Z EL vm0 h)
    {vs : List Value} {z : Int32} (ht : (∀ c ∈ text.toList, c.toNat < 256) ∧ text.toList.map (fun c => Value.int (Jvm.Lit.byteI c.toNat.toUInt16)) = vs) (hz : ¬ z < 0) (hl : z.toNatClampNeg = vs.length)
    {g : JFrame} (hg : g.method = m) (hd : decode c.code g.pc = .ok (.ldc_w index, 3)) {n : Nat} (hn : 4 * text.toList.length ≤ n) (hbig : n ≤ 536870912) (hc : cells + 2 ≤ R.cells) (hl' : slots + (n + 4) ≤ R.slots) :
    ∃ (a : Addr) (V : State) (h' : Heap) (k1 : Nat) (b : Addr) (k : ClassId), Stand p l e R (s.setVm V.vm) m args below meth c V locs (cells + 2) (slots + (n + 4)) ∧ V.heap = h' ∧ Ext h h' ∧ s.Since V.vm k1 ∧ k1 ≤ h'.size ∧ Z.Warmed39 (s.setVm V.vm).vm ∧ (s.setVm V.vm).vm.findClass own = some m.cls ∧
      Exa Z h' a "java/lang/String" ∧ Fld Z h' a "java/lang/String" "coder" "B" (.int 0) ∧ Fld Z h' a "java/lang/String" "value" "[B" (.ref b) ∧ Arv Z h' b k .byte z vs (.int 0) ∧ a < h'.size ∧ b < h'.size ∧ CHr Z EL vm0 h V.vm h' ∧ True ∧ (∀ x, Safe Z EL V.vm h' x → x ≠ a ∧ x ≠ b) ∧
      ∀ target, Steps p.tables e below (V.setTop { g with pc := g.pc + 3, stack := .ref a :: g.stack }) target → Steps p.tables e below (T.setTop g) target := by
  obtain ⟨a, V, ⟨X', hS', hL, hb, hTW, hint⟩, st⟩ := own_ldcN X hx (own := own) hown (mvS hZ w) (fun d hd => by
    have q := wS d hd
    simp only [Bundle.stringAtoms, List.mem_cons, List.not_mem_nil, or_false] at hd
    rcases hd with rfl | rfl | rfl | rfl | rfl | rfl | rfl
    · exact mv (s := s.setVm vm0) hZ q
    · exact mv (s := s.setVm vm0) hZ q
    · exact mvA (s := s.setVm vm0) hZ q
    · exact mv (s := s.setVm vm0) hZ q
    · exact mv (s := s.setVm vm0) hZ q
    · exact mv (s := s.setVm vm0) hZ q
    · exact mv (s := s.setVm vm0) hZ q) hg hd hn hbig hc hl'
  subst eT
  have E := ext_of hb
  have hW : Z.Warmed39 V.vm := State.Warmed39.trans (t := s.setVm vm0) hZ hS'.1
  have A := CHv.at X hZ hEL H
  have B := CHv.later (vm := T.vm) (vm1 := V.vm) (wtrans (s := s.setVm vm0) hZ X.warmed) (show (Wst Z T.vm T.heap).Warmed39 V.vm from hTW) hEL E (hint.imp id fun ⟨us, e1, e2, e3⟩ => ⟨us, a, e1, e2, fun hl => by
    obtain ⟨q, cS, hq, r1, r2, r3, r4, r5⟩ := e3 hl
    have F : SlB V q us := ⟨cS, r1, r2, r3, r4⟩
    refine ⟨q, hq, F.carry (V := Wst Z V.vm V.heap) (Vm.Alike.refl _) F.ha F.hd, ?_⟩
    rcases r5 with ⟨r5, -⟩ | r5
    · exact absurd r5 (Nat.not_lt_zero _)
    · exact r5⟩) A.1
  have hf : V.vm.findClass own = some m.cls := by rw [hS'.1.alike.findClass]; exact hown
  obtain ⟨b, k, t1, t2, t3, t4, t5, t6, t7⟩ := own_told hW w hf hL hmem B.1 ht hz hl
  exact ⟨a, V, _, _, b, k, X', rfl, E, hS.trans hS' (Nat.le_trans hk E.1), Nat.le_refl _, hW, hf, t1, t2, t3, t4, t5, t6, A.trans ⟨B.1, E.1, B.2⟩, trivial, t7, st⟩
end OwnW2

theorem d0_0 : decode jdk_42_method_149_code 0 = .ok (.aload_n 0, 1) := by decide +kernel
theorem d0_1 : decode jdk_42_method_149_code 1 = .ok (.invokespecial 1, 3) := by decide +kernel
theorem d0_4 : decode jdk_42_method_149_code 4 = .ok (.iload_n 3, 1) := by decide +kernel
theorem d0_5 : decode jdk_42_method_149_code 5 = .ok (.ifCond .ne 22, 3) := by decide +kernel
theorem d0_8 : decode jdk_42_method_149_code 8 = .ok (.aload_n 0, 1) := by decide +kernel
theorem d0_9 : decode jdk_42_method_149_code 9 = .ok (.ldc 7, 2) := by decide +kernel
theorem d0_11 : decode jdk_42_method_149_code 11 = .ok (.getfield 9, 3) := by decide +kernel
theorem d0_14 : decode jdk_42_method_149_code 14 = .ok (.putfield 9, 3) := by decide +kernel
theorem d0_17 : decode jdk_42_method_149_code 17 = .ok (.aload_n 0, 1) := by decide +kernel
theorem d0_18 : decode jdk_42_method_149_code 18 = .ok (.ldc 7, 2) := by decide +kernel
theorem d0_20 : decode jdk_42_method_149_code 20 = .ok (.getfield 15, 3) := by decide +kernel
theorem d0_23 : decode jdk_42_method_149_code 23 = .ok (.putfield 15, 3) := by decide +kernel
theorem d0_26 : decode jdk_42_method_149_code 26 = .ok (.return_, 1) := by decide +kernel
theorem pn_0 : plainName "java/lang/String" = true := by first | (simp [plainName, overriddenIn]; done) | decide +kernel
theorem ef_rm_sini0v (m : MethodId) (x0 : Addr) (x1 : Addr) (x2 : Int32) (x3 : Int32) : entryFrame m #[(.ref x0), (.ref x1), (.int x2), (.int x3), .null] 6 = mkF m 0 #[.val (.ref x0), .val (.ref x1), .val (.int x2), .val (.int x3), .val .null, .unset] [] := by first | (simp [entryFrame, mkF, argsToLocals, Value.category]; done) | rfl
def Q_rm_sini0v (Z : State) (x : Addr) (b : Addr) (h0 : Heap) (n0 : Nat) (v : Option Value) (h : Heap) (L : List Loc) : Prop := (∃ (tb : Addr) (kb : ClassId), (v = none) ∧ (Fr n0 L) ∧ (Keep h0 h [x]) ∧ (Exa Z h x "java/lang/String") ∧ (Fld Z h x "java/lang/String" "value" "[B" (.ref tb)) ∧ (Fld Z h x "java/lang/String" "coder" "B" (.int (0 : Int32))) ∧ (Arv Z h tb kb .byte (0 : Int32) [] (.int (0 : Int32))))
set_option maxRecDepth 65536 in
set_option maxHeartbeats 40000000 in
theorem rm_sini0v (l : Launch) (Z : State) (a0 : Array Value) (hw : ∀ d ∈ tables_1, d.before a0 Z = true) (ws : List Jvm.Cond) (x : Addr) (b : Addr) (h0 : Heap) (n0 : Nat) (O0 : Old Z n0 h0) (E_x : Exa Z h0 x "java/lang/String") (V_x : Fld Z h0 x "java/lang/String" "value" "[B" .null) (C_x : Fld Z h0 x "java/lang/String" "coder" "B" (.int (0 : Int32))) (g_x : n0 ≤ x) :
    MetFree l (⟨"java/lang/String", "<init>", "([CIILjava/lang/Void;)V"⟩ : MethodName) (head1 (Jvm.Cond.code (⟨"java/lang/String", "<init>", "([CIILjava/lang/Void;)V"⟩ : MethodName) jdk_42_method_149_code 6 none :: ws) ({ frames := 1, cells := 4, slots := 8, locals := 12 } : Room)) (fun a U => a = #[(.ref x), (.ref b), (.int (0 : Int32)), (.int (0 : Int32)), .null] ∧ Z.Warmed39 U.vm ∧ U.heap = h0 ∧ CHv Z own_EL U.vm h0 ∧ ∀ own_y ∈ ([x] : List Addr), Safe Z own_EL U.vm h0 own_y) (fun _ _ _ _ _ => True) (fun _ U o U' => ∃ v L, o = .returned v ∧ Q_rm_sini0v Z x b h0 n0 v U'.heap L ∧ CHr Z own_EL U.vm U.heap U'.vm U'.heap ∧ ReturnedEndW U o U' L ({ frames := 1, cells := 4, slots := 8, locals := 12 } : Room).cells ({ frames := 1, cells := 4, slots := 8, locals := 12 } : Room).slots) := by
  refine MetFree.of_bodySF (plainFor_of_name pn_0) hisR ?_
  intro p e s m args below meth c s₁ Bd hml0 hP hK
  obtain ⟨rfl, hZ, hh, hCH, hSf⟩ := hP
  have hx := Bd.exec
  have hby := Bd.bytes
  have hml : c.maxLocals = 6 := hml0
  have hown : s.vm.findClass "java/lang/String" = some m.cls := findClass_of_methodNamed Bd.named
  have hnm := (name_of_methodNamed Bd.named Bd.method).1
  have X0 : Stand p l e ({ frames := 1, cells := 4, slots := 8, locals := 12 } : Room) (s.setVm s.vm) m #[(.ref x), (.ref b), (.int (0 : Int32)), (.int (0 : Int32)), .null] below meth c s₁ [] 0 0 := Stand.of_body Bd
  have e0 : s₁.heap = h0 := by rw [← hh, Bd.state]; rfl
  have N0 := Fr.nil n0
  have hZ0 := hZ
  have ho0 := hown
  have hS0 : s.Since s.vm 0 := (State.WarmedH.refl s).since 0
  have hk0 : 0 ≤ h0.size := Nat.zero_le _
  have CR0 : CHr Z own_EL s.vm h0 s.vm h0 := CHr.refl hCH
  have own_at : ∀ d ∈ Bundle.stringAtoms, d.before a0 Z = true := fun d hd => hw d (own_atoms d hd)
  have own_ew : EW Z a0 own_EL := own_EWof hw
  have hwc : ∀ d ∈ StrChars.Road.wordsChN, d.before a0 Z = true := fun d hd => hw d (own_wordsChN d hd)
  have hwq : ∀ d ∈ StrChars.Road.wordsEq, d.before a0 Z = true := fun d hd => hw d (own_wordsEq d hd)
  have hws : ∀ d ∈ StrChars.Road.words, d.before a0 Z = true := fun d hd => hw d (own_words d hd)
  have K0 : Keep h0 h0 [x] := Keep.refl _ _
  have pre0 : ∀ t, Steps p.tables e below (s₁.setTop (mkF m 0 #[.val (.ref x), .val (.ref b), .val (.int (0 : Int32)), .val (.int (0 : Int32)), .val .null, .unset] [])) t → Steps p.tables e below (s₁.setTop (entryFrame m #[(.ref x), (.ref b), (.int (0 : Int32)), (.int (0 : Int32)), .null] 6)) t := fun t k => castTop (ef_rm_sini0v m x b (0 : Int32) (0 : Int32)) k
  obtain ⟨T1, X1, e1, st1⟩ := initO X0 hx hZ0 ho0 (own_w hw 49 rfl) (own_w hw 50 rfl) (own_w hw 51 rfl) e0 (g := (mkF m 1 #[.val (.ref x), .val (.ref b), .val (.int (0 : Int32)), .val (.int (0 : Int32)), .val .null, .unset] [(.ref x)])) rfl (by rw [hml]; rfl) rfl (hb hby d0_1) (by decide) (W := 0) (by show 2 * 0 + _ ≤ _; exact Nat.le_of_eq rfl) (by decide)
  obtain ⟨x2, T2, h2, q2, y2, j2, X2, e2, E2, hS2, hk2, hZ2, ho2, fE2, fC2, fV2, fA2, la2, lb2, C2, -, ns2, st2⟩ := ldcCH X1 hx hZ0 ho0 (own_w hw 52 rfl) own_at e1 hS0 hk0 own_ew (by decide) CR0.1 (vs := []) (z := (0 : Int32)) ⟨by decide, by decide +kernel⟩ (by decide) rfl (g := (mkF m 9 #[.val (.ref x), .val (.ref b), .val (.int (0 : Int32)), .val (.int (0 : Int32)), .val .null, .unset] [(.ref x)])) rfl (hb hby d0_9) (n := 0) (by decide) (by decide) (by decide) (by decide)
  have sf3 := CHr.safe C2 (Exa.lt E_x) (hSf _ (List.mem_of_getElem? (i := 0) rfl))
  have O4 := O0.ext E2
  have K5 : Keep h0 h2 [x] := K0.ext E2
  have CR6 := CR0.trans C2
  obtain ⟨ne7, ne8⟩ := ns2 x sf3
  obtain ⟨T9, X9, e9, st9⟩ := getF X2 hx hZ2 ho2 (host := "") (Or.inl (own_w hw 24 rfl)) Via.refl e2 fV2 (g := (mkF m 11 #[.val (.ref x), .val (.ref b), .val (.int (0 : Int32)), .val (.int (0 : Int32)), .val .null, .unset] [(.ref x2), (.ref x)])) rfl rfl (hb hby d0_11)
  have f10 := (Fld.ext E2 V_x)
  have f11 := (Exa.ext E2 E_x)
  obtain ⟨T12, h12, X12, e12, W12, st12⟩ := putF X9 hx hZ2 ho2 (host := "") (Or.inl (own_w hw 24 rfl)) Via.refl e9 f10 f11 (Or.inr ⟨(own_w hw 8 rfl), rfl, hnm⟩) (own_w hw 6 rfl) (ty := (.array .byte)) (by decide) rfl rfl (g := (mkF m 14 #[.val (.ref x), .val (.ref b), .val (.int (0 : Int32)), .val (.int (0 : Int32)), .val .null, .unset] [(.ref y2), (.ref x)])) rfl rfl (hb hby d0_14)
  have CR13 := CR6.trans (CHr.wr W12 sf3 CR6.1)
  have hk14 := Nat.le_trans hk2 (Keep.of_wr W12).1
  have sf15 := Safe.wr W12 sf3 CR6.1 sf3
  have O16 := O4.wr W12 g_x
  have K17 : Keep h0 h12 [x] := K5.wr W12 (Or.inl (List.mem_of_getElem? (i := 0) rfl))
  have N18 := Fr.snoc X12 N0 g_x
  have F12 : Fld Z h12 x "java/lang/String" "value" "[B" (.ref y2) := Fld.same W12 f10
  obtain ⟨x19, T19, h19, q19, y19, j19, X19, e19, E19, hS19, hk19, hZ19, ho19, fE19, fC19, fV19, fA19, la19, lb19, C19, -, ns19, st19⟩ := ldcCH X12 hx hZ2 ho2 (own_w hw 52 rfl) own_at e12 hS2 hk14 own_ew (by decide) CR13.1 (vs := []) (z := (0 : Int32)) ⟨by decide, by decide +kernel⟩ (by decide) rfl (g := (mkF m 18 #[.val (.ref x), .val (.ref b), .val (.int (0 : Int32)), .val (.int (0 : Int32)), .val .null, .unset] [(.ref x)])) rfl (hb hby d0_18) (n := 0) (by decide) (by decide) (by decide) (by decide)
  have f20 := (Exa.wr W12 fE2)
  have f21 := (Exa.wr W12 f11)
  have f22 := (Arv.other fA2 W12 (Ne.symm ne8))
  have sf23 := CHr.safe C19 (Exa.lt f21) sf15
  have O24 := O16.ext E19
  have K25 : Keep h0 h19 [x] := K17.ext E19
  have CR26 := CR13.trans C19
  obtain ⟨ne27, ne28⟩ := ns19 x sf23
  obtain ⟨T29, X29, e29, st29⟩ := getF X19 hx hZ19 ho19 (host := "") (Or.inl (own_w hw 23 rfl)) Via.refl e19 fC19 (g := (mkF m 20 #[.val (.ref x), .val (.ref b), .val (.int (0 : Int32)), .val (.int (0 : Int32)), .val .null, .unset] [(.ref x19), (.ref x)])) rfl rfl (hb hby d0_20)
  have f30 := (Fld.ext E19 (Fld.other W12 (Fld.ext E2 C_x) (Or.inr (slot_ne (Or.inr (own_w hw 9 rfl)) (Or.inr (own_w hw 8 rfl)) (by decide) (t := .byte) (t' := (.array .byte)) (by decide) (by decide)))))
  have f31 := (Exa.ext E19 f21)
  obtain ⟨T32, h32, X32, e32, W32, st32⟩ := putFN X29 hx hZ19 ho19 (own_w hw 23 rfl) Via.refl e29 f30 f31 (Or.inr ⟨(own_w hw 9 rfl), rfl, hnm⟩) (own_w hw 6 rfl) (ty := .byte) (v' := (.int (0 : Int32))) (by decide) rfl rfl (g := (mkF m 23 #[.val (.ref x), .val (.ref b), .val (.int (0 : Int32)), .val (.int (0 : Int32)), .val .null, .unset] [(.int (0 : Int32)), (.ref x)])) rfl rfl (hb hby d0_23)
  have CR33 := CR26.trans (CHr.wr W32 sf23 CR26.1)
  have hk34 := Nat.le_trans hk19 (Keep.of_wr W32).1
  have sf35 := Safe.wr W32 sf23 CR26.1 sf23
  have O36 := O24.wr W32 g_x
  have K37 : Keep h0 h32 [x] := K25.wr W32 (Or.inl (List.mem_of_getElem? (i := 0) rfl))
  have N38 := Fr.snoc X32 N18 g_x
  have F32 : Fld Z h32 x "java/lang/String" "coder" "B" (.int (0 : Int32)) := Fld.same W32 f30
  have S39 : ∀ t, Steps p.tables e below (T32.setTop (mkF m 26 #[.val (.ref x), .val (.ref b), .val (.int (0 : Int32)), .val (.int (0 : Int32)), .val .null, .unset] [])) t → Steps p.tables e below (s₁.setTop (mkF m 0 #[.val (.ref x), .val (.ref b), .val (.int (0 : Int32)), .val (.int (0 : Int32)), .val .null, .unset] [])) t := by
    intro t kt
    refine XS.aloadN X0.here hx rfl (hb hby d0_0) rfl rfl ?_
    show Steps p.tables e below (s₁.setTop (mkF m 1 #[.val (.ref x), .val (.ref b), .val (.int (0 : Int32)), .val (.int (0 : Int32)), .val .null, .unset] [(.ref x)])) _
    refine st1 _ ?_
    refine XS.iloadN X1.here hx rfl (hb hby d0_4) rfl ?_
    refine XS.ifNo X1.here hx rfl (hb hby d0_5) rfl ((if0 _ _).trans (teq ((by decide) : (0 : Int32) = (0 : Int32))).2) ?_
    refine XS.aloadN X1.here hx rfl (hb hby d0_8) rfl rfl ?_
    show Steps p.tables e below (T1.setTop (mkF m 9 #[.val (.ref x), .val (.ref b), .val (.int (0 : Int32)), .val (.int (0 : Int32)), .val .null, .unset] [(.ref x)])) _
    refine st2 _ ?_
    show Steps p.tables e below (T2.setTop (mkF m 11 #[.val (.ref x), .val (.ref b), .val (.int (0 : Int32)), .val (.int (0 : Int32)), .val .null, .unset] [(.ref x2), (.ref x)])) _
    refine st9 _ ?_
    show Steps p.tables e below (T9.setTop (mkF m 14 #[.val (.ref x), .val (.ref b), .val (.int (0 : Int32)), .val (.int (0 : Int32)), .val .null, .unset] [(.ref y2), (.ref x)])) _
    refine st12 _ ?_
    refine XS.aloadN X12.here hx rfl (hb hby d0_17) rfl rfl ?_
    show Steps p.tables e below (T12.setTop (mkF m 18 #[.val (.ref x), .val (.ref b), .val (.int (0 : Int32)), .val (.int (0 : Int32)), .val .null, .unset] [(.ref x)])) _
    refine st19 _ ?_
    show Steps p.tables e below (T19.setTop (mkF m 20 #[.val (.ref x), .val (.ref b), .val (.int (0 : Int32)), .val (.int (0 : Int32)), .val .null, .unset] [(.ref x19), (.ref x)])) _
    refine st29 _ ?_
    show Steps p.tables e below (T29.setTop (mkF m 23 #[.val (.ref x), .val (.ref b), .val (.int (0 : Int32)), .val (.int (0 : Int32)), .val .null, .unset] [(.int (0 : Int32)), (.ref x)])) _
    refine st32 _ ?_
    exact kt
  obtain ⟨fs, hr, hrun, hended, hRW⟩ := X32.leaveW hS19 (by rw [e32]; exact hk34) (v := none) (fun _ => rfl)
  have f40 := (Exa.wr W32 f31)
  have f41 := (Fld.other W32 (Fld.ext E19 F12) (Or.inr (slot_ne (Or.inr (own_w hw 8 rfl)) (Or.inr (own_w hw 9 rfl)) (by decide) (t := (.array .byte)) (t' := .byte) (by decide) (by decide))))
  have f42 := (Arv.other (Arv.ext f22 E19) W32 (Ne.symm ne8))
  refine ⟨_, _, pre0 _ (S39 _ ?_), hrun, hended, _, _, rfl, ?_, ?_, hRW.1, hRW.2.1, hRW.2.2.1, hRW.2.2.2.mono (by decide) (by decide)⟩
  · exact X32.returnOut hx Bd.returns (hb hby d0_26) hr
  · show Q_rm_sini0v Z x b h0 n0 _ T32.heap _
    rw [e32]
    exact ⟨y2, j2, rfl, N38, K37, f40, f41, F32, f42⟩
  · show CHr Z own_EL s.vm s.heap T32.vm T32.heap
    rw [hh, e32]
    exact CR33.trans (CHv.at X32 hZ19 own_ew CR33.1)
theorem d1_0 : decode jdk_42_method_3_code 0 = .ok (.aload_n 0, 1) := by decide +kernel
theorem d1_1 : decode jdk_42_method_3_code 1 = .ok (.aload_n 1, 1) := by decide +kernel
theorem d1_2 : decode jdk_42_method_3_code 2 = .ok (.iconst 0, 1) := by decide +kernel
theorem d1_3 : decode jdk_42_method_3_code 3 = .ok (.aload_n 1, 1) := by decide +kernel
theorem d1_4 : decode jdk_42_method_3_code 4 = .ok (.arraylength, 1) := by decide +kernel
theorem d1_5 : decode jdk_42_method_3_code 5 = .ok (.aconst_null, 1) := by decide +kernel
theorem d1_6 : decode jdk_42_method_3_code 6 = .ok (.invokespecial 27, 3) := by decide +kernel
theorem pd_0 : parseMethodDescriptor "([CIILjava/lang/Void;)V" = some ⟨[(.array .char), .int, .int, (.object "java/lang/Void")], none⟩ := by decide +kernel
theorem d1_9 : decode jdk_42_method_3_code 9 = .ok (.return_, 1) := by decide +kernel
theorem ef_rm_sini0 (m : MethodId) (x0 : Addr) (x1 : Addr) : entryFrame m #[(.ref x0), (.ref x1)] 2 = mkF m 0 #[.val (.ref x0), .val (.ref x1)] [] := by first | (simp [entryFrame, mkF, argsToLocals, Value.category]; done) | rfl
def Q_rm_sini0 (Z : State) (x : Addr) (b : Addr) (kc : ClassId) (h0 : Heap) (n0 : Nat) (v : Option Value) (h : Heap) (L : List Loc) : Prop := (∃ (tb : Addr) (kb : ClassId), (v = none) ∧ (Fr n0 L) ∧ (Keep h0 h [x]) ∧ (Exa Z h x "java/lang/String") ∧ (Fld Z h x "java/lang/String" "value" "[B" (.ref tb)) ∧ (Fld Z h x "java/lang/String" "coder" "B" (.int (0 : Int32))) ∧ (Arv Z h tb kb .byte (0 : Int32) [] (.int (0 : Int32))))
set_option maxRecDepth 65536 in
set_option maxHeartbeats 40000000 in
theorem rm_sini0 (l : Launch) (Z : State) (a0 : Array Value) (hw : ∀ d ∈ tables_1, d.before a0 Z = true) (ws : List Jvm.Cond) (x : Addr) (b : Addr) (kc : ClassId) (h0 : Heap) (n0 : Nat) (O0 : Old Z n0 h0) (E_x : Exa Z h0 x "java/lang/String") (V_x : Fld Z h0 x "java/lang/String" "value" "[B" .null) (C_x : Fld Z h0 x "java/lang/String" "coder" "B" (.int (0 : Int32))) (g_x : n0 ≤ x) (A_b : Arv Z h0 b kc .char (0 : Int32) [] (.int (0 : Int32))) :
    MetFree l (⟨"java/lang/String", "<init>", "([C)V"⟩ : MethodName) (head1 (Jvm.Cond.code (⟨"java/lang/String", "<init>", "([C)V"⟩ : MethodName) jdk_42_method_3_code 2 none :: ws) ({ frames := 2, cells := 4, slots := 8, locals := 29 } : Room)) (fun a U => a = #[(.ref x), (.ref b)] ∧ Z.Warmed39 U.vm ∧ U.heap = h0 ∧ CHv Z own_EL U.vm h0 ∧ ∀ own_y ∈ ([x] : List Addr), Safe Z own_EL U.vm h0 own_y) (fun _ _ _ _ _ => True) (fun _ U o U' => ∃ v L, o = .returned v ∧ Q_rm_sini0 Z x b kc h0 n0 v U'.heap L ∧ CHr Z own_EL U.vm U.heap U'.vm U'.heap ∧ ReturnedEndW U o U' L ({ frames := 2, cells := 4, slots := 8, locals := 29 } : Room).cells ({ frames := 2, cells := 4, slots := 8, locals := 29 } : Room).slots) := by
  refine MetFree.of_bodySF (plainFor_of_name pn_0) hisR ?_
  intro p e s m args below meth c s₁ Bd hml0 hP hK
  obtain ⟨rfl, hZ, hh, hCH, hSf⟩ := hP
  have hx := Bd.exec
  have hby := Bd.bytes
  have hml : c.maxLocals = 2 := hml0
  have hown : s.vm.findClass "java/lang/String" = some m.cls := findClass_of_methodNamed Bd.named
  have hnm := (name_of_methodNamed Bd.named Bd.method).1
  have X0 : Stand p l e ({ frames := 2, cells := 4, slots := 8, locals := 29 } : Room) (s.setVm s.vm) m #[(.ref x), (.ref b)] below meth c s₁ [] 0 0 := Stand.of_body Bd
  have e0 : s₁.heap = h0 := by rw [← hh, Bd.state]; rfl
  have N0 := Fr.nil n0
  have hZ0 := hZ
  have ho0 := hown
  have hS0 : s.Since s.vm 0 := (State.WarmedH.refl s).since 0
  have hk0 : 0 ≤ h0.size := Nat.zero_le _
  have CR0 : CHr Z own_EL s.vm h0 s.vm h0 := CHr.refl hCH
  have own_at : ∀ d ∈ Bundle.stringAtoms, d.before a0 Z = true := fun d hd => hw d (own_atoms d hd)
  have own_ew : EW Z a0 own_EL := own_EWof hw
  have hwc : ∀ d ∈ StrChars.Road.wordsChN, d.before a0 Z = true := fun d hd => hw d (own_wordsChN d hd)
  have hwq : ∀ d ∈ StrChars.Road.wordsEq, d.before a0 Z = true := fun d hd => hw d (own_wordsEq d hd)
  have hws : ∀ d ∈ StrChars.Road.words, d.before a0 Z = true := fun d hd => hw d (own_words d hd)
  have K0 : Keep h0 h0 [x] := Keep.refl _ _
  have pre0 : ∀ t, Steps p.tables e below (s₁.setTop (mkF m 0 #[.val (.ref x), .val (.ref b)] [])) t → Steps p.tables e below (s₁.setTop (entryFrame m #[(.ref x), (.ref b)] 2)) t := fun t k => castTop (ef_rm_sini0 m x b) k
  obtain ⟨cl1, Ar1, -, Sz1, Nn1, -, -⟩ := id A_b
  obtain ⟨_, _, ⟨T2, L2, k2, n2⟩, -, Xq2, hSq2, hgq2, ⟨Lc2, hQ2, l2, y2, z2, C2⟩, st2⟩ := X0.specialBackS hx (y := (⟨"java/lang/String", "<init>", "([CIILjava/lang/Void;)V"⟩ : MethodName)) rfl ho0 (mvT hZ0 (own_w hw 45 rfl)) (mvT hZ0 (own_w hw 46 rfl)) (mvT hZ0 (own_w hw 48 rfl)) (by decide) (own_backS (W := 0) (rm := ({ frames := 1, cells := 4, slots := 8, locals := 12 } : Room)) (xs := [x]) (rm_sini0v l Z a0 hw [] x b h0 n0 O0 E_x V_x C_x g_x) hZ0 (own_w hw 48 rfl) (own_w hw 5 rfl) (by decide) (by decide) own_ew CR0.1 (allS (P := fun x => x < h0.size ∧ Safe Z own_EL s.vm h0 x) ⟨(Exa.lt E_x), (hSf _ (List.mem_of_getElem? (i := 0) rfl))⟩ all0)) (g := (mkF m 6 #[.val (.ref x), .val (.ref b)] [.null, (.int (0 : Int32)), (.int (0 : Int32)), (.ref b), (.ref x)])) rfl (by rw [hml]; rfl) (Steps.refl _) (a := x) (argsL := [(.ref b), (.int (0 : Int32)), (.int (0 : Int32)), .null]) (rest := []) (lenOf pd_0 rfl) rfl (by show 2 * 0 + _ ≤ _; exact Nat.le_of_eq rfl) (hb hby d1_6) (fun _ _ => ⟨rfl, e0, (by decide : 0 + 4 ≤ _), (by decide : 0 + 8 ≤ _)⟩)
  dsimp only [Pt.U, Pt.locs, Pt.cells, Pt.slots] at Xq2 hSq2 hgq2 l2 y2 z2 st2 hQ2 C2
  obtain ⟨X2, hS2, hZ2, ho2⟩ := rebS hS0 (by rw [e0]; exact hk0) Xq2 hSq2 hgq2 hZ0 ho0
  subst l2 y2 z2
  obtain ⟨x3, x4, rfl, N5, k6, f7, f8, f9, f10⟩ := hQ2
  have N11 := Fr.app N0 N5
  have sf12 := CHr.safe C2 (Exa.lt E_x) (hSf _ (List.mem_of_getElem? (i := 0) rfl))
  have CR13 := CR0.trans C2
  have hk14 : T2.heap.size ≤ T2.heap.size := Nat.le_refl _
  have O15 := O0.keep k6 (allS g_x all0)
  have K16 : Keep h0 T2.heap [x] := K0.trans k6 (allS (Or.inl (List.mem_of_getElem? (i := 0) rfl)) all0)
  have S17 : ∀ t, Steps p.tables e below (T2.setTop (mkF m 9 #[.val (.ref x), .val (.ref b)] [])) t → Steps p.tables e below (s₁.setTop (mkF m 0 #[.val (.ref x), .val (.ref b)] [])) t := by
    intro t kt
    refine XS.aloadN X0.here hx rfl (hb hby d1_0) rfl rfl ?_
    refine XS.aloadN X0.here hx rfl (hb hby d1_1) rfl rfl ?_
    refine XS.iconst X0.here hx rfl (hb hby d1_2) ?_
    refine XS.aloadN X0.here hx rfl (hb hby d1_3) rfl rfl ?_
    show Steps p.tables e below (s₁.setTop (mkF m 4 #[.val (.ref x), .val (.ref b)] [(.ref b), (.int (0 : Int32)), (.ref b), (.ref x)])) _
    refine X0.arraylength hx (by rw [e0]; exact Ar1.1) (State.isArrayOf_alike hZ0.alike Ar1.2.1) (g := (mkF m 4 #[.val (.ref x), .val (.ref b)] [(.ref b), (.int (0 : Int32)), (.ref b), (.ref x)])) rfl rfl (hb hby d1_4) _ ?_
    rw [len_of Sz1 Nn1]
    refine XS.aconstNull X0.here hx rfl (hb hby d1_5) ?_
    show Steps p.tables e below (s₁.setTop (mkF m 6 #[.val (.ref x), .val (.ref b)] [.null, (.int (0 : Int32)), (.int (0 : Int32)), (.ref b), (.ref x)])) _
    refine st2.trans ?_
    exact kt
  obtain ⟨fs, hr, hrun, hended, hRW⟩ := X2.leaveW hS2 (by exact hk14) (v := none) (fun _ => rfl)
  refine ⟨_, _, pre0 _ (S17 _ ?_), hrun, hended, _, _, rfl, ?_, ?_, hRW.1, hRW.2.1, hRW.2.2.1, hRW.2.2.2.mono (by decide) (by decide)⟩
  · exact X2.returnOut hx Bd.returns (hb hby d1_9) hr
  · show Q_rm_sini0 Z x b kc h0 n0 _ T2.heap _
    exact ⟨x3, x4, rfl, N11, K16, f7, f8, f9, f10⟩
  · show CHr Z own_EL s.vm s.heap T2.vm T2.heap
    rw [hh]
    exact CR13.trans (CHv.at X2 hZ2 own_ew CR13.1)
theorem d2_0 : decode jdk_42_method_66_code 0 = .ok (.aload_n 0, 1) := by decide +kernel
theorem d2_1 : decode jdk_42_method_66_code 1 = .ok (.aload_n 1, 1) := by decide +kernel
theorem d2_2 : decode jdk_42_method_66_code 2 = .ok (.if_acmp .ne 5, 3) := by decide +kernel
theorem d2_7 : decode jdk_42_method_66_code 7 = .ok (.aload_n 1, 1) := by decide +kernel
theorem d2_8 : decode jdk_42_method_66_code 8 = .ok (.instanceof 10, 3) := by decide +kernel
theorem d2_11 : decode jdk_42_method_66_code 11 = .ok (.ifCond .eq 43, 3) := by decide +kernel
theorem d2_54 : decode jdk_42_method_66_code 54 = .ok (.iconst 0, 1) := by decide +kernel
theorem d2_55 : decode jdk_42_method_66_code 55 = .ok (.ireturn, 1) := by decide +kernel
theorem ef_rm_eqnull (m : MethodId) (x0 : Addr) : entryFrame m #[(.ref x0), .null] 3 = mkF m 0 #[.val (.ref x0), .val .null, .unset] [] := by first | (simp [entryFrame, mkF, argsToLocals, Value.category]; done) | rfl
def Q_rm_eqnull (Z : State) (x : Addr) (h0 : Heap) (n0 : Nat) (v : Option Value) (h : Heap) (L : List Loc) : Prop := ((v = some (.int (0 : Int32))) ∧ (Fr n0 L) ∧ (h = h0))
set_option maxRecDepth 65536 in
set_option maxHeartbeats 40000000 in
theorem rm_eqnull (l : Launch) (Z : State) (a0 : Array Value) (hw : ∀ d ∈ tables_1, d.before a0 Z = true) (ws : List Jvm.Cond) (x : Addr) (h0 : Heap) (n0 : Nat) (O0 : Old Z n0 h0) :
    MetFree l (⟨"java/lang/String", "equals", "(Ljava/lang/Object;)Z"⟩ : MethodName) (head1 (Jvm.Cond.code (⟨"java/lang/String", "equals", "(Ljava/lang/Object;)Z"⟩ : MethodName) jdk_42_method_66_code 3 (some .boolean) :: ws) ({ frames := 0, cells := 0, slots := 0, locals := 0 } : Room)) (fun a U => a = #[(.ref x), .null] ∧ Z.Warmed39 U.vm ∧ U.heap = h0) (fun _ _ _ _ _ => True) (fun _ U o U' => ∃ v L, o = .returned v ∧ Q_rm_eqnull Z x h0 n0 v U'.heap L ∧ FrameEnd U o U' L ({ frames := 0, cells := 0, slots := 0, locals := 0 } : Room).cells ({ frames := 0, cells := 0, slots := 0, locals := 0 } : Room).slots) := by
  refine MetFree.of_bodySF (plainFor_of_name pn_0) hisR ?_
  intro p e s m args below meth c s₁ Bd hml0 hP hK
  obtain ⟨rfl, hZ, hh⟩ := hP
  have hx := Bd.exec
  have hby := Bd.bytes
  have hml : c.maxLocals = 3 := hml0
  have hown : s.vm.findClass "java/lang/String" = some m.cls := findClass_of_methodNamed Bd.named
  have hnm := (name_of_methodNamed Bd.named Bd.method).1
  have X0 : Stand p l e ({ frames := 0, cells := 0, slots := 0, locals := 0 } : Room) s m #[(.ref x), .null] below meth c s₁ [] 0 0 := Stand.of_body Bd
  have e0 : s₁.heap = h0 := by rw [← hh, Bd.state]; rfl
  have N0 := Fr.nil n0
  have hwc : ∀ d ∈ StrChars.Road.wordsChN, d.before a0 Z = true := fun d hd => hw d (own_wordsChN d hd)
  have hwq : ∀ d ∈ StrChars.Road.wordsEq, d.before a0 Z = true := fun d hd => hw d (own_wordsEq d hd)
  have hws : ∀ d ∈ StrChars.Road.words, d.before a0 Z = true := fun d hd => hw d (own_words d hd)
  have pre0 : ∀ t, Steps p.tables e below (s₁.setTop (mkF m 0 #[.val (.ref x), .val .null, .unset] [])) t → Steps p.tables e below (s₁.setTop (entryFrame m #[(.ref x), .null] 3)) t := fun t k => castTop (ef_rm_eqnull m x) k
  have S1 : ∀ t, Steps p.tables e below (s₁.setTop (mkF m 55 #[.val (.ref x), .val .null, .unset] [(.int (0 : Int32))])) t → Steps p.tables e below (s₁.setTop (mkF m 0 #[.val (.ref x), .val .null, .unset] [])) t := by
    intro t kt
    refine XS.aloadN X0.here hx rfl (hb hby d2_0) rfl rfl ?_
    refine XS.aloadN X0.here hx rfl (hb hby d2_1) rfl rfl ?_
    show Steps p.tables e below (s₁.setTop (mkF m 2 #[.val (.ref x), .val .null, .unset] [.null, (.ref x)])) _
    refine Jvm.RoadKit.acmp (g := (mkF m 2 #[.val (.ref x), .val .null, .unset] [.null, (.ref x)])) X0 hx rfl rfl rfl (pc0 := 2) (pc' := 7) (same := false) rfl (hb hby d2_2) rfl (decide_eq_false nofun) (by decide) (by decide) ?_
    refine XS.aloadN X0.here hx rfl (hb hby d2_7) rfl rfl ?_
    show Steps p.tables e below (s₁.setTop (mkF m 8 #[.val (.ref x), .val .null, .unset] [.null])) _
    refine X0.instanceofNull hx (g := (mkF m 8 #[.val (.ref x), .val .null, .unset] [.null])) rfl rfl (hb hby d2_8) _ ?_
    refine XS.ifYes X0.here hx rfl (pc0 := 11) (pc' := 54) rfl (hb hby d2_11) rfl ((if0 _ _).trans (teq ((by decide) : (0 : Int32) = (0 : Int32))).1) (by decide) (by decide) ?_
    refine XS.iconst X0.here hx rfl (hb hby d2_54) ?_
    exact kt
  obtain ⟨fs, hr, hrun, hended, hW, hsame⟩ := X0.leave (v := some (.int (0 : Int32))) (fun h => by rw [Bd.returns] at h; cases h)
  refine ⟨_, _, pre0 _ (S1 _ ?_), hrun, hended, _, _, rfl, ?_, ⟨_, rfl⟩, hW, hsame.mono (by decide) (by decide)⟩
  · exact retN X0 hx (t := .boolean) Bd.returns (by simp) (hb hby d2_55) hr
  · show Q_rm_eqnull Z x h0 n0 _ s₁.heap _
    rw [e0]
    exact ⟨rfl, N0, rfl⟩
theorem own_m10 (x jv : Int32) (h : jv = ((x &&& (255 : Int32)) % (10 : Int32))) : jv = (0 : Int32) ∨ jv = (1 : Int32) ∨ jv = (2 : Int32) ∨ jv = (3 : Int32) ∨ jv = (4 : Int32) ∨ jv = (5 : Int32) ∨ jv = (6 : Int32) ∨ jv = (7 : Int32) ∨ jv = (8 : Int32) ∨ jv = (9 : Int32) := by
  have a1 := c_and x 255 (by decide)
  have e10 : (10 : Int32).toInt = 10 := by decide
  have a2 := (c_iremV (x &&& (255 : Int32)) (10 : Int32)).1 a1.1 (by decide)
  rw [← h, e10] at a2
  have b1 : 0 ≤ jv.toInt := a2.1
  have b2 : jv.toInt < 10 := a2.2.1
  have key : ∀ n : Nat, n < 10 → jv.toInt = (n : Int) → jv = Int32.ofNat n := by
    intro n hn hi
    apply Int32.toInt_inj.mp
    rw [hi, Int32.toInt_ofNat_of_lt (by omega)]
  obtain ⟨n, hn⟩ := Int.eq_ofNat_of_zero_le b1
  have hlt : n < 10 := by omega
  have hk := key n hlt hn
  clear key hn b1 b2 h
  match n, hlt with
  | 0, _ => exact Or.inl hk
  | 1, _ => exact Or.inr (Or.inl hk)
  | 2, _ => exact Or.inr (Or.inr (Or.inl hk))
  | 3, _ => exact Or.inr (Or.inr (Or.inr (Or.inl hk)))
  | 4, _ => exact Or.inr (Or.inr (Or.inr (Or.inr (Or.inl hk))))
  | 5, _ => exact Or.inr (Or.inr (Or.inr (Or.inr (Or.inr (Or.inl hk)))))
  | 6, _ => exact Or.inr (Or.inr (Or.inr (Or.inr (Or.inr (Or.inr (Or.inl hk))))))
  | 7, _ => exact Or.inr (Or.inr (Or.inr (Or.inr (Or.inr (Or.inr (Or.inr (Or.inl hk)))))))
  | 8, _ => exact Or.inr (Or.inr (Or.inr (Or.inr (Or.inr (Or.inr (Or.inr (Or.inr (Or.inl hk))))))))
  | 9, _ => exact Or.inr (Or.inr (Or.inr (Or.inr (Or.inr (Or.inr (Or.inr (Or.inr (Or.inr (hk)))))))))
theorem own_and7 (x jv : Int32) (h : jv = (x &&& (7 : Int32))) : jv = (0 : Int32) ∨ jv = (1 : Int32) ∨ jv = (2 : Int32) ∨ jv = (3 : Int32) ∨ jv = (4 : Int32) ∨ jv = (5 : Int32) ∨ jv = (6 : Int32) ∨ jv = (7 : Int32) := by
  have a := c_and x 7 (by decide)
  have e7 : (7 : Int32).toInt = 7 := by decide
  rw [e7, ← h] at a
  obtain ⟨b1, b2⟩ := a
  have key : ∀ n : Nat, n < 8 → jv.toInt = (n : Int) → jv = Int32.ofNat n := by
    intro n hn hi
    apply Int32.toInt_inj.mp
    rw [hi, Int32.toInt_ofNat_of_lt (by omega)]
  obtain ⟨n, hn⟩ := Int.eq_ofNat_of_zero_le b1
  have hlt : n < 8 := by omega
  have hk := key n hlt hn
  clear key hn b1 b2 h
  match n, hlt with
  | 0, _ => exact Or.inl hk
  | 1, _ => exact Or.inr (Or.inl hk)
  | 2, _ => exact Or.inr (Or.inr (Or.inl hk))
  | 3, _ => exact Or.inr (Or.inr (Or.inr (Or.inl hk)))
  | 4, _ => exact Or.inr (Or.inr (Or.inr (Or.inr (Or.inl hk))))
  | 5, _ => exact Or.inr (Or.inr (Or.inr (Or.inr (Or.inr (Or.inl hk)))))
  | 6, _ => exact Or.inr (Or.inr (Or.inr (Or.inr (Or.inr (Or.inr (Or.inl hk))))))
  | 7, _ => exact Or.inr (Or.inr (Or.inr (Or.inr (Or.inr (Or.inr (Or.inr (hk)))))))
theorem d3_0 : decode method_2_code 0 = .ok (.iload_n 0, 1) := by decide +kernel
theorem d3_1 : decode method_2_code 1 = .ok (.sipush 256, 3) := by decide +kernel
theorem d3_4 : decode method_2_code 4 = .ok (.iand, 1) := by decide +kernel
theorem d3_5 : decode method_2_code 5 = .ok (.ifCond .eq 10, 3) := by decide +kernel
theorem d3_15 : decode method_2_code 15 = .ok (.ldc 7, 2) := by decide +kernel
theorem d3_17 : decode method_2_code 17 = .ok (.iload_n 0, 1) := by decide +kernel
theorem d3_18 : decode method_2_code 18 = .ok (.sipush 255, 3) := by decide +kernel
theorem d3_21 : decode method_2_code 21 = .ok (.iand, 1) := by decide +kernel
theorem d3_22 : decode method_2_code 22 = .ok (.bipush 10, 2) := by decide +kernel
theorem d3_24 : decode method_2_code 24 = .ok (.irem, 1) := by decide +kernel
theorem d3_25 : decode method_2_code 25 = .ok (.invokevirtual 9, 3) := by decide +kernel
theorem pd_1 : parseMethodDescriptor "(I)C" = some ⟨[.int], some .char⟩ := by decide +kernel
theorem d3_28 : decode method_2_code 28 = .ok (.ireturn, 1) := by decide +kernel
theorem d3_8 : decode method_2_code 8 = .ok (.iload_n 0, 1) := by decide +kernel
theorem d3_9 : decode method_2_code 9 = .ok (.sipush 255, 3) := by decide +kernel
theorem d3_12 : decode method_2_code 12 = .ok (.iand, 1) := by decide +kernel
theorem d3_13 : decode method_2_code 13 = .ok (.i2c, 1) := by decide +kernel
theorem d3_14 : decode method_2_code 14 = .ok (.ireturn, 1) := by decide +kernel
theorem pn_1 : plainName "com/example/pico_notify/piconotify/XmlBoolPinLaw" = true := by first | (simp [plainName, overriddenIn]; done) | decide +kernel
theorem ef_rm_ch (m : MethodId) (x0 : Int32) : entryFrame m #[(.int x0)] 1 = mkF m 0 #[.val (.int x0)] [] := by first | (simp [entryFrame, mkF, argsToLocals, Value.category]; done) | rfl
def Q_rm_ch (Z : State) (pp : Int32) (zc : Int32) (fm : Value) (h0 : Heap) (n0 : Nat) (v : Option Value) (h : Heap) (L : List Loc) : Prop := (∃ (r : Int32), (¬ (r < (0 : Int32)) ∧ ¬ ((255 : Int32) < r)) ∧ (v = some (.int r)) ∧ (Fr n0 L) ∧ (Keep h0 h []))
set_option maxRecDepth 65536 in
set_option maxHeartbeats 40000000 in
theorem rm_ch (l : Launch) (Z : State) (a0 : Array Value) (hw : ∀ d ∈ tables_1, d.before a0 Z = true) (ws : List Jvm.Cond) (pp : Int32) (zc : Int32) (fm : Value) (h0 : Heap) (n0 : Nat) (O0 : Old Z n0 h0) (S_C : Sta Z Z.heap "java/lang/String" "COMPACT_STRINGS" "Z" (.int zc)) (hzc : ¬ (zc = (0 : Int32))) (S_F : Sta Z Z.heap "jdk/internal/util/Preconditions" "SIOOBE_FORMATTER" "Ljava/util/function/BiFunction;" fm) (hfm : fm.isRef = true) :
    MetFree l (⟨"com/example/pico_notify/piconotify/XmlBoolPinLaw", "ch", "(I)C"⟩ : MethodName) (head1 (Jvm.Cond.code (⟨"com/example/pico_notify/piconotify/XmlBoolPinLaw", "ch", "(I)C"⟩ : MethodName) method_2_code 1 (some .char) :: ws) ({ frames := 4, cells := 2, slots := 44, locals := 53 } : Room)) (fun a U => a = #[(.int pp)] ∧ Z.Warmed39 U.vm ∧ U.heap = h0 ∧ CHv Z own_EL U.vm h0 ∧ ∀ own_y ∈ ([] : List Addr), Safe Z own_EL U.vm h0 own_y) (fun _ _ _ _ _ => True) (fun _ U o U' => ∃ v L, o = .returned v ∧ Q_rm_ch Z pp zc fm h0 n0 v U'.heap L ∧ CHr Z own_EL U.vm U.heap U'.vm U'.heap ∧ ReturnedEndW U o U' L ({ frames := 4, cells := 2, slots := 44, locals := 53 } : Room).cells ({ frames := 4, cells := 2, slots := 44, locals := 53 } : Room).slots) := by
  refine MetFree.of_bodySF (plainFor_of_name pn_1) hisR ?_
  intro p e s m args below meth c s₁ Bd hml0 hP hK
  obtain ⟨rfl, hZ, hh, hCH, hSf⟩ := hP
  have hx := Bd.exec
  have hby := Bd.bytes
  have hml : c.maxLocals = 1 := hml0
  have hown : s.vm.findClass "com/example/pico_notify/piconotify/XmlBoolPinLaw" = some m.cls := findClass_of_methodNamed Bd.named
  have hnm := (name_of_methodNamed Bd.named Bd.method).1
  have X0 : Stand p l e ({ frames := 4, cells := 2, slots := 44, locals := 53 } : Room) (s.setVm s.vm) m #[(.int pp)] below meth c s₁ [] 0 0 := Stand.of_body Bd
  have e0 : s₁.heap = h0 := by rw [← hh, Bd.state]; rfl
  have N0 := Fr.nil n0
  have hZ0 := hZ
  have ho0 := hown
  have hS0 : s.Since s.vm 0 := (State.WarmedH.refl s).since 0
  have hk0 : 0 ≤ h0.size := Nat.zero_le _
  have CR0 : CHr Z own_EL s.vm h0 s.vm h0 := CHr.refl hCH
  have own_at : ∀ d ∈ Bundle.stringAtoms, d.before a0 Z = true := fun d hd => hw d (own_atoms d hd)
  have own_ew : EW Z a0 own_EL := own_EWof hw
  have hwc : ∀ d ∈ StrChars.Road.wordsChN, d.before a0 Z = true := fun d hd => hw d (own_wordsChN d hd)
  have hwq : ∀ d ∈ StrChars.Road.wordsEq, d.before a0 Z = true := fun d hd => hw d (own_wordsEq d hd)
  have hws : ∀ d ∈ StrChars.Road.words, d.before a0 Z = true := fun d hd => hw d (own_words d hd)
  have K0 : Keep h0 h0 [] := Keep.refl _ _
  have pre0 : ∀ t, Steps p.tables e below (s₁.setTop (mkF m 0 #[.val (.int pp)] [])) t → Steps p.tables e below (s₁.setTop (entryFrame m #[(.int pp)] 1)) t := fun t k => castTop (ef_rm_ch m pp) k
  have S1 : ∀ t, Steps p.tables e below (s₁.setTop (mkF m 5 #[.val (.int pp)] [(.int (pp &&& (256 : Int32)))])) t → Steps p.tables e below (s₁.setTop (mkF m 0 #[.val (.int pp)] [])) t := by
    intro t kt
    refine XS.iloadN X0.here hx rfl (hb hby d3_0) rfl ?_
    refine XS.sipush X0.here hx rfl (hb hby d3_1) ?_
    refine XS.iand X0.here hx rfl (hb hby d3_4) rfl ?_
    exact kt
  rcases Decidable.em ((pp &&& (256 : Int32)) = (0 : Int32)) with c2 | c2
  · obtain ⟨x3, T3, h3, q3, y3, j3, X3, e3, E3, hS3, hk3, hZ3, ho3, fE3, fC3, fV3, fA3, la3, lb3, C3, -, ns3, st3⟩ := ldcCH X0 hx hZ0 ho0 (own_w hw 4 rfl) own_at e0 hS0 hk0 own_ew (by decide) CR0.1 (vs := [(.int (116 : Int32).toInt8.toInt32), (.int (114 : Int32).toInt8.toInt32), (.int (117 : Int32).toInt8.toInt32), (.int (101 : Int32).toInt8.toInt32), (.int (102 : Int32).toInt8.toInt32), (.int (97 : Int32).toInt8.toInt32), (.int (108 : Int32).toInt8.toInt32), (.int (115 : Int32).toInt8.toInt32), (.int (48 : Int32).toInt8.toInt32), (.int (49 : Int32).toInt8.toInt32)]) (z := (10 : Int32)) ⟨by decide, by decide +kernel⟩ (by decide) rfl (g := (mkF m 15 #[.val (.int pp)] [])) rfl (hb hby d3_15) (n := 40) (by decide) (by decide) (by decide) (by decide)
    have O4 := O0.ext E3
    have K5 : Keep h0 h3 [] := K0.ext E3
    have CR6 := CR0.trans C3
    have S7 : ∀ t, Steps p.tables e below (T3.setTop (mkF m 25 #[.val (.int pp)] [(.int ((pp &&& (255 : Int32)) % (10 : Int32))), (.ref x3)])) t → Steps p.tables e below (s₁.setTop (mkF m 0 #[.val (.int pp)] [])) t := by
      intro t kt
      refine S1 t ?_
      refine XS.ifYes X0.here hx rfl (pc0 := 5) (pc' := 15) rfl (hb hby d3_5) rfl ((if0 _ _).trans (teq (c2 : (pp &&& (256 : Int32)) = (0 : Int32))).1) (by decide) (by decide) ?_
      show Steps p.tables e below (s₁.setTop (mkF m 15 #[.val (.int pp)] [])) _
      refine st3 _ ?_
      refine XS.iloadN X3.here hx rfl (hb hby d3_17) rfl ?_
      refine XS.sipush X3.here hx rfl (hb hby d3_18) ?_
      refine XS.iand X3.here hx rfl (hb hby d3_21) rfl ?_
      refine XS.bipush X3.here hx rfl (hb hby d3_22) ?_
      show Steps p.tables e below (T3.setTop (mkF m 24 #[.val (.int pp)] [(.int (10 : Int32)), (.int (pp &&& (255 : Int32))), (.ref x3)])) _
      refine Jvm.RoadKit.iremM (g := (mkF m 24 #[.val (.int pp)] [(.int (10 : Int32)), (.int (pp &&& (255 : Int32))), (.ref x3)])) X3 hx rfl (hb hby d3_24) rfl (by decide) ?_
      exact kt
    obtain ⟨jv, h_jv⟩ : ∃ z, z = ((pp &&& (255 : Int32)) % (10 : Int32)) := ⟨_, rfl⟩
    have S8 : ∀ t, Steps p.tables e below (T3.setTop (mkF m 25 #[.val (.int pp)] [(.int jv), (.ref x3)])) t → Steps p.tables e below (s₁.setTop (mkF m 0 #[.val (.int pp)] [])) t := by rw [h_jv]; exact S7
    rcases own_m10 pp jv h_jv with rfl | rfl | rfl | rfl | rfl | rfl | rfl | rfl | rfl | rfl
    · have la10 : ∀ c ∈ ([(116 : Int32), (114 : Int32), (117 : Int32), (101 : Int32), (102 : Int32), (97 : Int32), (108 : Int32), (115 : Int32), (48 : Int32), (49 : Int32)] : List Int32), ¬ c < 0 ∧ ¬ (255 : Int32) < c := by
        intro c hc
        simp only [List.mem_cons, List.not_mem_nil, or_false] at hc
        rcases hc with rfl | rfl | rfl | rfl | rfl | rfl | rfl | rfl | rfl | rfl
        · exact ⟨by decide, by decide⟩
        · exact ⟨by decide, by decide⟩
        · exact ⟨by decide, by decide⟩
        · exact ⟨by decide, by decide⟩
        · exact ⟨by decide, by decide⟩
        · exact ⟨by decide, by decide⟩
        · exact ⟨by decide, by decide⟩
        · exact ⟨by decide, by decide⟩
        · exact ⟨by decide, by decide⟩
        · exact ⟨by decide, by decide⟩
      have cd10 : StrChars.Road.CodA ([(116 : Int32), (114 : Int32), (117 : Int32), (101 : Int32), (102 : Int32), (97 : Int32), (108 : Int32), (115 : Int32), (48 : Int32), (49 : Int32)] : List Int32) 0 (10 : Int32) [(.int (116 : Int32).toInt8.toInt32), (.int (114 : Int32).toInt8.toInt32), (.int (117 : Int32).toInt8.toInt32), (.int (101 : Int32).toInt8.toInt32), (.int (102 : Int32).toInt8.toInt32), (.int (97 : Int32).toInt8.toInt32), (.int (108 : Int32).toInt8.toInt32), (.int (115 : Int32).toInt8.toInt32), (.int (48 : Int32).toInt8.toInt32), (.int (49 : Int32).toInt8.toInt32)] := StrChars.Road.codOf (n := 10) rfl (fun x hx => (la10 x hx).2)
      have bd10 := own_up la10
      obtain ⟨cq9, kq9, q9a, q9b, q9c⟩ := isOf hZ3 e3 fE3
      obtain ⟨_, _, ⟨T9, L9, k9, n9⟩, -, X9, ⟨Lc9, hQ9, l9, y9, z9⟩, st9⟩ := X3.virtualBack hx (y := (⟨"java/lang/String", "charAt", "(I)C"⟩ : MethodName)) (z := (⟨"java/lang/String", "charAt", "(I)C"⟩ : MethodName)) ho3 (mvT hZ3 (own_w hw 12 rfl)) (mvT hZ3 (own_w hw 13 rfl)) (notFace_of_selects (args := #[]) (mvT hZ3 (own_w hw 15 rfl))) (mvT hZ3 (own_w hw 15 rfl)) (mvT hZ3 (own_w hw 14 rfl)) (by decide) (StrChars.Road.chN (W := 0) hZ3 hwc (kI := 4) (own_w hw 6 rfl) (cs := [(116 : Int32), (114 : Int32), (117 : Int32), (101 : Int32), (102 : Int32), (97 : Int32), (108 : Int32), (115 : Int32), (48 : Int32), (49 : Int32)]) (i := 0) (j := (0 : Int32)) fE3 fV3 fC3 fA3 cd10 bd10 (S_C.ext O4.2) hzc (S_F.ext O4.2) hfm (by show 10 ≤ 4000; decide) (by show 0 < 10; decide) rfl (by decide) (by decide)) q9a q9c (g := (mkF m 25 #[.val (.int pp)] [(.int (0 : Int32)), (.ref x3)])) rfl (by rw [hml]; rfl) (Steps.refl _) (argsL := [(.int (0 : Int32))]) (rest := []) (lenOf pd_1 rfl) rfl (by show 2 * 0 + _ ≤ _; exact Nat.le_of_eq rfl) (hb hby d3_25) (fun _ _ => ⟨rfl, e3, (by decide : 2 + 0 ≤ _), (by decide : 44 + 0 ≤ _)⟩)
      dsimp only [Pt.U, Pt.locs, Pt.cells, Pt.slots] at X9 l9 y9 z9 st9 hQ9
      subst l9 y9 z9
      obtain ⟨rfl, rfl, k11⟩ := hQ9
      have N12 := Fr.app N0 (Fr.nil n0)
      have S13 : ∀ t, Steps p.tables e below (T9.setTop (mkF m 28 #[.val (.int pp)] [(.int (116 : Int32))])) t → Steps p.tables e below (s₁.setTop (mkF m 0 #[.val (.int pp)] [])) t := by
        intro t kt
        refine S8 t ?_
        refine st9.trans ?_
        exact kt
      obtain ⟨fs, hr, hrun, hended, hRW⟩ := X9.leaveW hS3 (by rw [k11]; exact hk3) (v := some (.int (116 : Int32))) (fun h => by rw [Bd.returns] at h; cases h)
      refine ⟨_, _, pre0 _ (S13 _ ?_), hrun, hended, _, _, rfl, ?_, ?_, hRW.1, hRW.2.1, hRW.2.2.1, hRW.2.2.2.mono (by decide) (by decide)⟩
      · exact retN X9 hx (t := .char) Bd.returns (by simp) (hb hby d3_28) hr
      · show Q_rm_ch Z pp zc fm h0 n0 _ T9.heap _
        rw [k11]
        exact ⟨(116 : Int32), ⟨by decide, by decide⟩, rfl, N12, K5⟩
      · show CHr Z own_EL s.vm s.heap T9.vm T9.heap
        rw [hh, k11]
        exact CR6.trans (CHv.at X9 hZ3 own_ew CR6.1)
    · have la15 : ∀ c ∈ ([(116 : Int32), (114 : Int32), (117 : Int32), (101 : Int32), (102 : Int32), (97 : Int32), (108 : Int32), (115 : Int32), (48 : Int32), (49 : Int32)] : List Int32), ¬ c < 0 ∧ ¬ (255 : Int32) < c := by
        intro c hc
        simp only [List.mem_cons, List.not_mem_nil, or_false] at hc
        rcases hc with rfl | rfl | rfl | rfl | rfl | rfl | rfl | rfl | rfl | rfl
        · exact ⟨by decide, by decide⟩
        · exact ⟨by decide, by decide⟩
        · exact ⟨by decide, by decide⟩
        · exact ⟨by decide, by decide⟩
        · exact ⟨by decide, by decide⟩
        · exact ⟨by decide, by decide⟩
        · exact ⟨by decide, by decide⟩
        · exact ⟨by decide, by decide⟩
        · exact ⟨by decide, by decide⟩
        · exact ⟨by decide, by decide⟩
      have cd15 : StrChars.Road.CodA ([(116 : Int32), (114 : Int32), (117 : Int32), (101 : Int32), (102 : Int32), (97 : Int32), (108 : Int32), (115 : Int32), (48 : Int32), (49 : Int32)] : List Int32) 0 (10 : Int32) [(.int (116 : Int32).toInt8.toInt32), (.int (114 : Int32).toInt8.toInt32), (.int (117 : Int32).toInt8.toInt32), (.int (101 : Int32).toInt8.toInt32), (.int (102 : Int32).toInt8.toInt32), (.int (97 : Int32).toInt8.toInt32), (.int (108 : Int32).toInt8.toInt32), (.int (115 : Int32).toInt8.toInt32), (.int (48 : Int32).toInt8.toInt32), (.int (49 : Int32).toInt8.toInt32)] := StrChars.Road.codOf (n := 10) rfl (fun x hx => (la15 x hx).2)
      have bd15 := own_up la15
      obtain ⟨cq14, kq14, q14a, q14b, q14c⟩ := isOf hZ3 e3 fE3
      obtain ⟨_, _, ⟨T14, L14, k14, n14⟩, -, X14, ⟨Lc14, hQ14, l14, y14, z14⟩, st14⟩ := X3.virtualBack hx (y := (⟨"java/lang/String", "charAt", "(I)C"⟩ : MethodName)) (z := (⟨"java/lang/String", "charAt", "(I)C"⟩ : MethodName)) ho3 (mvT hZ3 (own_w hw 12 rfl)) (mvT hZ3 (own_w hw 13 rfl)) (notFace_of_selects (args := #[]) (mvT hZ3 (own_w hw 15 rfl))) (mvT hZ3 (own_w hw 15 rfl)) (mvT hZ3 (own_w hw 14 rfl)) (by decide) (StrChars.Road.chN (W := 0) hZ3 hwc (kI := 4) (own_w hw 6 rfl) (cs := [(116 : Int32), (114 : Int32), (117 : Int32), (101 : Int32), (102 : Int32), (97 : Int32), (108 : Int32), (115 : Int32), (48 : Int32), (49 : Int32)]) (i := 1) (j := (1 : Int32)) fE3 fV3 fC3 fA3 cd15 bd15 (S_C.ext O4.2) hzc (S_F.ext O4.2) hfm (by show 10 ≤ 4000; decide) (by show 1 < 10; decide) rfl (by decide) (by decide)) q14a q14c (g := (mkF m 25 #[.val (.int pp)] [(.int (1 : Int32)), (.ref x3)])) rfl (by rw [hml]; rfl) (Steps.refl _) (argsL := [(.int (1 : Int32))]) (rest := []) (lenOf pd_1 rfl) rfl (by show 2 * 0 + _ ≤ _; exact Nat.le_of_eq rfl) (hb hby d3_25) (fun _ _ => ⟨rfl, e3, (by decide : 2 + 0 ≤ _), (by decide : 44 + 0 ≤ _)⟩)
      dsimp only [Pt.U, Pt.locs, Pt.cells, Pt.slots] at X14 l14 y14 z14 st14 hQ14
      subst l14 y14 z14
      obtain ⟨rfl, rfl, k16⟩ := hQ14
      have N17 := Fr.app N0 (Fr.nil n0)
      have S18 : ∀ t, Steps p.tables e below (T14.setTop (mkF m 28 #[.val (.int pp)] [(.int (114 : Int32))])) t → Steps p.tables e below (s₁.setTop (mkF m 0 #[.val (.int pp)] [])) t := by
        intro t kt
        refine S8 t ?_
        refine st14.trans ?_
        exact kt
      obtain ⟨fs, hr, hrun, hended, hRW⟩ := X14.leaveW hS3 (by rw [k16]; exact hk3) (v := some (.int (114 : Int32))) (fun h => by rw [Bd.returns] at h; cases h)
      refine ⟨_, _, pre0 _ (S18 _ ?_), hrun, hended, _, _, rfl, ?_, ?_, hRW.1, hRW.2.1, hRW.2.2.1, hRW.2.2.2.mono (by decide) (by decide)⟩
      · exact retN X14 hx (t := .char) Bd.returns (by simp) (hb hby d3_28) hr
      · show Q_rm_ch Z pp zc fm h0 n0 _ T14.heap _
        rw [k16]
        exact ⟨(114 : Int32), ⟨by decide, by decide⟩, rfl, N17, K5⟩
      · show CHr Z own_EL s.vm s.heap T14.vm T14.heap
        rw [hh, k16]
        exact CR6.trans (CHv.at X14 hZ3 own_ew CR6.1)
    · have la20 : ∀ c ∈ ([(116 : Int32), (114 : Int32), (117 : Int32), (101 : Int32), (102 : Int32), (97 : Int32), (108 : Int32), (115 : Int32), (48 : Int32), (49 : Int32)] : List Int32), ¬ c < 0 ∧ ¬ (255 : Int32) < c := by
        intro c hc
        simp only [List.mem_cons, List.not_mem_nil, or_false] at hc
        rcases hc with rfl | rfl | rfl | rfl | rfl | rfl | rfl | rfl | rfl | rfl
        · exact ⟨by decide, by decide⟩
        · exact ⟨by decide, by decide⟩
        · exact ⟨by decide, by decide⟩
        · exact ⟨by decide, by decide⟩
        · exact ⟨by decide, by decide⟩
        · exact ⟨by decide, by decide⟩
        · exact ⟨by decide, by decide⟩
        · exact ⟨by decide, by decide⟩
        · exact ⟨by decide, by decide⟩
        · exact ⟨by decide, by decide⟩
      have cd20 : StrChars.Road.CodA ([(116 : Int32), (114 : Int32), (117 : Int32), (101 : Int32), (102 : Int32), (97 : Int32), (108 : Int32), (115 : Int32), (48 : Int32), (49 : Int32)] : List Int32) 0 (10 : Int32) [(.int (116 : Int32).toInt8.toInt32), (.int (114 : Int32).toInt8.toInt32), (.int (117 : Int32).toInt8.toInt32), (.int (101 : Int32).toInt8.toInt32), (.int (102 : Int32).toInt8.toInt32), (.int (97 : Int32).toInt8.toInt32), (.int (108 : Int32).toInt8.toInt32), (.int (115 : Int32).toInt8.toInt32), (.int (48 : Int32).toInt8.toInt32), (.int (49 : Int32).toInt8.toInt32)] := StrChars.Road.codOf (n := 10) rfl (fun x hx => (la20 x hx).2)
      have bd20 := own_up la20
      obtain ⟨cq19, kq19, q19a, q19b, q19c⟩ := isOf hZ3 e3 fE3
      obtain ⟨_, _, ⟨T19, L19, k19, n19⟩, -, X19, ⟨Lc19, hQ19, l19, y19, z19⟩, st19⟩ := X3.virtualBack hx (y := (⟨"java/lang/String", "charAt", "(I)C"⟩ : MethodName)) (z := (⟨"java/lang/String", "charAt", "(I)C"⟩ : MethodName)) ho3 (mvT hZ3 (own_w hw 12 rfl)) (mvT hZ3 (own_w hw 13 rfl)) (notFace_of_selects (args := #[]) (mvT hZ3 (own_w hw 15 rfl))) (mvT hZ3 (own_w hw 15 rfl)) (mvT hZ3 (own_w hw 14 rfl)) (by decide) (StrChars.Road.chN (W := 0) hZ3 hwc (kI := 4) (own_w hw 6 rfl) (cs := [(116 : Int32), (114 : Int32), (117 : Int32), (101 : Int32), (102 : Int32), (97 : Int32), (108 : Int32), (115 : Int32), (48 : Int32), (49 : Int32)]) (i := 2) (j := (2 : Int32)) fE3 fV3 fC3 fA3 cd20 bd20 (S_C.ext O4.2) hzc (S_F.ext O4.2) hfm (by show 10 ≤ 4000; decide) (by show 2 < 10; decide) rfl (by decide) (by decide)) q19a q19c (g := (mkF m 25 #[.val (.int pp)] [(.int (2 : Int32)), (.ref x3)])) rfl (by rw [hml]; rfl) (Steps.refl _) (argsL := [(.int (2 : Int32))]) (rest := []) (lenOf pd_1 rfl) rfl (by show 2 * 0 + _ ≤ _; exact Nat.le_of_eq rfl) (hb hby d3_25) (fun _ _ => ⟨rfl, e3, (by decide : 2 + 0 ≤ _), (by decide : 44 + 0 ≤ _)⟩)
      dsimp only [Pt.U, Pt.locs, Pt.cells, Pt.slots] at X19 l19 y19 z19 st19 hQ19
      subst l19 y19 z19
      obtain ⟨rfl, rfl, k21⟩ := hQ19
      have N22 := Fr.app N0 (Fr.nil n0)
      have S23 : ∀ t, Steps p.tables e below (T19.setTop (mkF m 28 #[.val (.int pp)] [(.int (117 : Int32))])) t → Steps p.tables e below (s₁.setTop (mkF m 0 #[.val (.int pp)] [])) t := by
        intro t kt
        refine S8 t ?_
        refine st19.trans ?_
        exact kt
      obtain ⟨fs, hr, hrun, hended, hRW⟩ := X19.leaveW hS3 (by rw [k21]; exact hk3) (v := some (.int (117 : Int32))) (fun h => by rw [Bd.returns] at h; cases h)
      refine ⟨_, _, pre0 _ (S23 _ ?_), hrun, hended, _, _, rfl, ?_, ?_, hRW.1, hRW.2.1, hRW.2.2.1, hRW.2.2.2.mono (by decide) (by decide)⟩
      · exact retN X19 hx (t := .char) Bd.returns (by simp) (hb hby d3_28) hr
      · show Q_rm_ch Z pp zc fm h0 n0 _ T19.heap _
        rw [k21]
        exact ⟨(117 : Int32), ⟨by decide, by decide⟩, rfl, N22, K5⟩
      · show CHr Z own_EL s.vm s.heap T19.vm T19.heap
        rw [hh, k21]
        exact CR6.trans (CHv.at X19 hZ3 own_ew CR6.1)
    · have la25 : ∀ c ∈ ([(116 : Int32), (114 : Int32), (117 : Int32), (101 : Int32), (102 : Int32), (97 : Int32), (108 : Int32), (115 : Int32), (48 : Int32), (49 : Int32)] : List Int32), ¬ c < 0 ∧ ¬ (255 : Int32) < c := by
        intro c hc
        simp only [List.mem_cons, List.not_mem_nil, or_false] at hc
        rcases hc with rfl | rfl | rfl | rfl | rfl | rfl | rfl | rfl | rfl | rfl
        · exact ⟨by decide, by decide⟩
        · exact ⟨by decide, by decide⟩
        · exact ⟨by decide, by decide⟩
        · exact ⟨by decide, by decide⟩
        · exact ⟨by decide, by decide⟩
        · exact ⟨by decide, by decide⟩
        · exact ⟨by decide, by decide⟩
        · exact ⟨by decide, by decide⟩
        · exact ⟨by decide, by decide⟩
        · exact ⟨by decide, by decide⟩
      have cd25 : StrChars.Road.CodA ([(116 : Int32), (114 : Int32), (117 : Int32), (101 : Int32), (102 : Int32), (97 : Int32), (108 : Int32), (115 : Int32), (48 : Int32), (49 : Int32)] : List Int32) 0 (10 : Int32) [(.int (116 : Int32).toInt8.toInt32), (.int (114 : Int32).toInt8.toInt32), (.int (117 : Int32).toInt8.toInt32), (.int (101 : Int32).toInt8.toInt32), (.int (102 : Int32).toInt8.toInt32), (.int (97 : Int32).toInt8.toInt32), (.int (108 : Int32).toInt8.toInt32), (.int (115 : Int32).toInt8.toInt32), (.int (48 : Int32).toInt8.toInt32), (.int (49 : Int32).toInt8.toInt32)] := StrChars.Road.codOf (n := 10) rfl (fun x hx => (la25 x hx).2)
      have bd25 := own_up la25
      obtain ⟨cq24, kq24, q24a, q24b, q24c⟩ := isOf hZ3 e3 fE3
      obtain ⟨_, _, ⟨T24, L24, k24, n24⟩, -, X24, ⟨Lc24, hQ24, l24, y24, z24⟩, st24⟩ := X3.virtualBack hx (y := (⟨"java/lang/String", "charAt", "(I)C"⟩ : MethodName)) (z := (⟨"java/lang/String", "charAt", "(I)C"⟩ : MethodName)) ho3 (mvT hZ3 (own_w hw 12 rfl)) (mvT hZ3 (own_w hw 13 rfl)) (notFace_of_selects (args := #[]) (mvT hZ3 (own_w hw 15 rfl))) (mvT hZ3 (own_w hw 15 rfl)) (mvT hZ3 (own_w hw 14 rfl)) (by decide) (StrChars.Road.chN (W := 0) hZ3 hwc (kI := 4) (own_w hw 6 rfl) (cs := [(116 : Int32), (114 : Int32), (117 : Int32), (101 : Int32), (102 : Int32), (97 : Int32), (108 : Int32), (115 : Int32), (48 : Int32), (49 : Int32)]) (i := 3) (j := (3 : Int32)) fE3 fV3 fC3 fA3 cd25 bd25 (S_C.ext O4.2) hzc (S_F.ext O4.2) hfm (by show 10 ≤ 4000; decide) (by show 3 < 10; decide) rfl (by decide) (by decide)) q24a q24c (g := (mkF m 25 #[.val (.int pp)] [(.int (3 : Int32)), (.ref x3)])) rfl (by rw [hml]; rfl) (Steps.refl _) (argsL := [(.int (3 : Int32))]) (rest := []) (lenOf pd_1 rfl) rfl (by show 2 * 0 + _ ≤ _; exact Nat.le_of_eq rfl) (hb hby d3_25) (fun _ _ => ⟨rfl, e3, (by decide : 2 + 0 ≤ _), (by decide : 44 + 0 ≤ _)⟩)
      dsimp only [Pt.U, Pt.locs, Pt.cells, Pt.slots] at X24 l24 y24 z24 st24 hQ24
      subst l24 y24 z24
      obtain ⟨rfl, rfl, k26⟩ := hQ24
      have N27 := Fr.app N0 (Fr.nil n0)
      have S28 : ∀ t, Steps p.tables e below (T24.setTop (mkF m 28 #[.val (.int pp)] [(.int (101 : Int32))])) t → Steps p.tables e below (s₁.setTop (mkF m 0 #[.val (.int pp)] [])) t := by
        intro t kt
        refine S8 t ?_
        refine st24.trans ?_
        exact kt
      obtain ⟨fs, hr, hrun, hended, hRW⟩ := X24.leaveW hS3 (by rw [k26]; exact hk3) (v := some (.int (101 : Int32))) (fun h => by rw [Bd.returns] at h; cases h)
      refine ⟨_, _, pre0 _ (S28 _ ?_), hrun, hended, _, _, rfl, ?_, ?_, hRW.1, hRW.2.1, hRW.2.2.1, hRW.2.2.2.mono (by decide) (by decide)⟩
      · exact retN X24 hx (t := .char) Bd.returns (by simp) (hb hby d3_28) hr
      · show Q_rm_ch Z pp zc fm h0 n0 _ T24.heap _
        rw [k26]
        exact ⟨(101 : Int32), ⟨by decide, by decide⟩, rfl, N27, K5⟩
      · show CHr Z own_EL s.vm s.heap T24.vm T24.heap
        rw [hh, k26]
        exact CR6.trans (CHv.at X24 hZ3 own_ew CR6.1)
    · have la30 : ∀ c ∈ ([(116 : Int32), (114 : Int32), (117 : Int32), (101 : Int32), (102 : Int32), (97 : Int32), (108 : Int32), (115 : Int32), (48 : Int32), (49 : Int32)] : List Int32), ¬ c < 0 ∧ ¬ (255 : Int32) < c := by
        intro c hc
        simp only [List.mem_cons, List.not_mem_nil, or_false] at hc
        rcases hc with rfl | rfl | rfl | rfl | rfl | rfl | rfl | rfl | rfl | rfl
        · exact ⟨by decide, by decide⟩
        · exact ⟨by decide, by decide⟩
        · exact ⟨by decide, by decide⟩
        · exact ⟨by decide, by decide⟩
        · exact ⟨by decide, by decide⟩
        · exact ⟨by decide, by decide⟩
        · exact ⟨by decide, by decide⟩
        · exact ⟨by decide, by decide⟩
        · exact ⟨by decide, by decide⟩
        · exact ⟨by decide, by decide⟩
      have cd30 : StrChars.Road.CodA ([(116 : Int32), (114 : Int32), (117 : Int32), (101 : Int32), (102 : Int32), (97 : Int32), (108 : Int32), (115 : Int32), (48 : Int32), (49 : Int32)] : List Int32) 0 (10 : Int32) [(.int (116 : Int32).toInt8.toInt32), (.int (114 : Int32).toInt8.toInt32), (.int (117 : Int32).toInt8.toInt32), (.int (101 : Int32).toInt8.toInt32), (.int (102 : Int32).toInt8.toInt32), (.int (97 : Int32).toInt8.toInt32), (.int (108 : Int32).toInt8.toInt32), (.int (115 : Int32).toInt8.toInt32), (.int (48 : Int32).toInt8.toInt32), (.int (49 : Int32).toInt8.toInt32)] := StrChars.Road.codOf (n := 10) rfl (fun x hx => (la30 x hx).2)
      have bd30 := own_up la30
      obtain ⟨cq29, kq29, q29a, q29b, q29c⟩ := isOf hZ3 e3 fE3
      obtain ⟨_, _, ⟨T29, L29, k29, n29⟩, -, X29, ⟨Lc29, hQ29, l29, y29, z29⟩, st29⟩ := X3.virtualBack hx (y := (⟨"java/lang/String", "charAt", "(I)C"⟩ : MethodName)) (z := (⟨"java/lang/String", "charAt", "(I)C"⟩ : MethodName)) ho3 (mvT hZ3 (own_w hw 12 rfl)) (mvT hZ3 (own_w hw 13 rfl)) (notFace_of_selects (args := #[]) (mvT hZ3 (own_w hw 15 rfl))) (mvT hZ3 (own_w hw 15 rfl)) (mvT hZ3 (own_w hw 14 rfl)) (by decide) (StrChars.Road.chN (W := 0) hZ3 hwc (kI := 4) (own_w hw 6 rfl) (cs := [(116 : Int32), (114 : Int32), (117 : Int32), (101 : Int32), (102 : Int32), (97 : Int32), (108 : Int32), (115 : Int32), (48 : Int32), (49 : Int32)]) (i := 4) (j := (4 : Int32)) fE3 fV3 fC3 fA3 cd30 bd30 (S_C.ext O4.2) hzc (S_F.ext O4.2) hfm (by show 10 ≤ 4000; decide) (by show 4 < 10; decide) rfl (by decide) (by decide)) q29a q29c (g := (mkF m 25 #[.val (.int pp)] [(.int (4 : Int32)), (.ref x3)])) rfl (by rw [hml]; rfl) (Steps.refl _) (argsL := [(.int (4 : Int32))]) (rest := []) (lenOf pd_1 rfl) rfl (by show 2 * 0 + _ ≤ _; exact Nat.le_of_eq rfl) (hb hby d3_25) (fun _ _ => ⟨rfl, e3, (by decide : 2 + 0 ≤ _), (by decide : 44 + 0 ≤ _)⟩)
      dsimp only [Pt.U, Pt.locs, Pt.cells, Pt.slots] at X29 l29 y29 z29 st29 hQ29
      subst l29 y29 z29
      obtain ⟨rfl, rfl, k31⟩ := hQ29
      have N32 := Fr.app N0 (Fr.nil n0)
      have S33 : ∀ t, Steps p.tables e below (T29.setTop (mkF m 28 #[.val (.int pp)] [(.int (102 : Int32))])) t → Steps p.tables e below (s₁.setTop (mkF m 0 #[.val (.int pp)] [])) t := by
        intro t kt
        refine S8 t ?_
        refine st29.trans ?_
        exact kt
      obtain ⟨fs, hr, hrun, hended, hRW⟩ := X29.leaveW hS3 (by rw [k31]; exact hk3) (v := some (.int (102 : Int32))) (fun h => by rw [Bd.returns] at h; cases h)
      refine ⟨_, _, pre0 _ (S33 _ ?_), hrun, hended, _, _, rfl, ?_, ?_, hRW.1, hRW.2.1, hRW.2.2.1, hRW.2.2.2.mono (by decide) (by decide)⟩
      · exact retN X29 hx (t := .char) Bd.returns (by simp) (hb hby d3_28) hr
      · show Q_rm_ch Z pp zc fm h0 n0 _ T29.heap _
        rw [k31]
        exact ⟨(102 : Int32), ⟨by decide, by decide⟩, rfl, N32, K5⟩
      · show CHr Z own_EL s.vm s.heap T29.vm T29.heap
        rw [hh, k31]
        exact CR6.trans (CHv.at X29 hZ3 own_ew CR6.1)
    · have la35 : ∀ c ∈ ([(116 : Int32), (114 : Int32), (117 : Int32), (101 : Int32), (102 : Int32), (97 : Int32), (108 : Int32), (115 : Int32), (48 : Int32), (49 : Int32)] : List Int32), ¬ c < 0 ∧ ¬ (255 : Int32) < c := by
        intro c hc
        simp only [List.mem_cons, List.not_mem_nil, or_false] at hc
        rcases hc with rfl | rfl | rfl | rfl | rfl | rfl | rfl | rfl | rfl | rfl
        · exact ⟨by decide, by decide⟩
        · exact ⟨by decide, by decide⟩
        · exact ⟨by decide, by decide⟩
        · exact ⟨by decide, by decide⟩
        · exact ⟨by decide, by decide⟩
        · exact ⟨by decide, by decide⟩
        · exact ⟨by decide, by decide⟩
        · exact ⟨by decide, by decide⟩
        · exact ⟨by decide, by decide⟩
        · exact ⟨by decide, by decide⟩
      have cd35 : StrChars.Road.CodA ([(116 : Int32), (114 : Int32), (117 : Int32), (101 : Int32), (102 : Int32), (97 : Int32), (108 : Int32), (115 : Int32), (48 : Int32), (49 : Int32)] : List Int32) 0 (10 : Int32) [(.int (116 : Int32).toInt8.toInt32), (.int (114 : Int32).toInt8.toInt32), (.int (117 : Int32).toInt8.toInt32), (.int (101 : Int32).toInt8.toInt32), (.int (102 : Int32).toInt8.toInt32), (.int (97 : Int32).toInt8.toInt32), (.int (108 : Int32).toInt8.toInt32), (.int (115 : Int32).toInt8.toInt32), (.int (48 : Int32).toInt8.toInt32), (.int (49 : Int32).toInt8.toInt32)] := StrChars.Road.codOf (n := 10) rfl (fun x hx => (la35 x hx).2)
      have bd35 := own_up la35
      obtain ⟨cq34, kq34, q34a, q34b, q34c⟩ := isOf hZ3 e3 fE3
      obtain ⟨_, _, ⟨T34, L34, k34, n34⟩, -, X34, ⟨Lc34, hQ34, l34, y34, z34⟩, st34⟩ := X3.virtualBack hx (y := (⟨"java/lang/String", "charAt", "(I)C"⟩ : MethodName)) (z := (⟨"java/lang/String", "charAt", "(I)C"⟩ : MethodName)) ho3 (mvT hZ3 (own_w hw 12 rfl)) (mvT hZ3 (own_w hw 13 rfl)) (notFace_of_selects (args := #[]) (mvT hZ3 (own_w hw 15 rfl))) (mvT hZ3 (own_w hw 15 rfl)) (mvT hZ3 (own_w hw 14 rfl)) (by decide) (StrChars.Road.chN (W := 0) hZ3 hwc (kI := 4) (own_w hw 6 rfl) (cs := [(116 : Int32), (114 : Int32), (117 : Int32), (101 : Int32), (102 : Int32), (97 : Int32), (108 : Int32), (115 : Int32), (48 : Int32), (49 : Int32)]) (i := 5) (j := (5 : Int32)) fE3 fV3 fC3 fA3 cd35 bd35 (S_C.ext O4.2) hzc (S_F.ext O4.2) hfm (by show 10 ≤ 4000; decide) (by show 5 < 10; decide) rfl (by decide) (by decide)) q34a q34c (g := (mkF m 25 #[.val (.int pp)] [(.int (5 : Int32)), (.ref x3)])) rfl (by rw [hml]; rfl) (Steps.refl _) (argsL := [(.int (5 : Int32))]) (rest := []) (lenOf pd_1 rfl) rfl (by show 2 * 0 + _ ≤ _; exact Nat.le_of_eq rfl) (hb hby d3_25) (fun _ _ => ⟨rfl, e3, (by decide : 2 + 0 ≤ _), (by decide : 44 + 0 ≤ _)⟩)
      dsimp only [Pt.U, Pt.locs, Pt.cells, Pt.slots] at X34 l34 y34 z34 st34 hQ34
      subst l34 y34 z34
      obtain ⟨rfl, rfl, k36⟩ := hQ34
      have N37 := Fr.app N0 (Fr.nil n0)
      have S38 : ∀ t, Steps p.tables e below (T34.setTop (mkF m 28 #[.val (.int pp)] [(.int (97 : Int32))])) t → Steps p.tables e below (s₁.setTop (mkF m 0 #[.val (.int pp)] [])) t := by
        intro t kt
        refine S8 t ?_
        refine st34.trans ?_
        exact kt
      obtain ⟨fs, hr, hrun, hended, hRW⟩ := X34.leaveW hS3 (by rw [k36]; exact hk3) (v := some (.int (97 : Int32))) (fun h => by rw [Bd.returns] at h; cases h)
      refine ⟨_, _, pre0 _ (S38 _ ?_), hrun, hended, _, _, rfl, ?_, ?_, hRW.1, hRW.2.1, hRW.2.2.1, hRW.2.2.2.mono (by decide) (by decide)⟩
      · exact retN X34 hx (t := .char) Bd.returns (by simp) (hb hby d3_28) hr
      · show Q_rm_ch Z pp zc fm h0 n0 _ T34.heap _
        rw [k36]
        exact ⟨(97 : Int32), ⟨by decide, by decide⟩, rfl, N37, K5⟩
      · show CHr Z own_EL s.vm s.heap T34.vm T34.heap
        rw [hh, k36]
        exact CR6.trans (CHv.at X34 hZ3 own_ew CR6.1)
    · have la40 : ∀ c ∈ ([(116 : Int32), (114 : Int32), (117 : Int32), (101 : Int32), (102 : Int32), (97 : Int32), (108 : Int32), (115 : Int32), (48 : Int32), (49 : Int32)] : List Int32), ¬ c < 0 ∧ ¬ (255 : Int32) < c := by
        intro c hc
        simp only [List.mem_cons, List.not_mem_nil, or_false] at hc
        rcases hc with rfl | rfl | rfl | rfl | rfl | rfl | rfl | rfl | rfl | rfl
        · exact ⟨by decide, by decide⟩
        · exact ⟨by decide, by decide⟩
        · exact ⟨by decide, by decide⟩
        · exact ⟨by decide, by decide⟩
        · exact ⟨by decide, by decide⟩
        · exact ⟨by decide, by decide⟩
        · exact ⟨by decide, by decide⟩
        · exact ⟨by decide, by decide⟩
        · exact ⟨by decide, by decide⟩
        · exact ⟨by decide, by decide⟩
      have cd40 : StrChars.Road.CodA ([(116 : Int32), (114 : Int32), (117 : Int32), (101 : Int32), (102 : Int32), (97 : Int32), (108 : Int32), (115 : Int32), (48 : Int32), (49 : Int32)] : List Int32) 0 (10 : Int32) [(.int (116 : Int32).toInt8.toInt32), (.int (114 : Int32).toInt8.toInt32), (.int (117 : Int32).toInt8.toInt32), (.int (101 : Int32).toInt8.toInt32), (.int (102 : Int32).toInt8.toInt32), (.int (97 : Int32).toInt8.toInt32), (.int (108 : Int32).toInt8.toInt32), (.int (115 : Int32).toInt8.toInt32), (.int (48 : Int32).toInt8.toInt32), (.int (49 : Int32).toInt8.toInt32)] := StrChars.Road.codOf (n := 10) rfl (fun x hx => (la40 x hx).2)
      have bd40 := own_up la40
      obtain ⟨cq39, kq39, q39a, q39b, q39c⟩ := isOf hZ3 e3 fE3
      obtain ⟨_, _, ⟨T39, L39, k39, n39⟩, -, X39, ⟨Lc39, hQ39, l39, y39, z39⟩, st39⟩ := X3.virtualBack hx (y := (⟨"java/lang/String", "charAt", "(I)C"⟩ : MethodName)) (z := (⟨"java/lang/String", "charAt", "(I)C"⟩ : MethodName)) ho3 (mvT hZ3 (own_w hw 12 rfl)) (mvT hZ3 (own_w hw 13 rfl)) (notFace_of_selects (args := #[]) (mvT hZ3 (own_w hw 15 rfl))) (mvT hZ3 (own_w hw 15 rfl)) (mvT hZ3 (own_w hw 14 rfl)) (by decide) (StrChars.Road.chN (W := 0) hZ3 hwc (kI := 4) (own_w hw 6 rfl) (cs := [(116 : Int32), (114 : Int32), (117 : Int32), (101 : Int32), (102 : Int32), (97 : Int32), (108 : Int32), (115 : Int32), (48 : Int32), (49 : Int32)]) (i := 6) (j := (6 : Int32)) fE3 fV3 fC3 fA3 cd40 bd40 (S_C.ext O4.2) hzc (S_F.ext O4.2) hfm (by show 10 ≤ 4000; decide) (by show 6 < 10; decide) rfl (by decide) (by decide)) q39a q39c (g := (mkF m 25 #[.val (.int pp)] [(.int (6 : Int32)), (.ref x3)])) rfl (by rw [hml]; rfl) (Steps.refl _) (argsL := [(.int (6 : Int32))]) (rest := []) (lenOf pd_1 rfl) rfl (by show 2 * 0 + _ ≤ _; exact Nat.le_of_eq rfl) (hb hby d3_25) (fun _ _ => ⟨rfl, e3, (by decide : 2 + 0 ≤ _), (by decide : 44 + 0 ≤ _)⟩)
      dsimp only [Pt.U, Pt.locs, Pt.cells, Pt.slots] at X39 l39 y39 z39 st39 hQ39
      subst l39 y39 z39
      obtain ⟨rfl, rfl, k41⟩ := hQ39
      have N42 := Fr.app N0 (Fr.nil n0)
      have S43 : ∀ t, Steps p.tables e below (T39.setTop (mkF m 28 #[.val (.int pp)] [(.int (108 : Int32))])) t → Steps p.tables e below (s₁.setTop (mkF m 0 #[.val (.int pp)] [])) t := by
        intro t kt
        refine S8 t ?_
        refine st39.trans ?_
        exact kt
      obtain ⟨fs, hr, hrun, hended, hRW⟩ := X39.leaveW hS3 (by rw [k41]; exact hk3) (v := some (.int (108 : Int32))) (fun h => by rw [Bd.returns] at h; cases h)
      refine ⟨_, _, pre0 _ (S43 _ ?_), hrun, hended, _, _, rfl, ?_, ?_, hRW.1, hRW.2.1, hRW.2.2.1, hRW.2.2.2.mono (by decide) (by decide)⟩
      · exact retN X39 hx (t := .char) Bd.returns (by simp) (hb hby d3_28) hr
      · show Q_rm_ch Z pp zc fm h0 n0 _ T39.heap _
        rw [k41]
        exact ⟨(108 : Int32), ⟨by decide, by decide⟩, rfl, N42, K5⟩
      · show CHr Z own_EL s.vm s.heap T39.vm T39.heap
        rw [hh, k41]
        exact CR6.trans (CHv.at X39 hZ3 own_ew CR6.1)
    · have la45 : ∀ c ∈ ([(116 : Int32), (114 : Int32), (117 : Int32), (101 : Int32), (102 : Int32), (97 : Int32), (108 : Int32), (115 : Int32), (48 : Int32), (49 : Int32)] : List Int32), ¬ c < 0 ∧ ¬ (255 : Int32) < c := by
        intro c hc
        simp only [List.mem_cons, List.not_mem_nil, or_false] at hc
        rcases hc with rfl | rfl | rfl | rfl | rfl | rfl | rfl | rfl | rfl | rfl
        · exact ⟨by decide, by decide⟩
        · exact ⟨by decide, by decide⟩
        · exact ⟨by decide, by decide⟩
        · exact ⟨by decide, by decide⟩
        · exact ⟨by decide, by decide⟩
        · exact ⟨by decide, by decide⟩
        · exact ⟨by decide, by decide⟩
        · exact ⟨by decide, by decide⟩
        · exact ⟨by decide, by decide⟩
        · exact ⟨by decide, by decide⟩
      have cd45 : StrChars.Road.CodA ([(116 : Int32), (114 : Int32), (117 : Int32), (101 : Int32), (102 : Int32), (97 : Int32), (108 : Int32), (115 : Int32), (48 : Int32), (49 : Int32)] : List Int32) 0 (10 : Int32) [(.int (116 : Int32).toInt8.toInt32), (.int (114 : Int32).toInt8.toInt32), (.int (117 : Int32).toInt8.toInt32), (.int (101 : Int32).toInt8.toInt32), (.int (102 : Int32).toInt8.toInt32), (.int (97 : Int32).toInt8.toInt32), (.int (108 : Int32).toInt8.toInt32), (.int (115 : Int32).toInt8.toInt32), (.int (48 : Int32).toInt8.toInt32), (.int (49 : Int32).toInt8.toInt32)] := StrChars.Road.codOf (n := 10) rfl (fun x hx => (la45 x hx).2)
      have bd45 := own_up la45
      obtain ⟨cq44, kq44, q44a, q44b, q44c⟩ := isOf hZ3 e3 fE3
      obtain ⟨_, _, ⟨T44, L44, k44, n44⟩, -, X44, ⟨Lc44, hQ44, l44, y44, z44⟩, st44⟩ := X3.virtualBack hx (y := (⟨"java/lang/String", "charAt", "(I)C"⟩ : MethodName)) (z := (⟨"java/lang/String", "charAt", "(I)C"⟩ : MethodName)) ho3 (mvT hZ3 (own_w hw 12 rfl)) (mvT hZ3 (own_w hw 13 rfl)) (notFace_of_selects (args := #[]) (mvT hZ3 (own_w hw 15 rfl))) (mvT hZ3 (own_w hw 15 rfl)) (mvT hZ3 (own_w hw 14 rfl)) (by decide) (StrChars.Road.chN (W := 0) hZ3 hwc (kI := 4) (own_w hw 6 rfl) (cs := [(116 : Int32), (114 : Int32), (117 : Int32), (101 : Int32), (102 : Int32), (97 : Int32), (108 : Int32), (115 : Int32), (48 : Int32), (49 : Int32)]) (i := 7) (j := (7 : Int32)) fE3 fV3 fC3 fA3 cd45 bd45 (S_C.ext O4.2) hzc (S_F.ext O4.2) hfm (by show 10 ≤ 4000; decide) (by show 7 < 10; decide) rfl (by decide) (by decide)) q44a q44c (g := (mkF m 25 #[.val (.int pp)] [(.int (7 : Int32)), (.ref x3)])) rfl (by rw [hml]; rfl) (Steps.refl _) (argsL := [(.int (7 : Int32))]) (rest := []) (lenOf pd_1 rfl) rfl (by show 2 * 0 + _ ≤ _; exact Nat.le_of_eq rfl) (hb hby d3_25) (fun _ _ => ⟨rfl, e3, (by decide : 2 + 0 ≤ _), (by decide : 44 + 0 ≤ _)⟩)
      dsimp only [Pt.U, Pt.locs, Pt.cells, Pt.slots] at X44 l44 y44 z44 st44 hQ44
      subst l44 y44 z44
      obtain ⟨rfl, rfl, k46⟩ := hQ44
      have N47 := Fr.app N0 (Fr.nil n0)
      have S48 : ∀ t, Steps p.tables e below (T44.setTop (mkF m 28 #[.val (.int pp)] [(.int (115 : Int32))])) t → Steps p.tables e below (s₁.setTop (mkF m 0 #[.val (.int pp)] [])) t := by
        intro t kt
        refine S8 t ?_
        refine st44.trans ?_
        exact kt
      obtain ⟨fs, hr, hrun, hended, hRW⟩ := X44.leaveW hS3 (by rw [k46]; exact hk3) (v := some (.int (115 : Int32))) (fun h => by rw [Bd.returns] at h; cases h)
      refine ⟨_, _, pre0 _ (S48 _ ?_), hrun, hended, _, _, rfl, ?_, ?_, hRW.1, hRW.2.1, hRW.2.2.1, hRW.2.2.2.mono (by decide) (by decide)⟩
      · exact retN X44 hx (t := .char) Bd.returns (by simp) (hb hby d3_28) hr
      · show Q_rm_ch Z pp zc fm h0 n0 _ T44.heap _
        rw [k46]
        exact ⟨(115 : Int32), ⟨by decide, by decide⟩, rfl, N47, K5⟩
      · show CHr Z own_EL s.vm s.heap T44.vm T44.heap
        rw [hh, k46]
        exact CR6.trans (CHv.at X44 hZ3 own_ew CR6.1)
    · have la50 : ∀ c ∈ ([(116 : Int32), (114 : Int32), (117 : Int32), (101 : Int32), (102 : Int32), (97 : Int32), (108 : Int32), (115 : Int32), (48 : Int32), (49 : Int32)] : List Int32), ¬ c < 0 ∧ ¬ (255 : Int32) < c := by
        intro c hc
        simp only [List.mem_cons, List.not_mem_nil, or_false] at hc
        rcases hc with rfl | rfl | rfl | rfl | rfl | rfl | rfl | rfl | rfl | rfl
        · exact ⟨by decide, by decide⟩
        · exact ⟨by decide, by decide⟩
        · exact ⟨by decide, by decide⟩
        · exact ⟨by decide, by decide⟩
        · exact ⟨by decide, by decide⟩
        · exact ⟨by decide, by decide⟩
        · exact ⟨by decide, by decide⟩
        · exact ⟨by decide, by decide⟩
        · exact ⟨by decide, by decide⟩
        · exact ⟨by decide, by decide⟩
      have cd50 : StrChars.Road.CodA ([(116 : Int32), (114 : Int32), (117 : Int32), (101 : Int32), (102 : Int32), (97 : Int32), (108 : Int32), (115 : Int32), (48 : Int32), (49 : Int32)] : List Int32) 0 (10 : Int32) [(.int (116 : Int32).toInt8.toInt32), (.int (114 : Int32).toInt8.toInt32), (.int (117 : Int32).toInt8.toInt32), (.int (101 : Int32).toInt8.toInt32), (.int (102 : Int32).toInt8.toInt32), (.int (97 : Int32).toInt8.toInt32), (.int (108 : Int32).toInt8.toInt32), (.int (115 : Int32).toInt8.toInt32), (.int (48 : Int32).toInt8.toInt32), (.int (49 : Int32).toInt8.toInt32)] := StrChars.Road.codOf (n := 10) rfl (fun x hx => (la50 x hx).2)
      have bd50 := own_up la50
      obtain ⟨cq49, kq49, q49a, q49b, q49c⟩ := isOf hZ3 e3 fE3
      obtain ⟨_, _, ⟨T49, L49, k49, n49⟩, -, X49, ⟨Lc49, hQ49, l49, y49, z49⟩, st49⟩ := X3.virtualBack hx (y := (⟨"java/lang/String", "charAt", "(I)C"⟩ : MethodName)) (z := (⟨"java/lang/String", "charAt", "(I)C"⟩ : MethodName)) ho3 (mvT hZ3 (own_w hw 12 rfl)) (mvT hZ3 (own_w hw 13 rfl)) (notFace_of_selects (args := #[]) (mvT hZ3 (own_w hw 15 rfl))) (mvT hZ3 (own_w hw 15 rfl)) (mvT hZ3 (own_w hw 14 rfl)) (by decide) (StrChars.Road.chN (W := 0) hZ3 hwc (kI := 4) (own_w hw 6 rfl) (cs := [(116 : Int32), (114 : Int32), (117 : Int32), (101 : Int32), (102 : Int32), (97 : Int32), (108 : Int32), (115 : Int32), (48 : Int32), (49 : Int32)]) (i := 8) (j := (8 : Int32)) fE3 fV3 fC3 fA3 cd50 bd50 (S_C.ext O4.2) hzc (S_F.ext O4.2) hfm (by show 10 ≤ 4000; decide) (by show 8 < 10; decide) rfl (by decide) (by decide)) q49a q49c (g := (mkF m 25 #[.val (.int pp)] [(.int (8 : Int32)), (.ref x3)])) rfl (by rw [hml]; rfl) (Steps.refl _) (argsL := [(.int (8 : Int32))]) (rest := []) (lenOf pd_1 rfl) rfl (by show 2 * 0 + _ ≤ _; exact Nat.le_of_eq rfl) (hb hby d3_25) (fun _ _ => ⟨rfl, e3, (by decide : 2 + 0 ≤ _), (by decide : 44 + 0 ≤ _)⟩)
      dsimp only [Pt.U, Pt.locs, Pt.cells, Pt.slots] at X49 l49 y49 z49 st49 hQ49
      subst l49 y49 z49
      obtain ⟨rfl, rfl, k51⟩ := hQ49
      have N52 := Fr.app N0 (Fr.nil n0)
      have S53 : ∀ t, Steps p.tables e below (T49.setTop (mkF m 28 #[.val (.int pp)] [(.int (48 : Int32))])) t → Steps p.tables e below (s₁.setTop (mkF m 0 #[.val (.int pp)] [])) t := by
        intro t kt
        refine S8 t ?_
        refine st49.trans ?_
        exact kt
      obtain ⟨fs, hr, hrun, hended, hRW⟩ := X49.leaveW hS3 (by rw [k51]; exact hk3) (v := some (.int (48 : Int32))) (fun h => by rw [Bd.returns] at h; cases h)
      refine ⟨_, _, pre0 _ (S53 _ ?_), hrun, hended, _, _, rfl, ?_, ?_, hRW.1, hRW.2.1, hRW.2.2.1, hRW.2.2.2.mono (by decide) (by decide)⟩
      · exact retN X49 hx (t := .char) Bd.returns (by simp) (hb hby d3_28) hr
      · show Q_rm_ch Z pp zc fm h0 n0 _ T49.heap _
        rw [k51]
        exact ⟨(48 : Int32), ⟨by decide, by decide⟩, rfl, N52, K5⟩
      · show CHr Z own_EL s.vm s.heap T49.vm T49.heap
        rw [hh, k51]
        exact CR6.trans (CHv.at X49 hZ3 own_ew CR6.1)
    · have la55 : ∀ c ∈ ([(116 : Int32), (114 : Int32), (117 : Int32), (101 : Int32), (102 : Int32), (97 : Int32), (108 : Int32), (115 : Int32), (48 : Int32), (49 : Int32)] : List Int32), ¬ c < 0 ∧ ¬ (255 : Int32) < c := by
        intro c hc
        simp only [List.mem_cons, List.not_mem_nil, or_false] at hc
        rcases hc with rfl | rfl | rfl | rfl | rfl | rfl | rfl | rfl | rfl | rfl
        · exact ⟨by decide, by decide⟩
        · exact ⟨by decide, by decide⟩
        · exact ⟨by decide, by decide⟩
        · exact ⟨by decide, by decide⟩
        · exact ⟨by decide, by decide⟩
        · exact ⟨by decide, by decide⟩
        · exact ⟨by decide, by decide⟩
        · exact ⟨by decide, by decide⟩
        · exact ⟨by decide, by decide⟩
        · exact ⟨by decide, by decide⟩
      have cd55 : StrChars.Road.CodA ([(116 : Int32), (114 : Int32), (117 : Int32), (101 : Int32), (102 : Int32), (97 : Int32), (108 : Int32), (115 : Int32), (48 : Int32), (49 : Int32)] : List Int32) 0 (10 : Int32) [(.int (116 : Int32).toInt8.toInt32), (.int (114 : Int32).toInt8.toInt32), (.int (117 : Int32).toInt8.toInt32), (.int (101 : Int32).toInt8.toInt32), (.int (102 : Int32).toInt8.toInt32), (.int (97 : Int32).toInt8.toInt32), (.int (108 : Int32).toInt8.toInt32), (.int (115 : Int32).toInt8.toInt32), (.int (48 : Int32).toInt8.toInt32), (.int (49 : Int32).toInt8.toInt32)] := StrChars.Road.codOf (n := 10) rfl (fun x hx => (la55 x hx).2)
      have bd55 := own_up la55
      obtain ⟨cq54, kq54, q54a, q54b, q54c⟩ := isOf hZ3 e3 fE3
      obtain ⟨_, _, ⟨T54, L54, k54, n54⟩, -, X54, ⟨Lc54, hQ54, l54, y54, z54⟩, st54⟩ := X3.virtualBack hx (y := (⟨"java/lang/String", "charAt", "(I)C"⟩ : MethodName)) (z := (⟨"java/lang/String", "charAt", "(I)C"⟩ : MethodName)) ho3 (mvT hZ3 (own_w hw 12 rfl)) (mvT hZ3 (own_w hw 13 rfl)) (notFace_of_selects (args := #[]) (mvT hZ3 (own_w hw 15 rfl))) (mvT hZ3 (own_w hw 15 rfl)) (mvT hZ3 (own_w hw 14 rfl)) (by decide) (StrChars.Road.chN (W := 0) hZ3 hwc (kI := 4) (own_w hw 6 rfl) (cs := [(116 : Int32), (114 : Int32), (117 : Int32), (101 : Int32), (102 : Int32), (97 : Int32), (108 : Int32), (115 : Int32), (48 : Int32), (49 : Int32)]) (i := 9) (j := (9 : Int32)) fE3 fV3 fC3 fA3 cd55 bd55 (S_C.ext O4.2) hzc (S_F.ext O4.2) hfm (by show 10 ≤ 4000; decide) (by show 9 < 10; decide) rfl (by decide) (by decide)) q54a q54c (g := (mkF m 25 #[.val (.int pp)] [(.int (9 : Int32)), (.ref x3)])) rfl (by rw [hml]; rfl) (Steps.refl _) (argsL := [(.int (9 : Int32))]) (rest := []) (lenOf pd_1 rfl) rfl (by show 2 * 0 + _ ≤ _; exact Nat.le_of_eq rfl) (hb hby d3_25) (fun _ _ => ⟨rfl, e3, (by decide : 2 + 0 ≤ _), (by decide : 44 + 0 ≤ _)⟩)
      dsimp only [Pt.U, Pt.locs, Pt.cells, Pt.slots] at X54 l54 y54 z54 st54 hQ54
      subst l54 y54 z54
      obtain ⟨rfl, rfl, k56⟩ := hQ54
      have N57 := Fr.app N0 (Fr.nil n0)
      have S58 : ∀ t, Steps p.tables e below (T54.setTop (mkF m 28 #[.val (.int pp)] [(.int (49 : Int32))])) t → Steps p.tables e below (s₁.setTop (mkF m 0 #[.val (.int pp)] [])) t := by
        intro t kt
        refine S8 t ?_
        refine st54.trans ?_
        exact kt
      obtain ⟨fs, hr, hrun, hended, hRW⟩ := X54.leaveW hS3 (by rw [k56]; exact hk3) (v := some (.int (49 : Int32))) (fun h => by rw [Bd.returns] at h; cases h)
      refine ⟨_, _, pre0 _ (S58 _ ?_), hrun, hended, _, _, rfl, ?_, ?_, hRW.1, hRW.2.1, hRW.2.2.1, hRW.2.2.2.mono (by decide) (by decide)⟩
      · exact retN X54 hx (t := .char) Bd.returns (by simp) (hb hby d3_28) hr
      · show Q_rm_ch Z pp zc fm h0 n0 _ T54.heap _
        rw [k56]
        exact ⟨(49 : Int32), ⟨by decide, by decide⟩, rfl, N57, K5⟩
      · show CHr Z own_EL s.vm s.heap T54.vm T54.heap
        rw [hh, k56]
        exact CR6.trans (CHv.at X54 hZ3 own_ew CR6.1)
  · have S59 : ∀ t, Steps p.tables e below (s₁.setTop (mkF m 14 #[.val (.int pp)] [(.int (pp &&& (255 : Int32)))])) t → Steps p.tables e below (s₁.setTop (mkF m 0 #[.val (.int pp)] [])) t := by
      intro t kt
      refine S1 t ?_
      refine XS.ifNo X0.here hx rfl (hb hby d3_5) rfl ((if0 _ _).trans (feq (c2 : ¬ ((pp &&& (256 : Int32)) = (0 : Int32)))).1) ?_
      refine XS.iloadN X0.here hx rfl (hb hby d3_8) rfl ?_
      refine XS.sipush X0.here hx rfl (hb hby d3_9) ?_
      refine XS.iand X0.here hx rfl (hb hby d3_12) rfl ?_
      refine XS.i2c X0.here hx rfl (hb hby d3_13) rfl ?_
      change Steps p.tables e below (s₁.setTop (mkF m 14 #[.val (.int pp)] [(.int ((pp &&& (255 : Int32)).toUInt32.toUInt16.toUInt32.toInt32))])) _
      rw [i2c_mask]
      exact kt
    obtain ⟨fs, hr, hrun, hended, hRW⟩ := X0.leaveW hS0 (by rw [e0]; exact hk0) (v := some (.int (pp &&& (255 : Int32)))) (fun h => by rw [Bd.returns] at h; cases h)
    refine ⟨_, _, pre0 _ (S59 _ ?_), hrun, hended, _, _, rfl, ?_, ?_, hRW.1, hRW.2.1, hRW.2.2.1, hRW.2.2.2.mono (by decide) (by decide)⟩
    · refine retN X0 hx (t := .char) Bd.returns (by simp) (hb hby d3_14) (fun fz az a1 a2 a3 => ?_)
      rw [show nar .char (pp &&& (255 : Int32)) = (pp &&& (255 : Int32)) from i2c_mask _]
      exact hr fz az a1 a2 a3
    · show Q_rm_ch Z pp zc fm h0 n0 _ s₁.heap _
      rw [e0]
      exact ⟨(pp &&& (255 : Int32)), own_lat _, rfl, N0, K0⟩
    · show CHr Z own_EL s.vm s.heap s₁.vm s₁.heap
      rw [hh, e0]
      exact CR0.trans (CHv.at X0 hZ0 own_ew CR0.1)
theorem d4_0 : decode method_3_code 0 = .ok (.iload_n 0, 1) := by decide +kernel
theorem d4_1 : decode method_3_code 1 = .ok (.ifCond .ne 14, 3) := by decide +kernel
theorem d4_4 : decode method_3_code 4 = .ok (.new 10, 3) := by decide +kernel
theorem d4_7 : decode method_3_code 7 = .ok (.dup, 1) := by decide +kernel
theorem d4_8 : decode method_3_code 8 = .ok (.iconst 0, 1) := by decide +kernel
theorem d4_9 : decode method_3_code 9 = .ok (.newarray .char, 2) := by decide +kernel
theorem d4_11 : decode method_3_code 11 = .ok (.invokespecial 15, 3) := by decide +kernel
theorem pd_2 : parseMethodDescriptor "([C)V" = some ⟨[(.array .char)], none⟩ := by decide +kernel
theorem d4_14 : decode method_3_code 14 = .ok (.areturn, 1) := by decide +kernel
theorem ef_rm_str0 (m : MethodId) (x0 : Int32) (x1 : Int32) (x2 : Int32) (x3 : Int32) (x4 : Int32) (x5 : Int32) (x6 : Int32) : entryFrame m #[(.int x0), (.int x1), (.int x2), (.int x3), (.int x4), (.int x5), (.int x6)] 7 = mkF m 0 #[.val (.int x0), .val (.int x1), .val (.int x2), .val (.int x3), .val (.int x4), .val (.int x5), .val (.int x6)] [] := by first | (simp [entryFrame, mkF, argsToLocals, Value.category]; done) | rfl
def Q_rm_str0 (Z : State) (c0 : Int32) (c1 : Int32) (c2 : Int32) (c3 : Int32) (c4 : Int32) (c5 : Int32) (zc : Int32) (h0 : Heap) (n0 : Nat) (v : Option Value) (h : Heap) (L : List Loc) : Prop := (∃ (x : Addr) (tx : Addr) (kx : ClassId), (v = some (.ref x)) ∧ (Fr n0 L) ∧ (Keep h0 h []) ∧ (h0.size ≤ x) ∧ (Exa Z h x "java/lang/String") ∧ (Fld Z h x "java/lang/String" "value" "[B" (.ref tx)) ∧ (Fld Z h x "java/lang/String" "coder" "B" (.int (0 : Int32))) ∧ (Arv Z h tx kx .byte (0 : Int32) [] (.int (0 : Int32))))
set_option maxRecDepth 65536 in
set_option maxHeartbeats 40000000 in
theorem rm_str0 (l : Launch) (Z : State) (a0 : Array Value) (hw : ∀ d ∈ tables_1, d.before a0 Z = true) (ws : List Jvm.Cond) (c0 : Int32) (c1 : Int32) (c2 : Int32) (c3 : Int32) (c4 : Int32) (c5 : Int32) (zc : Int32) (h0 : Heap) (n0 : Nat) (O0 : Old Z n0 h0) (la_c0 : ¬ (c0 < (0 : Int32)) ∧ ¬ ((255 : Int32) < c0)) (la_c1 : ¬ (c1 < (0 : Int32)) ∧ ¬ ((255 : Int32) < c1)) (la_c2 : ¬ (c2 < (0 : Int32)) ∧ ¬ ((255 : Int32) < c2)) (la_c3 : ¬ (c3 < (0 : Int32)) ∧ ¬ ((255 : Int32) < c3)) (la_c4 : ¬ (c4 < (0 : Int32)) ∧ ¬ ((255 : Int32) < c4)) (la_c5 : ¬ (c5 < (0 : Int32)) ∧ ¬ ((255 : Int32) < c5)) (S_C : Sta Z Z.heap "java/lang/String" "COMPACT_STRINGS" "Z" (.int zc)) (hzc : ¬ (zc = (0 : Int32))) :
    MetFree l (⟨"com/example/pico_notify/piconotify/XmlBoolPinLaw", "str", "(ICCCCCC)Ljava/lang/String;"⟩ : MethodName) (head1 (Jvm.Cond.code (⟨"com/example/pico_notify/piconotify/XmlBoolPinLaw", "str", "(ICCCCCC)Ljava/lang/String;"⟩ : MethodName) method_3_code 7 (some (.object "java/lang/String")) :: ws) ({ frames := 3, cells := 6, slots := 12, locals := 43 } : Room)) (fun a U => a = #[(.int (0 : Int32)), (.int c0), (.int c1), (.int c2), (.int c3), (.int c4), (.int c5)] ∧ Z.Warmed39 U.vm ∧ U.heap = h0 ∧ CHv Z own_EL U.vm h0 ∧ ∀ own_y ∈ ([] : List Addr), Safe Z own_EL U.vm h0 own_y) (fun _ _ _ _ _ => True) (fun _ U o U' => ∃ v L, o = .returned v ∧ Q_rm_str0 Z c0 c1 c2 c3 c4 c5 zc h0 n0 v U'.heap L ∧ CHr Z own_EL U.vm U.heap U'.vm U'.heap ∧ ReturnedEndW U o U' L ({ frames := 3, cells := 6, slots := 12, locals := 43 } : Room).cells ({ frames := 3, cells := 6, slots := 12, locals := 43 } : Room).slots) := by
  refine MetFree.of_bodySF (plainFor_of_name pn_1) hisR ?_
  intro p e s m args below meth c s₁ Bd hml0 hP hK
  obtain ⟨rfl, hZ, hh, hCH, hSf⟩ := hP
  have hx := Bd.exec
  have hby := Bd.bytes
  have hml : c.maxLocals = 7 := hml0
  have hown : s.vm.findClass "com/example/pico_notify/piconotify/XmlBoolPinLaw" = some m.cls := findClass_of_methodNamed Bd.named
  have hnm := (name_of_methodNamed Bd.named Bd.method).1
  have X0 : Stand p l e ({ frames := 3, cells := 6, slots := 12, locals := 43 } : Room) (s.setVm s.vm) m #[(.int (0 : Int32)), (.int c0), (.int c1), (.int c2), (.int c3), (.int c4), (.int c5)] below meth c s₁ [] 0 0 := Stand.of_body Bd
  have e0 : s₁.heap = h0 := by rw [← hh, Bd.state]; rfl
  have N0 := Fr.nil n0
  have hZ0 := hZ
  have ho0 := hown
  have hS0 : s.Since s.vm 0 := (State.WarmedH.refl s).since 0
  have hk0 : 0 ≤ h0.size := Nat.zero_le _
  have CR0 : CHr Z own_EL s.vm h0 s.vm h0 := CHr.refl hCH
  have own_at : ∀ d ∈ Bundle.stringAtoms, d.before a0 Z = true := fun d hd => hw d (own_atoms d hd)
  have own_ew : EW Z a0 own_EL := own_EWof hw
  have hwc : ∀ d ∈ StrChars.Road.wordsChN, d.before a0 Z = true := fun d hd => hw d (own_wordsChN d hd)
  have hwq : ∀ d ∈ StrChars.Road.wordsEq, d.before a0 Z = true := fun d hd => hw d (own_wordsEq d hd)
  have hws : ∀ d ∈ StrChars.Road.words, d.before a0 Z = true := fun d hd => hw d (own_words d hd)
  have K0 : Keep h0 h0 [] := Keep.refl _ _
  have pre0 : ∀ t, Steps p.tables e below (s₁.setTop (mkF m 0 #[.val (.int (0 : Int32)), .val (.int c0), .val (.int c1), .val (.int c2), .val (.int c3), .val (.int c4), .val (.int c5)] [])) t → Steps p.tables e below (s₁.setTop (entryFrame m #[(.int (0 : Int32)), (.int c0), (.int c1), (.int c2), (.int c3), (.int c4), (.int c5)] 7)) t := fun t k => castTop (ef_rm_str0 m (0 : Int32) c0 c1 c2 c3 c4 c5) k
  obtain ⟨T1, h1, X1, e1, E1, A1, D1, -, st1⟩ := newO X0 hx hZ0 ho0 (own_w hw 40 rfl) (own_w hw 6 rfl) (own_w hw 5 rfl) e0 (g := (mkF m 4 #[.val (.int (0 : Int32)), .val (.int c0), .val (.int c1), .val (.int c2), .val (.int c3), .val (.int c4), .val (.int c5)] [])) rfl (hb hby d4_4) (by decide) (by decide)
  obtain ⟨b1, g1⟩ : ∃ z, z = h0.size := ⟨_, rfl⟩
  have ge_b1 : n0 ≤ b1 := by rw [g1, ← O0.1]; exact O0.2.1
  have sz_b1 : h0.size ≤ b1 := by rw [g1]; exact K0.1
  have sf2 : Safe Z own_EL s.vm h0 b1 := Safe.new (Nat.le_of_eq g1.symm)
  rw [← g1] at A1 D1 st1
  have CR3 := CR0.trans (CHr.ext E1 CR0.1)
  have hk4 := Nat.le_trans hk0 E1.1
  have sf5 := Safe.ext E1 CR0.1 sf2
  have O6 := O0.ext E1
  have K7 : Keep h0 h1 [] := K0.ext E1
  have F8 : Fld Z h1 b1 "java/lang/String" "value" "[B" .null := D1 (Or.inr (own_w hw 8 rfl)) (ty := (.array .byte)) (by decide)
  have F9 : Fld Z h1 b1 "java/lang/String" "coder" "B" (.int (0 : Int32)) := D1 (Or.inr (own_w hw 9 rfl)) (ty := .byte) (by decide)
  obtain ⟨T10, h10, k10, X10, e10, E10, A10, B10, st10⟩ := newPE X1 hx hZ0 (own_w hw 41 rfl) e1 (g := (mkF m 9 #[.val (.int (0 : Int32)), .val (.int c0), .val (.int c1), .val (.int c2), .val (.int c3), .val (.int c4), .val (.int c5)] [(.int (0 : Int32)), (.ref b1), (.ref b1)])) rfl (hb hby d4_9) rfl (by decide) (cap := 0) (by decide) (by decide) (by decide) (by decide) (ad := "[C") (by first | rfl | decide)
  obtain ⟨b10, g10⟩ : ∃ z, z = h1.size := ⟨_, rfl⟩
  have ge_b10 : n0 ≤ b10 := by rw [g10, ← O6.1]; exact O6.2.1
  have sz_b10 : h0.size ≤ b10 := by rw [g10]; exact K7.1
  have ne11 : b1 ≠ b10 := Nat.ne_of_lt (Nat.lt_of_lt_of_le (Exa.lt A1) (Nat.le_of_eq g10.symm))
  rw [← g10] at A10 B10 st10
  have CR12 := CR3.trans (CHr.ext E10 CR3.1)
  have hk13 := Nat.le_trans hk4 E10.1
  have sf14 := Safe.ext E10 CR3.1 sf5
  have O15 := O6.ext E10
  have K16 : Keep h0 h10 [] := K7.ext E10
  have F10 : Arv Z h10 b10 k10 .char (0 : Int32) [] (.int (0 : Int32)) := (Arv.new A10 (by decide)).pad (pad_rep [] (.int (0 : Int32)) 0)
  have f18 := (Exa.ext E10 A1)
  have f19 := (Fld.ext E10 F8)
  have f20 := (Fld.ext E10 F9)
  obtain ⟨_, _, ⟨T17, L17, k17, n17⟩, -, Xq17, hSq17, hgq17, ⟨Lc17, hQ17, l17, y17, z17, C17⟩, st17⟩ := X10.specialBackS hx (y := (⟨"java/lang/String", "<init>", "([C)V"⟩ : MethodName)) rfl ho0 (mvT hZ0 (own_w hw 42 rfl)) (mvT hZ0 (own_w hw 43 rfl)) (mvT hZ0 (own_w hw 44 rfl)) (by decide) (own_backS (W := 1) (rm := ({ frames := 2, cells := 4, slots := 8, locals := 29 } : Room)) (xs := [b1]) (rm_sini0 l Z a0 hw [] b1 b10 k10 h10 n0 O15 f18 f19 f20 ge_b1 F10) hZ0 (own_w hw 44 rfl) (own_w hw 5 rfl) (by decide) (by decide) own_ew CR12.1 (allS (P := fun x => x < h10.size ∧ Safe Z own_EL s.vm h10 x) ⟨(Exa.lt f18), sf14⟩ all0)) (g := (mkF m 11 #[.val (.int (0 : Int32)), .val (.int c0), .val (.int c1), .val (.int c2), .val (.int c3), .val (.int c4), .val (.int c5)] [(.ref b10), (.ref b1), (.ref b1)])) rfl (by rw [hml]; rfl) (Steps.refl _) (a := b1) (argsL := [(.ref b10)]) (rest := [(.ref b1)]) (lenOf pd_2 rfl) rfl (by show 2 * 0 + _ ≤ _; exact Nat.le_of_eq rfl) (hb hby d4_11) (fun _ _ => ⟨rfl, e10, (by decide : 2 + 4 ≤ _), (by decide : 4 + 8 ≤ _)⟩)
  dsimp only [Pt.U, Pt.locs, Pt.cells, Pt.slots] at Xq17 hSq17 hgq17 l17 y17 z17 st17 hQ17 C17
  obtain ⟨X17, hS17, hZ17, ho17⟩ := rebS hS0 (by rw [e10]; exact hk13) Xq17 hSq17 hgq17 hZ0 ho0
  subst l17 y17 z17
  obtain ⟨x21, x22, rfl, N23, k24, f25, f26, f27, f28⟩ := hQ17
  have N29 := Fr.app N0 N23
  have sf30 := CHr.safe C17 (Exa.lt f18) sf14
  have CR31 := CR12.trans C17
  have hk32 : T17.heap.size ≤ T17.heap.size := Nat.le_refl _
  have O33 := O15.keep k24 (allS ge_b1 all0)
  have K34 : Keep h0 T17.heap [] := K16.trans k24 (allS (Or.inr sz_b1) all0)
  have S35 : ∀ t, Steps p.tables e below (T17.setTop (mkF m 14 #[.val (.int (0 : Int32)), .val (.int c0), .val (.int c1), .val (.int c2), .val (.int c3), .val (.int c4), .val (.int c5)] [(.ref b1)])) t → Steps p.tables e below (s₁.setTop (mkF m 0 #[.val (.int (0 : Int32)), .val (.int c0), .val (.int c1), .val (.int c2), .val (.int c3), .val (.int c4), .val (.int c5)] [])) t := by
    intro t kt
    refine XS.iloadN X0.here hx rfl (hb hby d4_0) rfl ?_
    refine XS.ifNo X0.here hx rfl (hb hby d4_1) rfl ((if0 _ _).trans (teq ((by decide) : (0 : Int32) = (0 : Int32))).2) ?_
    show Steps p.tables e below (s₁.setTop (mkF m 4 #[.val (.int (0 : Int32)), .val (.int c0), .val (.int c1), .val (.int c2), .val (.int c3), .val (.int c4), .val (.int c5)] [])) _
    refine st1 _ ?_
    refine XS.dup X1.here hx rfl (hb hby d4_7) rfl rfl ?_
    refine XS.iconst X1.here hx rfl (hb hby d4_8) ?_
    show Steps p.tables e below (T1.setTop (mkF m 9 #[.val (.int (0 : Int32)), .val (.int c0), .val (.int c1), .val (.int c2), .val (.int c3), .val (.int c4), .val (.int c5)] [(.int (0 : Int32)), (.ref b1), (.ref b1)])) _
    refine st10 _ ?_
    show Steps p.tables e below (T10.setTop (mkF m 11 #[.val (.int (0 : Int32)), .val (.int c0), .val (.int c1), .val (.int c2), .val (.int c3), .val (.int c4), .val (.int c5)] [(.ref b10), (.ref b1), (.ref b1)])) _
    refine st17.trans ?_
    exact kt
  obtain ⟨fs, hr, hrun, hended, hRW⟩ := X17.leaveW hS17 (by exact hk32) (v := some (.ref b1)) (fun h => by rw [Bd.returns] at h; cases h)
  refine ⟨_, _, pre0 _ (S35 _ ?_), hrun, hended, _, _, rfl, ?_, ?_, hRW.1, hRW.2.1, hRW.2.2.1, hRW.2.2.2.mono (by decide) (by decide)⟩
  · exact retOut X17 hx Bd.returns rfl (Or.inr (Or.inr (Or.inr (Or.inr ⟨rfl, rfl, rfl⟩)))) (hb hby d4_14) hr
  · show Q_rm_str0 Z c0 c1 c2 c3 c4 c5 zc h0 n0 _ T17.heap _
    exact ⟨b1, x21, x22, rfl, N29, K34, sz_b1, f25, f26, f27, f28⟩
  · show CHr Z own_EL s.vm s.heap T17.vm T17.heap
    rw [hh]
    exact CR31.trans (CHv.at X17 hZ17 own_ew CR31.1)
theorem d4_15 : decode method_3_code 15 = .ok (.iload_n 0, 1) := by decide +kernel
theorem d4_16 : decode method_3_code 16 = .ok (.iconst 1, 1) := by decide +kernel
theorem d4_17 : decode method_3_code 17 = .ok (.if_icmp .ne 18, 3) := by decide +kernel
theorem d4_20 : decode method_3_code 20 = .ok (.new 10, 3) := by decide +kernel
theorem d4_23 : decode method_3_code 23 = .ok (.dup, 1) := by decide +kernel
theorem d4_24 : decode method_3_code 24 = .ok (.iconst 1, 1) := by decide +kernel
theorem d4_25 : decode method_3_code 25 = .ok (.newarray .char, 2) := by decide +kernel
theorem d4_27 : decode method_3_code 27 = .ok (.dup, 1) := by decide +kernel
theorem d4_28 : decode method_3_code 28 = .ok (.iconst 0, 1) := by decide +kernel
theorem d4_29 : decode method_3_code 29 = .ok (.iload_n 1, 1) := by decide +kernel
theorem d4_30 : decode method_3_code 30 = .ok (.castore, 1) := by decide +kernel
theorem d4_31 : decode method_3_code 31 = .ok (.invokespecial 15, 3) := by decide +kernel
theorem d4_34 : decode method_3_code 34 = .ok (.areturn, 1) := by decide +kernel
theorem ef_rm_str1 (m : MethodId) (x0 : Int32) (x1 : Int32) (x2 : Int32) (x3 : Int32) (x4 : Int32) (x5 : Int32) (x6 : Int32) : entryFrame m #[(.int x0), (.int x1), (.int x2), (.int x3), (.int x4), (.int x5), (.int x6)] 7 = mkF m 0 #[.val (.int x0), .val (.int x1), .val (.int x2), .val (.int x3), .val (.int x4), .val (.int x5), .val (.int x6)] [] := by first | (simp [entryFrame, mkF, argsToLocals, Value.category]; done) | rfl
def Q_rm_str1 (Z : State) (c0 : Int32) (c1 : Int32) (c2 : Int32) (c3 : Int32) (c4 : Int32) (c5 : Int32) (zc : Int32) (h0 : Heap) (n0 : Nat) (v : Option Value) (h : Heap) (L : List Loc) : Prop := (∃ (x : Addr) (tx : Addr) (kx : ClassId), (v = some (.ref x)) ∧ (Fr n0 L) ∧ (Keep h0 h []) ∧ (h0.size ≤ x) ∧ (Exa Z h x "java/lang/String") ∧ (Fld Z h x "java/lang/String" "value" "[B" (.ref tx)) ∧ (Fld Z h x "java/lang/String" "coder" "B" (.int (0 : Int32))) ∧ (Arv Z h tx kx .byte (1 : Int32) [(.int c0.toInt8.toInt32)] (.int (0 : Int32))))
set_option maxRecDepth 65536 in
set_option maxHeartbeats 40000000 in
theorem rm_str1 (l : Launch) (Z : State) (a0 : Array Value) (hw : ∀ d ∈ tables_1, d.before a0 Z = true) (ws : List Jvm.Cond) (c0 : Int32) (c1 : Int32) (c2 : Int32) (c3 : Int32) (c4 : Int32) (c5 : Int32) (zc : Int32) (h0 : Heap) (n0 : Nat) (O0 : Old Z n0 h0) (la_c0 : ¬ (c0 < (0 : Int32)) ∧ ¬ ((255 : Int32) < c0)) (la_c1 : ¬ (c1 < (0 : Int32)) ∧ ¬ ((255 : Int32) < c1)) (la_c2 : ¬ (c2 < (0 : Int32)) ∧ ¬ ((255 : Int32) < c2)) (la_c3 : ¬ (c3 < (0 : Int32)) ∧ ¬ ((255 : Int32) < c3)) (la_c4 : ¬ (c4 < (0 : Int32)) ∧ ¬ ((255 : Int32) < c4)) (la_c5 : ¬ (c5 < (0 : Int32)) ∧ ¬ ((255 : Int32) < c5)) (S_C : Sta Z Z.heap "java/lang/String" "COMPACT_STRINGS" "Z" (.int zc)) (hzc : ¬ (zc = (0 : Int32))) :
    MetFree l (⟨"com/example/pico_notify/piconotify/XmlBoolPinLaw", "str", "(ICCCCCC)Ljava/lang/String;"⟩ : MethodName) (head1 (Jvm.Cond.code (⟨"com/example/pico_notify/piconotify/XmlBoolPinLaw", "str", "(ICCCCCC)Ljava/lang/String;"⟩ : MethodName) method_3_code 7 (some (.object "java/lang/String")) :: ws) ({ frames := 4, cells := 3, slots := 6, locals := 66 } : Room)) (fun a U => a = #[(.int (1 : Int32)), (.int c0), (.int c1), (.int c2), (.int c3), (.int c4), (.int c5)] ∧ Z.Warmed39 U.vm ∧ U.heap = h0) (fun _ _ _ _ _ => True) (fun _ U o U' => ∃ v L, o = .returned v ∧ Q_rm_str1 Z c0 c1 c2 c3 c4 c5 zc h0 n0 v U'.heap L ∧ FrameEnd U o U' L ({ frames := 4, cells := 3, slots := 6, locals := 66 } : Room).cells ({ frames := 4, cells := 3, slots := 6, locals := 66 } : Room).slots) := by
  refine MetFree.of_bodySF (plainFor_of_name pn_1) hisR ?_
  intro p e s m args below meth c s₁ Bd hml0 hP hK
  obtain ⟨rfl, hZ, hh⟩ := hP
  have hx := Bd.exec
  have hby := Bd.bytes
  have hml : c.maxLocals = 7 := hml0
  have hown : s.vm.findClass "com/example/pico_notify/piconotify/XmlBoolPinLaw" = some m.cls := findClass_of_methodNamed Bd.named
  have hnm := (name_of_methodNamed Bd.named Bd.method).1
  have X0 : Stand p l e ({ frames := 4, cells := 3, slots := 6, locals := 66 } : Room) s m #[(.int (1 : Int32)), (.int c0), (.int c1), (.int c2), (.int c3), (.int c4), (.int c5)] below meth c s₁ [] 0 0 := Stand.of_body Bd
  have e0 : s₁.heap = h0 := by rw [← hh, Bd.state]; rfl
  have N0 := Fr.nil n0
  have hwc : ∀ d ∈ StrChars.Road.wordsChN, d.before a0 Z = true := fun d hd => hw d (own_wordsChN d hd)
  have hwq : ∀ d ∈ StrChars.Road.wordsEq, d.before a0 Z = true := fun d hd => hw d (own_wordsEq d hd)
  have hws : ∀ d ∈ StrChars.Road.words, d.before a0 Z = true := fun d hd => hw d (own_words d hd)
  have K0 : Keep h0 h0 [] := Keep.refl _ _
  have pre0 : ∀ t, Steps p.tables e below (s₁.setTop (mkF m 0 #[.val (.int (1 : Int32)), .val (.int c0), .val (.int c1), .val (.int c2), .val (.int c3), .val (.int c4), .val (.int c5)] [])) t → Steps p.tables e below (s₁.setTop (entryFrame m #[(.int (1 : Int32)), (.int c0), (.int c1), (.int c2), (.int c3), (.int c4), (.int c5)] 7)) t := fun t k => castTop (ef_rm_str1 m (1 : Int32) c0 c1 c2 c3 c4 c5) k
  obtain ⟨T1, h1, X1, e1, E1, A1, D1, -, st1⟩ := newO X0 hx hZ hown (own_w hw 40 rfl) (own_w hw 6 rfl) (own_w hw 5 rfl) e0 (g := (mkF m 20 #[.val (.int (1 : Int32)), .val (.int c0), .val (.int c1), .val (.int c2), .val (.int c3), .val (.int c4), .val (.int c5)] [])) rfl (hb hby d4_20) (by decide) (by decide)
  obtain ⟨b1, g1⟩ : ∃ z, z = h0.size := ⟨_, rfl⟩
  have ge_b1 : n0 ≤ b1 := by rw [g1, ← O0.1]; exact O0.2.1
  have sz_b1 : h0.size ≤ b1 := by rw [g1]; exact K0.1
  rw [← g1] at A1 D1 st1
  have O2 := O0.ext E1
  have K3 : Keep h0 h1 [] := K0.ext E1
  have F4 : Fld Z h1 b1 "java/lang/String" "value" "[B" .null := D1 (Or.inr (own_w hw 8 rfl)) (ty := (.array .byte)) (by decide)
  have F5 : Fld Z h1 b1 "java/lang/String" "coder" "B" (.int (0 : Int32)) := D1 (Or.inr (own_w hw 9 rfl)) (ty := .byte) (by decide)
  obtain ⟨T6, h6, k6, X6, e6, E6, A6, B6, st6⟩ := newPE X1 hx hZ (own_w hw 41 rfl) e1 (g := (mkF m 25 #[.val (.int (1 : Int32)), .val (.int c0), .val (.int c1), .val (.int c2), .val (.int c3), .val (.int c4), .val (.int c5)] [(.int (1 : Int32)), (.ref b1), (.ref b1)])) rfl (hb hby d4_25) rfl (by decide) (cap := 1) (by decide) (by decide) (by decide) (by decide) (ad := "[C") (by first | rfl | decide)
  obtain ⟨b6, g6⟩ : ∃ z, z = h1.size := ⟨_, rfl⟩
  have ge_b6 : n0 ≤ b6 := by rw [g6, ← O2.1]; exact O2.2.1
  have sz_b6 : h0.size ≤ b6 := by rw [g6]; exact K3.1
  have ne7 : b1 ≠ b6 := Nat.ne_of_lt (Nat.lt_of_lt_of_le (Exa.lt A1) (Nat.le_of_eq g6.symm))
  rw [← g6] at A6 B6 st6
  have O8 := O2.ext E6
  have K9 : Keep h0 h6 [] := K3.ext E6
  have F6 : Arv Z h6 b6 k6 .char (1 : Int32) [(.int (0 : Int32))] (.int (0 : Int32)) := (Arv.new A6 (by decide)).pad (pad_rep [] (.int (0 : Int32)) 1)
  obtain ⟨cl10, Ar10, q10, Sz10, Nn10, Hh10, Gg10⟩ := id F6
  have in10 : ¬ ((0 : Int32) < 0 ∨ cl10.slots.size ≤ ((0 : Int32)).toNatClampNeg) := inb_of Sz10 ⟨by decide, by decide⟩
  obtain ⟨T10, h10, X10, e10, W10, st10⟩ := stC X6 hx hZ e6 Ar10 (j := (0 : Int32)) in10 (g := (mkF m 30 #[.val (.int (1 : Int32)), .val (.int c0), .val (.int c1), .val (.int c2), .val (.int c3), .val (.int c4), .val (.int c5)] [(.int c0), (.int (0 : Int32)), (.ref b6), (.ref b6), (.ref b1), (.ref b1)])) rfl rfl (hb hby d4_30)
  rw [show nar .char c0 = c0 from own_nar la_c0] at W10
  have O11 := O8.wr W10 ge_b6
  have K12 : Keep h0 h10 [] := K9.wr W10 (Or.inr sz_b6)
  have N13 := Fr.snoc X10 N0 ge_b6
  have F10 : Arv Z h10 b6 k6 .char (1 : Int32) [(.int c0)] (.int (0 : Int32)) := Arv.set Ar10 q10 Sz10 Nn10 Hh10 Gg10 (by rw [← (own_nar la_c0 : nar .char c0 = c0)]; exact fits_nar_char _) W10 0 rfl (Nat.le_of_ble_eq_true rfl)
  have f15 := (Exa.wr W10 (Exa.ext E6 A1))
  have f16 := (Fld.other W10 (Fld.ext E6 F4) (Or.inl ne7))
  have f17 := (Fld.other W10 (Fld.ext E6 F5) (Or.inl ne7))
  have la18 : ∀ c ∈ ([c0] : List Int32), ¬ c < 0 ∧ ¬ (255 : Int32) < c := by
    intro c hc
    simp only [List.mem_cons, List.not_mem_nil, or_false] at hc
    rcases hc with rfl
    · exact la_c0
  obtain ⟨_, _, ⟨T14, L14, k14, n14⟩, -, X14, ⟨Lc14, hQ14, l14, y14, z14⟩, st14⟩ := X10.specialBack hx (y := (⟨"java/lang/String", "<init>", "([C)V"⟩ : MethodName)) rfl hown (mvT hZ (own_w hw 42 rfl)) (mvT hZ (own_w hw 43 rfl)) (mvT hZ (own_w hw 44 rfl)) (by decide) (StrChars.Road.backV (W := 1) hZ hws (kI := 4) (own_w hw 6 rfl) (cs := [c0]) (bs := [c0.toInt8.toInt32]) (n := 1) ge_b1 (by rw [← O11.1]; exact O11.2.1) f15 f16 f17 F10 (S_C.ext O11.2) hzc rfl rfl (by decide) (by decide) la18 rfl (by decide) (by decide)) (g := (mkF m 31 #[.val (.int (1 : Int32)), .val (.int c0), .val (.int c1), .val (.int c2), .val (.int c3), .val (.int c4), .val (.int c5)] [(.ref b6), (.ref b1), (.ref b1)])) rfl (by rw [hml]; rfl) (Steps.refl _) (a := b1) (argsL := [(.ref b6)]) (rest := [(.ref b1)]) (lenOf pd_2 rfl) rfl (by show 2 * 0 + _ ≤ _; exact Nat.le_of_eq rfl) (hb hby d4_31) (fun _ _ => ⟨rfl, e10, (by decide : 2 + 1 ≤ _), (by decide : 5 + 1 ≤ _)⟩)
  dsimp only [Pt.U, Pt.locs, Pt.cells, Pt.slots] at X14 l14 y14 z14 st14 hQ14
  subst l14 y14 z14
  obtain ⟨rfl, f21, f22, f23, f24, x19, x20, f25, f26, qf26, f27, f28⟩ := hQ14
  have N29 := Fr.app N13 f21
  have ge30 : n0 ≤ x19 := by rw [← O11.1]; exact Nat.le_trans O11.2.1 f26
  have sz30 : h0.size ≤ x19 := Nat.le_trans K12.1 f26
  have ne31 : b1 ≠ x19 := Nat.ne_of_lt (Nat.lt_of_lt_of_le (Exa.lt f15) f26)
  have f32 := (Exa.wr W10 B6)
  have ne33 : b6 ≠ x19 := Nat.ne_of_lt (Nat.lt_of_lt_of_le (Exa.lt f32) f26)
  have O34 := O11.keep f22 (allS ge_b1 all0)
  have K35 : Keep h0 T14.heap [] := K12.trans f22 (allS (Or.inr sz_b1) all0)
  have S36 : ∀ t, Steps p.tables e below (T14.setTop (mkF m 34 #[.val (.int (1 : Int32)), .val (.int c0), .val (.int c1), .val (.int c2), .val (.int c3), .val (.int c4), .val (.int c5)] [(.ref b1)])) t → Steps p.tables e below (s₁.setTop (mkF m 0 #[.val (.int (1 : Int32)), .val (.int c0), .val (.int c1), .val (.int c2), .val (.int c3), .val (.int c4), .val (.int c5)] [])) t := by
    intro t kt
    refine XS.iloadN X0.here hx rfl (hb hby d4_0) rfl ?_
    refine XS.ifYes X0.here hx rfl (pc0 := 1) (pc' := 15) rfl (hb hby d4_1) rfl ((if0 _ _).trans (feq ((by decide) : ¬ ((1 : Int32) = (0 : Int32)))).2) (by decide) (by decide) ?_
    refine XS.iloadN X0.here hx rfl (hb hby d4_15) rfl ?_
    refine XS.iconst X0.here hx rfl (hb hby d4_16) ?_
    refine XS.icmpNo X0.here hx rfl (hb hby d4_17) rfl (teq ((by decide) : (1 : Int32) = (1 : Int32))).2 ?_
    show Steps p.tables e below (s₁.setTop (mkF m 20 #[.val (.int (1 : Int32)), .val (.int c0), .val (.int c1), .val (.int c2), .val (.int c3), .val (.int c4), .val (.int c5)] [])) _
    refine st1 _ ?_
    refine XS.dup X1.here hx rfl (hb hby d4_23) rfl rfl ?_
    refine XS.iconst X1.here hx rfl (hb hby d4_24) ?_
    show Steps p.tables e below (T1.setTop (mkF m 25 #[.val (.int (1 : Int32)), .val (.int c0), .val (.int c1), .val (.int c2), .val (.int c3), .val (.int c4), .val (.int c5)] [(.int (1 : Int32)), (.ref b1), (.ref b1)])) _
    refine st6 _ ?_
    refine XS.dup X6.here hx rfl (hb hby d4_27) rfl rfl ?_
    refine XS.iconst X6.here hx rfl (hb hby d4_28) ?_
    refine XS.iloadN X6.here hx rfl (hb hby d4_29) rfl ?_
    show Steps p.tables e below (T6.setTop (mkF m 30 #[.val (.int (1 : Int32)), .val (.int c0), .val (.int c1), .val (.int c2), .val (.int c3), .val (.int c4), .val (.int c5)] [(.int c0), (.int (0 : Int32)), (.ref b6), (.ref b6), (.ref b1), (.ref b1)])) _
    refine st10 _ ?_
    show Steps p.tables e below (T10.setTop (mkF m 31 #[.val (.int (1 : Int32)), .val (.int c0), .val (.int c1), .val (.int c2), .val (.int c3), .val (.int c4), .val (.int c5)] [(.ref b6), (.ref b1), (.ref b1)])) _
    refine st14.trans ?_
    exact kt
  obtain ⟨fs, hr, hrun, hended, hW, hsame⟩ := X14.leave (v := some (.ref b1)) (fun h => by rw [Bd.returns] at h; cases h)
  refine ⟨_, _, pre0 _ (S36 _ ?_), hrun, hended, _, _, rfl, ?_, ⟨_, rfl⟩, hW, hsame.mono (by decide) (by decide)⟩
  · exact retOut X14 hx Bd.returns rfl (Or.inr (Or.inr (Or.inr (Or.inr ⟨rfl, rfl, rfl⟩)))) (hb hby d4_34) hr
  · show Q_rm_str1 Z c0 c1 c2 c3 c4 c5 zc h0 n0 _ T14.heap _
    exact ⟨b1, x19, x20, rfl, N29, K35, sz_b1, f23, f27, f24, f28⟩
theorem d4_35 : decode method_3_code 35 = .ok (.iload_n 0, 1) := by decide +kernel
theorem d4_36 : decode method_3_code 36 = .ok (.iconst 2, 1) := by decide +kernel
theorem d4_37 : decode method_3_code 37 = .ok (.if_icmp .ne 22, 3) := by decide +kernel
theorem d4_40 : decode method_3_code 40 = .ok (.new 10, 3) := by decide +kernel
theorem d4_43 : decode method_3_code 43 = .ok (.dup, 1) := by decide +kernel
theorem d4_44 : decode method_3_code 44 = .ok (.iconst 2, 1) := by decide +kernel
theorem d4_45 : decode method_3_code 45 = .ok (.newarray .char, 2) := by decide +kernel
theorem d4_47 : decode method_3_code 47 = .ok (.dup, 1) := by decide +kernel
theorem d4_48 : decode method_3_code 48 = .ok (.iconst 0, 1) := by decide +kernel
theorem d4_49 : decode method_3_code 49 = .ok (.iload_n 1, 1) := by decide +kernel
theorem d4_50 : decode method_3_code 50 = .ok (.castore, 1) := by decide +kernel
theorem d4_51 : decode method_3_code 51 = .ok (.dup, 1) := by decide +kernel
theorem d4_52 : decode method_3_code 52 = .ok (.iconst 1, 1) := by decide +kernel
theorem d4_53 : decode method_3_code 53 = .ok (.iload_n 2, 1) := by decide +kernel
theorem d4_54 : decode method_3_code 54 = .ok (.castore, 1) := by decide +kernel
theorem d4_55 : decode method_3_code 55 = .ok (.invokespecial 15, 3) := by decide +kernel
theorem d4_58 : decode method_3_code 58 = .ok (.areturn, 1) := by decide +kernel
theorem ef_rm_str2 (m : MethodId) (x0 : Int32) (x1 : Int32) (x2 : Int32) (x3 : Int32) (x4 : Int32) (x5 : Int32) (x6 : Int32) : entryFrame m #[(.int x0), (.int x1), (.int x2), (.int x3), (.int x4), (.int x5), (.int x6)] 7 = mkF m 0 #[.val (.int x0), .val (.int x1), .val (.int x2), .val (.int x3), .val (.int x4), .val (.int x5), .val (.int x6)] [] := by first | (simp [entryFrame, mkF, argsToLocals, Value.category]; done) | rfl
def Q_rm_str2 (Z : State) (c0 : Int32) (c1 : Int32) (c2 : Int32) (c3 : Int32) (c4 : Int32) (c5 : Int32) (zc : Int32) (h0 : Heap) (n0 : Nat) (v : Option Value) (h : Heap) (L : List Loc) : Prop := (∃ (x : Addr) (tx : Addr) (kx : ClassId), (v = some (.ref x)) ∧ (Fr n0 L) ∧ (Keep h0 h []) ∧ (h0.size ≤ x) ∧ (Exa Z h x "java/lang/String") ∧ (Fld Z h x "java/lang/String" "value" "[B" (.ref tx)) ∧ (Fld Z h x "java/lang/String" "coder" "B" (.int (0 : Int32))) ∧ (Arv Z h tx kx .byte (2 : Int32) [(.int c0.toInt8.toInt32), (.int c1.toInt8.toInt32)] (.int (0 : Int32))))
set_option maxRecDepth 65536 in
set_option maxHeartbeats 40000000 in
theorem rm_str2 (l : Launch) (Z : State) (a0 : Array Value) (hw : ∀ d ∈ tables_1, d.before a0 Z = true) (ws : List Jvm.Cond) (c0 : Int32) (c1 : Int32) (c2 : Int32) (c3 : Int32) (c4 : Int32) (c5 : Int32) (zc : Int32) (h0 : Heap) (n0 : Nat) (O0 : Old Z n0 h0) (la_c0 : ¬ (c0 < (0 : Int32)) ∧ ¬ ((255 : Int32) < c0)) (la_c1 : ¬ (c1 < (0 : Int32)) ∧ ¬ ((255 : Int32) < c1)) (la_c2 : ¬ (c2 < (0 : Int32)) ∧ ¬ ((255 : Int32) < c2)) (la_c3 : ¬ (c3 < (0 : Int32)) ∧ ¬ ((255 : Int32) < c3)) (la_c4 : ¬ (c4 < (0 : Int32)) ∧ ¬ ((255 : Int32) < c4)) (la_c5 : ¬ (c5 < (0 : Int32)) ∧ ¬ ((255 : Int32) < c5)) (S_C : Sta Z Z.heap "java/lang/String" "COMPACT_STRINGS" "Z" (.int zc)) (hzc : ¬ (zc = (0 : Int32))) :
    MetFree l (⟨"com/example/pico_notify/piconotify/XmlBoolPinLaw", "str", "(ICCCCCC)Ljava/lang/String;"⟩ : MethodName) (head1 (Jvm.Cond.code (⟨"com/example/pico_notify/piconotify/XmlBoolPinLaw", "str", "(ICCCCCC)Ljava/lang/String;"⟩ : MethodName) method_3_code 7 (some (.object "java/lang/String")) :: ws) ({ frames := 4, cells := 3, slots := 8, locals := 66 } : Room)) (fun a U => a = #[(.int (2 : Int32)), (.int c0), (.int c1), (.int c2), (.int c3), (.int c4), (.int c5)] ∧ Z.Warmed39 U.vm ∧ U.heap = h0) (fun _ _ _ _ _ => True) (fun _ U o U' => ∃ v L, o = .returned v ∧ Q_rm_str2 Z c0 c1 c2 c3 c4 c5 zc h0 n0 v U'.heap L ∧ FrameEnd U o U' L ({ frames := 4, cells := 3, slots := 8, locals := 66 } : Room).cells ({ frames := 4, cells := 3, slots := 8, locals := 66 } : Room).slots) := by
  refine MetFree.of_bodySF (plainFor_of_name pn_1) hisR ?_
  intro p e s m args below meth c s₁ Bd hml0 hP hK
  obtain ⟨rfl, hZ, hh⟩ := hP
  have hx := Bd.exec
  have hby := Bd.bytes
  have hml : c.maxLocals = 7 := hml0
  have hown : s.vm.findClass "com/example/pico_notify/piconotify/XmlBoolPinLaw" = some m.cls := findClass_of_methodNamed Bd.named
  have hnm := (name_of_methodNamed Bd.named Bd.method).1
  have X0 : Stand p l e ({ frames := 4, cells := 3, slots := 8, locals := 66 } : Room) s m #[(.int (2 : Int32)), (.int c0), (.int c1), (.int c2), (.int c3), (.int c4), (.int c5)] below meth c s₁ [] 0 0 := Stand.of_body Bd
  have e0 : s₁.heap = h0 := by rw [← hh, Bd.state]; rfl
  have N0 := Fr.nil n0
  have hwc : ∀ d ∈ StrChars.Road.wordsChN, d.before a0 Z = true := fun d hd => hw d (own_wordsChN d hd)
  have hwq : ∀ d ∈ StrChars.Road.wordsEq, d.before a0 Z = true := fun d hd => hw d (own_wordsEq d hd)
  have hws : ∀ d ∈ StrChars.Road.words, d.before a0 Z = true := fun d hd => hw d (own_words d hd)
  have K0 : Keep h0 h0 [] := Keep.refl _ _
  have pre0 : ∀ t, Steps p.tables e below (s₁.setTop (mkF m 0 #[.val (.int (2 : Int32)), .val (.int c0), .val (.int c1), .val (.int c2), .val (.int c3), .val (.int c4), .val (.int c5)] [])) t → Steps p.tables e below (s₁.setTop (entryFrame m #[(.int (2 : Int32)), (.int c0), (.int c1), (.int c2), (.int c3), (.int c4), (.int c5)] 7)) t := fun t k => castTop (ef_rm_str2 m (2 : Int32) c0 c1 c2 c3 c4 c5) k
  obtain ⟨T1, h1, X1, e1, E1, A1, D1, -, st1⟩ := newO X0 hx hZ hown (own_w hw 40 rfl) (own_w hw 6 rfl) (own_w hw 5 rfl) e0 (g := (mkF m 40 #[.val (.int (2 : Int32)), .val (.int c0), .val (.int c1), .val (.int c2), .val (.int c3), .val (.int c4), .val (.int c5)] [])) rfl (hb hby d4_40) (by decide) (by decide)
  obtain ⟨b1, g1⟩ : ∃ z, z = h0.size := ⟨_, rfl⟩
  have ge_b1 : n0 ≤ b1 := by rw [g1, ← O0.1]; exact O0.2.1
  have sz_b1 : h0.size ≤ b1 := by rw [g1]; exact K0.1
  rw [← g1] at A1 D1 st1
  have O2 := O0.ext E1
  have K3 : Keep h0 h1 [] := K0.ext E1
  have F4 : Fld Z h1 b1 "java/lang/String" "value" "[B" .null := D1 (Or.inr (own_w hw 8 rfl)) (ty := (.array .byte)) (by decide)
  have F5 : Fld Z h1 b1 "java/lang/String" "coder" "B" (.int (0 : Int32)) := D1 (Or.inr (own_w hw 9 rfl)) (ty := .byte) (by decide)
  obtain ⟨T6, h6, k6, X6, e6, E6, A6, B6, st6⟩ := newPE X1 hx hZ (own_w hw 41 rfl) e1 (g := (mkF m 45 #[.val (.int (2 : Int32)), .val (.int c0), .val (.int c1), .val (.int c2), .val (.int c3), .val (.int c4), .val (.int c5)] [(.int (2 : Int32)), (.ref b1), (.ref b1)])) rfl (hb hby d4_45) rfl (by decide) (cap := 2) (by decide) (by decide) (by decide) (by decide) (ad := "[C") (by first | rfl | decide)
  obtain ⟨b6, g6⟩ : ∃ z, z = h1.size := ⟨_, rfl⟩
  have ge_b6 : n0 ≤ b6 := by rw [g6, ← O2.1]; exact O2.2.1
  have sz_b6 : h0.size ≤ b6 := by rw [g6]; exact K3.1
  have ne7 : b1 ≠ b6 := Nat.ne_of_lt (Nat.lt_of_lt_of_le (Exa.lt A1) (Nat.le_of_eq g6.symm))
  rw [← g6] at A6 B6 st6
  have O8 := O2.ext E6
  have K9 : Keep h0 h6 [] := K3.ext E6
  have F6 : Arv Z h6 b6 k6 .char (2 : Int32) [(.int (0 : Int32)), (.int (0 : Int32))] (.int (0 : Int32)) := (Arv.new A6 (by decide)).pad (pad_rep [] (.int (0 : Int32)) 2)
  obtain ⟨cl10, Ar10, q10, Sz10, Nn10, Hh10, Gg10⟩ := id F6
  have in10 : ¬ ((0 : Int32) < 0 ∨ cl10.slots.size ≤ ((0 : Int32)).toNatClampNeg) := inb_of Sz10 ⟨by decide, by decide⟩
  obtain ⟨T10, h10, X10, e10, W10, st10⟩ := stC X6 hx hZ e6 Ar10 (j := (0 : Int32)) in10 (g := (mkF m 50 #[.val (.int (2 : Int32)), .val (.int c0), .val (.int c1), .val (.int c2), .val (.int c3), .val (.int c4), .val (.int c5)] [(.int c0), (.int (0 : Int32)), (.ref b6), (.ref b6), (.ref b1), (.ref b1)])) rfl rfl (hb hby d4_50)
  rw [show nar .char c0 = c0 from own_nar la_c0] at W10
  have O11 := O8.wr W10 ge_b6
  have K12 : Keep h0 h10 [] := K9.wr W10 (Or.inr sz_b6)
  have N13 := Fr.snoc X10 N0 ge_b6
  have F10 : Arv Z h10 b6 k6 .char (2 : Int32) [(.int c0), (.int (0 : Int32))] (.int (0 : Int32)) := Arv.set Ar10 q10 Sz10 Nn10 Hh10 Gg10 (by rw [← (own_nar la_c0 : nar .char c0 = c0)]; exact fits_nar_char _) W10 0 rfl (Nat.le_of_ble_eq_true rfl)
  obtain ⟨cl14, Ar14, q14, Sz14, Nn14, Hh14, Gg14⟩ := id F10
  have in14 : ¬ ((1 : Int32) < 0 ∨ cl14.slots.size ≤ ((1 : Int32)).toNatClampNeg) := inb_of Sz14 ⟨by decide, by decide⟩
  obtain ⟨T14, h14, X14, e14, W14, st14⟩ := stC X10 hx hZ e10 Ar14 (j := (1 : Int32)) in14 (g := (mkF m 54 #[.val (.int (2 : Int32)), .val (.int c0), .val (.int c1), .val (.int c2), .val (.int c3), .val (.int c4), .val (.int c5)] [(.int c1), (.int (1 : Int32)), (.ref b6), (.ref b6), (.ref b1), (.ref b1)])) rfl rfl (hb hby d4_54)
  rw [show nar .char c1 = c1 from own_nar la_c1] at W14
  have O15 := O11.wr W14 ge_b6
  have K16 : Keep h0 h14 [] := K12.wr W14 (Or.inr sz_b6)
  have N17 := Fr.snoc X14 N13 ge_b6
  have F14 : Arv Z h14 b6 k6 .char (2 : Int32) [(.int c0), (.int c1)] (.int (0 : Int32)) := Arv.set Ar14 q14 Sz14 Nn14 Hh14 Gg14 (by rw [← (own_nar la_c1 : nar .char c1 = c1)]; exact fits_nar_char _) W14 1 rfl (Nat.le_of_ble_eq_true rfl)
  have f19 := (Exa.wr W14 (Exa.wr W10 (Exa.ext E6 A1)))
  have f20 := (Fld.other W14 (Fld.other W10 (Fld.ext E6 F4) (Or.inl ne7)) (Or.inl ne7))
  have f21 := (Fld.other W14 (Fld.other W10 (Fld.ext E6 F5) (Or.inl ne7)) (Or.inl ne7))
  have la22 : ∀ c ∈ ([c0, c1] : List Int32), ¬ c < 0 ∧ ¬ (255 : Int32) < c := by
    intro c hc
    simp only [List.mem_cons, List.not_mem_nil, or_false] at hc
    rcases hc with rfl | rfl
    · exact la_c0
    · exact la_c1
  obtain ⟨_, _, ⟨T18, L18, k18, n18⟩, -, X18, ⟨Lc18, hQ18, l18, y18, z18⟩, st18⟩ := X14.specialBack hx (y := (⟨"java/lang/String", "<init>", "([C)V"⟩ : MethodName)) rfl hown (mvT hZ (own_w hw 42 rfl)) (mvT hZ (own_w hw 43 rfl)) (mvT hZ (own_w hw 44 rfl)) (by decide) (StrChars.Road.backV (W := 1) hZ hws (kI := 4) (own_w hw 6 rfl) (cs := [c0, c1]) (bs := [c0.toInt8.toInt32, c1.toInt8.toInt32]) (n := 2) ge_b1 (by rw [← O15.1]; exact O15.2.1) f19 f20 f21 F14 (S_C.ext O15.2) hzc rfl rfl (by decide) (by decide) la22 rfl (by decide) (by decide)) (g := (mkF m 55 #[.val (.int (2 : Int32)), .val (.int c0), .val (.int c1), .val (.int c2), .val (.int c3), .val (.int c4), .val (.int c5)] [(.ref b6), (.ref b1), (.ref b1)])) rfl (by rw [hml]; rfl) (Steps.refl _) (a := b1) (argsL := [(.ref b6)]) (rest := [(.ref b1)]) (lenOf pd_2 rfl) rfl (by show 2 * 0 + _ ≤ _; exact Nat.le_of_eq rfl) (hb hby d4_55) (fun _ _ => ⟨rfl, e14, (by decide : 2 + 1 ≤ _), (by decide : 6 + 2 ≤ _)⟩)
  dsimp only [Pt.U, Pt.locs, Pt.cells, Pt.slots] at X18 l18 y18 z18 st18 hQ18
  subst l18 y18 z18
  obtain ⟨rfl, f25, f26, f27, f28, x23, x24, f29, f30, qf30, f31, f32⟩ := hQ18
  have N33 := Fr.app N17 f25
  have ge34 : n0 ≤ x23 := by rw [← O15.1]; exact Nat.le_trans O15.2.1 f30
  have sz34 : h0.size ≤ x23 := Nat.le_trans K16.1 f30
  have ne35 : b1 ≠ x23 := Nat.ne_of_lt (Nat.lt_of_lt_of_le (Exa.lt f19) f30)
  have f36 := (Exa.wr W14 (Exa.wr W10 B6))
  have ne37 : b6 ≠ x23 := Nat.ne_of_lt (Nat.lt_of_lt_of_le (Exa.lt f36) f30)
  have O38 := O15.keep f26 (allS ge_b1 all0)
  have K39 : Keep h0 T18.heap [] := K16.trans f26 (allS (Or.inr sz_b1) all0)
  have S40 : ∀ t, Steps p.tables e below (T18.setTop (mkF m 58 #[.val (.int (2 : Int32)), .val (.int c0), .val (.int c1), .val (.int c2), .val (.int c3), .val (.int c4), .val (.int c5)] [(.ref b1)])) t → Steps p.tables e below (s₁.setTop (mkF m 0 #[.val (.int (2 : Int32)), .val (.int c0), .val (.int c1), .val (.int c2), .val (.int c3), .val (.int c4), .val (.int c5)] [])) t := by
    intro t kt
    refine XS.iloadN X0.here hx rfl (hb hby d4_0) rfl ?_
    refine XS.ifYes X0.here hx rfl (pc0 := 1) (pc' := 15) rfl (hb hby d4_1) rfl ((if0 _ _).trans (feq ((by decide) : ¬ ((2 : Int32) = (0 : Int32)))).2) (by decide) (by decide) ?_
    refine XS.iloadN X0.here hx rfl (hb hby d4_15) rfl ?_
    refine XS.iconst X0.here hx rfl (hb hby d4_16) ?_
    refine XS.icmpYes X0.here hx rfl (pc0 := 17) (pc' := 35) rfl (hb hby d4_17) rfl (feq ((by decide) : ¬ ((2 : Int32) = (1 : Int32)))).2 (by decide) (by decide) ?_
    refine XS.iloadN X0.here hx rfl (hb hby d4_35) rfl ?_
    show Steps p.tables e below (s₁.setTop (mkF m 36 #[.val (.int (2 : Int32)), .val (.int c0), .val (.int c1), .val (.int c2), .val (.int c3), .val (.int c4), .val (.int c5)] [(.int (2 : Int32))])) _
    refine XS.iconst X0.here hx rfl (hb hby d4_36) ?_
    refine XS.icmpNo X0.here hx rfl (hb hby d4_37) rfl (teq ((by decide) : (2 : Int32) = (2 : Int32))).2 ?_
    show Steps p.tables e below (s₁.setTop (mkF m 40 #[.val (.int (2 : Int32)), .val (.int c0), .val (.int c1), .val (.int c2), .val (.int c3), .val (.int c4), .val (.int c5)] [])) _
    refine st1 _ ?_
    refine XS.dup X1.here hx rfl (hb hby d4_43) rfl rfl ?_
    refine XS.iconst X1.here hx rfl (hb hby d4_44) ?_
    show Steps p.tables e below (T1.setTop (mkF m 45 #[.val (.int (2 : Int32)), .val (.int c0), .val (.int c1), .val (.int c2), .val (.int c3), .val (.int c4), .val (.int c5)] [(.int (2 : Int32)), (.ref b1), (.ref b1)])) _
    refine st6 _ ?_
    refine XS.dup X6.here hx rfl (hb hby d4_47) rfl rfl ?_
    refine XS.iconst X6.here hx rfl (hb hby d4_48) ?_
    refine XS.iloadN X6.here hx rfl (hb hby d4_49) rfl ?_
    show Steps p.tables e below (T6.setTop (mkF m 50 #[.val (.int (2 : Int32)), .val (.int c0), .val (.int c1), .val (.int c2), .val (.int c3), .val (.int c4), .val (.int c5)] [(.int c0), (.int (0 : Int32)), (.ref b6), (.ref b6), (.ref b1), (.ref b1)])) _
    refine st10 _ ?_
    refine XS.dup X10.here hx rfl (hb hby d4_51) rfl rfl ?_
    refine XS.iconst X10.here hx rfl (hb hby d4_52) ?_
    refine XS.iloadN X10.here hx rfl (hb hby d4_53) rfl ?_
    show Steps p.tables e below (T10.setTop (mkF m 54 #[.val (.int (2 : Int32)), .val (.int c0), .val (.int c1), .val (.int c2), .val (.int c3), .val (.int c4), .val (.int c5)] [(.int c1), (.int (1 : Int32)), (.ref b6), (.ref b6), (.ref b1), (.ref b1)])) _
    refine st14 _ ?_
    show Steps p.tables e below (T14.setTop (mkF m 55 #[.val (.int (2 : Int32)), .val (.int c0), .val (.int c1), .val (.int c2), .val (.int c3), .val (.int c4), .val (.int c5)] [(.ref b6), (.ref b1), (.ref b1)])) _
    refine st18.trans ?_
    exact kt
  obtain ⟨fs, hr, hrun, hended, hW, hsame⟩ := X18.leave (v := some (.ref b1)) (fun h => by rw [Bd.returns] at h; cases h)
  refine ⟨_, _, pre0 _ (S40 _ ?_), hrun, hended, _, _, rfl, ?_, ⟨_, rfl⟩, hW, hsame.mono (by decide) (by decide)⟩
  · exact retOut X18 hx Bd.returns rfl (Or.inr (Or.inr (Or.inr (Or.inr ⟨rfl, rfl, rfl⟩)))) (hb hby d4_58) hr
  · show Q_rm_str2 Z c0 c1 c2 c3 c4 c5 zc h0 n0 _ T18.heap _
    exact ⟨b1, x23, x24, rfl, N33, K39, sz_b1, f27, f31, f28, f32⟩
theorem d4_59 : decode method_3_code 59 = .ok (.iload_n 0, 1) := by decide +kernel
theorem d4_60 : decode method_3_code 60 = .ok (.iconst 3, 1) := by decide +kernel
theorem d4_61 : decode method_3_code 61 = .ok (.if_icmp .ne 26, 3) := by decide +kernel
theorem d4_64 : decode method_3_code 64 = .ok (.new 10, 3) := by decide +kernel
theorem d4_67 : decode method_3_code 67 = .ok (.dup, 1) := by decide +kernel
theorem d4_68 : decode method_3_code 68 = .ok (.iconst 3, 1) := by decide +kernel
theorem d4_69 : decode method_3_code 69 = .ok (.newarray .char, 2) := by decide +kernel
theorem d4_71 : decode method_3_code 71 = .ok (.dup, 1) := by decide +kernel
theorem d4_72 : decode method_3_code 72 = .ok (.iconst 0, 1) := by decide +kernel
theorem d4_73 : decode method_3_code 73 = .ok (.iload_n 1, 1) := by decide +kernel
theorem d4_74 : decode method_3_code 74 = .ok (.castore, 1) := by decide +kernel
theorem d4_75 : decode method_3_code 75 = .ok (.dup, 1) := by decide +kernel
theorem d4_76 : decode method_3_code 76 = .ok (.iconst 1, 1) := by decide +kernel
theorem d4_77 : decode method_3_code 77 = .ok (.iload_n 2, 1) := by decide +kernel
theorem d4_78 : decode method_3_code 78 = .ok (.castore, 1) := by decide +kernel
theorem d4_79 : decode method_3_code 79 = .ok (.dup, 1) := by decide +kernel
theorem d4_80 : decode method_3_code 80 = .ok (.iconst 2, 1) := by decide +kernel
theorem d4_81 : decode method_3_code 81 = .ok (.iload_n 3, 1) := by decide +kernel
theorem d4_82 : decode method_3_code 82 = .ok (.castore, 1) := by decide +kernel
theorem d4_83 : decode method_3_code 83 = .ok (.invokespecial 15, 3) := by decide +kernel
theorem d4_86 : decode method_3_code 86 = .ok (.areturn, 1) := by decide +kernel
theorem ef_rm_str3 (m : MethodId) (x0 : Int32) (x1 : Int32) (x2 : Int32) (x3 : Int32) (x4 : Int32) (x5 : Int32) (x6 : Int32) : entryFrame m #[(.int x0), (.int x1), (.int x2), (.int x3), (.int x4), (.int x5), (.int x6)] 7 = mkF m 0 #[.val (.int x0), .val (.int x1), .val (.int x2), .val (.int x3), .val (.int x4), .val (.int x5), .val (.int x6)] [] := by first | (simp [entryFrame, mkF, argsToLocals, Value.category]; done) | rfl
def Q_rm_str3 (Z : State) (c0 : Int32) (c1 : Int32) (c2 : Int32) (c3 : Int32) (c4 : Int32) (c5 : Int32) (zc : Int32) (h0 : Heap) (n0 : Nat) (v : Option Value) (h : Heap) (L : List Loc) : Prop := (∃ (x : Addr) (tx : Addr) (kx : ClassId), (v = some (.ref x)) ∧ (Fr n0 L) ∧ (Keep h0 h []) ∧ (h0.size ≤ x) ∧ (Exa Z h x "java/lang/String") ∧ (Fld Z h x "java/lang/String" "value" "[B" (.ref tx)) ∧ (Fld Z h x "java/lang/String" "coder" "B" (.int (0 : Int32))) ∧ (Arv Z h tx kx .byte (3 : Int32) [(.int c0.toInt8.toInt32), (.int c1.toInt8.toInt32), (.int c2.toInt8.toInt32)] (.int (0 : Int32))))
set_option maxRecDepth 65536 in
set_option maxHeartbeats 40000000 in
theorem rm_str3 (l : Launch) (Z : State) (a0 : Array Value) (hw : ∀ d ∈ tables_1, d.before a0 Z = true) (ws : List Jvm.Cond) (c0 : Int32) (c1 : Int32) (c2 : Int32) (c3 : Int32) (c4 : Int32) (c5 : Int32) (zc : Int32) (h0 : Heap) (n0 : Nat) (O0 : Old Z n0 h0) (la_c0 : ¬ (c0 < (0 : Int32)) ∧ ¬ ((255 : Int32) < c0)) (la_c1 : ¬ (c1 < (0 : Int32)) ∧ ¬ ((255 : Int32) < c1)) (la_c2 : ¬ (c2 < (0 : Int32)) ∧ ¬ ((255 : Int32) < c2)) (la_c3 : ¬ (c3 < (0 : Int32)) ∧ ¬ ((255 : Int32) < c3)) (la_c4 : ¬ (c4 < (0 : Int32)) ∧ ¬ ((255 : Int32) < c4)) (la_c5 : ¬ (c5 < (0 : Int32)) ∧ ¬ ((255 : Int32) < c5)) (S_C : Sta Z Z.heap "java/lang/String" "COMPACT_STRINGS" "Z" (.int zc)) (hzc : ¬ (zc = (0 : Int32))) :
    MetFree l (⟨"com/example/pico_notify/piconotify/XmlBoolPinLaw", "str", "(ICCCCCC)Ljava/lang/String;"⟩ : MethodName) (head1 (Jvm.Cond.code (⟨"com/example/pico_notify/piconotify/XmlBoolPinLaw", "str", "(ICCCCCC)Ljava/lang/String;"⟩ : MethodName) method_3_code 7 (some (.object "java/lang/String")) :: ws) ({ frames := 4, cells := 3, slots := 10, locals := 66 } : Room)) (fun a U => a = #[(.int (3 : Int32)), (.int c0), (.int c1), (.int c2), (.int c3), (.int c4), (.int c5)] ∧ Z.Warmed39 U.vm ∧ U.heap = h0) (fun _ _ _ _ _ => True) (fun _ U o U' => ∃ v L, o = .returned v ∧ Q_rm_str3 Z c0 c1 c2 c3 c4 c5 zc h0 n0 v U'.heap L ∧ FrameEnd U o U' L ({ frames := 4, cells := 3, slots := 10, locals := 66 } : Room).cells ({ frames := 4, cells := 3, slots := 10, locals := 66 } : Room).slots) := by
  refine MetFree.of_bodySF (plainFor_of_name pn_1) hisR ?_
  intro p e s m args below meth c s₁ Bd hml0 hP hK
  obtain ⟨rfl, hZ, hh⟩ := hP
  have hx := Bd.exec
  have hby := Bd.bytes
  have hml : c.maxLocals = 7 := hml0
  have hown : s.vm.findClass "com/example/pico_notify/piconotify/XmlBoolPinLaw" = some m.cls := findClass_of_methodNamed Bd.named
  have hnm := (name_of_methodNamed Bd.named Bd.method).1
  have X0 : Stand p l e ({ frames := 4, cells := 3, slots := 10, locals := 66 } : Room) s m #[(.int (3 : Int32)), (.int c0), (.int c1), (.int c2), (.int c3), (.int c4), (.int c5)] below meth c s₁ [] 0 0 := Stand.of_body Bd
  have e0 : s₁.heap = h0 := by rw [← hh, Bd.state]; rfl
  have N0 := Fr.nil n0
  have hwc : ∀ d ∈ StrChars.Road.wordsChN, d.before a0 Z = true := fun d hd => hw d (own_wordsChN d hd)
  have hwq : ∀ d ∈ StrChars.Road.wordsEq, d.before a0 Z = true := fun d hd => hw d (own_wordsEq d hd)
  have hws : ∀ d ∈ StrChars.Road.words, d.before a0 Z = true := fun d hd => hw d (own_words d hd)
  have K0 : Keep h0 h0 [] := Keep.refl _ _
  have pre0 : ∀ t, Steps p.tables e below (s₁.setTop (mkF m 0 #[.val (.int (3 : Int32)), .val (.int c0), .val (.int c1), .val (.int c2), .val (.int c3), .val (.int c4), .val (.int c5)] [])) t → Steps p.tables e below (s₁.setTop (entryFrame m #[(.int (3 : Int32)), (.int c0), (.int c1), (.int c2), (.int c3), (.int c4), (.int c5)] 7)) t := fun t k => castTop (ef_rm_str3 m (3 : Int32) c0 c1 c2 c3 c4 c5) k
  obtain ⟨T1, h1, X1, e1, E1, A1, D1, -, st1⟩ := newO X0 hx hZ hown (own_w hw 40 rfl) (own_w hw 6 rfl) (own_w hw 5 rfl) e0 (g := (mkF m 64 #[.val (.int (3 : Int32)), .val (.int c0), .val (.int c1), .val (.int c2), .val (.int c3), .val (.int c4), .val (.int c5)] [])) rfl (hb hby d4_64) (by decide) (by decide)
  obtain ⟨b1, g1⟩ : ∃ z, z = h0.size := ⟨_, rfl⟩
  have ge_b1 : n0 ≤ b1 := by rw [g1, ← O0.1]; exact O0.2.1
  have sz_b1 : h0.size ≤ b1 := by rw [g1]; exact K0.1
  rw [← g1] at A1 D1 st1
  have O2 := O0.ext E1
  have K3 : Keep h0 h1 [] := K0.ext E1
  have F4 : Fld Z h1 b1 "java/lang/String" "value" "[B" .null := D1 (Or.inr (own_w hw 8 rfl)) (ty := (.array .byte)) (by decide)
  have F5 : Fld Z h1 b1 "java/lang/String" "coder" "B" (.int (0 : Int32)) := D1 (Or.inr (own_w hw 9 rfl)) (ty := .byte) (by decide)
  obtain ⟨T6, h6, k6, X6, e6, E6, A6, B6, st6⟩ := newPE X1 hx hZ (own_w hw 41 rfl) e1 (g := (mkF m 69 #[.val (.int (3 : Int32)), .val (.int c0), .val (.int c1), .val (.int c2), .val (.int c3), .val (.int c4), .val (.int c5)] [(.int (3 : Int32)), (.ref b1), (.ref b1)])) rfl (hb hby d4_69) rfl (by decide) (cap := 3) (by decide) (by decide) (by decide) (by decide) (ad := "[C") (by first | rfl | decide)
  obtain ⟨b6, g6⟩ : ∃ z, z = h1.size := ⟨_, rfl⟩
  have ge_b6 : n0 ≤ b6 := by rw [g6, ← O2.1]; exact O2.2.1
  have sz_b6 : h0.size ≤ b6 := by rw [g6]; exact K3.1
  have ne7 : b1 ≠ b6 := Nat.ne_of_lt (Nat.lt_of_lt_of_le (Exa.lt A1) (Nat.le_of_eq g6.symm))
  rw [← g6] at A6 B6 st6
  have O8 := O2.ext E6
  have K9 : Keep h0 h6 [] := K3.ext E6
  have F6 : Arv Z h6 b6 k6 .char (3 : Int32) [(.int (0 : Int32)), (.int (0 : Int32)), (.int (0 : Int32))] (.int (0 : Int32)) := (Arv.new A6 (by decide)).pad (pad_rep [] (.int (0 : Int32)) 3)
  obtain ⟨cl10, Ar10, q10, Sz10, Nn10, Hh10, Gg10⟩ := id F6
  have in10 : ¬ ((0 : Int32) < 0 ∨ cl10.slots.size ≤ ((0 : Int32)).toNatClampNeg) := inb_of Sz10 ⟨by decide, by decide⟩
  obtain ⟨T10, h10, X10, e10, W10, st10⟩ := stC X6 hx hZ e6 Ar10 (j := (0 : Int32)) in10 (g := (mkF m 74 #[.val (.int (3 : Int32)), .val (.int c0), .val (.int c1), .val (.int c2), .val (.int c3), .val (.int c4), .val (.int c5)] [(.int c0), (.int (0 : Int32)), (.ref b6), (.ref b6), (.ref b1), (.ref b1)])) rfl rfl (hb hby d4_74)
  rw [show nar .char c0 = c0 from own_nar la_c0] at W10
  have O11 := O8.wr W10 ge_b6
  have K12 : Keep h0 h10 [] := K9.wr W10 (Or.inr sz_b6)
  have N13 := Fr.snoc X10 N0 ge_b6
  have F10 : Arv Z h10 b6 k6 .char (3 : Int32) [(.int c0), (.int (0 : Int32)), (.int (0 : Int32))] (.int (0 : Int32)) := Arv.set Ar10 q10 Sz10 Nn10 Hh10 Gg10 (by rw [← (own_nar la_c0 : nar .char c0 = c0)]; exact fits_nar_char _) W10 0 rfl (Nat.le_of_ble_eq_true rfl)
  obtain ⟨cl14, Ar14, q14, Sz14, Nn14, Hh14, Gg14⟩ := id F10
  have in14 : ¬ ((1 : Int32) < 0 ∨ cl14.slots.size ≤ ((1 : Int32)).toNatClampNeg) := inb_of Sz14 ⟨by decide, by decide⟩
  obtain ⟨T14, h14, X14, e14, W14, st14⟩ := stC X10 hx hZ e10 Ar14 (j := (1 : Int32)) in14 (g := (mkF m 78 #[.val (.int (3 : Int32)), .val (.int c0), .val (.int c1), .val (.int c2), .val (.int c3), .val (.int c4), .val (.int c5)] [(.int c1), (.int (1 : Int32)), (.ref b6), (.ref b6), (.ref b1), (.ref b1)])) rfl rfl (hb hby d4_78)
  rw [show nar .char c1 = c1 from own_nar la_c1] at W14
  have O15 := O11.wr W14 ge_b6
  have K16 : Keep h0 h14 [] := K12.wr W14 (Or.inr sz_b6)
  have N17 := Fr.snoc X14 N13 ge_b6
  have F14 : Arv Z h14 b6 k6 .char (3 : Int32) [(.int c0), (.int c1), (.int (0 : Int32))] (.int (0 : Int32)) := Arv.set Ar14 q14 Sz14 Nn14 Hh14 Gg14 (by rw [← (own_nar la_c1 : nar .char c1 = c1)]; exact fits_nar_char _) W14 1 rfl (Nat.le_of_ble_eq_true rfl)
  obtain ⟨cl18, Ar18, q18, Sz18, Nn18, Hh18, Gg18⟩ := id F14
  have in18 : ¬ ((2 : Int32) < 0 ∨ cl18.slots.size ≤ ((2 : Int32)).toNatClampNeg) := inb_of Sz18 ⟨by decide, by decide⟩
  obtain ⟨T18, h18, X18, e18, W18, st18⟩ := stC X14 hx hZ e14 Ar18 (j := (2 : Int32)) in18 (g := (mkF m 82 #[.val (.int (3 : Int32)), .val (.int c0), .val (.int c1), .val (.int c2), .val (.int c3), .val (.int c4), .val (.int c5)] [(.int c2), (.int (2 : Int32)), (.ref b6), (.ref b6), (.ref b1), (.ref b1)])) rfl rfl (hb hby d4_82)
  rw [show nar .char c2 = c2 from own_nar la_c2] at W18
  have O19 := O15.wr W18 ge_b6
  have K20 : Keep h0 h18 [] := K16.wr W18 (Or.inr sz_b6)
  have N21 := Fr.snoc X18 N17 ge_b6
  have F18 : Arv Z h18 b6 k6 .char (3 : Int32) [(.int c0), (.int c1), (.int c2)] (.int (0 : Int32)) := Arv.set Ar18 q18 Sz18 Nn18 Hh18 Gg18 (by rw [← (own_nar la_c2 : nar .char c2 = c2)]; exact fits_nar_char _) W18 2 rfl (Nat.le_of_ble_eq_true rfl)
  have f23 := (Exa.wr W18 (Exa.wr W14 (Exa.wr W10 (Exa.ext E6 A1))))
  have f24 := (Fld.other W18 (Fld.other W14 (Fld.other W10 (Fld.ext E6 F4) (Or.inl ne7)) (Or.inl ne7)) (Or.inl ne7))
  have f25 := (Fld.other W18 (Fld.other W14 (Fld.other W10 (Fld.ext E6 F5) (Or.inl ne7)) (Or.inl ne7)) (Or.inl ne7))
  have la26 : ∀ c ∈ ([c0, c1, c2] : List Int32), ¬ c < 0 ∧ ¬ (255 : Int32) < c := by
    intro c hc
    simp only [List.mem_cons, List.not_mem_nil, or_false] at hc
    rcases hc with rfl | rfl | rfl
    · exact la_c0
    · exact la_c1
    · exact la_c2
  obtain ⟨_, _, ⟨T22, L22, k22, n22⟩, -, X22, ⟨Lc22, hQ22, l22, y22, z22⟩, st22⟩ := X18.specialBack hx (y := (⟨"java/lang/String", "<init>", "([C)V"⟩ : MethodName)) rfl hown (mvT hZ (own_w hw 42 rfl)) (mvT hZ (own_w hw 43 rfl)) (mvT hZ (own_w hw 44 rfl)) (by decide) (StrChars.Road.backV (W := 1) hZ hws (kI := 4) (own_w hw 6 rfl) (cs := [c0, c1, c2]) (bs := [c0.toInt8.toInt32, c1.toInt8.toInt32, c2.toInt8.toInt32]) (n := 3) ge_b1 (by rw [← O19.1]; exact O19.2.1) f23 f24 f25 F18 (S_C.ext O19.2) hzc rfl rfl (by decide) (by decide) la26 rfl (by decide) (by decide)) (g := (mkF m 83 #[.val (.int (3 : Int32)), .val (.int c0), .val (.int c1), .val (.int c2), .val (.int c3), .val (.int c4), .val (.int c5)] [(.ref b6), (.ref b1), (.ref b1)])) rfl (by rw [hml]; rfl) (Steps.refl _) (a := b1) (argsL := [(.ref b6)]) (rest := [(.ref b1)]) (lenOf pd_2 rfl) rfl (by show 2 * 0 + _ ≤ _; exact Nat.le_of_eq rfl) (hb hby d4_83) (fun _ _ => ⟨rfl, e18, (by decide : 2 + 1 ≤ _), (by decide : 7 + 3 ≤ _)⟩)
  dsimp only [Pt.U, Pt.locs, Pt.cells, Pt.slots] at X22 l22 y22 z22 st22 hQ22
  subst l22 y22 z22
  obtain ⟨rfl, f29, f30, f31, f32, x27, x28, f33, f34, qf34, f35, f36⟩ := hQ22
  have N37 := Fr.app N21 f29
  have ge38 : n0 ≤ x27 := by rw [← O19.1]; exact Nat.le_trans O19.2.1 f34
  have sz38 : h0.size ≤ x27 := Nat.le_trans K20.1 f34
  have ne39 : b1 ≠ x27 := Nat.ne_of_lt (Nat.lt_of_lt_of_le (Exa.lt f23) f34)
  have f40 := (Exa.wr W18 (Exa.wr W14 (Exa.wr W10 B6)))
  have ne41 : b6 ≠ x27 := Nat.ne_of_lt (Nat.lt_of_lt_of_le (Exa.lt f40) f34)
  have O42 := O19.keep f30 (allS ge_b1 all0)
  have K43 : Keep h0 T22.heap [] := K20.trans f30 (allS (Or.inr sz_b1) all0)
  have S44 : ∀ t, Steps p.tables e below (T22.setTop (mkF m 86 #[.val (.int (3 : Int32)), .val (.int c0), .val (.int c1), .val (.int c2), .val (.int c3), .val (.int c4), .val (.int c5)] [(.ref b1)])) t → Steps p.tables e below (s₁.setTop (mkF m 0 #[.val (.int (3 : Int32)), .val (.int c0), .val (.int c1), .val (.int c2), .val (.int c3), .val (.int c4), .val (.int c5)] [])) t := by
    intro t kt
    refine XS.iloadN X0.here hx rfl (hb hby d4_0) rfl ?_
    refine XS.ifYes X0.here hx rfl (pc0 := 1) (pc' := 15) rfl (hb hby d4_1) rfl ((if0 _ _).trans (feq ((by decide) : ¬ ((3 : Int32) = (0 : Int32)))).2) (by decide) (by decide) ?_
    refine XS.iloadN X0.here hx rfl (hb hby d4_15) rfl ?_
    refine XS.iconst X0.here hx rfl (hb hby d4_16) ?_
    refine XS.icmpYes X0.here hx rfl (pc0 := 17) (pc' := 35) rfl (hb hby d4_17) rfl (feq ((by decide) : ¬ ((3 : Int32) = (1 : Int32)))).2 (by decide) (by decide) ?_
    refine XS.iloadN X0.here hx rfl (hb hby d4_35) rfl ?_
    show Steps p.tables e below (s₁.setTop (mkF m 36 #[.val (.int (3 : Int32)), .val (.int c0), .val (.int c1), .val (.int c2), .val (.int c3), .val (.int c4), .val (.int c5)] [(.int (3 : Int32))])) _
    refine XS.iconst X0.here hx rfl (hb hby d4_36) ?_
    refine XS.icmpYes X0.here hx rfl (pc0 := 37) (pc' := 59) rfl (hb hby d4_37) rfl (feq ((by decide) : ¬ ((3 : Int32) = (2 : Int32)))).2 (by decide) (by decide) ?_
    refine XS.iloadN X0.here hx rfl (hb hby d4_59) rfl ?_
    refine XS.iconst X0.here hx rfl (hb hby d4_60) ?_
    refine XS.icmpNo X0.here hx rfl (hb hby d4_61) rfl (teq ((by decide) : (3 : Int32) = (3 : Int32))).2 ?_
    show Steps p.tables e below (s₁.setTop (mkF m 64 #[.val (.int (3 : Int32)), .val (.int c0), .val (.int c1), .val (.int c2), .val (.int c3), .val (.int c4), .val (.int c5)] [])) _
    refine st1 _ ?_
    refine XS.dup X1.here hx rfl (hb hby d4_67) rfl rfl ?_
    refine XS.iconst X1.here hx rfl (hb hby d4_68) ?_
    show Steps p.tables e below (T1.setTop (mkF m 69 #[.val (.int (3 : Int32)), .val (.int c0), .val (.int c1), .val (.int c2), .val (.int c3), .val (.int c4), .val (.int c5)] [(.int (3 : Int32)), (.ref b1), (.ref b1)])) _
    refine st6 _ ?_
    refine XS.dup X6.here hx rfl (hb hby d4_71) rfl rfl ?_
    refine XS.iconst X6.here hx rfl (hb hby d4_72) ?_
    refine XS.iloadN X6.here hx rfl (hb hby d4_73) rfl ?_
    show Steps p.tables e below (T6.setTop (mkF m 74 #[.val (.int (3 : Int32)), .val (.int c0), .val (.int c1), .val (.int c2), .val (.int c3), .val (.int c4), .val (.int c5)] [(.int c0), (.int (0 : Int32)), (.ref b6), (.ref b6), (.ref b1), (.ref b1)])) _
    refine st10 _ ?_
    refine XS.dup X10.here hx rfl (hb hby d4_75) rfl rfl ?_
    refine XS.iconst X10.here hx rfl (hb hby d4_76) ?_
    refine XS.iloadN X10.here hx rfl (hb hby d4_77) rfl ?_
    show Steps p.tables e below (T10.setTop (mkF m 78 #[.val (.int (3 : Int32)), .val (.int c0), .val (.int c1), .val (.int c2), .val (.int c3), .val (.int c4), .val (.int c5)] [(.int c1), (.int (1 : Int32)), (.ref b6), (.ref b6), (.ref b1), (.ref b1)])) _
    refine st14 _ ?_
    refine XS.dup X14.here hx rfl (hb hby d4_79) rfl rfl ?_
    refine XS.iconst X14.here hx rfl (hb hby d4_80) ?_
    refine XS.iloadN X14.here hx rfl (hb hby d4_81) rfl ?_
    show Steps p.tables e below (T14.setTop (mkF m 82 #[.val (.int (3 : Int32)), .val (.int c0), .val (.int c1), .val (.int c2), .val (.int c3), .val (.int c4), .val (.int c5)] [(.int c2), (.int (2 : Int32)), (.ref b6), (.ref b6), (.ref b1), (.ref b1)])) _
    refine st18 _ ?_
    show Steps p.tables e below (T18.setTop (mkF m 83 #[.val (.int (3 : Int32)), .val (.int c0), .val (.int c1), .val (.int c2), .val (.int c3), .val (.int c4), .val (.int c5)] [(.ref b6), (.ref b1), (.ref b1)])) _
    refine st22.trans ?_
    exact kt
  obtain ⟨fs, hr, hrun, hended, hW, hsame⟩ := X22.leave (v := some (.ref b1)) (fun h => by rw [Bd.returns] at h; cases h)
  refine ⟨_, _, pre0 _ (S44 _ ?_), hrun, hended, _, _, rfl, ?_, ⟨_, rfl⟩, hW, hsame.mono (by decide) (by decide)⟩
  · exact retOut X22 hx Bd.returns rfl (Or.inr (Or.inr (Or.inr (Or.inr ⟨rfl, rfl, rfl⟩)))) (hb hby d4_86) hr
  · show Q_rm_str3 Z c0 c1 c2 c3 c4 c5 zc h0 n0 _ T22.heap _
    exact ⟨b1, x27, x28, rfl, N37, K43, sz_b1, f31, f35, f32, f36⟩
theorem d4_87 : decode method_3_code 87 = .ok (.iload_n 0, 1) := by decide +kernel
theorem d4_88 : decode method_3_code 88 = .ok (.iconst 4, 1) := by decide +kernel
theorem d4_89 : decode method_3_code 89 = .ok (.if_icmp .ne 31, 3) := by decide +kernel
theorem d4_92 : decode method_3_code 92 = .ok (.new 10, 3) := by decide +kernel
theorem d4_95 : decode method_3_code 95 = .ok (.dup, 1) := by decide +kernel
theorem d4_96 : decode method_3_code 96 = .ok (.iconst 4, 1) := by decide +kernel
theorem d4_97 : decode method_3_code 97 = .ok (.newarray .char, 2) := by decide +kernel
theorem d4_99 : decode method_3_code 99 = .ok (.dup, 1) := by decide +kernel
theorem d4_100 : decode method_3_code 100 = .ok (.iconst 0, 1) := by decide +kernel
theorem d4_101 : decode method_3_code 101 = .ok (.iload_n 1, 1) := by decide +kernel
theorem d4_102 : decode method_3_code 102 = .ok (.castore, 1) := by decide +kernel
theorem d4_103 : decode method_3_code 103 = .ok (.dup, 1) := by decide +kernel
theorem d4_104 : decode method_3_code 104 = .ok (.iconst 1, 1) := by decide +kernel
theorem d4_105 : decode method_3_code 105 = .ok (.iload_n 2, 1) := by decide +kernel
theorem d4_106 : decode method_3_code 106 = .ok (.castore, 1) := by decide +kernel
theorem d4_107 : decode method_3_code 107 = .ok (.dup, 1) := by decide +kernel
theorem d4_108 : decode method_3_code 108 = .ok (.iconst 2, 1) := by decide +kernel
theorem d4_109 : decode method_3_code 109 = .ok (.iload_n 3, 1) := by decide +kernel
theorem d4_110 : decode method_3_code 110 = .ok (.castore, 1) := by decide +kernel
theorem d4_111 : decode method_3_code 111 = .ok (.dup, 1) := by decide +kernel
theorem d4_112 : decode method_3_code 112 = .ok (.iconst 3, 1) := by decide +kernel
theorem d4_113 : decode method_3_code 113 = .ok (.iload 4, 2) := by decide +kernel
theorem d4_115 : decode method_3_code 115 = .ok (.castore, 1) := by decide +kernel
theorem d4_116 : decode method_3_code 116 = .ok (.invokespecial 15, 3) := by decide +kernel
theorem d4_119 : decode method_3_code 119 = .ok (.areturn, 1) := by decide +kernel
theorem ef_rm_str4 (m : MethodId) (x0 : Int32) (x1 : Int32) (x2 : Int32) (x3 : Int32) (x4 : Int32) (x5 : Int32) (x6 : Int32) : entryFrame m #[(.int x0), (.int x1), (.int x2), (.int x3), (.int x4), (.int x5), (.int x6)] 7 = mkF m 0 #[.val (.int x0), .val (.int x1), .val (.int x2), .val (.int x3), .val (.int x4), .val (.int x5), .val (.int x6)] [] := by first | (simp [entryFrame, mkF, argsToLocals, Value.category]; done) | rfl
def Q_rm_str4 (Z : State) (c0 : Int32) (c1 : Int32) (c2 : Int32) (c3 : Int32) (c4 : Int32) (c5 : Int32) (zc : Int32) (h0 : Heap) (n0 : Nat) (v : Option Value) (h : Heap) (L : List Loc) : Prop := (∃ (x : Addr) (tx : Addr) (kx : ClassId), (v = some (.ref x)) ∧ (Fr n0 L) ∧ (Keep h0 h []) ∧ (h0.size ≤ x) ∧ (Exa Z h x "java/lang/String") ∧ (Fld Z h x "java/lang/String" "value" "[B" (.ref tx)) ∧ (Fld Z h x "java/lang/String" "coder" "B" (.int (0 : Int32))) ∧ (Arv Z h tx kx .byte (4 : Int32) [(.int c0.toInt8.toInt32), (.int c1.toInt8.toInt32), (.int c2.toInt8.toInt32), (.int c3.toInt8.toInt32)] (.int (0 : Int32))))
set_option maxRecDepth 65536 in
set_option maxHeartbeats 40000000 in
theorem rm_str4 (l : Launch) (Z : State) (a0 : Array Value) (hw : ∀ d ∈ tables_1, d.before a0 Z = true) (ws : List Jvm.Cond) (c0 : Int32) (c1 : Int32) (c2 : Int32) (c3 : Int32) (c4 : Int32) (c5 : Int32) (zc : Int32) (h0 : Heap) (n0 : Nat) (O0 : Old Z n0 h0) (la_c0 : ¬ (c0 < (0 : Int32)) ∧ ¬ ((255 : Int32) < c0)) (la_c1 : ¬ (c1 < (0 : Int32)) ∧ ¬ ((255 : Int32) < c1)) (la_c2 : ¬ (c2 < (0 : Int32)) ∧ ¬ ((255 : Int32) < c2)) (la_c3 : ¬ (c3 < (0 : Int32)) ∧ ¬ ((255 : Int32) < c3)) (la_c4 : ¬ (c4 < (0 : Int32)) ∧ ¬ ((255 : Int32) < c4)) (la_c5 : ¬ (c5 < (0 : Int32)) ∧ ¬ ((255 : Int32) < c5)) (S_C : Sta Z Z.heap "java/lang/String" "COMPACT_STRINGS" "Z" (.int zc)) (hzc : ¬ (zc = (0 : Int32))) :
    MetFree l (⟨"com/example/pico_notify/piconotify/XmlBoolPinLaw", "str", "(ICCCCCC)Ljava/lang/String;"⟩ : MethodName) (head1 (Jvm.Cond.code (⟨"com/example/pico_notify/piconotify/XmlBoolPinLaw", "str", "(ICCCCCC)Ljava/lang/String;"⟩ : MethodName) method_3_code 7 (some (.object "java/lang/String")) :: ws) ({ frames := 4, cells := 3, slots := 12, locals := 66 } : Room)) (fun a U => a = #[(.int (4 : Int32)), (.int c0), (.int c1), (.int c2), (.int c3), (.int c4), (.int c5)] ∧ Z.Warmed39 U.vm ∧ U.heap = h0) (fun _ _ _ _ _ => True) (fun _ U o U' => ∃ v L, o = .returned v ∧ Q_rm_str4 Z c0 c1 c2 c3 c4 c5 zc h0 n0 v U'.heap L ∧ FrameEnd U o U' L ({ frames := 4, cells := 3, slots := 12, locals := 66 } : Room).cells ({ frames := 4, cells := 3, slots := 12, locals := 66 } : Room).slots) := by
  refine MetFree.of_bodySF (plainFor_of_name pn_1) hisR ?_
  intro p e s m args below meth c s₁ Bd hml0 hP hK
  obtain ⟨rfl, hZ, hh⟩ := hP
  have hx := Bd.exec
  have hby := Bd.bytes
  have hml : c.maxLocals = 7 := hml0
  have hown : s.vm.findClass "com/example/pico_notify/piconotify/XmlBoolPinLaw" = some m.cls := findClass_of_methodNamed Bd.named
  have hnm := (name_of_methodNamed Bd.named Bd.method).1
  have X0 : Stand p l e ({ frames := 4, cells := 3, slots := 12, locals := 66 } : Room) s m #[(.int (4 : Int32)), (.int c0), (.int c1), (.int c2), (.int c3), (.int c4), (.int c5)] below meth c s₁ [] 0 0 := Stand.of_body Bd
  have e0 : s₁.heap = h0 := by rw [← hh, Bd.state]; rfl
  have N0 := Fr.nil n0
  have hwc : ∀ d ∈ StrChars.Road.wordsChN, d.before a0 Z = true := fun d hd => hw d (own_wordsChN d hd)
  have hwq : ∀ d ∈ StrChars.Road.wordsEq, d.before a0 Z = true := fun d hd => hw d (own_wordsEq d hd)
  have hws : ∀ d ∈ StrChars.Road.words, d.before a0 Z = true := fun d hd => hw d (own_words d hd)
  have K0 : Keep h0 h0 [] := Keep.refl _ _
  have pre0 : ∀ t, Steps p.tables e below (s₁.setTop (mkF m 0 #[.val (.int (4 : Int32)), .val (.int c0), .val (.int c1), .val (.int c2), .val (.int c3), .val (.int c4), .val (.int c5)] [])) t → Steps p.tables e below (s₁.setTop (entryFrame m #[(.int (4 : Int32)), (.int c0), (.int c1), (.int c2), (.int c3), (.int c4), (.int c5)] 7)) t := fun t k => castTop (ef_rm_str4 m (4 : Int32) c0 c1 c2 c3 c4 c5) k
  obtain ⟨T1, h1, X1, e1, E1, A1, D1, -, st1⟩ := newO X0 hx hZ hown (own_w hw 40 rfl) (own_w hw 6 rfl) (own_w hw 5 rfl) e0 (g := (mkF m 92 #[.val (.int (4 : Int32)), .val (.int c0), .val (.int c1), .val (.int c2), .val (.int c3), .val (.int c4), .val (.int c5)] [])) rfl (hb hby d4_92) (by decide) (by decide)
  obtain ⟨b1, g1⟩ : ∃ z, z = h0.size := ⟨_, rfl⟩
  have ge_b1 : n0 ≤ b1 := by rw [g1, ← O0.1]; exact O0.2.1
  have sz_b1 : h0.size ≤ b1 := by rw [g1]; exact K0.1
  rw [← g1] at A1 D1 st1
  have O2 := O0.ext E1
  have K3 : Keep h0 h1 [] := K0.ext E1
  have F4 : Fld Z h1 b1 "java/lang/String" "value" "[B" .null := D1 (Or.inr (own_w hw 8 rfl)) (ty := (.array .byte)) (by decide)
  have F5 : Fld Z h1 b1 "java/lang/String" "coder" "B" (.int (0 : Int32)) := D1 (Or.inr (own_w hw 9 rfl)) (ty := .byte) (by decide)
  obtain ⟨T6, h6, k6, X6, e6, E6, A6, B6, st6⟩ := newPE X1 hx hZ (own_w hw 41 rfl) e1 (g := (mkF m 97 #[.val (.int (4 : Int32)), .val (.int c0), .val (.int c1), .val (.int c2), .val (.int c3), .val (.int c4), .val (.int c5)] [(.int (4 : Int32)), (.ref b1), (.ref b1)])) rfl (hb hby d4_97) rfl (by decide) (cap := 4) (by decide) (by decide) (by decide) (by decide) (ad := "[C") (by first | rfl | decide)
  obtain ⟨b6, g6⟩ : ∃ z, z = h1.size := ⟨_, rfl⟩
  have ge_b6 : n0 ≤ b6 := by rw [g6, ← O2.1]; exact O2.2.1
  have sz_b6 : h0.size ≤ b6 := by rw [g6]; exact K3.1
  have ne7 : b1 ≠ b6 := Nat.ne_of_lt (Nat.lt_of_lt_of_le (Exa.lt A1) (Nat.le_of_eq g6.symm))
  rw [← g6] at A6 B6 st6
  have O8 := O2.ext E6
  have K9 : Keep h0 h6 [] := K3.ext E6
  have F6 : Arv Z h6 b6 k6 .char (4 : Int32) [(.int (0 : Int32)), (.int (0 : Int32)), (.int (0 : Int32)), (.int (0 : Int32))] (.int (0 : Int32)) := (Arv.new A6 (by decide)).pad (pad_rep [] (.int (0 : Int32)) 4)
  obtain ⟨cl10, Ar10, q10, Sz10, Nn10, Hh10, Gg10⟩ := id F6
  have in10 : ¬ ((0 : Int32) < 0 ∨ cl10.slots.size ≤ ((0 : Int32)).toNatClampNeg) := inb_of Sz10 ⟨by decide, by decide⟩
  obtain ⟨T10, h10, X10, e10, W10, st10⟩ := stC X6 hx hZ e6 Ar10 (j := (0 : Int32)) in10 (g := (mkF m 102 #[.val (.int (4 : Int32)), .val (.int c0), .val (.int c1), .val (.int c2), .val (.int c3), .val (.int c4), .val (.int c5)] [(.int c0), (.int (0 : Int32)), (.ref b6), (.ref b6), (.ref b1), (.ref b1)])) rfl rfl (hb hby d4_102)
  rw [show nar .char c0 = c0 from own_nar la_c0] at W10
  have O11 := O8.wr W10 ge_b6
  have K12 : Keep h0 h10 [] := K9.wr W10 (Or.inr sz_b6)
  have N13 := Fr.snoc X10 N0 ge_b6
  have F10 : Arv Z h10 b6 k6 .char (4 : Int32) [(.int c0), (.int (0 : Int32)), (.int (0 : Int32)), (.int (0 : Int32))] (.int (0 : Int32)) := Arv.set Ar10 q10 Sz10 Nn10 Hh10 Gg10 (by rw [← (own_nar la_c0 : nar .char c0 = c0)]; exact fits_nar_char _) W10 0 rfl (Nat.le_of_ble_eq_true rfl)
  obtain ⟨cl14, Ar14, q14, Sz14, Nn14, Hh14, Gg14⟩ := id F10
  have in14 : ¬ ((1 : Int32) < 0 ∨ cl14.slots.size ≤ ((1 : Int32)).toNatClampNeg) := inb_of Sz14 ⟨by decide, by decide⟩
  obtain ⟨T14, h14, X14, e14, W14, st14⟩ := stC X10 hx hZ e10 Ar14 (j := (1 : Int32)) in14 (g := (mkF m 106 #[.val (.int (4 : Int32)), .val (.int c0), .val (.int c1), .val (.int c2), .val (.int c3), .val (.int c4), .val (.int c5)] [(.int c1), (.int (1 : Int32)), (.ref b6), (.ref b6), (.ref b1), (.ref b1)])) rfl rfl (hb hby d4_106)
  rw [show nar .char c1 = c1 from own_nar la_c1] at W14
  have O15 := O11.wr W14 ge_b6
  have K16 : Keep h0 h14 [] := K12.wr W14 (Or.inr sz_b6)
  have N17 := Fr.snoc X14 N13 ge_b6
  have F14 : Arv Z h14 b6 k6 .char (4 : Int32) [(.int c0), (.int c1), (.int (0 : Int32)), (.int (0 : Int32))] (.int (0 : Int32)) := Arv.set Ar14 q14 Sz14 Nn14 Hh14 Gg14 (by rw [← (own_nar la_c1 : nar .char c1 = c1)]; exact fits_nar_char _) W14 1 rfl (Nat.le_of_ble_eq_true rfl)
  obtain ⟨cl18, Ar18, q18, Sz18, Nn18, Hh18, Gg18⟩ := id F14
  have in18 : ¬ ((2 : Int32) < 0 ∨ cl18.slots.size ≤ ((2 : Int32)).toNatClampNeg) := inb_of Sz18 ⟨by decide, by decide⟩
  obtain ⟨T18, h18, X18, e18, W18, st18⟩ := stC X14 hx hZ e14 Ar18 (j := (2 : Int32)) in18 (g := (mkF m 110 #[.val (.int (4 : Int32)), .val (.int c0), .val (.int c1), .val (.int c2), .val (.int c3), .val (.int c4), .val (.int c5)] [(.int c2), (.int (2 : Int32)), (.ref b6), (.ref b6), (.ref b1), (.ref b1)])) rfl rfl (hb hby d4_110)
  rw [show nar .char c2 = c2 from own_nar la_c2] at W18
  have O19 := O15.wr W18 ge_b6
  have K20 : Keep h0 h18 [] := K16.wr W18 (Or.inr sz_b6)
  have N21 := Fr.snoc X18 N17 ge_b6
  have F18 : Arv Z h18 b6 k6 .char (4 : Int32) [(.int c0), (.int c1), (.int c2), (.int (0 : Int32))] (.int (0 : Int32)) := Arv.set Ar18 q18 Sz18 Nn18 Hh18 Gg18 (by rw [← (own_nar la_c2 : nar .char c2 = c2)]; exact fits_nar_char _) W18 2 rfl (Nat.le_of_ble_eq_true rfl)
  obtain ⟨cl22, Ar22, q22, Sz22, Nn22, Hh22, Gg22⟩ := id F18
  have in22 : ¬ ((3 : Int32) < 0 ∨ cl22.slots.size ≤ ((3 : Int32)).toNatClampNeg) := inb_of Sz22 ⟨by decide, by decide⟩
  obtain ⟨T22, h22, X22, e22, W22, st22⟩ := stC X18 hx hZ e18 Ar22 (j := (3 : Int32)) in22 (g := (mkF m 115 #[.val (.int (4 : Int32)), .val (.int c0), .val (.int c1), .val (.int c2), .val (.int c3), .val (.int c4), .val (.int c5)] [(.int c3), (.int (3 : Int32)), (.ref b6), (.ref b6), (.ref b1), (.ref b1)])) rfl rfl (hb hby d4_115)
  rw [show nar .char c3 = c3 from own_nar la_c3] at W22
  have O23 := O19.wr W22 ge_b6
  have K24 : Keep h0 h22 [] := K20.wr W22 (Or.inr sz_b6)
  have N25 := Fr.snoc X22 N21 ge_b6
  have F22 : Arv Z h22 b6 k6 .char (4 : Int32) [(.int c0), (.int c1), (.int c2), (.int c3)] (.int (0 : Int32)) := Arv.set Ar22 q22 Sz22 Nn22 Hh22 Gg22 (by rw [← (own_nar la_c3 : nar .char c3 = c3)]; exact fits_nar_char _) W22 3 rfl (Nat.le_of_ble_eq_true rfl)
  have f27 := (Exa.wr W22 (Exa.wr W18 (Exa.wr W14 (Exa.wr W10 (Exa.ext E6 A1)))))
  have f28 := (Fld.other W22 (Fld.other W18 (Fld.other W14 (Fld.other W10 (Fld.ext E6 F4) (Or.inl ne7)) (Or.inl ne7)) (Or.inl ne7)) (Or.inl ne7))
  have f29 := (Fld.other W22 (Fld.other W18 (Fld.other W14 (Fld.other W10 (Fld.ext E6 F5) (Or.inl ne7)) (Or.inl ne7)) (Or.inl ne7)) (Or.inl ne7))
  have la30 : ∀ c ∈ ([c0, c1, c2, c3] : List Int32), ¬ c < 0 ∧ ¬ (255 : Int32) < c := by
    intro c hc
    simp only [List.mem_cons, List.not_mem_nil, or_false] at hc
    rcases hc with rfl | rfl | rfl | rfl
    · exact la_c0
    · exact la_c1
    · exact la_c2
    · exact la_c3
  obtain ⟨_, _, ⟨T26, L26, k26, n26⟩, -, X26, ⟨Lc26, hQ26, l26, y26, z26⟩, st26⟩ := X22.specialBack hx (y := (⟨"java/lang/String", "<init>", "([C)V"⟩ : MethodName)) rfl hown (mvT hZ (own_w hw 42 rfl)) (mvT hZ (own_w hw 43 rfl)) (mvT hZ (own_w hw 44 rfl)) (by decide) (StrChars.Road.backV (W := 1) hZ hws (kI := 4) (own_w hw 6 rfl) (cs := [c0, c1, c2, c3]) (bs := [c0.toInt8.toInt32, c1.toInt8.toInt32, c2.toInt8.toInt32, c3.toInt8.toInt32]) (n := 4) ge_b1 (by rw [← O23.1]; exact O23.2.1) f27 f28 f29 F22 (S_C.ext O23.2) hzc rfl rfl (by decide) (by decide) la30 rfl (by decide) (by decide)) (g := (mkF m 116 #[.val (.int (4 : Int32)), .val (.int c0), .val (.int c1), .val (.int c2), .val (.int c3), .val (.int c4), .val (.int c5)] [(.ref b6), (.ref b1), (.ref b1)])) rfl (by rw [hml]; rfl) (Steps.refl _) (a := b1) (argsL := [(.ref b6)]) (rest := [(.ref b1)]) (lenOf pd_2 rfl) rfl (by show 2 * 0 + _ ≤ _; exact Nat.le_of_eq rfl) (hb hby d4_116) (fun _ _ => ⟨rfl, e22, (by decide : 2 + 1 ≤ _), (by decide : 8 + 4 ≤ _)⟩)
  dsimp only [Pt.U, Pt.locs, Pt.cells, Pt.slots] at X26 l26 y26 z26 st26 hQ26
  subst l26 y26 z26
  obtain ⟨rfl, f33, f34, f35, f36, x31, x32, f37, f38, qf38, f39, f40⟩ := hQ26
  have N41 := Fr.app N25 f33
  have ge42 : n0 ≤ x31 := by rw [← O23.1]; exact Nat.le_trans O23.2.1 f38
  have sz42 : h0.size ≤ x31 := Nat.le_trans K24.1 f38
  have ne43 : b1 ≠ x31 := Nat.ne_of_lt (Nat.lt_of_lt_of_le (Exa.lt f27) f38)
  have f44 := (Exa.wr W22 (Exa.wr W18 (Exa.wr W14 (Exa.wr W10 B6))))
  have ne45 : b6 ≠ x31 := Nat.ne_of_lt (Nat.lt_of_lt_of_le (Exa.lt f44) f38)
  have O46 := O23.keep f34 (allS ge_b1 all0)
  have K47 : Keep h0 T26.heap [] := K24.trans f34 (allS (Or.inr sz_b1) all0)
  have S48 : ∀ t, Steps p.tables e below (T26.setTop (mkF m 119 #[.val (.int (4 : Int32)), .val (.int c0), .val (.int c1), .val (.int c2), .val (.int c3), .val (.int c4), .val (.int c5)] [(.ref b1)])) t → Steps p.tables e below (s₁.setTop (mkF m 0 #[.val (.int (4 : Int32)), .val (.int c0), .val (.int c1), .val (.int c2), .val (.int c3), .val (.int c4), .val (.int c5)] [])) t := by
    intro t kt
    refine XS.iloadN X0.here hx rfl (hb hby d4_0) rfl ?_
    refine XS.ifYes X0.here hx rfl (pc0 := 1) (pc' := 15) rfl (hb hby d4_1) rfl ((if0 _ _).trans (feq ((by decide) : ¬ ((4 : Int32) = (0 : Int32)))).2) (by decide) (by decide) ?_
    refine XS.iloadN X0.here hx rfl (hb hby d4_15) rfl ?_
    refine XS.iconst X0.here hx rfl (hb hby d4_16) ?_
    refine XS.icmpYes X0.here hx rfl (pc0 := 17) (pc' := 35) rfl (hb hby d4_17) rfl (feq ((by decide) : ¬ ((4 : Int32) = (1 : Int32)))).2 (by decide) (by decide) ?_
    refine XS.iloadN X0.here hx rfl (hb hby d4_35) rfl ?_
    show Steps p.tables e below (s₁.setTop (mkF m 36 #[.val (.int (4 : Int32)), .val (.int c0), .val (.int c1), .val (.int c2), .val (.int c3), .val (.int c4), .val (.int c5)] [(.int (4 : Int32))])) _
    refine XS.iconst X0.here hx rfl (hb hby d4_36) ?_
    refine XS.icmpYes X0.here hx rfl (pc0 := 37) (pc' := 59) rfl (hb hby d4_37) rfl (feq ((by decide) : ¬ ((4 : Int32) = (2 : Int32)))).2 (by decide) (by decide) ?_
    refine XS.iloadN X0.here hx rfl (hb hby d4_59) rfl ?_
    refine XS.iconst X0.here hx rfl (hb hby d4_60) ?_
    refine XS.icmpYes X0.here hx rfl (pc0 := 61) (pc' := 87) rfl (hb hby d4_61) rfl (feq ((by decide) : ¬ ((4 : Int32) = (3 : Int32)))).2 (by decide) (by decide) ?_
    refine XS.iloadN X0.here hx rfl (hb hby d4_87) rfl ?_
    show Steps p.tables e below (s₁.setTop (mkF m 88 #[.val (.int (4 : Int32)), .val (.int c0), .val (.int c1), .val (.int c2), .val (.int c3), .val (.int c4), .val (.int c5)] [(.int (4 : Int32))])) _
    refine XS.iconst X0.here hx rfl (hb hby d4_88) ?_
    refine XS.icmpNo X0.here hx rfl (hb hby d4_89) rfl (teq ((by decide) : (4 : Int32) = (4 : Int32))).2 ?_
    show Steps p.tables e below (s₁.setTop (mkF m 92 #[.val (.int (4 : Int32)), .val (.int c0), .val (.int c1), .val (.int c2), .val (.int c3), .val (.int c4), .val (.int c5)] [])) _
    refine st1 _ ?_
    refine XS.dup X1.here hx rfl (hb hby d4_95) rfl rfl ?_
    refine XS.iconst X1.here hx rfl (hb hby d4_96) ?_
    show Steps p.tables e below (T1.setTop (mkF m 97 #[.val (.int (4 : Int32)), .val (.int c0), .val (.int c1), .val (.int c2), .val (.int c3), .val (.int c4), .val (.int c5)] [(.int (4 : Int32)), (.ref b1), (.ref b1)])) _
    refine st6 _ ?_
    refine XS.dup X6.here hx rfl (hb hby d4_99) rfl rfl ?_
    refine XS.iconst X6.here hx rfl (hb hby d4_100) ?_
    refine XS.iloadN X6.here hx rfl (hb hby d4_101) rfl ?_
    show Steps p.tables e below (T6.setTop (mkF m 102 #[.val (.int (4 : Int32)), .val (.int c0), .val (.int c1), .val (.int c2), .val (.int c3), .val (.int c4), .val (.int c5)] [(.int c0), (.int (0 : Int32)), (.ref b6), (.ref b6), (.ref b1), (.ref b1)])) _
    refine st10 _ ?_
    refine XS.dup X10.here hx rfl (hb hby d4_103) rfl rfl ?_
    refine XS.iconst X10.here hx rfl (hb hby d4_104) ?_
    refine XS.iloadN X10.here hx rfl (hb hby d4_105) rfl ?_
    show Steps p.tables e below (T10.setTop (mkF m 106 #[.val (.int (4 : Int32)), .val (.int c0), .val (.int c1), .val (.int c2), .val (.int c3), .val (.int c4), .val (.int c5)] [(.int c1), (.int (1 : Int32)), (.ref b6), (.ref b6), (.ref b1), (.ref b1)])) _
    refine st14 _ ?_
    refine XS.dup X14.here hx rfl (hb hby d4_107) rfl rfl ?_
    refine XS.iconst X14.here hx rfl (hb hby d4_108) ?_
    refine XS.iloadN X14.here hx rfl (hb hby d4_109) rfl ?_
    show Steps p.tables e below (T14.setTop (mkF m 110 #[.val (.int (4 : Int32)), .val (.int c0), .val (.int c1), .val (.int c2), .val (.int c3), .val (.int c4), .val (.int c5)] [(.int c2), (.int (2 : Int32)), (.ref b6), (.ref b6), (.ref b1), (.ref b1)])) _
    refine st18 _ ?_
    refine XS.dup X18.here hx rfl (hb hby d4_111) rfl rfl ?_
    refine XS.iconst X18.here hx rfl (hb hby d4_112) ?_
    refine XS.iload X18.here hx rfl (hb hby d4_113) rfl ?_
    show Steps p.tables e below (T18.setTop (mkF m 115 #[.val (.int (4 : Int32)), .val (.int c0), .val (.int c1), .val (.int c2), .val (.int c3), .val (.int c4), .val (.int c5)] [(.int c3), (.int (3 : Int32)), (.ref b6), (.ref b6), (.ref b1), (.ref b1)])) _
    refine st22 _ ?_
    show Steps p.tables e below (T22.setTop (mkF m 116 #[.val (.int (4 : Int32)), .val (.int c0), .val (.int c1), .val (.int c2), .val (.int c3), .val (.int c4), .val (.int c5)] [(.ref b6), (.ref b1), (.ref b1)])) _
    refine st26.trans ?_
    exact kt
  obtain ⟨fs, hr, hrun, hended, hW, hsame⟩ := X26.leave (v := some (.ref b1)) (fun h => by rw [Bd.returns] at h; cases h)
  refine ⟨_, _, pre0 _ (S48 _ ?_), hrun, hended, _, _, rfl, ?_, ⟨_, rfl⟩, hW, hsame.mono (by decide) (by decide)⟩
  · exact retOut X26 hx Bd.returns rfl (Or.inr (Or.inr (Or.inr (Or.inr ⟨rfl, rfl, rfl⟩)))) (hb hby d4_119) hr
  · show Q_rm_str4 Z c0 c1 c2 c3 c4 c5 zc h0 n0 _ T26.heap _
    exact ⟨b1, x31, x32, rfl, N41, K47, sz_b1, f35, f39, f36, f40⟩
theorem d4_120 : decode method_3_code 120 = .ok (.iload_n 0, 1) := by decide +kernel
theorem d4_121 : decode method_3_code 121 = .ok (.iconst 5, 1) := by decide +kernel
theorem d4_122 : decode method_3_code 122 = .ok (.if_icmp .ne 36, 3) := by decide +kernel
theorem d4_125 : decode method_3_code 125 = .ok (.new 10, 3) := by decide +kernel
theorem d4_128 : decode method_3_code 128 = .ok (.dup, 1) := by decide +kernel
theorem d4_129 : decode method_3_code 129 = .ok (.iconst 5, 1) := by decide +kernel
theorem d4_130 : decode method_3_code 130 = .ok (.newarray .char, 2) := by decide +kernel
theorem d4_132 : decode method_3_code 132 = .ok (.dup, 1) := by decide +kernel
theorem d4_133 : decode method_3_code 133 = .ok (.iconst 0, 1) := by decide +kernel
theorem d4_134 : decode method_3_code 134 = .ok (.iload_n 1, 1) := by decide +kernel
theorem d4_135 : decode method_3_code 135 = .ok (.castore, 1) := by decide +kernel
theorem d4_136 : decode method_3_code 136 = .ok (.dup, 1) := by decide +kernel
theorem d4_137 : decode method_3_code 137 = .ok (.iconst 1, 1) := by decide +kernel
theorem d4_138 : decode method_3_code 138 = .ok (.iload_n 2, 1) := by decide +kernel
theorem d4_139 : decode method_3_code 139 = .ok (.castore, 1) := by decide +kernel
theorem d4_140 : decode method_3_code 140 = .ok (.dup, 1) := by decide +kernel
theorem d4_141 : decode method_3_code 141 = .ok (.iconst 2, 1) := by decide +kernel
theorem d4_142 : decode method_3_code 142 = .ok (.iload_n 3, 1) := by decide +kernel
theorem d4_143 : decode method_3_code 143 = .ok (.castore, 1) := by decide +kernel
theorem d4_144 : decode method_3_code 144 = .ok (.dup, 1) := by decide +kernel
theorem d4_145 : decode method_3_code 145 = .ok (.iconst 3, 1) := by decide +kernel
theorem d4_146 : decode method_3_code 146 = .ok (.iload 4, 2) := by decide +kernel
theorem d4_148 : decode method_3_code 148 = .ok (.castore, 1) := by decide +kernel
theorem d4_149 : decode method_3_code 149 = .ok (.dup, 1) := by decide +kernel
theorem d4_150 : decode method_3_code 150 = .ok (.iconst 4, 1) := by decide +kernel
theorem d4_151 : decode method_3_code 151 = .ok (.iload 5, 2) := by decide +kernel
theorem d4_153 : decode method_3_code 153 = .ok (.castore, 1) := by decide +kernel
theorem d4_154 : decode method_3_code 154 = .ok (.invokespecial 15, 3) := by decide +kernel
theorem d4_157 : decode method_3_code 157 = .ok (.areturn, 1) := by decide +kernel
theorem ef_rm_str5 (m : MethodId) (x0 : Int32) (x1 : Int32) (x2 : Int32) (x3 : Int32) (x4 : Int32) (x5 : Int32) (x6 : Int32) : entryFrame m #[(.int x0), (.int x1), (.int x2), (.int x3), (.int x4), (.int x5), (.int x6)] 7 = mkF m 0 #[.val (.int x0), .val (.int x1), .val (.int x2), .val (.int x3), .val (.int x4), .val (.int x5), .val (.int x6)] [] := by first | (simp [entryFrame, mkF, argsToLocals, Value.category]; done) | rfl
def Q_rm_str5 (Z : State) (c0 : Int32) (c1 : Int32) (c2 : Int32) (c3 : Int32) (c4 : Int32) (c5 : Int32) (zc : Int32) (h0 : Heap) (n0 : Nat) (v : Option Value) (h : Heap) (L : List Loc) : Prop := (∃ (x : Addr) (tx : Addr) (kx : ClassId), (v = some (.ref x)) ∧ (Fr n0 L) ∧ (Keep h0 h []) ∧ (h0.size ≤ x) ∧ (Exa Z h x "java/lang/String") ∧ (Fld Z h x "java/lang/String" "value" "[B" (.ref tx)) ∧ (Fld Z h x "java/lang/String" "coder" "B" (.int (0 : Int32))) ∧ (Arv Z h tx kx .byte (5 : Int32) [(.int c0.toInt8.toInt32), (.int c1.toInt8.toInt32), (.int c2.toInt8.toInt32), (.int c3.toInt8.toInt32), (.int c4.toInt8.toInt32)] (.int (0 : Int32))))
set_option maxRecDepth 65536 in
set_option maxHeartbeats 40000000 in
theorem rm_str5 (l : Launch) (Z : State) (a0 : Array Value) (hw : ∀ d ∈ tables_1, d.before a0 Z = true) (ws : List Jvm.Cond) (c0 : Int32) (c1 : Int32) (c2 : Int32) (c3 : Int32) (c4 : Int32) (c5 : Int32) (zc : Int32) (h0 : Heap) (n0 : Nat) (O0 : Old Z n0 h0) (la_c0 : ¬ (c0 < (0 : Int32)) ∧ ¬ ((255 : Int32) < c0)) (la_c1 : ¬ (c1 < (0 : Int32)) ∧ ¬ ((255 : Int32) < c1)) (la_c2 : ¬ (c2 < (0 : Int32)) ∧ ¬ ((255 : Int32) < c2)) (la_c3 : ¬ (c3 < (0 : Int32)) ∧ ¬ ((255 : Int32) < c3)) (la_c4 : ¬ (c4 < (0 : Int32)) ∧ ¬ ((255 : Int32) < c4)) (la_c5 : ¬ (c5 < (0 : Int32)) ∧ ¬ ((255 : Int32) < c5)) (S_C : Sta Z Z.heap "java/lang/String" "COMPACT_STRINGS" "Z" (.int zc)) (hzc : ¬ (zc = (0 : Int32))) :
    MetFree l (⟨"com/example/pico_notify/piconotify/XmlBoolPinLaw", "str", "(ICCCCCC)Ljava/lang/String;"⟩ : MethodName) (head1 (Jvm.Cond.code (⟨"com/example/pico_notify/piconotify/XmlBoolPinLaw", "str", "(ICCCCCC)Ljava/lang/String;"⟩ : MethodName) method_3_code 7 (some (.object "java/lang/String")) :: ws) ({ frames := 4, cells := 3, slots := 14, locals := 66 } : Room)) (fun a U => a = #[(.int (5 : Int32)), (.int c0), (.int c1), (.int c2), (.int c3), (.int c4), (.int c5)] ∧ Z.Warmed39 U.vm ∧ U.heap = h0) (fun _ _ _ _ _ => True) (fun _ U o U' => ∃ v L, o = .returned v ∧ Q_rm_str5 Z c0 c1 c2 c3 c4 c5 zc h0 n0 v U'.heap L ∧ FrameEnd U o U' L ({ frames := 4, cells := 3, slots := 14, locals := 66 } : Room).cells ({ frames := 4, cells := 3, slots := 14, locals := 66 } : Room).slots) := by
  refine MetFree.of_bodySF (plainFor_of_name pn_1) hisR ?_
  intro p e s m args below meth c s₁ Bd hml0 hP hK
  obtain ⟨rfl, hZ, hh⟩ := hP
  have hx := Bd.exec
  have hby := Bd.bytes
  have hml : c.maxLocals = 7 := hml0
  have hown : s.vm.findClass "com/example/pico_notify/piconotify/XmlBoolPinLaw" = some m.cls := findClass_of_methodNamed Bd.named
  have hnm := (name_of_methodNamed Bd.named Bd.method).1
  have X0 : Stand p l e ({ frames := 4, cells := 3, slots := 14, locals := 66 } : Room) s m #[(.int (5 : Int32)), (.int c0), (.int c1), (.int c2), (.int c3), (.int c4), (.int c5)] below meth c s₁ [] 0 0 := Stand.of_body Bd
  have e0 : s₁.heap = h0 := by rw [← hh, Bd.state]; rfl
  have N0 := Fr.nil n0
  have hwc : ∀ d ∈ StrChars.Road.wordsChN, d.before a0 Z = true := fun d hd => hw d (own_wordsChN d hd)
  have hwq : ∀ d ∈ StrChars.Road.wordsEq, d.before a0 Z = true := fun d hd => hw d (own_wordsEq d hd)
  have hws : ∀ d ∈ StrChars.Road.words, d.before a0 Z = true := fun d hd => hw d (own_words d hd)
  have K0 : Keep h0 h0 [] := Keep.refl _ _
  have pre0 : ∀ t, Steps p.tables e below (s₁.setTop (mkF m 0 #[.val (.int (5 : Int32)), .val (.int c0), .val (.int c1), .val (.int c2), .val (.int c3), .val (.int c4), .val (.int c5)] [])) t → Steps p.tables e below (s₁.setTop (entryFrame m #[(.int (5 : Int32)), (.int c0), (.int c1), (.int c2), (.int c3), (.int c4), (.int c5)] 7)) t := fun t k => castTop (ef_rm_str5 m (5 : Int32) c0 c1 c2 c3 c4 c5) k
  obtain ⟨T1, h1, X1, e1, E1, A1, D1, -, st1⟩ := newO X0 hx hZ hown (own_w hw 40 rfl) (own_w hw 6 rfl) (own_w hw 5 rfl) e0 (g := (mkF m 125 #[.val (.int (5 : Int32)), .val (.int c0), .val (.int c1), .val (.int c2), .val (.int c3), .val (.int c4), .val (.int c5)] [])) rfl (hb hby d4_125) (by decide) (by decide)
  obtain ⟨b1, g1⟩ : ∃ z, z = h0.size := ⟨_, rfl⟩
  have ge_b1 : n0 ≤ b1 := by rw [g1, ← O0.1]; exact O0.2.1
  have sz_b1 : h0.size ≤ b1 := by rw [g1]; exact K0.1
  rw [← g1] at A1 D1 st1
  have O2 := O0.ext E1
  have K3 : Keep h0 h1 [] := K0.ext E1
  have F4 : Fld Z h1 b1 "java/lang/String" "value" "[B" .null := D1 (Or.inr (own_w hw 8 rfl)) (ty := (.array .byte)) (by decide)
  have F5 : Fld Z h1 b1 "java/lang/String" "coder" "B" (.int (0 : Int32)) := D1 (Or.inr (own_w hw 9 rfl)) (ty := .byte) (by decide)
  obtain ⟨T6, h6, k6, X6, e6, E6, A6, B6, st6⟩ := newPE X1 hx hZ (own_w hw 41 rfl) e1 (g := (mkF m 130 #[.val (.int (5 : Int32)), .val (.int c0), .val (.int c1), .val (.int c2), .val (.int c3), .val (.int c4), .val (.int c5)] [(.int (5 : Int32)), (.ref b1), (.ref b1)])) rfl (hb hby d4_130) rfl (by decide) (cap := 5) (by decide) (by decide) (by decide) (by decide) (ad := "[C") (by first | rfl | decide)
  obtain ⟨b6, g6⟩ : ∃ z, z = h1.size := ⟨_, rfl⟩
  have ge_b6 : n0 ≤ b6 := by rw [g6, ← O2.1]; exact O2.2.1
  have sz_b6 : h0.size ≤ b6 := by rw [g6]; exact K3.1
  have ne7 : b1 ≠ b6 := Nat.ne_of_lt (Nat.lt_of_lt_of_le (Exa.lt A1) (Nat.le_of_eq g6.symm))
  rw [← g6] at A6 B6 st6
  have O8 := O2.ext E6
  have K9 : Keep h0 h6 [] := K3.ext E6
  have F6 : Arv Z h6 b6 k6 .char (5 : Int32) [(.int (0 : Int32)), (.int (0 : Int32)), (.int (0 : Int32)), (.int (0 : Int32)), (.int (0 : Int32))] (.int (0 : Int32)) := (Arv.new A6 (by decide)).pad (pad_rep [] (.int (0 : Int32)) 5)
  obtain ⟨cl10, Ar10, q10, Sz10, Nn10, Hh10, Gg10⟩ := id F6
  have in10 : ¬ ((0 : Int32) < 0 ∨ cl10.slots.size ≤ ((0 : Int32)).toNatClampNeg) := inb_of Sz10 ⟨by decide, by decide⟩
  obtain ⟨T10, h10, X10, e10, W10, st10⟩ := stC X6 hx hZ e6 Ar10 (j := (0 : Int32)) in10 (g := (mkF m 135 #[.val (.int (5 : Int32)), .val (.int c0), .val (.int c1), .val (.int c2), .val (.int c3), .val (.int c4), .val (.int c5)] [(.int c0), (.int (0 : Int32)), (.ref b6), (.ref b6), (.ref b1), (.ref b1)])) rfl rfl (hb hby d4_135)
  rw [show nar .char c0 = c0 from own_nar la_c0] at W10
  have O11 := O8.wr W10 ge_b6
  have K12 : Keep h0 h10 [] := K9.wr W10 (Or.inr sz_b6)
  have N13 := Fr.snoc X10 N0 ge_b6
  have F10 : Arv Z h10 b6 k6 .char (5 : Int32) [(.int c0), (.int (0 : Int32)), (.int (0 : Int32)), (.int (0 : Int32)), (.int (0 : Int32))] (.int (0 : Int32)) := Arv.set Ar10 q10 Sz10 Nn10 Hh10 Gg10 (by rw [← (own_nar la_c0 : nar .char c0 = c0)]; exact fits_nar_char _) W10 0 rfl (Nat.le_of_ble_eq_true rfl)
  obtain ⟨cl14, Ar14, q14, Sz14, Nn14, Hh14, Gg14⟩ := id F10
  have in14 : ¬ ((1 : Int32) < 0 ∨ cl14.slots.size ≤ ((1 : Int32)).toNatClampNeg) := inb_of Sz14 ⟨by decide, by decide⟩
  obtain ⟨T14, h14, X14, e14, W14, st14⟩ := stC X10 hx hZ e10 Ar14 (j := (1 : Int32)) in14 (g := (mkF m 139 #[.val (.int (5 : Int32)), .val (.int c0), .val (.int c1), .val (.int c2), .val (.int c3), .val (.int c4), .val (.int c5)] [(.int c1), (.int (1 : Int32)), (.ref b6), (.ref b6), (.ref b1), (.ref b1)])) rfl rfl (hb hby d4_139)
  rw [show nar .char c1 = c1 from own_nar la_c1] at W14
  have O15 := O11.wr W14 ge_b6
  have K16 : Keep h0 h14 [] := K12.wr W14 (Or.inr sz_b6)
  have N17 := Fr.snoc X14 N13 ge_b6
  have F14 : Arv Z h14 b6 k6 .char (5 : Int32) [(.int c0), (.int c1), (.int (0 : Int32)), (.int (0 : Int32)), (.int (0 : Int32))] (.int (0 : Int32)) := Arv.set Ar14 q14 Sz14 Nn14 Hh14 Gg14 (by rw [← (own_nar la_c1 : nar .char c1 = c1)]; exact fits_nar_char _) W14 1 rfl (Nat.le_of_ble_eq_true rfl)
  obtain ⟨cl18, Ar18, q18, Sz18, Nn18, Hh18, Gg18⟩ := id F14
  have in18 : ¬ ((2 : Int32) < 0 ∨ cl18.slots.size ≤ ((2 : Int32)).toNatClampNeg) := inb_of Sz18 ⟨by decide, by decide⟩
  obtain ⟨T18, h18, X18, e18, W18, st18⟩ := stC X14 hx hZ e14 Ar18 (j := (2 : Int32)) in18 (g := (mkF m 143 #[.val (.int (5 : Int32)), .val (.int c0), .val (.int c1), .val (.int c2), .val (.int c3), .val (.int c4), .val (.int c5)] [(.int c2), (.int (2 : Int32)), (.ref b6), (.ref b6), (.ref b1), (.ref b1)])) rfl rfl (hb hby d4_143)
  rw [show nar .char c2 = c2 from own_nar la_c2] at W18
  have O19 := O15.wr W18 ge_b6
  have K20 : Keep h0 h18 [] := K16.wr W18 (Or.inr sz_b6)
  have N21 := Fr.snoc X18 N17 ge_b6
  have F18 : Arv Z h18 b6 k6 .char (5 : Int32) [(.int c0), (.int c1), (.int c2), (.int (0 : Int32)), (.int (0 : Int32))] (.int (0 : Int32)) := Arv.set Ar18 q18 Sz18 Nn18 Hh18 Gg18 (by rw [← (own_nar la_c2 : nar .char c2 = c2)]; exact fits_nar_char _) W18 2 rfl (Nat.le_of_ble_eq_true rfl)
  obtain ⟨cl22, Ar22, q22, Sz22, Nn22, Hh22, Gg22⟩ := id F18
  have in22 : ¬ ((3 : Int32) < 0 ∨ cl22.slots.size ≤ ((3 : Int32)).toNatClampNeg) := inb_of Sz22 ⟨by decide, by decide⟩
  obtain ⟨T22, h22, X22, e22, W22, st22⟩ := stC X18 hx hZ e18 Ar22 (j := (3 : Int32)) in22 (g := (mkF m 148 #[.val (.int (5 : Int32)), .val (.int c0), .val (.int c1), .val (.int c2), .val (.int c3), .val (.int c4), .val (.int c5)] [(.int c3), (.int (3 : Int32)), (.ref b6), (.ref b6), (.ref b1), (.ref b1)])) rfl rfl (hb hby d4_148)
  rw [show nar .char c3 = c3 from own_nar la_c3] at W22
  have O23 := O19.wr W22 ge_b6
  have K24 : Keep h0 h22 [] := K20.wr W22 (Or.inr sz_b6)
  have N25 := Fr.snoc X22 N21 ge_b6
  have F22 : Arv Z h22 b6 k6 .char (5 : Int32) [(.int c0), (.int c1), (.int c2), (.int c3), (.int (0 : Int32))] (.int (0 : Int32)) := Arv.set Ar22 q22 Sz22 Nn22 Hh22 Gg22 (by rw [← (own_nar la_c3 : nar .char c3 = c3)]; exact fits_nar_char _) W22 3 rfl (Nat.le_of_ble_eq_true rfl)
  obtain ⟨cl26, Ar26, q26, Sz26, Nn26, Hh26, Gg26⟩ := id F22
  have in26 : ¬ ((4 : Int32) < 0 ∨ cl26.slots.size ≤ ((4 : Int32)).toNatClampNeg) := inb_of Sz26 ⟨by decide, by decide⟩
  obtain ⟨T26, h26, X26, e26, W26, st26⟩ := stC X22 hx hZ e22 Ar26 (j := (4 : Int32)) in26 (g := (mkF m 153 #[.val (.int (5 : Int32)), .val (.int c0), .val (.int c1), .val (.int c2), .val (.int c3), .val (.int c4), .val (.int c5)] [(.int c4), (.int (4 : Int32)), (.ref b6), (.ref b6), (.ref b1), (.ref b1)])) rfl rfl (hb hby d4_153)
  rw [show nar .char c4 = c4 from own_nar la_c4] at W26
  have O27 := O23.wr W26 ge_b6
  have K28 : Keep h0 h26 [] := K24.wr W26 (Or.inr sz_b6)
  have N29 := Fr.snoc X26 N25 ge_b6
  have F26 : Arv Z h26 b6 k6 .char (5 : Int32) [(.int c0), (.int c1), (.int c2), (.int c3), (.int c4)] (.int (0 : Int32)) := Arv.set Ar26 q26 Sz26 Nn26 Hh26 Gg26 (by rw [← (own_nar la_c4 : nar .char c4 = c4)]; exact fits_nar_char _) W26 4 rfl (Nat.le_of_ble_eq_true rfl)
  have f31 := (Exa.wr W26 (Exa.wr W22 (Exa.wr W18 (Exa.wr W14 (Exa.wr W10 (Exa.ext E6 A1))))))
  have f32 := (Fld.other W26 (Fld.other W22 (Fld.other W18 (Fld.other W14 (Fld.other W10 (Fld.ext E6 F4) (Or.inl ne7)) (Or.inl ne7)) (Or.inl ne7)) (Or.inl ne7)) (Or.inl ne7))
  have f33 := (Fld.other W26 (Fld.other W22 (Fld.other W18 (Fld.other W14 (Fld.other W10 (Fld.ext E6 F5) (Or.inl ne7)) (Or.inl ne7)) (Or.inl ne7)) (Or.inl ne7)) (Or.inl ne7))
  have la34 : ∀ c ∈ ([c0, c1, c2, c3, c4] : List Int32), ¬ c < 0 ∧ ¬ (255 : Int32) < c := by
    intro c hc
    simp only [List.mem_cons, List.not_mem_nil, or_false] at hc
    rcases hc with rfl | rfl | rfl | rfl | rfl
    · exact la_c0
    · exact la_c1
    · exact la_c2
    · exact la_c3
    · exact la_c4
  obtain ⟨_, _, ⟨T30, L30, k30, n30⟩, -, X30, ⟨Lc30, hQ30, l30, y30, z30⟩, st30⟩ := X26.specialBack hx (y := (⟨"java/lang/String", "<init>", "([C)V"⟩ : MethodName)) rfl hown (mvT hZ (own_w hw 42 rfl)) (mvT hZ (own_w hw 43 rfl)) (mvT hZ (own_w hw 44 rfl)) (by decide) (StrChars.Road.backV (W := 1) hZ hws (kI := 4) (own_w hw 6 rfl) (cs := [c0, c1, c2, c3, c4]) (bs := [c0.toInt8.toInt32, c1.toInt8.toInt32, c2.toInt8.toInt32, c3.toInt8.toInt32, c4.toInt8.toInt32]) (n := 5) ge_b1 (by rw [← O27.1]; exact O27.2.1) f31 f32 f33 F26 (S_C.ext O27.2) hzc rfl rfl (by decide) (by decide) la34 rfl (by decide) (by decide)) (g := (mkF m 154 #[.val (.int (5 : Int32)), .val (.int c0), .val (.int c1), .val (.int c2), .val (.int c3), .val (.int c4), .val (.int c5)] [(.ref b6), (.ref b1), (.ref b1)])) rfl (by rw [hml]; rfl) (Steps.refl _) (a := b1) (argsL := [(.ref b6)]) (rest := [(.ref b1)]) (lenOf pd_2 rfl) rfl (by show 2 * 0 + _ ≤ _; exact Nat.le_of_eq rfl) (hb hby d4_154) (fun _ _ => ⟨rfl, e26, (by decide : 2 + 1 ≤ _), (by decide : 9 + 5 ≤ _)⟩)
  dsimp only [Pt.U, Pt.locs, Pt.cells, Pt.slots] at X30 l30 y30 z30 st30 hQ30
  subst l30 y30 z30
  obtain ⟨rfl, f37, f38, f39, f40, x35, x36, f41, f42, qf42, f43, f44⟩ := hQ30
  have N45 := Fr.app N29 f37
  have ge46 : n0 ≤ x35 := by rw [← O27.1]; exact Nat.le_trans O27.2.1 f42
  have sz46 : h0.size ≤ x35 := Nat.le_trans K28.1 f42
  have ne47 : b1 ≠ x35 := Nat.ne_of_lt (Nat.lt_of_lt_of_le (Exa.lt f31) f42)
  have f48 := (Exa.wr W26 (Exa.wr W22 (Exa.wr W18 (Exa.wr W14 (Exa.wr W10 B6)))))
  have ne49 : b6 ≠ x35 := Nat.ne_of_lt (Nat.lt_of_lt_of_le (Exa.lt f48) f42)
  have O50 := O27.keep f38 (allS ge_b1 all0)
  have K51 : Keep h0 T30.heap [] := K28.trans f38 (allS (Or.inr sz_b1) all0)
  have S52 : ∀ t, Steps p.tables e below (T30.setTop (mkF m 157 #[.val (.int (5 : Int32)), .val (.int c0), .val (.int c1), .val (.int c2), .val (.int c3), .val (.int c4), .val (.int c5)] [(.ref b1)])) t → Steps p.tables e below (s₁.setTop (mkF m 0 #[.val (.int (5 : Int32)), .val (.int c0), .val (.int c1), .val (.int c2), .val (.int c3), .val (.int c4), .val (.int c5)] [])) t := by
    intro t kt
    refine XS.iloadN X0.here hx rfl (hb hby d4_0) rfl ?_
    refine XS.ifYes X0.here hx rfl (pc0 := 1) (pc' := 15) rfl (hb hby d4_1) rfl ((if0 _ _).trans (feq ((by decide) : ¬ ((5 : Int32) = (0 : Int32)))).2) (by decide) (by decide) ?_
    refine XS.iloadN X0.here hx rfl (hb hby d4_15) rfl ?_
    refine XS.iconst X0.here hx rfl (hb hby d4_16) ?_
    refine XS.icmpYes X0.here hx rfl (pc0 := 17) (pc' := 35) rfl (hb hby d4_17) rfl (feq ((by decide) : ¬ ((5 : Int32) = (1 : Int32)))).2 (by decide) (by decide) ?_
    refine XS.iloadN X0.here hx rfl (hb hby d4_35) rfl ?_
    show Steps p.tables e below (s₁.setTop (mkF m 36 #[.val (.int (5 : Int32)), .val (.int c0), .val (.int c1), .val (.int c2), .val (.int c3), .val (.int c4), .val (.int c5)] [(.int (5 : Int32))])) _
    refine XS.iconst X0.here hx rfl (hb hby d4_36) ?_
    refine XS.icmpYes X0.here hx rfl (pc0 := 37) (pc' := 59) rfl (hb hby d4_37) rfl (feq ((by decide) : ¬ ((5 : Int32) = (2 : Int32)))).2 (by decide) (by decide) ?_
    refine XS.iloadN X0.here hx rfl (hb hby d4_59) rfl ?_
    refine XS.iconst X0.here hx rfl (hb hby d4_60) ?_
    refine XS.icmpYes X0.here hx rfl (pc0 := 61) (pc' := 87) rfl (hb hby d4_61) rfl (feq ((by decide) : ¬ ((5 : Int32) = (3 : Int32)))).2 (by decide) (by decide) ?_
    refine XS.iloadN X0.here hx rfl (hb hby d4_87) rfl ?_
    show Steps p.tables e below (s₁.setTop (mkF m 88 #[.val (.int (5 : Int32)), .val (.int c0), .val (.int c1), .val (.int c2), .val (.int c3), .val (.int c4), .val (.int c5)] [(.int (5 : Int32))])) _
    refine XS.iconst X0.here hx rfl (hb hby d4_88) ?_
    refine XS.icmpYes X0.here hx rfl (pc0 := 89) (pc' := 120) rfl (hb hby d4_89) rfl (feq ((by decide) : ¬ ((5 : Int32) = (4 : Int32)))).2 (by decide) (by decide) ?_
    refine XS.iloadN X0.here hx rfl (hb hby d4_120) rfl ?_
    refine XS.iconst X0.here hx rfl (hb hby d4_121) ?_
    refine XS.icmpNo X0.here hx rfl (hb hby d4_122) rfl (teq ((by decide) : (5 : Int32) = (5 : Int32))).2 ?_
    show Steps p.tables e below (s₁.setTop (mkF m 125 #[.val (.int (5 : Int32)), .val (.int c0), .val (.int c1), .val (.int c2), .val (.int c3), .val (.int c4), .val (.int c5)] [])) _
    refine st1 _ ?_
    refine XS.dup X1.here hx rfl (hb hby d4_128) rfl rfl ?_
    refine XS.iconst X1.here hx rfl (hb hby d4_129) ?_
    show Steps p.tables e below (T1.setTop (mkF m 130 #[.val (.int (5 : Int32)), .val (.int c0), .val (.int c1), .val (.int c2), .val (.int c3), .val (.int c4), .val (.int c5)] [(.int (5 : Int32)), (.ref b1), (.ref b1)])) _
    refine st6 _ ?_
    refine XS.dup X6.here hx rfl (hb hby d4_132) rfl rfl ?_
    refine XS.iconst X6.here hx rfl (hb hby d4_133) ?_
    refine XS.iloadN X6.here hx rfl (hb hby d4_134) rfl ?_
    show Steps p.tables e below (T6.setTop (mkF m 135 #[.val (.int (5 : Int32)), .val (.int c0), .val (.int c1), .val (.int c2), .val (.int c3), .val (.int c4), .val (.int c5)] [(.int c0), (.int (0 : Int32)), (.ref b6), (.ref b6), (.ref b1), (.ref b1)])) _
    refine st10 _ ?_
    refine XS.dup X10.here hx rfl (hb hby d4_136) rfl rfl ?_
    refine XS.iconst X10.here hx rfl (hb hby d4_137) ?_
    refine XS.iloadN X10.here hx rfl (hb hby d4_138) rfl ?_
    show Steps p.tables e below (T10.setTop (mkF m 139 #[.val (.int (5 : Int32)), .val (.int c0), .val (.int c1), .val (.int c2), .val (.int c3), .val (.int c4), .val (.int c5)] [(.int c1), (.int (1 : Int32)), (.ref b6), (.ref b6), (.ref b1), (.ref b1)])) _
    refine st14 _ ?_
    refine XS.dup X14.here hx rfl (hb hby d4_140) rfl rfl ?_
    refine XS.iconst X14.here hx rfl (hb hby d4_141) ?_
    refine XS.iloadN X14.here hx rfl (hb hby d4_142) rfl ?_
    show Steps p.tables e below (T14.setTop (mkF m 143 #[.val (.int (5 : Int32)), .val (.int c0), .val (.int c1), .val (.int c2), .val (.int c3), .val (.int c4), .val (.int c5)] [(.int c2), (.int (2 : Int32)), (.ref b6), (.ref b6), (.ref b1), (.ref b1)])) _
    refine st18 _ ?_
    refine XS.dup X18.here hx rfl (hb hby d4_144) rfl rfl ?_
    refine XS.iconst X18.here hx rfl (hb hby d4_145) ?_
    refine XS.iload X18.here hx rfl (hb hby d4_146) rfl ?_
    show Steps p.tables e below (T18.setTop (mkF m 148 #[.val (.int (5 : Int32)), .val (.int c0), .val (.int c1), .val (.int c2), .val (.int c3), .val (.int c4), .val (.int c5)] [(.int c3), (.int (3 : Int32)), (.ref b6), (.ref b6), (.ref b1), (.ref b1)])) _
    refine st22 _ ?_
    refine XS.dup X22.here hx rfl (hb hby d4_149) rfl rfl ?_
    refine XS.iconst X22.here hx rfl (hb hby d4_150) ?_
    refine XS.iload X22.here hx rfl (hb hby d4_151) rfl ?_
    show Steps p.tables e below (T22.setTop (mkF m 153 #[.val (.int (5 : Int32)), .val (.int c0), .val (.int c1), .val (.int c2), .val (.int c3), .val (.int c4), .val (.int c5)] [(.int c4), (.int (4 : Int32)), (.ref b6), (.ref b6), (.ref b1), (.ref b1)])) _
    refine st26 _ ?_
    show Steps p.tables e below (T26.setTop (mkF m 154 #[.val (.int (5 : Int32)), .val (.int c0), .val (.int c1), .val (.int c2), .val (.int c3), .val (.int c4), .val (.int c5)] [(.ref b6), (.ref b1), (.ref b1)])) _
    refine st30.trans ?_
    exact kt
  obtain ⟨fs, hr, hrun, hended, hW, hsame⟩ := X30.leave (v := some (.ref b1)) (fun h => by rw [Bd.returns] at h; cases h)
  refine ⟨_, _, pre0 _ (S52 _ ?_), hrun, hended, _, _, rfl, ?_, ⟨_, rfl⟩, hW, hsame.mono (by decide) (by decide)⟩
  · exact retOut X30 hx Bd.returns rfl (Or.inr (Or.inr (Or.inr (Or.inr ⟨rfl, rfl, rfl⟩)))) (hb hby d4_157) hr
  · show Q_rm_str5 Z c0 c1 c2 c3 c4 c5 zc h0 n0 _ T30.heap _
    exact ⟨b1, x35, x36, rfl, N45, K51, sz_b1, f39, f43, f40, f44⟩
theorem d4_158 : decode method_3_code 158 = .ok (.new 10, 3) := by decide +kernel
theorem d4_161 : decode method_3_code 161 = .ok (.dup, 1) := by decide +kernel
theorem d4_162 : decode method_3_code 162 = .ok (.bipush 6, 2) := by decide +kernel
theorem d4_164 : decode method_3_code 164 = .ok (.newarray .char, 2) := by decide +kernel
theorem d4_166 : decode method_3_code 166 = .ok (.dup, 1) := by decide +kernel
theorem d4_167 : decode method_3_code 167 = .ok (.iconst 0, 1) := by decide +kernel
theorem d4_168 : decode method_3_code 168 = .ok (.iload_n 1, 1) := by decide +kernel
theorem d4_169 : decode method_3_code 169 = .ok (.castore, 1) := by decide +kernel
theorem d4_170 : decode method_3_code 170 = .ok (.dup, 1) := by decide +kernel
theorem d4_171 : decode method_3_code 171 = .ok (.iconst 1, 1) := by decide +kernel
theorem d4_172 : decode method_3_code 172 = .ok (.iload_n 2, 1) := by decide +kernel
theorem d4_173 : decode method_3_code 173 = .ok (.castore, 1) := by decide +kernel
theorem d4_174 : decode method_3_code 174 = .ok (.dup, 1) := by decide +kernel
theorem d4_175 : decode method_3_code 175 = .ok (.iconst 2, 1) := by decide +kernel
theorem d4_176 : decode method_3_code 176 = .ok (.iload_n 3, 1) := by decide +kernel
theorem d4_177 : decode method_3_code 177 = .ok (.castore, 1) := by decide +kernel
theorem d4_178 : decode method_3_code 178 = .ok (.dup, 1) := by decide +kernel
theorem d4_179 : decode method_3_code 179 = .ok (.iconst 3, 1) := by decide +kernel
theorem d4_180 : decode method_3_code 180 = .ok (.iload 4, 2) := by decide +kernel
theorem d4_182 : decode method_3_code 182 = .ok (.castore, 1) := by decide +kernel
theorem d4_183 : decode method_3_code 183 = .ok (.dup, 1) := by decide +kernel
theorem d4_184 : decode method_3_code 184 = .ok (.iconst 4, 1) := by decide +kernel
theorem d4_185 : decode method_3_code 185 = .ok (.iload 5, 2) := by decide +kernel
theorem d4_187 : decode method_3_code 187 = .ok (.castore, 1) := by decide +kernel
theorem d4_188 : decode method_3_code 188 = .ok (.dup, 1) := by decide +kernel
theorem d4_189 : decode method_3_code 189 = .ok (.iconst 5, 1) := by decide +kernel
theorem d4_190 : decode method_3_code 190 = .ok (.iload 6, 2) := by decide +kernel
theorem d4_192 : decode method_3_code 192 = .ok (.castore, 1) := by decide +kernel
theorem d4_193 : decode method_3_code 193 = .ok (.invokespecial 15, 3) := by decide +kernel
theorem d4_196 : decode method_3_code 196 = .ok (.areturn, 1) := by decide +kernel
theorem ef_rm_str6 (m : MethodId) (x0 : Int32) (x1 : Int32) (x2 : Int32) (x3 : Int32) (x4 : Int32) (x5 : Int32) (x6 : Int32) : entryFrame m #[(.int x0), (.int x1), (.int x2), (.int x3), (.int x4), (.int x5), (.int x6)] 7 = mkF m 0 #[.val (.int x0), .val (.int x1), .val (.int x2), .val (.int x3), .val (.int x4), .val (.int x5), .val (.int x6)] [] := by first | (simp [entryFrame, mkF, argsToLocals, Value.category]; done) | rfl
def Q_rm_str6 (Z : State) (c0 : Int32) (c1 : Int32) (c2 : Int32) (c3 : Int32) (c4 : Int32) (c5 : Int32) (zc : Int32) (h0 : Heap) (n0 : Nat) (v : Option Value) (h : Heap) (L : List Loc) : Prop := (∃ (x : Addr) (tx : Addr) (kx : ClassId), (v = some (.ref x)) ∧ (Fr n0 L) ∧ (Keep h0 h []) ∧ (h0.size ≤ x) ∧ (Exa Z h x "java/lang/String") ∧ (Fld Z h x "java/lang/String" "value" "[B" (.ref tx)) ∧ (Fld Z h x "java/lang/String" "coder" "B" (.int (0 : Int32))) ∧ (Arv Z h tx kx .byte (6 : Int32) [(.int c0.toInt8.toInt32), (.int c1.toInt8.toInt32), (.int c2.toInt8.toInt32), (.int c3.toInt8.toInt32), (.int c4.toInt8.toInt32), (.int c5.toInt8.toInt32)] (.int (0 : Int32))))
set_option maxRecDepth 65536 in
set_option maxHeartbeats 40000000 in
theorem rm_str6 (l : Launch) (Z : State) (a0 : Array Value) (hw : ∀ d ∈ tables_1, d.before a0 Z = true) (ws : List Jvm.Cond) (c0 : Int32) (c1 : Int32) (c2 : Int32) (c3 : Int32) (c4 : Int32) (c5 : Int32) (zc : Int32) (h0 : Heap) (n0 : Nat) (O0 : Old Z n0 h0) (la_c0 : ¬ (c0 < (0 : Int32)) ∧ ¬ ((255 : Int32) < c0)) (la_c1 : ¬ (c1 < (0 : Int32)) ∧ ¬ ((255 : Int32) < c1)) (la_c2 : ¬ (c2 < (0 : Int32)) ∧ ¬ ((255 : Int32) < c2)) (la_c3 : ¬ (c3 < (0 : Int32)) ∧ ¬ ((255 : Int32) < c3)) (la_c4 : ¬ (c4 < (0 : Int32)) ∧ ¬ ((255 : Int32) < c4)) (la_c5 : ¬ (c5 < (0 : Int32)) ∧ ¬ ((255 : Int32) < c5)) (S_C : Sta Z Z.heap "java/lang/String" "COMPACT_STRINGS" "Z" (.int zc)) (hzc : ¬ (zc = (0 : Int32))) :
    MetFree l (⟨"com/example/pico_notify/piconotify/XmlBoolPinLaw", "str", "(ICCCCCC)Ljava/lang/String;"⟩ : MethodName) (head1 (Jvm.Cond.code (⟨"com/example/pico_notify/piconotify/XmlBoolPinLaw", "str", "(ICCCCCC)Ljava/lang/String;"⟩ : MethodName) method_3_code 7 (some (.object "java/lang/String")) :: ws) ({ frames := 4, cells := 3, slots := 16, locals := 66 } : Room)) (fun a U => a = #[(.int (6 : Int32)), (.int c0), (.int c1), (.int c2), (.int c3), (.int c4), (.int c5)] ∧ Z.Warmed39 U.vm ∧ U.heap = h0) (fun _ _ _ _ _ => True) (fun _ U o U' => ∃ v L, o = .returned v ∧ Q_rm_str6 Z c0 c1 c2 c3 c4 c5 zc h0 n0 v U'.heap L ∧ FrameEnd U o U' L ({ frames := 4, cells := 3, slots := 16, locals := 66 } : Room).cells ({ frames := 4, cells := 3, slots := 16, locals := 66 } : Room).slots) := by
  refine MetFree.of_bodySF (plainFor_of_name pn_1) hisR ?_
  intro p e s m args below meth c s₁ Bd hml0 hP hK
  obtain ⟨rfl, hZ, hh⟩ := hP
  have hx := Bd.exec
  have hby := Bd.bytes
  have hml : c.maxLocals = 7 := hml0
  have hown : s.vm.findClass "com/example/pico_notify/piconotify/XmlBoolPinLaw" = some m.cls := findClass_of_methodNamed Bd.named
  have hnm := (name_of_methodNamed Bd.named Bd.method).1
  have X0 : Stand p l e ({ frames := 4, cells := 3, slots := 16, locals := 66 } : Room) s m #[(.int (6 : Int32)), (.int c0), (.int c1), (.int c2), (.int c3), (.int c4), (.int c5)] below meth c s₁ [] 0 0 := Stand.of_body Bd
  have e0 : s₁.heap = h0 := by rw [← hh, Bd.state]; rfl
  have N0 := Fr.nil n0
  have hwc : ∀ d ∈ StrChars.Road.wordsChN, d.before a0 Z = true := fun d hd => hw d (own_wordsChN d hd)
  have hwq : ∀ d ∈ StrChars.Road.wordsEq, d.before a0 Z = true := fun d hd => hw d (own_wordsEq d hd)
  have hws : ∀ d ∈ StrChars.Road.words, d.before a0 Z = true := fun d hd => hw d (own_words d hd)
  have K0 : Keep h0 h0 [] := Keep.refl _ _
  have pre0 : ∀ t, Steps p.tables e below (s₁.setTop (mkF m 0 #[.val (.int (6 : Int32)), .val (.int c0), .val (.int c1), .val (.int c2), .val (.int c3), .val (.int c4), .val (.int c5)] [])) t → Steps p.tables e below (s₁.setTop (entryFrame m #[(.int (6 : Int32)), (.int c0), (.int c1), (.int c2), (.int c3), (.int c4), (.int c5)] 7)) t := fun t k => castTop (ef_rm_str6 m (6 : Int32) c0 c1 c2 c3 c4 c5) k
  obtain ⟨T1, h1, X1, e1, E1, A1, D1, -, st1⟩ := newO X0 hx hZ hown (own_w hw 40 rfl) (own_w hw 6 rfl) (own_w hw 5 rfl) e0 (g := (mkF m 158 #[.val (.int (6 : Int32)), .val (.int c0), .val (.int c1), .val (.int c2), .val (.int c3), .val (.int c4), .val (.int c5)] [])) rfl (hb hby d4_158) (by decide) (by decide)
  obtain ⟨b1, g1⟩ : ∃ z, z = h0.size := ⟨_, rfl⟩
  have ge_b1 : n0 ≤ b1 := by rw [g1, ← O0.1]; exact O0.2.1
  have sz_b1 : h0.size ≤ b1 := by rw [g1]; exact K0.1
  rw [← g1] at A1 D1 st1
  have O2 := O0.ext E1
  have K3 : Keep h0 h1 [] := K0.ext E1
  have F4 : Fld Z h1 b1 "java/lang/String" "value" "[B" .null := D1 (Or.inr (own_w hw 8 rfl)) (ty := (.array .byte)) (by decide)
  have F5 : Fld Z h1 b1 "java/lang/String" "coder" "B" (.int (0 : Int32)) := D1 (Or.inr (own_w hw 9 rfl)) (ty := .byte) (by decide)
  obtain ⟨T6, h6, k6, X6, e6, E6, A6, B6, st6⟩ := newPE X1 hx hZ (own_w hw 41 rfl) e1 (g := (mkF m 164 #[.val (.int (6 : Int32)), .val (.int c0), .val (.int c1), .val (.int c2), .val (.int c3), .val (.int c4), .val (.int c5)] [(.int (6 : Int32)), (.ref b1), (.ref b1)])) rfl (hb hby d4_164) rfl (by decide) (cap := 6) (by decide) (by decide) (by decide) (by decide) (ad := "[C") (by first | rfl | decide)
  obtain ⟨b6, g6⟩ : ∃ z, z = h1.size := ⟨_, rfl⟩
  have ge_b6 : n0 ≤ b6 := by rw [g6, ← O2.1]; exact O2.2.1
  have sz_b6 : h0.size ≤ b6 := by rw [g6]; exact K3.1
  have ne7 : b1 ≠ b6 := Nat.ne_of_lt (Nat.lt_of_lt_of_le (Exa.lt A1) (Nat.le_of_eq g6.symm))
  rw [← g6] at A6 B6 st6
  have O8 := O2.ext E6
  have K9 : Keep h0 h6 [] := K3.ext E6
  have F6 : Arv Z h6 b6 k6 .char (6 : Int32) [(.int (0 : Int32)), (.int (0 : Int32)), (.int (0 : Int32)), (.int (0 : Int32)), (.int (0 : Int32)), (.int (0 : Int32))] (.int (0 : Int32)) := (Arv.new A6 (by decide)).pad (pad_rep [] (.int (0 : Int32)) 6)
  obtain ⟨cl10, Ar10, q10, Sz10, Nn10, Hh10, Gg10⟩ := id F6
  have in10 : ¬ ((0 : Int32) < 0 ∨ cl10.slots.size ≤ ((0 : Int32)).toNatClampNeg) := inb_of Sz10 ⟨by decide, by decide⟩
  obtain ⟨T10, h10, X10, e10, W10, st10⟩ := stC X6 hx hZ e6 Ar10 (j := (0 : Int32)) in10 (g := (mkF m 169 #[.val (.int (6 : Int32)), .val (.int c0), .val (.int c1), .val (.int c2), .val (.int c3), .val (.int c4), .val (.int c5)] [(.int c0), (.int (0 : Int32)), (.ref b6), (.ref b6), (.ref b1), (.ref b1)])) rfl rfl (hb hby d4_169)
  rw [show nar .char c0 = c0 from own_nar la_c0] at W10
  have O11 := O8.wr W10 ge_b6
  have K12 : Keep h0 h10 [] := K9.wr W10 (Or.inr sz_b6)
  have N13 := Fr.snoc X10 N0 ge_b6
  have F10 : Arv Z h10 b6 k6 .char (6 : Int32) [(.int c0), (.int (0 : Int32)), (.int (0 : Int32)), (.int (0 : Int32)), (.int (0 : Int32)), (.int (0 : Int32))] (.int (0 : Int32)) := Arv.set Ar10 q10 Sz10 Nn10 Hh10 Gg10 (by rw [← (own_nar la_c0 : nar .char c0 = c0)]; exact fits_nar_char _) W10 0 rfl (Nat.le_of_ble_eq_true rfl)
  obtain ⟨cl14, Ar14, q14, Sz14, Nn14, Hh14, Gg14⟩ := id F10
  have in14 : ¬ ((1 : Int32) < 0 ∨ cl14.slots.size ≤ ((1 : Int32)).toNatClampNeg) := inb_of Sz14 ⟨by decide, by decide⟩
  obtain ⟨T14, h14, X14, e14, W14, st14⟩ := stC X10 hx hZ e10 Ar14 (j := (1 : Int32)) in14 (g := (mkF m 173 #[.val (.int (6 : Int32)), .val (.int c0), .val (.int c1), .val (.int c2), .val (.int c3), .val (.int c4), .val (.int c5)] [(.int c1), (.int (1 : Int32)), (.ref b6), (.ref b6), (.ref b1), (.ref b1)])) rfl rfl (hb hby d4_173)
  rw [show nar .char c1 = c1 from own_nar la_c1] at W14
  have O15 := O11.wr W14 ge_b6
  have K16 : Keep h0 h14 [] := K12.wr W14 (Or.inr sz_b6)
  have N17 := Fr.snoc X14 N13 ge_b6
  have F14 : Arv Z h14 b6 k6 .char (6 : Int32) [(.int c0), (.int c1), (.int (0 : Int32)), (.int (0 : Int32)), (.int (0 : Int32)), (.int (0 : Int32))] (.int (0 : Int32)) := Arv.set Ar14 q14 Sz14 Nn14 Hh14 Gg14 (by rw [← (own_nar la_c1 : nar .char c1 = c1)]; exact fits_nar_char _) W14 1 rfl (Nat.le_of_ble_eq_true rfl)
  obtain ⟨cl18, Ar18, q18, Sz18, Nn18, Hh18, Gg18⟩ := id F14
  have in18 : ¬ ((2 : Int32) < 0 ∨ cl18.slots.size ≤ ((2 : Int32)).toNatClampNeg) := inb_of Sz18 ⟨by decide, by decide⟩
  obtain ⟨T18, h18, X18, e18, W18, st18⟩ := stC X14 hx hZ e14 Ar18 (j := (2 : Int32)) in18 (g := (mkF m 177 #[.val (.int (6 : Int32)), .val (.int c0), .val (.int c1), .val (.int c2), .val (.int c3), .val (.int c4), .val (.int c5)] [(.int c2), (.int (2 : Int32)), (.ref b6), (.ref b6), (.ref b1), (.ref b1)])) rfl rfl (hb hby d4_177)
  rw [show nar .char c2 = c2 from own_nar la_c2] at W18
  have O19 := O15.wr W18 ge_b6
  have K20 : Keep h0 h18 [] := K16.wr W18 (Or.inr sz_b6)
  have N21 := Fr.snoc X18 N17 ge_b6
  have F18 : Arv Z h18 b6 k6 .char (6 : Int32) [(.int c0), (.int c1), (.int c2), (.int (0 : Int32)), (.int (0 : Int32)), (.int (0 : Int32))] (.int (0 : Int32)) := Arv.set Ar18 q18 Sz18 Nn18 Hh18 Gg18 (by rw [← (own_nar la_c2 : nar .char c2 = c2)]; exact fits_nar_char _) W18 2 rfl (Nat.le_of_ble_eq_true rfl)
  obtain ⟨cl22, Ar22, q22, Sz22, Nn22, Hh22, Gg22⟩ := id F18
  have in22 : ¬ ((3 : Int32) < 0 ∨ cl22.slots.size ≤ ((3 : Int32)).toNatClampNeg) := inb_of Sz22 ⟨by decide, by decide⟩
  obtain ⟨T22, h22, X22, e22, W22, st22⟩ := stC X18 hx hZ e18 Ar22 (j := (3 : Int32)) in22 (g := (mkF m 182 #[.val (.int (6 : Int32)), .val (.int c0), .val (.int c1), .val (.int c2), .val (.int c3), .val (.int c4), .val (.int c5)] [(.int c3), (.int (3 : Int32)), (.ref b6), (.ref b6), (.ref b1), (.ref b1)])) rfl rfl (hb hby d4_182)
  rw [show nar .char c3 = c3 from own_nar la_c3] at W22
  have O23 := O19.wr W22 ge_b6
  have K24 : Keep h0 h22 [] := K20.wr W22 (Or.inr sz_b6)
  have N25 := Fr.snoc X22 N21 ge_b6
  have F22 : Arv Z h22 b6 k6 .char (6 : Int32) [(.int c0), (.int c1), (.int c2), (.int c3), (.int (0 : Int32)), (.int (0 : Int32))] (.int (0 : Int32)) := Arv.set Ar22 q22 Sz22 Nn22 Hh22 Gg22 (by rw [← (own_nar la_c3 : nar .char c3 = c3)]; exact fits_nar_char _) W22 3 rfl (Nat.le_of_ble_eq_true rfl)
  obtain ⟨cl26, Ar26, q26, Sz26, Nn26, Hh26, Gg26⟩ := id F22
  have in26 : ¬ ((4 : Int32) < 0 ∨ cl26.slots.size ≤ ((4 : Int32)).toNatClampNeg) := inb_of Sz26 ⟨by decide, by decide⟩
  obtain ⟨T26, h26, X26, e26, W26, st26⟩ := stC X22 hx hZ e22 Ar26 (j := (4 : Int32)) in26 (g := (mkF m 187 #[.val (.int (6 : Int32)), .val (.int c0), .val (.int c1), .val (.int c2), .val (.int c3), .val (.int c4), .val (.int c5)] [(.int c4), (.int (4 : Int32)), (.ref b6), (.ref b6), (.ref b1), (.ref b1)])) rfl rfl (hb hby d4_187)
  rw [show nar .char c4 = c4 from own_nar la_c4] at W26
  have O27 := O23.wr W26 ge_b6
  have K28 : Keep h0 h26 [] := K24.wr W26 (Or.inr sz_b6)
  have N29 := Fr.snoc X26 N25 ge_b6
  have F26 : Arv Z h26 b6 k6 .char (6 : Int32) [(.int c0), (.int c1), (.int c2), (.int c3), (.int c4), (.int (0 : Int32))] (.int (0 : Int32)) := Arv.set Ar26 q26 Sz26 Nn26 Hh26 Gg26 (by rw [← (own_nar la_c4 : nar .char c4 = c4)]; exact fits_nar_char _) W26 4 rfl (Nat.le_of_ble_eq_true rfl)
  obtain ⟨cl30, Ar30, q30, Sz30, Nn30, Hh30, Gg30⟩ := id F26
  have in30 : ¬ ((5 : Int32) < 0 ∨ cl30.slots.size ≤ ((5 : Int32)).toNatClampNeg) := inb_of Sz30 ⟨by decide, by decide⟩
  obtain ⟨T30, h30, X30, e30, W30, st30⟩ := stC X26 hx hZ e26 Ar30 (j := (5 : Int32)) in30 (g := (mkF m 192 #[.val (.int (6 : Int32)), .val (.int c0), .val (.int c1), .val (.int c2), .val (.int c3), .val (.int c4), .val (.int c5)] [(.int c5), (.int (5 : Int32)), (.ref b6), (.ref b6), (.ref b1), (.ref b1)])) rfl rfl (hb hby d4_192)
  rw [show nar .char c5 = c5 from own_nar la_c5] at W30
  have O31 := O27.wr W30 ge_b6
  have K32 : Keep h0 h30 [] := K28.wr W30 (Or.inr sz_b6)
  have N33 := Fr.snoc X30 N29 ge_b6
  have F30 : Arv Z h30 b6 k6 .char (6 : Int32) [(.int c0), (.int c1), (.int c2), (.int c3), (.int c4), (.int c5)] (.int (0 : Int32)) := Arv.set Ar30 q30 Sz30 Nn30 Hh30 Gg30 (by rw [← (own_nar la_c5 : nar .char c5 = c5)]; exact fits_nar_char _) W30 5 rfl (Nat.le_of_ble_eq_true rfl)
  have f35 := (Exa.wr W30 (Exa.wr W26 (Exa.wr W22 (Exa.wr W18 (Exa.wr W14 (Exa.wr W10 (Exa.ext E6 A1)))))))
  have f36 := (Fld.other W30 (Fld.other W26 (Fld.other W22 (Fld.other W18 (Fld.other W14 (Fld.other W10 (Fld.ext E6 F4) (Or.inl ne7)) (Or.inl ne7)) (Or.inl ne7)) (Or.inl ne7)) (Or.inl ne7)) (Or.inl ne7))
  have f37 := (Fld.other W30 (Fld.other W26 (Fld.other W22 (Fld.other W18 (Fld.other W14 (Fld.other W10 (Fld.ext E6 F5) (Or.inl ne7)) (Or.inl ne7)) (Or.inl ne7)) (Or.inl ne7)) (Or.inl ne7)) (Or.inl ne7))
  have la38 : ∀ c ∈ ([c0, c1, c2, c3, c4, c5] : List Int32), ¬ c < 0 ∧ ¬ (255 : Int32) < c := by
    intro c hc
    simp only [List.mem_cons, List.not_mem_nil, or_false] at hc
    rcases hc with rfl | rfl | rfl | rfl | rfl | rfl
    · exact la_c0
    · exact la_c1
    · exact la_c2
    · exact la_c3
    · exact la_c4
    · exact la_c5
  obtain ⟨_, _, ⟨T34, L34, k34, n34⟩, -, X34, ⟨Lc34, hQ34, l34, y34, z34⟩, st34⟩ := X30.specialBack hx (y := (⟨"java/lang/String", "<init>", "([C)V"⟩ : MethodName)) rfl hown (mvT hZ (own_w hw 42 rfl)) (mvT hZ (own_w hw 43 rfl)) (mvT hZ (own_w hw 44 rfl)) (by decide) (StrChars.Road.backV (W := 1) hZ hws (kI := 4) (own_w hw 6 rfl) (cs := [c0, c1, c2, c3, c4, c5]) (bs := [c0.toInt8.toInt32, c1.toInt8.toInt32, c2.toInt8.toInt32, c3.toInt8.toInt32, c4.toInt8.toInt32, c5.toInt8.toInt32]) (n := 6) ge_b1 (by rw [← O31.1]; exact O31.2.1) f35 f36 f37 F30 (S_C.ext O31.2) hzc rfl rfl (by decide) (by decide) la38 rfl (by decide) (by decide)) (g := (mkF m 193 #[.val (.int (6 : Int32)), .val (.int c0), .val (.int c1), .val (.int c2), .val (.int c3), .val (.int c4), .val (.int c5)] [(.ref b6), (.ref b1), (.ref b1)])) rfl (by rw [hml]; rfl) (Steps.refl _) (a := b1) (argsL := [(.ref b6)]) (rest := [(.ref b1)]) (lenOf pd_2 rfl) rfl (by show 2 * 0 + _ ≤ _; exact Nat.le_of_eq rfl) (hb hby d4_193) (fun _ _ => ⟨rfl, e30, (by decide : 2 + 1 ≤ _), (by decide : 10 + 6 ≤ _)⟩)
  dsimp only [Pt.U, Pt.locs, Pt.cells, Pt.slots] at X34 l34 y34 z34 st34 hQ34
  subst l34 y34 z34
  obtain ⟨rfl, f41, f42, f43, f44, x39, x40, f45, f46, qf46, f47, f48⟩ := hQ34
  have N49 := Fr.app N33 f41
  have ge50 : n0 ≤ x39 := by rw [← O31.1]; exact Nat.le_trans O31.2.1 f46
  have sz50 : h0.size ≤ x39 := Nat.le_trans K32.1 f46
  have ne51 : b1 ≠ x39 := Nat.ne_of_lt (Nat.lt_of_lt_of_le (Exa.lt f35) f46)
  have f52 := (Exa.wr W30 (Exa.wr W26 (Exa.wr W22 (Exa.wr W18 (Exa.wr W14 (Exa.wr W10 B6))))))
  have ne53 : b6 ≠ x39 := Nat.ne_of_lt (Nat.lt_of_lt_of_le (Exa.lt f52) f46)
  have O54 := O31.keep f42 (allS ge_b1 all0)
  have K55 : Keep h0 T34.heap [] := K32.trans f42 (allS (Or.inr sz_b1) all0)
  have S56 : ∀ t, Steps p.tables e below (T34.setTop (mkF m 196 #[.val (.int (6 : Int32)), .val (.int c0), .val (.int c1), .val (.int c2), .val (.int c3), .val (.int c4), .val (.int c5)] [(.ref b1)])) t → Steps p.tables e below (s₁.setTop (mkF m 0 #[.val (.int (6 : Int32)), .val (.int c0), .val (.int c1), .val (.int c2), .val (.int c3), .val (.int c4), .val (.int c5)] [])) t := by
    intro t kt
    refine XS.iloadN X0.here hx rfl (hb hby d4_0) rfl ?_
    refine XS.ifYes X0.here hx rfl (pc0 := 1) (pc' := 15) rfl (hb hby d4_1) rfl ((if0 _ _).trans (feq ((by decide) : ¬ ((6 : Int32) = (0 : Int32)))).2) (by decide) (by decide) ?_
    refine XS.iloadN X0.here hx rfl (hb hby d4_15) rfl ?_
    refine XS.iconst X0.here hx rfl (hb hby d4_16) ?_
    refine XS.icmpYes X0.here hx rfl (pc0 := 17) (pc' := 35) rfl (hb hby d4_17) rfl (feq ((by decide) : ¬ ((6 : Int32) = (1 : Int32)))).2 (by decide) (by decide) ?_
    refine XS.iloadN X0.here hx rfl (hb hby d4_35) rfl ?_
    show Steps p.tables e below (s₁.setTop (mkF m 36 #[.val (.int (6 : Int32)), .val (.int c0), .val (.int c1), .val (.int c2), .val (.int c3), .val (.int c4), .val (.int c5)] [(.int (6 : Int32))])) _
    refine XS.iconst X0.here hx rfl (hb hby d4_36) ?_
    refine XS.icmpYes X0.here hx rfl (pc0 := 37) (pc' := 59) rfl (hb hby d4_37) rfl (feq ((by decide) : ¬ ((6 : Int32) = (2 : Int32)))).2 (by decide) (by decide) ?_
    refine XS.iloadN X0.here hx rfl (hb hby d4_59) rfl ?_
    refine XS.iconst X0.here hx rfl (hb hby d4_60) ?_
    refine XS.icmpYes X0.here hx rfl (pc0 := 61) (pc' := 87) rfl (hb hby d4_61) rfl (feq ((by decide) : ¬ ((6 : Int32) = (3 : Int32)))).2 (by decide) (by decide) ?_
    refine XS.iloadN X0.here hx rfl (hb hby d4_87) rfl ?_
    show Steps p.tables e below (s₁.setTop (mkF m 88 #[.val (.int (6 : Int32)), .val (.int c0), .val (.int c1), .val (.int c2), .val (.int c3), .val (.int c4), .val (.int c5)] [(.int (6 : Int32))])) _
    refine XS.iconst X0.here hx rfl (hb hby d4_88) ?_
    refine XS.icmpYes X0.here hx rfl (pc0 := 89) (pc' := 120) rfl (hb hby d4_89) rfl (feq ((by decide) : ¬ ((6 : Int32) = (4 : Int32)))).2 (by decide) (by decide) ?_
    refine XS.iloadN X0.here hx rfl (hb hby d4_120) rfl ?_
    refine XS.iconst X0.here hx rfl (hb hby d4_121) ?_
    refine XS.icmpYes X0.here hx rfl (pc0 := 122) (pc' := 158) rfl (hb hby d4_122) rfl (feq ((by decide) : ¬ ((6 : Int32) = (5 : Int32)))).2 (by decide) (by decide) ?_
    show Steps p.tables e below (s₁.setTop (mkF m 158 #[.val (.int (6 : Int32)), .val (.int c0), .val (.int c1), .val (.int c2), .val (.int c3), .val (.int c4), .val (.int c5)] [])) _
    refine st1 _ ?_
    refine XS.dup X1.here hx rfl (hb hby d4_161) rfl rfl ?_
    refine XS.bipush X1.here hx rfl (hb hby d4_162) ?_
    show Steps p.tables e below (T1.setTop (mkF m 164 #[.val (.int (6 : Int32)), .val (.int c0), .val (.int c1), .val (.int c2), .val (.int c3), .val (.int c4), .val (.int c5)] [(.int (6 : Int32)), (.ref b1), (.ref b1)])) _
    refine st6 _ ?_
    refine XS.dup X6.here hx rfl (hb hby d4_166) rfl rfl ?_
    refine XS.iconst X6.here hx rfl (hb hby d4_167) ?_
    refine XS.iloadN X6.here hx rfl (hb hby d4_168) rfl ?_
    show Steps p.tables e below (T6.setTop (mkF m 169 #[.val (.int (6 : Int32)), .val (.int c0), .val (.int c1), .val (.int c2), .val (.int c3), .val (.int c4), .val (.int c5)] [(.int c0), (.int (0 : Int32)), (.ref b6), (.ref b6), (.ref b1), (.ref b1)])) _
    refine st10 _ ?_
    refine XS.dup X10.here hx rfl (hb hby d4_170) rfl rfl ?_
    refine XS.iconst X10.here hx rfl (hb hby d4_171) ?_
    refine XS.iloadN X10.here hx rfl (hb hby d4_172) rfl ?_
    show Steps p.tables e below (T10.setTop (mkF m 173 #[.val (.int (6 : Int32)), .val (.int c0), .val (.int c1), .val (.int c2), .val (.int c3), .val (.int c4), .val (.int c5)] [(.int c1), (.int (1 : Int32)), (.ref b6), (.ref b6), (.ref b1), (.ref b1)])) _
    refine st14 _ ?_
    refine XS.dup X14.here hx rfl (hb hby d4_174) rfl rfl ?_
    refine XS.iconst X14.here hx rfl (hb hby d4_175) ?_
    refine XS.iloadN X14.here hx rfl (hb hby d4_176) rfl ?_
    show Steps p.tables e below (T14.setTop (mkF m 177 #[.val (.int (6 : Int32)), .val (.int c0), .val (.int c1), .val (.int c2), .val (.int c3), .val (.int c4), .val (.int c5)] [(.int c2), (.int (2 : Int32)), (.ref b6), (.ref b6), (.ref b1), (.ref b1)])) _
    refine st18 _ ?_
    refine XS.dup X18.here hx rfl (hb hby d4_178) rfl rfl ?_
    refine XS.iconst X18.here hx rfl (hb hby d4_179) ?_
    refine XS.iload X18.here hx rfl (hb hby d4_180) rfl ?_
    show Steps p.tables e below (T18.setTop (mkF m 182 #[.val (.int (6 : Int32)), .val (.int c0), .val (.int c1), .val (.int c2), .val (.int c3), .val (.int c4), .val (.int c5)] [(.int c3), (.int (3 : Int32)), (.ref b6), (.ref b6), (.ref b1), (.ref b1)])) _
    refine st22 _ ?_
    refine XS.dup X22.here hx rfl (hb hby d4_183) rfl rfl ?_
    refine XS.iconst X22.here hx rfl (hb hby d4_184) ?_
    refine XS.iload X22.here hx rfl (hb hby d4_185) rfl ?_
    show Steps p.tables e below (T22.setTop (mkF m 187 #[.val (.int (6 : Int32)), .val (.int c0), .val (.int c1), .val (.int c2), .val (.int c3), .val (.int c4), .val (.int c5)] [(.int c4), (.int (4 : Int32)), (.ref b6), (.ref b6), (.ref b1), (.ref b1)])) _
    refine st26 _ ?_
    refine XS.dup X26.here hx rfl (hb hby d4_188) rfl rfl ?_
    refine XS.iconst X26.here hx rfl (hb hby d4_189) ?_
    refine XS.iload X26.here hx rfl (hb hby d4_190) rfl ?_
    show Steps p.tables e below (T26.setTop (mkF m 192 #[.val (.int (6 : Int32)), .val (.int c0), .val (.int c1), .val (.int c2), .val (.int c3), .val (.int c4), .val (.int c5)] [(.int c5), (.int (5 : Int32)), (.ref b6), (.ref b6), (.ref b1), (.ref b1)])) _
    refine st30 _ ?_
    show Steps p.tables e below (T30.setTop (mkF m 193 #[.val (.int (6 : Int32)), .val (.int c0), .val (.int c1), .val (.int c2), .val (.int c3), .val (.int c4), .val (.int c5)] [(.ref b6), (.ref b1), (.ref b1)])) _
    refine st34.trans ?_
    exact kt
  obtain ⟨fs, hr, hrun, hended, hW, hsame⟩ := X34.leave (v := some (.ref b1)) (fun h => by rw [Bd.returns] at h; cases h)
  refine ⟨_, _, pre0 _ (S56 _ ?_), hrun, hended, _, _, rfl, ?_, ⟨_, rfl⟩, hW, hsame.mono (by decide) (by decide)⟩
  · exact retOut X34 hx Bd.returns rfl (Or.inr (Or.inr (Or.inr (Or.inr ⟨rfl, rfl, rfl⟩)))) (hb hby d4_196) hr
  · show Q_rm_str6 Z c0 c1 c2 c3 c4 c5 zc h0 n0 _ T34.heap _
    exact ⟨b1, x39, x40, rfl, N49, K55, sz_b1, f43, f47, f44, f48⟩
theorem d5_0 : decode prog_46_method_18_code 0 = .ok (.ldc 246, 2) := by decide +kernel
theorem d5_2 : decode prog_46_method_18_code 2 = .ok (.aload_n 0, 1) := by decide +kernel
theorem d5_3 : decode prog_46_method_18_code 3 = .ok (.invokevirtual 191, 3) := by decide +kernel
theorem pd_3 : parseMethodDescriptor "(Ljava/lang/Object;)Z" = some ⟨[(.object "java/lang/Object")], some .boolean⟩ := by decide +kernel
theorem d5_6 : decode prog_46_method_18_code 6 = .ok (.ifCond .ne 12, 3) := by decide +kernel
theorem d5_9 : decode prog_46_method_18_code 9 = .ok (.ldc 248, 2) := by decide +kernel
theorem d5_11 : decode prog_46_method_18_code 11 = .ok (.aload_n 0, 1) := by decide +kernel
theorem d5_12 : decode prog_46_method_18_code 12 = .ok (.invokevirtual 191, 3) := by decide +kernel
theorem d5_15 : decode prog_46_method_18_code 15 = .ok (.ifCond .eq 10, 3) := by decide +kernel
theorem d5_25 : decode prog_46_method_18_code 25 = .ok (.ldc_w 256, 3) := by decide +kernel
theorem d5_28 : decode prog_46_method_18_code 28 = .ok (.aload_n 0, 1) := by decide +kernel
theorem d5_29 : decode prog_46_method_18_code 29 = .ok (.invokevirtual 191, 3) := by decide +kernel
theorem d5_32 : decode prog_46_method_18_code 32 = .ok (.ifCond .ne 13, 3) := by decide +kernel
theorem d5_35 : decode prog_46_method_18_code 35 = .ok (.ldc_w 258, 3) := by decide +kernel
theorem d5_38 : decode prog_46_method_18_code 38 = .ok (.aload_n 0, 1) := by decide +kernel
theorem d5_39 : decode prog_46_method_18_code 39 = .ok (.invokevirtual 191, 3) := by decide +kernel
theorem d5_42 : decode prog_46_method_18_code 42 = .ok (.ifCond .eq 10, 3) := by decide +kernel
theorem d5_52 : decode prog_46_method_18_code 52 = .ok (.aconst_null, 1) := by decide +kernel
theorem d5_53 : decode prog_46_method_18_code 53 = .ok (.astore_n 1, 1) := by decide +kernel
theorem d5_54 : decode prog_46_method_18_code 54 = .ok (.aload_n 1, 1) := by decide +kernel
theorem d5_55 : decode prog_46_method_18_code 55 = .ok (.areturn, 1) := by decide +kernel
theorem pn_2 : plainName "com/example/pico_notify/piconotify/Xml" = true := by first | (simp [plainName, overriddenIn]; done) | decide +kernel
theorem ef_rm_bool0 (m : MethodId) (x0 : Addr) : entryFrame m #[(.ref x0)] 2 = mkF m 0 #[.val (.ref x0), .unset] [] := by first | (simp [entryFrame, mkF, argsToLocals, Value.category]; done) | rfl
def Q_rm_bool0 (Z : State) (x : Addr) (tx : Addr) (kx : ClassId) (zc : Int32) (wT : Addr) (wF : Addr) (h0 : Heap) (n0 : Nat) (v : Option Value) (h : Heap) (L : List Loc) : Prop := ((v = some .null) ∧ (Fr n0 L) ∧ (Keep h0 h []))
set_option maxRecDepth 65536 in
set_option maxHeartbeats 40000000 in
theorem rm_bool0 (l : Launch) (Z : State) (a0 : Array Value) (hw : ∀ d ∈ tables_1, d.before a0 Z = true) (ws : List Jvm.Cond) (x : Addr) (tx : Addr) (kx : ClassId) (zc : Int32) (wT : Addr) (wF : Addr) (h0 : Heap) (n0 : Nat) (O0 : Old Z n0 h0) (E_x : Exa Z h0 x "java/lang/String") (V_x : Fld Z h0 x "java/lang/String" "value" "[B" (.ref tx)) (C_x : Fld Z h0 x "java/lang/String" "coder" "B" (.int (0 : Int32))) (K_x : Arv Z h0 tx kx .byte (0 : Int32) [] (.int (0 : Int32))) (S_C : Sta Z Z.heap "java/lang/String" "COMPACT_STRINGS" "Z" (.int zc)) (hzc : ¬ (zc = (0 : Int32))) (S_T : Sta Z Z.heap "java/lang/Boolean" "TRUE" "Ljava/lang/Boolean;" (.ref wT)) (S_F0 : Sta Z Z.heap "java/lang/Boolean" "FALSE" "Ljava/lang/Boolean;" (.ref wF)) :
    MetFree l (⟨"com/example/pico_notify/piconotify/Xml", "bool", "(Ljava/lang/String;)Ljava/lang/Boolean;"⟩ : MethodName) (head1 (Jvm.Cond.code (⟨"com/example/pico_notify/piconotify/Xml", "bool", "(Ljava/lang/String;)Ljava/lang/Boolean;"⟩ : MethodName) prog_46_method_18_code 2 (some (.object "java/lang/Boolean")) :: ws) ({ frames := 2, cells := 8, slots := 60, locals := 28 } : Room)) (fun a U => a = #[(.ref x)] ∧ Z.Warmed39 U.vm ∧ U.heap = h0 ∧ CHv Z own_EL U.vm h0 ∧ ∀ own_y ∈ ([] : List Addr), Safe Z own_EL U.vm h0 own_y) (fun _ _ _ _ _ => True) (fun _ U o U' => ∃ v L, o = .returned v ∧ Q_rm_bool0 Z x tx kx zc wT wF h0 n0 v U'.heap L ∧ CHr Z own_EL U.vm U.heap U'.vm U'.heap ∧ ReturnedEndW U o U' L ({ frames := 2, cells := 8, slots := 60, locals := 28 } : Room).cells ({ frames := 2, cells := 8, slots := 60, locals := 28 } : Room).slots) := by
  refine MetFree.of_bodySF (plainFor_of_name pn_2) hisR ?_
  intro p e s m args below meth c s₁ Bd hml0 hP hK
  obtain ⟨rfl, hZ, hh, hCH, hSf⟩ := hP
  have hx := Bd.exec
  have hby := Bd.bytes
  have hml : c.maxLocals = 2 := hml0
  have hown : s.vm.findClass "com/example/pico_notify/piconotify/Xml" = some m.cls := findClass_of_methodNamed Bd.named
  have hnm := (name_of_methodNamed Bd.named Bd.method).1
  have X0 : Stand p l e ({ frames := 2, cells := 8, slots := 60, locals := 28 } : Room) (s.setVm s.vm) m #[(.ref x)] below meth c s₁ [] 0 0 := Stand.of_body Bd
  have e0 : s₁.heap = h0 := by rw [← hh, Bd.state]; rfl
  have N0 := Fr.nil n0
  have hZ0 := hZ
  have ho0 := hown
  have hS0 : s.Since s.vm 0 := (State.WarmedH.refl s).since 0
  have hk0 : 0 ≤ h0.size := Nat.zero_le _
  have CR0 : CHr Z own_EL s.vm h0 s.vm h0 := CHr.refl hCH
  have own_at : ∀ d ∈ Bundle.stringAtoms, d.before a0 Z = true := fun d hd => hw d (own_atoms d hd)
  have own_ew : EW Z a0 own_EL := own_EWof hw
  have hwc : ∀ d ∈ StrChars.Road.wordsChN, d.before a0 Z = true := fun d hd => hw d (own_wordsChN d hd)
  have hwq : ∀ d ∈ StrChars.Road.wordsEq, d.before a0 Z = true := fun d hd => hw d (own_wordsEq d hd)
  have hws : ∀ d ∈ StrChars.Road.words, d.before a0 Z = true := fun d hd => hw d (own_words d hd)
  have K0 : Keep h0 h0 [] := Keep.refl _ _
  have pre0 : ∀ t, Steps p.tables e below (s₁.setTop (mkF m 0 #[.val (.ref x), .unset] [])) t → Steps p.tables e below (s₁.setTop (entryFrame m #[(.ref x)] 2)) t := fun t k => castTop (ef_rm_bool0 m x) k
  obtain ⟨x1, T1, h1, q1, y1, j1, X1, e1, E1, hS1, hk1, hZ1, ho1, fE1, fC1, fV1, fA1, la1, lb1, C1, -, ns1, st1⟩ := ldcCH X0 hx hZ0 ho0 (own_w hw 57 rfl) own_at e0 hS0 hk0 own_ew (by decide) CR0.1 (vs := [(.int (116 : Int32).toInt8.toInt32), (.int (114 : Int32).toInt8.toInt32), (.int (117 : Int32).toInt8.toInt32), (.int (101 : Int32).toInt8.toInt32)]) (z := (4 : Int32)) ⟨by decide, by decide +kernel⟩ (by decide) rfl (g := (mkF m 0 #[.val (.ref x), .unset] [])) rfl (hb hby d5_0) (n := 16) (by decide) (by decide) (by decide) (by decide)
  have O2 := O0.ext E1
  have K3 : Keep h0 h1 [] := K0.ext E1
  have CR4 := CR0.trans C1
  have la6 : ∀ c ∈ ([(116 : Int32), (114 : Int32), (117 : Int32), (101 : Int32)] : List Int32), ¬ c < 0 ∧ ¬ (255 : Int32) < c := by
    intro c hc
    simp only [List.mem_cons, List.not_mem_nil, or_false] at hc
    rcases hc with rfl | rfl | rfl | rfl
    · exact ⟨by decide, by decide⟩
    · exact ⟨by decide, by decide⟩
    · exact ⟨by decide, by decide⟩
    · exact ⟨by decide, by decide⟩
  have cd6 : StrChars.Road.CodA ([(116 : Int32), (114 : Int32), (117 : Int32), (101 : Int32)] : List Int32) 0 (4 : Int32) [(.int (116 : Int32).toInt8.toInt32), (.int (114 : Int32).toInt8.toInt32), (.int (117 : Int32).toInt8.toInt32), (.int (101 : Int32).toInt8.toInt32)] := StrChars.Road.codOf (n := 4) rfl (fun x hx => (la6 x hx).2)
  have bd6 := own_up la6
  have f7 := (Exa.ext E1 E_x)
  have f8 := (Fld.ext E1 V_x)
  have f9 := (Fld.ext E1 C_x)
  have f10 := (Arv.ext K_x E1)
  have la11 : ∀ c ∈ ([] : List Int32), ¬ c < 0 ∧ ¬ (255 : Int32) < c := fun c hc => nomatch hc
  have cd11 : StrChars.Road.CodA ([] : List Int32) 0 (0 : Int32) [] := StrChars.Road.codOf (n := 0) rfl (fun x hx => (la11 x hx).2)
  have bd11 := own_up la11
  obtain ⟨cq5, kq5, q5a, q5b, q5c⟩ := isOf hZ1 e1 fE1
  obtain ⟨_, _, ⟨T5, L5, k5, n5⟩, -, X5, ⟨Lc5, hQ5, l5, y5, z5⟩, st5⟩ := X1.virtualBack hx (y := (⟨"java/lang/String", "equals", "(Ljava/lang/Object;)Z"⟩ : MethodName)) (z := (⟨"java/lang/String", "equals", "(Ljava/lang/Object;)Z"⟩ : MethodName)) ho1 (mvT hZ1 (own_w hw 58 rfl)) (mvT hZ1 (own_w hw 59 rfl)) (notFace_of_selects (args := #[]) (mvT hZ1 (own_w hw 61 rfl))) (mvT hZ1 (own_w hw 61 rfl)) (mvT hZ1 (own_w hw 60 rfl)) (by decide) (StrChars.Road.eqW (W := 0) hZ1 hwq (kI := 4) (own_w hw 6 rfl) (cs := [(116 : Int32), (114 : Int32), (117 : Int32), (101 : Int32)]) fE1 fV1 fC1 fA1 cd6 bd6 (by show 4 ≤ 4000; decide) (ds := []) f7 f8 f9 f10 cd11 bd11 (by show 0 ≤ 4000; decide) (S_C.ext O2.2) hzc (by decide) (by decide)) q5a q5c (g := (mkF m 3 #[.val (.ref x), .unset] [(.ref x), (.ref x1)])) rfl (by rw [hml]; rfl) (Steps.refl _) (argsL := [(.ref x)]) (rest := []) (lenOf pd_3 rfl) rfl (by show 2 * 0 + _ ≤ _; exact Nat.le_of_eq rfl) (hb hby d5_3) (fun _ _ => ⟨rfl, e1, (by decide : 2 + 0 ≤ _), (by decide : 20 + 0 ≤ _)⟩)
  dsimp only [Pt.U, Pt.locs, Pt.cells, Pt.slots] at X5 l5 y5 z5 st5 hQ5
  subst l5 y5 z5
  obtain ⟨hQ5, rfl, k12⟩ := hQ5
  have N14 := Fr.app N0 (Fr.nil n0)
  rcases hQ5 with ⟨rfl, c13⟩ | ⟨rfl, c13⟩
  · exact absurd c13 (fun q => by have := congrArg List.length q; simp at this)
  · obtain ⟨x15, T15, h15, q15, y15, j15, X15, e15, E15, hS15, hk15, hZ15, ho15, fE15, fC15, fV15, fA15, la15, lb15, C15, -, ns15, st15⟩ := ldcCH X5 hx hZ1 ho1 (own_w hw 67 rfl) own_at k12 hS1 hk1 own_ew (by decide) CR4.1 (vs := [(.int (49 : Int32).toInt8.toInt32)]) (z := (1 : Int32)) ⟨by decide, by decide +kernel⟩ (by decide) rfl (g := (mkF m 9 #[.val (.ref x), .unset] [])) rfl (hb hby d5_9) (n := 4) (by decide) (by decide) (by decide) (by decide)
    have O16 := O2.ext E15
    have K17 : Keep h0 h15 [] := K3.ext E15
    have CR18 := CR4.trans C15
    have la20 : ∀ c ∈ ([(49 : Int32)] : List Int32), ¬ c < 0 ∧ ¬ (255 : Int32) < c := by
      intro c hc
      simp only [List.mem_cons, List.not_mem_nil, or_false] at hc
      rcases hc with rfl
      · exact ⟨by decide, by decide⟩
    have cd20 : StrChars.Road.CodA ([(49 : Int32)] : List Int32) 0 (1 : Int32) [(.int (49 : Int32).toInt8.toInt32)] := StrChars.Road.codOf (n := 1) rfl (fun x hx => (la20 x hx).2)
    have bd20 := own_up la20
    have f21 := (Exa.ext E15 f7)
    have f22 := (Fld.ext E15 f8)
    have f23 := (Fld.ext E15 f9)
    have f24 := (Arv.ext f10 E15)
    obtain ⟨cq19, kq19, q19a, q19b, q19c⟩ := isOf hZ15 e15 fE15
    obtain ⟨_, _, ⟨T19, L19, k19, n19⟩, -, X19, ⟨Lc19, hQ19, l19, y19, z19⟩, st19⟩ := X15.virtualBack hx (y := (⟨"java/lang/String", "equals", "(Ljava/lang/Object;)Z"⟩ : MethodName)) (z := (⟨"java/lang/String", "equals", "(Ljava/lang/Object;)Z"⟩ : MethodName)) ho15 (mvT hZ15 (own_w hw 58 rfl)) (mvT hZ15 (own_w hw 59 rfl)) (notFace_of_selects (args := #[]) (mvT hZ15 (own_w hw 61 rfl))) (mvT hZ15 (own_w hw 61 rfl)) (mvT hZ15 (own_w hw 60 rfl)) (by decide) (StrChars.Road.eqW (W := 0) hZ15 hwq (kI := 4) (own_w hw 6 rfl) (cs := [(49 : Int32)]) fE15 fV15 fC15 fA15 cd20 bd20 (by show 1 ≤ 4000; decide) (ds := []) f21 f22 f23 f24 cd11 bd11 (by show 0 ≤ 4000; decide) (S_C.ext O16.2) hzc (by decide) (by decide)) q19a q19c (g := (mkF m 12 #[.val (.ref x), .unset] [(.ref x), (.ref x15)])) rfl (by rw [hml]; rfl) (Steps.refl _) (argsL := [(.ref x)]) (rest := []) (lenOf pd_3 rfl) rfl (by show 2 * 0 + _ ≤ _; exact Nat.le_of_eq rfl) (hb hby d5_12) (fun _ _ => ⟨rfl, e15, (by decide : 4 + 0 ≤ _), (by decide : 28 + 0 ≤ _)⟩)
    dsimp only [Pt.U, Pt.locs, Pt.cells, Pt.slots] at X19 l19 y19 z19 st19 hQ19
    subst l19 y19 z19
    obtain ⟨hQ19, rfl, k25⟩ := hQ19
    have N27 := Fr.app N14 (Fr.nil n0)
    rcases hQ19 with ⟨rfl, c26⟩ | ⟨rfl, c26⟩
    · exact absurd c26 (fun q => by have := congrArg List.length q; simp at this)
    · obtain ⟨x28, T28, h28, q28, y28, j28, X28, e28, E28, hS28, hk28, hZ28, ho28, fE28, fC28, fV28, fA28, la28, lb28, C28, -, ns28, st28⟩ := own_ldcW X19 hx hZ15 ho15 (own_w hw 68 rfl) own_at k25 hS15 hk15 own_ew (by decide) CR18.1 (vs := [(.int (102 : Int32).toInt8.toInt32), (.int (97 : Int32).toInt8.toInt32), (.int (108 : Int32).toInt8.toInt32), (.int (115 : Int32).toInt8.toInt32), (.int (101 : Int32).toInt8.toInt32)]) (z := (5 : Int32)) ⟨by decide, by decide +kernel⟩ (by decide) rfl (g := (mkF m 25 #[.val (.ref x), .unset] [])) rfl (hb hby d5_25) (n := 20) (by decide) (by decide) (by decide) (by decide)
      have f29 := (Exa.ext E15 fE1)
      have f30 := (Arv.ext fA1 E15)
      have O31 := O16.ext E28
      have K32 : Keep h0 h28 [] := K17.ext E28
      have CR33 := CR18.trans C28
      have la35 : ∀ c ∈ ([(102 : Int32), (97 : Int32), (108 : Int32), (115 : Int32), (101 : Int32)] : List Int32), ¬ c < 0 ∧ ¬ (255 : Int32) < c := by
        intro c hc
        simp only [List.mem_cons, List.not_mem_nil, or_false] at hc
        rcases hc with rfl | rfl | rfl | rfl | rfl
        · exact ⟨by decide, by decide⟩
        · exact ⟨by decide, by decide⟩
        · exact ⟨by decide, by decide⟩
        · exact ⟨by decide, by decide⟩
        · exact ⟨by decide, by decide⟩
      have cd35 : StrChars.Road.CodA ([(102 : Int32), (97 : Int32), (108 : Int32), (115 : Int32), (101 : Int32)] : List Int32) 0 (5 : Int32) [(.int (102 : Int32).toInt8.toInt32), (.int (97 : Int32).toInt8.toInt32), (.int (108 : Int32).toInt8.toInt32), (.int (115 : Int32).toInt8.toInt32), (.int (101 : Int32).toInt8.toInt32)] := StrChars.Road.codOf (n := 5) rfl (fun x hx => (la35 x hx).2)
      have bd35 := own_up la35
      have f36 := (Exa.ext E28 f21)
      have f37 := (Fld.ext E28 f22)
      have f38 := (Fld.ext E28 f23)
      have f39 := (Arv.ext f24 E28)
      obtain ⟨cq34, kq34, q34a, q34b, q34c⟩ := isOf hZ28 e28 fE28
      obtain ⟨_, _, ⟨T34, L34, k34, n34⟩, -, X34, ⟨Lc34, hQ34, l34, y34, z34⟩, st34⟩ := X28.virtualBack hx (y := (⟨"java/lang/String", "equals", "(Ljava/lang/Object;)Z"⟩ : MethodName)) (z := (⟨"java/lang/String", "equals", "(Ljava/lang/Object;)Z"⟩ : MethodName)) ho28 (mvT hZ28 (own_w hw 58 rfl)) (mvT hZ28 (own_w hw 59 rfl)) (notFace_of_selects (args := #[]) (mvT hZ28 (own_w hw 61 rfl))) (mvT hZ28 (own_w hw 61 rfl)) (mvT hZ28 (own_w hw 60 rfl)) (by decide) (StrChars.Road.eqW (W := 0) hZ28 hwq (kI := 4) (own_w hw 6 rfl) (cs := [(102 : Int32), (97 : Int32), (108 : Int32), (115 : Int32), (101 : Int32)]) fE28 fV28 fC28 fA28 cd35 bd35 (by show 5 ≤ 4000; decide) (ds := []) f36 f37 f38 f39 cd11 bd11 (by show 0 ≤ 4000; decide) (S_C.ext O31.2) hzc (by decide) (by decide)) q34a q34c (g := (mkF m 29 #[.val (.ref x), .unset] [(.ref x), (.ref x28)])) rfl (by rw [hml]; rfl) (Steps.refl _) (argsL := [(.ref x)]) (rest := []) (lenOf pd_3 rfl) rfl (by show 2 * 0 + _ ≤ _; exact Nat.le_of_eq rfl) (hb hby d5_29) (fun _ _ => ⟨rfl, e28, (by decide : 6 + 0 ≤ _), (by decide : 52 + 0 ≤ _)⟩)
      dsimp only [Pt.U, Pt.locs, Pt.cells, Pt.slots] at X34 l34 y34 z34 st34 hQ34
      subst l34 y34 z34
      obtain ⟨hQ34, rfl, k40⟩ := hQ34
      have N42 := Fr.app N27 (Fr.nil n0)
      rcases hQ34 with ⟨rfl, c41⟩ | ⟨rfl, c41⟩
      · exact absurd c41 (fun q => by have := congrArg List.length q; simp at this)
      · obtain ⟨x43, T43, h43, q43, y43, j43, X43, e43, E43, hS43, hk43, hZ43, ho43, fE43, fC43, fV43, fA43, la43, lb43, C43, -, ns43, st43⟩ := own_ldcW X34 hx hZ28 ho28 (own_w hw 69 rfl) own_at k40 hS28 hk28 own_ew (by decide) CR33.1 (vs := [(.int (48 : Int32).toInt8.toInt32)]) (z := (1 : Int32)) ⟨by decide, by decide +kernel⟩ (by decide) rfl (g := (mkF m 35 #[.val (.ref x), .unset] [])) rfl (hb hby d5_35) (n := 4) (by decide) (by decide) (by decide) (by decide)
        have f44 := (Exa.ext E28 fE15)
        have f45 := (Arv.ext fA15 E28)
        have f46 := (Exa.ext E28 f29)
        have f47 := (Arv.ext f30 E28)
        have O48 := O31.ext E43
        have K49 : Keep h0 h43 [] := K32.ext E43
        have CR50 := CR33.trans C43
        have la52 : ∀ c ∈ ([(48 : Int32)] : List Int32), ¬ c < 0 ∧ ¬ (255 : Int32) < c := by
          intro c hc
          simp only [List.mem_cons, List.not_mem_nil, or_false] at hc
          rcases hc with rfl
          · exact ⟨by decide, by decide⟩
        have cd52 : StrChars.Road.CodA ([(48 : Int32)] : List Int32) 0 (1 : Int32) [(.int (48 : Int32).toInt8.toInt32)] := StrChars.Road.codOf (n := 1) rfl (fun x hx => (la52 x hx).2)
        have bd52 := own_up la52
        have f53 := (Exa.ext E43 f36)
        have f54 := (Fld.ext E43 f37)
        have f55 := (Fld.ext E43 f38)
        have f56 := (Arv.ext f39 E43)
        obtain ⟨cq51, kq51, q51a, q51b, q51c⟩ := isOf hZ43 e43 fE43
        obtain ⟨_, _, ⟨T51, L51, k51, n51⟩, -, X51, ⟨Lc51, hQ51, l51, y51, z51⟩, st51⟩ := X43.virtualBack hx (y := (⟨"java/lang/String", "equals", "(Ljava/lang/Object;)Z"⟩ : MethodName)) (z := (⟨"java/lang/String", "equals", "(Ljava/lang/Object;)Z"⟩ : MethodName)) ho43 (mvT hZ43 (own_w hw 58 rfl)) (mvT hZ43 (own_w hw 59 rfl)) (notFace_of_selects (args := #[]) (mvT hZ43 (own_w hw 61 rfl))) (mvT hZ43 (own_w hw 61 rfl)) (mvT hZ43 (own_w hw 60 rfl)) (by decide) (StrChars.Road.eqW (W := 0) hZ43 hwq (kI := 4) (own_w hw 6 rfl) (cs := [(48 : Int32)]) fE43 fV43 fC43 fA43 cd52 bd52 (by show 1 ≤ 4000; decide) (ds := []) f53 f54 f55 f56 cd11 bd11 (by show 0 ≤ 4000; decide) (S_C.ext O48.2) hzc (by decide) (by decide)) q51a q51c (g := (mkF m 39 #[.val (.ref x), .unset] [(.ref x), (.ref x43)])) rfl (by rw [hml]; rfl) (Steps.refl _) (argsL := [(.ref x)]) (rest := []) (lenOf pd_3 rfl) rfl (by show 2 * 0 + _ ≤ _; exact Nat.le_of_eq rfl) (hb hby d5_39) (fun _ _ => ⟨rfl, e43, (by decide : 8 + 0 ≤ _), (by decide : 60 + 0 ≤ _)⟩)
        dsimp only [Pt.U, Pt.locs, Pt.cells, Pt.slots] at X51 l51 y51 z51 st51 hQ51
        subst l51 y51 z51
        obtain ⟨hQ51, rfl, k57⟩ := hQ51
        have N59 := Fr.app N42 (Fr.nil n0)
        rcases hQ51 with ⟨rfl, c58⟩ | ⟨rfl, c58⟩
        · exact absurd c58 (fun q => by have := congrArg List.length q; simp at this)
        · have S60 : ∀ t, Steps p.tables e below (T51.setTop (mkF m 55 #[.val (.ref x), .val .null] [.null])) t → Steps p.tables e below (s₁.setTop (mkF m 0 #[.val (.ref x), .unset] [])) t := by
            intro t kt
            refine st1 _ ?_
            refine XS.aloadN X1.here hx rfl (hb hby d5_2) rfl rfl ?_
            show Steps p.tables e below (T1.setTop (mkF m 3 #[.val (.ref x), .unset] [(.ref x), (.ref x1)])) _
            refine st5.trans ?_
            refine XS.ifNo X5.here hx rfl (hb hby d5_6) rfl ((if0 _ _).trans (teq ((by decide) : (0 : Int32) = (0 : Int32))).2) ?_
            show Steps p.tables e below (T5.setTop (mkF m 9 #[.val (.ref x), .unset] [])) _
            refine st15 _ ?_
            refine XS.aloadN X15.here hx rfl (hb hby d5_11) rfl rfl ?_
            show Steps p.tables e below (T15.setTop (mkF m 12 #[.val (.ref x), .unset] [(.ref x), (.ref x15)])) _
            refine st19.trans ?_
            refine XS.ifYes X19.here hx rfl (pc0 := 15) (pc' := 25) rfl (hb hby d5_15) rfl ((if0 _ _).trans (teq ((by decide) : (0 : Int32) = (0 : Int32))).1) (by decide) (by decide) ?_
            show Steps p.tables e below (T19.setTop (mkF m 25 #[.val (.ref x), .unset] [])) _
            refine st28 _ ?_
            refine XS.aloadN X28.here hx rfl (hb hby d5_28) rfl rfl ?_
            show Steps p.tables e below (T28.setTop (mkF m 29 #[.val (.ref x), .unset] [(.ref x), (.ref x28)])) _
            refine st34.trans ?_
            refine XS.ifNo X34.here hx rfl (hb hby d5_32) rfl ((if0 _ _).trans (teq ((by decide) : (0 : Int32) = (0 : Int32))).2) ?_
            show Steps p.tables e below (T34.setTop (mkF m 35 #[.val (.ref x), .unset] [])) _
            refine st43 _ ?_
            refine XS.aloadN X43.here hx rfl (hb hby d5_38) rfl rfl ?_
            show Steps p.tables e below (T43.setTop (mkF m 39 #[.val (.ref x), .unset] [(.ref x), (.ref x43)])) _
            refine st51.trans ?_
            refine XS.ifYes X51.here hx rfl (pc0 := 42) (pc' := 52) rfl (hb hby d5_42) rfl ((if0 _ _).trans (teq ((by decide) : (0 : Int32) = (0 : Int32))).1) (by decide) (by decide) ?_
            refine XS.aconstNull X51.here hx rfl (hb hby d5_52) ?_
            refine XS.astoreN X51.here hx rfl (hb hby d5_53) rfl rfl (l' := #[.val (.ref x), .val .null]) rfl ?_
            refine XS.aloadN X51.here hx rfl (hb hby d5_54) rfl rfl ?_
            exact kt
          obtain ⟨fs, hr, hrun, hended, hRW⟩ := X51.leaveW hS43 (by rw [k57]; exact hk43) (v := some .null) (fun h => by rw [Bd.returns] at h; cases h)
          refine ⟨_, _, pre0 _ (S60 _ ?_), hrun, hended, _, _, rfl, ?_, ?_, hRW.1, hRW.2.1, hRW.2.2.1, hRW.2.2.2.mono (by decide) (by decide)⟩
          · exact retOut X51 hx Bd.returns rfl (Or.inr (Or.inr (Or.inr (Or.inr ⟨rfl, rfl, rfl⟩)))) (hb hby d5_55) hr
          · show Q_rm_bool0 Z x tx kx zc wT wF h0 n0 _ T51.heap _
            rw [k57]
            exact ⟨rfl, N59, K49⟩
          · show CHr Z own_EL s.vm s.heap T51.vm T51.heap
            rw [hh, k57]
            exact CR50.trans (CHv.at X51 hZ43 own_ew CR50.1)
theorem d5_18 : decode prog_46_method_18_code 18 = .ok (.getstatic 250, 3) := by decide +kernel
theorem d5_21 : decode prog_46_method_18_code 21 = .ok (.astore_n 1, 1) := by decide +kernel
theorem d5_22 : decode prog_46_method_18_code 22 = .ok (.goto 32, 3) := by decide +kernel
theorem d5_45 : decode prog_46_method_18_code 45 = .ok (.getstatic 260, 3) := by decide +kernel
theorem d5_48 : decode prog_46_method_18_code 48 = .ok (.astore_n 1, 1) := by decide +kernel
theorem d5_49 : decode prog_46_method_18_code 49 = .ok (.goto 5, 3) := by decide +kernel
theorem ef_rm_bool1 (m : MethodId) (x0 : Addr) : entryFrame m #[(.ref x0)] 2 = mkF m 0 #[.val (.ref x0), .unset] [] := by first | (simp [entryFrame, mkF, argsToLocals, Value.category]; done) | rfl
def Q_rm_bool1 (Z : State) (x : Addr) (tx : Addr) (kx : ClassId) (c0 : Int32) (zc : Int32) (wT : Addr) (wF : Addr) (h0 : Heap) (n0 : Nat) (v : Option Value) (h : Heap) (L : List Loc) : Prop := ((([(49 : Int32)] : List Int32) = [c0]) ∧ (v = some (.ref wT)) ∧ (Fr n0 L) ∧ (Keep h0 h [])) ∨ ((¬ (([(49 : Int32)] : List Int32) = [c0])) ∧ (([(48 : Int32)] : List Int32) = [c0]) ∧ (v = some (.ref wF)) ∧ (Fr n0 L) ∧ (Keep h0 h [])) ∨ ((¬ (([(49 : Int32)] : List Int32) = [c0])) ∧ (¬ (([(48 : Int32)] : List Int32) = [c0])) ∧ (v = some .null) ∧ (Fr n0 L) ∧ (Keep h0 h []))
set_option maxRecDepth 65536 in
set_option maxHeartbeats 40000000 in
theorem rm_bool1 (l : Launch) (Z : State) (a0 : Array Value) (hw : ∀ d ∈ tables_1, d.before a0 Z = true) (ws : List Jvm.Cond) (x : Addr) (tx : Addr) (kx : ClassId) (c0 : Int32) (zc : Int32) (wT : Addr) (wF : Addr) (h0 : Heap) (n0 : Nat) (O0 : Old Z n0 h0) (E_x : Exa Z h0 x "java/lang/String") (V_x : Fld Z h0 x "java/lang/String" "value" "[B" (.ref tx)) (C_x : Fld Z h0 x "java/lang/String" "coder" "B" (.int (0 : Int32))) (K_x : Arv Z h0 tx kx .byte (1 : Int32) [(.int c0.toInt8.toInt32)] (.int (0 : Int32))) (la_c0 : ¬ (c0 < (0 : Int32)) ∧ ¬ ((255 : Int32) < c0)) (S_C : Sta Z Z.heap "java/lang/String" "COMPACT_STRINGS" "Z" (.int zc)) (hzc : ¬ (zc = (0 : Int32))) (S_T : Sta Z Z.heap "java/lang/Boolean" "TRUE" "Ljava/lang/Boolean;" (.ref wT)) (S_F0 : Sta Z Z.heap "java/lang/Boolean" "FALSE" "Ljava/lang/Boolean;" (.ref wF)) :
    MetFree l (⟨"com/example/pico_notify/piconotify/Xml", "bool", "(Ljava/lang/String;)Ljava/lang/Boolean;"⟩ : MethodName) (head1 (Jvm.Cond.code (⟨"com/example/pico_notify/piconotify/Xml", "bool", "(Ljava/lang/String;)Ljava/lang/Boolean;"⟩ : MethodName) prog_46_method_18_code 2 (some (.object "java/lang/Boolean")) :: ws) ({ frames := 2, cells := 8, slots := 60, locals := 28 } : Room)) (fun a U => a = #[(.ref x)] ∧ Z.Warmed39 U.vm ∧ U.heap = h0 ∧ CHv Z own_EL U.vm h0 ∧ ∀ own_y ∈ ([] : List Addr), Safe Z own_EL U.vm h0 own_y) (fun _ _ _ _ _ => True) (fun _ U o U' => ∃ v L, o = .returned v ∧ Q_rm_bool1 Z x tx kx c0 zc wT wF h0 n0 v U'.heap L ∧ CHr Z own_EL U.vm U.heap U'.vm U'.heap ∧ ReturnedEndW U o U' L ({ frames := 2, cells := 8, slots := 60, locals := 28 } : Room).cells ({ frames := 2, cells := 8, slots := 60, locals := 28 } : Room).slots) := by
  refine MetFree.of_bodySF (plainFor_of_name pn_2) hisR ?_
  intro p e s m args below meth c s₁ Bd hml0 hP hK
  obtain ⟨rfl, hZ, hh, hCH, hSf⟩ := hP
  have hx := Bd.exec
  have hby := Bd.bytes
  have hml : c.maxLocals = 2 := hml0
  have hown : s.vm.findClass "com/example/pico_notify/piconotify/Xml" = some m.cls := findClass_of_methodNamed Bd.named
  have hnm := (name_of_methodNamed Bd.named Bd.method).1
  have X0 : Stand p l e ({ frames := 2, cells := 8, slots := 60, locals := 28 } : Room) (s.setVm s.vm) m #[(.ref x)] below meth c s₁ [] 0 0 := Stand.of_body Bd
  have e0 : s₁.heap = h0 := by rw [← hh, Bd.state]; rfl
  have N0 := Fr.nil n0
  have hZ0 := hZ
  have ho0 := hown
  have hS0 : s.Since s.vm 0 := (State.WarmedH.refl s).since 0
  have hk0 : 0 ≤ h0.size := Nat.zero_le _
  have CR0 : CHr Z own_EL s.vm h0 s.vm h0 := CHr.refl hCH
  have own_at : ∀ d ∈ Bundle.stringAtoms, d.before a0 Z = true := fun d hd => hw d (own_atoms d hd)
  have own_ew : EW Z a0 own_EL := own_EWof hw
  have hwc : ∀ d ∈ StrChars.Road.wordsChN, d.before a0 Z = true := fun d hd => hw d (own_wordsChN d hd)
  have hwq : ∀ d ∈ StrChars.Road.wordsEq, d.before a0 Z = true := fun d hd => hw d (own_wordsEq d hd)
  have hws : ∀ d ∈ StrChars.Road.words, d.before a0 Z = true := fun d hd => hw d (own_words d hd)
  have K0 : Keep h0 h0 [] := Keep.refl _ _
  have pre0 : ∀ t, Steps p.tables e below (s₁.setTop (mkF m 0 #[.val (.ref x), .unset] [])) t → Steps p.tables e below (s₁.setTop (entryFrame m #[(.ref x)] 2)) t := fun t k => castTop (ef_rm_bool1 m x) k
  obtain ⟨x1, T1, h1, q1, y1, j1, X1, e1, E1, hS1, hk1, hZ1, ho1, fE1, fC1, fV1, fA1, la1, lb1, C1, -, ns1, st1⟩ := ldcCH X0 hx hZ0 ho0 (own_w hw 57 rfl) own_at e0 hS0 hk0 own_ew (by decide) CR0.1 (vs := [(.int (116 : Int32).toInt8.toInt32), (.int (114 : Int32).toInt8.toInt32), (.int (117 : Int32).toInt8.toInt32), (.int (101 : Int32).toInt8.toInt32)]) (z := (4 : Int32)) ⟨by decide, by decide +kernel⟩ (by decide) rfl (g := (mkF m 0 #[.val (.ref x), .unset] [])) rfl (hb hby d5_0) (n := 16) (by decide) (by decide) (by decide) (by decide)
  have O2 := O0.ext E1
  have K3 : Keep h0 h1 [] := K0.ext E1
  have CR4 := CR0.trans C1
  have la6 : ∀ c ∈ ([(116 : Int32), (114 : Int32), (117 : Int32), (101 : Int32)] : List Int32), ¬ c < 0 ∧ ¬ (255 : Int32) < c := by
    intro c hc
    simp only [List.mem_cons, List.not_mem_nil, or_false] at hc
    rcases hc with rfl | rfl | rfl | rfl
    · exact ⟨by decide, by decide⟩
    · exact ⟨by decide, by decide⟩
    · exact ⟨by decide, by decide⟩
    · exact ⟨by decide, by decide⟩
  have cd6 : StrChars.Road.CodA ([(116 : Int32), (114 : Int32), (117 : Int32), (101 : Int32)] : List Int32) 0 (4 : Int32) [(.int (116 : Int32).toInt8.toInt32), (.int (114 : Int32).toInt8.toInt32), (.int (117 : Int32).toInt8.toInt32), (.int (101 : Int32).toInt8.toInt32)] := StrChars.Road.codOf (n := 4) rfl (fun x hx => (la6 x hx).2)
  have bd6 := own_up la6
  have f7 := (Exa.ext E1 E_x)
  have f8 := (Fld.ext E1 V_x)
  have f9 := (Fld.ext E1 C_x)
  have f10 := (Arv.ext K_x E1)
  have la11 : ∀ c ∈ ([c0] : List Int32), ¬ c < 0 ∧ ¬ (255 : Int32) < c := by
    intro c hc
    simp only [List.mem_cons, List.not_mem_nil, or_false] at hc
    rcases hc with rfl
    · exact la_c0
  have cd11 : StrChars.Road.CodA ([c0] : List Int32) 0 (1 : Int32) [(.int c0.toInt8.toInt32)] := StrChars.Road.codOf (n := 1) rfl (fun x hx => (la11 x hx).2)
  have bd11 := own_up la11
  obtain ⟨cq5, kq5, q5a, q5b, q5c⟩ := isOf hZ1 e1 fE1
  obtain ⟨_, _, ⟨T5, L5, k5, n5⟩, -, X5, ⟨Lc5, hQ5, l5, y5, z5⟩, st5⟩ := X1.virtualBack hx (y := (⟨"java/lang/String", "equals", "(Ljava/lang/Object;)Z"⟩ : MethodName)) (z := (⟨"java/lang/String", "equals", "(Ljava/lang/Object;)Z"⟩ : MethodName)) ho1 (mvT hZ1 (own_w hw 58 rfl)) (mvT hZ1 (own_w hw 59 rfl)) (notFace_of_selects (args := #[]) (mvT hZ1 (own_w hw 61 rfl))) (mvT hZ1 (own_w hw 61 rfl)) (mvT hZ1 (own_w hw 60 rfl)) (by decide) (StrChars.Road.eqW (W := 0) hZ1 hwq (kI := 4) (own_w hw 6 rfl) (cs := [(116 : Int32), (114 : Int32), (117 : Int32), (101 : Int32)]) fE1 fV1 fC1 fA1 cd6 bd6 (by show 4 ≤ 4000; decide) (ds := [c0]) f7 f8 f9 f10 cd11 bd11 (by show 1 ≤ 4000; decide) (S_C.ext O2.2) hzc (by decide) (by decide)) q5a q5c (g := (mkF m 3 #[.val (.ref x), .unset] [(.ref x), (.ref x1)])) rfl (by rw [hml]; rfl) (Steps.refl _) (argsL := [(.ref x)]) (rest := []) (lenOf pd_3 rfl) rfl (by show 2 * 0 + _ ≤ _; exact Nat.le_of_eq rfl) (hb hby d5_3) (fun _ _ => ⟨rfl, e1, (by decide : 2 + 0 ≤ _), (by decide : 20 + 0 ≤ _)⟩)
  dsimp only [Pt.U, Pt.locs, Pt.cells, Pt.slots] at X5 l5 y5 z5 st5 hQ5
  subst l5 y5 z5
  obtain ⟨hQ5, rfl, k12⟩ := hQ5
  have N14 := Fr.app N0 (Fr.nil n0)
  rcases hQ5 with ⟨rfl, c13⟩ | ⟨rfl, c13⟩
  · exact absurd c13 (fun q => by have := congrArg List.length q; simp at this)
  · obtain ⟨x15, T15, h15, q15, y15, j15, X15, e15, E15, hS15, hk15, hZ15, ho15, fE15, fC15, fV15, fA15, la15, lb15, C15, -, ns15, st15⟩ := ldcCH X5 hx hZ1 ho1 (own_w hw 67 rfl) own_at k12 hS1 hk1 own_ew (by decide) CR4.1 (vs := [(.int (49 : Int32).toInt8.toInt32)]) (z := (1 : Int32)) ⟨by decide, by decide +kernel⟩ (by decide) rfl (g := (mkF m 9 #[.val (.ref x), .unset] [])) rfl (hb hby d5_9) (n := 4) (by decide) (by decide) (by decide) (by decide)
    have O16 := O2.ext E15
    have K17 : Keep h0 h15 [] := K3.ext E15
    have CR18 := CR4.trans C15
    have la20 : ∀ c ∈ ([(49 : Int32)] : List Int32), ¬ c < 0 ∧ ¬ (255 : Int32) < c := by
      intro c hc
      simp only [List.mem_cons, List.not_mem_nil, or_false] at hc
      rcases hc with rfl
      · exact ⟨by decide, by decide⟩
    have cd20 : StrChars.Road.CodA ([(49 : Int32)] : List Int32) 0 (1 : Int32) [(.int (49 : Int32).toInt8.toInt32)] := StrChars.Road.codOf (n := 1) rfl (fun x hx => (la20 x hx).2)
    have bd20 := own_up la20
    have f21 := (Exa.ext E15 f7)
    have f22 := (Fld.ext E15 f8)
    have f23 := (Fld.ext E15 f9)
    have f24 := (Arv.ext f10 E15)
    obtain ⟨cq19, kq19, q19a, q19b, q19c⟩ := isOf hZ15 e15 fE15
    obtain ⟨_, _, ⟨T19, L19, k19, n19⟩, -, X19, ⟨Lc19, hQ19, l19, y19, z19⟩, st19⟩ := X15.virtualBack hx (y := (⟨"java/lang/String", "equals", "(Ljava/lang/Object;)Z"⟩ : MethodName)) (z := (⟨"java/lang/String", "equals", "(Ljava/lang/Object;)Z"⟩ : MethodName)) ho15 (mvT hZ15 (own_w hw 58 rfl)) (mvT hZ15 (own_w hw 59 rfl)) (notFace_of_selects (args := #[]) (mvT hZ15 (own_w hw 61 rfl))) (mvT hZ15 (own_w hw 61 rfl)) (mvT hZ15 (own_w hw 60 rfl)) (by decide) (StrChars.Road.eqW (W := 0) hZ15 hwq (kI := 4) (own_w hw 6 rfl) (cs := [(49 : Int32)]) fE15 fV15 fC15 fA15 cd20 bd20 (by show 1 ≤ 4000; decide) (ds := [c0]) f21 f22 f23 f24 cd11 bd11 (by show 1 ≤ 4000; decide) (S_C.ext O16.2) hzc (by decide) (by decide)) q19a q19c (g := (mkF m 12 #[.val (.ref x), .unset] [(.ref x), (.ref x15)])) rfl (by rw [hml]; rfl) (Steps.refl _) (argsL := [(.ref x)]) (rest := []) (lenOf pd_3 rfl) rfl (by show 2 * 0 + _ ≤ _; exact Nat.le_of_eq rfl) (hb hby d5_12) (fun _ _ => ⟨rfl, e15, (by decide : 4 + 0 ≤ _), (by decide : 28 + 0 ≤ _)⟩)
    dsimp only [Pt.U, Pt.locs, Pt.cells, Pt.slots] at X19 l19 y19 z19 st19 hQ19
    subst l19 y19 z19
    obtain ⟨hQ19, rfl, k25⟩ := hQ19
    have N27 := Fr.app N14 (Fr.nil n0)
    rcases hQ19 with ⟨rfl, c26⟩ | ⟨rfl, c26⟩
    · have c28 : (49 : Int32) = c0 := congrArg (fun l => l.getD 0 0) c26
      obtain ⟨T29, X29, e29, st29⟩ := getS2 X19 hx hZ15 ho15 (host := "") (Or.inl (own_w hw 89 rfl)) Via.refl k25 (S_T.ext O16.2) (g := (mkF m 18 #[.val (.ref x), .unset] [])) rfl (hb hby d5_18)
      have S30 : ∀ t, Steps p.tables e below (T29.setTop (mkF m 55 #[.val (.ref x), .val (.ref wT)] [(.ref wT)])) t → Steps p.tables e below (s₁.setTop (mkF m 0 #[.val (.ref x), .unset] [])) t := by
        intro t kt
        refine st1 _ ?_
        refine XS.aloadN X1.here hx rfl (hb hby d5_2) rfl rfl ?_
        show Steps p.tables e below (T1.setTop (mkF m 3 #[.val (.ref x), .unset] [(.ref x), (.ref x1)])) _
        refine st5.trans ?_
        refine XS.ifNo X5.here hx rfl (hb hby d5_6) rfl ((if0 _ _).trans (teq ((by decide) : (0 : Int32) = (0 : Int32))).2) ?_
        show Steps p.tables e below (T5.setTop (mkF m 9 #[.val (.ref x), .unset] [])) _
        refine st15 _ ?_
        refine XS.aloadN X15.here hx rfl (hb hby d5_11) rfl rfl ?_
        show Steps p.tables e below (T15.setTop (mkF m 12 #[.val (.ref x), .unset] [(.ref x), (.ref x15)])) _
        refine st19.trans ?_
        refine XS.ifNo X19.here hx rfl (hb hby d5_15) rfl ((if0 _ _).trans (feq ((by decide) : ¬ ((1 : Int32) = (0 : Int32)))).1) ?_
        show Steps p.tables e below (T19.setTop (mkF m 18 #[.val (.ref x), .unset] [])) _
        refine st29 _ ?_
        refine XS.astoreN X29.here hx rfl (hb hby d5_21) rfl rfl (l' := #[.val (.ref x), .val (.ref wT)]) rfl ?_
        refine XS.goto X29.here hx rfl (pc0 := 22) (pc' := 54) rfl (hb hby d5_22) (by decide) (by decide) ?_
        refine XS.aloadN X29.here hx rfl (hb hby d5_54) rfl rfl ?_
        exact kt
      obtain ⟨fs, hr, hrun, hended, hRW⟩ := X29.leaveW hS15 (by rw [e29]; exact hk15) (v := some (.ref wT)) (fun h => by rw [Bd.returns] at h; cases h)
      refine ⟨_, _, pre0 _ (S30 _ ?_), hrun, hended, _, _, rfl, ?_, ?_, hRW.1, hRW.2.1, hRW.2.2.1, hRW.2.2.2.mono (by decide) (by decide)⟩
      · exact retOut X29 hx Bd.returns rfl (Or.inr (Or.inr (Or.inr (Or.inr ⟨rfl, rfl, rfl⟩)))) (hb hby d5_55) hr
      · show Q_rm_bool1 Z x tx kx c0 zc wT wF h0 n0 _ T29.heap _
        rw [e29]
        exact Or.inl ⟨c26, rfl, N27, K17⟩
      · show CHr Z own_EL s.vm s.heap T29.vm T29.heap
        rw [hh, e29]
        exact CR18.trans (CHv.at X29 hZ15 own_ew CR18.1)
    · obtain ⟨x31, T31, h31, q31, y31, j31, X31, e31, E31, hS31, hk31, hZ31, ho31, fE31, fC31, fV31, fA31, la31, lb31, C31, -, ns31, st31⟩ := own_ldcW X19 hx hZ15 ho15 (own_w hw 68 rfl) own_at k25 hS15 hk15 own_ew (by decide) CR18.1 (vs := [(.int (102 : Int32).toInt8.toInt32), (.int (97 : Int32).toInt8.toInt32), (.int (108 : Int32).toInt8.toInt32), (.int (115 : Int32).toInt8.toInt32), (.int (101 : Int32).toInt8.toInt32)]) (z := (5 : Int32)) ⟨by decide, by decide +kernel⟩ (by decide) rfl (g := (mkF m 25 #[.val (.ref x), .unset] [])) rfl (hb hby d5_25) (n := 20) (by decide) (by decide) (by decide) (by decide)
      have f32 := (Exa.ext E15 fE1)
      have f33 := (Arv.ext fA1 E15)
      have O34 := O16.ext E31
      have K35 : Keep h0 h31 [] := K17.ext E31
      have CR36 := CR18.trans C31
      have la38 : ∀ c ∈ ([(102 : Int32), (97 : Int32), (108 : Int32), (115 : Int32), (101 : Int32)] : List Int32), ¬ c < 0 ∧ ¬ (255 : Int32) < c := by
        intro c hc
        simp only [List.mem_cons, List.not_mem_nil, or_false] at hc
        rcases hc with rfl | rfl | rfl | rfl | rfl
        · exact ⟨by decide, by decide⟩
        · exact ⟨by decide, by decide⟩
        · exact ⟨by decide, by decide⟩
        · exact ⟨by decide, by decide⟩
        · exact ⟨by decide, by decide⟩
      have cd38 : StrChars.Road.CodA ([(102 : Int32), (97 : Int32), (108 : Int32), (115 : Int32), (101 : Int32)] : List Int32) 0 (5 : Int32) [(.int (102 : Int32).toInt8.toInt32), (.int (97 : Int32).toInt8.toInt32), (.int (108 : Int32).toInt8.toInt32), (.int (115 : Int32).toInt8.toInt32), (.int (101 : Int32).toInt8.toInt32)] := StrChars.Road.codOf (n := 5) rfl (fun x hx => (la38 x hx).2)
      have bd38 := own_up la38
      have f39 := (Exa.ext E31 f21)
      have f40 := (Fld.ext E31 f22)
      have f41 := (Fld.ext E31 f23)
      have f42 := (Arv.ext f24 E31)
      obtain ⟨cq37, kq37, q37a, q37b, q37c⟩ := isOf hZ31 e31 fE31
      obtain ⟨_, _, ⟨T37, L37, k37, n37⟩, -, X37, ⟨Lc37, hQ37, l37, y37, z37⟩, st37⟩ := X31.virtualBack hx (y := (⟨"java/lang/String", "equals", "(Ljava/lang/Object;)Z"⟩ : MethodName)) (z := (⟨"java/lang/String", "equals", "(Ljava/lang/Object;)Z"⟩ : MethodName)) ho31 (mvT hZ31 (own_w hw 58 rfl)) (mvT hZ31 (own_w hw 59 rfl)) (notFace_of_selects (args := #[]) (mvT hZ31 (own_w hw 61 rfl))) (mvT hZ31 (own_w hw 61 rfl)) (mvT hZ31 (own_w hw 60 rfl)) (by decide) (StrChars.Road.eqW (W := 0) hZ31 hwq (kI := 4) (own_w hw 6 rfl) (cs := [(102 : Int32), (97 : Int32), (108 : Int32), (115 : Int32), (101 : Int32)]) fE31 fV31 fC31 fA31 cd38 bd38 (by show 5 ≤ 4000; decide) (ds := [c0]) f39 f40 f41 f42 cd11 bd11 (by show 1 ≤ 4000; decide) (S_C.ext O34.2) hzc (by decide) (by decide)) q37a q37c (g := (mkF m 29 #[.val (.ref x), .unset] [(.ref x), (.ref x31)])) rfl (by rw [hml]; rfl) (Steps.refl _) (argsL := [(.ref x)]) (rest := []) (lenOf pd_3 rfl) rfl (by show 2 * 0 + _ ≤ _; exact Nat.le_of_eq rfl) (hb hby d5_29) (fun _ _ => ⟨rfl, e31, (by decide : 6 + 0 ≤ _), (by decide : 52 + 0 ≤ _)⟩)
      dsimp only [Pt.U, Pt.locs, Pt.cells, Pt.slots] at X37 l37 y37 z37 st37 hQ37
      subst l37 y37 z37
      obtain ⟨hQ37, rfl, k43⟩ := hQ37
      have N45 := Fr.app N27 (Fr.nil n0)
      rcases hQ37 with ⟨rfl, c44⟩ | ⟨rfl, c44⟩
      · exact absurd c44 (fun q => by have := congrArg List.length q; simp at this)
      · obtain ⟨x46, T46, h46, q46, y46, j46, X46, e46, E46, hS46, hk46, hZ46, ho46, fE46, fC46, fV46, fA46, la46, lb46, C46, -, ns46, st46⟩ := own_ldcW X37 hx hZ31 ho31 (own_w hw 69 rfl) own_at k43 hS31 hk31 own_ew (by decide) CR36.1 (vs := [(.int (48 : Int32).toInt8.toInt32)]) (z := (1 : Int32)) ⟨by decide, by decide +kernel⟩ (by decide) rfl (g := (mkF m 35 #[.val (.ref x), .unset] [])) rfl (hb hby d5_35) (n := 4) (by decide) (by decide) (by decide) (by decide)
        have f47 := (Exa.ext E31 fE15)
        have f48 := (Arv.ext fA15 E31)
        have f49 := (Exa.ext E31 f32)
        have f50 := (Arv.ext f33 E31)
        have O51 := O34.ext E46
        have K52 : Keep h0 h46 [] := K35.ext E46
        have CR53 := CR36.trans C46
        have la55 : ∀ c ∈ ([(48 : Int32)] : List Int32), ¬ c < 0 ∧ ¬ (255 : Int32) < c := by
          intro c hc
          simp only [List.mem_cons, List.not_mem_nil, or_false] at hc
          rcases hc with rfl
          · exact ⟨by decide, by decide⟩
        have cd55 : StrChars.Road.CodA ([(48 : Int32)] : List Int32) 0 (1 : Int32) [(.int (48 : Int32).toInt8.toInt32)] := StrChars.Road.codOf (n := 1) rfl (fun x hx => (la55 x hx).2)
        have bd55 := own_up la55
        have f56 := (Exa.ext E46 f39)
        have f57 := (Fld.ext E46 f40)
        have f58 := (Fld.ext E46 f41)
        have f59 := (Arv.ext f42 E46)
        obtain ⟨cq54, kq54, q54a, q54b, q54c⟩ := isOf hZ46 e46 fE46
        obtain ⟨_, _, ⟨T54, L54, k54, n54⟩, -, X54, ⟨Lc54, hQ54, l54, y54, z54⟩, st54⟩ := X46.virtualBack hx (y := (⟨"java/lang/String", "equals", "(Ljava/lang/Object;)Z"⟩ : MethodName)) (z := (⟨"java/lang/String", "equals", "(Ljava/lang/Object;)Z"⟩ : MethodName)) ho46 (mvT hZ46 (own_w hw 58 rfl)) (mvT hZ46 (own_w hw 59 rfl)) (notFace_of_selects (args := #[]) (mvT hZ46 (own_w hw 61 rfl))) (mvT hZ46 (own_w hw 61 rfl)) (mvT hZ46 (own_w hw 60 rfl)) (by decide) (StrChars.Road.eqW (W := 0) hZ46 hwq (kI := 4) (own_w hw 6 rfl) (cs := [(48 : Int32)]) fE46 fV46 fC46 fA46 cd55 bd55 (by show 1 ≤ 4000; decide) (ds := [c0]) f56 f57 f58 f59 cd11 bd11 (by show 1 ≤ 4000; decide) (S_C.ext O51.2) hzc (by decide) (by decide)) q54a q54c (g := (mkF m 39 #[.val (.ref x), .unset] [(.ref x), (.ref x46)])) rfl (by rw [hml]; rfl) (Steps.refl _) (argsL := [(.ref x)]) (rest := []) (lenOf pd_3 rfl) rfl (by show 2 * 0 + _ ≤ _; exact Nat.le_of_eq rfl) (hb hby d5_39) (fun _ _ => ⟨rfl, e46, (by decide : 8 + 0 ≤ _), (by decide : 60 + 0 ≤ _)⟩)
        dsimp only [Pt.U, Pt.locs, Pt.cells, Pt.slots] at X54 l54 y54 z54 st54 hQ54
        subst l54 y54 z54
        obtain ⟨hQ54, rfl, k60⟩ := hQ54
        have N62 := Fr.app N45 (Fr.nil n0)
        rcases hQ54 with ⟨rfl, c61⟩ | ⟨rfl, c61⟩
        · have c63 : (48 : Int32) = c0 := congrArg (fun l => l.getD 0 0) c61
          obtain ⟨T64, X64, e64, st64⟩ := getS2 X54 hx hZ46 ho46 (host := "") (Or.inl (own_w hw 80 rfl)) Via.refl k60 (S_F0.ext O51.2) (g := (mkF m 45 #[.val (.ref x), .unset] [])) rfl (hb hby d5_45)
          have S65 : ∀ t, Steps p.tables e below (T64.setTop (mkF m 55 #[.val (.ref x), .val (.ref wF)] [(.ref wF)])) t → Steps p.tables e below (s₁.setTop (mkF m 0 #[.val (.ref x), .unset] [])) t := by
            intro t kt
            refine st1 _ ?_
            refine XS.aloadN X1.here hx rfl (hb hby d5_2) rfl rfl ?_
            show Steps p.tables e below (T1.setTop (mkF m 3 #[.val (.ref x), .unset] [(.ref x), (.ref x1)])) _
            refine st5.trans ?_
            refine XS.ifNo X5.here hx rfl (hb hby d5_6) rfl ((if0 _ _).trans (teq ((by decide) : (0 : Int32) = (0 : Int32))).2) ?_
            show Steps p.tables e below (T5.setTop (mkF m 9 #[.val (.ref x), .unset] [])) _
            refine st15 _ ?_
            refine XS.aloadN X15.here hx rfl (hb hby d5_11) rfl rfl ?_
            show Steps p.tables e below (T15.setTop (mkF m 12 #[.val (.ref x), .unset] [(.ref x), (.ref x15)])) _
            refine st19.trans ?_
            refine XS.ifYes X19.here hx rfl (pc0 := 15) (pc' := 25) rfl (hb hby d5_15) rfl ((if0 _ _).trans (teq ((by decide) : (0 : Int32) = (0 : Int32))).1) (by decide) (by decide) ?_
            show Steps p.tables e below (T19.setTop (mkF m 25 #[.val (.ref x), .unset] [])) _
            refine st31 _ ?_
            refine XS.aloadN X31.here hx rfl (hb hby d5_28) rfl rfl ?_
            show Steps p.tables e below (T31.setTop (mkF m 29 #[.val (.ref x), .unset] [(.ref x), (.ref x31)])) _
            refine st37.trans ?_
            refine XS.ifNo X37.here hx rfl (hb hby d5_32) rfl ((if0 _ _).trans (teq ((by decide) : (0 : Int32) = (0 : Int32))).2) ?_
            show Steps p.tables e below (T37.setTop (mkF m 35 #[.val (.ref x), .unset] [])) _
            refine st46 _ ?_
            refine XS.aloadN X46.here hx rfl (hb hby d5_38) rfl rfl ?_
            show Steps p.tables e below (T46.setTop (mkF m 39 #[.val (.ref x), .unset] [(.ref x), (.ref x46)])) _
            refine st54.trans ?_
            refine XS.ifNo X54.here hx rfl (hb hby d5_42) rfl ((if0 _ _).trans (feq ((by decide) : ¬ ((1 : Int32) = (0 : Int32)))).1) ?_
            show Steps p.tables e below (T54.setTop (mkF m 45 #[.val (.ref x), .unset] [])) _
            refine st64 _ ?_
            refine XS.astoreN X64.here hx rfl (hb hby d5_48) rfl rfl (l' := #[.val (.ref x), .val (.ref wF)]) rfl ?_
            refine XS.goto X64.here hx rfl (pc0 := 49) (pc' := 54) rfl (hb hby d5_49) (by decide) (by decide) ?_
            refine XS.aloadN X64.here hx rfl (hb hby d5_54) rfl rfl ?_
            exact kt
          obtain ⟨fs, hr, hrun, hended, hRW⟩ := X64.leaveW hS46 (by rw [e64]; exact hk46) (v := some (.ref wF)) (fun h => by rw [Bd.returns] at h; cases h)
          refine ⟨_, _, pre0 _ (S65 _ ?_), hrun, hended, _, _, rfl, ?_, ?_, hRW.1, hRW.2.1, hRW.2.2.1, hRW.2.2.2.mono (by decide) (by decide)⟩
          · exact retOut X64 hx Bd.returns rfl (Or.inr (Or.inr (Or.inr (Or.inr ⟨rfl, rfl, rfl⟩)))) (hb hby d5_55) hr
          · show Q_rm_bool1 Z x tx kx c0 zc wT wF h0 n0 _ T64.heap _
            rw [e64]
            exact Or.inr (Or.inl ⟨c26, c61, rfl, N62, K52⟩)
          · show CHr Z own_EL s.vm s.heap T64.vm T64.heap
            rw [hh, e64]
            exact CR53.trans (CHv.at X64 hZ46 own_ew CR53.1)
        · have S66 : ∀ t, Steps p.tables e below (T54.setTop (mkF m 55 #[.val (.ref x), .val .null] [.null])) t → Steps p.tables e below (s₁.setTop (mkF m 0 #[.val (.ref x), .unset] [])) t := by
            intro t kt
            refine st1 _ ?_
            refine XS.aloadN X1.here hx rfl (hb hby d5_2) rfl rfl ?_
            show Steps p.tables e below (T1.setTop (mkF m 3 #[.val (.ref x), .unset] [(.ref x), (.ref x1)])) _
            refine st5.trans ?_
            refine XS.ifNo X5.here hx rfl (hb hby d5_6) rfl ((if0 _ _).trans (teq ((by decide) : (0 : Int32) = (0 : Int32))).2) ?_
            show Steps p.tables e below (T5.setTop (mkF m 9 #[.val (.ref x), .unset] [])) _
            refine st15 _ ?_
            refine XS.aloadN X15.here hx rfl (hb hby d5_11) rfl rfl ?_
            show Steps p.tables e below (T15.setTop (mkF m 12 #[.val (.ref x), .unset] [(.ref x), (.ref x15)])) _
            refine st19.trans ?_
            refine XS.ifYes X19.here hx rfl (pc0 := 15) (pc' := 25) rfl (hb hby d5_15) rfl ((if0 _ _).trans (teq ((by decide) : (0 : Int32) = (0 : Int32))).1) (by decide) (by decide) ?_
            show Steps p.tables e below (T19.setTop (mkF m 25 #[.val (.ref x), .unset] [])) _
            refine st31 _ ?_
            refine XS.aloadN X31.here hx rfl (hb hby d5_28) rfl rfl ?_
            show Steps p.tables e below (T31.setTop (mkF m 29 #[.val (.ref x), .unset] [(.ref x), (.ref x31)])) _
            refine st37.trans ?_
            refine XS.ifNo X37.here hx rfl (hb hby d5_32) rfl ((if0 _ _).trans (teq ((by decide) : (0 : Int32) = (0 : Int32))).2) ?_
            show Steps p.tables e below (T37.setTop (mkF m 35 #[.val (.ref x), .unset] [])) _
            refine st46 _ ?_
            refine XS.aloadN X46.here hx rfl (hb hby d5_38) rfl rfl ?_
            show Steps p.tables e below (T46.setTop (mkF m 39 #[.val (.ref x), .unset] [(.ref x), (.ref x46)])) _
            refine st54.trans ?_
            refine XS.ifYes X54.here hx rfl (pc0 := 42) (pc' := 52) rfl (hb hby d5_42) rfl ((if0 _ _).trans (teq ((by decide) : (0 : Int32) = (0 : Int32))).1) (by decide) (by decide) ?_
            refine XS.aconstNull X54.here hx rfl (hb hby d5_52) ?_
            refine XS.astoreN X54.here hx rfl (hb hby d5_53) rfl rfl (l' := #[.val (.ref x), .val .null]) rfl ?_
            refine XS.aloadN X54.here hx rfl (hb hby d5_54) rfl rfl ?_
            exact kt
          obtain ⟨fs, hr, hrun, hended, hRW⟩ := X54.leaveW hS46 (by rw [k60]; exact hk46) (v := some .null) (fun h => by rw [Bd.returns] at h; cases h)
          refine ⟨_, _, pre0 _ (S66 _ ?_), hrun, hended, _, _, rfl, ?_, ?_, hRW.1, hRW.2.1, hRW.2.2.1, hRW.2.2.2.mono (by decide) (by decide)⟩
          · exact retOut X54 hx Bd.returns rfl (Or.inr (Or.inr (Or.inr (Or.inr ⟨rfl, rfl, rfl⟩)))) (hb hby d5_55) hr
          · show Q_rm_bool1 Z x tx kx c0 zc wT wF h0 n0 _ T54.heap _
            rw [k60]
            exact Or.inr (Or.inr (⟨c26, c61, rfl, N62, K52⟩))
          · show CHr Z own_EL s.vm s.heap T54.vm T54.heap
            rw [hh, k60]
            exact CR53.trans (CHv.at X54 hZ46 own_ew CR53.1)
theorem ef_rm_bool2 (m : MethodId) (x0 : Addr) : entryFrame m #[(.ref x0)] 2 = mkF m 0 #[.val (.ref x0), .unset] [] := by first | (simp [entryFrame, mkF, argsToLocals, Value.category]; done) | rfl
def Q_rm_bool2 (Z : State) (x : Addr) (tx : Addr) (kx : ClassId) (c0 : Int32) (c1 : Int32) (zc : Int32) (wT : Addr) (wF : Addr) (h0 : Heap) (n0 : Nat) (v : Option Value) (h : Heap) (L : List Loc) : Prop := ((v = some .null) ∧ (Fr n0 L) ∧ (Keep h0 h []))
set_option maxRecDepth 65536 in
set_option maxHeartbeats 40000000 in
theorem rm_bool2 (l : Launch) (Z : State) (a0 : Array Value) (hw : ∀ d ∈ tables_1, d.before a0 Z = true) (ws : List Jvm.Cond) (x : Addr) (tx : Addr) (kx : ClassId) (c0 : Int32) (c1 : Int32) (zc : Int32) (wT : Addr) (wF : Addr) (h0 : Heap) (n0 : Nat) (O0 : Old Z n0 h0) (E_x : Exa Z h0 x "java/lang/String") (V_x : Fld Z h0 x "java/lang/String" "value" "[B" (.ref tx)) (C_x : Fld Z h0 x "java/lang/String" "coder" "B" (.int (0 : Int32))) (K_x : Arv Z h0 tx kx .byte (2 : Int32) [(.int c0.toInt8.toInt32), (.int c1.toInt8.toInt32)] (.int (0 : Int32))) (la_c0 : ¬ (c0 < (0 : Int32)) ∧ ¬ ((255 : Int32) < c0)) (la_c1 : ¬ (c1 < (0 : Int32)) ∧ ¬ ((255 : Int32) < c1)) (S_C : Sta Z Z.heap "java/lang/String" "COMPACT_STRINGS" "Z" (.int zc)) (hzc : ¬ (zc = (0 : Int32))) (S_T : Sta Z Z.heap "java/lang/Boolean" "TRUE" "Ljava/lang/Boolean;" (.ref wT)) (S_F0 : Sta Z Z.heap "java/lang/Boolean" "FALSE" "Ljava/lang/Boolean;" (.ref wF)) :
    MetFree l (⟨"com/example/pico_notify/piconotify/Xml", "bool", "(Ljava/lang/String;)Ljava/lang/Boolean;"⟩ : MethodName) (head1 (Jvm.Cond.code (⟨"com/example/pico_notify/piconotify/Xml", "bool", "(Ljava/lang/String;)Ljava/lang/Boolean;"⟩ : MethodName) prog_46_method_18_code 2 (some (.object "java/lang/Boolean")) :: ws) ({ frames := 2, cells := 8, slots := 60, locals := 28 } : Room)) (fun a U => a = #[(.ref x)] ∧ Z.Warmed39 U.vm ∧ U.heap = h0 ∧ CHv Z own_EL U.vm h0 ∧ ∀ own_y ∈ ([] : List Addr), Safe Z own_EL U.vm h0 own_y) (fun _ _ _ _ _ => True) (fun _ U o U' => ∃ v L, o = .returned v ∧ Q_rm_bool2 Z x tx kx c0 c1 zc wT wF h0 n0 v U'.heap L ∧ CHr Z own_EL U.vm U.heap U'.vm U'.heap ∧ ReturnedEndW U o U' L ({ frames := 2, cells := 8, slots := 60, locals := 28 } : Room).cells ({ frames := 2, cells := 8, slots := 60, locals := 28 } : Room).slots) := by
  refine MetFree.of_bodySF (plainFor_of_name pn_2) hisR ?_
  intro p e s m args below meth c s₁ Bd hml0 hP hK
  obtain ⟨rfl, hZ, hh, hCH, hSf⟩ := hP
  have hx := Bd.exec
  have hby := Bd.bytes
  have hml : c.maxLocals = 2 := hml0
  have hown : s.vm.findClass "com/example/pico_notify/piconotify/Xml" = some m.cls := findClass_of_methodNamed Bd.named
  have hnm := (name_of_methodNamed Bd.named Bd.method).1
  have X0 : Stand p l e ({ frames := 2, cells := 8, slots := 60, locals := 28 } : Room) (s.setVm s.vm) m #[(.ref x)] below meth c s₁ [] 0 0 := Stand.of_body Bd
  have e0 : s₁.heap = h0 := by rw [← hh, Bd.state]; rfl
  have N0 := Fr.nil n0
  have hZ0 := hZ
  have ho0 := hown
  have hS0 : s.Since s.vm 0 := (State.WarmedH.refl s).since 0
  have hk0 : 0 ≤ h0.size := Nat.zero_le _
  have CR0 : CHr Z own_EL s.vm h0 s.vm h0 := CHr.refl hCH
  have own_at : ∀ d ∈ Bundle.stringAtoms, d.before a0 Z = true := fun d hd => hw d (own_atoms d hd)
  have own_ew : EW Z a0 own_EL := own_EWof hw
  have hwc : ∀ d ∈ StrChars.Road.wordsChN, d.before a0 Z = true := fun d hd => hw d (own_wordsChN d hd)
  have hwq : ∀ d ∈ StrChars.Road.wordsEq, d.before a0 Z = true := fun d hd => hw d (own_wordsEq d hd)
  have hws : ∀ d ∈ StrChars.Road.words, d.before a0 Z = true := fun d hd => hw d (own_words d hd)
  have K0 : Keep h0 h0 [] := Keep.refl _ _
  have pre0 : ∀ t, Steps p.tables e below (s₁.setTop (mkF m 0 #[.val (.ref x), .unset] [])) t → Steps p.tables e below (s₁.setTop (entryFrame m #[(.ref x)] 2)) t := fun t k => castTop (ef_rm_bool2 m x) k
  obtain ⟨x1, T1, h1, q1, y1, j1, X1, e1, E1, hS1, hk1, hZ1, ho1, fE1, fC1, fV1, fA1, la1, lb1, C1, -, ns1, st1⟩ := ldcCH X0 hx hZ0 ho0 (own_w hw 57 rfl) own_at e0 hS0 hk0 own_ew (by decide) CR0.1 (vs := [(.int (116 : Int32).toInt8.toInt32), (.int (114 : Int32).toInt8.toInt32), (.int (117 : Int32).toInt8.toInt32), (.int (101 : Int32).toInt8.toInt32)]) (z := (4 : Int32)) ⟨by decide, by decide +kernel⟩ (by decide) rfl (g := (mkF m 0 #[.val (.ref x), .unset] [])) rfl (hb hby d5_0) (n := 16) (by decide) (by decide) (by decide) (by decide)
  have O2 := O0.ext E1
  have K3 : Keep h0 h1 [] := K0.ext E1
  have CR4 := CR0.trans C1
  have la6 : ∀ c ∈ ([(116 : Int32), (114 : Int32), (117 : Int32), (101 : Int32)] : List Int32), ¬ c < 0 ∧ ¬ (255 : Int32) < c := by
    intro c hc
    simp only [List.mem_cons, List.not_mem_nil, or_false] at hc
    rcases hc with rfl | rfl | rfl | rfl
    · exact ⟨by decide, by decide⟩
    · exact ⟨by decide, by decide⟩
    · exact ⟨by decide, by decide⟩
    · exact ⟨by decide, by decide⟩
  have cd6 : StrChars.Road.CodA ([(116 : Int32), (114 : Int32), (117 : Int32), (101 : Int32)] : List Int32) 0 (4 : Int32) [(.int (116 : Int32).toInt8.toInt32), (.int (114 : Int32).toInt8.toInt32), (.int (117 : Int32).toInt8.toInt32), (.int (101 : Int32).toInt8.toInt32)] := StrChars.Road.codOf (n := 4) rfl (fun x hx => (la6 x hx).2)
  have bd6 := own_up la6
  have f7 := (Exa.ext E1 E_x)
  have f8 := (Fld.ext E1 V_x)
  have f9 := (Fld.ext E1 C_x)
  have f10 := (Arv.ext K_x E1)
  have la11 : ∀ c ∈ ([c0, c1] : List Int32), ¬ c < 0 ∧ ¬ (255 : Int32) < c := by
    intro c hc
    simp only [List.mem_cons, List.not_mem_nil, or_false] at hc
    rcases hc with rfl | rfl
    · exact la_c0
    · exact la_c1
  have cd11 : StrChars.Road.CodA ([c0, c1] : List Int32) 0 (2 : Int32) [(.int c0.toInt8.toInt32), (.int c1.toInt8.toInt32)] := StrChars.Road.codOf (n := 2) rfl (fun x hx => (la11 x hx).2)
  have bd11 := own_up la11
  obtain ⟨cq5, kq5, q5a, q5b, q5c⟩ := isOf hZ1 e1 fE1
  obtain ⟨_, _, ⟨T5, L5, k5, n5⟩, -, X5, ⟨Lc5, hQ5, l5, y5, z5⟩, st5⟩ := X1.virtualBack hx (y := (⟨"java/lang/String", "equals", "(Ljava/lang/Object;)Z"⟩ : MethodName)) (z := (⟨"java/lang/String", "equals", "(Ljava/lang/Object;)Z"⟩ : MethodName)) ho1 (mvT hZ1 (own_w hw 58 rfl)) (mvT hZ1 (own_w hw 59 rfl)) (notFace_of_selects (args := #[]) (mvT hZ1 (own_w hw 61 rfl))) (mvT hZ1 (own_w hw 61 rfl)) (mvT hZ1 (own_w hw 60 rfl)) (by decide) (StrChars.Road.eqW (W := 0) hZ1 hwq (kI := 4) (own_w hw 6 rfl) (cs := [(116 : Int32), (114 : Int32), (117 : Int32), (101 : Int32)]) fE1 fV1 fC1 fA1 cd6 bd6 (by show 4 ≤ 4000; decide) (ds := [c0, c1]) f7 f8 f9 f10 cd11 bd11 (by show 2 ≤ 4000; decide) (S_C.ext O2.2) hzc (by decide) (by decide)) q5a q5c (g := (mkF m 3 #[.val (.ref x), .unset] [(.ref x), (.ref x1)])) rfl (by rw [hml]; rfl) (Steps.refl _) (argsL := [(.ref x)]) (rest := []) (lenOf pd_3 rfl) rfl (by show 2 * 0 + _ ≤ _; exact Nat.le_of_eq rfl) (hb hby d5_3) (fun _ _ => ⟨rfl, e1, (by decide : 2 + 0 ≤ _), (by decide : 20 + 0 ≤ _)⟩)
  dsimp only [Pt.U, Pt.locs, Pt.cells, Pt.slots] at X5 l5 y5 z5 st5 hQ5
  subst l5 y5 z5
  obtain ⟨hQ5, rfl, k12⟩ := hQ5
  have N14 := Fr.app N0 (Fr.nil n0)
  rcases hQ5 with ⟨rfl, c13⟩ | ⟨rfl, c13⟩
  · exact absurd c13 (fun q => by have := congrArg List.length q; simp at this)
  · obtain ⟨x15, T15, h15, q15, y15, j15, X15, e15, E15, hS15, hk15, hZ15, ho15, fE15, fC15, fV15, fA15, la15, lb15, C15, -, ns15, st15⟩ := ldcCH X5 hx hZ1 ho1 (own_w hw 67 rfl) own_at k12 hS1 hk1 own_ew (by decide) CR4.1 (vs := [(.int (49 : Int32).toInt8.toInt32)]) (z := (1 : Int32)) ⟨by decide, by decide +kernel⟩ (by decide) rfl (g := (mkF m 9 #[.val (.ref x), .unset] [])) rfl (hb hby d5_9) (n := 4) (by decide) (by decide) (by decide) (by decide)
    have O16 := O2.ext E15
    have K17 : Keep h0 h15 [] := K3.ext E15
    have CR18 := CR4.trans C15
    have la20 : ∀ c ∈ ([(49 : Int32)] : List Int32), ¬ c < 0 ∧ ¬ (255 : Int32) < c := by
      intro c hc
      simp only [List.mem_cons, List.not_mem_nil, or_false] at hc
      rcases hc with rfl
      · exact ⟨by decide, by decide⟩
    have cd20 : StrChars.Road.CodA ([(49 : Int32)] : List Int32) 0 (1 : Int32) [(.int (49 : Int32).toInt8.toInt32)] := StrChars.Road.codOf (n := 1) rfl (fun x hx => (la20 x hx).2)
    have bd20 := own_up la20
    have f21 := (Exa.ext E15 f7)
    have f22 := (Fld.ext E15 f8)
    have f23 := (Fld.ext E15 f9)
    have f24 := (Arv.ext f10 E15)
    obtain ⟨cq19, kq19, q19a, q19b, q19c⟩ := isOf hZ15 e15 fE15
    obtain ⟨_, _, ⟨T19, L19, k19, n19⟩, -, X19, ⟨Lc19, hQ19, l19, y19, z19⟩, st19⟩ := X15.virtualBack hx (y := (⟨"java/lang/String", "equals", "(Ljava/lang/Object;)Z"⟩ : MethodName)) (z := (⟨"java/lang/String", "equals", "(Ljava/lang/Object;)Z"⟩ : MethodName)) ho15 (mvT hZ15 (own_w hw 58 rfl)) (mvT hZ15 (own_w hw 59 rfl)) (notFace_of_selects (args := #[]) (mvT hZ15 (own_w hw 61 rfl))) (mvT hZ15 (own_w hw 61 rfl)) (mvT hZ15 (own_w hw 60 rfl)) (by decide) (StrChars.Road.eqW (W := 0) hZ15 hwq (kI := 4) (own_w hw 6 rfl) (cs := [(49 : Int32)]) fE15 fV15 fC15 fA15 cd20 bd20 (by show 1 ≤ 4000; decide) (ds := [c0, c1]) f21 f22 f23 f24 cd11 bd11 (by show 2 ≤ 4000; decide) (S_C.ext O16.2) hzc (by decide) (by decide)) q19a q19c (g := (mkF m 12 #[.val (.ref x), .unset] [(.ref x), (.ref x15)])) rfl (by rw [hml]; rfl) (Steps.refl _) (argsL := [(.ref x)]) (rest := []) (lenOf pd_3 rfl) rfl (by show 2 * 0 + _ ≤ _; exact Nat.le_of_eq rfl) (hb hby d5_12) (fun _ _ => ⟨rfl, e15, (by decide : 4 + 0 ≤ _), (by decide : 28 + 0 ≤ _)⟩)
    dsimp only [Pt.U, Pt.locs, Pt.cells, Pt.slots] at X19 l19 y19 z19 st19 hQ19
    subst l19 y19 z19
    obtain ⟨hQ19, rfl, k25⟩ := hQ19
    have N27 := Fr.app N14 (Fr.nil n0)
    rcases hQ19 with ⟨rfl, c26⟩ | ⟨rfl, c26⟩
    · exact absurd c26 (fun q => by have := congrArg List.length q; simp at this)
    · obtain ⟨x28, T28, h28, q28, y28, j28, X28, e28, E28, hS28, hk28, hZ28, ho28, fE28, fC28, fV28, fA28, la28, lb28, C28, -, ns28, st28⟩ := own_ldcW X19 hx hZ15 ho15 (own_w hw 68 rfl) own_at k25 hS15 hk15 own_ew (by decide) CR18.1 (vs := [(.int (102 : Int32).toInt8.toInt32), (.int (97 : Int32).toInt8.toInt32), (.int (108 : Int32).toInt8.toInt32), (.int (115 : Int32).toInt8.toInt32), (.int (101 : Int32).toInt8.toInt32)]) (z := (5 : Int32)) ⟨by decide, by decide +kernel⟩ (by decide) rfl (g := (mkF m 25 #[.val (.ref x), .unset] [])) rfl (hb hby d5_25) (n := 20) (by decide) (by decide) (by decide) (by decide)
      have f29 := (Exa.ext E15 fE1)
      have f30 := (Arv.ext fA1 E15)
      have O31 := O16.ext E28
      have K32 : Keep h0 h28 [] := K17.ext E28
      have CR33 := CR18.trans C28
      have la35 : ∀ c ∈ ([(102 : Int32), (97 : Int32), (108 : Int32), (115 : Int32), (101 : Int32)] : List Int32), ¬ c < 0 ∧ ¬ (255 : Int32) < c := by
        intro c hc
        simp only [List.mem_cons, List.not_mem_nil, or_false] at hc
        rcases hc with rfl | rfl | rfl | rfl | rfl
        · exact ⟨by decide, by decide⟩
        · exact ⟨by decide, by decide⟩
        · exact ⟨by decide, by decide⟩
        · exact ⟨by decide, by decide⟩
        · exact ⟨by decide, by decide⟩
      have cd35 : StrChars.Road.CodA ([(102 : Int32), (97 : Int32), (108 : Int32), (115 : Int32), (101 : Int32)] : List Int32) 0 (5 : Int32) [(.int (102 : Int32).toInt8.toInt32), (.int (97 : Int32).toInt8.toInt32), (.int (108 : Int32).toInt8.toInt32), (.int (115 : Int32).toInt8.toInt32), (.int (101 : Int32).toInt8.toInt32)] := StrChars.Road.codOf (n := 5) rfl (fun x hx => (la35 x hx).2)
      have bd35 := own_up la35
      have f36 := (Exa.ext E28 f21)
      have f37 := (Fld.ext E28 f22)
      have f38 := (Fld.ext E28 f23)
      have f39 := (Arv.ext f24 E28)
      obtain ⟨cq34, kq34, q34a, q34b, q34c⟩ := isOf hZ28 e28 fE28
      obtain ⟨_, _, ⟨T34, L34, k34, n34⟩, -, X34, ⟨Lc34, hQ34, l34, y34, z34⟩, st34⟩ := X28.virtualBack hx (y := (⟨"java/lang/String", "equals", "(Ljava/lang/Object;)Z"⟩ : MethodName)) (z := (⟨"java/lang/String", "equals", "(Ljava/lang/Object;)Z"⟩ : MethodName)) ho28 (mvT hZ28 (own_w hw 58 rfl)) (mvT hZ28 (own_w hw 59 rfl)) (notFace_of_selects (args := #[]) (mvT hZ28 (own_w hw 61 rfl))) (mvT hZ28 (own_w hw 61 rfl)) (mvT hZ28 (own_w hw 60 rfl)) (by decide) (StrChars.Road.eqW (W := 0) hZ28 hwq (kI := 4) (own_w hw 6 rfl) (cs := [(102 : Int32), (97 : Int32), (108 : Int32), (115 : Int32), (101 : Int32)]) fE28 fV28 fC28 fA28 cd35 bd35 (by show 5 ≤ 4000; decide) (ds := [c0, c1]) f36 f37 f38 f39 cd11 bd11 (by show 2 ≤ 4000; decide) (S_C.ext O31.2) hzc (by decide) (by decide)) q34a q34c (g := (mkF m 29 #[.val (.ref x), .unset] [(.ref x), (.ref x28)])) rfl (by rw [hml]; rfl) (Steps.refl _) (argsL := [(.ref x)]) (rest := []) (lenOf pd_3 rfl) rfl (by show 2 * 0 + _ ≤ _; exact Nat.le_of_eq rfl) (hb hby d5_29) (fun _ _ => ⟨rfl, e28, (by decide : 6 + 0 ≤ _), (by decide : 52 + 0 ≤ _)⟩)
      dsimp only [Pt.U, Pt.locs, Pt.cells, Pt.slots] at X34 l34 y34 z34 st34 hQ34
      subst l34 y34 z34
      obtain ⟨hQ34, rfl, k40⟩ := hQ34
      have N42 := Fr.app N27 (Fr.nil n0)
      rcases hQ34 with ⟨rfl, c41⟩ | ⟨rfl, c41⟩
      · exact absurd c41 (fun q => by have := congrArg List.length q; simp at this)
      · obtain ⟨x43, T43, h43, q43, y43, j43, X43, e43, E43, hS43, hk43, hZ43, ho43, fE43, fC43, fV43, fA43, la43, lb43, C43, -, ns43, st43⟩ := own_ldcW X34 hx hZ28 ho28 (own_w hw 69 rfl) own_at k40 hS28 hk28 own_ew (by decide) CR33.1 (vs := [(.int (48 : Int32).toInt8.toInt32)]) (z := (1 : Int32)) ⟨by decide, by decide +kernel⟩ (by decide) rfl (g := (mkF m 35 #[.val (.ref x), .unset] [])) rfl (hb hby d5_35) (n := 4) (by decide) (by decide) (by decide) (by decide)
        have f44 := (Exa.ext E28 fE15)
        have f45 := (Arv.ext fA15 E28)
        have f46 := (Exa.ext E28 f29)
        have f47 := (Arv.ext f30 E28)
        have O48 := O31.ext E43
        have K49 : Keep h0 h43 [] := K32.ext E43
        have CR50 := CR33.trans C43
        have la52 : ∀ c ∈ ([(48 : Int32)] : List Int32), ¬ c < 0 ∧ ¬ (255 : Int32) < c := by
          intro c hc
          simp only [List.mem_cons, List.not_mem_nil, or_false] at hc
          rcases hc with rfl
          · exact ⟨by decide, by decide⟩
        have cd52 : StrChars.Road.CodA ([(48 : Int32)] : List Int32) 0 (1 : Int32) [(.int (48 : Int32).toInt8.toInt32)] := StrChars.Road.codOf (n := 1) rfl (fun x hx => (la52 x hx).2)
        have bd52 := own_up la52
        have f53 := (Exa.ext E43 f36)
        have f54 := (Fld.ext E43 f37)
        have f55 := (Fld.ext E43 f38)
        have f56 := (Arv.ext f39 E43)
        obtain ⟨cq51, kq51, q51a, q51b, q51c⟩ := isOf hZ43 e43 fE43
        obtain ⟨_, _, ⟨T51, L51, k51, n51⟩, -, X51, ⟨Lc51, hQ51, l51, y51, z51⟩, st51⟩ := X43.virtualBack hx (y := (⟨"java/lang/String", "equals", "(Ljava/lang/Object;)Z"⟩ : MethodName)) (z := (⟨"java/lang/String", "equals", "(Ljava/lang/Object;)Z"⟩ : MethodName)) ho43 (mvT hZ43 (own_w hw 58 rfl)) (mvT hZ43 (own_w hw 59 rfl)) (notFace_of_selects (args := #[]) (mvT hZ43 (own_w hw 61 rfl))) (mvT hZ43 (own_w hw 61 rfl)) (mvT hZ43 (own_w hw 60 rfl)) (by decide) (StrChars.Road.eqW (W := 0) hZ43 hwq (kI := 4) (own_w hw 6 rfl) (cs := [(48 : Int32)]) fE43 fV43 fC43 fA43 cd52 bd52 (by show 1 ≤ 4000; decide) (ds := [c0, c1]) f53 f54 f55 f56 cd11 bd11 (by show 2 ≤ 4000; decide) (S_C.ext O48.2) hzc (by decide) (by decide)) q51a q51c (g := (mkF m 39 #[.val (.ref x), .unset] [(.ref x), (.ref x43)])) rfl (by rw [hml]; rfl) (Steps.refl _) (argsL := [(.ref x)]) (rest := []) (lenOf pd_3 rfl) rfl (by show 2 * 0 + _ ≤ _; exact Nat.le_of_eq rfl) (hb hby d5_39) (fun _ _ => ⟨rfl, e43, (by decide : 8 + 0 ≤ _), (by decide : 60 + 0 ≤ _)⟩)
        dsimp only [Pt.U, Pt.locs, Pt.cells, Pt.slots] at X51 l51 y51 z51 st51 hQ51
        subst l51 y51 z51
        obtain ⟨hQ51, rfl, k57⟩ := hQ51
        have N59 := Fr.app N42 (Fr.nil n0)
        rcases hQ51 with ⟨rfl, c58⟩ | ⟨rfl, c58⟩
        · exact absurd c58 (fun q => by have := congrArg List.length q; simp at this)
        · have S60 : ∀ t, Steps p.tables e below (T51.setTop (mkF m 55 #[.val (.ref x), .val .null] [.null])) t → Steps p.tables e below (s₁.setTop (mkF m 0 #[.val (.ref x), .unset] [])) t := by
            intro t kt
            refine st1 _ ?_
            refine XS.aloadN X1.here hx rfl (hb hby d5_2) rfl rfl ?_
            show Steps p.tables e below (T1.setTop (mkF m 3 #[.val (.ref x), .unset] [(.ref x), (.ref x1)])) _
            refine st5.trans ?_
            refine XS.ifNo X5.here hx rfl (hb hby d5_6) rfl ((if0 _ _).trans (teq ((by decide) : (0 : Int32) = (0 : Int32))).2) ?_
            show Steps p.tables e below (T5.setTop (mkF m 9 #[.val (.ref x), .unset] [])) _
            refine st15 _ ?_
            refine XS.aloadN X15.here hx rfl (hb hby d5_11) rfl rfl ?_
            show Steps p.tables e below (T15.setTop (mkF m 12 #[.val (.ref x), .unset] [(.ref x), (.ref x15)])) _
            refine st19.trans ?_
            refine XS.ifYes X19.here hx rfl (pc0 := 15) (pc' := 25) rfl (hb hby d5_15) rfl ((if0 _ _).trans (teq ((by decide) : (0 : Int32) = (0 : Int32))).1) (by decide) (by decide) ?_
            show Steps p.tables e below (T19.setTop (mkF m 25 #[.val (.ref x), .unset] [])) _
            refine st28 _ ?_
            refine XS.aloadN X28.here hx rfl (hb hby d5_28) rfl rfl ?_
            show Steps p.tables e below (T28.setTop (mkF m 29 #[.val (.ref x), .unset] [(.ref x), (.ref x28)])) _
            refine st34.trans ?_
            refine XS.ifNo X34.here hx rfl (hb hby d5_32) rfl ((if0 _ _).trans (teq ((by decide) : (0 : Int32) = (0 : Int32))).2) ?_
            show Steps p.tables e below (T34.setTop (mkF m 35 #[.val (.ref x), .unset] [])) _
            refine st43 _ ?_
            refine XS.aloadN X43.here hx rfl (hb hby d5_38) rfl rfl ?_
            show Steps p.tables e below (T43.setTop (mkF m 39 #[.val (.ref x), .unset] [(.ref x), (.ref x43)])) _
            refine st51.trans ?_
            refine XS.ifYes X51.here hx rfl (pc0 := 42) (pc' := 52) rfl (hb hby d5_42) rfl ((if0 _ _).trans (teq ((by decide) : (0 : Int32) = (0 : Int32))).1) (by decide) (by decide) ?_
            refine XS.aconstNull X51.here hx rfl (hb hby d5_52) ?_
            refine XS.astoreN X51.here hx rfl (hb hby d5_53) rfl rfl (l' := #[.val (.ref x), .val .null]) rfl ?_
            refine XS.aloadN X51.here hx rfl (hb hby d5_54) rfl rfl ?_
            exact kt
          obtain ⟨fs, hr, hrun, hended, hRW⟩ := X51.leaveW hS43 (by rw [k57]; exact hk43) (v := some .null) (fun h => by rw [Bd.returns] at h; cases h)
          refine ⟨_, _, pre0 _ (S60 _ ?_), hrun, hended, _, _, rfl, ?_, ?_, hRW.1, hRW.2.1, hRW.2.2.1, hRW.2.2.2.mono (by decide) (by decide)⟩
          · exact retOut X51 hx Bd.returns rfl (Or.inr (Or.inr (Or.inr (Or.inr ⟨rfl, rfl, rfl⟩)))) (hb hby d5_55) hr
          · show Q_rm_bool2 Z x tx kx c0 c1 zc wT wF h0 n0 _ T51.heap _
            rw [k57]
            exact ⟨rfl, N59, K49⟩
          · show CHr Z own_EL s.vm s.heap T51.vm T51.heap
            rw [hh, k57]
            exact CR50.trans (CHv.at X51 hZ43 own_ew CR50.1)
theorem ef_rm_bool3 (m : MethodId) (x0 : Addr) : entryFrame m #[(.ref x0)] 2 = mkF m 0 #[.val (.ref x0), .unset] [] := by first | (simp [entryFrame, mkF, argsToLocals, Value.category]; done) | rfl
def Q_rm_bool3 (Z : State) (x : Addr) (tx : Addr) (kx : ClassId) (c0 : Int32) (c1 : Int32) (c2 : Int32) (zc : Int32) (wT : Addr) (wF : Addr) (h0 : Heap) (n0 : Nat) (v : Option Value) (h : Heap) (L : List Loc) : Prop := ((v = some .null) ∧ (Fr n0 L) ∧ (Keep h0 h []))
set_option maxRecDepth 65536 in
set_option maxHeartbeats 40000000 in
theorem rm_bool3 (l : Launch) (Z : State) (a0 : Array Value) (hw : ∀ d ∈ tables_1, d.before a0 Z = true) (ws : List Jvm.Cond) (x : Addr) (tx : Addr) (kx : ClassId) (c0 : Int32) (c1 : Int32) (c2 : Int32) (zc : Int32) (wT : Addr) (wF : Addr) (h0 : Heap) (n0 : Nat) (O0 : Old Z n0 h0) (E_x : Exa Z h0 x "java/lang/String") (V_x : Fld Z h0 x "java/lang/String" "value" "[B" (.ref tx)) (C_x : Fld Z h0 x "java/lang/String" "coder" "B" (.int (0 : Int32))) (K_x : Arv Z h0 tx kx .byte (3 : Int32) [(.int c0.toInt8.toInt32), (.int c1.toInt8.toInt32), (.int c2.toInt8.toInt32)] (.int (0 : Int32))) (la_c0 : ¬ (c0 < (0 : Int32)) ∧ ¬ ((255 : Int32) < c0)) (la_c1 : ¬ (c1 < (0 : Int32)) ∧ ¬ ((255 : Int32) < c1)) (la_c2 : ¬ (c2 < (0 : Int32)) ∧ ¬ ((255 : Int32) < c2)) (S_C : Sta Z Z.heap "java/lang/String" "COMPACT_STRINGS" "Z" (.int zc)) (hzc : ¬ (zc = (0 : Int32))) (S_T : Sta Z Z.heap "java/lang/Boolean" "TRUE" "Ljava/lang/Boolean;" (.ref wT)) (S_F0 : Sta Z Z.heap "java/lang/Boolean" "FALSE" "Ljava/lang/Boolean;" (.ref wF)) :
    MetFree l (⟨"com/example/pico_notify/piconotify/Xml", "bool", "(Ljava/lang/String;)Ljava/lang/Boolean;"⟩ : MethodName) (head1 (Jvm.Cond.code (⟨"com/example/pico_notify/piconotify/Xml", "bool", "(Ljava/lang/String;)Ljava/lang/Boolean;"⟩ : MethodName) prog_46_method_18_code 2 (some (.object "java/lang/Boolean")) :: ws) ({ frames := 2, cells := 8, slots := 60, locals := 28 } : Room)) (fun a U => a = #[(.ref x)] ∧ Z.Warmed39 U.vm ∧ U.heap = h0 ∧ CHv Z own_EL U.vm h0 ∧ ∀ own_y ∈ ([] : List Addr), Safe Z own_EL U.vm h0 own_y) (fun _ _ _ _ _ => True) (fun _ U o U' => ∃ v L, o = .returned v ∧ Q_rm_bool3 Z x tx kx c0 c1 c2 zc wT wF h0 n0 v U'.heap L ∧ CHr Z own_EL U.vm U.heap U'.vm U'.heap ∧ ReturnedEndW U o U' L ({ frames := 2, cells := 8, slots := 60, locals := 28 } : Room).cells ({ frames := 2, cells := 8, slots := 60, locals := 28 } : Room).slots) := by
  refine MetFree.of_bodySF (plainFor_of_name pn_2) hisR ?_
  intro p e s m args below meth c s₁ Bd hml0 hP hK
  obtain ⟨rfl, hZ, hh, hCH, hSf⟩ := hP
  have hx := Bd.exec
  have hby := Bd.bytes
  have hml : c.maxLocals = 2 := hml0
  have hown : s.vm.findClass "com/example/pico_notify/piconotify/Xml" = some m.cls := findClass_of_methodNamed Bd.named
  have hnm := (name_of_methodNamed Bd.named Bd.method).1
  have X0 : Stand p l e ({ frames := 2, cells := 8, slots := 60, locals := 28 } : Room) (s.setVm s.vm) m #[(.ref x)] below meth c s₁ [] 0 0 := Stand.of_body Bd
  have e0 : s₁.heap = h0 := by rw [← hh, Bd.state]; rfl
  have N0 := Fr.nil n0
  have hZ0 := hZ
  have ho0 := hown
  have hS0 : s.Since s.vm 0 := (State.WarmedH.refl s).since 0
  have hk0 : 0 ≤ h0.size := Nat.zero_le _
  have CR0 : CHr Z own_EL s.vm h0 s.vm h0 := CHr.refl hCH
  have own_at : ∀ d ∈ Bundle.stringAtoms, d.before a0 Z = true := fun d hd => hw d (own_atoms d hd)
  have own_ew : EW Z a0 own_EL := own_EWof hw
  have hwc : ∀ d ∈ StrChars.Road.wordsChN, d.before a0 Z = true := fun d hd => hw d (own_wordsChN d hd)
  have hwq : ∀ d ∈ StrChars.Road.wordsEq, d.before a0 Z = true := fun d hd => hw d (own_wordsEq d hd)
  have hws : ∀ d ∈ StrChars.Road.words, d.before a0 Z = true := fun d hd => hw d (own_words d hd)
  have K0 : Keep h0 h0 [] := Keep.refl _ _
  have pre0 : ∀ t, Steps p.tables e below (s₁.setTop (mkF m 0 #[.val (.ref x), .unset] [])) t → Steps p.tables e below (s₁.setTop (entryFrame m #[(.ref x)] 2)) t := fun t k => castTop (ef_rm_bool3 m x) k
  obtain ⟨x1, T1, h1, q1, y1, j1, X1, e1, E1, hS1, hk1, hZ1, ho1, fE1, fC1, fV1, fA1, la1, lb1, C1, -, ns1, st1⟩ := ldcCH X0 hx hZ0 ho0 (own_w hw 57 rfl) own_at e0 hS0 hk0 own_ew (by decide) CR0.1 (vs := [(.int (116 : Int32).toInt8.toInt32), (.int (114 : Int32).toInt8.toInt32), (.int (117 : Int32).toInt8.toInt32), (.int (101 : Int32).toInt8.toInt32)]) (z := (4 : Int32)) ⟨by decide, by decide +kernel⟩ (by decide) rfl (g := (mkF m 0 #[.val (.ref x), .unset] [])) rfl (hb hby d5_0) (n := 16) (by decide) (by decide) (by decide) (by decide)
  have O2 := O0.ext E1
  have K3 : Keep h0 h1 [] := K0.ext E1
  have CR4 := CR0.trans C1
  have la6 : ∀ c ∈ ([(116 : Int32), (114 : Int32), (117 : Int32), (101 : Int32)] : List Int32), ¬ c < 0 ∧ ¬ (255 : Int32) < c := by
    intro c hc
    simp only [List.mem_cons, List.not_mem_nil, or_false] at hc
    rcases hc with rfl | rfl | rfl | rfl
    · exact ⟨by decide, by decide⟩
    · exact ⟨by decide, by decide⟩
    · exact ⟨by decide, by decide⟩
    · exact ⟨by decide, by decide⟩
  have cd6 : StrChars.Road.CodA ([(116 : Int32), (114 : Int32), (117 : Int32), (101 : Int32)] : List Int32) 0 (4 : Int32) [(.int (116 : Int32).toInt8.toInt32), (.int (114 : Int32).toInt8.toInt32), (.int (117 : Int32).toInt8.toInt32), (.int (101 : Int32).toInt8.toInt32)] := StrChars.Road.codOf (n := 4) rfl (fun x hx => (la6 x hx).2)
  have bd6 := own_up la6
  have f7 := (Exa.ext E1 E_x)
  have f8 := (Fld.ext E1 V_x)
  have f9 := (Fld.ext E1 C_x)
  have f10 := (Arv.ext K_x E1)
  have la11 : ∀ c ∈ ([c0, c1, c2] : List Int32), ¬ c < 0 ∧ ¬ (255 : Int32) < c := by
    intro c hc
    simp only [List.mem_cons, List.not_mem_nil, or_false] at hc
    rcases hc with rfl | rfl | rfl
    · exact la_c0
    · exact la_c1
    · exact la_c2
  have cd11 : StrChars.Road.CodA ([c0, c1, c2] : List Int32) 0 (3 : Int32) [(.int c0.toInt8.toInt32), (.int c1.toInt8.toInt32), (.int c2.toInt8.toInt32)] := StrChars.Road.codOf (n := 3) rfl (fun x hx => (la11 x hx).2)
  have bd11 := own_up la11
  obtain ⟨cq5, kq5, q5a, q5b, q5c⟩ := isOf hZ1 e1 fE1
  obtain ⟨_, _, ⟨T5, L5, k5, n5⟩, -, X5, ⟨Lc5, hQ5, l5, y5, z5⟩, st5⟩ := X1.virtualBack hx (y := (⟨"java/lang/String", "equals", "(Ljava/lang/Object;)Z"⟩ : MethodName)) (z := (⟨"java/lang/String", "equals", "(Ljava/lang/Object;)Z"⟩ : MethodName)) ho1 (mvT hZ1 (own_w hw 58 rfl)) (mvT hZ1 (own_w hw 59 rfl)) (notFace_of_selects (args := #[]) (mvT hZ1 (own_w hw 61 rfl))) (mvT hZ1 (own_w hw 61 rfl)) (mvT hZ1 (own_w hw 60 rfl)) (by decide) (StrChars.Road.eqW (W := 0) hZ1 hwq (kI := 4) (own_w hw 6 rfl) (cs := [(116 : Int32), (114 : Int32), (117 : Int32), (101 : Int32)]) fE1 fV1 fC1 fA1 cd6 bd6 (by show 4 ≤ 4000; decide) (ds := [c0, c1, c2]) f7 f8 f9 f10 cd11 bd11 (by show 3 ≤ 4000; decide) (S_C.ext O2.2) hzc (by decide) (by decide)) q5a q5c (g := (mkF m 3 #[.val (.ref x), .unset] [(.ref x), (.ref x1)])) rfl (by rw [hml]; rfl) (Steps.refl _) (argsL := [(.ref x)]) (rest := []) (lenOf pd_3 rfl) rfl (by show 2 * 0 + _ ≤ _; exact Nat.le_of_eq rfl) (hb hby d5_3) (fun _ _ => ⟨rfl, e1, (by decide : 2 + 0 ≤ _), (by decide : 20 + 0 ≤ _)⟩)
  dsimp only [Pt.U, Pt.locs, Pt.cells, Pt.slots] at X5 l5 y5 z5 st5 hQ5
  subst l5 y5 z5
  obtain ⟨hQ5, rfl, k12⟩ := hQ5
  have N14 := Fr.app N0 (Fr.nil n0)
  rcases hQ5 with ⟨rfl, c13⟩ | ⟨rfl, c13⟩
  · exact absurd c13 (fun q => by have := congrArg List.length q; simp at this)
  · obtain ⟨x15, T15, h15, q15, y15, j15, X15, e15, E15, hS15, hk15, hZ15, ho15, fE15, fC15, fV15, fA15, la15, lb15, C15, -, ns15, st15⟩ := ldcCH X5 hx hZ1 ho1 (own_w hw 67 rfl) own_at k12 hS1 hk1 own_ew (by decide) CR4.1 (vs := [(.int (49 : Int32).toInt8.toInt32)]) (z := (1 : Int32)) ⟨by decide, by decide +kernel⟩ (by decide) rfl (g := (mkF m 9 #[.val (.ref x), .unset] [])) rfl (hb hby d5_9) (n := 4) (by decide) (by decide) (by decide) (by decide)
    have O16 := O2.ext E15
    have K17 : Keep h0 h15 [] := K3.ext E15
    have CR18 := CR4.trans C15
    have la20 : ∀ c ∈ ([(49 : Int32)] : List Int32), ¬ c < 0 ∧ ¬ (255 : Int32) < c := by
      intro c hc
      simp only [List.mem_cons, List.not_mem_nil, or_false] at hc
      rcases hc with rfl
      · exact ⟨by decide, by decide⟩
    have cd20 : StrChars.Road.CodA ([(49 : Int32)] : List Int32) 0 (1 : Int32) [(.int (49 : Int32).toInt8.toInt32)] := StrChars.Road.codOf (n := 1) rfl (fun x hx => (la20 x hx).2)
    have bd20 := own_up la20
    have f21 := (Exa.ext E15 f7)
    have f22 := (Fld.ext E15 f8)
    have f23 := (Fld.ext E15 f9)
    have f24 := (Arv.ext f10 E15)
    obtain ⟨cq19, kq19, q19a, q19b, q19c⟩ := isOf hZ15 e15 fE15
    obtain ⟨_, _, ⟨T19, L19, k19, n19⟩, -, X19, ⟨Lc19, hQ19, l19, y19, z19⟩, st19⟩ := X15.virtualBack hx (y := (⟨"java/lang/String", "equals", "(Ljava/lang/Object;)Z"⟩ : MethodName)) (z := (⟨"java/lang/String", "equals", "(Ljava/lang/Object;)Z"⟩ : MethodName)) ho15 (mvT hZ15 (own_w hw 58 rfl)) (mvT hZ15 (own_w hw 59 rfl)) (notFace_of_selects (args := #[]) (mvT hZ15 (own_w hw 61 rfl))) (mvT hZ15 (own_w hw 61 rfl)) (mvT hZ15 (own_w hw 60 rfl)) (by decide) (StrChars.Road.eqW (W := 0) hZ15 hwq (kI := 4) (own_w hw 6 rfl) (cs := [(49 : Int32)]) fE15 fV15 fC15 fA15 cd20 bd20 (by show 1 ≤ 4000; decide) (ds := [c0, c1, c2]) f21 f22 f23 f24 cd11 bd11 (by show 3 ≤ 4000; decide) (S_C.ext O16.2) hzc (by decide) (by decide)) q19a q19c (g := (mkF m 12 #[.val (.ref x), .unset] [(.ref x), (.ref x15)])) rfl (by rw [hml]; rfl) (Steps.refl _) (argsL := [(.ref x)]) (rest := []) (lenOf pd_3 rfl) rfl (by show 2 * 0 + _ ≤ _; exact Nat.le_of_eq rfl) (hb hby d5_12) (fun _ _ => ⟨rfl, e15, (by decide : 4 + 0 ≤ _), (by decide : 28 + 0 ≤ _)⟩)
    dsimp only [Pt.U, Pt.locs, Pt.cells, Pt.slots] at X19 l19 y19 z19 st19 hQ19
    subst l19 y19 z19
    obtain ⟨hQ19, rfl, k25⟩ := hQ19
    have N27 := Fr.app N14 (Fr.nil n0)
    rcases hQ19 with ⟨rfl, c26⟩ | ⟨rfl, c26⟩
    · exact absurd c26 (fun q => by have := congrArg List.length q; simp at this)
    · obtain ⟨x28, T28, h28, q28, y28, j28, X28, e28, E28, hS28, hk28, hZ28, ho28, fE28, fC28, fV28, fA28, la28, lb28, C28, -, ns28, st28⟩ := own_ldcW X19 hx hZ15 ho15 (own_w hw 68 rfl) own_at k25 hS15 hk15 own_ew (by decide) CR18.1 (vs := [(.int (102 : Int32).toInt8.toInt32), (.int (97 : Int32).toInt8.toInt32), (.int (108 : Int32).toInt8.toInt32), (.int (115 : Int32).toInt8.toInt32), (.int (101 : Int32).toInt8.toInt32)]) (z := (5 : Int32)) ⟨by decide, by decide +kernel⟩ (by decide) rfl (g := (mkF m 25 #[.val (.ref x), .unset] [])) rfl (hb hby d5_25) (n := 20) (by decide) (by decide) (by decide) (by decide)
      have f29 := (Exa.ext E15 fE1)
      have f30 := (Arv.ext fA1 E15)
      have O31 := O16.ext E28
      have K32 : Keep h0 h28 [] := K17.ext E28
      have CR33 := CR18.trans C28
      have la35 : ∀ c ∈ ([(102 : Int32), (97 : Int32), (108 : Int32), (115 : Int32), (101 : Int32)] : List Int32), ¬ c < 0 ∧ ¬ (255 : Int32) < c := by
        intro c hc
        simp only [List.mem_cons, List.not_mem_nil, or_false] at hc
        rcases hc with rfl | rfl | rfl | rfl | rfl
        · exact ⟨by decide, by decide⟩
        · exact ⟨by decide, by decide⟩
        · exact ⟨by decide, by decide⟩
        · exact ⟨by decide, by decide⟩
        · exact ⟨by decide, by decide⟩
      have cd35 : StrChars.Road.CodA ([(102 : Int32), (97 : Int32), (108 : Int32), (115 : Int32), (101 : Int32)] : List Int32) 0 (5 : Int32) [(.int (102 : Int32).toInt8.toInt32), (.int (97 : Int32).toInt8.toInt32), (.int (108 : Int32).toInt8.toInt32), (.int (115 : Int32).toInt8.toInt32), (.int (101 : Int32).toInt8.toInt32)] := StrChars.Road.codOf (n := 5) rfl (fun x hx => (la35 x hx).2)
      have bd35 := own_up la35
      have f36 := (Exa.ext E28 f21)
      have f37 := (Fld.ext E28 f22)
      have f38 := (Fld.ext E28 f23)
      have f39 := (Arv.ext f24 E28)
      obtain ⟨cq34, kq34, q34a, q34b, q34c⟩ := isOf hZ28 e28 fE28
      obtain ⟨_, _, ⟨T34, L34, k34, n34⟩, -, X34, ⟨Lc34, hQ34, l34, y34, z34⟩, st34⟩ := X28.virtualBack hx (y := (⟨"java/lang/String", "equals", "(Ljava/lang/Object;)Z"⟩ : MethodName)) (z := (⟨"java/lang/String", "equals", "(Ljava/lang/Object;)Z"⟩ : MethodName)) ho28 (mvT hZ28 (own_w hw 58 rfl)) (mvT hZ28 (own_w hw 59 rfl)) (notFace_of_selects (args := #[]) (mvT hZ28 (own_w hw 61 rfl))) (mvT hZ28 (own_w hw 61 rfl)) (mvT hZ28 (own_w hw 60 rfl)) (by decide) (StrChars.Road.eqW (W := 0) hZ28 hwq (kI := 4) (own_w hw 6 rfl) (cs := [(102 : Int32), (97 : Int32), (108 : Int32), (115 : Int32), (101 : Int32)]) fE28 fV28 fC28 fA28 cd35 bd35 (by show 5 ≤ 4000; decide) (ds := [c0, c1, c2]) f36 f37 f38 f39 cd11 bd11 (by show 3 ≤ 4000; decide) (S_C.ext O31.2) hzc (by decide) (by decide)) q34a q34c (g := (mkF m 29 #[.val (.ref x), .unset] [(.ref x), (.ref x28)])) rfl (by rw [hml]; rfl) (Steps.refl _) (argsL := [(.ref x)]) (rest := []) (lenOf pd_3 rfl) rfl (by show 2 * 0 + _ ≤ _; exact Nat.le_of_eq rfl) (hb hby d5_29) (fun _ _ => ⟨rfl, e28, (by decide : 6 + 0 ≤ _), (by decide : 52 + 0 ≤ _)⟩)
      dsimp only [Pt.U, Pt.locs, Pt.cells, Pt.slots] at X34 l34 y34 z34 st34 hQ34
      subst l34 y34 z34
      obtain ⟨hQ34, rfl, k40⟩ := hQ34
      have N42 := Fr.app N27 (Fr.nil n0)
      rcases hQ34 with ⟨rfl, c41⟩ | ⟨rfl, c41⟩
      · exact absurd c41 (fun q => by have := congrArg List.length q; simp at this)
      · obtain ⟨x43, T43, h43, q43, y43, j43, X43, e43, E43, hS43, hk43, hZ43, ho43, fE43, fC43, fV43, fA43, la43, lb43, C43, -, ns43, st43⟩ := own_ldcW X34 hx hZ28 ho28 (own_w hw 69 rfl) own_at k40 hS28 hk28 own_ew (by decide) CR33.1 (vs := [(.int (48 : Int32).toInt8.toInt32)]) (z := (1 : Int32)) ⟨by decide, by decide +kernel⟩ (by decide) rfl (g := (mkF m 35 #[.val (.ref x), .unset] [])) rfl (hb hby d5_35) (n := 4) (by decide) (by decide) (by decide) (by decide)
        have f44 := (Exa.ext E28 fE15)
        have f45 := (Arv.ext fA15 E28)
        have f46 := (Exa.ext E28 f29)
        have f47 := (Arv.ext f30 E28)
        have O48 := O31.ext E43
        have K49 : Keep h0 h43 [] := K32.ext E43
        have CR50 := CR33.trans C43
        have la52 : ∀ c ∈ ([(48 : Int32)] : List Int32), ¬ c < 0 ∧ ¬ (255 : Int32) < c := by
          intro c hc
          simp only [List.mem_cons, List.not_mem_nil, or_false] at hc
          rcases hc with rfl
          · exact ⟨by decide, by decide⟩
        have cd52 : StrChars.Road.CodA ([(48 : Int32)] : List Int32) 0 (1 : Int32) [(.int (48 : Int32).toInt8.toInt32)] := StrChars.Road.codOf (n := 1) rfl (fun x hx => (la52 x hx).2)
        have bd52 := own_up la52
        have f53 := (Exa.ext E43 f36)
        have f54 := (Fld.ext E43 f37)
        have f55 := (Fld.ext E43 f38)
        have f56 := (Arv.ext f39 E43)
        obtain ⟨cq51, kq51, q51a, q51b, q51c⟩ := isOf hZ43 e43 fE43
        obtain ⟨_, _, ⟨T51, L51, k51, n51⟩, -, X51, ⟨Lc51, hQ51, l51, y51, z51⟩, st51⟩ := X43.virtualBack hx (y := (⟨"java/lang/String", "equals", "(Ljava/lang/Object;)Z"⟩ : MethodName)) (z := (⟨"java/lang/String", "equals", "(Ljava/lang/Object;)Z"⟩ : MethodName)) ho43 (mvT hZ43 (own_w hw 58 rfl)) (mvT hZ43 (own_w hw 59 rfl)) (notFace_of_selects (args := #[]) (mvT hZ43 (own_w hw 61 rfl))) (mvT hZ43 (own_w hw 61 rfl)) (mvT hZ43 (own_w hw 60 rfl)) (by decide) (StrChars.Road.eqW (W := 0) hZ43 hwq (kI := 4) (own_w hw 6 rfl) (cs := [(48 : Int32)]) fE43 fV43 fC43 fA43 cd52 bd52 (by show 1 ≤ 4000; decide) (ds := [c0, c1, c2]) f53 f54 f55 f56 cd11 bd11 (by show 3 ≤ 4000; decide) (S_C.ext O48.2) hzc (by decide) (by decide)) q51a q51c (g := (mkF m 39 #[.val (.ref x), .unset] [(.ref x), (.ref x43)])) rfl (by rw [hml]; rfl) (Steps.refl _) (argsL := [(.ref x)]) (rest := []) (lenOf pd_3 rfl) rfl (by show 2 * 0 + _ ≤ _; exact Nat.le_of_eq rfl) (hb hby d5_39) (fun _ _ => ⟨rfl, e43, (by decide : 8 + 0 ≤ _), (by decide : 60 + 0 ≤ _)⟩)
        dsimp only [Pt.U, Pt.locs, Pt.cells, Pt.slots] at X51 l51 y51 z51 st51 hQ51
        subst l51 y51 z51
        obtain ⟨hQ51, rfl, k57⟩ := hQ51
        have N59 := Fr.app N42 (Fr.nil n0)
        rcases hQ51 with ⟨rfl, c58⟩ | ⟨rfl, c58⟩
        · exact absurd c58 (fun q => by have := congrArg List.length q; simp at this)
        · have S60 : ∀ t, Steps p.tables e below (T51.setTop (mkF m 55 #[.val (.ref x), .val .null] [.null])) t → Steps p.tables e below (s₁.setTop (mkF m 0 #[.val (.ref x), .unset] [])) t := by
            intro t kt
            refine st1 _ ?_
            refine XS.aloadN X1.here hx rfl (hb hby d5_2) rfl rfl ?_
            show Steps p.tables e below (T1.setTop (mkF m 3 #[.val (.ref x), .unset] [(.ref x), (.ref x1)])) _
            refine st5.trans ?_
            refine XS.ifNo X5.here hx rfl (hb hby d5_6) rfl ((if0 _ _).trans (teq ((by decide) : (0 : Int32) = (0 : Int32))).2) ?_
            show Steps p.tables e below (T5.setTop (mkF m 9 #[.val (.ref x), .unset] [])) _
            refine st15 _ ?_
            refine XS.aloadN X15.here hx rfl (hb hby d5_11) rfl rfl ?_
            show Steps p.tables e below (T15.setTop (mkF m 12 #[.val (.ref x), .unset] [(.ref x), (.ref x15)])) _
            refine st19.trans ?_
            refine XS.ifYes X19.here hx rfl (pc0 := 15) (pc' := 25) rfl (hb hby d5_15) rfl ((if0 _ _).trans (teq ((by decide) : (0 : Int32) = (0 : Int32))).1) (by decide) (by decide) ?_
            show Steps p.tables e below (T19.setTop (mkF m 25 #[.val (.ref x), .unset] [])) _
            refine st28 _ ?_
            refine XS.aloadN X28.here hx rfl (hb hby d5_28) rfl rfl ?_
            show Steps p.tables e below (T28.setTop (mkF m 29 #[.val (.ref x), .unset] [(.ref x), (.ref x28)])) _
            refine st34.trans ?_
            refine XS.ifNo X34.here hx rfl (hb hby d5_32) rfl ((if0 _ _).trans (teq ((by decide) : (0 : Int32) = (0 : Int32))).2) ?_
            show Steps p.tables e below (T34.setTop (mkF m 35 #[.val (.ref x), .unset] [])) _
            refine st43 _ ?_
            refine XS.aloadN X43.here hx rfl (hb hby d5_38) rfl rfl ?_
            show Steps p.tables e below (T43.setTop (mkF m 39 #[.val (.ref x), .unset] [(.ref x), (.ref x43)])) _
            refine st51.trans ?_
            refine XS.ifYes X51.here hx rfl (pc0 := 42) (pc' := 52) rfl (hb hby d5_42) rfl ((if0 _ _).trans (teq ((by decide) : (0 : Int32) = (0 : Int32))).1) (by decide) (by decide) ?_
            refine XS.aconstNull X51.here hx rfl (hb hby d5_52) ?_
            refine XS.astoreN X51.here hx rfl (hb hby d5_53) rfl rfl (l' := #[.val (.ref x), .val .null]) rfl ?_
            refine XS.aloadN X51.here hx rfl (hb hby d5_54) rfl rfl ?_
            exact kt
          obtain ⟨fs, hr, hrun, hended, hRW⟩ := X51.leaveW hS43 (by rw [k57]; exact hk43) (v := some .null) (fun h => by rw [Bd.returns] at h; cases h)
          refine ⟨_, _, pre0 _ (S60 _ ?_), hrun, hended, _, _, rfl, ?_, ?_, hRW.1, hRW.2.1, hRW.2.2.1, hRW.2.2.2.mono (by decide) (by decide)⟩
          · exact retOut X51 hx Bd.returns rfl (Or.inr (Or.inr (Or.inr (Or.inr ⟨rfl, rfl, rfl⟩)))) (hb hby d5_55) hr
          · show Q_rm_bool3 Z x tx kx c0 c1 c2 zc wT wF h0 n0 _ T51.heap _
            rw [k57]
            exact ⟨rfl, N59, K49⟩
          · show CHr Z own_EL s.vm s.heap T51.vm T51.heap
            rw [hh, k57]
            exact CR50.trans (CHv.at X51 hZ43 own_ew CR50.1)
theorem ef_rm_bool4 (m : MethodId) (x0 : Addr) : entryFrame m #[(.ref x0)] 2 = mkF m 0 #[.val (.ref x0), .unset] [] := by first | (simp [entryFrame, mkF, argsToLocals, Value.category]; done) | rfl
def Q_rm_bool4 (Z : State) (x : Addr) (tx : Addr) (kx : ClassId) (c0 : Int32) (c1 : Int32) (c2 : Int32) (c3 : Int32) (zc : Int32) (wT : Addr) (wF : Addr) (h0 : Heap) (n0 : Nat) (v : Option Value) (h : Heap) (L : List Loc) : Prop := ((([(116 : Int32), (114 : Int32), (117 : Int32), (101 : Int32)] : List Int32) = [c0, c1, c2, c3]) ∧ (v = some (.ref wT)) ∧ (Fr n0 L) ∧ (Keep h0 h [])) ∨ ((¬ (([(116 : Int32), (114 : Int32), (117 : Int32), (101 : Int32)] : List Int32) = [c0, c1, c2, c3])) ∧ (v = some .null) ∧ (Fr n0 L) ∧ (Keep h0 h []))
set_option maxRecDepth 65536 in
set_option maxHeartbeats 40000000 in
theorem rm_bool4 (l : Launch) (Z : State) (a0 : Array Value) (hw : ∀ d ∈ tables_1, d.before a0 Z = true) (ws : List Jvm.Cond) (x : Addr) (tx : Addr) (kx : ClassId) (c0 : Int32) (c1 : Int32) (c2 : Int32) (c3 : Int32) (zc : Int32) (wT : Addr) (wF : Addr) (h0 : Heap) (n0 : Nat) (O0 : Old Z n0 h0) (E_x : Exa Z h0 x "java/lang/String") (V_x : Fld Z h0 x "java/lang/String" "value" "[B" (.ref tx)) (C_x : Fld Z h0 x "java/lang/String" "coder" "B" (.int (0 : Int32))) (K_x : Arv Z h0 tx kx .byte (4 : Int32) [(.int c0.toInt8.toInt32), (.int c1.toInt8.toInt32), (.int c2.toInt8.toInt32), (.int c3.toInt8.toInt32)] (.int (0 : Int32))) (la_c0 : ¬ (c0 < (0 : Int32)) ∧ ¬ ((255 : Int32) < c0)) (la_c1 : ¬ (c1 < (0 : Int32)) ∧ ¬ ((255 : Int32) < c1)) (la_c2 : ¬ (c2 < (0 : Int32)) ∧ ¬ ((255 : Int32) < c2)) (la_c3 : ¬ (c3 < (0 : Int32)) ∧ ¬ ((255 : Int32) < c3)) (S_C : Sta Z Z.heap "java/lang/String" "COMPACT_STRINGS" "Z" (.int zc)) (hzc : ¬ (zc = (0 : Int32))) (S_T : Sta Z Z.heap "java/lang/Boolean" "TRUE" "Ljava/lang/Boolean;" (.ref wT)) (S_F0 : Sta Z Z.heap "java/lang/Boolean" "FALSE" "Ljava/lang/Boolean;" (.ref wF)) :
    MetFree l (⟨"com/example/pico_notify/piconotify/Xml", "bool", "(Ljava/lang/String;)Ljava/lang/Boolean;"⟩ : MethodName) (head1 (Jvm.Cond.code (⟨"com/example/pico_notify/piconotify/Xml", "bool", "(Ljava/lang/String;)Ljava/lang/Boolean;"⟩ : MethodName) prog_46_method_18_code 2 (some (.object "java/lang/Boolean")) :: ws) ({ frames := 2, cells := 8, slots := 60, locals := 28 } : Room)) (fun a U => a = #[(.ref x)] ∧ Z.Warmed39 U.vm ∧ U.heap = h0 ∧ CHv Z own_EL U.vm h0 ∧ ∀ own_y ∈ ([] : List Addr), Safe Z own_EL U.vm h0 own_y) (fun _ _ _ _ _ => True) (fun _ U o U' => ∃ v L, o = .returned v ∧ Q_rm_bool4 Z x tx kx c0 c1 c2 c3 zc wT wF h0 n0 v U'.heap L ∧ CHr Z own_EL U.vm U.heap U'.vm U'.heap ∧ ReturnedEndW U o U' L ({ frames := 2, cells := 8, slots := 60, locals := 28 } : Room).cells ({ frames := 2, cells := 8, slots := 60, locals := 28 } : Room).slots) := by
  refine MetFree.of_bodySF (plainFor_of_name pn_2) hisR ?_
  intro p e s m args below meth c s₁ Bd hml0 hP hK
  obtain ⟨rfl, hZ, hh, hCH, hSf⟩ := hP
  have hx := Bd.exec
  have hby := Bd.bytes
  have hml : c.maxLocals = 2 := hml0
  have hown : s.vm.findClass "com/example/pico_notify/piconotify/Xml" = some m.cls := findClass_of_methodNamed Bd.named
  have hnm := (name_of_methodNamed Bd.named Bd.method).1
  have X0 : Stand p l e ({ frames := 2, cells := 8, slots := 60, locals := 28 } : Room) (s.setVm s.vm) m #[(.ref x)] below meth c s₁ [] 0 0 := Stand.of_body Bd
  have e0 : s₁.heap = h0 := by rw [← hh, Bd.state]; rfl
  have N0 := Fr.nil n0
  have hZ0 := hZ
  have ho0 := hown
  have hS0 : s.Since s.vm 0 := (State.WarmedH.refl s).since 0
  have hk0 : 0 ≤ h0.size := Nat.zero_le _
  have CR0 : CHr Z own_EL s.vm h0 s.vm h0 := CHr.refl hCH
  have own_at : ∀ d ∈ Bundle.stringAtoms, d.before a0 Z = true := fun d hd => hw d (own_atoms d hd)
  have own_ew : EW Z a0 own_EL := own_EWof hw
  have hwc : ∀ d ∈ StrChars.Road.wordsChN, d.before a0 Z = true := fun d hd => hw d (own_wordsChN d hd)
  have hwq : ∀ d ∈ StrChars.Road.wordsEq, d.before a0 Z = true := fun d hd => hw d (own_wordsEq d hd)
  have hws : ∀ d ∈ StrChars.Road.words, d.before a0 Z = true := fun d hd => hw d (own_words d hd)
  have K0 : Keep h0 h0 [] := Keep.refl _ _
  have pre0 : ∀ t, Steps p.tables e below (s₁.setTop (mkF m 0 #[.val (.ref x), .unset] [])) t → Steps p.tables e below (s₁.setTop (entryFrame m #[(.ref x)] 2)) t := fun t k => castTop (ef_rm_bool4 m x) k
  obtain ⟨x1, T1, h1, q1, y1, j1, X1, e1, E1, hS1, hk1, hZ1, ho1, fE1, fC1, fV1, fA1, la1, lb1, C1, -, ns1, st1⟩ := ldcCH X0 hx hZ0 ho0 (own_w hw 57 rfl) own_at e0 hS0 hk0 own_ew (by decide) CR0.1 (vs := [(.int (116 : Int32).toInt8.toInt32), (.int (114 : Int32).toInt8.toInt32), (.int (117 : Int32).toInt8.toInt32), (.int (101 : Int32).toInt8.toInt32)]) (z := (4 : Int32)) ⟨by decide, by decide +kernel⟩ (by decide) rfl (g := (mkF m 0 #[.val (.ref x), .unset] [])) rfl (hb hby d5_0) (n := 16) (by decide) (by decide) (by decide) (by decide)
  have O2 := O0.ext E1
  have K3 : Keep h0 h1 [] := K0.ext E1
  have CR4 := CR0.trans C1
  have la6 : ∀ c ∈ ([(116 : Int32), (114 : Int32), (117 : Int32), (101 : Int32)] : List Int32), ¬ c < 0 ∧ ¬ (255 : Int32) < c := by
    intro c hc
    simp only [List.mem_cons, List.not_mem_nil, or_false] at hc
    rcases hc with rfl | rfl | rfl | rfl
    · exact ⟨by decide, by decide⟩
    · exact ⟨by decide, by decide⟩
    · exact ⟨by decide, by decide⟩
    · exact ⟨by decide, by decide⟩
  have cd6 : StrChars.Road.CodA ([(116 : Int32), (114 : Int32), (117 : Int32), (101 : Int32)] : List Int32) 0 (4 : Int32) [(.int (116 : Int32).toInt8.toInt32), (.int (114 : Int32).toInt8.toInt32), (.int (117 : Int32).toInt8.toInt32), (.int (101 : Int32).toInt8.toInt32)] := StrChars.Road.codOf (n := 4) rfl (fun x hx => (la6 x hx).2)
  have bd6 := own_up la6
  have f7 := (Exa.ext E1 E_x)
  have f8 := (Fld.ext E1 V_x)
  have f9 := (Fld.ext E1 C_x)
  have f10 := (Arv.ext K_x E1)
  have la11 : ∀ c ∈ ([c0, c1, c2, c3] : List Int32), ¬ c < 0 ∧ ¬ (255 : Int32) < c := by
    intro c hc
    simp only [List.mem_cons, List.not_mem_nil, or_false] at hc
    rcases hc with rfl | rfl | rfl | rfl
    · exact la_c0
    · exact la_c1
    · exact la_c2
    · exact la_c3
  have cd11 : StrChars.Road.CodA ([c0, c1, c2, c3] : List Int32) 0 (4 : Int32) [(.int c0.toInt8.toInt32), (.int c1.toInt8.toInt32), (.int c2.toInt8.toInt32), (.int c3.toInt8.toInt32)] := StrChars.Road.codOf (n := 4) rfl (fun x hx => (la11 x hx).2)
  have bd11 := own_up la11
  obtain ⟨cq5, kq5, q5a, q5b, q5c⟩ := isOf hZ1 e1 fE1
  obtain ⟨_, _, ⟨T5, L5, k5, n5⟩, -, X5, ⟨Lc5, hQ5, l5, y5, z5⟩, st5⟩ := X1.virtualBack hx (y := (⟨"java/lang/String", "equals", "(Ljava/lang/Object;)Z"⟩ : MethodName)) (z := (⟨"java/lang/String", "equals", "(Ljava/lang/Object;)Z"⟩ : MethodName)) ho1 (mvT hZ1 (own_w hw 58 rfl)) (mvT hZ1 (own_w hw 59 rfl)) (notFace_of_selects (args := #[]) (mvT hZ1 (own_w hw 61 rfl))) (mvT hZ1 (own_w hw 61 rfl)) (mvT hZ1 (own_w hw 60 rfl)) (by decide) (StrChars.Road.eqW (W := 0) hZ1 hwq (kI := 4) (own_w hw 6 rfl) (cs := [(116 : Int32), (114 : Int32), (117 : Int32), (101 : Int32)]) fE1 fV1 fC1 fA1 cd6 bd6 (by show 4 ≤ 4000; decide) (ds := [c0, c1, c2, c3]) f7 f8 f9 f10 cd11 bd11 (by show 4 ≤ 4000; decide) (S_C.ext O2.2) hzc (by decide) (by decide)) q5a q5c (g := (mkF m 3 #[.val (.ref x), .unset] [(.ref x), (.ref x1)])) rfl (by rw [hml]; rfl) (Steps.refl _) (argsL := [(.ref x)]) (rest := []) (lenOf pd_3 rfl) rfl (by show 2 * 0 + _ ≤ _; exact Nat.le_of_eq rfl) (hb hby d5_3) (fun _ _ => ⟨rfl, e1, (by decide : 2 + 0 ≤ _), (by decide : 20 + 0 ≤ _)⟩)
  dsimp only [Pt.U, Pt.locs, Pt.cells, Pt.slots] at X5 l5 y5 z5 st5 hQ5
  subst l5 y5 z5
  obtain ⟨hQ5, rfl, k12⟩ := hQ5
  have N14 := Fr.app N0 (Fr.nil n0)
  rcases hQ5 with ⟨rfl, c13⟩ | ⟨rfl, c13⟩
  · have c15 : (116 : Int32) = c0 := congrArg (fun l => l.getD 0 0) c13
    have c16 : (114 : Int32) = c1 := congrArg (fun l => l.getD 1 0) c13
    have c17 : (117 : Int32) = c2 := congrArg (fun l => l.getD 2 0) c13
    have c18 : (101 : Int32) = c3 := congrArg (fun l => l.getD 3 0) c13
    obtain ⟨T19, X19, e19, st19⟩ := getS2 X5 hx hZ1 ho1 (host := "") (Or.inl (own_w hw 89 rfl)) Via.refl k12 (S_T.ext O2.2) (g := (mkF m 18 #[.val (.ref x), .unset] [])) rfl (hb hby d5_18)
    have S20 : ∀ t, Steps p.tables e below (T19.setTop (mkF m 55 #[.val (.ref x), .val (.ref wT)] [(.ref wT)])) t → Steps p.tables e below (s₁.setTop (mkF m 0 #[.val (.ref x), .unset] [])) t := by
      intro t kt
      refine st1 _ ?_
      refine XS.aloadN X1.here hx rfl (hb hby d5_2) rfl rfl ?_
      show Steps p.tables e below (T1.setTop (mkF m 3 #[.val (.ref x), .unset] [(.ref x), (.ref x1)])) _
      refine st5.trans ?_
      refine XS.ifYes X5.here hx rfl (pc0 := 6) (pc' := 18) rfl (hb hby d5_6) rfl ((if0 _ _).trans (feq ((by decide) : ¬ ((1 : Int32) = (0 : Int32)))).2) (by decide) (by decide) ?_
      show Steps p.tables e below (T5.setTop (mkF m 18 #[.val (.ref x), .unset] [])) _
      refine st19 _ ?_
      refine XS.astoreN X19.here hx rfl (hb hby d5_21) rfl rfl (l' := #[.val (.ref x), .val (.ref wT)]) rfl ?_
      refine XS.goto X19.here hx rfl (pc0 := 22) (pc' := 54) rfl (hb hby d5_22) (by decide) (by decide) ?_
      refine XS.aloadN X19.here hx rfl (hb hby d5_54) rfl rfl ?_
      exact kt
    obtain ⟨fs, hr, hrun, hended, hRW⟩ := X19.leaveW hS1 (by rw [e19]; exact hk1) (v := some (.ref wT)) (fun h => by rw [Bd.returns] at h; cases h)
    refine ⟨_, _, pre0 _ (S20 _ ?_), hrun, hended, _, _, rfl, ?_, ?_, hRW.1, hRW.2.1, hRW.2.2.1, hRW.2.2.2.mono (by decide) (by decide)⟩
    · exact retOut X19 hx Bd.returns rfl (Or.inr (Or.inr (Or.inr (Or.inr ⟨rfl, rfl, rfl⟩)))) (hb hby d5_55) hr
    · show Q_rm_bool4 Z x tx kx c0 c1 c2 c3 zc wT wF h0 n0 _ T19.heap _
      rw [e19]
      exact Or.inl ⟨c13, rfl, N14, K3⟩
    · show CHr Z own_EL s.vm s.heap T19.vm T19.heap
      rw [hh, e19]
      exact CR4.trans (CHv.at X19 hZ1 own_ew CR4.1)
  · obtain ⟨x21, T21, h21, q21, y21, j21, X21, e21, E21, hS21, hk21, hZ21, ho21, fE21, fC21, fV21, fA21, la21, lb21, C21, -, ns21, st21⟩ := ldcCH X5 hx hZ1 ho1 (own_w hw 67 rfl) own_at k12 hS1 hk1 own_ew (by decide) CR4.1 (vs := [(.int (49 : Int32).toInt8.toInt32)]) (z := (1 : Int32)) ⟨by decide, by decide +kernel⟩ (by decide) rfl (g := (mkF m 9 #[.val (.ref x), .unset] [])) rfl (hb hby d5_9) (n := 4) (by decide) (by decide) (by decide) (by decide)
    have O22 := O2.ext E21
    have K23 : Keep h0 h21 [] := K3.ext E21
    have CR24 := CR4.trans C21
    have la26 : ∀ c ∈ ([(49 : Int32)] : List Int32), ¬ c < 0 ∧ ¬ (255 : Int32) < c := by
      intro c hc
      simp only [List.mem_cons, List.not_mem_nil, or_false] at hc
      rcases hc with rfl
      · exact ⟨by decide, by decide⟩
    have cd26 : StrChars.Road.CodA ([(49 : Int32)] : List Int32) 0 (1 : Int32) [(.int (49 : Int32).toInt8.toInt32)] := StrChars.Road.codOf (n := 1) rfl (fun x hx => (la26 x hx).2)
    have bd26 := own_up la26
    have f27 := (Exa.ext E21 f7)
    have f28 := (Fld.ext E21 f8)
    have f29 := (Fld.ext E21 f9)
    have f30 := (Arv.ext f10 E21)
    obtain ⟨cq25, kq25, q25a, q25b, q25c⟩ := isOf hZ21 e21 fE21
    obtain ⟨_, _, ⟨T25, L25, k25, n25⟩, -, X25, ⟨Lc25, hQ25, l25, y25, z25⟩, st25⟩ := X21.virtualBack hx (y := (⟨"java/lang/String", "equals", "(Ljava/lang/Object;)Z"⟩ : MethodName)) (z := (⟨"java/lang/String", "equals", "(Ljava/lang/Object;)Z"⟩ : MethodName)) ho21 (mvT hZ21 (own_w hw 58 rfl)) (mvT hZ21 (own_w hw 59 rfl)) (notFace_of_selects (args := #[]) (mvT hZ21 (own_w hw 61 rfl))) (mvT hZ21 (own_w hw 61 rfl)) (mvT hZ21 (own_w hw 60 rfl)) (by decide) (StrChars.Road.eqW (W := 0) hZ21 hwq (kI := 4) (own_w hw 6 rfl) (cs := [(49 : Int32)]) fE21 fV21 fC21 fA21 cd26 bd26 (by show 1 ≤ 4000; decide) (ds := [c0, c1, c2, c3]) f27 f28 f29 f30 cd11 bd11 (by show 4 ≤ 4000; decide) (S_C.ext O22.2) hzc (by decide) (by decide)) q25a q25c (g := (mkF m 12 #[.val (.ref x), .unset] [(.ref x), (.ref x21)])) rfl (by rw [hml]; rfl) (Steps.refl _) (argsL := [(.ref x)]) (rest := []) (lenOf pd_3 rfl) rfl (by show 2 * 0 + _ ≤ _; exact Nat.le_of_eq rfl) (hb hby d5_12) (fun _ _ => ⟨rfl, e21, (by decide : 4 + 0 ≤ _), (by decide : 28 + 0 ≤ _)⟩)
    dsimp only [Pt.U, Pt.locs, Pt.cells, Pt.slots] at X25 l25 y25 z25 st25 hQ25
    subst l25 y25 z25
    obtain ⟨hQ25, rfl, k31⟩ := hQ25
    have N33 := Fr.app N14 (Fr.nil n0)
    rcases hQ25 with ⟨rfl, c32⟩ | ⟨rfl, c32⟩
    · exact absurd c32 (fun q => by have := congrArg List.length q; simp at this)
    · obtain ⟨x34, T34, h34, q34, y34, j34, X34, e34, E34, hS34, hk34, hZ34, ho34, fE34, fC34, fV34, fA34, la34, lb34, C34, -, ns34, st34⟩ := own_ldcW X25 hx hZ21 ho21 (own_w hw 68 rfl) own_at k31 hS21 hk21 own_ew (by decide) CR24.1 (vs := [(.int (102 : Int32).toInt8.toInt32), (.int (97 : Int32).toInt8.toInt32), (.int (108 : Int32).toInt8.toInt32), (.int (115 : Int32).toInt8.toInt32), (.int (101 : Int32).toInt8.toInt32)]) (z := (5 : Int32)) ⟨by decide, by decide +kernel⟩ (by decide) rfl (g := (mkF m 25 #[.val (.ref x), .unset] [])) rfl (hb hby d5_25) (n := 20) (by decide) (by decide) (by decide) (by decide)
      have f35 := (Exa.ext E21 fE1)
      have f36 := (Arv.ext fA1 E21)
      have O37 := O22.ext E34
      have K38 : Keep h0 h34 [] := K23.ext E34
      have CR39 := CR24.trans C34
      have la41 : ∀ c ∈ ([(102 : Int32), (97 : Int32), (108 : Int32), (115 : Int32), (101 : Int32)] : List Int32), ¬ c < 0 ∧ ¬ (255 : Int32) < c := by
        intro c hc
        simp only [List.mem_cons, List.not_mem_nil, or_false] at hc
        rcases hc with rfl | rfl | rfl | rfl | rfl
        · exact ⟨by decide, by decide⟩
        · exact ⟨by decide, by decide⟩
        · exact ⟨by decide, by decide⟩
        · exact ⟨by decide, by decide⟩
        · exact ⟨by decide, by decide⟩
      have cd41 : StrChars.Road.CodA ([(102 : Int32), (97 : Int32), (108 : Int32), (115 : Int32), (101 : Int32)] : List Int32) 0 (5 : Int32) [(.int (102 : Int32).toInt8.toInt32), (.int (97 : Int32).toInt8.toInt32), (.int (108 : Int32).toInt8.toInt32), (.int (115 : Int32).toInt8.toInt32), (.int (101 : Int32).toInt8.toInt32)] := StrChars.Road.codOf (n := 5) rfl (fun x hx => (la41 x hx).2)
      have bd41 := own_up la41
      have f42 := (Exa.ext E34 f27)
      have f43 := (Fld.ext E34 f28)
      have f44 := (Fld.ext E34 f29)
      have f45 := (Arv.ext f30 E34)
      obtain ⟨cq40, kq40, q40a, q40b, q40c⟩ := isOf hZ34 e34 fE34
      obtain ⟨_, _, ⟨T40, L40, k40, n40⟩, -, X40, ⟨Lc40, hQ40, l40, y40, z40⟩, st40⟩ := X34.virtualBack hx (y := (⟨"java/lang/String", "equals", "(Ljava/lang/Object;)Z"⟩ : MethodName)) (z := (⟨"java/lang/String", "equals", "(Ljava/lang/Object;)Z"⟩ : MethodName)) ho34 (mvT hZ34 (own_w hw 58 rfl)) (mvT hZ34 (own_w hw 59 rfl)) (notFace_of_selects (args := #[]) (mvT hZ34 (own_w hw 61 rfl))) (mvT hZ34 (own_w hw 61 rfl)) (mvT hZ34 (own_w hw 60 rfl)) (by decide) (StrChars.Road.eqW (W := 0) hZ34 hwq (kI := 4) (own_w hw 6 rfl) (cs := [(102 : Int32), (97 : Int32), (108 : Int32), (115 : Int32), (101 : Int32)]) fE34 fV34 fC34 fA34 cd41 bd41 (by show 5 ≤ 4000; decide) (ds := [c0, c1, c2, c3]) f42 f43 f44 f45 cd11 bd11 (by show 4 ≤ 4000; decide) (S_C.ext O37.2) hzc (by decide) (by decide)) q40a q40c (g := (mkF m 29 #[.val (.ref x), .unset] [(.ref x), (.ref x34)])) rfl (by rw [hml]; rfl) (Steps.refl _) (argsL := [(.ref x)]) (rest := []) (lenOf pd_3 rfl) rfl (by show 2 * 0 + _ ≤ _; exact Nat.le_of_eq rfl) (hb hby d5_29) (fun _ _ => ⟨rfl, e34, (by decide : 6 + 0 ≤ _), (by decide : 52 + 0 ≤ _)⟩)
      dsimp only [Pt.U, Pt.locs, Pt.cells, Pt.slots] at X40 l40 y40 z40 st40 hQ40
      subst l40 y40 z40
      obtain ⟨hQ40, rfl, k46⟩ := hQ40
      have N48 := Fr.app N33 (Fr.nil n0)
      rcases hQ40 with ⟨rfl, c47⟩ | ⟨rfl, c47⟩
      · exact absurd c47 (fun q => by have := congrArg List.length q; simp at this)
      · obtain ⟨x49, T49, h49, q49, y49, j49, X49, e49, E49, hS49, hk49, hZ49, ho49, fE49, fC49, fV49, fA49, la49, lb49, C49, -, ns49, st49⟩ := own_ldcW X40 hx hZ34 ho34 (own_w hw 69 rfl) own_at k46 hS34 hk34 own_ew (by decide) CR39.1 (vs := [(.int (48 : Int32).toInt8.toInt32)]) (z := (1 : Int32)) ⟨by decide, by decide +kernel⟩ (by decide) rfl (g := (mkF m 35 #[.val (.ref x), .unset] [])) rfl (hb hby d5_35) (n := 4) (by decide) (by decide) (by decide) (by decide)
        have f50 := (Arv.ext fA21 E34)
        have f51 := (Exa.ext E34 fE21)
        have f52 := (Exa.ext E34 f35)
        have f53 := (Arv.ext f36 E34)
        have O54 := O37.ext E49
        have K55 : Keep h0 h49 [] := K38.ext E49
        have CR56 := CR39.trans C49
        have la58 : ∀ c ∈ ([(48 : Int32)] : List Int32), ¬ c < 0 ∧ ¬ (255 : Int32) < c := by
          intro c hc
          simp only [List.mem_cons, List.not_mem_nil, or_false] at hc
          rcases hc with rfl
          · exact ⟨by decide, by decide⟩
        have cd58 : StrChars.Road.CodA ([(48 : Int32)] : List Int32) 0 (1 : Int32) [(.int (48 : Int32).toInt8.toInt32)] := StrChars.Road.codOf (n := 1) rfl (fun x hx => (la58 x hx).2)
        have bd58 := own_up la58
        have f59 := (Exa.ext E49 f42)
        have f60 := (Fld.ext E49 f43)
        have f61 := (Fld.ext E49 f44)
        have f62 := (Arv.ext f45 E49)
        obtain ⟨cq57, kq57, q57a, q57b, q57c⟩ := isOf hZ49 e49 fE49
        obtain ⟨_, _, ⟨T57, L57, k57, n57⟩, -, X57, ⟨Lc57, hQ57, l57, y57, z57⟩, st57⟩ := X49.virtualBack hx (y := (⟨"java/lang/String", "equals", "(Ljava/lang/Object;)Z"⟩ : MethodName)) (z := (⟨"java/lang/String", "equals", "(Ljava/lang/Object;)Z"⟩ : MethodName)) ho49 (mvT hZ49 (own_w hw 58 rfl)) (mvT hZ49 (own_w hw 59 rfl)) (notFace_of_selects (args := #[]) (mvT hZ49 (own_w hw 61 rfl))) (mvT hZ49 (own_w hw 61 rfl)) (mvT hZ49 (own_w hw 60 rfl)) (by decide) (StrChars.Road.eqW (W := 0) hZ49 hwq (kI := 4) (own_w hw 6 rfl) (cs := [(48 : Int32)]) fE49 fV49 fC49 fA49 cd58 bd58 (by show 1 ≤ 4000; decide) (ds := [c0, c1, c2, c3]) f59 f60 f61 f62 cd11 bd11 (by show 4 ≤ 4000; decide) (S_C.ext O54.2) hzc (by decide) (by decide)) q57a q57c (g := (mkF m 39 #[.val (.ref x), .unset] [(.ref x), (.ref x49)])) rfl (by rw [hml]; rfl) (Steps.refl _) (argsL := [(.ref x)]) (rest := []) (lenOf pd_3 rfl) rfl (by show 2 * 0 + _ ≤ _; exact Nat.le_of_eq rfl) (hb hby d5_39) (fun _ _ => ⟨rfl, e49, (by decide : 8 + 0 ≤ _), (by decide : 60 + 0 ≤ _)⟩)
        dsimp only [Pt.U, Pt.locs, Pt.cells, Pt.slots] at X57 l57 y57 z57 st57 hQ57
        subst l57 y57 z57
        obtain ⟨hQ57, rfl, k63⟩ := hQ57
        have N65 := Fr.app N48 (Fr.nil n0)
        rcases hQ57 with ⟨rfl, c64⟩ | ⟨rfl, c64⟩
        · exact absurd c64 (fun q => by have := congrArg List.length q; simp at this)
        · have S66 : ∀ t, Steps p.tables e below (T57.setTop (mkF m 55 #[.val (.ref x), .val .null] [.null])) t → Steps p.tables e below (s₁.setTop (mkF m 0 #[.val (.ref x), .unset] [])) t := by
            intro t kt
            refine st1 _ ?_
            refine XS.aloadN X1.here hx rfl (hb hby d5_2) rfl rfl ?_
            show Steps p.tables e below (T1.setTop (mkF m 3 #[.val (.ref x), .unset] [(.ref x), (.ref x1)])) _
            refine st5.trans ?_
            refine XS.ifNo X5.here hx rfl (hb hby d5_6) rfl ((if0 _ _).trans (teq ((by decide) : (0 : Int32) = (0 : Int32))).2) ?_
            show Steps p.tables e below (T5.setTop (mkF m 9 #[.val (.ref x), .unset] [])) _
            refine st21 _ ?_
            refine XS.aloadN X21.here hx rfl (hb hby d5_11) rfl rfl ?_
            show Steps p.tables e below (T21.setTop (mkF m 12 #[.val (.ref x), .unset] [(.ref x), (.ref x21)])) _
            refine st25.trans ?_
            refine XS.ifYes X25.here hx rfl (pc0 := 15) (pc' := 25) rfl (hb hby d5_15) rfl ((if0 _ _).trans (teq ((by decide) : (0 : Int32) = (0 : Int32))).1) (by decide) (by decide) ?_
            show Steps p.tables e below (T25.setTop (mkF m 25 #[.val (.ref x), .unset] [])) _
            refine st34 _ ?_
            refine XS.aloadN X34.here hx rfl (hb hby d5_28) rfl rfl ?_
            show Steps p.tables e below (T34.setTop (mkF m 29 #[.val (.ref x), .unset] [(.ref x), (.ref x34)])) _
            refine st40.trans ?_
            refine XS.ifNo X40.here hx rfl (hb hby d5_32) rfl ((if0 _ _).trans (teq ((by decide) : (0 : Int32) = (0 : Int32))).2) ?_
            show Steps p.tables e below (T40.setTop (mkF m 35 #[.val (.ref x), .unset] [])) _
            refine st49 _ ?_
            refine XS.aloadN X49.here hx rfl (hb hby d5_38) rfl rfl ?_
            show Steps p.tables e below (T49.setTop (mkF m 39 #[.val (.ref x), .unset] [(.ref x), (.ref x49)])) _
            refine st57.trans ?_
            refine XS.ifYes X57.here hx rfl (pc0 := 42) (pc' := 52) rfl (hb hby d5_42) rfl ((if0 _ _).trans (teq ((by decide) : (0 : Int32) = (0 : Int32))).1) (by decide) (by decide) ?_
            refine XS.aconstNull X57.here hx rfl (hb hby d5_52) ?_
            refine XS.astoreN X57.here hx rfl (hb hby d5_53) rfl rfl (l' := #[.val (.ref x), .val .null]) rfl ?_
            refine XS.aloadN X57.here hx rfl (hb hby d5_54) rfl rfl ?_
            exact kt
          obtain ⟨fs, hr, hrun, hended, hRW⟩ := X57.leaveW hS49 (by rw [k63]; exact hk49) (v := some .null) (fun h => by rw [Bd.returns] at h; cases h)
          refine ⟨_, _, pre0 _ (S66 _ ?_), hrun, hended, _, _, rfl, ?_, ?_, hRW.1, hRW.2.1, hRW.2.2.1, hRW.2.2.2.mono (by decide) (by decide)⟩
          · exact retOut X57 hx Bd.returns rfl (Or.inr (Or.inr (Or.inr (Or.inr ⟨rfl, rfl, rfl⟩)))) (hb hby d5_55) hr
          · show Q_rm_bool4 Z x tx kx c0 c1 c2 c3 zc wT wF h0 n0 _ T57.heap _
            rw [k63]
            exact Or.inr (⟨c13, rfl, N65, K55⟩)
          · show CHr Z own_EL s.vm s.heap T57.vm T57.heap
            rw [hh, k63]
            exact CR56.trans (CHv.at X57 hZ49 own_ew CR56.1)
theorem ef_rm_bool5 (m : MethodId) (x0 : Addr) : entryFrame m #[(.ref x0)] 2 = mkF m 0 #[.val (.ref x0), .unset] [] := by first | (simp [entryFrame, mkF, argsToLocals, Value.category]; done) | rfl
def Q_rm_bool5 (Z : State) (x : Addr) (tx : Addr) (kx : ClassId) (c0 : Int32) (c1 : Int32) (c2 : Int32) (c3 : Int32) (c4 : Int32) (zc : Int32) (wT : Addr) (wF : Addr) (h0 : Heap) (n0 : Nat) (v : Option Value) (h : Heap) (L : List Loc) : Prop := ((([(102 : Int32), (97 : Int32), (108 : Int32), (115 : Int32), (101 : Int32)] : List Int32) = [c0, c1, c2, c3, c4]) ∧ (v = some (.ref wF)) ∧ (Fr n0 L) ∧ (Keep h0 h [])) ∨ ((¬ (([(102 : Int32), (97 : Int32), (108 : Int32), (115 : Int32), (101 : Int32)] : List Int32) = [c0, c1, c2, c3, c4])) ∧ (v = some .null) ∧ (Fr n0 L) ∧ (Keep h0 h []))
set_option maxRecDepth 65536 in
set_option maxHeartbeats 40000000 in
theorem rm_bool5 (l : Launch) (Z : State) (a0 : Array Value) (hw : ∀ d ∈ tables_1, d.before a0 Z = true) (ws : List Jvm.Cond) (x : Addr) (tx : Addr) (kx : ClassId) (c0 : Int32) (c1 : Int32) (c2 : Int32) (c3 : Int32) (c4 : Int32) (zc : Int32) (wT : Addr) (wF : Addr) (h0 : Heap) (n0 : Nat) (O0 : Old Z n0 h0) (E_x : Exa Z h0 x "java/lang/String") (V_x : Fld Z h0 x "java/lang/String" "value" "[B" (.ref tx)) (C_x : Fld Z h0 x "java/lang/String" "coder" "B" (.int (0 : Int32))) (K_x : Arv Z h0 tx kx .byte (5 : Int32) [(.int c0.toInt8.toInt32), (.int c1.toInt8.toInt32), (.int c2.toInt8.toInt32), (.int c3.toInt8.toInt32), (.int c4.toInt8.toInt32)] (.int (0 : Int32))) (la_c0 : ¬ (c0 < (0 : Int32)) ∧ ¬ ((255 : Int32) < c0)) (la_c1 : ¬ (c1 < (0 : Int32)) ∧ ¬ ((255 : Int32) < c1)) (la_c2 : ¬ (c2 < (0 : Int32)) ∧ ¬ ((255 : Int32) < c2)) (la_c3 : ¬ (c3 < (0 : Int32)) ∧ ¬ ((255 : Int32) < c3)) (la_c4 : ¬ (c4 < (0 : Int32)) ∧ ¬ ((255 : Int32) < c4)) (S_C : Sta Z Z.heap "java/lang/String" "COMPACT_STRINGS" "Z" (.int zc)) (hzc : ¬ (zc = (0 : Int32))) (S_T : Sta Z Z.heap "java/lang/Boolean" "TRUE" "Ljava/lang/Boolean;" (.ref wT)) (S_F0 : Sta Z Z.heap "java/lang/Boolean" "FALSE" "Ljava/lang/Boolean;" (.ref wF)) :
    MetFree l (⟨"com/example/pico_notify/piconotify/Xml", "bool", "(Ljava/lang/String;)Ljava/lang/Boolean;"⟩ : MethodName) (head1 (Jvm.Cond.code (⟨"com/example/pico_notify/piconotify/Xml", "bool", "(Ljava/lang/String;)Ljava/lang/Boolean;"⟩ : MethodName) prog_46_method_18_code 2 (some (.object "java/lang/Boolean")) :: ws) ({ frames := 2, cells := 8, slots := 60, locals := 28 } : Room)) (fun a U => a = #[(.ref x)] ∧ Z.Warmed39 U.vm ∧ U.heap = h0 ∧ CHv Z own_EL U.vm h0 ∧ ∀ own_y ∈ ([] : List Addr), Safe Z own_EL U.vm h0 own_y) (fun _ _ _ _ _ => True) (fun _ U o U' => ∃ v L, o = .returned v ∧ Q_rm_bool5 Z x tx kx c0 c1 c2 c3 c4 zc wT wF h0 n0 v U'.heap L ∧ CHr Z own_EL U.vm U.heap U'.vm U'.heap ∧ ReturnedEndW U o U' L ({ frames := 2, cells := 8, slots := 60, locals := 28 } : Room).cells ({ frames := 2, cells := 8, slots := 60, locals := 28 } : Room).slots) := by
  refine MetFree.of_bodySF (plainFor_of_name pn_2) hisR ?_
  intro p e s m args below meth c s₁ Bd hml0 hP hK
  obtain ⟨rfl, hZ, hh, hCH, hSf⟩ := hP
  have hx := Bd.exec
  have hby := Bd.bytes
  have hml : c.maxLocals = 2 := hml0
  have hown : s.vm.findClass "com/example/pico_notify/piconotify/Xml" = some m.cls := findClass_of_methodNamed Bd.named
  have hnm := (name_of_methodNamed Bd.named Bd.method).1
  have X0 : Stand p l e ({ frames := 2, cells := 8, slots := 60, locals := 28 } : Room) (s.setVm s.vm) m #[(.ref x)] below meth c s₁ [] 0 0 := Stand.of_body Bd
  have e0 : s₁.heap = h0 := by rw [← hh, Bd.state]; rfl
  have N0 := Fr.nil n0
  have hZ0 := hZ
  have ho0 := hown
  have hS0 : s.Since s.vm 0 := (State.WarmedH.refl s).since 0
  have hk0 : 0 ≤ h0.size := Nat.zero_le _
  have CR0 : CHr Z own_EL s.vm h0 s.vm h0 := CHr.refl hCH
  have own_at : ∀ d ∈ Bundle.stringAtoms, d.before a0 Z = true := fun d hd => hw d (own_atoms d hd)
  have own_ew : EW Z a0 own_EL := own_EWof hw
  have hwc : ∀ d ∈ StrChars.Road.wordsChN, d.before a0 Z = true := fun d hd => hw d (own_wordsChN d hd)
  have hwq : ∀ d ∈ StrChars.Road.wordsEq, d.before a0 Z = true := fun d hd => hw d (own_wordsEq d hd)
  have hws : ∀ d ∈ StrChars.Road.words, d.before a0 Z = true := fun d hd => hw d (own_words d hd)
  have K0 : Keep h0 h0 [] := Keep.refl _ _
  have pre0 : ∀ t, Steps p.tables e below (s₁.setTop (mkF m 0 #[.val (.ref x), .unset] [])) t → Steps p.tables e below (s₁.setTop (entryFrame m #[(.ref x)] 2)) t := fun t k => castTop (ef_rm_bool5 m x) k
  obtain ⟨x1, T1, h1, q1, y1, j1, X1, e1, E1, hS1, hk1, hZ1, ho1, fE1, fC1, fV1, fA1, la1, lb1, C1, -, ns1, st1⟩ := ldcCH X0 hx hZ0 ho0 (own_w hw 57 rfl) own_at e0 hS0 hk0 own_ew (by decide) CR0.1 (vs := [(.int (116 : Int32).toInt8.toInt32), (.int (114 : Int32).toInt8.toInt32), (.int (117 : Int32).toInt8.toInt32), (.int (101 : Int32).toInt8.toInt32)]) (z := (4 : Int32)) ⟨by decide, by decide +kernel⟩ (by decide) rfl (g := (mkF m 0 #[.val (.ref x), .unset] [])) rfl (hb hby d5_0) (n := 16) (by decide) (by decide) (by decide) (by decide)
  have O2 := O0.ext E1
  have K3 : Keep h0 h1 [] := K0.ext E1
  have CR4 := CR0.trans C1
  have la6 : ∀ c ∈ ([(116 : Int32), (114 : Int32), (117 : Int32), (101 : Int32)] : List Int32), ¬ c < 0 ∧ ¬ (255 : Int32) < c := by
    intro c hc
    simp only [List.mem_cons, List.not_mem_nil, or_false] at hc
    rcases hc with rfl | rfl | rfl | rfl
    · exact ⟨by decide, by decide⟩
    · exact ⟨by decide, by decide⟩
    · exact ⟨by decide, by decide⟩
    · exact ⟨by decide, by decide⟩
  have cd6 : StrChars.Road.CodA ([(116 : Int32), (114 : Int32), (117 : Int32), (101 : Int32)] : List Int32) 0 (4 : Int32) [(.int (116 : Int32).toInt8.toInt32), (.int (114 : Int32).toInt8.toInt32), (.int (117 : Int32).toInt8.toInt32), (.int (101 : Int32).toInt8.toInt32)] := StrChars.Road.codOf (n := 4) rfl (fun x hx => (la6 x hx).2)
  have bd6 := own_up la6
  have f7 := (Exa.ext E1 E_x)
  have f8 := (Fld.ext E1 V_x)
  have f9 := (Fld.ext E1 C_x)
  have f10 := (Arv.ext K_x E1)
  have la11 : ∀ c ∈ ([c0, c1, c2, c3, c4] : List Int32), ¬ c < 0 ∧ ¬ (255 : Int32) < c := by
    intro c hc
    simp only [List.mem_cons, List.not_mem_nil, or_false] at hc
    rcases hc with rfl | rfl | rfl | rfl | rfl
    · exact la_c0
    · exact la_c1
    · exact la_c2
    · exact la_c3
    · exact la_c4
  have cd11 : StrChars.Road.CodA ([c0, c1, c2, c3, c4] : List Int32) 0 (5 : Int32) [(.int c0.toInt8.toInt32), (.int c1.toInt8.toInt32), (.int c2.toInt8.toInt32), (.int c3.toInt8.toInt32), (.int c4.toInt8.toInt32)] := StrChars.Road.codOf (n := 5) rfl (fun x hx => (la11 x hx).2)
  have bd11 := own_up la11
  obtain ⟨cq5, kq5, q5a, q5b, q5c⟩ := isOf hZ1 e1 fE1
  obtain ⟨_, _, ⟨T5, L5, k5, n5⟩, -, X5, ⟨Lc5, hQ5, l5, y5, z5⟩, st5⟩ := X1.virtualBack hx (y := (⟨"java/lang/String", "equals", "(Ljava/lang/Object;)Z"⟩ : MethodName)) (z := (⟨"java/lang/String", "equals", "(Ljava/lang/Object;)Z"⟩ : MethodName)) ho1 (mvT hZ1 (own_w hw 58 rfl)) (mvT hZ1 (own_w hw 59 rfl)) (notFace_of_selects (args := #[]) (mvT hZ1 (own_w hw 61 rfl))) (mvT hZ1 (own_w hw 61 rfl)) (mvT hZ1 (own_w hw 60 rfl)) (by decide) (StrChars.Road.eqW (W := 0) hZ1 hwq (kI := 4) (own_w hw 6 rfl) (cs := [(116 : Int32), (114 : Int32), (117 : Int32), (101 : Int32)]) fE1 fV1 fC1 fA1 cd6 bd6 (by show 4 ≤ 4000; decide) (ds := [c0, c1, c2, c3, c4]) f7 f8 f9 f10 cd11 bd11 (by show 5 ≤ 4000; decide) (S_C.ext O2.2) hzc (by decide) (by decide)) q5a q5c (g := (mkF m 3 #[.val (.ref x), .unset] [(.ref x), (.ref x1)])) rfl (by rw [hml]; rfl) (Steps.refl _) (argsL := [(.ref x)]) (rest := []) (lenOf pd_3 rfl) rfl (by show 2 * 0 + _ ≤ _; exact Nat.le_of_eq rfl) (hb hby d5_3) (fun _ _ => ⟨rfl, e1, (by decide : 2 + 0 ≤ _), (by decide : 20 + 0 ≤ _)⟩)
  dsimp only [Pt.U, Pt.locs, Pt.cells, Pt.slots] at X5 l5 y5 z5 st5 hQ5
  subst l5 y5 z5
  obtain ⟨hQ5, rfl, k12⟩ := hQ5
  have N14 := Fr.app N0 (Fr.nil n0)
  rcases hQ5 with ⟨rfl, c13⟩ | ⟨rfl, c13⟩
  · exact absurd c13 (fun q => by have := congrArg List.length q; simp at this)
  · obtain ⟨x15, T15, h15, q15, y15, j15, X15, e15, E15, hS15, hk15, hZ15, ho15, fE15, fC15, fV15, fA15, la15, lb15, C15, -, ns15, st15⟩ := ldcCH X5 hx hZ1 ho1 (own_w hw 67 rfl) own_at k12 hS1 hk1 own_ew (by decide) CR4.1 (vs := [(.int (49 : Int32).toInt8.toInt32)]) (z := (1 : Int32)) ⟨by decide, by decide +kernel⟩ (by decide) rfl (g := (mkF m 9 #[.val (.ref x), .unset] [])) rfl (hb hby d5_9) (n := 4) (by decide) (by decide) (by decide) (by decide)
    have O16 := O2.ext E15
    have K17 : Keep h0 h15 [] := K3.ext E15
    have CR18 := CR4.trans C15
    have la20 : ∀ c ∈ ([(49 : Int32)] : List Int32), ¬ c < 0 ∧ ¬ (255 : Int32) < c := by
      intro c hc
      simp only [List.mem_cons, List.not_mem_nil, or_false] at hc
      rcases hc with rfl
      · exact ⟨by decide, by decide⟩
    have cd20 : StrChars.Road.CodA ([(49 : Int32)] : List Int32) 0 (1 : Int32) [(.int (49 : Int32).toInt8.toInt32)] := StrChars.Road.codOf (n := 1) rfl (fun x hx => (la20 x hx).2)
    have bd20 := own_up la20
    have f21 := (Exa.ext E15 f7)
    have f22 := (Fld.ext E15 f8)
    have f23 := (Fld.ext E15 f9)
    have f24 := (Arv.ext f10 E15)
    obtain ⟨cq19, kq19, q19a, q19b, q19c⟩ := isOf hZ15 e15 fE15
    obtain ⟨_, _, ⟨T19, L19, k19, n19⟩, -, X19, ⟨Lc19, hQ19, l19, y19, z19⟩, st19⟩ := X15.virtualBack hx (y := (⟨"java/lang/String", "equals", "(Ljava/lang/Object;)Z"⟩ : MethodName)) (z := (⟨"java/lang/String", "equals", "(Ljava/lang/Object;)Z"⟩ : MethodName)) ho15 (mvT hZ15 (own_w hw 58 rfl)) (mvT hZ15 (own_w hw 59 rfl)) (notFace_of_selects (args := #[]) (mvT hZ15 (own_w hw 61 rfl))) (mvT hZ15 (own_w hw 61 rfl)) (mvT hZ15 (own_w hw 60 rfl)) (by decide) (StrChars.Road.eqW (W := 0) hZ15 hwq (kI := 4) (own_w hw 6 rfl) (cs := [(49 : Int32)]) fE15 fV15 fC15 fA15 cd20 bd20 (by show 1 ≤ 4000; decide) (ds := [c0, c1, c2, c3, c4]) f21 f22 f23 f24 cd11 bd11 (by show 5 ≤ 4000; decide) (S_C.ext O16.2) hzc (by decide) (by decide)) q19a q19c (g := (mkF m 12 #[.val (.ref x), .unset] [(.ref x), (.ref x15)])) rfl (by rw [hml]; rfl) (Steps.refl _) (argsL := [(.ref x)]) (rest := []) (lenOf pd_3 rfl) rfl (by show 2 * 0 + _ ≤ _; exact Nat.le_of_eq rfl) (hb hby d5_12) (fun _ _ => ⟨rfl, e15, (by decide : 4 + 0 ≤ _), (by decide : 28 + 0 ≤ _)⟩)
    dsimp only [Pt.U, Pt.locs, Pt.cells, Pt.slots] at X19 l19 y19 z19 st19 hQ19
    subst l19 y19 z19
    obtain ⟨hQ19, rfl, k25⟩ := hQ19
    have N27 := Fr.app N14 (Fr.nil n0)
    rcases hQ19 with ⟨rfl, c26⟩ | ⟨rfl, c26⟩
    · exact absurd c26 (fun q => by have := congrArg List.length q; simp at this)
    · obtain ⟨x28, T28, h28, q28, y28, j28, X28, e28, E28, hS28, hk28, hZ28, ho28, fE28, fC28, fV28, fA28, la28, lb28, C28, -, ns28, st28⟩ := own_ldcW X19 hx hZ15 ho15 (own_w hw 68 rfl) own_at k25 hS15 hk15 own_ew (by decide) CR18.1 (vs := [(.int (102 : Int32).toInt8.toInt32), (.int (97 : Int32).toInt8.toInt32), (.int (108 : Int32).toInt8.toInt32), (.int (115 : Int32).toInt8.toInt32), (.int (101 : Int32).toInt8.toInt32)]) (z := (5 : Int32)) ⟨by decide, by decide +kernel⟩ (by decide) rfl (g := (mkF m 25 #[.val (.ref x), .unset] [])) rfl (hb hby d5_25) (n := 20) (by decide) (by decide) (by decide) (by decide)
      have f29 := (Exa.ext E15 fE1)
      have f30 := (Arv.ext fA1 E15)
      have O31 := O16.ext E28
      have K32 : Keep h0 h28 [] := K17.ext E28
      have CR33 := CR18.trans C28
      have la35 : ∀ c ∈ ([(102 : Int32), (97 : Int32), (108 : Int32), (115 : Int32), (101 : Int32)] : List Int32), ¬ c < 0 ∧ ¬ (255 : Int32) < c := by
        intro c hc
        simp only [List.mem_cons, List.not_mem_nil, or_false] at hc
        rcases hc with rfl | rfl | rfl | rfl | rfl
        · exact ⟨by decide, by decide⟩
        · exact ⟨by decide, by decide⟩
        · exact ⟨by decide, by decide⟩
        · exact ⟨by decide, by decide⟩
        · exact ⟨by decide, by decide⟩
      have cd35 : StrChars.Road.CodA ([(102 : Int32), (97 : Int32), (108 : Int32), (115 : Int32), (101 : Int32)] : List Int32) 0 (5 : Int32) [(.int (102 : Int32).toInt8.toInt32), (.int (97 : Int32).toInt8.toInt32), (.int (108 : Int32).toInt8.toInt32), (.int (115 : Int32).toInt8.toInt32), (.int (101 : Int32).toInt8.toInt32)] := StrChars.Road.codOf (n := 5) rfl (fun x hx => (la35 x hx).2)
      have bd35 := own_up la35
      have f36 := (Exa.ext E28 f21)
      have f37 := (Fld.ext E28 f22)
      have f38 := (Fld.ext E28 f23)
      have f39 := (Arv.ext f24 E28)
      obtain ⟨cq34, kq34, q34a, q34b, q34c⟩ := isOf hZ28 e28 fE28
      obtain ⟨_, _, ⟨T34, L34, k34, n34⟩, -, X34, ⟨Lc34, hQ34, l34, y34, z34⟩, st34⟩ := X28.virtualBack hx (y := (⟨"java/lang/String", "equals", "(Ljava/lang/Object;)Z"⟩ : MethodName)) (z := (⟨"java/lang/String", "equals", "(Ljava/lang/Object;)Z"⟩ : MethodName)) ho28 (mvT hZ28 (own_w hw 58 rfl)) (mvT hZ28 (own_w hw 59 rfl)) (notFace_of_selects (args := #[]) (mvT hZ28 (own_w hw 61 rfl))) (mvT hZ28 (own_w hw 61 rfl)) (mvT hZ28 (own_w hw 60 rfl)) (by decide) (StrChars.Road.eqW (W := 0) hZ28 hwq (kI := 4) (own_w hw 6 rfl) (cs := [(102 : Int32), (97 : Int32), (108 : Int32), (115 : Int32), (101 : Int32)]) fE28 fV28 fC28 fA28 cd35 bd35 (by show 5 ≤ 4000; decide) (ds := [c0, c1, c2, c3, c4]) f36 f37 f38 f39 cd11 bd11 (by show 5 ≤ 4000; decide) (S_C.ext O31.2) hzc (by decide) (by decide)) q34a q34c (g := (mkF m 29 #[.val (.ref x), .unset] [(.ref x), (.ref x28)])) rfl (by rw [hml]; rfl) (Steps.refl _) (argsL := [(.ref x)]) (rest := []) (lenOf pd_3 rfl) rfl (by show 2 * 0 + _ ≤ _; exact Nat.le_of_eq rfl) (hb hby d5_29) (fun _ _ => ⟨rfl, e28, (by decide : 6 + 0 ≤ _), (by decide : 52 + 0 ≤ _)⟩)
      dsimp only [Pt.U, Pt.locs, Pt.cells, Pt.slots] at X34 l34 y34 z34 st34 hQ34
      subst l34 y34 z34
      obtain ⟨hQ34, rfl, k40⟩ := hQ34
      have N42 := Fr.app N27 (Fr.nil n0)
      rcases hQ34 with ⟨rfl, c41⟩ | ⟨rfl, c41⟩
      · have c43 : (102 : Int32) = c0 := congrArg (fun l => l.getD 0 0) c41
        have c44 : (97 : Int32) = c1 := congrArg (fun l => l.getD 1 0) c41
        have c45 : (108 : Int32) = c2 := congrArg (fun l => l.getD 2 0) c41
        have c46 : (115 : Int32) = c3 := congrArg (fun l => l.getD 3 0) c41
        have c47 : (101 : Int32) = c4 := congrArg (fun l => l.getD 4 0) c41
        obtain ⟨T48, X48, e48, st48⟩ := getS2 X34 hx hZ28 ho28 (host := "") (Or.inl (own_w hw 80 rfl)) Via.refl k40 (S_F0.ext O31.2) (g := (mkF m 45 #[.val (.ref x), .unset] [])) rfl (hb hby d5_45)
        have S49 : ∀ t, Steps p.tables e below (T48.setTop (mkF m 55 #[.val (.ref x), .val (.ref wF)] [(.ref wF)])) t → Steps p.tables e below (s₁.setTop (mkF m 0 #[.val (.ref x), .unset] [])) t := by
          intro t kt
          refine st1 _ ?_
          refine XS.aloadN X1.here hx rfl (hb hby d5_2) rfl rfl ?_
          show Steps p.tables e below (T1.setTop (mkF m 3 #[.val (.ref x), .unset] [(.ref x), (.ref x1)])) _
          refine st5.trans ?_
          refine XS.ifNo X5.here hx rfl (hb hby d5_6) rfl ((if0 _ _).trans (teq ((by decide) : (0 : Int32) = (0 : Int32))).2) ?_
          show Steps p.tables e below (T5.setTop (mkF m 9 #[.val (.ref x), .unset] [])) _
          refine st15 _ ?_
          refine XS.aloadN X15.here hx rfl (hb hby d5_11) rfl rfl ?_
          show Steps p.tables e below (T15.setTop (mkF m 12 #[.val (.ref x), .unset] [(.ref x), (.ref x15)])) _
          refine st19.trans ?_
          refine XS.ifYes X19.here hx rfl (pc0 := 15) (pc' := 25) rfl (hb hby d5_15) rfl ((if0 _ _).trans (teq ((by decide) : (0 : Int32) = (0 : Int32))).1) (by decide) (by decide) ?_
          show Steps p.tables e below (T19.setTop (mkF m 25 #[.val (.ref x), .unset] [])) _
          refine st28 _ ?_
          refine XS.aloadN X28.here hx rfl (hb hby d5_28) rfl rfl ?_
          show Steps p.tables e below (T28.setTop (mkF m 29 #[.val (.ref x), .unset] [(.ref x), (.ref x28)])) _
          refine st34.trans ?_
          refine XS.ifYes X34.here hx rfl (pc0 := 32) (pc' := 45) rfl (hb hby d5_32) rfl ((if0 _ _).trans (feq ((by decide) : ¬ ((1 : Int32) = (0 : Int32)))).2) (by decide) (by decide) ?_
          show Steps p.tables e below (T34.setTop (mkF m 45 #[.val (.ref x), .unset] [])) _
          refine st48 _ ?_
          refine XS.astoreN X48.here hx rfl (hb hby d5_48) rfl rfl (l' := #[.val (.ref x), .val (.ref wF)]) rfl ?_
          refine XS.goto X48.here hx rfl (pc0 := 49) (pc' := 54) rfl (hb hby d5_49) (by decide) (by decide) ?_
          refine XS.aloadN X48.here hx rfl (hb hby d5_54) rfl rfl ?_
          exact kt
        obtain ⟨fs, hr, hrun, hended, hRW⟩ := X48.leaveW hS28 (by rw [e48]; exact hk28) (v := some (.ref wF)) (fun h => by rw [Bd.returns] at h; cases h)
        refine ⟨_, _, pre0 _ (S49 _ ?_), hrun, hended, _, _, rfl, ?_, ?_, hRW.1, hRW.2.1, hRW.2.2.1, hRW.2.2.2.mono (by decide) (by decide)⟩
        · exact retOut X48 hx Bd.returns rfl (Or.inr (Or.inr (Or.inr (Or.inr ⟨rfl, rfl, rfl⟩)))) (hb hby d5_55) hr
        · show Q_rm_bool5 Z x tx kx c0 c1 c2 c3 c4 zc wT wF h0 n0 _ T48.heap _
          rw [e48]
          exact Or.inl ⟨c41, rfl, N42, K32⟩
        · show CHr Z own_EL s.vm s.heap T48.vm T48.heap
          rw [hh, e48]
          exact CR33.trans (CHv.at X48 hZ28 own_ew CR33.1)
      · obtain ⟨x50, T50, h50, q50, y50, j50, X50, e50, E50, hS50, hk50, hZ50, ho50, fE50, fC50, fV50, fA50, la50, lb50, C50, -, ns50, st50⟩ := own_ldcW X34 hx hZ28 ho28 (own_w hw 69 rfl) own_at k40 hS28 hk28 own_ew (by decide) CR33.1 (vs := [(.int (48 : Int32).toInt8.toInt32)]) (z := (1 : Int32)) ⟨by decide, by decide +kernel⟩ (by decide) rfl (g := (mkF m 35 #[.val (.ref x), .unset] [])) rfl (hb hby d5_35) (n := 4) (by decide) (by decide) (by decide) (by decide)
        have f51 := (Exa.ext E28 fE15)
        have f52 := (Arv.ext fA15 E28)
        have f53 := (Exa.ext E28 f29)
        have f54 := (Arv.ext f30 E28)
        have O55 := O31.ext E50
        have K56 : Keep h0 h50 [] := K32.ext E50
        have CR57 := CR33.trans C50
        have la59 : ∀ c ∈ ([(48 : Int32)] : List Int32), ¬ c < 0 ∧ ¬ (255 : Int32) < c := by
          intro c hc
          simp only [List.mem_cons, List.not_mem_nil, or_false] at hc
          rcases hc with rfl
          · exact ⟨by decide, by decide⟩
        have cd59 : StrChars.Road.CodA ([(48 : Int32)] : List Int32) 0 (1 : Int32) [(.int (48 : Int32).toInt8.toInt32)] := StrChars.Road.codOf (n := 1) rfl (fun x hx => (la59 x hx).2)
        have bd59 := own_up la59
        have f60 := (Exa.ext E50 f36)
        have f61 := (Fld.ext E50 f37)
        have f62 := (Fld.ext E50 f38)
        have f63 := (Arv.ext f39 E50)
        obtain ⟨cq58, kq58, q58a, q58b, q58c⟩ := isOf hZ50 e50 fE50
        obtain ⟨_, _, ⟨T58, L58, k58, n58⟩, -, X58, ⟨Lc58, hQ58, l58, y58, z58⟩, st58⟩ := X50.virtualBack hx (y := (⟨"java/lang/String", "equals", "(Ljava/lang/Object;)Z"⟩ : MethodName)) (z := (⟨"java/lang/String", "equals", "(Ljava/lang/Object;)Z"⟩ : MethodName)) ho50 (mvT hZ50 (own_w hw 58 rfl)) (mvT hZ50 (own_w hw 59 rfl)) (notFace_of_selects (args := #[]) (mvT hZ50 (own_w hw 61 rfl))) (mvT hZ50 (own_w hw 61 rfl)) (mvT hZ50 (own_w hw 60 rfl)) (by decide) (StrChars.Road.eqW (W := 0) hZ50 hwq (kI := 4) (own_w hw 6 rfl) (cs := [(48 : Int32)]) fE50 fV50 fC50 fA50 cd59 bd59 (by show 1 ≤ 4000; decide) (ds := [c0, c1, c2, c3, c4]) f60 f61 f62 f63 cd11 bd11 (by show 5 ≤ 4000; decide) (S_C.ext O55.2) hzc (by decide) (by decide)) q58a q58c (g := (mkF m 39 #[.val (.ref x), .unset] [(.ref x), (.ref x50)])) rfl (by rw [hml]; rfl) (Steps.refl _) (argsL := [(.ref x)]) (rest := []) (lenOf pd_3 rfl) rfl (by show 2 * 0 + _ ≤ _; exact Nat.le_of_eq rfl) (hb hby d5_39) (fun _ _ => ⟨rfl, e50, (by decide : 8 + 0 ≤ _), (by decide : 60 + 0 ≤ _)⟩)
        dsimp only [Pt.U, Pt.locs, Pt.cells, Pt.slots] at X58 l58 y58 z58 st58 hQ58
        subst l58 y58 z58
        obtain ⟨hQ58, rfl, k64⟩ := hQ58
        have N66 := Fr.app N42 (Fr.nil n0)
        rcases hQ58 with ⟨rfl, c65⟩ | ⟨rfl, c65⟩
        · exact absurd c65 (fun q => by have := congrArg List.length q; simp at this)
        · have S67 : ∀ t, Steps p.tables e below (T58.setTop (mkF m 55 #[.val (.ref x), .val .null] [.null])) t → Steps p.tables e below (s₁.setTop (mkF m 0 #[.val (.ref x), .unset] [])) t := by
            intro t kt
            refine st1 _ ?_
            refine XS.aloadN X1.here hx rfl (hb hby d5_2) rfl rfl ?_
            show Steps p.tables e below (T1.setTop (mkF m 3 #[.val (.ref x), .unset] [(.ref x), (.ref x1)])) _
            refine st5.trans ?_
            refine XS.ifNo X5.here hx rfl (hb hby d5_6) rfl ((if0 _ _).trans (teq ((by decide) : (0 : Int32) = (0 : Int32))).2) ?_
            show Steps p.tables e below (T5.setTop (mkF m 9 #[.val (.ref x), .unset] [])) _
            refine st15 _ ?_
            refine XS.aloadN X15.here hx rfl (hb hby d5_11) rfl rfl ?_
            show Steps p.tables e below (T15.setTop (mkF m 12 #[.val (.ref x), .unset] [(.ref x), (.ref x15)])) _
            refine st19.trans ?_
            refine XS.ifYes X19.here hx rfl (pc0 := 15) (pc' := 25) rfl (hb hby d5_15) rfl ((if0 _ _).trans (teq ((by decide) : (0 : Int32) = (0 : Int32))).1) (by decide) (by decide) ?_
            show Steps p.tables e below (T19.setTop (mkF m 25 #[.val (.ref x), .unset] [])) _
            refine st28 _ ?_
            refine XS.aloadN X28.here hx rfl (hb hby d5_28) rfl rfl ?_
            show Steps p.tables e below (T28.setTop (mkF m 29 #[.val (.ref x), .unset] [(.ref x), (.ref x28)])) _
            refine st34.trans ?_
            refine XS.ifNo X34.here hx rfl (hb hby d5_32) rfl ((if0 _ _).trans (teq ((by decide) : (0 : Int32) = (0 : Int32))).2) ?_
            show Steps p.tables e below (T34.setTop (mkF m 35 #[.val (.ref x), .unset] [])) _
            refine st50 _ ?_
            refine XS.aloadN X50.here hx rfl (hb hby d5_38) rfl rfl ?_
            show Steps p.tables e below (T50.setTop (mkF m 39 #[.val (.ref x), .unset] [(.ref x), (.ref x50)])) _
            refine st58.trans ?_
            refine XS.ifYes X58.here hx rfl (pc0 := 42) (pc' := 52) rfl (hb hby d5_42) rfl ((if0 _ _).trans (teq ((by decide) : (0 : Int32) = (0 : Int32))).1) (by decide) (by decide) ?_
            refine XS.aconstNull X58.here hx rfl (hb hby d5_52) ?_
            refine XS.astoreN X58.here hx rfl (hb hby d5_53) rfl rfl (l' := #[.val (.ref x), .val .null]) rfl ?_
            refine XS.aloadN X58.here hx rfl (hb hby d5_54) rfl rfl ?_
            exact kt
          obtain ⟨fs, hr, hrun, hended, hRW⟩ := X58.leaveW hS50 (by rw [k64]; exact hk50) (v := some .null) (fun h => by rw [Bd.returns] at h; cases h)
          refine ⟨_, _, pre0 _ (S67 _ ?_), hrun, hended, _, _, rfl, ?_, ?_, hRW.1, hRW.2.1, hRW.2.2.1, hRW.2.2.2.mono (by decide) (by decide)⟩
          · exact retOut X58 hx Bd.returns rfl (Or.inr (Or.inr (Or.inr (Or.inr ⟨rfl, rfl, rfl⟩)))) (hb hby d5_55) hr
          · show Q_rm_bool5 Z x tx kx c0 c1 c2 c3 c4 zc wT wF h0 n0 _ T58.heap _
            rw [k64]
            exact Or.inr (⟨c41, rfl, N66, K56⟩)
          · show CHr Z own_EL s.vm s.heap T58.vm T58.heap
            rw [hh, k64]
            exact CR57.trans (CHv.at X58 hZ50 own_ew CR57.1)
theorem ef_rm_bool6 (m : MethodId) (x0 : Addr) : entryFrame m #[(.ref x0)] 2 = mkF m 0 #[.val (.ref x0), .unset] [] := by first | (simp [entryFrame, mkF, argsToLocals, Value.category]; done) | rfl
def Q_rm_bool6 (Z : State) (x : Addr) (tx : Addr) (kx : ClassId) (c0 : Int32) (c1 : Int32) (c2 : Int32) (c3 : Int32) (c4 : Int32) (c5 : Int32) (zc : Int32) (wT : Addr) (wF : Addr) (h0 : Heap) (n0 : Nat) (v : Option Value) (h : Heap) (L : List Loc) : Prop := ((v = some .null) ∧ (Fr n0 L) ∧ (Keep h0 h []))
set_option maxRecDepth 65536 in
set_option maxHeartbeats 40000000 in
theorem rm_bool6 (l : Launch) (Z : State) (a0 : Array Value) (hw : ∀ d ∈ tables_1, d.before a0 Z = true) (ws : List Jvm.Cond) (x : Addr) (tx : Addr) (kx : ClassId) (c0 : Int32) (c1 : Int32) (c2 : Int32) (c3 : Int32) (c4 : Int32) (c5 : Int32) (zc : Int32) (wT : Addr) (wF : Addr) (h0 : Heap) (n0 : Nat) (O0 : Old Z n0 h0) (E_x : Exa Z h0 x "java/lang/String") (V_x : Fld Z h0 x "java/lang/String" "value" "[B" (.ref tx)) (C_x : Fld Z h0 x "java/lang/String" "coder" "B" (.int (0 : Int32))) (K_x : Arv Z h0 tx kx .byte (6 : Int32) [(.int c0.toInt8.toInt32), (.int c1.toInt8.toInt32), (.int c2.toInt8.toInt32), (.int c3.toInt8.toInt32), (.int c4.toInt8.toInt32), (.int c5.toInt8.toInt32)] (.int (0 : Int32))) (la_c0 : ¬ (c0 < (0 : Int32)) ∧ ¬ ((255 : Int32) < c0)) (la_c1 : ¬ (c1 < (0 : Int32)) ∧ ¬ ((255 : Int32) < c1)) (la_c2 : ¬ (c2 < (0 : Int32)) ∧ ¬ ((255 : Int32) < c2)) (la_c3 : ¬ (c3 < (0 : Int32)) ∧ ¬ ((255 : Int32) < c3)) (la_c4 : ¬ (c4 < (0 : Int32)) ∧ ¬ ((255 : Int32) < c4)) (la_c5 : ¬ (c5 < (0 : Int32)) ∧ ¬ ((255 : Int32) < c5)) (S_C : Sta Z Z.heap "java/lang/String" "COMPACT_STRINGS" "Z" (.int zc)) (hzc : ¬ (zc = (0 : Int32))) (S_T : Sta Z Z.heap "java/lang/Boolean" "TRUE" "Ljava/lang/Boolean;" (.ref wT)) (S_F0 : Sta Z Z.heap "java/lang/Boolean" "FALSE" "Ljava/lang/Boolean;" (.ref wF)) :
    MetFree l (⟨"com/example/pico_notify/piconotify/Xml", "bool", "(Ljava/lang/String;)Ljava/lang/Boolean;"⟩ : MethodName) (head1 (Jvm.Cond.code (⟨"com/example/pico_notify/piconotify/Xml", "bool", "(Ljava/lang/String;)Ljava/lang/Boolean;"⟩ : MethodName) prog_46_method_18_code 2 (some (.object "java/lang/Boolean")) :: ws) ({ frames := 2, cells := 8, slots := 60, locals := 28 } : Room)) (fun a U => a = #[(.ref x)] ∧ Z.Warmed39 U.vm ∧ U.heap = h0 ∧ CHv Z own_EL U.vm h0 ∧ ∀ own_y ∈ ([] : List Addr), Safe Z own_EL U.vm h0 own_y) (fun _ _ _ _ _ => True) (fun _ U o U' => ∃ v L, o = .returned v ∧ Q_rm_bool6 Z x tx kx c0 c1 c2 c3 c4 c5 zc wT wF h0 n0 v U'.heap L ∧ CHr Z own_EL U.vm U.heap U'.vm U'.heap ∧ ReturnedEndW U o U' L ({ frames := 2, cells := 8, slots := 60, locals := 28 } : Room).cells ({ frames := 2, cells := 8, slots := 60, locals := 28 } : Room).slots) := by
  refine MetFree.of_bodySF (plainFor_of_name pn_2) hisR ?_
  intro p e s m args below meth c s₁ Bd hml0 hP hK
  obtain ⟨rfl, hZ, hh, hCH, hSf⟩ := hP
  have hx := Bd.exec
  have hby := Bd.bytes
  have hml : c.maxLocals = 2 := hml0
  have hown : s.vm.findClass "com/example/pico_notify/piconotify/Xml" = some m.cls := findClass_of_methodNamed Bd.named
  have hnm := (name_of_methodNamed Bd.named Bd.method).1
  have X0 : Stand p l e ({ frames := 2, cells := 8, slots := 60, locals := 28 } : Room) (s.setVm s.vm) m #[(.ref x)] below meth c s₁ [] 0 0 := Stand.of_body Bd
  have e0 : s₁.heap = h0 := by rw [← hh, Bd.state]; rfl
  have N0 := Fr.nil n0
  have hZ0 := hZ
  have ho0 := hown
  have hS0 : s.Since s.vm 0 := (State.WarmedH.refl s).since 0
  have hk0 : 0 ≤ h0.size := Nat.zero_le _
  have CR0 : CHr Z own_EL s.vm h0 s.vm h0 := CHr.refl hCH
  have own_at : ∀ d ∈ Bundle.stringAtoms, d.before a0 Z = true := fun d hd => hw d (own_atoms d hd)
  have own_ew : EW Z a0 own_EL := own_EWof hw
  have hwc : ∀ d ∈ StrChars.Road.wordsChN, d.before a0 Z = true := fun d hd => hw d (own_wordsChN d hd)
  have hwq : ∀ d ∈ StrChars.Road.wordsEq, d.before a0 Z = true := fun d hd => hw d (own_wordsEq d hd)
  have hws : ∀ d ∈ StrChars.Road.words, d.before a0 Z = true := fun d hd => hw d (own_words d hd)
  have K0 : Keep h0 h0 [] := Keep.refl _ _
  have pre0 : ∀ t, Steps p.tables e below (s₁.setTop (mkF m 0 #[.val (.ref x), .unset] [])) t → Steps p.tables e below (s₁.setTop (entryFrame m #[(.ref x)] 2)) t := fun t k => castTop (ef_rm_bool6 m x) k
  obtain ⟨x1, T1, h1, q1, y1, j1, X1, e1, E1, hS1, hk1, hZ1, ho1, fE1, fC1, fV1, fA1, la1, lb1, C1, -, ns1, st1⟩ := ldcCH X0 hx hZ0 ho0 (own_w hw 57 rfl) own_at e0 hS0 hk0 own_ew (by decide) CR0.1 (vs := [(.int (116 : Int32).toInt8.toInt32), (.int (114 : Int32).toInt8.toInt32), (.int (117 : Int32).toInt8.toInt32), (.int (101 : Int32).toInt8.toInt32)]) (z := (4 : Int32)) ⟨by decide, by decide +kernel⟩ (by decide) rfl (g := (mkF m 0 #[.val (.ref x), .unset] [])) rfl (hb hby d5_0) (n := 16) (by decide) (by decide) (by decide) (by decide)
  have O2 := O0.ext E1
  have K3 : Keep h0 h1 [] := K0.ext E1
  have CR4 := CR0.trans C1
  have la6 : ∀ c ∈ ([(116 : Int32), (114 : Int32), (117 : Int32), (101 : Int32)] : List Int32), ¬ c < 0 ∧ ¬ (255 : Int32) < c := by
    intro c hc
    simp only [List.mem_cons, List.not_mem_nil, or_false] at hc
    rcases hc with rfl | rfl | rfl | rfl
    · exact ⟨by decide, by decide⟩
    · exact ⟨by decide, by decide⟩
    · exact ⟨by decide, by decide⟩
    · exact ⟨by decide, by decide⟩
  have cd6 : StrChars.Road.CodA ([(116 : Int32), (114 : Int32), (117 : Int32), (101 : Int32)] : List Int32) 0 (4 : Int32) [(.int (116 : Int32).toInt8.toInt32), (.int (114 : Int32).toInt8.toInt32), (.int (117 : Int32).toInt8.toInt32), (.int (101 : Int32).toInt8.toInt32)] := StrChars.Road.codOf (n := 4) rfl (fun x hx => (la6 x hx).2)
  have bd6 := own_up la6
  have f7 := (Exa.ext E1 E_x)
  have f8 := (Fld.ext E1 V_x)
  have f9 := (Fld.ext E1 C_x)
  have f10 := (Arv.ext K_x E1)
  have la11 : ∀ c ∈ ([c0, c1, c2, c3, c4, c5] : List Int32), ¬ c < 0 ∧ ¬ (255 : Int32) < c := by
    intro c hc
    simp only [List.mem_cons, List.not_mem_nil, or_false] at hc
    rcases hc with rfl | rfl | rfl | rfl | rfl | rfl
    · exact la_c0
    · exact la_c1
    · exact la_c2
    · exact la_c3
    · exact la_c4
    · exact la_c5
  have cd11 : StrChars.Road.CodA ([c0, c1, c2, c3, c4, c5] : List Int32) 0 (6 : Int32) [(.int c0.toInt8.toInt32), (.int c1.toInt8.toInt32), (.int c2.toInt8.toInt32), (.int c3.toInt8.toInt32), (.int c4.toInt8.toInt32), (.int c5.toInt8.toInt32)] := StrChars.Road.codOf (n := 6) rfl (fun x hx => (la11 x hx).2)
  have bd11 := own_up la11
  obtain ⟨cq5, kq5, q5a, q5b, q5c⟩ := isOf hZ1 e1 fE1
  obtain ⟨_, _, ⟨T5, L5, k5, n5⟩, -, X5, ⟨Lc5, hQ5, l5, y5, z5⟩, st5⟩ := X1.virtualBack hx (y := (⟨"java/lang/String", "equals", "(Ljava/lang/Object;)Z"⟩ : MethodName)) (z := (⟨"java/lang/String", "equals", "(Ljava/lang/Object;)Z"⟩ : MethodName)) ho1 (mvT hZ1 (own_w hw 58 rfl)) (mvT hZ1 (own_w hw 59 rfl)) (notFace_of_selects (args := #[]) (mvT hZ1 (own_w hw 61 rfl))) (mvT hZ1 (own_w hw 61 rfl)) (mvT hZ1 (own_w hw 60 rfl)) (by decide) (StrChars.Road.eqW (W := 0) hZ1 hwq (kI := 4) (own_w hw 6 rfl) (cs := [(116 : Int32), (114 : Int32), (117 : Int32), (101 : Int32)]) fE1 fV1 fC1 fA1 cd6 bd6 (by show 4 ≤ 4000; decide) (ds := [c0, c1, c2, c3, c4, c5]) f7 f8 f9 f10 cd11 bd11 (by show 6 ≤ 4000; decide) (S_C.ext O2.2) hzc (by decide) (by decide)) q5a q5c (g := (mkF m 3 #[.val (.ref x), .unset] [(.ref x), (.ref x1)])) rfl (by rw [hml]; rfl) (Steps.refl _) (argsL := [(.ref x)]) (rest := []) (lenOf pd_3 rfl) rfl (by show 2 * 0 + _ ≤ _; exact Nat.le_of_eq rfl) (hb hby d5_3) (fun _ _ => ⟨rfl, e1, (by decide : 2 + 0 ≤ _), (by decide : 20 + 0 ≤ _)⟩)
  dsimp only [Pt.U, Pt.locs, Pt.cells, Pt.slots] at X5 l5 y5 z5 st5 hQ5
  subst l5 y5 z5
  obtain ⟨hQ5, rfl, k12⟩ := hQ5
  have N14 := Fr.app N0 (Fr.nil n0)
  rcases hQ5 with ⟨rfl, c13⟩ | ⟨rfl, c13⟩
  · exact absurd c13 (fun q => by have := congrArg List.length q; simp at this)
  · obtain ⟨x15, T15, h15, q15, y15, j15, X15, e15, E15, hS15, hk15, hZ15, ho15, fE15, fC15, fV15, fA15, la15, lb15, C15, -, ns15, st15⟩ := ldcCH X5 hx hZ1 ho1 (own_w hw 67 rfl) own_at k12 hS1 hk1 own_ew (by decide) CR4.1 (vs := [(.int (49 : Int32).toInt8.toInt32)]) (z := (1 : Int32)) ⟨by decide, by decide +kernel⟩ (by decide) rfl (g := (mkF m 9 #[.val (.ref x), .unset] [])) rfl (hb hby d5_9) (n := 4) (by decide) (by decide) (by decide) (by decide)
    have O16 := O2.ext E15
    have K17 : Keep h0 h15 [] := K3.ext E15
    have CR18 := CR4.trans C15
    have la20 : ∀ c ∈ ([(49 : Int32)] : List Int32), ¬ c < 0 ∧ ¬ (255 : Int32) < c := by
      intro c hc
      simp only [List.mem_cons, List.not_mem_nil, or_false] at hc
      rcases hc with rfl
      · exact ⟨by decide, by decide⟩
    have cd20 : StrChars.Road.CodA ([(49 : Int32)] : List Int32) 0 (1 : Int32) [(.int (49 : Int32).toInt8.toInt32)] := StrChars.Road.codOf (n := 1) rfl (fun x hx => (la20 x hx).2)
    have bd20 := own_up la20
    have f21 := (Exa.ext E15 f7)
    have f22 := (Fld.ext E15 f8)
    have f23 := (Fld.ext E15 f9)
    have f24 := (Arv.ext f10 E15)
    obtain ⟨cq19, kq19, q19a, q19b, q19c⟩ := isOf hZ15 e15 fE15
    obtain ⟨_, _, ⟨T19, L19, k19, n19⟩, -, X19, ⟨Lc19, hQ19, l19, y19, z19⟩, st19⟩ := X15.virtualBack hx (y := (⟨"java/lang/String", "equals", "(Ljava/lang/Object;)Z"⟩ : MethodName)) (z := (⟨"java/lang/String", "equals", "(Ljava/lang/Object;)Z"⟩ : MethodName)) ho15 (mvT hZ15 (own_w hw 58 rfl)) (mvT hZ15 (own_w hw 59 rfl)) (notFace_of_selects (args := #[]) (mvT hZ15 (own_w hw 61 rfl))) (mvT hZ15 (own_w hw 61 rfl)) (mvT hZ15 (own_w hw 60 rfl)) (by decide) (StrChars.Road.eqW (W := 0) hZ15 hwq (kI := 4) (own_w hw 6 rfl) (cs := [(49 : Int32)]) fE15 fV15 fC15 fA15 cd20 bd20 (by show 1 ≤ 4000; decide) (ds := [c0, c1, c2, c3, c4, c5]) f21 f22 f23 f24 cd11 bd11 (by show 6 ≤ 4000; decide) (S_C.ext O16.2) hzc (by decide) (by decide)) q19a q19c (g := (mkF m 12 #[.val (.ref x), .unset] [(.ref x), (.ref x15)])) rfl (by rw [hml]; rfl) (Steps.refl _) (argsL := [(.ref x)]) (rest := []) (lenOf pd_3 rfl) rfl (by show 2 * 0 + _ ≤ _; exact Nat.le_of_eq rfl) (hb hby d5_12) (fun _ _ => ⟨rfl, e15, (by decide : 4 + 0 ≤ _), (by decide : 28 + 0 ≤ _)⟩)
    dsimp only [Pt.U, Pt.locs, Pt.cells, Pt.slots] at X19 l19 y19 z19 st19 hQ19
    subst l19 y19 z19
    obtain ⟨hQ19, rfl, k25⟩ := hQ19
    have N27 := Fr.app N14 (Fr.nil n0)
    rcases hQ19 with ⟨rfl, c26⟩ | ⟨rfl, c26⟩
    · exact absurd c26 (fun q => by have := congrArg List.length q; simp at this)
    · obtain ⟨x28, T28, h28, q28, y28, j28, X28, e28, E28, hS28, hk28, hZ28, ho28, fE28, fC28, fV28, fA28, la28, lb28, C28, -, ns28, st28⟩ := own_ldcW X19 hx hZ15 ho15 (own_w hw 68 rfl) own_at k25 hS15 hk15 own_ew (by decide) CR18.1 (vs := [(.int (102 : Int32).toInt8.toInt32), (.int (97 : Int32).toInt8.toInt32), (.int (108 : Int32).toInt8.toInt32), (.int (115 : Int32).toInt8.toInt32), (.int (101 : Int32).toInt8.toInt32)]) (z := (5 : Int32)) ⟨by decide, by decide +kernel⟩ (by decide) rfl (g := (mkF m 25 #[.val (.ref x), .unset] [])) rfl (hb hby d5_25) (n := 20) (by decide) (by decide) (by decide) (by decide)
      have f29 := (Exa.ext E15 fE1)
      have f30 := (Arv.ext fA1 E15)
      have O31 := O16.ext E28
      have K32 : Keep h0 h28 [] := K17.ext E28
      have CR33 := CR18.trans C28
      have la35 : ∀ c ∈ ([(102 : Int32), (97 : Int32), (108 : Int32), (115 : Int32), (101 : Int32)] : List Int32), ¬ c < 0 ∧ ¬ (255 : Int32) < c := by
        intro c hc
        simp only [List.mem_cons, List.not_mem_nil, or_false] at hc
        rcases hc with rfl | rfl | rfl | rfl | rfl
        · exact ⟨by decide, by decide⟩
        · exact ⟨by decide, by decide⟩
        · exact ⟨by decide, by decide⟩
        · exact ⟨by decide, by decide⟩
        · exact ⟨by decide, by decide⟩
      have cd35 : StrChars.Road.CodA ([(102 : Int32), (97 : Int32), (108 : Int32), (115 : Int32), (101 : Int32)] : List Int32) 0 (5 : Int32) [(.int (102 : Int32).toInt8.toInt32), (.int (97 : Int32).toInt8.toInt32), (.int (108 : Int32).toInt8.toInt32), (.int (115 : Int32).toInt8.toInt32), (.int (101 : Int32).toInt8.toInt32)] := StrChars.Road.codOf (n := 5) rfl (fun x hx => (la35 x hx).2)
      have bd35 := own_up la35
      have f36 := (Exa.ext E28 f21)
      have f37 := (Fld.ext E28 f22)
      have f38 := (Fld.ext E28 f23)
      have f39 := (Arv.ext f24 E28)
      obtain ⟨cq34, kq34, q34a, q34b, q34c⟩ := isOf hZ28 e28 fE28
      obtain ⟨_, _, ⟨T34, L34, k34, n34⟩, -, X34, ⟨Lc34, hQ34, l34, y34, z34⟩, st34⟩ := X28.virtualBack hx (y := (⟨"java/lang/String", "equals", "(Ljava/lang/Object;)Z"⟩ : MethodName)) (z := (⟨"java/lang/String", "equals", "(Ljava/lang/Object;)Z"⟩ : MethodName)) ho28 (mvT hZ28 (own_w hw 58 rfl)) (mvT hZ28 (own_w hw 59 rfl)) (notFace_of_selects (args := #[]) (mvT hZ28 (own_w hw 61 rfl))) (mvT hZ28 (own_w hw 61 rfl)) (mvT hZ28 (own_w hw 60 rfl)) (by decide) (StrChars.Road.eqW (W := 0) hZ28 hwq (kI := 4) (own_w hw 6 rfl) (cs := [(102 : Int32), (97 : Int32), (108 : Int32), (115 : Int32), (101 : Int32)]) fE28 fV28 fC28 fA28 cd35 bd35 (by show 5 ≤ 4000; decide) (ds := [c0, c1, c2, c3, c4, c5]) f36 f37 f38 f39 cd11 bd11 (by show 6 ≤ 4000; decide) (S_C.ext O31.2) hzc (by decide) (by decide)) q34a q34c (g := (mkF m 29 #[.val (.ref x), .unset] [(.ref x), (.ref x28)])) rfl (by rw [hml]; rfl) (Steps.refl _) (argsL := [(.ref x)]) (rest := []) (lenOf pd_3 rfl) rfl (by show 2 * 0 + _ ≤ _; exact Nat.le_of_eq rfl) (hb hby d5_29) (fun _ _ => ⟨rfl, e28, (by decide : 6 + 0 ≤ _), (by decide : 52 + 0 ≤ _)⟩)
      dsimp only [Pt.U, Pt.locs, Pt.cells, Pt.slots] at X34 l34 y34 z34 st34 hQ34
      subst l34 y34 z34
      obtain ⟨hQ34, rfl, k40⟩ := hQ34
      have N42 := Fr.app N27 (Fr.nil n0)
      rcases hQ34 with ⟨rfl, c41⟩ | ⟨rfl, c41⟩
      · exact absurd c41 (fun q => by have := congrArg List.length q; simp at this)
      · obtain ⟨x43, T43, h43, q43, y43, j43, X43, e43, E43, hS43, hk43, hZ43, ho43, fE43, fC43, fV43, fA43, la43, lb43, C43, -, ns43, st43⟩ := own_ldcW X34 hx hZ28 ho28 (own_w hw 69 rfl) own_at k40 hS28 hk28 own_ew (by decide) CR33.1 (vs := [(.int (48 : Int32).toInt8.toInt32)]) (z := (1 : Int32)) ⟨by decide, by decide +kernel⟩ (by decide) rfl (g := (mkF m 35 #[.val (.ref x), .unset] [])) rfl (hb hby d5_35) (n := 4) (by decide) (by decide) (by decide) (by decide)
        have f44 := (Exa.ext E28 fE15)
        have f45 := (Arv.ext fA15 E28)
        have f46 := (Exa.ext E28 f29)
        have f47 := (Arv.ext f30 E28)
        have O48 := O31.ext E43
        have K49 : Keep h0 h43 [] := K32.ext E43
        have CR50 := CR33.trans C43
        have la52 : ∀ c ∈ ([(48 : Int32)] : List Int32), ¬ c < 0 ∧ ¬ (255 : Int32) < c := by
          intro c hc
          simp only [List.mem_cons, List.not_mem_nil, or_false] at hc
          rcases hc with rfl
          · exact ⟨by decide, by decide⟩
        have cd52 : StrChars.Road.CodA ([(48 : Int32)] : List Int32) 0 (1 : Int32) [(.int (48 : Int32).toInt8.toInt32)] := StrChars.Road.codOf (n := 1) rfl (fun x hx => (la52 x hx).2)
        have bd52 := own_up la52
        have f53 := (Exa.ext E43 f36)
        have f54 := (Fld.ext E43 f37)
        have f55 := (Fld.ext E43 f38)
        have f56 := (Arv.ext f39 E43)
        obtain ⟨cq51, kq51, q51a, q51b, q51c⟩ := isOf hZ43 e43 fE43
        obtain ⟨_, _, ⟨T51, L51, k51, n51⟩, -, X51, ⟨Lc51, hQ51, l51, y51, z51⟩, st51⟩ := X43.virtualBack hx (y := (⟨"java/lang/String", "equals", "(Ljava/lang/Object;)Z"⟩ : MethodName)) (z := (⟨"java/lang/String", "equals", "(Ljava/lang/Object;)Z"⟩ : MethodName)) ho43 (mvT hZ43 (own_w hw 58 rfl)) (mvT hZ43 (own_w hw 59 rfl)) (notFace_of_selects (args := #[]) (mvT hZ43 (own_w hw 61 rfl))) (mvT hZ43 (own_w hw 61 rfl)) (mvT hZ43 (own_w hw 60 rfl)) (by decide) (StrChars.Road.eqW (W := 0) hZ43 hwq (kI := 4) (own_w hw 6 rfl) (cs := [(48 : Int32)]) fE43 fV43 fC43 fA43 cd52 bd52 (by show 1 ≤ 4000; decide) (ds := [c0, c1, c2, c3, c4, c5]) f53 f54 f55 f56 cd11 bd11 (by show 6 ≤ 4000; decide) (S_C.ext O48.2) hzc (by decide) (by decide)) q51a q51c (g := (mkF m 39 #[.val (.ref x), .unset] [(.ref x), (.ref x43)])) rfl (by rw [hml]; rfl) (Steps.refl _) (argsL := [(.ref x)]) (rest := []) (lenOf pd_3 rfl) rfl (by show 2 * 0 + _ ≤ _; exact Nat.le_of_eq rfl) (hb hby d5_39) (fun _ _ => ⟨rfl, e43, (by decide : 8 + 0 ≤ _), (by decide : 60 + 0 ≤ _)⟩)
        dsimp only [Pt.U, Pt.locs, Pt.cells, Pt.slots] at X51 l51 y51 z51 st51 hQ51
        subst l51 y51 z51
        obtain ⟨hQ51, rfl, k57⟩ := hQ51
        have N59 := Fr.app N42 (Fr.nil n0)
        rcases hQ51 with ⟨rfl, c58⟩ | ⟨rfl, c58⟩
        · exact absurd c58 (fun q => by have := congrArg List.length q; simp at this)
        · have S60 : ∀ t, Steps p.tables e below (T51.setTop (mkF m 55 #[.val (.ref x), .val .null] [.null])) t → Steps p.tables e below (s₁.setTop (mkF m 0 #[.val (.ref x), .unset] [])) t := by
            intro t kt
            refine st1 _ ?_
            refine XS.aloadN X1.here hx rfl (hb hby d5_2) rfl rfl ?_
            show Steps p.tables e below (T1.setTop (mkF m 3 #[.val (.ref x), .unset] [(.ref x), (.ref x1)])) _
            refine st5.trans ?_
            refine XS.ifNo X5.here hx rfl (hb hby d5_6) rfl ((if0 _ _).trans (teq ((by decide) : (0 : Int32) = (0 : Int32))).2) ?_
            show Steps p.tables e below (T5.setTop (mkF m 9 #[.val (.ref x), .unset] [])) _
            refine st15 _ ?_
            refine XS.aloadN X15.here hx rfl (hb hby d5_11) rfl rfl ?_
            show Steps p.tables e below (T15.setTop (mkF m 12 #[.val (.ref x), .unset] [(.ref x), (.ref x15)])) _
            refine st19.trans ?_
            refine XS.ifYes X19.here hx rfl (pc0 := 15) (pc' := 25) rfl (hb hby d5_15) rfl ((if0 _ _).trans (teq ((by decide) : (0 : Int32) = (0 : Int32))).1) (by decide) (by decide) ?_
            show Steps p.tables e below (T19.setTop (mkF m 25 #[.val (.ref x), .unset] [])) _
            refine st28 _ ?_
            refine XS.aloadN X28.here hx rfl (hb hby d5_28) rfl rfl ?_
            show Steps p.tables e below (T28.setTop (mkF m 29 #[.val (.ref x), .unset] [(.ref x), (.ref x28)])) _
            refine st34.trans ?_
            refine XS.ifNo X34.here hx rfl (hb hby d5_32) rfl ((if0 _ _).trans (teq ((by decide) : (0 : Int32) = (0 : Int32))).2) ?_
            show Steps p.tables e below (T34.setTop (mkF m 35 #[.val (.ref x), .unset] [])) _
            refine st43 _ ?_
            refine XS.aloadN X43.here hx rfl (hb hby d5_38) rfl rfl ?_
            show Steps p.tables e below (T43.setTop (mkF m 39 #[.val (.ref x), .unset] [(.ref x), (.ref x43)])) _
            refine st51.trans ?_
            refine XS.ifYes X51.here hx rfl (pc0 := 42) (pc' := 52) rfl (hb hby d5_42) rfl ((if0 _ _).trans (teq ((by decide) : (0 : Int32) = (0 : Int32))).1) (by decide) (by decide) ?_
            refine XS.aconstNull X51.here hx rfl (hb hby d5_52) ?_
            refine XS.astoreN X51.here hx rfl (hb hby d5_53) rfl rfl (l' := #[.val (.ref x), .val .null]) rfl ?_
            refine XS.aloadN X51.here hx rfl (hb hby d5_54) rfl rfl ?_
            exact kt
          obtain ⟨fs, hr, hrun, hended, hRW⟩ := X51.leaveW hS43 (by rw [k57]; exact hk43) (v := some .null) (fun h => by rw [Bd.returns] at h; cases h)
          refine ⟨_, _, pre0 _ (S60 _ ?_), hrun, hended, _, _, rfl, ?_, ?_, hRW.1, hRW.2.1, hRW.2.2.1, hRW.2.2.2.mono (by decide) (by decide)⟩
          · exact retOut X51 hx Bd.returns rfl (Or.inr (Or.inr (Or.inr (Or.inr ⟨rfl, rfl, rfl⟩)))) (hb hby d5_55) hr
          · show Q_rm_bool6 Z x tx kx c0 c1 c2 c3 c4 c5 zc wT wF h0 n0 _ T51.heap _
            rw [k57]
            exact ⟨rfl, N59, K49⟩
          · show CHr Z own_EL s.vm s.heap T51.vm T51.heap
            rw [hh, k57]
            exact CR50.trans (CHv.at X51 hZ43 own_ew CR50.1)
theorem ef_rm_bool7 (m : MethodId)  : entryFrame m #[.null] 2 = mkF m 0 #[.val .null, .unset] [] := by first | (simp [entryFrame, mkF, argsToLocals, Value.category]; done) | rfl
def Q_rm_bool7 (Z : State) (zc : Int32) (wT : Addr) (wF : Addr) (h0 : Heap) (n0 : Nat) (v : Option Value) (h : Heap) (L : List Loc) : Prop := ((v = some .null) ∧ (Fr n0 L) ∧ (Keep h0 h []))
set_option maxRecDepth 65536 in
set_option maxHeartbeats 40000000 in
theorem rm_bool7 (l : Launch) (Z : State) (a0 : Array Value) (hw : ∀ d ∈ tables_1, d.before a0 Z = true) (ws : List Jvm.Cond) (zc : Int32) (wT : Addr) (wF : Addr) (h0 : Heap) (n0 : Nat) (O0 : Old Z n0 h0) (S_C : Sta Z Z.heap "java/lang/String" "COMPACT_STRINGS" "Z" (.int zc)) (hzc : ¬ (zc = (0 : Int32))) (S_T : Sta Z Z.heap "java/lang/Boolean" "TRUE" "Ljava/lang/Boolean;" (.ref wT)) (S_F0 : Sta Z Z.heap "java/lang/Boolean" "FALSE" "Ljava/lang/Boolean;" (.ref wF)) :
    MetFree l (⟨"com/example/pico_notify/piconotify/Xml", "bool", "(Ljava/lang/String;)Ljava/lang/Boolean;"⟩ : MethodName) (head1 (Jvm.Cond.code (⟨"com/example/pico_notify/piconotify/Xml", "bool", "(Ljava/lang/String;)Ljava/lang/Boolean;"⟩ : MethodName) prog_46_method_18_code 2 (some (.object "java/lang/Boolean")) :: ws) ({ frames := 1, cells := 8, slots := 60, locals := 14 } : Room)) (fun a U => a = #[.null] ∧ Z.Warmed39 U.vm ∧ U.heap = h0 ∧ CHv Z own_EL U.vm h0 ∧ ∀ own_y ∈ ([] : List Addr), Safe Z own_EL U.vm h0 own_y) (fun _ _ _ _ _ => True) (fun _ U o U' => ∃ v L, o = .returned v ∧ Q_rm_bool7 Z zc wT wF h0 n0 v U'.heap L ∧ CHr Z own_EL U.vm U.heap U'.vm U'.heap ∧ ReturnedEndW U o U' L ({ frames := 1, cells := 8, slots := 60, locals := 14 } : Room).cells ({ frames := 1, cells := 8, slots := 60, locals := 14 } : Room).slots) := by
  refine MetFree.of_bodySF (plainFor_of_name pn_2) hisR ?_
  intro p e s m args below meth c s₁ Bd hml0 hP hK
  obtain ⟨rfl, hZ, hh, hCH, hSf⟩ := hP
  have hx := Bd.exec
  have hby := Bd.bytes
  have hml : c.maxLocals = 2 := hml0
  have hown : s.vm.findClass "com/example/pico_notify/piconotify/Xml" = some m.cls := findClass_of_methodNamed Bd.named
  have hnm := (name_of_methodNamed Bd.named Bd.method).1
  have X0 : Stand p l e ({ frames := 1, cells := 8, slots := 60, locals := 14 } : Room) (s.setVm s.vm) m #[.null] below meth c s₁ [] 0 0 := Stand.of_body Bd
  have e0 : s₁.heap = h0 := by rw [← hh, Bd.state]; rfl
  have N0 := Fr.nil n0
  have hZ0 := hZ
  have ho0 := hown
  have hS0 : s.Since s.vm 0 := (State.WarmedH.refl s).since 0
  have hk0 : 0 ≤ h0.size := Nat.zero_le _
  have CR0 : CHr Z own_EL s.vm h0 s.vm h0 := CHr.refl hCH
  have own_at : ∀ d ∈ Bundle.stringAtoms, d.before a0 Z = true := fun d hd => hw d (own_atoms d hd)
  have own_ew : EW Z a0 own_EL := own_EWof hw
  have hwc : ∀ d ∈ StrChars.Road.wordsChN, d.before a0 Z = true := fun d hd => hw d (own_wordsChN d hd)
  have hwq : ∀ d ∈ StrChars.Road.wordsEq, d.before a0 Z = true := fun d hd => hw d (own_wordsEq d hd)
  have hws : ∀ d ∈ StrChars.Road.words, d.before a0 Z = true := fun d hd => hw d (own_words d hd)
  have K0 : Keep h0 h0 [] := Keep.refl _ _
  have pre0 : ∀ t, Steps p.tables e below (s₁.setTop (mkF m 0 #[.val .null, .unset] [])) t → Steps p.tables e below (s₁.setTop (entryFrame m #[.null] 2)) t := fun t k => castTop (ef_rm_bool7 m ) k
  obtain ⟨x1, T1, h1, q1, y1, j1, X1, e1, E1, hS1, hk1, hZ1, ho1, fE1, fC1, fV1, fA1, la1, lb1, C1, -, ns1, st1⟩ := ldcCH X0 hx hZ0 ho0 (own_w hw 57 rfl) own_at e0 hS0 hk0 own_ew (by decide) CR0.1 (vs := [(.int (116 : Int32).toInt8.toInt32), (.int (114 : Int32).toInt8.toInt32), (.int (117 : Int32).toInt8.toInt32), (.int (101 : Int32).toInt8.toInt32)]) (z := (4 : Int32)) ⟨by decide, by decide +kernel⟩ (by decide) rfl (g := (mkF m 0 #[.val .null, .unset] [])) rfl (hb hby d5_0) (n := 16) (by decide) (by decide) (by decide) (by decide)
  have O2 := O0.ext E1
  have K3 : Keep h0 h1 [] := K0.ext E1
  have CR4 := CR0.trans C1
  obtain ⟨cq5, kq5, q5a, q5b, q5c⟩ := isOf hZ1 e1 fE1
  obtain ⟨_, _, ⟨T5, L5, k5, n5⟩, -, X5, ⟨Lc5, hQ5, l5, y5, z5⟩, st5⟩ := X1.virtualBack hx (y := (⟨"java/lang/String", "equals", "(Ljava/lang/Object;)Z"⟩ : MethodName)) (z := (⟨"java/lang/String", "equals", "(Ljava/lang/Object;)Z"⟩ : MethodName)) ho1 (mvT hZ1 (own_w hw 58 rfl)) (mvT hZ1 (own_w hw 59 rfl)) (notFace_of_selects (args := #[]) (mvT hZ1 (own_w hw 61 rfl))) (mvT hZ1 (own_w hw 61 rfl)) (mvT hZ1 (own_w hw 60 rfl)) (by decide) (backOf (W := 0) (rm_eqnull l Z a0 hw [] x1 h1 n0 O2 ) hZ1 (own_w hw 62 rfl) (own_w hw 5 rfl) (by decide) (by decide)) q5a q5c (g := (mkF m 3 #[.val .null, .unset] [.null, (.ref x1)])) rfl (by rw [hml]; rfl) (Steps.refl _) (argsL := [.null]) (rest := []) (lenOf pd_3 rfl) rfl (by show 2 * 0 + _ ≤ _; exact Nat.le_of_eq rfl) (hb hby d5_3) (fun _ _ => ⟨rfl, e1, (by decide : 2 + 0 ≤ _), (by decide : 20 + 0 ≤ _)⟩)
  dsimp only [Pt.U, Pt.locs, Pt.cells, Pt.slots] at X5 l5 y5 z5 st5 hQ5
  subst l5 y5 z5
  obtain ⟨rfl, N6, k7⟩ := hQ5
  have N8 := Fr.app N0 N6
  obtain ⟨x9, T9, h9, q9, y9, j9, X9, e9, E9, hS9, hk9, hZ9, ho9, fE9, fC9, fV9, fA9, la9, lb9, C9, -, ns9, st9⟩ := ldcCH X5 hx hZ1 ho1 (own_w hw 67 rfl) own_at k7 hS1 hk1 own_ew (by decide) CR4.1 (vs := [(.int (49 : Int32).toInt8.toInt32)]) (z := (1 : Int32)) ⟨by decide, by decide +kernel⟩ (by decide) rfl (g := (mkF m 9 #[.val .null, .unset] [])) rfl (hb hby d5_9) (n := 4) (by decide) (by decide) (by decide) (by decide)
  have O10 := O2.ext E9
  have K11 : Keep h0 h9 [] := K3.ext E9
  have CR12 := CR4.trans C9
  obtain ⟨cq13, kq13, q13a, q13b, q13c⟩ := isOf hZ9 e9 fE9
  obtain ⟨_, _, ⟨T13, L13, k13, n13⟩, -, X13, ⟨Lc13, hQ13, l13, y13, z13⟩, st13⟩ := X9.virtualBack hx (y := (⟨"java/lang/String", "equals", "(Ljava/lang/Object;)Z"⟩ : MethodName)) (z := (⟨"java/lang/String", "equals", "(Ljava/lang/Object;)Z"⟩ : MethodName)) ho9 (mvT hZ9 (own_w hw 58 rfl)) (mvT hZ9 (own_w hw 59 rfl)) (notFace_of_selects (args := #[]) (mvT hZ9 (own_w hw 61 rfl))) (mvT hZ9 (own_w hw 61 rfl)) (mvT hZ9 (own_w hw 60 rfl)) (by decide) (backOf (W := 0) (rm_eqnull l Z a0 hw [] x9 h9 n0 O10 ) hZ9 (own_w hw 62 rfl) (own_w hw 5 rfl) (by decide) (by decide)) q13a q13c (g := (mkF m 12 #[.val .null, .unset] [.null, (.ref x9)])) rfl (by rw [hml]; rfl) (Steps.refl _) (argsL := [.null]) (rest := []) (lenOf pd_3 rfl) rfl (by show 2 * 0 + _ ≤ _; exact Nat.le_of_eq rfl) (hb hby d5_12) (fun _ _ => ⟨rfl, e9, (by decide : 4 + 0 ≤ _), (by decide : 28 + 0 ≤ _)⟩)
  dsimp only [Pt.U, Pt.locs, Pt.cells, Pt.slots] at X13 l13 y13 z13 st13 hQ13
  subst l13 y13 z13
  obtain ⟨rfl, N14, k15⟩ := hQ13
  have N16 := Fr.app N8 N14
  obtain ⟨x17, T17, h17, q17, y17, j17, X17, e17, E17, hS17, hk17, hZ17, ho17, fE17, fC17, fV17, fA17, la17, lb17, C17, -, ns17, st17⟩ := own_ldcW X13 hx hZ9 ho9 (own_w hw 68 rfl) own_at k15 hS9 hk9 own_ew (by decide) CR12.1 (vs := [(.int (102 : Int32).toInt8.toInt32), (.int (97 : Int32).toInt8.toInt32), (.int (108 : Int32).toInt8.toInt32), (.int (115 : Int32).toInt8.toInt32), (.int (101 : Int32).toInt8.toInt32)]) (z := (5 : Int32)) ⟨by decide, by decide +kernel⟩ (by decide) rfl (g := (mkF m 25 #[.val .null, .unset] [])) rfl (hb hby d5_25) (n := 20) (by decide) (by decide) (by decide) (by decide)
  have f18 := (Arv.ext fA1 E9)
  have f19 := (Exa.ext E9 fE1)
  have O20 := O10.ext E17
  have K21 : Keep h0 h17 [] := K11.ext E17
  have CR22 := CR12.trans C17
  obtain ⟨cq23, kq23, q23a, q23b, q23c⟩ := isOf hZ17 e17 fE17
  obtain ⟨_, _, ⟨T23, L23, k23, n23⟩, -, X23, ⟨Lc23, hQ23, l23, y23, z23⟩, st23⟩ := X17.virtualBack hx (y := (⟨"java/lang/String", "equals", "(Ljava/lang/Object;)Z"⟩ : MethodName)) (z := (⟨"java/lang/String", "equals", "(Ljava/lang/Object;)Z"⟩ : MethodName)) ho17 (mvT hZ17 (own_w hw 58 rfl)) (mvT hZ17 (own_w hw 59 rfl)) (notFace_of_selects (args := #[]) (mvT hZ17 (own_w hw 61 rfl))) (mvT hZ17 (own_w hw 61 rfl)) (mvT hZ17 (own_w hw 60 rfl)) (by decide) (backOf (W := 0) (rm_eqnull l Z a0 hw [] x17 h17 n0 O20 ) hZ17 (own_w hw 62 rfl) (own_w hw 5 rfl) (by decide) (by decide)) q23a q23c (g := (mkF m 29 #[.val .null, .unset] [.null, (.ref x17)])) rfl (by rw [hml]; rfl) (Steps.refl _) (argsL := [.null]) (rest := []) (lenOf pd_3 rfl) rfl (by show 2 * 0 + _ ≤ _; exact Nat.le_of_eq rfl) (hb hby d5_29) (fun _ _ => ⟨rfl, e17, (by decide : 6 + 0 ≤ _), (by decide : 52 + 0 ≤ _)⟩)
  dsimp only [Pt.U, Pt.locs, Pt.cells, Pt.slots] at X23 l23 y23 z23 st23 hQ23
  subst l23 y23 z23
  obtain ⟨rfl, N24, k25⟩ := hQ23
  have N26 := Fr.app N16 N24
  obtain ⟨x27, T27, h27, q27, y27, j27, X27, e27, E27, hS27, hk27, hZ27, ho27, fE27, fC27, fV27, fA27, la27, lb27, C27, -, ns27, st27⟩ := own_ldcW X23 hx hZ17 ho17 (own_w hw 69 rfl) own_at k25 hS17 hk17 own_ew (by decide) CR22.1 (vs := [(.int (48 : Int32).toInt8.toInt32)]) (z := (1 : Int32)) ⟨by decide, by decide +kernel⟩ (by decide) rfl (g := (mkF m 35 #[.val .null, .unset] [])) rfl (hb hby d5_35) (n := 4) (by decide) (by decide) (by decide) (by decide)
  have f28 := (Arv.ext f18 E17)
  have f29 := (Exa.ext E17 f19)
  have f30 := (Arv.ext fA9 E17)
  have f31 := (Exa.ext E17 fE9)
  have O32 := O20.ext E27
  have K33 : Keep h0 h27 [] := K21.ext E27
  have CR34 := CR22.trans C27
  obtain ⟨cq35, kq35, q35a, q35b, q35c⟩ := isOf hZ27 e27 fE27
  obtain ⟨_, _, ⟨T35, L35, k35, n35⟩, -, X35, ⟨Lc35, hQ35, l35, y35, z35⟩, st35⟩ := X27.virtualBack hx (y := (⟨"java/lang/String", "equals", "(Ljava/lang/Object;)Z"⟩ : MethodName)) (z := (⟨"java/lang/String", "equals", "(Ljava/lang/Object;)Z"⟩ : MethodName)) ho27 (mvT hZ27 (own_w hw 58 rfl)) (mvT hZ27 (own_w hw 59 rfl)) (notFace_of_selects (args := #[]) (mvT hZ27 (own_w hw 61 rfl))) (mvT hZ27 (own_w hw 61 rfl)) (mvT hZ27 (own_w hw 60 rfl)) (by decide) (backOf (W := 0) (rm_eqnull l Z a0 hw [] x27 h27 n0 O32 ) hZ27 (own_w hw 62 rfl) (own_w hw 5 rfl) (by decide) (by decide)) q35a q35c (g := (mkF m 39 #[.val .null, .unset] [.null, (.ref x27)])) rfl (by rw [hml]; rfl) (Steps.refl _) (argsL := [.null]) (rest := []) (lenOf pd_3 rfl) rfl (by show 2 * 0 + _ ≤ _; exact Nat.le_of_eq rfl) (hb hby d5_39) (fun _ _ => ⟨rfl, e27, (by decide : 8 + 0 ≤ _), (by decide : 60 + 0 ≤ _)⟩)
  dsimp only [Pt.U, Pt.locs, Pt.cells, Pt.slots] at X35 l35 y35 z35 st35 hQ35
  subst l35 y35 z35
  obtain ⟨rfl, N36, k37⟩ := hQ35
  have N38 := Fr.app N26 N36
  have S39 : ∀ t, Steps p.tables e below (T35.setTop (mkF m 55 #[.val .null, .val .null] [.null])) t → Steps p.tables e below (s₁.setTop (mkF m 0 #[.val .null, .unset] [])) t := by
    intro t kt
    refine st1 _ ?_
    refine XS.aloadN X1.here hx rfl (hb hby d5_2) rfl rfl ?_
    show Steps p.tables e below (T1.setTop (mkF m 3 #[.val .null, .unset] [.null, (.ref x1)])) _
    refine st5.trans ?_
    refine XS.ifNo X5.here hx rfl (hb hby d5_6) rfl ((if0 _ _).trans (teq ((by decide) : (0 : Int32) = (0 : Int32))).2) ?_
    show Steps p.tables e below (T5.setTop (mkF m 9 #[.val .null, .unset] [])) _
    refine st9 _ ?_
    refine XS.aloadN X9.here hx rfl (hb hby d5_11) rfl rfl ?_
    show Steps p.tables e below (T9.setTop (mkF m 12 #[.val .null, .unset] [.null, (.ref x9)])) _
    refine st13.trans ?_
    refine XS.ifYes X13.here hx rfl (pc0 := 15) (pc' := 25) rfl (hb hby d5_15) rfl ((if0 _ _).trans (teq ((by decide) : (0 : Int32) = (0 : Int32))).1) (by decide) (by decide) ?_
    show Steps p.tables e below (T13.setTop (mkF m 25 #[.val .null, .unset] [])) _
    refine st17 _ ?_
    refine XS.aloadN X17.here hx rfl (hb hby d5_28) rfl rfl ?_
    show Steps p.tables e below (T17.setTop (mkF m 29 #[.val .null, .unset] [.null, (.ref x17)])) _
    refine st23.trans ?_
    refine XS.ifNo X23.here hx rfl (hb hby d5_32) rfl ((if0 _ _).trans (teq ((by decide) : (0 : Int32) = (0 : Int32))).2) ?_
    show Steps p.tables e below (T23.setTop (mkF m 35 #[.val .null, .unset] [])) _
    refine st27 _ ?_
    refine XS.aloadN X27.here hx rfl (hb hby d5_38) rfl rfl ?_
    show Steps p.tables e below (T27.setTop (mkF m 39 #[.val .null, .unset] [.null, (.ref x27)])) _
    refine st35.trans ?_
    refine XS.ifYes X35.here hx rfl (pc0 := 42) (pc' := 52) rfl (hb hby d5_42) rfl ((if0 _ _).trans (teq ((by decide) : (0 : Int32) = (0 : Int32))).1) (by decide) (by decide) ?_
    refine XS.aconstNull X35.here hx rfl (hb hby d5_52) ?_
    refine XS.astoreN X35.here hx rfl (hb hby d5_53) rfl rfl (l' := #[.val .null, .val .null]) rfl ?_
    refine XS.aloadN X35.here hx rfl (hb hby d5_54) rfl rfl ?_
    exact kt
  obtain ⟨fs, hr, hrun, hended, hRW⟩ := X35.leaveW hS27 (by rw [k37]; exact hk27) (v := some .null) (fun h => by rw [Bd.returns] at h; cases h)
  refine ⟨_, _, pre0 _ (S39 _ ?_), hrun, hended, _, _, rfl, ?_, ?_, hRW.1, hRW.2.1, hRW.2.2.1, hRW.2.2.2.mono (by decide) (by decide)⟩
  · exact retOut X35 hx Bd.returns rfl (Or.inr (Or.inr (Or.inr (Or.inr ⟨rfl, rfl, rfl⟩)))) (hb hby d5_55) hr
  · show Q_rm_bool7 Z zc wT wF h0 n0 _ T35.heap _
    rw [k37]
    exact ⟨rfl, N38, K33⟩
  · show CHr Z own_EL s.vm s.heap T35.vm T35.heap
    rw [hh, k37]
    exact CR34.trans (CHv.at X35 hZ27 own_ew CR34.1)
theorem d6_0 : decode jdk_2055_method_4_code 0 = .ok (.aload_n 0, 1) := by decide +kernel
theorem d6_1 : decode jdk_2055_method_4_code 1 = .ok (.getfield 7, 3) := by decide +kernel
theorem d6_4 : decode jdk_2055_method_4_code 4 = .ok (.ireturn, 1) := by decide +kernel
theorem pn_3 : plainName "java/lang/Boolean" = true := by first | (simp [plainName, overriddenIn]; done) | decide +kernel
theorem ef_rm_bv0 (m : MethodId) (x0 : Addr) : entryFrame m #[(.ref x0)] 1 = mkF m 0 #[.val (.ref x0)] [] := by first | (simp [entryFrame, mkF, argsToLocals, Value.category]; done) | rfl
def Q_rm_bv0 (Z : State) (a' : Addr) (h0 : Heap) (n0 : Nat) (v : Option Value) (h : Heap) (L : List Loc) : Prop := ((v = some (.int (0 : Int32))) ∧ (Fr n0 L) ∧ (h = h0))
set_option maxRecDepth 65536 in
set_option maxHeartbeats 40000000 in
theorem rm_bv0 (l : Launch) (Z : State) (a0 : Array Value) (hw : ∀ d ∈ tables_1, d.before a0 Z = true) (ws : List Jvm.Cond) (a' : Addr) (h0 : Heap) (n0 : Nat) (O0 : Old Z n0 h0) (F_a : Fld Z Z.heap a' "java/lang/Boolean" "value" "Z" (.int (0 : Int32))) :
    MetFree l (⟨"java/lang/Boolean", "booleanValue", "()Z"⟩ : MethodName) (head1 (Jvm.Cond.code (⟨"java/lang/Boolean", "booleanValue", "()Z"⟩ : MethodName) jdk_2055_method_4_code 1 (some .boolean) :: ws) ({ frames := 0, cells := 0, slots := 0, locals := 0 } : Room)) (fun a U => a = #[(.ref a')] ∧ Z.Warmed39 U.vm ∧ U.heap = h0) (fun _ _ _ _ _ => True) (fun _ U o U' => ∃ v L, o = .returned v ∧ Q_rm_bv0 Z a' h0 n0 v U'.heap L ∧ FrameEnd U o U' L ({ frames := 0, cells := 0, slots := 0, locals := 0 } : Room).cells ({ frames := 0, cells := 0, slots := 0, locals := 0 } : Room).slots) := by
  refine MetFree.of_bodySF (plainFor_of_name pn_3) hisR ?_
  intro p e s m args below meth c s₁ Bd hml0 hP hK
  obtain ⟨rfl, hZ, hh⟩ := hP
  have hx := Bd.exec
  have hby := Bd.bytes
  have hml : c.maxLocals = 1 := hml0
  have hown : s.vm.findClass "java/lang/Boolean" = some m.cls := findClass_of_methodNamed Bd.named
  have hnm := (name_of_methodNamed Bd.named Bd.method).1
  have X0 : Stand p l e ({ frames := 0, cells := 0, slots := 0, locals := 0 } : Room) s m #[(.ref a')] below meth c s₁ [] 0 0 := Stand.of_body Bd
  have e0 : s₁.heap = h0 := by rw [← hh, Bd.state]; rfl
  have N0 := Fr.nil n0
  have hwc : ∀ d ∈ StrChars.Road.wordsChN, d.before a0 Z = true := fun d hd => hw d (own_wordsChN d hd)
  have hwq : ∀ d ∈ StrChars.Road.wordsEq, d.before a0 Z = true := fun d hd => hw d (own_wordsEq d hd)
  have hws : ∀ d ∈ StrChars.Road.words, d.before a0 Z = true := fun d hd => hw d (own_words d hd)
  have pre0 : ∀ t, Steps p.tables e below (s₁.setTop (mkF m 0 #[.val (.ref a')] [])) t → Steps p.tables e below (s₁.setTop (entryFrame m #[(.ref a')] 1)) t := fun t k => castTop (ef_rm_bv0 m a') k
  obtain ⟨T1, X1, e1, st1⟩ := getF X0 hx hZ hown (host := "") (Or.inl (own_w hw 87 rfl)) Via.refl e0 (F_a.ext O0.2) (g := (mkF m 1 #[.val (.ref a')] [(.ref a')])) rfl rfl (hb hby d6_1)
  have S2 : ∀ t, Steps p.tables e below (T1.setTop (mkF m 4 #[.val (.ref a')] [(.int (0 : Int32))])) t → Steps p.tables e below (s₁.setTop (mkF m 0 #[.val (.ref a')] [])) t := by
    intro t kt
    refine XS.aloadN X0.here hx rfl (hb hby d6_0) rfl rfl ?_
    show Steps p.tables e below (s₁.setTop (mkF m 1 #[.val (.ref a')] [(.ref a')])) _
    refine st1 _ ?_
    exact kt
  obtain ⟨fs, hr, hrun, hended, hW, hsame⟩ := X1.leave (v := some (.int (0 : Int32))) (fun h => by rw [Bd.returns] at h; cases h)
  refine ⟨_, _, pre0 _ (S2 _ ?_), hrun, hended, _, _, rfl, ?_, ⟨_, rfl⟩, hW, hsame.mono (by decide) (by decide)⟩
  · exact retN X1 hx (t := .boolean) Bd.returns (by simp) (hb hby d6_4) hr
  · show Q_rm_bv0 Z a' h0 n0 _ T1.heap _
    rw [e1]
    exact ⟨rfl, N0, rfl⟩
theorem ef_rm_bv1 (m : MethodId) (x0 : Addr) : entryFrame m #[(.ref x0)] 1 = mkF m 0 #[.val (.ref x0)] [] := by first | (simp [entryFrame, mkF, argsToLocals, Value.category]; done) | rfl
def Q_rm_bv1 (Z : State) (a' : Addr) (h0 : Heap) (n0 : Nat) (v : Option Value) (h : Heap) (L : List Loc) : Prop := ((v = some (.int (1 : Int32))) ∧ (Fr n0 L) ∧ (h = h0))
set_option maxRecDepth 65536 in
set_option maxHeartbeats 40000000 in
theorem rm_bv1 (l : Launch) (Z : State) (a0 : Array Value) (hw : ∀ d ∈ tables_1, d.before a0 Z = true) (ws : List Jvm.Cond) (a' : Addr) (h0 : Heap) (n0 : Nat) (O0 : Old Z n0 h0) (F_a : Fld Z Z.heap a' "java/lang/Boolean" "value" "Z" (.int (1 : Int32))) :
    MetFree l (⟨"java/lang/Boolean", "booleanValue", "()Z"⟩ : MethodName) (head1 (Jvm.Cond.code (⟨"java/lang/Boolean", "booleanValue", "()Z"⟩ : MethodName) jdk_2055_method_4_code 1 (some .boolean) :: ws) ({ frames := 0, cells := 0, slots := 0, locals := 0 } : Room)) (fun a U => a = #[(.ref a')] ∧ Z.Warmed39 U.vm ∧ U.heap = h0) (fun _ _ _ _ _ => True) (fun _ U o U' => ∃ v L, o = .returned v ∧ Q_rm_bv1 Z a' h0 n0 v U'.heap L ∧ FrameEnd U o U' L ({ frames := 0, cells := 0, slots := 0, locals := 0 } : Room).cells ({ frames := 0, cells := 0, slots := 0, locals := 0 } : Room).slots) := by
  refine MetFree.of_bodySF (plainFor_of_name pn_3) hisR ?_
  intro p e s m args below meth c s₁ Bd hml0 hP hK
  obtain ⟨rfl, hZ, hh⟩ := hP
  have hx := Bd.exec
  have hby := Bd.bytes
  have hml : c.maxLocals = 1 := hml0
  have hown : s.vm.findClass "java/lang/Boolean" = some m.cls := findClass_of_methodNamed Bd.named
  have hnm := (name_of_methodNamed Bd.named Bd.method).1
  have X0 : Stand p l e ({ frames := 0, cells := 0, slots := 0, locals := 0 } : Room) s m #[(.ref a')] below meth c s₁ [] 0 0 := Stand.of_body Bd
  have e0 : s₁.heap = h0 := by rw [← hh, Bd.state]; rfl
  have N0 := Fr.nil n0
  have hwc : ∀ d ∈ StrChars.Road.wordsChN, d.before a0 Z = true := fun d hd => hw d (own_wordsChN d hd)
  have hwq : ∀ d ∈ StrChars.Road.wordsEq, d.before a0 Z = true := fun d hd => hw d (own_wordsEq d hd)
  have hws : ∀ d ∈ StrChars.Road.words, d.before a0 Z = true := fun d hd => hw d (own_words d hd)
  have pre0 : ∀ t, Steps p.tables e below (s₁.setTop (mkF m 0 #[.val (.ref a')] [])) t → Steps p.tables e below (s₁.setTop (entryFrame m #[(.ref a')] 1)) t := fun t k => castTop (ef_rm_bv1 m a') k
  obtain ⟨T1, X1, e1, st1⟩ := getF X0 hx hZ hown (host := "") (Or.inl (own_w hw 87 rfl)) Via.refl e0 (F_a.ext O0.2) (g := (mkF m 1 #[.val (.ref a')] [(.ref a')])) rfl rfl (hb hby d6_1)
  have S2 : ∀ t, Steps p.tables e below (T1.setTop (mkF m 4 #[.val (.ref a')] [(.int (1 : Int32))])) t → Steps p.tables e below (s₁.setTop (mkF m 0 #[.val (.ref a')] [])) t := by
    intro t kt
    refine XS.aloadN X0.here hx rfl (hb hby d6_0) rfl rfl ?_
    show Steps p.tables e below (s₁.setTop (mkF m 1 #[.val (.ref a')] [(.ref a')])) _
    refine st1 _ ?_
    exact kt
  obtain ⟨fs, hr, hrun, hended, hW, hsame⟩ := X1.leave (v := some (.int (1 : Int32))) (fun h => by rw [Bd.returns] at h; cases h)
  refine ⟨_, _, pre0 _ (S2 _ ?_), hrun, hended, _, _, rfl, ?_, ⟨_, rfl⟩, hW, hsame.mono (by decide) (by decide)⟩
  · exact retN X1 hx (t := .boolean) Bd.returns (by simp) (hb hby d6_4) hr
  · show Q_rm_bv1 Z a' h0 n0 _ T1.heap _
    rw [e1]
    exact ⟨rfl, N0, rfl⟩
theorem pd_4 : parseMethodDescriptor "(ICCCCCC)Ljava/lang/String;" = some ⟨[.int, .char, .char, .char, .char, .char, .char], some (.object "java/lang/String")⟩ := by decide +kernel
theorem pd_5 : parseMethodDescriptor "(Ljava/lang/String;)Ljava/lang/Boolean;" = some ⟨[(.object "java/lang/String")], some (.object "java/lang/Boolean")⟩ := by decide +kernel
theorem pd_6 : parseMethodDescriptor "()Z" = some ⟨[], some .boolean⟩ := by decide +kernel
theorem ef_rm_law (m : MethodId) (x0 : Int32) (x1 : Int32) (x2 : Int32) (x3 : Int32) (x4 : Int32) (x5 : Int32) : entryFrame m #[(.int x0), (.int x1), (.int x2), (.int x3), (.int x4), (.int x5)] maxLocals = mkF m 0 #[.val (.int x0), .val (.int x1), .val (.int x2), .val (.int x3), .val (.int x4), .val (.int x5), .unset, .unset, .unset, .unset, .unset, .unset, .unset, .unset, .unset, .unset, .unset] [] := by first | (simp [entryFrame, mkF, argsToLocals, Value.category, maxLocals]; done) | rfl
def Q_rm_law (Z : State) (nn : Int32) (q0 : Int32) (q1 : Int32) (q2 : Int32) (q3 : Int32) (q4 : Int32) (zc : Int32) (fm : Value) (wT : Addr) (wF : Addr) (h0 : Heap) (n0 : Nat) (v : Option Value) (h : Heap) (L : List Loc) : Prop := ((v = some (.int (1 : Int32))) ∧ (Fr n0 L))
set_option maxRecDepth 65536 in
set_option maxHeartbeats 40000000 in
theorem rm_law (l : Launch) (Z : State) (a0 : Array Value) (hw : ∀ d ∈ tables_1, d.before a0 Z = true) (ws : List Jvm.Cond) (nn : Int32) (q0 : Int32) (q1 : Int32) (q2 : Int32) (q3 : Int32) (q4 : Int32) (zc : Int32) (fm : Value) (wT : Addr) (wF : Addr) (h0 : Heap) (n0 : Nat) (O0 : Old Z n0 h0) (S_C : Sta Z Z.heap "java/lang/String" "COMPACT_STRINGS" "Z" (.int zc)) (hzc : ¬ (zc = (0 : Int32))) (S_F : Sta Z Z.heap "jdk/internal/util/Preconditions" "SIOOBE_FORMATTER" "Ljava/util/function/BiFunction;" fm) (hfm : fm.isRef = true) (S_T : Sta Z Z.heap "java/lang/Boolean" "TRUE" "Ljava/lang/Boolean;" (.ref wT)) (S_F0 : Sta Z Z.heap "java/lang/Boolean" "FALSE" "Ljava/lang/Boolean;" (.ref wF)) (E_T : Exa Z Z.heap wT "java/lang/Boolean") (E_F : Exa Z Z.heap wF "java/lang/Boolean") (V_T : Fld Z Z.heap wT "java/lang/Boolean" "value" "Z" (.int (1 : Int32))) (V_F : Fld Z Z.heap wF "java/lang/Boolean" "value" "Z" (.int (0 : Int32))) :
    MetFree l x (head1 (Jvm.Cond.code x code maxLocals ret :: ws) room_1) (fun a U => a = #[(.int nn), (.int q0), (.int q1), (.int q2), (.int q3), (.int q4)] ∧ Z.Warmed39 U.vm ∧ U.heap = h0 ∧ CHv Z own_EL U.vm h0 ∧ ∀ own_y ∈ ([] : List Addr), Safe Z own_EL U.vm h0 own_y) (fun _ _ _ _ _ => True) (fun _ U o U' => ∃ v L, o = .returned v ∧ Q_rm_law Z nn q0 q1 q2 q3 q4 zc fm wT wF h0 n0 v U'.heap L ∧ CHr Z own_EL U.vm U.heap U'.vm U'.heap ∧ ReturnedEndW U o U' L room_1.cells room_1.slots) := by
  refine MetFree.of_bodySF (plainFor_of_name pn_1) hisR ?_
  intro p e s m args below meth c s₁ Bd hml0 hP hK
  obtain ⟨rfl, hZ, hh, hCH, hSf⟩ := hP
  have hx := Bd.exec
  have hby := Bd.bytes
  have hml : c.maxLocals = 17 := hml0
  have hown : s.vm.findClass "com/example/pico_notify/piconotify/XmlBoolPinLaw" = some m.cls := findClass_of_methodNamed Bd.named
  have hnm := (name_of_methodNamed Bd.named Bd.method).1
  have X0 : Stand p l e room_1 (s.setVm s.vm) m #[(.int nn), (.int q0), (.int q1), (.int q2), (.int q3), (.int q4)] below meth c s₁ [] 0 0 := Stand.of_body Bd
  have e0 : s₁.heap = h0 := by rw [← hh, Bd.state]; rfl
  have N0 := Fr.nil n0
  have hZ0 := hZ
  have ho0 := hown
  have hS0 : s.Since s.vm 0 := (State.WarmedH.refl s).since 0
  have hk0 : 0 ≤ h0.size := Nat.zero_le _
  have CR0 : CHr Z own_EL s.vm h0 s.vm h0 := CHr.refl hCH
  have own_at : ∀ d ∈ Bundle.stringAtoms, d.before a0 Z = true := fun d hd => hw d (own_atoms d hd)
  have own_ew : EW Z a0 own_EL := own_EWof hw
  have hwc : ∀ d ∈ StrChars.Road.wordsChN, d.before a0 Z = true := fun d hd => hw d (own_wordsChN d hd)
  have hwq : ∀ d ∈ StrChars.Road.wordsEq, d.before a0 Z = true := fun d hd => hw d (own_wordsEq d hd)
  have hws : ∀ d ∈ StrChars.Road.words, d.before a0 Z = true := fun d hd => hw d (own_words d hd)
  have pre0 : ∀ t, Steps p.tables e below (s₁.setTop (mkF m 0 #[.val (.int nn), .val (.int q0), .val (.int q1), .val (.int q2), .val (.int q3), .val (.int q4), .unset, .unset, .unset, .unset, .unset, .unset, .unset, .unset, .unset, .unset, .unset] [])) t → Steps p.tables e below (s₁.setTop (entryFrame m #[(.int nn), (.int q0), (.int q1), (.int q2), (.int q3), (.int q4)] maxLocals)) t := fun t k => castTop (ef_rm_law m nn q0 q1 q2 q3 q4) k
  have S1 : ∀ t, Steps p.tables e below (s₁.setTop (mkF m 4 #[.val (.int nn), .val (.int q0), .val (.int q1), .val (.int q2), .val (.int q3), .val (.int q4), .unset, .unset, .unset, .unset, .unset, .unset, .unset, .unset, .unset, .unset, .unset] [(.int (nn &&& (7 : Int32)))])) t → Steps p.tables e below (s₁.setTop (mkF m 0 #[.val (.int nn), .val (.int q0), .val (.int q1), .val (.int q2), .val (.int q3), .val (.int q4), .unset, .unset, .unset, .unset, .unset, .unset, .unset, .unset, .unset, .unset, .unset] [])) t := by
    intro t kt
    refine XS.iloadN X0.here hx rfl (hb hby at_0) rfl ?_
    refine XS.bipush X0.here hx rfl (hb hby at_1) ?_
    refine XS.iand X0.here hx rfl (hb hby at_3) rfl ?_
    exact kt
  obtain ⟨nv, h_nv⟩ : ∃ z, z = (nn &&& (7 : Int32)) := ⟨_, rfl⟩
  have S2 : ∀ t, Steps p.tables e below (s₁.setTop (mkF m 4 #[.val (.int nn), .val (.int q0), .val (.int q1), .val (.int q2), .val (.int q3), .val (.int q4), .unset, .unset, .unset, .unset, .unset, .unset, .unset, .unset, .unset, .unset, .unset] [(.int nv)])) t → Steps p.tables e below (s₁.setTop (mkF m 0 #[.val (.int nn), .val (.int q0), .val (.int q1), .val (.int q2), .val (.int q3), .val (.int q4), .unset, .unset, .unset, .unset, .unset, .unset, .unset, .unset, .unset, .unset, .unset] [])) t := by rw [h_nv]; exact S1
  obtain ⟨_, _, ⟨T3, L3, k3, n3⟩, -, Xq3, hSq3, hgq3, ⟨Lc3, hQ3, l3, y3, z3, C3⟩, st3⟩ := callSS X0 hx (y := (⟨"com/example/pico_notify/piconotify/XmlBoolPinLaw", "ch", "(I)C"⟩ : MethodName)) ho0 (mvT hZ0 (own_w hw 0 rfl)) (mvT hZ0 (own_w hw 1 rfl)) (mvT hZ0 (own_w hw 2 rfl)) (mvT hZ0 (own_w hw 3 rfl)) (by decide) (own_backS (W := 0) (rm := ({ frames := 4, cells := 2, slots := 44, locals := 53 } : Room)) (xs := []) (rm_ch l Z a0 hw [] q0 zc fm h0 n0 O0 S_C hzc S_F hfm) hZ0 (own_w hw 3 rfl) (own_w hw 2 rfl) (by decide) (by decide) own_ew CR0.1 all0) (g := (mkF m 7 #[.val (.int nn), .val (.int q0), .val (.int q1), .val (.int q2), .val (.int q3), .val (.int q4), .val (.int nv), .unset, .unset, .unset, .unset, .unset, .unset, .unset, .unset, .unset, .unset] [(.int q0)])) rfl (by rw [hml]; rfl) (argsL := [(.int q0)]) (rest := []) (lenOf pd_1 rfl) rfl (by show 2 * 0 + _ ≤ _; exact Nat.le_of_eq rfl) (hb hby at_7) (fun _ _ => ⟨rfl, e0, (by decide : 0 + 2 ≤ _), (by decide : 0 + 44 ≤ _)⟩)
  dsimp only [Pt.U, Pt.locs, Pt.cells, Pt.slots] at Xq3 hSq3 hgq3 l3 y3 z3 st3 hQ3 C3
  obtain ⟨X3, hS3, hZ3, ho3⟩ := rebS hS0 (by rw [e0]; exact hk0) Xq3 hSq3 hgq3 hZ0 ho0
  subst l3 y3 z3
  obtain ⟨x4, c5, rfl, N6, k7⟩ := hQ3
  have N8 := Fr.app N0 N6
  have CR9 := CR0.trans C3
  have hk10 : T3.heap.size ≤ T3.heap.size := Nat.le_refl _
  have O11 := O0.keep k7 all0
  obtain ⟨_, _, ⟨T12, L12, k12, n12⟩, -, Xq12, hSq12, hgq12, ⟨Lc12, hQ12, l12, y12, z12, C12⟩, st12⟩ := callSS X3 hx (y := (⟨"com/example/pico_notify/piconotify/XmlBoolPinLaw", "ch", "(I)C"⟩ : MethodName)) ho3 (mvT hZ3 (own_w hw 0 rfl)) (mvT hZ3 (own_w hw 1 rfl)) (mvT hZ3 (own_w hw 2 rfl)) (mvT hZ3 (own_w hw 3 rfl)) (by decide) (own_backS (W := 0) (rm := ({ frames := 4, cells := 2, slots := 44, locals := 53 } : Room)) (xs := []) (rm_ch l Z a0 hw [] q1 zc fm T3.heap n0 O11 S_C hzc S_F hfm) hZ3 (own_w hw 3 rfl) (own_w hw 2 rfl) (by decide) (by decide) own_ew CR9.1 all0) (g := (mkF m 13 #[.val (.int nn), .val (.int q0), .val (.int q1), .val (.int q2), .val (.int q3), .val (.int q4), .val (.int nv), .val (.int x4), .unset, .unset, .unset, .unset, .unset, .unset, .unset, .unset, .unset] [(.int q1)])) rfl (by rw [hml]; rfl) (argsL := [(.int q1)]) (rest := []) (lenOf pd_1 rfl) rfl (by show 2 * 0 + _ ≤ _; exact Nat.le_of_eq rfl) (hb hby at_13) (fun _ _ => ⟨rfl, rfl, (by decide : 2 + 2 ≤ _), (by decide : 44 + 44 ≤ _)⟩)
  dsimp only [Pt.U, Pt.locs, Pt.cells, Pt.slots] at Xq12 hSq12 hgq12 l12 y12 z12 st12 hQ12 C12
  obtain ⟨X12, hS12, hZ12, ho12⟩ := rebS hS3 (by exact hk10) Xq12 hSq12 hgq12 hZ3 ho3
  subst l12 y12 z12
  obtain ⟨x13, c14, rfl, N15, k16⟩ := hQ12
  have N17 := Fr.app N8 N15
  have CR18 := CR9.trans C12
  have hk19 : T12.heap.size ≤ T12.heap.size := Nat.le_refl _
  have O20 := O11.keep k16 all0
  obtain ⟨_, _, ⟨T21, L21, k21, n21⟩, -, Xq21, hSq21, hgq21, ⟨Lc21, hQ21, l21, y21, z21, C21⟩, st21⟩ := callSS X12 hx (y := (⟨"com/example/pico_notify/piconotify/XmlBoolPinLaw", "ch", "(I)C"⟩ : MethodName)) ho12 (mvT hZ12 (own_w hw 0 rfl)) (mvT hZ12 (own_w hw 1 rfl)) (mvT hZ12 (own_w hw 2 rfl)) (mvT hZ12 (own_w hw 3 rfl)) (by decide) (own_backS (W := 0) (rm := ({ frames := 4, cells := 2, slots := 44, locals := 53 } : Room)) (xs := []) (rm_ch l Z a0 hw [] q2 zc fm T12.heap n0 O20 S_C hzc S_F hfm) hZ12 (own_w hw 3 rfl) (own_w hw 2 rfl) (by decide) (by decide) own_ew CR18.1 all0) (g := (mkF m 19 #[.val (.int nn), .val (.int q0), .val (.int q1), .val (.int q2), .val (.int q3), .val (.int q4), .val (.int nv), .val (.int x4), .val (.int x13), .unset, .unset, .unset, .unset, .unset, .unset, .unset, .unset] [(.int q2)])) rfl (by rw [hml]; rfl) (argsL := [(.int q2)]) (rest := []) (lenOf pd_1 rfl) rfl (by show 2 * 0 + _ ≤ _; exact Nat.le_of_eq rfl) (hb hby at_19) (fun _ _ => ⟨rfl, rfl, (by decide : 4 + 2 ≤ _), (by decide : 88 + 44 ≤ _)⟩)
  dsimp only [Pt.U, Pt.locs, Pt.cells, Pt.slots] at Xq21 hSq21 hgq21 l21 y21 z21 st21 hQ21 C21
  obtain ⟨X21, hS21, hZ21, ho21⟩ := rebS hS12 (by exact hk19) Xq21 hSq21 hgq21 hZ12 ho12
  subst l21 y21 z21
  obtain ⟨x22, c23, rfl, N24, k25⟩ := hQ21
  have N26 := Fr.app N17 N24
  have CR27 := CR18.trans C21
  have hk28 : T21.heap.size ≤ T21.heap.size := Nat.le_refl _
  have O29 := O20.keep k25 all0
  obtain ⟨_, _, ⟨T30, L30, k30, n30⟩, -, Xq30, hSq30, hgq30, ⟨Lc30, hQ30, l30, y30, z30, C30⟩, st30⟩ := callSS X21 hx (y := (⟨"com/example/pico_notify/piconotify/XmlBoolPinLaw", "ch", "(I)C"⟩ : MethodName)) ho21 (mvT hZ21 (own_w hw 0 rfl)) (mvT hZ21 (own_w hw 1 rfl)) (mvT hZ21 (own_w hw 2 rfl)) (mvT hZ21 (own_w hw 3 rfl)) (by decide) (own_backS (W := 0) (rm := ({ frames := 4, cells := 2, slots := 44, locals := 53 } : Room)) (xs := []) (rm_ch l Z a0 hw [] q3 zc fm T21.heap n0 O29 S_C hzc S_F hfm) hZ21 (own_w hw 3 rfl) (own_w hw 2 rfl) (by decide) (by decide) own_ew CR27.1 all0) (g := (mkF m 26 #[.val (.int nn), .val (.int q0), .val (.int q1), .val (.int q2), .val (.int q3), .val (.int q4), .val (.int nv), .val (.int x4), .val (.int x13), .val (.int x22), .unset, .unset, .unset, .unset, .unset, .unset, .unset] [(.int q3)])) rfl (by rw [hml]; rfl) (argsL := [(.int q3)]) (rest := []) (lenOf pd_1 rfl) rfl (by show 2 * 0 + _ ≤ _; exact Nat.le_of_eq rfl) (hb hby at_26) (fun _ _ => ⟨rfl, rfl, (by decide : 6 + 2 ≤ _), (by decide : 132 + 44 ≤ _)⟩)
  dsimp only [Pt.U, Pt.locs, Pt.cells, Pt.slots] at Xq30 hSq30 hgq30 l30 y30 z30 st30 hQ30 C30
  obtain ⟨X30, hS30, hZ30, ho30⟩ := rebS hS21 (by exact hk28) Xq30 hSq30 hgq30 hZ21 ho21
  subst l30 y30 z30
  obtain ⟨x31, c32, rfl, N33, k34⟩ := hQ30
  have N35 := Fr.app N26 N33
  have CR36 := CR27.trans C30
  have hk37 : T30.heap.size ≤ T30.heap.size := Nat.le_refl _
  have O38 := O29.keep k34 all0
  obtain ⟨_, _, ⟨T39, L39, k39, n39⟩, -, Xq39, hSq39, hgq39, ⟨Lc39, hQ39, l39, y39, z39, C39⟩, st39⟩ := callSS X30 hx (y := (⟨"com/example/pico_notify/piconotify/XmlBoolPinLaw", "ch", "(I)C"⟩ : MethodName)) ho30 (mvT hZ30 (own_w hw 0 rfl)) (mvT hZ30 (own_w hw 1 rfl)) (mvT hZ30 (own_w hw 2 rfl)) (mvT hZ30 (own_w hw 3 rfl)) (by decide) (own_backS (W := 0) (rm := ({ frames := 4, cells := 2, slots := 44, locals := 53 } : Room)) (xs := []) (rm_ch l Z a0 hw [] q4 zc fm T30.heap n0 O38 S_C hzc S_F hfm) hZ30 (own_w hw 3 rfl) (own_w hw 2 rfl) (by decide) (by decide) own_ew CR36.1 all0) (g := (mkF m 33 #[.val (.int nn), .val (.int q0), .val (.int q1), .val (.int q2), .val (.int q3), .val (.int q4), .val (.int nv), .val (.int x4), .val (.int x13), .val (.int x22), .val (.int x31), .unset, .unset, .unset, .unset, .unset, .unset] [(.int q4)])) rfl (by rw [hml]; rfl) (argsL := [(.int q4)]) (rest := []) (lenOf pd_1 rfl) rfl (by show 2 * 0 + _ ≤ _; exact Nat.le_of_eq rfl) (hb hby at_33) (fun _ _ => ⟨rfl, rfl, (by decide : 8 + 2 ≤ _), (by decide : 176 + 44 ≤ _)⟩)
  dsimp only [Pt.U, Pt.locs, Pt.cells, Pt.slots] at Xq39 hSq39 hgq39 l39 y39 z39 st39 hQ39 C39
  obtain ⟨X39, hS39, hZ39, ho39⟩ := rebS hS30 (by exact hk37) Xq39 hSq39 hgq39 hZ30 ho30
  subst l39 y39 z39
  obtain ⟨x40, c41, rfl, N42, k43⟩ := hQ39
  have N44 := Fr.app N35 N42
  have CR45 := CR36.trans C39
  have hk46 : T39.heap.size ≤ T39.heap.size := Nat.le_refl _
  have O47 := O38.keep k43 all0
  obtain ⟨_, _, ⟨T48, L48, k48, n48⟩, -, Xq48, hSq48, hgq48, ⟨Lc48, hQ48, l48, y48, z48, C48⟩, st48⟩ := callSS X39 hx (y := (⟨"com/example/pico_notify/piconotify/XmlBoolPinLaw", "ch", "(I)C"⟩ : MethodName)) ho39 (mvT hZ39 (own_w hw 0 rfl)) (mvT hZ39 (own_w hw 1 rfl)) (mvT hZ39 (own_w hw 2 rfl)) (mvT hZ39 (own_w hw 3 rfl)) (by decide) (own_backS (W := 0) (rm := ({ frames := 4, cells := 2, slots := 44, locals := 53 } : Room)) (xs := []) (rm_ch l Z a0 hw [] ((nn.toUInt32 >>> ((3 : Int32) &&& 31).toUInt32).toInt32) zc fm T39.heap n0 O47 S_C hzc S_F hfm) hZ39 (own_w hw 3 rfl) (own_w hw 2 rfl) (by decide) (by decide) own_ew CR45.1 all0) (g := (mkF m 41 #[.val (.int nn), .val (.int q0), .val (.int q1), .val (.int q2), .val (.int q3), .val (.int q4), .val (.int nv), .val (.int x4), .val (.int x13), .val (.int x22), .val (.int x31), .val (.int x40), .unset, .unset, .unset, .unset, .unset] [(.int ((nn.toUInt32 >>> ((3 : Int32) &&& 31).toUInt32).toInt32))])) rfl (by rw [hml]; rfl) (argsL := [(.int ((nn.toUInt32 >>> ((3 : Int32) &&& 31).toUInt32).toInt32))]) (rest := []) (lenOf pd_1 rfl) rfl (by show 2 * 0 + _ ≤ _; exact Nat.le_of_eq rfl) (hb hby at_41) (fun _ _ => ⟨rfl, rfl, (by decide : 10 + 2 ≤ _), (by decide : 220 + 44 ≤ _)⟩)
  dsimp only [Pt.U, Pt.locs, Pt.cells, Pt.slots] at Xq48 hSq48 hgq48 l48 y48 z48 st48 hQ48 C48
  obtain ⟨X48, hS48, hZ48, ho48⟩ := rebS hS39 (by exact hk46) Xq48 hSq48 hgq48 hZ39 ho39
  subst l48 y48 z48
  obtain ⟨x49, c50, rfl, N51, k52⟩ := hQ48
  have N53 := Fr.app N44 N51
  have CR54 := CR45.trans C48
  have hk55 : T48.heap.size ≤ T48.heap.size := Nat.le_refl _
  have O56 := O47.keep k52 all0
  have S57 : ∀ t, Steps p.tables e below (T48.setTop (mkF m 46 #[.val (.int nn), .val (.int q0), .val (.int q1), .val (.int q2), .val (.int q3), .val (.int q4), .val (.int nv), .val (.int x4), .val (.int x13), .val (.int x22), .val (.int x31), .val (.int x40), .val (.int x49), .unset, .unset, .unset, .unset] [])) t → Steps p.tables e below (s₁.setTop (mkF m 0 #[.val (.int nn), .val (.int q0), .val (.int q1), .val (.int q2), .val (.int q3), .val (.int q4), .unset, .unset, .unset, .unset, .unset, .unset, .unset, .unset, .unset, .unset, .unset] [])) t := by
    intro t kt
    refine S2 t ?_
    refine XS.istore X0.here hx rfl (hb hby at_4) rfl (l' := #[.val (.int nn), .val (.int q0), .val (.int q1), .val (.int q2), .val (.int q3), .val (.int q4), .val (.int nv), .unset, .unset, .unset, .unset, .unset, .unset, .unset, .unset, .unset, .unset]) rfl ?_
    refine XS.iloadN X0.here hx rfl (hb hby at_6) rfl ?_
    show Steps p.tables e below (s₁.setTop (mkF m 7 #[.val (.int nn), .val (.int q0), .val (.int q1), .val (.int q2), .val (.int q3), .val (.int q4), .val (.int nv), .unset, .unset, .unset, .unset, .unset, .unset, .unset, .unset, .unset, .unset] [(.int q0)])) _
    refine st3.trans ?_
    refine XS.istore X3.here hx rfl (hb hby at_10) rfl (l' := #[.val (.int nn), .val (.int q0), .val (.int q1), .val (.int q2), .val (.int q3), .val (.int q4), .val (.int nv), .val (.int x4), .unset, .unset, .unset, .unset, .unset, .unset, .unset, .unset, .unset]) rfl ?_
    refine XS.iloadN X3.here hx rfl (hb hby at_12) rfl ?_
    show Steps p.tables e below (T3.setTop (mkF m 13 #[.val (.int nn), .val (.int q0), .val (.int q1), .val (.int q2), .val (.int q3), .val (.int q4), .val (.int nv), .val (.int x4), .unset, .unset, .unset, .unset, .unset, .unset, .unset, .unset, .unset] [(.int q1)])) _
    refine st12.trans ?_
    refine XS.istore X12.here hx rfl (hb hby at_16) rfl (l' := #[.val (.int nn), .val (.int q0), .val (.int q1), .val (.int q2), .val (.int q3), .val (.int q4), .val (.int nv), .val (.int x4), .val (.int x13), .unset, .unset, .unset, .unset, .unset, .unset, .unset, .unset]) rfl ?_
    refine XS.iloadN X12.here hx rfl (hb hby at_18) rfl ?_
    show Steps p.tables e below (T12.setTop (mkF m 19 #[.val (.int nn), .val (.int q0), .val (.int q1), .val (.int q2), .val (.int q3), .val (.int q4), .val (.int nv), .val (.int x4), .val (.int x13), .unset, .unset, .unset, .unset, .unset, .unset, .unset, .unset] [(.int q2)])) _
    refine st21.trans ?_
    refine XS.istore X21.here hx rfl (hb hby at_22) rfl (l' := #[.val (.int nn), .val (.int q0), .val (.int q1), .val (.int q2), .val (.int q3), .val (.int q4), .val (.int nv), .val (.int x4), .val (.int x13), .val (.int x22), .unset, .unset, .unset, .unset, .unset, .unset, .unset]) rfl ?_
    refine XS.iload X21.here hx rfl (hb hby at_24) rfl ?_
    show Steps p.tables e below (T21.setTop (mkF m 26 #[.val (.int nn), .val (.int q0), .val (.int q1), .val (.int q2), .val (.int q3), .val (.int q4), .val (.int nv), .val (.int x4), .val (.int x13), .val (.int x22), .unset, .unset, .unset, .unset, .unset, .unset, .unset] [(.int q3)])) _
    refine st30.trans ?_
    refine XS.istore X30.here hx rfl (hb hby at_29) rfl (l' := #[.val (.int nn), .val (.int q0), .val (.int q1), .val (.int q2), .val (.int q3), .val (.int q4), .val (.int nv), .val (.int x4), .val (.int x13), .val (.int x22), .val (.int x31), .unset, .unset, .unset, .unset, .unset, .unset]) rfl ?_
    refine XS.iload X30.here hx rfl (hb hby at_31) rfl ?_
    show Steps p.tables e below (T30.setTop (mkF m 33 #[.val (.int nn), .val (.int q0), .val (.int q1), .val (.int q2), .val (.int q3), .val (.int q4), .val (.int nv), .val (.int x4), .val (.int x13), .val (.int x22), .val (.int x31), .unset, .unset, .unset, .unset, .unset, .unset] [(.int q4)])) _
    refine st39.trans ?_
    refine XS.istore X39.here hx rfl (hb hby at_36) rfl (l' := #[.val (.int nn), .val (.int q0), .val (.int q1), .val (.int q2), .val (.int q3), .val (.int q4), .val (.int nv), .val (.int x4), .val (.int x13), .val (.int x22), .val (.int x31), .val (.int x40), .unset, .unset, .unset, .unset, .unset]) rfl ?_
    refine XS.iloadN X39.here hx rfl (hb hby at_38) rfl ?_
    refine XS.iconst X39.here hx rfl (hb hby at_39) ?_
    refine XS.iushr X39.here hx rfl (hb hby at_40) rfl ?_
    show Steps p.tables e below (T39.setTop (mkF m 41 #[.val (.int nn), .val (.int q0), .val (.int q1), .val (.int q2), .val (.int q3), .val (.int q4), .val (.int nv), .val (.int x4), .val (.int x13), .val (.int x22), .val (.int x31), .val (.int x40), .unset, .unset, .unset, .unset, .unset] [(.int ((nn.toUInt32 >>> ((3 : Int32) &&& 31).toUInt32).toInt32))])) _
    refine st48.trans ?_
    refine XS.istore X48.here hx rfl (hb hby at_44) rfl (l' := #[.val (.int nn), .val (.int q0), .val (.int q1), .val (.int q2), .val (.int q3), .val (.int q4), .val (.int nv), .val (.int x4), .val (.int x13), .val (.int x22), .val (.int x31), .val (.int x40), .val (.int x49), .unset, .unset, .unset, .unset]) rfl ?_
    exact kt
  rcases own_and7 nn nv h_nv with rfl | rfl | rfl | rfl | rfl | rfl | rfl | rfl
  · obtain ⟨_, _, ⟨T58, L58, k58, n58⟩, -, Xq58, hSq58, hgq58, ⟨Lc58, hQ58, l58, y58, z58, C58⟩, st58⟩ := callSS X48 hx (y := (⟨"com/example/pico_notify/piconotify/XmlBoolPinLaw", "str", "(ICCCCCC)Ljava/lang/String;"⟩ : MethodName)) ho48 (mvT hZ48 (own_w hw 37 rfl)) (mvT hZ48 (own_w hw 38 rfl)) (mvT hZ48 (own_w hw 2 rfl)) (mvT hZ48 (own_w hw 39 rfl)) (by decide) (own_backS (W := 0) (rm := ({ frames := 3, cells := 6, slots := 12, locals := 43 } : Room)) (xs := []) (rm_str0 l Z a0 hw [] x4 x13 x22 x31 x40 x49 zc T48.heap n0 O56 c5 c14 c23 c32 c41 c50 S_C hzc) hZ48 (own_w hw 39 rfl) (own_w hw 2 rfl) (by decide) (by decide) own_ew CR54.1 all0) (g := (mkF m 71 #[.val (.int nn), .val (.int q0), .val (.int q1), .val (.int q2), .val (.int q3), .val (.int q4), .val (.int (0 : Int32)), .val (.int x4), .val (.int x13), .val (.int x22), .val (.int x31), .val (.int x40), .val (.int x49), .unset, .unset, .unset, .unset] [(.int x49), (.int x40), (.int x31), (.int x22), (.int x13), (.int x4), (.int (0 : Int32))])) rfl (by rw [hml]; rfl) (argsL := [(.int (0 : Int32)), (.int x4), (.int x13), (.int x22), (.int x31), (.int x40), (.int x49)]) (rest := []) (lenOf pd_4 rfl) rfl (by show 2 * 0 + _ ≤ _; exact Nat.le_of_eq rfl) (hb hby at_71) (fun _ _ => ⟨rfl, rfl, (by decide : 12 + 6 ≤ _), (by decide : 264 + 12 ≤ _)⟩)
    dsimp only [Pt.U, Pt.locs, Pt.cells, Pt.slots] at Xq58 hSq58 hgq58 l58 y58 z58 st58 hQ58 C58
    obtain ⟨X58, hS58, hZ58, ho58⟩ := rebS hS48 (by exact hk55) Xq58 hSq58 hgq58 hZ48 ho48
    subst l58 y58 z58
    obtain ⟨x59, x60, x61, rfl, N62, k63, f64, f65, f66, f67, f68⟩ := hQ58
    have N69 := Fr.app N53 N62
    have ge70 : n0 ≤ x59 := by rw [← O56.1]; exact Nat.le_trans O56.2.1 f64
    have CR71 := CR54.trans C58
    have hk72 : T58.heap.size ≤ T58.heap.size := Nat.le_refl _
    have O73 := O56.keep k63 all0
    obtain ⟨_, _, ⟨T74, L74, k74, n74⟩, -, Xq74, hSq74, hgq74, ⟨Lc74, hQ74, l74, y74, z74, C74⟩, st74⟩ := callSS X58 hx (y := (⟨"com/example/pico_notify/piconotify/Xml", "bool", "(Ljava/lang/String;)Ljava/lang/Boolean;"⟩ : MethodName)) ho58 (mvT hZ58 (own_w hw 53 rfl)) (mvT hZ58 (own_w hw 54 rfl)) (mvT hZ58 (own_w hw 55 rfl)) (mvT hZ58 (own_w hw 56 rfl)) (by decide) (own_backS (W := 0) (rm := ({ frames := 2, cells := 8, slots := 60, locals := 28 } : Room)) (xs := []) (rm_bool0 l Z a0 hw [] x59 x60 x61 zc wT wF T58.heap n0 O73 f65 f66 f67 f68 S_C hzc S_T S_F0) hZ58 (own_w hw 56 rfl) (own_w hw 55 rfl) (by decide) (by decide) own_ew CR71.1 all0) (g := (mkF m 78 #[.val (.int nn), .val (.int q0), .val (.int q1), .val (.int q2), .val (.int q3), .val (.int q4), .val (.int (0 : Int32)), .val (.int x4), .val (.int x13), .val (.int x22), .val (.int x31), .val (.int x40), .val (.int x49), .val (.ref x59), .unset, .unset, .unset] [(.ref x59)])) rfl (by rw [hml]; rfl) (argsL := [(.ref x59)]) (rest := []) (lenOf pd_5 rfl) rfl (by show 2 * 0 + _ ≤ _; exact Nat.le_of_eq rfl) (hb hby at_78) (fun _ _ => ⟨rfl, rfl, (by decide : 18 + 8 ≤ _), (by decide : 276 + 60 ≤ _)⟩)
    dsimp only [Pt.U, Pt.locs, Pt.cells, Pt.slots] at Xq74 hSq74 hgq74 l74 y74 z74 st74 hQ74 C74
    obtain ⟨X74, hS74, hZ74, ho74⟩ := rebS hS58 (by exact hk72) Xq74 hSq74 hgq74 hZ58 ho58
    subst l74 y74 z74
    obtain ⟨rfl, N75, k76⟩ := hQ74
    have N77 := Fr.app N69 N75
    have CR78 := CR71.trans C74
    have hk79 : T74.heap.size ≤ T74.heap.size := Nat.le_refl _
    have O80 := O73.keep k76 all0
    have S81 : ∀ t, Steps p.tables e below (T74.setTop (mkF m 256 #[.val (.int nn), .val (.int q0), .val (.int q1), .val (.int q2), .val (.int q3), .val (.int q4), .val (.int (0 : Int32)), .val (.int x4), .val (.int x13), .val (.int x22), .val (.int x31), .val (.int x40), .val (.int x49), .val (.ref x59), .val .null, .val (.int (0 : Int32)), .val (.int (0 : Int32))] [(.int (1 : Int32))])) t → Steps p.tables e below (s₁.setTop (mkF m 0 #[.val (.int nn), .val (.int q0), .val (.int q1), .val (.int q2), .val (.int q3), .val (.int q4), .unset, .unset, .unset, .unset, .unset, .unset, .unset, .unset, .unset, .unset, .unset] [])) t := by
      intro t kt
      refine S57 t ?_
      refine XS.iload X48.here hx rfl (hb hby at_46) rfl ?_
      refine XS.bipush X48.here hx rfl (hb hby at_48) ?_
      refine XS.icmpYes X48.here hx rfl (pc0 := 50) (pc' := 57) rfl (hb hby at_50) rfl (feq ((by decide) : ¬ ((0 : Int32) = (7 : Int32)))).2 (by decide) (by decide) ?_
      refine XS.iload X48.here hx rfl (hb hby at_57) rfl ?_
      refine XS.iload X48.here hx rfl (hb hby at_59) rfl ?_
      refine XS.iload X48.here hx rfl (hb hby at_61) rfl ?_
      show Steps p.tables e below (T48.setTop (mkF m 63 #[.val (.int nn), .val (.int q0), .val (.int q1), .val (.int q2), .val (.int q3), .val (.int q4), .val (.int (0 : Int32)), .val (.int x4), .val (.int x13), .val (.int x22), .val (.int x31), .val (.int x40), .val (.int x49), .unset, .unset, .unset, .unset] [(.int x13), (.int x4), (.int (0 : Int32))])) _
      refine XS.iload X48.here hx rfl (hb hby at_63) rfl ?_
      refine XS.iload X48.here hx rfl (hb hby at_65) rfl ?_
      refine XS.iload X48.here hx rfl (hb hby at_67) rfl ?_
      refine XS.iload X48.here hx rfl (hb hby at_69) rfl ?_
      show Steps p.tables e below (T48.setTop (mkF m 71 #[.val (.int nn), .val (.int q0), .val (.int q1), .val (.int q2), .val (.int q3), .val (.int q4), .val (.int (0 : Int32)), .val (.int x4), .val (.int x13), .val (.int x22), .val (.int x31), .val (.int x40), .val (.int x49), .unset, .unset, .unset, .unset] [(.int x49), (.int x40), (.int x31), (.int x22), (.int x13), (.int x4), (.int (0 : Int32))])) _
      refine st58.trans ?_
      refine XS.astore X58.here hx rfl (hb hby at_74) rfl rfl (l' := #[.val (.int nn), .val (.int q0), .val (.int q1), .val (.int q2), .val (.int q3), .val (.int q4), .val (.int (0 : Int32)), .val (.int x4), .val (.int x13), .val (.int x22), .val (.int x31), .val (.int x40), .val (.int x49), .val (.ref x59), .unset, .unset, .unset]) rfl ?_
      refine XS.aload X58.here hx rfl (hb hby at_76) rfl rfl ?_
      show Steps p.tables e below (T58.setTop (mkF m 78 #[.val (.int nn), .val (.int q0), .val (.int q1), .val (.int q2), .val (.int q3), .val (.int q4), .val (.int (0 : Int32)), .val (.int x4), .val (.int x13), .val (.int x22), .val (.int x31), .val (.int x40), .val (.int x49), .val (.ref x59), .unset, .unset, .unset] [(.ref x59)])) _
      refine st74.trans ?_
      refine XS.astore X74.here hx rfl (hb hby at_81) rfl rfl (l' := #[.val (.int nn), .val (.int q0), .val (.int q1), .val (.int q2), .val (.int q3), .val (.int q4), .val (.int (0 : Int32)), .val (.int x4), .val (.int x13), .val (.int x22), .val (.int x31), .val (.int x40), .val (.int x49), .val (.ref x59), .val .null, .unset, .unset]) rfl ?_
      refine XS.iload X74.here hx rfl (hb hby at_83) rfl ?_
      refine XS.iconst X74.here hx rfl (hb hby at_85) ?_
      refine XS.icmpYes X74.here hx rfl (pc0 := 86) (pc' := 117) rfl (hb hby at_86) rfl (feq ((by decide) : ¬ ((0 : Int32) = (4 : Int32)))).2 (by decide) (by decide) ?_
      refine XS.iload X74.here hx rfl (hb hby at_117) rfl ?_
      show Steps p.tables e below (T74.setTop (mkF m 119 #[.val (.int nn), .val (.int q0), .val (.int q1), .val (.int q2), .val (.int q3), .val (.int q4), .val (.int (0 : Int32)), .val (.int x4), .val (.int x13), .val (.int x22), .val (.int x31), .val (.int x40), .val (.int x49), .val (.ref x59), .val .null, .unset, .unset] [(.int (0 : Int32))])) _
      refine XS.iconst X74.here hx rfl (hb hby at_119) ?_
      refine XS.icmpYes X74.here hx rfl (pc0 := 120) (pc' := 134) rfl (hb hby at_120) rfl (feq ((by decide) : ¬ ((0 : Int32) = (1 : Int32)))).2 (by decide) (by decide) ?_
      refine XS.iconst X74.here hx rfl (hb hby at_134) ?_
      refine XS.istore X74.here hx rfl (hb hby at_135) rfl (l' := #[.val (.int nn), .val (.int q0), .val (.int q1), .val (.int q2), .val (.int q3), .val (.int q4), .val (.int (0 : Int32)), .val (.int x4), .val (.int x13), .val (.int x22), .val (.int x31), .val (.int x40), .val (.int x49), .val (.ref x59), .val .null, .val (.int (0 : Int32)), .unset]) rfl ?_
      refine XS.iload X74.here hx rfl (hb hby at_137) rfl ?_
      refine XS.iconst X74.here hx rfl (hb hby at_139) ?_
      show Steps p.tables e below (T74.setTop (mkF m 140 #[.val (.int nn), .val (.int q0), .val (.int q1), .val (.int q2), .val (.int q3), .val (.int q4), .val (.int (0 : Int32)), .val (.int x4), .val (.int x13), .val (.int x22), .val (.int x31), .val (.int x40), .val (.int x49), .val (.ref x59), .val .null, .val (.int (0 : Int32)), .unset] [(.int (5 : Int32)), (.int (0 : Int32))])) _
      refine XS.icmpYes X74.here hx rfl (pc0 := 140) (pc' := 178) rfl (hb hby at_140) rfl (feq ((by decide) : ¬ ((0 : Int32) = (5 : Int32)))).2 (by decide) (by decide) ?_
      refine XS.iload X74.here hx rfl (hb hby at_178) rfl ?_
      refine XS.iconst X74.here hx rfl (hb hby at_180) ?_
      refine XS.icmpYes X74.here hx rfl (pc0 := 181) (pc' := 195) rfl (hb hby at_181) rfl (feq ((by decide) : ¬ ((0 : Int32) = (1 : Int32)))).2 (by decide) (by decide) ?_
      refine XS.iconst X74.here hx rfl (hb hby at_195) ?_
      refine XS.istore X74.here hx rfl (hb hby at_196) rfl (l' := #[.val (.int nn), .val (.int q0), .val (.int q1), .val (.int q2), .val (.int q3), .val (.int q4), .val (.int (0 : Int32)), .val (.int x4), .val (.int x13), .val (.int x22), .val (.int x31), .val (.int x40), .val (.int x49), .val (.ref x59), .val .null, .val (.int (0 : Int32)), .val (.int (0 : Int32))]) rfl ?_
      show Steps p.tables e below (T74.setTop (mkF m 198 #[.val (.int nn), .val (.int q0), .val (.int q1), .val (.int q2), .val (.int q3), .val (.int q4), .val (.int (0 : Int32)), .val (.int x4), .val (.int x13), .val (.int x22), .val (.int x31), .val (.int x40), .val (.int x49), .val (.ref x59), .val .null, .val (.int (0 : Int32)), .val (.int (0 : Int32))] [])) _
      refine XS.iload X74.here hx rfl (hb hby at_198) rfl ?_
      refine XS.ifYes X74.here hx rfl (pc0 := 200) (pc' := 222) rfl (hb hby at_200) rfl ((if0 _ _).trans (teq ((by decide) : (0 : Int32) = (0 : Int32))).1) (by decide) (by decide) ?_
      refine XS.iload X74.here hx rfl (hb hby at_222) rfl ?_
      refine XS.ifYes X74.here hx rfl (pc0 := 224) (pc' := 246) rfl (hb hby at_224) rfl ((if0 _ _).trans (teq ((by decide) : (0 : Int32) = (0 : Int32))).1) (by decide) (by decide) ?_
      refine XS.aload X74.here hx rfl (hb hby at_246) rfl rfl ?_
      refine XS.ifnonnullNo X74.here hx rfl (hb hby at_248) rfl ?_
      show Steps p.tables e below (T74.setTop (mkF m 251 #[.val (.int nn), .val (.int q0), .val (.int q1), .val (.int q2), .val (.int q3), .val (.int q4), .val (.int (0 : Int32)), .val (.int x4), .val (.int x13), .val (.int x22), .val (.int x31), .val (.int x40), .val (.int x49), .val (.ref x59), .val .null, .val (.int (0 : Int32)), .val (.int (0 : Int32))] [])) _
      refine XS.iconst X74.here hx rfl (hb hby at_251) ?_
      refine XS.goto X74.here hx rfl (pc0 := 252) (pc' := 256) rfl (hb hby at_252) (by decide) (by decide) ?_
      exact kt
    obtain ⟨fs, hr, hrun, hended, hRW⟩ := X74.leaveW hS74 (by exact hk79) (v := some (.int (1 : Int32))) (fun h => by rw [Bd.returns] at h; cases h)
    refine ⟨_, _, pre0 _ (S81 _ ?_), hrun, hended, _, _, rfl, ?_, ?_, hRW.1, hRW.2.1, hRW.2.2.1, hRW.2.2.2.mono (by decide) (by decide)⟩
    · exact retN X74 hx (t := .boolean) Bd.returns (by simp) (hb hby at_256) hr
    · show Q_rm_law Z nn q0 q1 q2 q3 q4 zc fm wT wF h0 n0 _ T74.heap _
      exact ⟨rfl, N77⟩
    · show CHr Z own_EL s.vm s.heap T74.vm T74.heap
      rw [hh]
      exact CR78.trans (CHv.at X74 hZ74 own_ew CR78.1)
  · obtain ⟨_, _, ⟨T82, L82, k82, n82⟩, -, X82, ⟨Lc82, hQ82, l82, y82, z82⟩, st82⟩ := Jvm.LawKit.callS X48 hx (y := (⟨"com/example/pico_notify/piconotify/XmlBoolPinLaw", "str", "(ICCCCCC)Ljava/lang/String;"⟩ : MethodName)) ho48 (mvT hZ48 (own_w hw 37 rfl)) (mvT hZ48 (own_w hw 38 rfl)) (mvT hZ48 (own_w hw 2 rfl)) (mvT hZ48 (own_w hw 39 rfl)) (by decide) (backOf (W := 0) (rm_str1 l Z a0 hw [] x4 x13 x22 x31 x40 x49 zc T48.heap n0 O56 c5 c14 c23 c32 c41 c50 S_C hzc) hZ48 (own_w hw 39 rfl) (own_w hw 2 rfl) (by decide) (by decide)) (g := (mkF m 71 #[.val (.int nn), .val (.int q0), .val (.int q1), .val (.int q2), .val (.int q3), .val (.int q4), .val (.int (1 : Int32)), .val (.int x4), .val (.int x13), .val (.int x22), .val (.int x31), .val (.int x40), .val (.int x49), .unset, .unset, .unset, .unset] [(.int x49), (.int x40), (.int x31), (.int x22), (.int x13), (.int x4), (.int (1 : Int32))])) rfl (by rw [hml]; rfl) (argsL := [(.int (1 : Int32)), (.int x4), (.int x13), (.int x22), (.int x31), (.int x40), (.int x49)]) (rest := []) (lenOf pd_4 rfl) rfl (by show 2 * 0 + _ ≤ _; exact Nat.le_of_eq rfl) (hb hby at_71) (fun _ _ => ⟨rfl, rfl, (by decide : 12 + 3 ≤ _), (by decide : 264 + 6 ≤ _)⟩)
    dsimp only [Pt.U, Pt.locs, Pt.cells, Pt.slots] at X82 l82 y82 z82 st82 hQ82
    subst l82 y82 z82
    obtain ⟨x83, x84, x85, rfl, N86, k87, f88, f89, f90, f91, f92⟩ := hQ82
    have N93 := Fr.app N53 N86
    have ge94 : n0 ≤ x83 := by rw [← O56.1]; exact Nat.le_trans O56.2.1 f88
    have CR95 := CR54.trans (CHr.keep k87 sf0 CR54.1)
    have hk96 := Nat.le_trans hk55 k87.1
    have O97 := O56.keep k87 all0
    obtain ⟨_, _, ⟨T98, L98, k98, n98⟩, -, Xq98, hSq98, hgq98, ⟨Lc98, hQ98, l98, y98, z98, C98⟩, st98⟩ := callSS X82 hx (y := (⟨"com/example/pico_notify/piconotify/Xml", "bool", "(Ljava/lang/String;)Ljava/lang/Boolean;"⟩ : MethodName)) ho48 (mvT hZ48 (own_w hw 53 rfl)) (mvT hZ48 (own_w hw 54 rfl)) (mvT hZ48 (own_w hw 55 rfl)) (mvT hZ48 (own_w hw 56 rfl)) (by decide) (own_backS (W := 0) (rm := ({ frames := 2, cells := 8, slots := 60, locals := 28 } : Room)) (xs := []) (rm_bool1 l Z a0 hw [] x83 x84 x85 x4 zc wT wF T82.heap n0 O97 f89 f90 f91 f92 c5 S_C hzc S_T S_F0) hZ48 (own_w hw 56 rfl) (own_w hw 55 rfl) (by decide) (by decide) own_ew CR95.1 all0) (g := (mkF m 78 #[.val (.int nn), .val (.int q0), .val (.int q1), .val (.int q2), .val (.int q3), .val (.int q4), .val (.int (1 : Int32)), .val (.int x4), .val (.int x13), .val (.int x22), .val (.int x31), .val (.int x40), .val (.int x49), .val (.ref x83), .unset, .unset, .unset] [(.ref x83)])) rfl (by rw [hml]; rfl) (argsL := [(.ref x83)]) (rest := []) (lenOf pd_5 rfl) rfl (by show 2 * 0 + _ ≤ _; exact Nat.le_of_eq rfl) (hb hby at_78) (fun _ _ => ⟨rfl, rfl, (by decide : 15 + 8 ≤ _), (by decide : 270 + 60 ≤ _)⟩)
    dsimp only [Pt.U, Pt.locs, Pt.cells, Pt.slots] at Xq98 hSq98 hgq98 l98 y98 z98 st98 hQ98 C98
    obtain ⟨X98, hS98, hZ98, ho98⟩ := rebS hS48 (by exact hk96) Xq98 hSq98 hgq98 hZ48 ho48
    subst l98 y98 z98
    rcases hQ98 with ⟨c99, rfl, N100, k101⟩ | ⟨c102, c103, rfl, N104, k105⟩ | ⟨c106, c107, rfl, N108, k109⟩
    · have N110 := Fr.app N93 N100
      have CR111 := CR95.trans C98
      have hk112 : T98.heap.size ≤ T98.heap.size := Nat.le_refl _
      have O113 := O97.keep k101 all0
      have c114 : x4 = (49 : Int32) := congrArg (fun l => l.getD 0 0) c99.symm
      have c115 : ([x4] : List Int32) = [(49 : Int32)] := c99.symm
      obtain ⟨cq116, kq116, q116a, q116b, q116c⟩ := isOf hZ98 rfl (E_T.ext O113.2)
      obtain ⟨_, _, ⟨T116, L116, k116, n116⟩, -, X116, ⟨Lc116, hQ116, l116, y116, z116⟩, st116⟩ := X98.virtualBack hx (y := (⟨"java/lang/Boolean", "booleanValue", "()Z"⟩ : MethodName)) (z := (⟨"java/lang/Boolean", "booleanValue", "()Z"⟩ : MethodName)) ho98 (mvT hZ98 (own_w hw 82 rfl)) (mvT hZ98 (own_w hw 83 rfl)) (notFace_of_selects (args := #[]) (mvT hZ98 (own_w hw 85 rfl))) (mvT hZ98 (own_w hw 85 rfl)) (mvT hZ98 (own_w hw 84 rfl)) (by decide) (backOf (W := 0) (rm_bv1 l Z a0 hw [] wT T98.heap n0 O113 V_T) hZ98 (own_w hw 86 rfl) (own_w hw 81 rfl) (by decide) (by decide)) q116a q116c (g := (mkF m 210 #[.val (.int nn), .val (.int q0), .val (.int q1), .val (.int q2), .val (.int q3), .val (.int q4), .val (.int (1 : Int32)), .val (.int x4), .val (.int x13), .val (.int x22), .val (.int x31), .val (.int x40), .val (.int x49), .val (.ref x83), .val (.ref wT), .val (.int (1 : Int32)), .val (.int (0 : Int32))] [(.ref wT)])) rfl (by rw [hml]; rfl) (Steps.refl _) (argsL := []) (rest := []) (lenOf pd_6 rfl) rfl (by show 2 * 0 + _ ≤ _; exact Nat.le_of_eq rfl) (hb hby at_210) (fun _ _ => ⟨rfl, rfl, (by decide : 23 + 0 ≤ _), (by decide : 330 + 0 ≤ _)⟩)
      dsimp only [Pt.U, Pt.locs, Pt.cells, Pt.slots] at X116 l116 y116 z116 st116 hQ116
      subst l116 y116 z116
      obtain ⟨rfl, N117, k118⟩ := hQ116
      have N119 := Fr.app N110 N117
      have S120 : ∀ t, Steps p.tables e below (T116.setTop (mkF m 221 #[.val (.int nn), .val (.int q0), .val (.int q1), .val (.int q2), .val (.int q3), .val (.int q4), .val (.int (1 : Int32)), .val (.int x4), .val (.int x13), .val (.int x22), .val (.int x31), .val (.int x40), .val (.int x49), .val (.ref x83), .val (.ref wT), .val (.int (1 : Int32)), .val (.int (0 : Int32))] [(.int (1 : Int32))])) t → Steps p.tables e below (s₁.setTop (mkF m 0 #[.val (.int nn), .val (.int q0), .val (.int q1), .val (.int q2), .val (.int q3), .val (.int q4), .unset, .unset, .unset, .unset, .unset, .unset, .unset, .unset, .unset, .unset, .unset] [])) t := by
        intro t kt
        refine S57 t ?_
        refine XS.iload X48.here hx rfl (hb hby at_46) rfl ?_
        refine XS.bipush X48.here hx rfl (hb hby at_48) ?_
        refine XS.icmpYes X48.here hx rfl (pc0 := 50) (pc' := 57) rfl (hb hby at_50) rfl (feq ((by decide) : ¬ ((1 : Int32) = (7 : Int32)))).2 (by decide) (by decide) ?_
        refine XS.iload X48.here hx rfl (hb hby at_57) rfl ?_
        refine XS.iload X48.here hx rfl (hb hby at_59) rfl ?_
        refine XS.iload X48.here hx rfl (hb hby at_61) rfl ?_
        show Steps p.tables e below (T48.setTop (mkF m 63 #[.val (.int nn), .val (.int q0), .val (.int q1), .val (.int q2), .val (.int q3), .val (.int q4), .val (.int (1 : Int32)), .val (.int x4), .val (.int x13), .val (.int x22), .val (.int x31), .val (.int x40), .val (.int x49), .unset, .unset, .unset, .unset] [(.int x13), (.int x4), (.int (1 : Int32))])) _
        refine XS.iload X48.here hx rfl (hb hby at_63) rfl ?_
        refine XS.iload X48.here hx rfl (hb hby at_65) rfl ?_
        refine XS.iload X48.here hx rfl (hb hby at_67) rfl ?_
        refine XS.iload X48.here hx rfl (hb hby at_69) rfl ?_
        show Steps p.tables e below (T48.setTop (mkF m 71 #[.val (.int nn), .val (.int q0), .val (.int q1), .val (.int q2), .val (.int q3), .val (.int q4), .val (.int (1 : Int32)), .val (.int x4), .val (.int x13), .val (.int x22), .val (.int x31), .val (.int x40), .val (.int x49), .unset, .unset, .unset, .unset] [(.int x49), (.int x40), (.int x31), (.int x22), (.int x13), (.int x4), (.int (1 : Int32))])) _
        refine st82 _ ?_
        refine XS.astore X82.here hx rfl (hb hby at_74) rfl rfl (l' := #[.val (.int nn), .val (.int q0), .val (.int q1), .val (.int q2), .val (.int q3), .val (.int q4), .val (.int (1 : Int32)), .val (.int x4), .val (.int x13), .val (.int x22), .val (.int x31), .val (.int x40), .val (.int x49), .val (.ref x83), .unset, .unset, .unset]) rfl ?_
        refine XS.aload X82.here hx rfl (hb hby at_76) rfl rfl ?_
        show Steps p.tables e below (T82.setTop (mkF m 78 #[.val (.int nn), .val (.int q0), .val (.int q1), .val (.int q2), .val (.int q3), .val (.int q4), .val (.int (1 : Int32)), .val (.int x4), .val (.int x13), .val (.int x22), .val (.int x31), .val (.int x40), .val (.int x49), .val (.ref x83), .unset, .unset, .unset] [(.ref x83)])) _
        refine st98.trans ?_
        refine XS.astore X98.here hx rfl (hb hby at_81) rfl rfl (l' := #[.val (.int nn), .val (.int q0), .val (.int q1), .val (.int q2), .val (.int q3), .val (.int q4), .val (.int (1 : Int32)), .val (.int x4), .val (.int x13), .val (.int x22), .val (.int x31), .val (.int x40), .val (.int x49), .val (.ref x83), .val (.ref wT), .unset, .unset]) rfl ?_
        refine XS.iload X98.here hx rfl (hb hby at_83) rfl ?_
        refine XS.iconst X98.here hx rfl (hb hby at_85) ?_
        refine XS.icmpYes X98.here hx rfl (pc0 := 86) (pc' := 117) rfl (hb hby at_86) rfl (feq ((by decide) : ¬ ((1 : Int32) = (4 : Int32)))).2 (by decide) (by decide) ?_
        refine XS.iload X98.here hx rfl (hb hby at_117) rfl ?_
        show Steps p.tables e below (T98.setTop (mkF m 119 #[.val (.int nn), .val (.int q0), .val (.int q1), .val (.int q2), .val (.int q3), .val (.int q4), .val (.int (1 : Int32)), .val (.int x4), .val (.int x13), .val (.int x22), .val (.int x31), .val (.int x40), .val (.int x49), .val (.ref x83), .val (.ref wT), .unset, .unset] [(.int (1 : Int32))])) _
        refine XS.iconst X98.here hx rfl (hb hby at_119) ?_
        refine XS.icmpNo X98.here hx rfl (hb hby at_120) rfl (teq ((by decide) : (1 : Int32) = (1 : Int32))).2 ?_
        refine XS.iload X98.here hx rfl (hb hby at_123) rfl ?_
        refine XS.bipush X98.here hx rfl (hb hby at_125) ?_
        refine XS.icmpNo X98.here hx rfl (hb hby at_127) rfl (teq (c114 : x4 = (49 : Int32))).2 ?_
        refine XS.iconst X98.here hx rfl (hb hby at_130) ?_
        show Steps p.tables e below (T98.setTop (mkF m 131 #[.val (.int nn), .val (.int q0), .val (.int q1), .val (.int q2), .val (.int q3), .val (.int q4), .val (.int (1 : Int32)), .val (.int x4), .val (.int x13), .val (.int x22), .val (.int x31), .val (.int x40), .val (.int x49), .val (.ref x83), .val (.ref wT), .unset, .unset] [(.int (1 : Int32))])) _
        refine XS.goto X98.here hx rfl (pc0 := 131) (pc' := 135) rfl (hb hby at_131) (by decide) (by decide) ?_
        refine XS.istore X98.here hx rfl (hb hby at_135) rfl (l' := #[.val (.int nn), .val (.int q0), .val (.int q1), .val (.int q2), .val (.int q3), .val (.int q4), .val (.int (1 : Int32)), .val (.int x4), .val (.int x13), .val (.int x22), .val (.int x31), .val (.int x40), .val (.int x49), .val (.ref x83), .val (.ref wT), .val (.int (1 : Int32)), .unset]) rfl ?_
        refine XS.iload X98.here hx rfl (hb hby at_137) rfl ?_
        refine XS.iconst X98.here hx rfl (hb hby at_139) ?_
        refine XS.icmpYes X98.here hx rfl (pc0 := 140) (pc' := 178) rfl (hb hby at_140) rfl (feq ((by decide) : ¬ ((1 : Int32) = (5 : Int32)))).2 (by decide) (by decide) ?_
        refine XS.iload X98.here hx rfl (hb hby at_178) rfl ?_
        show Steps p.tables e below (T98.setTop (mkF m 180 #[.val (.int nn), .val (.int q0), .val (.int q1), .val (.int q2), .val (.int q3), .val (.int q4), .val (.int (1 : Int32)), .val (.int x4), .val (.int x13), .val (.int x22), .val (.int x31), .val (.int x40), .val (.int x49), .val (.ref x83), .val (.ref wT), .val (.int (1 : Int32)), .unset] [(.int (1 : Int32))])) _
        refine XS.iconst X98.here hx rfl (hb hby at_180) ?_
        refine XS.icmpNo X98.here hx rfl (hb hby at_181) rfl (teq ((by decide) : (1 : Int32) = (1 : Int32))).2 ?_
        refine XS.iload X98.here hx rfl (hb hby at_184) rfl ?_
        refine XS.bipush X98.here hx rfl (hb hby at_186) ?_
        refine XS.icmpYes X98.here hx rfl (pc0 := 188) (pc' := 195) rfl (hb hby at_188) rfl (feq ((by rw [c114] <;> decide) : ¬ (x4 = (48 : Int32)))).2 (by decide) (by decide) ?_
        refine XS.iconst X98.here hx rfl (hb hby at_195) ?_
        show Steps p.tables e below (T98.setTop (mkF m 196 #[.val (.int nn), .val (.int q0), .val (.int q1), .val (.int q2), .val (.int q3), .val (.int q4), .val (.int (1 : Int32)), .val (.int x4), .val (.int x13), .val (.int x22), .val (.int x31), .val (.int x40), .val (.int x49), .val (.ref x83), .val (.ref wT), .val (.int (1 : Int32)), .unset] [(.int (0 : Int32))])) _
        refine XS.istore X98.here hx rfl (hb hby at_196) rfl (l' := #[.val (.int nn), .val (.int q0), .val (.int q1), .val (.int q2), .val (.int q3), .val (.int q4), .val (.int (1 : Int32)), .val (.int x4), .val (.int x13), .val (.int x22), .val (.int x31), .val (.int x40), .val (.int x49), .val (.ref x83), .val (.ref wT), .val (.int (1 : Int32)), .val (.int (0 : Int32))]) rfl ?_
        refine XS.iload X98.here hx rfl (hb hby at_198) rfl ?_
        refine XS.ifNo X98.here hx rfl (hb hby at_200) rfl ((if0 _ _).trans (feq ((by decide) : ¬ ((1 : Int32) = (0 : Int32)))).1) ?_
        refine XS.aload X98.here hx rfl (hb hby at_203) rfl rfl ?_
        refine XS.ifnullNo X98.here hx rfl (hb hby at_205) rfl ?_
        refine XS.aload X98.here hx rfl (hb hby at_208) rfl rfl ?_
        show Steps p.tables e below (T98.setTop (mkF m 210 #[.val (.int nn), .val (.int q0), .val (.int q1), .val (.int q2), .val (.int q3), .val (.int q4), .val (.int (1 : Int32)), .val (.int x4), .val (.int x13), .val (.int x22), .val (.int x31), .val (.int x40), .val (.int x49), .val (.ref x83), .val (.ref wT), .val (.int (1 : Int32)), .val (.int (0 : Int32))] [(.ref wT)])) _
        refine st116.trans ?_
        refine XS.ifNo X116.here hx rfl (hb hby at_213) rfl ((if0 _ _).trans (feq ((by decide) : ¬ ((1 : Int32) = (0 : Int32)))).1) ?_
        refine XS.iconst X116.here hx rfl (hb hby at_216) ?_
        refine XS.goto X116.here hx rfl (pc0 := 217) (pc' := 221) rfl (hb hby at_217) (by decide) (by decide) ?_
        exact kt
      obtain ⟨fs, hr, hrun, hended, hRW⟩ := X116.leaveW hS98 (by rw [k118]; exact hk112) (v := some (.int (1 : Int32))) (fun h => by rw [Bd.returns] at h; cases h)
      refine ⟨_, _, pre0 _ (S120 _ ?_), hrun, hended, _, _, rfl, ?_, ?_, hRW.1, hRW.2.1, hRW.2.2.1, hRW.2.2.2.mono (by decide) (by decide)⟩
      · exact retN X116 hx (t := .boolean) Bd.returns (by simp) (hb hby at_221) hr
      · show Q_rm_law Z nn q0 q1 q2 q3 q4 zc fm wT wF h0 n0 _ T116.heap _
        rw [k118]
        exact ⟨rfl, N119⟩
      · show CHr Z own_EL s.vm s.heap T116.vm T116.heap
        rw [hh, k118]
        exact CR111.trans (CHv.at X116 hZ98 own_ew CR111.1)
    · have N121 := Fr.app N93 N104
      have CR122 := CR95.trans C98
      have hk123 : T98.heap.size ≤ T98.heap.size := Nat.le_refl _
      have O124 := O97.keep k105 all0
      have c125 : ¬ (x4 = (49 : Int32)) := fun q => c102 (by rw [q])
      have c126 : x4 = (48 : Int32) := congrArg (fun l => l.getD 0 0) c103.symm
      have c127 : ([x4] : List Int32) = [(48 : Int32)] := c103.symm
      obtain ⟨cq128, kq128, q128a, q128b, q128c⟩ := isOf hZ98 rfl (E_F.ext O124.2)
      obtain ⟨_, _, ⟨T128, L128, k128, n128⟩, -, X128, ⟨Lc128, hQ128, l128, y128, z128⟩, st128⟩ := X98.virtualBack hx (y := (⟨"java/lang/Boolean", "booleanValue", "()Z"⟩ : MethodName)) (z := (⟨"java/lang/Boolean", "booleanValue", "()Z"⟩ : MethodName)) ho98 (mvT hZ98 (own_w hw 82 rfl)) (mvT hZ98 (own_w hw 83 rfl)) (notFace_of_selects (args := #[]) (mvT hZ98 (own_w hw 85 rfl))) (mvT hZ98 (own_w hw 85 rfl)) (mvT hZ98 (own_w hw 84 rfl)) (by decide) (backOf (W := 0) (rm_bv0 l Z a0 hw [] wF T98.heap n0 O124 V_F) hZ98 (own_w hw 86 rfl) (own_w hw 81 rfl) (by decide) (by decide)) q128a q128c (g := (mkF m 234 #[.val (.int nn), .val (.int q0), .val (.int q1), .val (.int q2), .val (.int q3), .val (.int q4), .val (.int (1 : Int32)), .val (.int x4), .val (.int x13), .val (.int x22), .val (.int x31), .val (.int x40), .val (.int x49), .val (.ref x83), .val (.ref wF), .val (.int (0 : Int32)), .val (.int (1 : Int32))] [(.ref wF)])) rfl (by rw [hml]; rfl) (Steps.refl _) (argsL := []) (rest := []) (lenOf pd_6 rfl) rfl (by show 2 * 0 + _ ≤ _; exact Nat.le_of_eq rfl) (hb hby at_234) (fun _ _ => ⟨rfl, rfl, (by decide : 23 + 0 ≤ _), (by decide : 330 + 0 ≤ _)⟩)
      dsimp only [Pt.U, Pt.locs, Pt.cells, Pt.slots] at X128 l128 y128 z128 st128 hQ128
      subst l128 y128 z128
      obtain ⟨rfl, N129, k130⟩ := hQ128
      have N131 := Fr.app N121 N129
      have S132 : ∀ t, Steps p.tables e below (T128.setTop (mkF m 245 #[.val (.int nn), .val (.int q0), .val (.int q1), .val (.int q2), .val (.int q3), .val (.int q4), .val (.int (1 : Int32)), .val (.int x4), .val (.int x13), .val (.int x22), .val (.int x31), .val (.int x40), .val (.int x49), .val (.ref x83), .val (.ref wF), .val (.int (0 : Int32)), .val (.int (1 : Int32))] [(.int (1 : Int32))])) t → Steps p.tables e below (s₁.setTop (mkF m 0 #[.val (.int nn), .val (.int q0), .val (.int q1), .val (.int q2), .val (.int q3), .val (.int q4), .unset, .unset, .unset, .unset, .unset, .unset, .unset, .unset, .unset, .unset, .unset] [])) t := by
        intro t kt
        refine S57 t ?_
        refine XS.iload X48.here hx rfl (hb hby at_46) rfl ?_
        refine XS.bipush X48.here hx rfl (hb hby at_48) ?_
        refine XS.icmpYes X48.here hx rfl (pc0 := 50) (pc' := 57) rfl (hb hby at_50) rfl (feq ((by decide) : ¬ ((1 : Int32) = (7 : Int32)))).2 (by decide) (by decide) ?_
        refine XS.iload X48.here hx rfl (hb hby at_57) rfl ?_
        refine XS.iload X48.here hx rfl (hb hby at_59) rfl ?_
        refine XS.iload X48.here hx rfl (hb hby at_61) rfl ?_
        show Steps p.tables e below (T48.setTop (mkF m 63 #[.val (.int nn), .val (.int q0), .val (.int q1), .val (.int q2), .val (.int q3), .val (.int q4), .val (.int (1 : Int32)), .val (.int x4), .val (.int x13), .val (.int x22), .val (.int x31), .val (.int x40), .val (.int x49), .unset, .unset, .unset, .unset] [(.int x13), (.int x4), (.int (1 : Int32))])) _
        refine XS.iload X48.here hx rfl (hb hby at_63) rfl ?_
        refine XS.iload X48.here hx rfl (hb hby at_65) rfl ?_
        refine XS.iload X48.here hx rfl (hb hby at_67) rfl ?_
        refine XS.iload X48.here hx rfl (hb hby at_69) rfl ?_
        show Steps p.tables e below (T48.setTop (mkF m 71 #[.val (.int nn), .val (.int q0), .val (.int q1), .val (.int q2), .val (.int q3), .val (.int q4), .val (.int (1 : Int32)), .val (.int x4), .val (.int x13), .val (.int x22), .val (.int x31), .val (.int x40), .val (.int x49), .unset, .unset, .unset, .unset] [(.int x49), (.int x40), (.int x31), (.int x22), (.int x13), (.int x4), (.int (1 : Int32))])) _
        refine st82 _ ?_
        refine XS.astore X82.here hx rfl (hb hby at_74) rfl rfl (l' := #[.val (.int nn), .val (.int q0), .val (.int q1), .val (.int q2), .val (.int q3), .val (.int q4), .val (.int (1 : Int32)), .val (.int x4), .val (.int x13), .val (.int x22), .val (.int x31), .val (.int x40), .val (.int x49), .val (.ref x83), .unset, .unset, .unset]) rfl ?_
        refine XS.aload X82.here hx rfl (hb hby at_76) rfl rfl ?_
        show Steps p.tables e below (T82.setTop (mkF m 78 #[.val (.int nn), .val (.int q0), .val (.int q1), .val (.int q2), .val (.int q3), .val (.int q4), .val (.int (1 : Int32)), .val (.int x4), .val (.int x13), .val (.int x22), .val (.int x31), .val (.int x40), .val (.int x49), .val (.ref x83), .unset, .unset, .unset] [(.ref x83)])) _
        refine st98.trans ?_
        refine XS.astore X98.here hx rfl (hb hby at_81) rfl rfl (l' := #[.val (.int nn), .val (.int q0), .val (.int q1), .val (.int q2), .val (.int q3), .val (.int q4), .val (.int (1 : Int32)), .val (.int x4), .val (.int x13), .val (.int x22), .val (.int x31), .val (.int x40), .val (.int x49), .val (.ref x83), .val (.ref wF), .unset, .unset]) rfl ?_
        refine XS.iload X98.here hx rfl (hb hby at_83) rfl ?_
        refine XS.iconst X98.here hx rfl (hb hby at_85) ?_
        refine XS.icmpYes X98.here hx rfl (pc0 := 86) (pc' := 117) rfl (hb hby at_86) rfl (feq ((by decide) : ¬ ((1 : Int32) = (4 : Int32)))).2 (by decide) (by decide) ?_
        refine XS.iload X98.here hx rfl (hb hby at_117) rfl ?_
        show Steps p.tables e below (T98.setTop (mkF m 119 #[.val (.int nn), .val (.int q0), .val (.int q1), .val (.int q2), .val (.int q3), .val (.int q4), .val (.int (1 : Int32)), .val (.int x4), .val (.int x13), .val (.int x22), .val (.int x31), .val (.int x40), .val (.int x49), .val (.ref x83), .val (.ref wF), .unset, .unset] [(.int (1 : Int32))])) _
        refine XS.iconst X98.here hx rfl (hb hby at_119) ?_
        refine XS.icmpNo X98.here hx rfl (hb hby at_120) rfl (teq ((by decide) : (1 : Int32) = (1 : Int32))).2 ?_
        refine XS.iload X98.here hx rfl (hb hby at_123) rfl ?_
        refine XS.bipush X98.here hx rfl (hb hby at_125) ?_
        refine XS.icmpYes X98.here hx rfl (pc0 := 127) (pc' := 134) rfl (hb hby at_127) rfl (feq (c125 : ¬ (x4 = (49 : Int32)))).2 (by decide) (by decide) ?_
        refine XS.iconst X98.here hx rfl (hb hby at_134) ?_
        show Steps p.tables e below (T98.setTop (mkF m 135 #[.val (.int nn), .val (.int q0), .val (.int q1), .val (.int q2), .val (.int q3), .val (.int q4), .val (.int (1 : Int32)), .val (.int x4), .val (.int x13), .val (.int x22), .val (.int x31), .val (.int x40), .val (.int x49), .val (.ref x83), .val (.ref wF), .unset, .unset] [(.int (0 : Int32))])) _
        refine XS.istore X98.here hx rfl (hb hby at_135) rfl (l' := #[.val (.int nn), .val (.int q0), .val (.int q1), .val (.int q2), .val (.int q3), .val (.int q4), .val (.int (1 : Int32)), .val (.int x4), .val (.int x13), .val (.int x22), .val (.int x31), .val (.int x40), .val (.int x49), .val (.ref x83), .val (.ref wF), .val (.int (0 : Int32)), .unset]) rfl ?_
        refine XS.iload X98.here hx rfl (hb hby at_137) rfl ?_
        refine XS.iconst X98.here hx rfl (hb hby at_139) ?_
        refine XS.icmpYes X98.here hx rfl (pc0 := 140) (pc' := 178) rfl (hb hby at_140) rfl (feq ((by decide) : ¬ ((1 : Int32) = (5 : Int32)))).2 (by decide) (by decide) ?_
        refine XS.iload X98.here hx rfl (hb hby at_178) rfl ?_
        refine XS.iconst X98.here hx rfl (hb hby at_180) ?_
        show Steps p.tables e below (T98.setTop (mkF m 181 #[.val (.int nn), .val (.int q0), .val (.int q1), .val (.int q2), .val (.int q3), .val (.int q4), .val (.int (1 : Int32)), .val (.int x4), .val (.int x13), .val (.int x22), .val (.int x31), .val (.int x40), .val (.int x49), .val (.ref x83), .val (.ref wF), .val (.int (0 : Int32)), .unset] [(.int (1 : Int32)), (.int (1 : Int32))])) _
        refine XS.icmpNo X98.here hx rfl (hb hby at_181) rfl (teq ((by decide) : (1 : Int32) = (1 : Int32))).2 ?_
        refine XS.iload X98.here hx rfl (hb hby at_184) rfl ?_
        refine XS.bipush X98.here hx rfl (hb hby at_186) ?_
        refine XS.icmpNo X98.here hx rfl (hb hby at_188) rfl (teq (c126 : x4 = (48 : Int32))).2 ?_
        refine XS.iconst X98.here hx rfl (hb hby at_191) ?_
        refine XS.goto X98.here hx rfl (pc0 := 192) (pc' := 196) rfl (hb hby at_192) (by decide) (by decide) ?_
        show Steps p.tables e below (T98.setTop (mkF m 196 #[.val (.int nn), .val (.int q0), .val (.int q1), .val (.int q2), .val (.int q3), .val (.int q4), .val (.int (1 : Int32)), .val (.int x4), .val (.int x13), .val (.int x22), .val (.int x31), .val (.int x40), .val (.int x49), .val (.ref x83), .val (.ref wF), .val (.int (0 : Int32)), .unset] [(.int (1 : Int32))])) _
        refine XS.istore X98.here hx rfl (hb hby at_196) rfl (l' := #[.val (.int nn), .val (.int q0), .val (.int q1), .val (.int q2), .val (.int q3), .val (.int q4), .val (.int (1 : Int32)), .val (.int x4), .val (.int x13), .val (.int x22), .val (.int x31), .val (.int x40), .val (.int x49), .val (.ref x83), .val (.ref wF), .val (.int (0 : Int32)), .val (.int (1 : Int32))]) rfl ?_
        refine XS.iload X98.here hx rfl (hb hby at_198) rfl ?_
        refine XS.ifYes X98.here hx rfl (pc0 := 200) (pc' := 222) rfl (hb hby at_200) rfl ((if0 _ _).trans (teq ((by decide) : (0 : Int32) = (0 : Int32))).1) (by decide) (by decide) ?_
        refine XS.iload X98.here hx rfl (hb hby at_222) rfl ?_
        refine XS.ifNo X98.here hx rfl (hb hby at_224) rfl ((if0 _ _).trans (feq ((by decide) : ¬ ((1 : Int32) = (0 : Int32)))).1) ?_
        refine XS.aload X98.here hx rfl (hb hby at_227) rfl rfl ?_
        show Steps p.tables e below (T98.setTop (mkF m 229 #[.val (.int nn), .val (.int q0), .val (.int q1), .val (.int q2), .val (.int q3), .val (.int q4), .val (.int (1 : Int32)), .val (.int x4), .val (.int x13), .val (.int x22), .val (.int x31), .val (.int x40), .val (.int x49), .val (.ref x83), .val (.ref wF), .val (.int (0 : Int32)), .val (.int (1 : Int32))] [(.ref wF)])) _
        refine XS.ifnullNo X98.here hx rfl (hb hby at_229) rfl ?_
        refine XS.aload X98.here hx rfl (hb hby at_232) rfl rfl ?_
        show Steps p.tables e below (T98.setTop (mkF m 234 #[.val (.int nn), .val (.int q0), .val (.int q1), .val (.int q2), .val (.int q3), .val (.int q4), .val (.int (1 : Int32)), .val (.int x4), .val (.int x13), .val (.int x22), .val (.int x31), .val (.int x40), .val (.int x49), .val (.ref x83), .val (.ref wF), .val (.int (0 : Int32)), .val (.int (1 : Int32))] [(.ref wF)])) _
        refine st128.trans ?_
        refine XS.ifNo X128.here hx rfl (hb hby at_237) rfl ((if0 _ _).trans (teq ((by decide) : (0 : Int32) = (0 : Int32))).2) ?_
        refine XS.iconst X128.here hx rfl (hb hby at_240) ?_
        refine XS.goto X128.here hx rfl (pc0 := 241) (pc' := 245) rfl (hb hby at_241) (by decide) (by decide) ?_
        exact kt
      obtain ⟨fs, hr, hrun, hended, hRW⟩ := X128.leaveW hS98 (by rw [k130]; exact hk123) (v := some (.int (1 : Int32))) (fun h => by rw [Bd.returns] at h; cases h)
      refine ⟨_, _, pre0 _ (S132 _ ?_), hrun, hended, _, _, rfl, ?_, ?_, hRW.1, hRW.2.1, hRW.2.2.1, hRW.2.2.2.mono (by decide) (by decide)⟩
      · exact retN X128 hx (t := .boolean) Bd.returns (by simp) (hb hby at_245) hr
      · show Q_rm_law Z nn q0 q1 q2 q3 q4 zc fm wT wF h0 n0 _ T128.heap _
        rw [k130]
        exact ⟨rfl, N131⟩
      · show CHr Z own_EL s.vm s.heap T128.vm T128.heap
        rw [hh, k130]
        exact CR122.trans (CHv.at X128 hZ98 own_ew CR122.1)
    · have N133 := Fr.app N93 N108
      have CR134 := CR95.trans C98
      have hk135 : T98.heap.size ≤ T98.heap.size := Nat.le_refl _
      have O136 := O97.keep k109 all0
      have c137 : ¬ (x4 = (49 : Int32)) := fun q => c106 (by rw [q])
      have c138 : ¬ (x4 = (48 : Int32)) := fun q => c107 (by rw [q])
      have S139 : ∀ t, Steps p.tables e below (T98.setTop (mkF m 256 #[.val (.int nn), .val (.int q0), .val (.int q1), .val (.int q2), .val (.int q3), .val (.int q4), .val (.int (1 : Int32)), .val (.int x4), .val (.int x13), .val (.int x22), .val (.int x31), .val (.int x40), .val (.int x49), .val (.ref x83), .val .null, .val (.int (0 : Int32)), .val (.int (0 : Int32))] [(.int (1 : Int32))])) t → Steps p.tables e below (s₁.setTop (mkF m 0 #[.val (.int nn), .val (.int q0), .val (.int q1), .val (.int q2), .val (.int q3), .val (.int q4), .unset, .unset, .unset, .unset, .unset, .unset, .unset, .unset, .unset, .unset, .unset] [])) t := by
        intro t kt
        refine S57 t ?_
        refine XS.iload X48.here hx rfl (hb hby at_46) rfl ?_
        refine XS.bipush X48.here hx rfl (hb hby at_48) ?_
        refine XS.icmpYes X48.here hx rfl (pc0 := 50) (pc' := 57) rfl (hb hby at_50) rfl (feq ((by decide) : ¬ ((1 : Int32) = (7 : Int32)))).2 (by decide) (by decide) ?_
        refine XS.iload X48.here hx rfl (hb hby at_57) rfl ?_
        refine XS.iload X48.here hx rfl (hb hby at_59) rfl ?_
        refine XS.iload X48.here hx rfl (hb hby at_61) rfl ?_
        show Steps p.tables e below (T48.setTop (mkF m 63 #[.val (.int nn), .val (.int q0), .val (.int q1), .val (.int q2), .val (.int q3), .val (.int q4), .val (.int (1 : Int32)), .val (.int x4), .val (.int x13), .val (.int x22), .val (.int x31), .val (.int x40), .val (.int x49), .unset, .unset, .unset, .unset] [(.int x13), (.int x4), (.int (1 : Int32))])) _
        refine XS.iload X48.here hx rfl (hb hby at_63) rfl ?_
        refine XS.iload X48.here hx rfl (hb hby at_65) rfl ?_
        refine XS.iload X48.here hx rfl (hb hby at_67) rfl ?_
        refine XS.iload X48.here hx rfl (hb hby at_69) rfl ?_
        show Steps p.tables e below (T48.setTop (mkF m 71 #[.val (.int nn), .val (.int q0), .val (.int q1), .val (.int q2), .val (.int q3), .val (.int q4), .val (.int (1 : Int32)), .val (.int x4), .val (.int x13), .val (.int x22), .val (.int x31), .val (.int x40), .val (.int x49), .unset, .unset, .unset, .unset] [(.int x49), (.int x40), (.int x31), (.int x22), (.int x13), (.int x4), (.int (1 : Int32))])) _
        refine st82 _ ?_
        refine XS.astore X82.here hx rfl (hb hby at_74) rfl rfl (l' := #[.val (.int nn), .val (.int q0), .val (.int q1), .val (.int q2), .val (.int q3), .val (.int q4), .val (.int (1 : Int32)), .val (.int x4), .val (.int x13), .val (.int x22), .val (.int x31), .val (.int x40), .val (.int x49), .val (.ref x83), .unset, .unset, .unset]) rfl ?_
        refine XS.aload X82.here hx rfl (hb hby at_76) rfl rfl ?_
        show Steps p.tables e below (T82.setTop (mkF m 78 #[.val (.int nn), .val (.int q0), .val (.int q1), .val (.int q2), .val (.int q3), .val (.int q4), .val (.int (1 : Int32)), .val (.int x4), .val (.int x13), .val (.int x22), .val (.int x31), .val (.int x40), .val (.int x49), .val (.ref x83), .unset, .unset, .unset] [(.ref x83)])) _
        refine st98.trans ?_
        refine XS.astore X98.here hx rfl (hb hby at_81) rfl rfl (l' := #[.val (.int nn), .val (.int q0), .val (.int q1), .val (.int q2), .val (.int q3), .val (.int q4), .val (.int (1 : Int32)), .val (.int x4), .val (.int x13), .val (.int x22), .val (.int x31), .val (.int x40), .val (.int x49), .val (.ref x83), .val .null, .unset, .unset]) rfl ?_
        refine XS.iload X98.here hx rfl (hb hby at_83) rfl ?_
        refine XS.iconst X98.here hx rfl (hb hby at_85) ?_
        refine XS.icmpYes X98.here hx rfl (pc0 := 86) (pc' := 117) rfl (hb hby at_86) rfl (feq ((by decide) : ¬ ((1 : Int32) = (4 : Int32)))).2 (by decide) (by decide) ?_
        refine XS.iload X98.here hx rfl (hb hby at_117) rfl ?_
        show Steps p.tables e below (T98.setTop (mkF m 119 #[.val (.int nn), .val (.int q0), .val (.int q1), .val (.int q2), .val (.int q3), .val (.int q4), .val (.int (1 : Int32)), .val (.int x4), .val (.int x13), .val (.int x22), .val (.int x31), .val (.int x40), .val (.int x49), .val (.ref x83), .val .null, .unset, .unset] [(.int (1 : Int32))])) _
        refine XS.iconst X98.here hx rfl (hb hby at_119) ?_
        refine XS.icmpNo X98.here hx rfl (hb hby at_120) rfl (teq ((by decide) : (1 : Int32) = (1 : Int32))).2 ?_
        refine XS.iload X98.here hx rfl (hb hby at_123) rfl ?_
        refine XS.bipush X98.here hx rfl (hb hby at_125) ?_
        refine XS.icmpYes X98.here hx rfl (pc0 := 127) (pc' := 134) rfl (hb hby at_127) rfl (feq (c137 : ¬ (x4 = (49 : Int32)))).2 (by decide) (by decide) ?_
        refine XS.iconst X98.here hx rfl (hb hby at_134) ?_
        show Steps p.tables e below (T98.setTop (mkF m 135 #[.val (.int nn), .val (.int q0), .val (.int q1), .val (.int q2), .val (.int q3), .val (.int q4), .val (.int (1 : Int32)), .val (.int x4), .val (.int x13), .val (.int x22), .val (.int x31), .val (.int x40), .val (.int x49), .val (.ref x83), .val .null, .unset, .unset] [(.int (0 : Int32))])) _
        refine XS.istore X98.here hx rfl (hb hby at_135) rfl (l' := #[.val (.int nn), .val (.int q0), .val (.int q1), .val (.int q2), .val (.int q3), .val (.int q4), .val (.int (1 : Int32)), .val (.int x4), .val (.int x13), .val (.int x22), .val (.int x31), .val (.int x40), .val (.int x49), .val (.ref x83), .val .null, .val (.int (0 : Int32)), .unset]) rfl ?_
        refine XS.iload X98.here hx rfl (hb hby at_137) rfl ?_
        refine XS.iconst X98.here hx rfl (hb hby at_139) ?_
        refine XS.icmpYes X98.here hx rfl (pc0 := 140) (pc' := 178) rfl (hb hby at_140) rfl (feq ((by decide) : ¬ ((1 : Int32) = (5 : Int32)))).2 (by decide) (by decide) ?_
        refine XS.iload X98.here hx rfl (hb hby at_178) rfl ?_
        refine XS.iconst X98.here hx rfl (hb hby at_180) ?_
        show Steps p.tables e below (T98.setTop (mkF m 181 #[.val (.int nn), .val (.int q0), .val (.int q1), .val (.int q2), .val (.int q3), .val (.int q4), .val (.int (1 : Int32)), .val (.int x4), .val (.int x13), .val (.int x22), .val (.int x31), .val (.int x40), .val (.int x49), .val (.ref x83), .val .null, .val (.int (0 : Int32)), .unset] [(.int (1 : Int32)), (.int (1 : Int32))])) _
        refine XS.icmpNo X98.here hx rfl (hb hby at_181) rfl (teq ((by decide) : (1 : Int32) = (1 : Int32))).2 ?_
        refine XS.iload X98.here hx rfl (hb hby at_184) rfl ?_
        refine XS.bipush X98.here hx rfl (hb hby at_186) ?_
        refine XS.icmpYes X98.here hx rfl (pc0 := 188) (pc' := 195) rfl (hb hby at_188) rfl (feq (c138 : ¬ (x4 = (48 : Int32)))).2 (by decide) (by decide) ?_
        refine XS.iconst X98.here hx rfl (hb hby at_195) ?_
        refine XS.istore X98.here hx rfl (hb hby at_196) rfl (l' := #[.val (.int nn), .val (.int q0), .val (.int q1), .val (.int q2), .val (.int q3), .val (.int q4), .val (.int (1 : Int32)), .val (.int x4), .val (.int x13), .val (.int x22), .val (.int x31), .val (.int x40), .val (.int x49), .val (.ref x83), .val .null, .val (.int (0 : Int32)), .val (.int (0 : Int32))]) rfl ?_
        show Steps p.tables e below (T98.setTop (mkF m 198 #[.val (.int nn), .val (.int q0), .val (.int q1), .val (.int q2), .val (.int q3), .val (.int q4), .val (.int (1 : Int32)), .val (.int x4), .val (.int x13), .val (.int x22), .val (.int x31), .val (.int x40), .val (.int x49), .val (.ref x83), .val .null, .val (.int (0 : Int32)), .val (.int (0 : Int32))] [])) _
        refine XS.iload X98.here hx rfl (hb hby at_198) rfl ?_
        refine XS.ifYes X98.here hx rfl (pc0 := 200) (pc' := 222) rfl (hb hby at_200) rfl ((if0 _ _).trans (teq ((by decide) : (0 : Int32) = (0 : Int32))).1) (by decide) (by decide) ?_
        refine XS.iload X98.here hx rfl (hb hby at_222) rfl ?_
        refine XS.ifYes X98.here hx rfl (pc0 := 224) (pc' := 246) rfl (hb hby at_224) rfl ((if0 _ _).trans (teq ((by decide) : (0 : Int32) = (0 : Int32))).1) (by decide) (by decide) ?_
        refine XS.aload X98.here hx rfl (hb hby at_246) rfl rfl ?_
        refine XS.ifnonnullNo X98.here hx rfl (hb hby at_248) rfl ?_
        show Steps p.tables e below (T98.setTop (mkF m 251 #[.val (.int nn), .val (.int q0), .val (.int q1), .val (.int q2), .val (.int q3), .val (.int q4), .val (.int (1 : Int32)), .val (.int x4), .val (.int x13), .val (.int x22), .val (.int x31), .val (.int x40), .val (.int x49), .val (.ref x83), .val .null, .val (.int (0 : Int32)), .val (.int (0 : Int32))] [])) _
        refine XS.iconst X98.here hx rfl (hb hby at_251) ?_
        refine XS.goto X98.here hx rfl (pc0 := 252) (pc' := 256) rfl (hb hby at_252) (by decide) (by decide) ?_
        exact kt
      obtain ⟨fs, hr, hrun, hended, hRW⟩ := X98.leaveW hS98 (by exact hk135) (v := some (.int (1 : Int32))) (fun h => by rw [Bd.returns] at h; cases h)
      refine ⟨_, _, pre0 _ (S139 _ ?_), hrun, hended, _, _, rfl, ?_, ?_, hRW.1, hRW.2.1, hRW.2.2.1, hRW.2.2.2.mono (by decide) (by decide)⟩
      · exact retN X98 hx (t := .boolean) Bd.returns (by simp) (hb hby at_256) hr
      · show Q_rm_law Z nn q0 q1 q2 q3 q4 zc fm wT wF h0 n0 _ T98.heap _
        exact ⟨rfl, N133⟩
      · show CHr Z own_EL s.vm s.heap T98.vm T98.heap
        rw [hh]
        exact CR134.trans (CHv.at X98 hZ98 own_ew CR134.1)
  · obtain ⟨_, _, ⟨T140, L140, k140, n140⟩, -, X140, ⟨Lc140, hQ140, l140, y140, z140⟩, st140⟩ := Jvm.LawKit.callS X48 hx (y := (⟨"com/example/pico_notify/piconotify/XmlBoolPinLaw", "str", "(ICCCCCC)Ljava/lang/String;"⟩ : MethodName)) ho48 (mvT hZ48 (own_w hw 37 rfl)) (mvT hZ48 (own_w hw 38 rfl)) (mvT hZ48 (own_w hw 2 rfl)) (mvT hZ48 (own_w hw 39 rfl)) (by decide) (backOf (W := 0) (rm_str2 l Z a0 hw [] x4 x13 x22 x31 x40 x49 zc T48.heap n0 O56 c5 c14 c23 c32 c41 c50 S_C hzc) hZ48 (own_w hw 39 rfl) (own_w hw 2 rfl) (by decide) (by decide)) (g := (mkF m 71 #[.val (.int nn), .val (.int q0), .val (.int q1), .val (.int q2), .val (.int q3), .val (.int q4), .val (.int (2 : Int32)), .val (.int x4), .val (.int x13), .val (.int x22), .val (.int x31), .val (.int x40), .val (.int x49), .unset, .unset, .unset, .unset] [(.int x49), (.int x40), (.int x31), (.int x22), (.int x13), (.int x4), (.int (2 : Int32))])) rfl (by rw [hml]; rfl) (argsL := [(.int (2 : Int32)), (.int x4), (.int x13), (.int x22), (.int x31), (.int x40), (.int x49)]) (rest := []) (lenOf pd_4 rfl) rfl (by show 2 * 0 + _ ≤ _; exact Nat.le_of_eq rfl) (hb hby at_71) (fun _ _ => ⟨rfl, rfl, (by decide : 12 + 3 ≤ _), (by decide : 264 + 8 ≤ _)⟩)
    dsimp only [Pt.U, Pt.locs, Pt.cells, Pt.slots] at X140 l140 y140 z140 st140 hQ140
    subst l140 y140 z140
    obtain ⟨x141, x142, x143, rfl, N144, k145, f146, f147, f148, f149, f150⟩ := hQ140
    have N151 := Fr.app N53 N144
    have ge152 : n0 ≤ x141 := by rw [← O56.1]; exact Nat.le_trans O56.2.1 f146
    have CR153 := CR54.trans (CHr.keep k145 sf0 CR54.1)
    have hk154 := Nat.le_trans hk55 k145.1
    have O155 := O56.keep k145 all0
    obtain ⟨_, _, ⟨T156, L156, k156, n156⟩, -, Xq156, hSq156, hgq156, ⟨Lc156, hQ156, l156, y156, z156, C156⟩, st156⟩ := callSS X140 hx (y := (⟨"com/example/pico_notify/piconotify/Xml", "bool", "(Ljava/lang/String;)Ljava/lang/Boolean;"⟩ : MethodName)) ho48 (mvT hZ48 (own_w hw 53 rfl)) (mvT hZ48 (own_w hw 54 rfl)) (mvT hZ48 (own_w hw 55 rfl)) (mvT hZ48 (own_w hw 56 rfl)) (by decide) (own_backS (W := 0) (rm := ({ frames := 2, cells := 8, slots := 60, locals := 28 } : Room)) (xs := []) (rm_bool2 l Z a0 hw [] x141 x142 x143 x4 x13 zc wT wF T140.heap n0 O155 f147 f148 f149 f150 c5 c14 S_C hzc S_T S_F0) hZ48 (own_w hw 56 rfl) (own_w hw 55 rfl) (by decide) (by decide) own_ew CR153.1 all0) (g := (mkF m 78 #[.val (.int nn), .val (.int q0), .val (.int q1), .val (.int q2), .val (.int q3), .val (.int q4), .val (.int (2 : Int32)), .val (.int x4), .val (.int x13), .val (.int x22), .val (.int x31), .val (.int x40), .val (.int x49), .val (.ref x141), .unset, .unset, .unset] [(.ref x141)])) rfl (by rw [hml]; rfl) (argsL := [(.ref x141)]) (rest := []) (lenOf pd_5 rfl) rfl (by show 2 * 0 + _ ≤ _; exact Nat.le_of_eq rfl) (hb hby at_78) (fun _ _ => ⟨rfl, rfl, (by decide : 15 + 8 ≤ _), (by decide : 272 + 60 ≤ _)⟩)
    dsimp only [Pt.U, Pt.locs, Pt.cells, Pt.slots] at Xq156 hSq156 hgq156 l156 y156 z156 st156 hQ156 C156
    obtain ⟨X156, hS156, hZ156, ho156⟩ := rebS hS48 (by exact hk154) Xq156 hSq156 hgq156 hZ48 ho48
    subst l156 y156 z156
    obtain ⟨rfl, N157, k158⟩ := hQ156
    have N159 := Fr.app N151 N157
    have CR160 := CR153.trans C156
    have hk161 : T156.heap.size ≤ T156.heap.size := Nat.le_refl _
    have O162 := O155.keep k158 all0
    have S163 : ∀ t, Steps p.tables e below (T156.setTop (mkF m 256 #[.val (.int nn), .val (.int q0), .val (.int q1), .val (.int q2), .val (.int q3), .val (.int q4), .val (.int (2 : Int32)), .val (.int x4), .val (.int x13), .val (.int x22), .val (.int x31), .val (.int x40), .val (.int x49), .val (.ref x141), .val .null, .val (.int (0 : Int32)), .val (.int (0 : Int32))] [(.int (1 : Int32))])) t → Steps p.tables e below (s₁.setTop (mkF m 0 #[.val (.int nn), .val (.int q0), .val (.int q1), .val (.int q2), .val (.int q3), .val (.int q4), .unset, .unset, .unset, .unset, .unset, .unset, .unset, .unset, .unset, .unset, .unset] [])) t := by
      intro t kt
      refine S57 t ?_
      refine XS.iload X48.here hx rfl (hb hby at_46) rfl ?_
      refine XS.bipush X48.here hx rfl (hb hby at_48) ?_
      refine XS.icmpYes X48.here hx rfl (pc0 := 50) (pc' := 57) rfl (hb hby at_50) rfl (feq ((by decide) : ¬ ((2 : Int32) = (7 : Int32)))).2 (by decide) (by decide) ?_
      refine XS.iload X48.here hx rfl (hb hby at_57) rfl ?_
      refine XS.iload X48.here hx rfl (hb hby at_59) rfl ?_
      refine XS.iload X48.here hx rfl (hb hby at_61) rfl ?_
      show Steps p.tables e below (T48.setTop (mkF m 63 #[.val (.int nn), .val (.int q0), .val (.int q1), .val (.int q2), .val (.int q3), .val (.int q4), .val (.int (2 : Int32)), .val (.int x4), .val (.int x13), .val (.int x22), .val (.int x31), .val (.int x40), .val (.int x49), .unset, .unset, .unset, .unset] [(.int x13), (.int x4), (.int (2 : Int32))])) _
      refine XS.iload X48.here hx rfl (hb hby at_63) rfl ?_
      refine XS.iload X48.here hx rfl (hb hby at_65) rfl ?_
      refine XS.iload X48.here hx rfl (hb hby at_67) rfl ?_
      refine XS.iload X48.here hx rfl (hb hby at_69) rfl ?_
      show Steps p.tables e below (T48.setTop (mkF m 71 #[.val (.int nn), .val (.int q0), .val (.int q1), .val (.int q2), .val (.int q3), .val (.int q4), .val (.int (2 : Int32)), .val (.int x4), .val (.int x13), .val (.int x22), .val (.int x31), .val (.int x40), .val (.int x49), .unset, .unset, .unset, .unset] [(.int x49), (.int x40), (.int x31), (.int x22), (.int x13), (.int x4), (.int (2 : Int32))])) _
      refine st140 _ ?_
      refine XS.astore X140.here hx rfl (hb hby at_74) rfl rfl (l' := #[.val (.int nn), .val (.int q0), .val (.int q1), .val (.int q2), .val (.int q3), .val (.int q4), .val (.int (2 : Int32)), .val (.int x4), .val (.int x13), .val (.int x22), .val (.int x31), .val (.int x40), .val (.int x49), .val (.ref x141), .unset, .unset, .unset]) rfl ?_
      refine XS.aload X140.here hx rfl (hb hby at_76) rfl rfl ?_
      show Steps p.tables e below (T140.setTop (mkF m 78 #[.val (.int nn), .val (.int q0), .val (.int q1), .val (.int q2), .val (.int q3), .val (.int q4), .val (.int (2 : Int32)), .val (.int x4), .val (.int x13), .val (.int x22), .val (.int x31), .val (.int x40), .val (.int x49), .val (.ref x141), .unset, .unset, .unset] [(.ref x141)])) _
      refine st156.trans ?_
      refine XS.astore X156.here hx rfl (hb hby at_81) rfl rfl (l' := #[.val (.int nn), .val (.int q0), .val (.int q1), .val (.int q2), .val (.int q3), .val (.int q4), .val (.int (2 : Int32)), .val (.int x4), .val (.int x13), .val (.int x22), .val (.int x31), .val (.int x40), .val (.int x49), .val (.ref x141), .val .null, .unset, .unset]) rfl ?_
      refine XS.iload X156.here hx rfl (hb hby at_83) rfl ?_
      refine XS.iconst X156.here hx rfl (hb hby at_85) ?_
      refine XS.icmpYes X156.here hx rfl (pc0 := 86) (pc' := 117) rfl (hb hby at_86) rfl (feq ((by decide) : ¬ ((2 : Int32) = (4 : Int32)))).2 (by decide) (by decide) ?_
      refine XS.iload X156.here hx rfl (hb hby at_117) rfl ?_
      show Steps p.tables e below (T156.setTop (mkF m 119 #[.val (.int nn), .val (.int q0), .val (.int q1), .val (.int q2), .val (.int q3), .val (.int q4), .val (.int (2 : Int32)), .val (.int x4), .val (.int x13), .val (.int x22), .val (.int x31), .val (.int x40), .val (.int x49), .val (.ref x141), .val .null, .unset, .unset] [(.int (2 : Int32))])) _
      refine XS.iconst X156.here hx rfl (hb hby at_119) ?_
      refine XS.icmpYes X156.here hx rfl (pc0 := 120) (pc' := 134) rfl (hb hby at_120) rfl (feq ((by decide) : ¬ ((2 : Int32) = (1 : Int32)))).2 (by decide) (by decide) ?_
      refine XS.iconst X156.here hx rfl (hb hby at_134) ?_
      refine XS.istore X156.here hx rfl (hb hby at_135) rfl (l' := #[.val (.int nn), .val (.int q0), .val (.int q1), .val (.int q2), .val (.int q3), .val (.int q4), .val (.int (2 : Int32)), .val (.int x4), .val (.int x13), .val (.int x22), .val (.int x31), .val (.int x40), .val (.int x49), .val (.ref x141), .val .null, .val (.int (0 : Int32)), .unset]) rfl ?_
      refine XS.iload X156.here hx rfl (hb hby at_137) rfl ?_
      refine XS.iconst X156.here hx rfl (hb hby at_139) ?_
      show Steps p.tables e below (T156.setTop (mkF m 140 #[.val (.int nn), .val (.int q0), .val (.int q1), .val (.int q2), .val (.int q3), .val (.int q4), .val (.int (2 : Int32)), .val (.int x4), .val (.int x13), .val (.int x22), .val (.int x31), .val (.int x40), .val (.int x49), .val (.ref x141), .val .null, .val (.int (0 : Int32)), .unset] [(.int (5 : Int32)), (.int (2 : Int32))])) _
      refine XS.icmpYes X156.here hx rfl (pc0 := 140) (pc' := 178) rfl (hb hby at_140) rfl (feq ((by decide) : ¬ ((2 : Int32) = (5 : Int32)))).2 (by decide) (by decide) ?_
      refine XS.iload X156.here hx rfl (hb hby at_178) rfl ?_
      refine XS.iconst X156.here hx rfl (hb hby at_180) ?_
      refine XS.icmpYes X156.here hx rfl (pc0 := 181) (pc' := 195) rfl (hb hby at_181) rfl (feq ((by decide) : ¬ ((2 : Int32) = (1 : Int32)))).2 (by decide) (by decide) ?_
      refine XS.iconst X156.here hx rfl (hb hby at_195) ?_
      refine XS.istore X156.here hx rfl (hb hby at_196) rfl (l' := #[.val (.int nn), .val (.int q0), .val (.int q1), .val (.int q2), .val (.int q3), .val (.int q4), .val (.int (2 : Int32)), .val (.int x4), .val (.int x13), .val (.int x22), .val (.int x31), .val (.int x40), .val (.int x49), .val (.ref x141), .val .null, .val (.int (0 : Int32)), .val (.int (0 : Int32))]) rfl ?_
      show Steps p.tables e below (T156.setTop (mkF m 198 #[.val (.int nn), .val (.int q0), .val (.int q1), .val (.int q2), .val (.int q3), .val (.int q4), .val (.int (2 : Int32)), .val (.int x4), .val (.int x13), .val (.int x22), .val (.int x31), .val (.int x40), .val (.int x49), .val (.ref x141), .val .null, .val (.int (0 : Int32)), .val (.int (0 : Int32))] [])) _
      refine XS.iload X156.here hx rfl (hb hby at_198) rfl ?_
      refine XS.ifYes X156.here hx rfl (pc0 := 200) (pc' := 222) rfl (hb hby at_200) rfl ((if0 _ _).trans (teq ((by decide) : (0 : Int32) = (0 : Int32))).1) (by decide) (by decide) ?_
      refine XS.iload X156.here hx rfl (hb hby at_222) rfl ?_
      refine XS.ifYes X156.here hx rfl (pc0 := 224) (pc' := 246) rfl (hb hby at_224) rfl ((if0 _ _).trans (teq ((by decide) : (0 : Int32) = (0 : Int32))).1) (by decide) (by decide) ?_
      refine XS.aload X156.here hx rfl (hb hby at_246) rfl rfl ?_
      refine XS.ifnonnullNo X156.here hx rfl (hb hby at_248) rfl ?_
      show Steps p.tables e below (T156.setTop (mkF m 251 #[.val (.int nn), .val (.int q0), .val (.int q1), .val (.int q2), .val (.int q3), .val (.int q4), .val (.int (2 : Int32)), .val (.int x4), .val (.int x13), .val (.int x22), .val (.int x31), .val (.int x40), .val (.int x49), .val (.ref x141), .val .null, .val (.int (0 : Int32)), .val (.int (0 : Int32))] [])) _
      refine XS.iconst X156.here hx rfl (hb hby at_251) ?_
      refine XS.goto X156.here hx rfl (pc0 := 252) (pc' := 256) rfl (hb hby at_252) (by decide) (by decide) ?_
      exact kt
    obtain ⟨fs, hr, hrun, hended, hRW⟩ := X156.leaveW hS156 (by exact hk161) (v := some (.int (1 : Int32))) (fun h => by rw [Bd.returns] at h; cases h)
    refine ⟨_, _, pre0 _ (S163 _ ?_), hrun, hended, _, _, rfl, ?_, ?_, hRW.1, hRW.2.1, hRW.2.2.1, hRW.2.2.2.mono (by decide) (by decide)⟩
    · exact retN X156 hx (t := .boolean) Bd.returns (by simp) (hb hby at_256) hr
    · show Q_rm_law Z nn q0 q1 q2 q3 q4 zc fm wT wF h0 n0 _ T156.heap _
      exact ⟨rfl, N159⟩
    · show CHr Z own_EL s.vm s.heap T156.vm T156.heap
      rw [hh]
      exact CR160.trans (CHv.at X156 hZ156 own_ew CR160.1)
  · obtain ⟨_, _, ⟨T164, L164, k164, n164⟩, -, X164, ⟨Lc164, hQ164, l164, y164, z164⟩, st164⟩ := Jvm.LawKit.callS X48 hx (y := (⟨"com/example/pico_notify/piconotify/XmlBoolPinLaw", "str", "(ICCCCCC)Ljava/lang/String;"⟩ : MethodName)) ho48 (mvT hZ48 (own_w hw 37 rfl)) (mvT hZ48 (own_w hw 38 rfl)) (mvT hZ48 (own_w hw 2 rfl)) (mvT hZ48 (own_w hw 39 rfl)) (by decide) (backOf (W := 0) (rm_str3 l Z a0 hw [] x4 x13 x22 x31 x40 x49 zc T48.heap n0 O56 c5 c14 c23 c32 c41 c50 S_C hzc) hZ48 (own_w hw 39 rfl) (own_w hw 2 rfl) (by decide) (by decide)) (g := (mkF m 71 #[.val (.int nn), .val (.int q0), .val (.int q1), .val (.int q2), .val (.int q3), .val (.int q4), .val (.int (3 : Int32)), .val (.int x4), .val (.int x13), .val (.int x22), .val (.int x31), .val (.int x40), .val (.int x49), .unset, .unset, .unset, .unset] [(.int x49), (.int x40), (.int x31), (.int x22), (.int x13), (.int x4), (.int (3 : Int32))])) rfl (by rw [hml]; rfl) (argsL := [(.int (3 : Int32)), (.int x4), (.int x13), (.int x22), (.int x31), (.int x40), (.int x49)]) (rest := []) (lenOf pd_4 rfl) rfl (by show 2 * 0 + _ ≤ _; exact Nat.le_of_eq rfl) (hb hby at_71) (fun _ _ => ⟨rfl, rfl, (by decide : 12 + 3 ≤ _), (by decide : 264 + 10 ≤ _)⟩)
    dsimp only [Pt.U, Pt.locs, Pt.cells, Pt.slots] at X164 l164 y164 z164 st164 hQ164
    subst l164 y164 z164
    obtain ⟨x165, x166, x167, rfl, N168, k169, f170, f171, f172, f173, f174⟩ := hQ164
    have N175 := Fr.app N53 N168
    have ge176 : n0 ≤ x165 := by rw [← O56.1]; exact Nat.le_trans O56.2.1 f170
    have CR177 := CR54.trans (CHr.keep k169 sf0 CR54.1)
    have hk178 := Nat.le_trans hk55 k169.1
    have O179 := O56.keep k169 all0
    obtain ⟨_, _, ⟨T180, L180, k180, n180⟩, -, Xq180, hSq180, hgq180, ⟨Lc180, hQ180, l180, y180, z180, C180⟩, st180⟩ := callSS X164 hx (y := (⟨"com/example/pico_notify/piconotify/Xml", "bool", "(Ljava/lang/String;)Ljava/lang/Boolean;"⟩ : MethodName)) ho48 (mvT hZ48 (own_w hw 53 rfl)) (mvT hZ48 (own_w hw 54 rfl)) (mvT hZ48 (own_w hw 55 rfl)) (mvT hZ48 (own_w hw 56 rfl)) (by decide) (own_backS (W := 0) (rm := ({ frames := 2, cells := 8, slots := 60, locals := 28 } : Room)) (xs := []) (rm_bool3 l Z a0 hw [] x165 x166 x167 x4 x13 x22 zc wT wF T164.heap n0 O179 f171 f172 f173 f174 c5 c14 c23 S_C hzc S_T S_F0) hZ48 (own_w hw 56 rfl) (own_w hw 55 rfl) (by decide) (by decide) own_ew CR177.1 all0) (g := (mkF m 78 #[.val (.int nn), .val (.int q0), .val (.int q1), .val (.int q2), .val (.int q3), .val (.int q4), .val (.int (3 : Int32)), .val (.int x4), .val (.int x13), .val (.int x22), .val (.int x31), .val (.int x40), .val (.int x49), .val (.ref x165), .unset, .unset, .unset] [(.ref x165)])) rfl (by rw [hml]; rfl) (argsL := [(.ref x165)]) (rest := []) (lenOf pd_5 rfl) rfl (by show 2 * 0 + _ ≤ _; exact Nat.le_of_eq rfl) (hb hby at_78) (fun _ _ => ⟨rfl, rfl, (by decide : 15 + 8 ≤ _), (by decide : 274 + 60 ≤ _)⟩)
    dsimp only [Pt.U, Pt.locs, Pt.cells, Pt.slots] at Xq180 hSq180 hgq180 l180 y180 z180 st180 hQ180 C180
    obtain ⟨X180, hS180, hZ180, ho180⟩ := rebS hS48 (by exact hk178) Xq180 hSq180 hgq180 hZ48 ho48
    subst l180 y180 z180
    obtain ⟨rfl, N181, k182⟩ := hQ180
    have N183 := Fr.app N175 N181
    have CR184 := CR177.trans C180
    have hk185 : T180.heap.size ≤ T180.heap.size := Nat.le_refl _
    have O186 := O179.keep k182 all0
    have S187 : ∀ t, Steps p.tables e below (T180.setTop (mkF m 256 #[.val (.int nn), .val (.int q0), .val (.int q1), .val (.int q2), .val (.int q3), .val (.int q4), .val (.int (3 : Int32)), .val (.int x4), .val (.int x13), .val (.int x22), .val (.int x31), .val (.int x40), .val (.int x49), .val (.ref x165), .val .null, .val (.int (0 : Int32)), .val (.int (0 : Int32))] [(.int (1 : Int32))])) t → Steps p.tables e below (s₁.setTop (mkF m 0 #[.val (.int nn), .val (.int q0), .val (.int q1), .val (.int q2), .val (.int q3), .val (.int q4), .unset, .unset, .unset, .unset, .unset, .unset, .unset, .unset, .unset, .unset, .unset] [])) t := by
      intro t kt
      refine S57 t ?_
      refine XS.iload X48.here hx rfl (hb hby at_46) rfl ?_
      refine XS.bipush X48.here hx rfl (hb hby at_48) ?_
      refine XS.icmpYes X48.here hx rfl (pc0 := 50) (pc' := 57) rfl (hb hby at_50) rfl (feq ((by decide) : ¬ ((3 : Int32) = (7 : Int32)))).2 (by decide) (by decide) ?_
      refine XS.iload X48.here hx rfl (hb hby at_57) rfl ?_
      refine XS.iload X48.here hx rfl (hb hby at_59) rfl ?_
      refine XS.iload X48.here hx rfl (hb hby at_61) rfl ?_
      show Steps p.tables e below (T48.setTop (mkF m 63 #[.val (.int nn), .val (.int q0), .val (.int q1), .val (.int q2), .val (.int q3), .val (.int q4), .val (.int (3 : Int32)), .val (.int x4), .val (.int x13), .val (.int x22), .val (.int x31), .val (.int x40), .val (.int x49), .unset, .unset, .unset, .unset] [(.int x13), (.int x4), (.int (3 : Int32))])) _
      refine XS.iload X48.here hx rfl (hb hby at_63) rfl ?_
      refine XS.iload X48.here hx rfl (hb hby at_65) rfl ?_
      refine XS.iload X48.here hx rfl (hb hby at_67) rfl ?_
      refine XS.iload X48.here hx rfl (hb hby at_69) rfl ?_
      show Steps p.tables e below (T48.setTop (mkF m 71 #[.val (.int nn), .val (.int q0), .val (.int q1), .val (.int q2), .val (.int q3), .val (.int q4), .val (.int (3 : Int32)), .val (.int x4), .val (.int x13), .val (.int x22), .val (.int x31), .val (.int x40), .val (.int x49), .unset, .unset, .unset, .unset] [(.int x49), (.int x40), (.int x31), (.int x22), (.int x13), (.int x4), (.int (3 : Int32))])) _
      refine st164 _ ?_
      refine XS.astore X164.here hx rfl (hb hby at_74) rfl rfl (l' := #[.val (.int nn), .val (.int q0), .val (.int q1), .val (.int q2), .val (.int q3), .val (.int q4), .val (.int (3 : Int32)), .val (.int x4), .val (.int x13), .val (.int x22), .val (.int x31), .val (.int x40), .val (.int x49), .val (.ref x165), .unset, .unset, .unset]) rfl ?_
      refine XS.aload X164.here hx rfl (hb hby at_76) rfl rfl ?_
      show Steps p.tables e below (T164.setTop (mkF m 78 #[.val (.int nn), .val (.int q0), .val (.int q1), .val (.int q2), .val (.int q3), .val (.int q4), .val (.int (3 : Int32)), .val (.int x4), .val (.int x13), .val (.int x22), .val (.int x31), .val (.int x40), .val (.int x49), .val (.ref x165), .unset, .unset, .unset] [(.ref x165)])) _
      refine st180.trans ?_
      refine XS.astore X180.here hx rfl (hb hby at_81) rfl rfl (l' := #[.val (.int nn), .val (.int q0), .val (.int q1), .val (.int q2), .val (.int q3), .val (.int q4), .val (.int (3 : Int32)), .val (.int x4), .val (.int x13), .val (.int x22), .val (.int x31), .val (.int x40), .val (.int x49), .val (.ref x165), .val .null, .unset, .unset]) rfl ?_
      refine XS.iload X180.here hx rfl (hb hby at_83) rfl ?_
      refine XS.iconst X180.here hx rfl (hb hby at_85) ?_
      refine XS.icmpYes X180.here hx rfl (pc0 := 86) (pc' := 117) rfl (hb hby at_86) rfl (feq ((by decide) : ¬ ((3 : Int32) = (4 : Int32)))).2 (by decide) (by decide) ?_
      refine XS.iload X180.here hx rfl (hb hby at_117) rfl ?_
      show Steps p.tables e below (T180.setTop (mkF m 119 #[.val (.int nn), .val (.int q0), .val (.int q1), .val (.int q2), .val (.int q3), .val (.int q4), .val (.int (3 : Int32)), .val (.int x4), .val (.int x13), .val (.int x22), .val (.int x31), .val (.int x40), .val (.int x49), .val (.ref x165), .val .null, .unset, .unset] [(.int (3 : Int32))])) _
      refine XS.iconst X180.here hx rfl (hb hby at_119) ?_
      refine XS.icmpYes X180.here hx rfl (pc0 := 120) (pc' := 134) rfl (hb hby at_120) rfl (feq ((by decide) : ¬ ((3 : Int32) = (1 : Int32)))).2 (by decide) (by decide) ?_
      refine XS.iconst X180.here hx rfl (hb hby at_134) ?_
      refine XS.istore X180.here hx rfl (hb hby at_135) rfl (l' := #[.val (.int nn), .val (.int q0), .val (.int q1), .val (.int q2), .val (.int q3), .val (.int q4), .val (.int (3 : Int32)), .val (.int x4), .val (.int x13), .val (.int x22), .val (.int x31), .val (.int x40), .val (.int x49), .val (.ref x165), .val .null, .val (.int (0 : Int32)), .unset]) rfl ?_
      refine XS.iload X180.here hx rfl (hb hby at_137) rfl ?_
      refine XS.iconst X180.here hx rfl (hb hby at_139) ?_
      show Steps p.tables e below (T180.setTop (mkF m 140 #[.val (.int nn), .val (.int q0), .val (.int q1), .val (.int q2), .val (.int q3), .val (.int q4), .val (.int (3 : Int32)), .val (.int x4), .val (.int x13), .val (.int x22), .val (.int x31), .val (.int x40), .val (.int x49), .val (.ref x165), .val .null, .val (.int (0 : Int32)), .unset] [(.int (5 : Int32)), (.int (3 : Int32))])) _
      refine XS.icmpYes X180.here hx rfl (pc0 := 140) (pc' := 178) rfl (hb hby at_140) rfl (feq ((by decide) : ¬ ((3 : Int32) = (5 : Int32)))).2 (by decide) (by decide) ?_
      refine XS.iload X180.here hx rfl (hb hby at_178) rfl ?_
      refine XS.iconst X180.here hx rfl (hb hby at_180) ?_
      refine XS.icmpYes X180.here hx rfl (pc0 := 181) (pc' := 195) rfl (hb hby at_181) rfl (feq ((by decide) : ¬ ((3 : Int32) = (1 : Int32)))).2 (by decide) (by decide) ?_
      refine XS.iconst X180.here hx rfl (hb hby at_195) ?_
      refine XS.istore X180.here hx rfl (hb hby at_196) rfl (l' := #[.val (.int nn), .val (.int q0), .val (.int q1), .val (.int q2), .val (.int q3), .val (.int q4), .val (.int (3 : Int32)), .val (.int x4), .val (.int x13), .val (.int x22), .val (.int x31), .val (.int x40), .val (.int x49), .val (.ref x165), .val .null, .val (.int (0 : Int32)), .val (.int (0 : Int32))]) rfl ?_
      show Steps p.tables e below (T180.setTop (mkF m 198 #[.val (.int nn), .val (.int q0), .val (.int q1), .val (.int q2), .val (.int q3), .val (.int q4), .val (.int (3 : Int32)), .val (.int x4), .val (.int x13), .val (.int x22), .val (.int x31), .val (.int x40), .val (.int x49), .val (.ref x165), .val .null, .val (.int (0 : Int32)), .val (.int (0 : Int32))] [])) _
      refine XS.iload X180.here hx rfl (hb hby at_198) rfl ?_
      refine XS.ifYes X180.here hx rfl (pc0 := 200) (pc' := 222) rfl (hb hby at_200) rfl ((if0 _ _).trans (teq ((by decide) : (0 : Int32) = (0 : Int32))).1) (by decide) (by decide) ?_
      refine XS.iload X180.here hx rfl (hb hby at_222) rfl ?_
      refine XS.ifYes X180.here hx rfl (pc0 := 224) (pc' := 246) rfl (hb hby at_224) rfl ((if0 _ _).trans (teq ((by decide) : (0 : Int32) = (0 : Int32))).1) (by decide) (by decide) ?_
      refine XS.aload X180.here hx rfl (hb hby at_246) rfl rfl ?_
      refine XS.ifnonnullNo X180.here hx rfl (hb hby at_248) rfl ?_
      show Steps p.tables e below (T180.setTop (mkF m 251 #[.val (.int nn), .val (.int q0), .val (.int q1), .val (.int q2), .val (.int q3), .val (.int q4), .val (.int (3 : Int32)), .val (.int x4), .val (.int x13), .val (.int x22), .val (.int x31), .val (.int x40), .val (.int x49), .val (.ref x165), .val .null, .val (.int (0 : Int32)), .val (.int (0 : Int32))] [])) _
      refine XS.iconst X180.here hx rfl (hb hby at_251) ?_
      refine XS.goto X180.here hx rfl (pc0 := 252) (pc' := 256) rfl (hb hby at_252) (by decide) (by decide) ?_
      exact kt
    obtain ⟨fs, hr, hrun, hended, hRW⟩ := X180.leaveW hS180 (by exact hk185) (v := some (.int (1 : Int32))) (fun h => by rw [Bd.returns] at h; cases h)
    refine ⟨_, _, pre0 _ (S187 _ ?_), hrun, hended, _, _, rfl, ?_, ?_, hRW.1, hRW.2.1, hRW.2.2.1, hRW.2.2.2.mono (by decide) (by decide)⟩
    · exact retN X180 hx (t := .boolean) Bd.returns (by simp) (hb hby at_256) hr
    · show Q_rm_law Z nn q0 q1 q2 q3 q4 zc fm wT wF h0 n0 _ T180.heap _
      exact ⟨rfl, N183⟩
    · show CHr Z own_EL s.vm s.heap T180.vm T180.heap
      rw [hh]
      exact CR184.trans (CHv.at X180 hZ180 own_ew CR184.1)
  · obtain ⟨_, _, ⟨T188, L188, k188, n188⟩, -, X188, ⟨Lc188, hQ188, l188, y188, z188⟩, st188⟩ := Jvm.LawKit.callS X48 hx (y := (⟨"com/example/pico_notify/piconotify/XmlBoolPinLaw", "str", "(ICCCCCC)Ljava/lang/String;"⟩ : MethodName)) ho48 (mvT hZ48 (own_w hw 37 rfl)) (mvT hZ48 (own_w hw 38 rfl)) (mvT hZ48 (own_w hw 2 rfl)) (mvT hZ48 (own_w hw 39 rfl)) (by decide) (backOf (W := 0) (rm_str4 l Z a0 hw [] x4 x13 x22 x31 x40 x49 zc T48.heap n0 O56 c5 c14 c23 c32 c41 c50 S_C hzc) hZ48 (own_w hw 39 rfl) (own_w hw 2 rfl) (by decide) (by decide)) (g := (mkF m 71 #[.val (.int nn), .val (.int q0), .val (.int q1), .val (.int q2), .val (.int q3), .val (.int q4), .val (.int (4 : Int32)), .val (.int x4), .val (.int x13), .val (.int x22), .val (.int x31), .val (.int x40), .val (.int x49), .unset, .unset, .unset, .unset] [(.int x49), (.int x40), (.int x31), (.int x22), (.int x13), (.int x4), (.int (4 : Int32))])) rfl (by rw [hml]; rfl) (argsL := [(.int (4 : Int32)), (.int x4), (.int x13), (.int x22), (.int x31), (.int x40), (.int x49)]) (rest := []) (lenOf pd_4 rfl) rfl (by show 2 * 0 + _ ≤ _; exact Nat.le_of_eq rfl) (hb hby at_71) (fun _ _ => ⟨rfl, rfl, (by decide : 12 + 3 ≤ _), (by decide : 264 + 12 ≤ _)⟩)
    dsimp only [Pt.U, Pt.locs, Pt.cells, Pt.slots] at X188 l188 y188 z188 st188 hQ188
    subst l188 y188 z188
    obtain ⟨x189, x190, x191, rfl, N192, k193, f194, f195, f196, f197, f198⟩ := hQ188
    have N199 := Fr.app N53 N192
    have ge200 : n0 ≤ x189 := by rw [← O56.1]; exact Nat.le_trans O56.2.1 f194
    have CR201 := CR54.trans (CHr.keep k193 sf0 CR54.1)
    have hk202 := Nat.le_trans hk55 k193.1
    have O203 := O56.keep k193 all0
    obtain ⟨_, _, ⟨T204, L204, k204, n204⟩, -, Xq204, hSq204, hgq204, ⟨Lc204, hQ204, l204, y204, z204, C204⟩, st204⟩ := callSS X188 hx (y := (⟨"com/example/pico_notify/piconotify/Xml", "bool", "(Ljava/lang/String;)Ljava/lang/Boolean;"⟩ : MethodName)) ho48 (mvT hZ48 (own_w hw 53 rfl)) (mvT hZ48 (own_w hw 54 rfl)) (mvT hZ48 (own_w hw 55 rfl)) (mvT hZ48 (own_w hw 56 rfl)) (by decide) (own_backS (W := 0) (rm := ({ frames := 2, cells := 8, slots := 60, locals := 28 } : Room)) (xs := []) (rm_bool4 l Z a0 hw [] x189 x190 x191 x4 x13 x22 x31 zc wT wF T188.heap n0 O203 f195 f196 f197 f198 c5 c14 c23 c32 S_C hzc S_T S_F0) hZ48 (own_w hw 56 rfl) (own_w hw 55 rfl) (by decide) (by decide) own_ew CR201.1 all0) (g := (mkF m 78 #[.val (.int nn), .val (.int q0), .val (.int q1), .val (.int q2), .val (.int q3), .val (.int q4), .val (.int (4 : Int32)), .val (.int x4), .val (.int x13), .val (.int x22), .val (.int x31), .val (.int x40), .val (.int x49), .val (.ref x189), .unset, .unset, .unset] [(.ref x189)])) rfl (by rw [hml]; rfl) (argsL := [(.ref x189)]) (rest := []) (lenOf pd_5 rfl) rfl (by show 2 * 0 + _ ≤ _; exact Nat.le_of_eq rfl) (hb hby at_78) (fun _ _ => ⟨rfl, rfl, (by decide : 15 + 8 ≤ _), (by decide : 276 + 60 ≤ _)⟩)
    dsimp only [Pt.U, Pt.locs, Pt.cells, Pt.slots] at Xq204 hSq204 hgq204 l204 y204 z204 st204 hQ204 C204
    obtain ⟨X204, hS204, hZ204, ho204⟩ := rebS hS48 (by exact hk202) Xq204 hSq204 hgq204 hZ48 ho48
    subst l204 y204 z204
    rcases hQ204 with ⟨c205, rfl, N206, k207⟩ | ⟨c208, rfl, N209, k210⟩
    · have N211 := Fr.app N199 N206
      have CR212 := CR201.trans C204
      have hk213 : T204.heap.size ≤ T204.heap.size := Nat.le_refl _
      have O214 := O203.keep k207 all0
      have c215 : x4 = (116 : Int32) := congrArg (fun l => l.getD 0 0) c205.symm
      have c216 : x13 = (114 : Int32) := congrArg (fun l => l.getD 1 0) c205.symm
      have c217 : x22 = (117 : Int32) := congrArg (fun l => l.getD 2 0) c205.symm
      have c218 : x31 = (101 : Int32) := congrArg (fun l => l.getD 3 0) c205.symm
      have c219 : ([x4, x13, x22, x31] : List Int32) = [(116 : Int32), (114 : Int32), (117 : Int32), (101 : Int32)] := c205.symm
      obtain ⟨cq220, kq220, q220a, q220b, q220c⟩ := isOf hZ204 rfl (E_T.ext O214.2)
      obtain ⟨_, _, ⟨T220, L220, k220, n220⟩, -, X220, ⟨Lc220, hQ220, l220, y220, z220⟩, st220⟩ := X204.virtualBack hx (y := (⟨"java/lang/Boolean", "booleanValue", "()Z"⟩ : MethodName)) (z := (⟨"java/lang/Boolean", "booleanValue", "()Z"⟩ : MethodName)) ho204 (mvT hZ204 (own_w hw 82 rfl)) (mvT hZ204 (own_w hw 83 rfl)) (notFace_of_selects (args := #[]) (mvT hZ204 (own_w hw 85 rfl))) (mvT hZ204 (own_w hw 85 rfl)) (mvT hZ204 (own_w hw 84 rfl)) (by decide) (backOf (W := 0) (rm_bv1 l Z a0 hw [] wT T204.heap n0 O214 V_T) hZ204 (own_w hw 86 rfl) (own_w hw 81 rfl) (by decide) (by decide)) q220a q220c (g := (mkF m 210 #[.val (.int nn), .val (.int q0), .val (.int q1), .val (.int q2), .val (.int q3), .val (.int q4), .val (.int (4 : Int32)), .val (.int x4), .val (.int x13), .val (.int x22), .val (.int x31), .val (.int x40), .val (.int x49), .val (.ref x189), .val (.ref wT), .val (.int (1 : Int32)), .val (.int (0 : Int32))] [(.ref wT)])) rfl (by rw [hml]; rfl) (Steps.refl _) (argsL := []) (rest := []) (lenOf pd_6 rfl) rfl (by show 2 * 0 + _ ≤ _; exact Nat.le_of_eq rfl) (hb hby at_210) (fun _ _ => ⟨rfl, rfl, (by decide : 23 + 0 ≤ _), (by decide : 336 + 0 ≤ _)⟩)
      dsimp only [Pt.U, Pt.locs, Pt.cells, Pt.slots] at X220 l220 y220 z220 st220 hQ220
      subst l220 y220 z220
      obtain ⟨rfl, N221, k222⟩ := hQ220
      have N223 := Fr.app N211 N221
      have S224 : ∀ t, Steps p.tables e below (T220.setTop (mkF m 221 #[.val (.int nn), .val (.int q0), .val (.int q1), .val (.int q2), .val (.int q3), .val (.int q4), .val (.int (4 : Int32)), .val (.int x4), .val (.int x13), .val (.int x22), .val (.int x31), .val (.int x40), .val (.int x49), .val (.ref x189), .val (.ref wT), .val (.int (1 : Int32)), .val (.int (0 : Int32))] [(.int (1 : Int32))])) t → Steps p.tables e below (s₁.setTop (mkF m 0 #[.val (.int nn), .val (.int q0), .val (.int q1), .val (.int q2), .val (.int q3), .val (.int q4), .unset, .unset, .unset, .unset, .unset, .unset, .unset, .unset, .unset, .unset, .unset] [])) t := by
        intro t kt
        refine S57 t ?_
        refine XS.iload X48.here hx rfl (hb hby at_46) rfl ?_
        refine XS.bipush X48.here hx rfl (hb hby at_48) ?_
        refine XS.icmpYes X48.here hx rfl (pc0 := 50) (pc' := 57) rfl (hb hby at_50) rfl (feq ((by decide) : ¬ ((4 : Int32) = (7 : Int32)))).2 (by decide) (by decide) ?_
        refine XS.iload X48.here hx rfl (hb hby at_57) rfl ?_
        refine XS.iload X48.here hx rfl (hb hby at_59) rfl ?_
        refine XS.iload X48.here hx rfl (hb hby at_61) rfl ?_
        show Steps p.tables e below (T48.setTop (mkF m 63 #[.val (.int nn), .val (.int q0), .val (.int q1), .val (.int q2), .val (.int q3), .val (.int q4), .val (.int (4 : Int32)), .val (.int x4), .val (.int x13), .val (.int x22), .val (.int x31), .val (.int x40), .val (.int x49), .unset, .unset, .unset, .unset] [(.int x13), (.int x4), (.int (4 : Int32))])) _
        refine XS.iload X48.here hx rfl (hb hby at_63) rfl ?_
        refine XS.iload X48.here hx rfl (hb hby at_65) rfl ?_
        refine XS.iload X48.here hx rfl (hb hby at_67) rfl ?_
        refine XS.iload X48.here hx rfl (hb hby at_69) rfl ?_
        show Steps p.tables e below (T48.setTop (mkF m 71 #[.val (.int nn), .val (.int q0), .val (.int q1), .val (.int q2), .val (.int q3), .val (.int q4), .val (.int (4 : Int32)), .val (.int x4), .val (.int x13), .val (.int x22), .val (.int x31), .val (.int x40), .val (.int x49), .unset, .unset, .unset, .unset] [(.int x49), (.int x40), (.int x31), (.int x22), (.int x13), (.int x4), (.int (4 : Int32))])) _
        refine st188 _ ?_
        refine XS.astore X188.here hx rfl (hb hby at_74) rfl rfl (l' := #[.val (.int nn), .val (.int q0), .val (.int q1), .val (.int q2), .val (.int q3), .val (.int q4), .val (.int (4 : Int32)), .val (.int x4), .val (.int x13), .val (.int x22), .val (.int x31), .val (.int x40), .val (.int x49), .val (.ref x189), .unset, .unset, .unset]) rfl ?_
        refine XS.aload X188.here hx rfl (hb hby at_76) rfl rfl ?_
        show Steps p.tables e below (T188.setTop (mkF m 78 #[.val (.int nn), .val (.int q0), .val (.int q1), .val (.int q2), .val (.int q3), .val (.int q4), .val (.int (4 : Int32)), .val (.int x4), .val (.int x13), .val (.int x22), .val (.int x31), .val (.int x40), .val (.int x49), .val (.ref x189), .unset, .unset, .unset] [(.ref x189)])) _
        refine st204.trans ?_
        refine XS.astore X204.here hx rfl (hb hby at_81) rfl rfl (l' := #[.val (.int nn), .val (.int q0), .val (.int q1), .val (.int q2), .val (.int q3), .val (.int q4), .val (.int (4 : Int32)), .val (.int x4), .val (.int x13), .val (.int x22), .val (.int x31), .val (.int x40), .val (.int x49), .val (.ref x189), .val (.ref wT), .unset, .unset]) rfl ?_
        refine XS.iload X204.here hx rfl (hb hby at_83) rfl ?_
        refine XS.iconst X204.here hx rfl (hb hby at_85) ?_
        refine XS.icmpNo X204.here hx rfl (hb hby at_86) rfl (teq ((by decide) : (4 : Int32) = (4 : Int32))).2 ?_
        refine XS.iload X204.here hx rfl (hb hby at_89) rfl ?_
        show Steps p.tables e below (T204.setTop (mkF m 91 #[.val (.int nn), .val (.int q0), .val (.int q1), .val (.int q2), .val (.int q3), .val (.int q4), .val (.int (4 : Int32)), .val (.int x4), .val (.int x13), .val (.int x22), .val (.int x31), .val (.int x40), .val (.int x49), .val (.ref x189), .val (.ref wT), .unset, .unset] [(.int x4)])) _
        refine XS.bipush X204.here hx rfl (hb hby at_91) ?_
        refine XS.icmpNo X204.here hx rfl (hb hby at_93) rfl (teq (c215 : x4 = (116 : Int32))).2 ?_
        refine XS.iload X204.here hx rfl (hb hby at_96) rfl ?_
        refine XS.bipush X204.here hx rfl (hb hby at_98) ?_
        refine XS.icmpNo X204.here hx rfl (hb hby at_100) rfl (teq (c216 : x13 = (114 : Int32))).2 ?_
        refine XS.iload X204.here hx rfl (hb hby at_103) rfl ?_
        show Steps p.tables e below (T204.setTop (mkF m 105 #[.val (.int nn), .val (.int q0), .val (.int q1), .val (.int q2), .val (.int q3), .val (.int q4), .val (.int (4 : Int32)), .val (.int x4), .val (.int x13), .val (.int x22), .val (.int x31), .val (.int x40), .val (.int x49), .val (.ref x189), .val (.ref wT), .unset, .unset] [(.int x22)])) _
        refine XS.bipush X204.here hx rfl (hb hby at_105) ?_
        refine XS.icmpNo X204.here hx rfl (hb hby at_107) rfl (teq (c217 : x22 = (117 : Int32))).2 ?_
        refine XS.iload X204.here hx rfl (hb hby at_110) rfl ?_
        refine XS.bipush X204.here hx rfl (hb hby at_112) ?_
        refine XS.icmpYes X204.here hx rfl (pc0 := 114) (pc' := 130) rfl (hb hby at_114) rfl (teq (c218 : x31 = (101 : Int32))).1 (by decide) (by decide) ?_
        refine XS.iconst X204.here hx rfl (hb hby at_130) ?_
        show Steps p.tables e below (T204.setTop (mkF m 131 #[.val (.int nn), .val (.int q0), .val (.int q1), .val (.int q2), .val (.int q3), .val (.int q4), .val (.int (4 : Int32)), .val (.int x4), .val (.int x13), .val (.int x22), .val (.int x31), .val (.int x40), .val (.int x49), .val (.ref x189), .val (.ref wT), .unset, .unset] [(.int (1 : Int32))])) _
        refine XS.goto X204.here hx rfl (pc0 := 131) (pc' := 135) rfl (hb hby at_131) (by decide) (by decide) ?_
        refine XS.istore X204.here hx rfl (hb hby at_135) rfl (l' := #[.val (.int nn), .val (.int q0), .val (.int q1), .val (.int q2), .val (.int q3), .val (.int q4), .val (.int (4 : Int32)), .val (.int x4), .val (.int x13), .val (.int x22), .val (.int x31), .val (.int x40), .val (.int x49), .val (.ref x189), .val (.ref wT), .val (.int (1 : Int32)), .unset]) rfl ?_
        refine XS.iload X204.here hx rfl (hb hby at_137) rfl ?_
        refine XS.iconst X204.here hx rfl (hb hby at_139) ?_
        refine XS.icmpYes X204.here hx rfl (pc0 := 140) (pc' := 178) rfl (hb hby at_140) rfl (feq ((by decide) : ¬ ((4 : Int32) = (5 : Int32)))).2 (by decide) (by decide) ?_
        refine XS.iload X204.here hx rfl (hb hby at_178) rfl ?_
        show Steps p.tables e below (T204.setTop (mkF m 180 #[.val (.int nn), .val (.int q0), .val (.int q1), .val (.int q2), .val (.int q3), .val (.int q4), .val (.int (4 : Int32)), .val (.int x4), .val (.int x13), .val (.int x22), .val (.int x31), .val (.int x40), .val (.int x49), .val (.ref x189), .val (.ref wT), .val (.int (1 : Int32)), .unset] [(.int (4 : Int32))])) _
        refine XS.iconst X204.here hx rfl (hb hby at_180) ?_
        refine XS.icmpYes X204.here hx rfl (pc0 := 181) (pc' := 195) rfl (hb hby at_181) rfl (feq ((by decide) : ¬ ((4 : Int32) = (1 : Int32)))).2 (by decide) (by decide) ?_
        refine XS.iconst X204.here hx rfl (hb hby at_195) ?_
        refine XS.istore X204.here hx rfl (hb hby at_196) rfl (l' := #[.val (.int nn), .val (.int q0), .val (.int q1), .val (.int q2), .val (.int q3), .val (.int q4), .val (.int (4 : Int32)), .val (.int x4), .val (.int x13), .val (.int x22), .val (.int x31), .val (.int x40), .val (.int x49), .val (.ref x189), .val (.ref wT), .val (.int (1 : Int32)), .val (.int (0 : Int32))]) rfl ?_
        refine XS.iload X204.here hx rfl (hb hby at_198) rfl ?_
        refine XS.ifNo X204.here hx rfl (hb hby at_200) rfl ((if0 _ _).trans (feq ((by decide) : ¬ ((1 : Int32) = (0 : Int32)))).1) ?_
        show Steps p.tables e below (T204.setTop (mkF m 203 #[.val (.int nn), .val (.int q0), .val (.int q1), .val (.int q2), .val (.int q3), .val (.int q4), .val (.int (4 : Int32)), .val (.int x4), .val (.int x13), .val (.int x22), .val (.int x31), .val (.int x40), .val (.int x49), .val (.ref x189), .val (.ref wT), .val (.int (1 : Int32)), .val (.int (0 : Int32))] [])) _
        refine XS.aload X204.here hx rfl (hb hby at_203) rfl rfl ?_
        refine XS.ifnullNo X204.here hx rfl (hb hby at_205) rfl ?_
        refine XS.aload X204.here hx rfl (hb hby at_208) rfl rfl ?_
        show Steps p.tables e below (T204.setTop (mkF m 210 #[.val (.int nn), .val (.int q0), .val (.int q1), .val (.int q2), .val (.int q3), .val (.int q4), .val (.int (4 : Int32)), .val (.int x4), .val (.int x13), .val (.int x22), .val (.int x31), .val (.int x40), .val (.int x49), .val (.ref x189), .val (.ref wT), .val (.int (1 : Int32)), .val (.int (0 : Int32))] [(.ref wT)])) _
        refine st220.trans ?_
        refine XS.ifNo X220.here hx rfl (hb hby at_213) rfl ((if0 _ _).trans (feq ((by decide) : ¬ ((1 : Int32) = (0 : Int32)))).1) ?_
        refine XS.iconst X220.here hx rfl (hb hby at_216) ?_
        refine XS.goto X220.here hx rfl (pc0 := 217) (pc' := 221) rfl (hb hby at_217) (by decide) (by decide) ?_
        exact kt
      obtain ⟨fs, hr, hrun, hended, hRW⟩ := X220.leaveW hS204 (by rw [k222]; exact hk213) (v := some (.int (1 : Int32))) (fun h => by rw [Bd.returns] at h; cases h)
      refine ⟨_, _, pre0 _ (S224 _ ?_), hrun, hended, _, _, rfl, ?_, ?_, hRW.1, hRW.2.1, hRW.2.2.1, hRW.2.2.2.mono (by decide) (by decide)⟩
      · exact retN X220 hx (t := .boolean) Bd.returns (by simp) (hb hby at_221) hr
      · show Q_rm_law Z nn q0 q1 q2 q3 q4 zc fm wT wF h0 n0 _ T220.heap _
        rw [k222]
        exact ⟨rfl, N223⟩
      · show CHr Z own_EL s.vm s.heap T220.vm T220.heap
        rw [hh, k222]
        exact CR212.trans (CHv.at X220 hZ204 own_ew CR212.1)
    · have N225 := Fr.app N199 N209
      have CR226 := CR201.trans C204
      have hk227 : T204.heap.size ≤ T204.heap.size := Nat.le_refl _
      have O228 := O203.keep k210 all0
      have c229 : ¬ (([x4, x13, x22, x31] : List Int32) = [(116 : Int32), (114 : Int32), (117 : Int32), (101 : Int32)]) := fun q => c208 q.symm
      have S230 : ∀ t, Steps p.tables e below (T204.setTop (mkF m 89 #[.val (.int nn), .val (.int q0), .val (.int q1), .val (.int q2), .val (.int q3), .val (.int q4), .val (.int (4 : Int32)), .val (.int x4), .val (.int x13), .val (.int x22), .val (.int x31), .val (.int x40), .val (.int x49), .val (.ref x189), .val .null, .unset, .unset] [])) t → Steps p.tables e below (s₁.setTop (mkF m 0 #[.val (.int nn), .val (.int q0), .val (.int q1), .val (.int q2), .val (.int q3), .val (.int q4), .unset, .unset, .unset, .unset, .unset, .unset, .unset, .unset, .unset, .unset, .unset] [])) t := by
        intro t kt
        refine S57 t ?_
        refine XS.iload X48.here hx rfl (hb hby at_46) rfl ?_
        refine XS.bipush X48.here hx rfl (hb hby at_48) ?_
        refine XS.icmpYes X48.here hx rfl (pc0 := 50) (pc' := 57) rfl (hb hby at_50) rfl (feq ((by decide) : ¬ ((4 : Int32) = (7 : Int32)))).2 (by decide) (by decide) ?_
        refine XS.iload X48.here hx rfl (hb hby at_57) rfl ?_
        refine XS.iload X48.here hx rfl (hb hby at_59) rfl ?_
        refine XS.iload X48.here hx rfl (hb hby at_61) rfl ?_
        show Steps p.tables e below (T48.setTop (mkF m 63 #[.val (.int nn), .val (.int q0), .val (.int q1), .val (.int q2), .val (.int q3), .val (.int q4), .val (.int (4 : Int32)), .val (.int x4), .val (.int x13), .val (.int x22), .val (.int x31), .val (.int x40), .val (.int x49), .unset, .unset, .unset, .unset] [(.int x13), (.int x4), (.int (4 : Int32))])) _
        refine XS.iload X48.here hx rfl (hb hby at_63) rfl ?_
        refine XS.iload X48.here hx rfl (hb hby at_65) rfl ?_
        refine XS.iload X48.here hx rfl (hb hby at_67) rfl ?_
        refine XS.iload X48.here hx rfl (hb hby at_69) rfl ?_
        show Steps p.tables e below (T48.setTop (mkF m 71 #[.val (.int nn), .val (.int q0), .val (.int q1), .val (.int q2), .val (.int q3), .val (.int q4), .val (.int (4 : Int32)), .val (.int x4), .val (.int x13), .val (.int x22), .val (.int x31), .val (.int x40), .val (.int x49), .unset, .unset, .unset, .unset] [(.int x49), (.int x40), (.int x31), (.int x22), (.int x13), (.int x4), (.int (4 : Int32))])) _
        refine st188 _ ?_
        refine XS.astore X188.here hx rfl (hb hby at_74) rfl rfl (l' := #[.val (.int nn), .val (.int q0), .val (.int q1), .val (.int q2), .val (.int q3), .val (.int q4), .val (.int (4 : Int32)), .val (.int x4), .val (.int x13), .val (.int x22), .val (.int x31), .val (.int x40), .val (.int x49), .val (.ref x189), .unset, .unset, .unset]) rfl ?_
        refine XS.aload X188.here hx rfl (hb hby at_76) rfl rfl ?_
        show Steps p.tables e below (T188.setTop (mkF m 78 #[.val (.int nn), .val (.int q0), .val (.int q1), .val (.int q2), .val (.int q3), .val (.int q4), .val (.int (4 : Int32)), .val (.int x4), .val (.int x13), .val (.int x22), .val (.int x31), .val (.int x40), .val (.int x49), .val (.ref x189), .unset, .unset, .unset] [(.ref x189)])) _
        refine st204.trans ?_
        refine XS.astore X204.here hx rfl (hb hby at_81) rfl rfl (l' := #[.val (.int nn), .val (.int q0), .val (.int q1), .val (.int q2), .val (.int q3), .val (.int q4), .val (.int (4 : Int32)), .val (.int x4), .val (.int x13), .val (.int x22), .val (.int x31), .val (.int x40), .val (.int x49), .val (.ref x189), .val .null, .unset, .unset]) rfl ?_
        refine XS.iload X204.here hx rfl (hb hby at_83) rfl ?_
        refine XS.iconst X204.here hx rfl (hb hby at_85) ?_
        refine XS.icmpNo X204.here hx rfl (hb hby at_86) rfl (teq ((by decide) : (4 : Int32) = (4 : Int32))).2 ?_
        exact kt
      have S231 : ∀ t, Steps p.tables e below (T204.setTop (mkF m 135 #[.val (.int nn), .val (.int q0), .val (.int q1), .val (.int q2), .val (.int q3), .val (.int q4), .val (.int (4 : Int32)), .val (.int x4), .val (.int x13), .val (.int x22), .val (.int x31), .val (.int x40), .val (.int x49), .val (.ref x189), .val .null, .unset, .unset] [(.int (if ([x4, x13, x22, x31] : List Int32) = [(116 : Int32), (114 : Int32), (117 : Int32), (101 : Int32)] then (1 : Int32) else (0 : Int32)))])) t → Steps p.tables e below (s₁.setTop (mkF m 0 #[.val (.int nn), .val (.int q0), .val (.int q1), .val (.int q2), .val (.int q3), .val (.int q4), .unset, .unset, .unset, .unset, .unset, .unset, .unset, .unset, .unset, .unset, .unset] [])) t := by
        intro t kt
        have S232 : ∀ t, Steps p.tables e below (T204.setTop (mkF m 93 #[.val (.int nn), .val (.int q0), .val (.int q1), .val (.int q2), .val (.int q3), .val (.int q4), .val (.int (4 : Int32)), .val (.int x4), .val (.int x13), .val (.int x22), .val (.int x31), .val (.int x40), .val (.int x49), .val (.ref x189), .val .null, .unset, .unset] [(.int (116 : Int32)), (.int x4)])) t → Steps p.tables e below (s₁.setTop (mkF m 0 #[.val (.int nn), .val (.int q0), .val (.int q1), .val (.int q2), .val (.int q3), .val (.int q4), .unset, .unset, .unset, .unset, .unset, .unset, .unset, .unset, .unset, .unset, .unset] [])) t := by
          intro t kt
          refine S230 t ?_
          refine XS.iload X204.here hx rfl (hb hby at_89) rfl ?_
          refine XS.bipush X204.here hx rfl (hb hby at_91) ?_
          exact kt
        rcases Decidable.em (x4 = (116 : Int32)) with c233 | c233
        · have S234 : ∀ t, Steps p.tables e below (T204.setTop (mkF m 100 #[.val (.int nn), .val (.int q0), .val (.int q1), .val (.int q2), .val (.int q3), .val (.int q4), .val (.int (4 : Int32)), .val (.int x4), .val (.int x13), .val (.int x22), .val (.int x31), .val (.int x40), .val (.int x49), .val (.ref x189), .val .null, .unset, .unset] [(.int (114 : Int32)), (.int x13)])) t → Steps p.tables e below (s₁.setTop (mkF m 0 #[.val (.int nn), .val (.int q0), .val (.int q1), .val (.int q2), .val (.int q3), .val (.int q4), .unset, .unset, .unset, .unset, .unset, .unset, .unset, .unset, .unset, .unset, .unset] [])) t := by
            intro t kt
            refine S232 t ?_
            refine XS.icmpNo X204.here hx rfl (hb hby at_93) rfl (teq (c233 : x4 = (116 : Int32))).2 ?_
            refine XS.iload X204.here hx rfl (hb hby at_96) rfl ?_
            refine XS.bipush X204.here hx rfl (hb hby at_98) ?_
            exact kt
          rcases Decidable.em (x13 = (114 : Int32)) with c235 | c235
          · have S236 : ∀ t, Steps p.tables e below (T204.setTop (mkF m 107 #[.val (.int nn), .val (.int q0), .val (.int q1), .val (.int q2), .val (.int q3), .val (.int q4), .val (.int (4 : Int32)), .val (.int x4), .val (.int x13), .val (.int x22), .val (.int x31), .val (.int x40), .val (.int x49), .val (.ref x189), .val .null, .unset, .unset] [(.int (117 : Int32)), (.int x22)])) t → Steps p.tables e below (s₁.setTop (mkF m 0 #[.val (.int nn), .val (.int q0), .val (.int q1), .val (.int q2), .val (.int q3), .val (.int q4), .unset, .unset, .unset, .unset, .unset, .unset, .unset, .unset, .unset, .unset, .unset] [])) t := by
              intro t kt
              refine S234 t ?_
              refine XS.icmpNo X204.here hx rfl (hb hby at_100) rfl (teq (c235 : x13 = (114 : Int32))).2 ?_
              refine XS.iload X204.here hx rfl (hb hby at_103) rfl ?_
              refine XS.bipush X204.here hx rfl (hb hby at_105) ?_
              exact kt
            rcases Decidable.em (x22 = (117 : Int32)) with c237 | c237
            · have S238 : ∀ t, Steps p.tables e below (T204.setTop (mkF m 114 #[.val (.int nn), .val (.int q0), .val (.int q1), .val (.int q2), .val (.int q3), .val (.int q4), .val (.int (4 : Int32)), .val (.int x4), .val (.int x13), .val (.int x22), .val (.int x31), .val (.int x40), .val (.int x49), .val (.ref x189), .val .null, .unset, .unset] [(.int (101 : Int32)), (.int x31)])) t → Steps p.tables e below (s₁.setTop (mkF m 0 #[.val (.int nn), .val (.int q0), .val (.int q1), .val (.int q2), .val (.int q3), .val (.int q4), .unset, .unset, .unset, .unset, .unset, .unset, .unset, .unset, .unset, .unset, .unset] [])) t := by
                intro t kt
                refine S236 t ?_
                refine XS.icmpNo X204.here hx rfl (hb hby at_107) rfl (teq (c237 : x22 = (117 : Int32))).2 ?_
                refine XS.iload X204.here hx rfl (hb hby at_110) rfl ?_
                refine XS.bipush X204.here hx rfl (hb hby at_112) ?_
                exact kt
              rcases Decidable.em (x31 = (101 : Int32)) with c239 | c239
              · have S240 : ∀ t, Steps p.tables e below (T204.setTop (mkF m 135 #[.val (.int nn), .val (.int q0), .val (.int q1), .val (.int q2), .val (.int q3), .val (.int q4), .val (.int (4 : Int32)), .val (.int x4), .val (.int x13), .val (.int x22), .val (.int x31), .val (.int x40), .val (.int x49), .val (.ref x189), .val .null, .unset, .unset] [(.int (1 : Int32))])) t → Steps p.tables e below (s₁.setTop (mkF m 0 #[.val (.int nn), .val (.int q0), .val (.int q1), .val (.int q2), .val (.int q3), .val (.int q4), .unset, .unset, .unset, .unset, .unset, .unset, .unset, .unset, .unset, .unset, .unset] [])) t := by
                  intro t kt
                  refine S238 t ?_
                  refine XS.icmpYes X204.here hx rfl (pc0 := 114) (pc' := 130) rfl (hb hby at_114) rfl (teq (c239 : x31 = (101 : Int32))).1 (by decide) (by decide) ?_
                  refine XS.iconst X204.here hx rfl (hb hby at_130) ?_
                  refine XS.goto X204.here hx rfl (pc0 := 131) (pc' := 135) rfl (hb hby at_131) (by decide) (by decide) ?_
                  exact kt
                rw [if_pos (by rw [(c233 : x4 = (116 : Int32)), (c235 : x13 = (114 : Int32)), (c237 : x22 = (117 : Int32)), (c239 : x31 = (101 : Int32))])] at kt
                exact S240 t kt
              · have S241 : ∀ t, Steps p.tables e below (T204.setTop (mkF m 135 #[.val (.int nn), .val (.int q0), .val (.int q1), .val (.int q2), .val (.int q3), .val (.int q4), .val (.int (4 : Int32)), .val (.int x4), .val (.int x13), .val (.int x22), .val (.int x31), .val (.int x40), .val (.int x49), .val (.ref x189), .val .null, .unset, .unset] [(.int (0 : Int32))])) t → Steps p.tables e below (s₁.setTop (mkF m 0 #[.val (.int nn), .val (.int q0), .val (.int q1), .val (.int q2), .val (.int q3), .val (.int q4), .unset, .unset, .unset, .unset, .unset, .unset, .unset, .unset, .unset, .unset, .unset] [])) t := by
                  intro t kt
                  refine S238 t ?_
                  refine XS.icmpNo X204.here hx rfl (hb hby at_114) rfl (feq (c239 : ¬ (x31 = (101 : Int32)))).1 ?_
                  refine XS.iload X204.here hx rfl (hb hby at_117) rfl ?_
                  refine XS.iconst X204.here hx rfl (hb hby at_119) ?_
                  refine XS.icmpYes X204.here hx rfl (pc0 := 120) (pc' := 134) rfl (hb hby at_120) rfl (feq ((by decide) : ¬ ((4 : Int32) = (1 : Int32)))).2 (by decide) (by decide) ?_
                  refine XS.iconst X204.here hx rfl (hb hby at_134) ?_
                  exact kt
                rw [if_neg (fun q => (c239 : ¬ (x31 = (101 : Int32))) (congrArg (fun l => l.getD 3 0) q))] at kt
                exact S241 t kt
            · have S242 : ∀ t, Steps p.tables e below (T204.setTop (mkF m 135 #[.val (.int nn), .val (.int q0), .val (.int q1), .val (.int q2), .val (.int q3), .val (.int q4), .val (.int (4 : Int32)), .val (.int x4), .val (.int x13), .val (.int x22), .val (.int x31), .val (.int x40), .val (.int x49), .val (.ref x189), .val .null, .unset, .unset] [(.int (0 : Int32))])) t → Steps p.tables e below (s₁.setTop (mkF m 0 #[.val (.int nn), .val (.int q0), .val (.int q1), .val (.int q2), .val (.int q3), .val (.int q4), .unset, .unset, .unset, .unset, .unset, .unset, .unset, .unset, .unset, .unset, .unset] [])) t := by
                intro t kt
                refine S236 t ?_
                refine XS.icmpYes X204.here hx rfl (pc0 := 107) (pc' := 117) rfl (hb hby at_107) rfl (feq (c237 : ¬ (x22 = (117 : Int32)))).2 (by decide) (by decide) ?_
                refine XS.iload X204.here hx rfl (hb hby at_117) rfl ?_
                refine XS.iconst X204.here hx rfl (hb hby at_119) ?_
                refine XS.icmpYes X204.here hx rfl (pc0 := 120) (pc' := 134) rfl (hb hby at_120) rfl (feq ((by decide) : ¬ ((4 : Int32) = (1 : Int32)))).2 (by decide) (by decide) ?_
                refine XS.iconst X204.here hx rfl (hb hby at_134) ?_
                exact kt
              rw [if_neg (fun q => (c237 : ¬ (x22 = (117 : Int32))) (congrArg (fun l => l.getD 2 0) q))] at kt
              exact S242 t kt
          · have S243 : ∀ t, Steps p.tables e below (T204.setTop (mkF m 135 #[.val (.int nn), .val (.int q0), .val (.int q1), .val (.int q2), .val (.int q3), .val (.int q4), .val (.int (4 : Int32)), .val (.int x4), .val (.int x13), .val (.int x22), .val (.int x31), .val (.int x40), .val (.int x49), .val (.ref x189), .val .null, .unset, .unset] [(.int (0 : Int32))])) t → Steps p.tables e below (s₁.setTop (mkF m 0 #[.val (.int nn), .val (.int q0), .val (.int q1), .val (.int q2), .val (.int q3), .val (.int q4), .unset, .unset, .unset, .unset, .unset, .unset, .unset, .unset, .unset, .unset, .unset] [])) t := by
              intro t kt
              refine S234 t ?_
              refine XS.icmpYes X204.here hx rfl (pc0 := 100) (pc' := 117) rfl (hb hby at_100) rfl (feq (c235 : ¬ (x13 = (114 : Int32)))).2 (by decide) (by decide) ?_
              refine XS.iload X204.here hx rfl (hb hby at_117) rfl ?_
              refine XS.iconst X204.here hx rfl (hb hby at_119) ?_
              refine XS.icmpYes X204.here hx rfl (pc0 := 120) (pc' := 134) rfl (hb hby at_120) rfl (feq ((by decide) : ¬ ((4 : Int32) = (1 : Int32)))).2 (by decide) (by decide) ?_
              refine XS.iconst X204.here hx rfl (hb hby at_134) ?_
              exact kt
            rw [if_neg (fun q => (c235 : ¬ (x13 = (114 : Int32))) (congrArg (fun l => l.getD 1 0) q))] at kt
            exact S243 t kt
        · have S244 : ∀ t, Steps p.tables e below (T204.setTop (mkF m 135 #[.val (.int nn), .val (.int q0), .val (.int q1), .val (.int q2), .val (.int q3), .val (.int q4), .val (.int (4 : Int32)), .val (.int x4), .val (.int x13), .val (.int x22), .val (.int x31), .val (.int x40), .val (.int x49), .val (.ref x189), .val .null, .unset, .unset] [(.int (0 : Int32))])) t → Steps p.tables e below (s₁.setTop (mkF m 0 #[.val (.int nn), .val (.int q0), .val (.int q1), .val (.int q2), .val (.int q3), .val (.int q4), .unset, .unset, .unset, .unset, .unset, .unset, .unset, .unset, .unset, .unset, .unset] [])) t := by
            intro t kt
            refine S232 t ?_
            refine XS.icmpYes X204.here hx rfl (pc0 := 93) (pc' := 117) rfl (hb hby at_93) rfl (feq (c233 : ¬ (x4 = (116 : Int32)))).2 (by decide) (by decide) ?_
            refine XS.iload X204.here hx rfl (hb hby at_117) rfl ?_
            refine XS.iconst X204.here hx rfl (hb hby at_119) ?_
            refine XS.icmpYes X204.here hx rfl (pc0 := 120) (pc' := 134) rfl (hb hby at_120) rfl (feq ((by decide) : ¬ ((4 : Int32) = (1 : Int32)))).2 (by decide) (by decide) ?_
            refine XS.iconst X204.here hx rfl (hb hby at_134) ?_
            exact kt
          rw [if_neg (fun q => (c233 : ¬ (x4 = (116 : Int32))) (congrArg (fun l => l.getD 0 0) q))] at kt
          exact S244 t kt
      have q245 : (if ([x4, x13, x22, x31] : List Int32) = [(116 : Int32), (114 : Int32), (117 : Int32), (101 : Int32)] then (1 : Int32) else (0 : Int32)) = (0 : Int32) := if_neg c229
      have S246 : ∀ t, Steps p.tables e below (T204.setTop (mkF m 256 #[.val (.int nn), .val (.int q0), .val (.int q1), .val (.int q2), .val (.int q3), .val (.int q4), .val (.int (4 : Int32)), .val (.int x4), .val (.int x13), .val (.int x22), .val (.int x31), .val (.int x40), .val (.int x49), .val (.ref x189), .val .null, .val (.int (if ([x4, x13, x22, x31] : List Int32) = [(116 : Int32), (114 : Int32), (117 : Int32), (101 : Int32)] then (1 : Int32) else (0 : Int32))), .val (.int (0 : Int32))] [(.int (1 : Int32))])) t → Steps p.tables e below (s₁.setTop (mkF m 0 #[.val (.int nn), .val (.int q0), .val (.int q1), .val (.int q2), .val (.int q3), .val (.int q4), .unset, .unset, .unset, .unset, .unset, .unset, .unset, .unset, .unset, .unset, .unset] [])) t := by
        intro t kt
        refine S231 t ?_
        refine XS.istore X204.here hx rfl (hb hby at_135) rfl (l' := #[.val (.int nn), .val (.int q0), .val (.int q1), .val (.int q2), .val (.int q3), .val (.int q4), .val (.int (4 : Int32)), .val (.int x4), .val (.int x13), .val (.int x22), .val (.int x31), .val (.int x40), .val (.int x49), .val (.ref x189), .val .null, .val (.int (if ([x4, x13, x22, x31] : List Int32) = [(116 : Int32), (114 : Int32), (117 : Int32), (101 : Int32)] then (1 : Int32) else (0 : Int32))), .unset]) rfl ?_
        refine XS.iload X204.here hx rfl (hb hby at_137) rfl ?_
        refine XS.iconst X204.here hx rfl (hb hby at_139) ?_
        refine XS.icmpYes X204.here hx rfl (pc0 := 140) (pc' := 178) rfl (hb hby at_140) rfl (feq ((by decide) : ¬ ((4 : Int32) = (5 : Int32)))).2 (by decide) (by decide) ?_
        refine XS.iload X204.here hx rfl (hb hby at_178) rfl ?_
        refine XS.iconst X204.here hx rfl (hb hby at_180) ?_
        show Steps p.tables e below (T204.setTop (mkF m 181 #[.val (.int nn), .val (.int q0), .val (.int q1), .val (.int q2), .val (.int q3), .val (.int q4), .val (.int (4 : Int32)), .val (.int x4), .val (.int x13), .val (.int x22), .val (.int x31), .val (.int x40), .val (.int x49), .val (.ref x189), .val .null, .val (.int (if ([x4, x13, x22, x31] : List Int32) = [(116 : Int32), (114 : Int32), (117 : Int32), (101 : Int32)] then (1 : Int32) else (0 : Int32))), .unset] [(.int (1 : Int32)), (.int (4 : Int32))])) _
        refine XS.icmpYes X204.here hx rfl (pc0 := 181) (pc' := 195) rfl (hb hby at_181) rfl (feq ((by decide) : ¬ ((4 : Int32) = (1 : Int32)))).2 (by decide) (by decide) ?_
        refine XS.iconst X204.here hx rfl (hb hby at_195) ?_
        refine XS.istore X204.here hx rfl (hb hby at_196) rfl (l' := #[.val (.int nn), .val (.int q0), .val (.int q1), .val (.int q2), .val (.int q3), .val (.int q4), .val (.int (4 : Int32)), .val (.int x4), .val (.int x13), .val (.int x22), .val (.int x31), .val (.int x40), .val (.int x49), .val (.ref x189), .val .null, .val (.int (if ([x4, x13, x22, x31] : List Int32) = [(116 : Int32), (114 : Int32), (117 : Int32), (101 : Int32)] then (1 : Int32) else (0 : Int32))), .val (.int (0 : Int32))]) rfl ?_
        refine XS.iload X204.here hx rfl (hb hby at_198) rfl ?_
        refine XS.ifYes X204.here hx rfl (pc0 := 200) (pc' := 222) rfl (hb hby at_200) rfl ((if0 _ _).trans (teq (q245 : (if ([x4, x13, x22, x31] : List Int32) = [(116 : Int32), (114 : Int32), (117 : Int32), (101 : Int32)] then (1 : Int32) else (0 : Int32)) = (0 : Int32))).1) (by decide) (by decide) ?_
        refine XS.iload X204.here hx rfl (hb hby at_222) rfl ?_
        show Steps p.tables e below (T204.setTop (mkF m 224 #[.val (.int nn), .val (.int q0), .val (.int q1), .val (.int q2), .val (.int q3), .val (.int q4), .val (.int (4 : Int32)), .val (.int x4), .val (.int x13), .val (.int x22), .val (.int x31), .val (.int x40), .val (.int x49), .val (.ref x189), .val .null, .val (.int (if ([x4, x13, x22, x31] : List Int32) = [(116 : Int32), (114 : Int32), (117 : Int32), (101 : Int32)] then (1 : Int32) else (0 : Int32))), .val (.int (0 : Int32))] [(.int (0 : Int32))])) _
        refine XS.ifYes X204.here hx rfl (pc0 := 224) (pc' := 246) rfl (hb hby at_224) rfl ((if0 _ _).trans (teq ((by decide) : (0 : Int32) = (0 : Int32))).1) (by decide) (by decide) ?_
        refine XS.aload X204.here hx rfl (hb hby at_246) rfl rfl ?_
        refine XS.ifnonnullNo X204.here hx rfl (hb hby at_248) rfl ?_
        refine XS.iconst X204.here hx rfl (hb hby at_251) ?_
        refine XS.goto X204.here hx rfl (pc0 := 252) (pc' := 256) rfl (hb hby at_252) (by decide) (by decide) ?_
        exact kt
      obtain ⟨fs, hr, hrun, hended, hRW⟩ := X204.leaveW hS204 (by exact hk227) (v := some (.int (1 : Int32))) (fun h => by rw [Bd.returns] at h; cases h)
      refine ⟨_, _, pre0 _ (S246 _ ?_), hrun, hended, _, _, rfl, ?_, ?_, hRW.1, hRW.2.1, hRW.2.2.1, hRW.2.2.2.mono (by decide) (by decide)⟩
      · exact retN X204 hx (t := .boolean) Bd.returns (by simp) (hb hby at_256) hr
      · show Q_rm_law Z nn q0 q1 q2 q3 q4 zc fm wT wF h0 n0 _ T204.heap _
        exact ⟨rfl, N225⟩
      · show CHr Z own_EL s.vm s.heap T204.vm T204.heap
        rw [hh]
        exact CR226.trans (CHv.at X204 hZ204 own_ew CR226.1)
  · obtain ⟨_, _, ⟨T247, L247, k247, n247⟩, -, X247, ⟨Lc247, hQ247, l247, y247, z247⟩, st247⟩ := Jvm.LawKit.callS X48 hx (y := (⟨"com/example/pico_notify/piconotify/XmlBoolPinLaw", "str", "(ICCCCCC)Ljava/lang/String;"⟩ : MethodName)) ho48 (mvT hZ48 (own_w hw 37 rfl)) (mvT hZ48 (own_w hw 38 rfl)) (mvT hZ48 (own_w hw 2 rfl)) (mvT hZ48 (own_w hw 39 rfl)) (by decide) (backOf (W := 0) (rm_str5 l Z a0 hw [] x4 x13 x22 x31 x40 x49 zc T48.heap n0 O56 c5 c14 c23 c32 c41 c50 S_C hzc) hZ48 (own_w hw 39 rfl) (own_w hw 2 rfl) (by decide) (by decide)) (g := (mkF m 71 #[.val (.int nn), .val (.int q0), .val (.int q1), .val (.int q2), .val (.int q3), .val (.int q4), .val (.int (5 : Int32)), .val (.int x4), .val (.int x13), .val (.int x22), .val (.int x31), .val (.int x40), .val (.int x49), .unset, .unset, .unset, .unset] [(.int x49), (.int x40), (.int x31), (.int x22), (.int x13), (.int x4), (.int (5 : Int32))])) rfl (by rw [hml]; rfl) (argsL := [(.int (5 : Int32)), (.int x4), (.int x13), (.int x22), (.int x31), (.int x40), (.int x49)]) (rest := []) (lenOf pd_4 rfl) rfl (by show 2 * 0 + _ ≤ _; exact Nat.le_of_eq rfl) (hb hby at_71) (fun _ _ => ⟨rfl, rfl, (by decide : 12 + 3 ≤ _), (by decide : 264 + 14 ≤ _)⟩)
    dsimp only [Pt.U, Pt.locs, Pt.cells, Pt.slots] at X247 l247 y247 z247 st247 hQ247
    subst l247 y247 z247
    obtain ⟨x248, x249, x250, rfl, N251, k252, f253, f254, f255, f256, f257⟩ := hQ247
    have N258 := Fr.app N53 N251
    have ge259 : n0 ≤ x248 := by rw [← O56.1]; exact Nat.le_trans O56.2.1 f253
    have CR260 := CR54.trans (CHr.keep k252 sf0 CR54.1)
    have hk261 := Nat.le_trans hk55 k252.1
    have O262 := O56.keep k252 all0
    obtain ⟨_, _, ⟨T263, L263, k263, n263⟩, -, Xq263, hSq263, hgq263, ⟨Lc263, hQ263, l263, y263, z263, C263⟩, st263⟩ := callSS X247 hx (y := (⟨"com/example/pico_notify/piconotify/Xml", "bool", "(Ljava/lang/String;)Ljava/lang/Boolean;"⟩ : MethodName)) ho48 (mvT hZ48 (own_w hw 53 rfl)) (mvT hZ48 (own_w hw 54 rfl)) (mvT hZ48 (own_w hw 55 rfl)) (mvT hZ48 (own_w hw 56 rfl)) (by decide) (own_backS (W := 0) (rm := ({ frames := 2, cells := 8, slots := 60, locals := 28 } : Room)) (xs := []) (rm_bool5 l Z a0 hw [] x248 x249 x250 x4 x13 x22 x31 x40 zc wT wF T247.heap n0 O262 f254 f255 f256 f257 c5 c14 c23 c32 c41 S_C hzc S_T S_F0) hZ48 (own_w hw 56 rfl) (own_w hw 55 rfl) (by decide) (by decide) own_ew CR260.1 all0) (g := (mkF m 78 #[.val (.int nn), .val (.int q0), .val (.int q1), .val (.int q2), .val (.int q3), .val (.int q4), .val (.int (5 : Int32)), .val (.int x4), .val (.int x13), .val (.int x22), .val (.int x31), .val (.int x40), .val (.int x49), .val (.ref x248), .unset, .unset, .unset] [(.ref x248)])) rfl (by rw [hml]; rfl) (argsL := [(.ref x248)]) (rest := []) (lenOf pd_5 rfl) rfl (by show 2 * 0 + _ ≤ _; exact Nat.le_of_eq rfl) (hb hby at_78) (fun _ _ => ⟨rfl, rfl, (by decide : 15 + 8 ≤ _), (by decide : 278 + 60 ≤ _)⟩)
    dsimp only [Pt.U, Pt.locs, Pt.cells, Pt.slots] at Xq263 hSq263 hgq263 l263 y263 z263 st263 hQ263 C263
    obtain ⟨X263, hS263, hZ263, ho263⟩ := rebS hS48 (by exact hk261) Xq263 hSq263 hgq263 hZ48 ho48
    subst l263 y263 z263
    rcases hQ263 with ⟨c264, rfl, N265, k266⟩ | ⟨c267, rfl, N268, k269⟩
    · have N270 := Fr.app N258 N265
      have CR271 := CR260.trans C263
      have hk272 : T263.heap.size ≤ T263.heap.size := Nat.le_refl _
      have O273 := O262.keep k266 all0
      have c274 : x4 = (102 : Int32) := congrArg (fun l => l.getD 0 0) c264.symm
      have c275 : x13 = (97 : Int32) := congrArg (fun l => l.getD 1 0) c264.symm
      have c276 : x22 = (108 : Int32) := congrArg (fun l => l.getD 2 0) c264.symm
      have c277 : x31 = (115 : Int32) := congrArg (fun l => l.getD 3 0) c264.symm
      have c278 : x40 = (101 : Int32) := congrArg (fun l => l.getD 4 0) c264.symm
      have c279 : ([x4, x13, x22, x31, x40] : List Int32) = [(102 : Int32), (97 : Int32), (108 : Int32), (115 : Int32), (101 : Int32)] := c264.symm
      obtain ⟨cq280, kq280, q280a, q280b, q280c⟩ := isOf hZ263 rfl (E_F.ext O273.2)
      obtain ⟨_, _, ⟨T280, L280, k280, n280⟩, -, X280, ⟨Lc280, hQ280, l280, y280, z280⟩, st280⟩ := X263.virtualBack hx (y := (⟨"java/lang/Boolean", "booleanValue", "()Z"⟩ : MethodName)) (z := (⟨"java/lang/Boolean", "booleanValue", "()Z"⟩ : MethodName)) ho263 (mvT hZ263 (own_w hw 82 rfl)) (mvT hZ263 (own_w hw 83 rfl)) (notFace_of_selects (args := #[]) (mvT hZ263 (own_w hw 85 rfl))) (mvT hZ263 (own_w hw 85 rfl)) (mvT hZ263 (own_w hw 84 rfl)) (by decide) (backOf (W := 0) (rm_bv0 l Z a0 hw [] wF T263.heap n0 O273 V_F) hZ263 (own_w hw 86 rfl) (own_w hw 81 rfl) (by decide) (by decide)) q280a q280c (g := (mkF m 234 #[.val (.int nn), .val (.int q0), .val (.int q1), .val (.int q2), .val (.int q3), .val (.int q4), .val (.int (5 : Int32)), .val (.int x4), .val (.int x13), .val (.int x22), .val (.int x31), .val (.int x40), .val (.int x49), .val (.ref x248), .val (.ref wF), .val (.int (0 : Int32)), .val (.int (1 : Int32))] [(.ref wF)])) rfl (by rw [hml]; rfl) (Steps.refl _) (argsL := []) (rest := []) (lenOf pd_6 rfl) rfl (by show 2 * 0 + _ ≤ _; exact Nat.le_of_eq rfl) (hb hby at_234) (fun _ _ => ⟨rfl, rfl, (by decide : 23 + 0 ≤ _), (by decide : 338 + 0 ≤ _)⟩)
      dsimp only [Pt.U, Pt.locs, Pt.cells, Pt.slots] at X280 l280 y280 z280 st280 hQ280
      subst l280 y280 z280
      obtain ⟨rfl, N281, k282⟩ := hQ280
      have N283 := Fr.app N270 N281
      have S284 : ∀ t, Steps p.tables e below (T280.setTop (mkF m 245 #[.val (.int nn), .val (.int q0), .val (.int q1), .val (.int q2), .val (.int q3), .val (.int q4), .val (.int (5 : Int32)), .val (.int x4), .val (.int x13), .val (.int x22), .val (.int x31), .val (.int x40), .val (.int x49), .val (.ref x248), .val (.ref wF), .val (.int (0 : Int32)), .val (.int (1 : Int32))] [(.int (1 : Int32))])) t → Steps p.tables e below (s₁.setTop (mkF m 0 #[.val (.int nn), .val (.int q0), .val (.int q1), .val (.int q2), .val (.int q3), .val (.int q4), .unset, .unset, .unset, .unset, .unset, .unset, .unset, .unset, .unset, .unset, .unset] [])) t := by
        intro t kt
        refine S57 t ?_
        refine XS.iload X48.here hx rfl (hb hby at_46) rfl ?_
        refine XS.bipush X48.here hx rfl (hb hby at_48) ?_
        refine XS.icmpYes X48.here hx rfl (pc0 := 50) (pc' := 57) rfl (hb hby at_50) rfl (feq ((by decide) : ¬ ((5 : Int32) = (7 : Int32)))).2 (by decide) (by decide) ?_
        refine XS.iload X48.here hx rfl (hb hby at_57) rfl ?_
        refine XS.iload X48.here hx rfl (hb hby at_59) rfl ?_
        refine XS.iload X48.here hx rfl (hb hby at_61) rfl ?_
        show Steps p.tables e below (T48.setTop (mkF m 63 #[.val (.int nn), .val (.int q0), .val (.int q1), .val (.int q2), .val (.int q3), .val (.int q4), .val (.int (5 : Int32)), .val (.int x4), .val (.int x13), .val (.int x22), .val (.int x31), .val (.int x40), .val (.int x49), .unset, .unset, .unset, .unset] [(.int x13), (.int x4), (.int (5 : Int32))])) _
        refine XS.iload X48.here hx rfl (hb hby at_63) rfl ?_
        refine XS.iload X48.here hx rfl (hb hby at_65) rfl ?_
        refine XS.iload X48.here hx rfl (hb hby at_67) rfl ?_
        refine XS.iload X48.here hx rfl (hb hby at_69) rfl ?_
        show Steps p.tables e below (T48.setTop (mkF m 71 #[.val (.int nn), .val (.int q0), .val (.int q1), .val (.int q2), .val (.int q3), .val (.int q4), .val (.int (5 : Int32)), .val (.int x4), .val (.int x13), .val (.int x22), .val (.int x31), .val (.int x40), .val (.int x49), .unset, .unset, .unset, .unset] [(.int x49), (.int x40), (.int x31), (.int x22), (.int x13), (.int x4), (.int (5 : Int32))])) _
        refine st247 _ ?_
        refine XS.astore X247.here hx rfl (hb hby at_74) rfl rfl (l' := #[.val (.int nn), .val (.int q0), .val (.int q1), .val (.int q2), .val (.int q3), .val (.int q4), .val (.int (5 : Int32)), .val (.int x4), .val (.int x13), .val (.int x22), .val (.int x31), .val (.int x40), .val (.int x49), .val (.ref x248), .unset, .unset, .unset]) rfl ?_
        refine XS.aload X247.here hx rfl (hb hby at_76) rfl rfl ?_
        show Steps p.tables e below (T247.setTop (mkF m 78 #[.val (.int nn), .val (.int q0), .val (.int q1), .val (.int q2), .val (.int q3), .val (.int q4), .val (.int (5 : Int32)), .val (.int x4), .val (.int x13), .val (.int x22), .val (.int x31), .val (.int x40), .val (.int x49), .val (.ref x248), .unset, .unset, .unset] [(.ref x248)])) _
        refine st263.trans ?_
        refine XS.astore X263.here hx rfl (hb hby at_81) rfl rfl (l' := #[.val (.int nn), .val (.int q0), .val (.int q1), .val (.int q2), .val (.int q3), .val (.int q4), .val (.int (5 : Int32)), .val (.int x4), .val (.int x13), .val (.int x22), .val (.int x31), .val (.int x40), .val (.int x49), .val (.ref x248), .val (.ref wF), .unset, .unset]) rfl ?_
        refine XS.iload X263.here hx rfl (hb hby at_83) rfl ?_
        refine XS.iconst X263.here hx rfl (hb hby at_85) ?_
        refine XS.icmpYes X263.here hx rfl (pc0 := 86) (pc' := 117) rfl (hb hby at_86) rfl (feq ((by decide) : ¬ ((5 : Int32) = (4 : Int32)))).2 (by decide) (by decide) ?_
        refine XS.iload X263.here hx rfl (hb hby at_117) rfl ?_
        show Steps p.tables e below (T263.setTop (mkF m 119 #[.val (.int nn), .val (.int q0), .val (.int q1), .val (.int q2), .val (.int q3), .val (.int q4), .val (.int (5 : Int32)), .val (.int x4), .val (.int x13), .val (.int x22), .val (.int x31), .val (.int x40), .val (.int x49), .val (.ref x248), .val (.ref wF), .unset, .unset] [(.int (5 : Int32))])) _
        refine XS.iconst X263.here hx rfl (hb hby at_119) ?_
        refine XS.icmpYes X263.here hx rfl (pc0 := 120) (pc' := 134) rfl (hb hby at_120) rfl (feq ((by decide) : ¬ ((5 : Int32) = (1 : Int32)))).2 (by decide) (by decide) ?_
        refine XS.iconst X263.here hx rfl (hb hby at_134) ?_
        refine XS.istore X263.here hx rfl (hb hby at_135) rfl (l' := #[.val (.int nn), .val (.int q0), .val (.int q1), .val (.int q2), .val (.int q3), .val (.int q4), .val (.int (5 : Int32)), .val (.int x4), .val (.int x13), .val (.int x22), .val (.int x31), .val (.int x40), .val (.int x49), .val (.ref x248), .val (.ref wF), .val (.int (0 : Int32)), .unset]) rfl ?_
        refine XS.iload X263.here hx rfl (hb hby at_137) rfl ?_
        refine XS.iconst X263.here hx rfl (hb hby at_139) ?_
        show Steps p.tables e below (T263.setTop (mkF m 140 #[.val (.int nn), .val (.int q0), .val (.int q1), .val (.int q2), .val (.int q3), .val (.int q4), .val (.int (5 : Int32)), .val (.int x4), .val (.int x13), .val (.int x22), .val (.int x31), .val (.int x40), .val (.int x49), .val (.ref x248), .val (.ref wF), .val (.int (0 : Int32)), .unset] [(.int (5 : Int32)), (.int (5 : Int32))])) _
        refine XS.icmpNo X263.here hx rfl (hb hby at_140) rfl (teq ((by decide) : (5 : Int32) = (5 : Int32))).2 ?_
        refine XS.iload X263.here hx rfl (hb hby at_143) rfl ?_
        refine XS.bipush X263.here hx rfl (hb hby at_145) ?_
        refine XS.icmpNo X263.here hx rfl (hb hby at_147) rfl (teq (c274 : x4 = (102 : Int32))).2 ?_
        refine XS.iload X263.here hx rfl (hb hby at_150) rfl ?_
        refine XS.bipush X263.here hx rfl (hb hby at_152) ?_
        show Steps p.tables e below (T263.setTop (mkF m 154 #[.val (.int nn), .val (.int q0), .val (.int q1), .val (.int q2), .val (.int q3), .val (.int q4), .val (.int (5 : Int32)), .val (.int x4), .val (.int x13), .val (.int x22), .val (.int x31), .val (.int x40), .val (.int x49), .val (.ref x248), .val (.ref wF), .val (.int (0 : Int32)), .unset] [(.int (97 : Int32)), (.int x13)])) _
        refine XS.icmpNo X263.here hx rfl (hb hby at_154) rfl (teq (c275 : x13 = (97 : Int32))).2 ?_
        refine XS.iload X263.here hx rfl (hb hby at_157) rfl ?_
        refine XS.bipush X263.here hx rfl (hb hby at_159) ?_
        refine XS.icmpNo X263.here hx rfl (hb hby at_161) rfl (teq (c276 : x22 = (108 : Int32))).2 ?_
        refine XS.iload X263.here hx rfl (hb hby at_164) rfl ?_
        refine XS.bipush X263.here hx rfl (hb hby at_166) ?_
        show Steps p.tables e below (T263.setTop (mkF m 168 #[.val (.int nn), .val (.int q0), .val (.int q1), .val (.int q2), .val (.int q3), .val (.int q4), .val (.int (5 : Int32)), .val (.int x4), .val (.int x13), .val (.int x22), .val (.int x31), .val (.int x40), .val (.int x49), .val (.ref x248), .val (.ref wF), .val (.int (0 : Int32)), .unset] [(.int (115 : Int32)), (.int x31)])) _
        refine XS.icmpNo X263.here hx rfl (hb hby at_168) rfl (teq (c277 : x31 = (115 : Int32))).2 ?_
        refine XS.iload X263.here hx rfl (hb hby at_171) rfl ?_
        refine XS.bipush X263.here hx rfl (hb hby at_173) ?_
        refine XS.icmpYes X263.here hx rfl (pc0 := 175) (pc' := 191) rfl (hb hby at_175) rfl (teq (c278 : x40 = (101 : Int32))).1 (by decide) (by decide) ?_
        refine XS.iconst X263.here hx rfl (hb hby at_191) ?_
        refine XS.goto X263.here hx rfl (pc0 := 192) (pc' := 196) rfl (hb hby at_192) (by decide) (by decide) ?_
        show Steps p.tables e below (T263.setTop (mkF m 196 #[.val (.int nn), .val (.int q0), .val (.int q1), .val (.int q2), .val (.int q3), .val (.int q4), .val (.int (5 : Int32)), .val (.int x4), .val (.int x13), .val (.int x22), .val (.int x31), .val (.int x40), .val (.int x49), .val (.ref x248), .val (.ref wF), .val (.int (0 : Int32)), .unset] [(.int (1 : Int32))])) _
        refine XS.istore X263.here hx rfl (hb hby at_196) rfl (l' := #[.val (.int nn), .val (.int q0), .val (.int q1), .val (.int q2), .val (.int q3), .val (.int q4), .val (.int (5 : Int32)), .val (.int x4), .val (.int x13), .val (.int x22), .val (.int x31), .val (.int x40), .val (.int x49), .val (.ref x248), .val (.ref wF), .val (.int (0 : Int32)), .val (.int (1 : Int32))]) rfl ?_
        refine XS.iload X263.here hx rfl (hb hby at_198) rfl ?_
        refine XS.ifYes X263.here hx rfl (pc0 := 200) (pc' := 222) rfl (hb hby at_200) rfl ((if0 _ _).trans (teq ((by decide) : (0 : Int32) = (0 : Int32))).1) (by decide) (by decide) ?_
        refine XS.iload X263.here hx rfl (hb hby at_222) rfl ?_
        refine XS.ifNo X263.here hx rfl (hb hby at_224) rfl ((if0 _ _).trans (feq ((by decide) : ¬ ((1 : Int32) = (0 : Int32)))).1) ?_
        refine XS.aload X263.here hx rfl (hb hby at_227) rfl rfl ?_
        show Steps p.tables e below (T263.setTop (mkF m 229 #[.val (.int nn), .val (.int q0), .val (.int q1), .val (.int q2), .val (.int q3), .val (.int q4), .val (.int (5 : Int32)), .val (.int x4), .val (.int x13), .val (.int x22), .val (.int x31), .val (.int x40), .val (.int x49), .val (.ref x248), .val (.ref wF), .val (.int (0 : Int32)), .val (.int (1 : Int32))] [(.ref wF)])) _
        refine XS.ifnullNo X263.here hx rfl (hb hby at_229) rfl ?_
        refine XS.aload X263.here hx rfl (hb hby at_232) rfl rfl ?_
        show Steps p.tables e below (T263.setTop (mkF m 234 #[.val (.int nn), .val (.int q0), .val (.int q1), .val (.int q2), .val (.int q3), .val (.int q4), .val (.int (5 : Int32)), .val (.int x4), .val (.int x13), .val (.int x22), .val (.int x31), .val (.int x40), .val (.int x49), .val (.ref x248), .val (.ref wF), .val (.int (0 : Int32)), .val (.int (1 : Int32))] [(.ref wF)])) _
        refine st280.trans ?_
        refine XS.ifNo X280.here hx rfl (hb hby at_237) rfl ((if0 _ _).trans (teq ((by decide) : (0 : Int32) = (0 : Int32))).2) ?_
        refine XS.iconst X280.here hx rfl (hb hby at_240) ?_
        refine XS.goto X280.here hx rfl (pc0 := 241) (pc' := 245) rfl (hb hby at_241) (by decide) (by decide) ?_
        exact kt
      obtain ⟨fs, hr, hrun, hended, hRW⟩ := X280.leaveW hS263 (by rw [k282]; exact hk272) (v := some (.int (1 : Int32))) (fun h => by rw [Bd.returns] at h; cases h)
      refine ⟨_, _, pre0 _ (S284 _ ?_), hrun, hended, _, _, rfl, ?_, ?_, hRW.1, hRW.2.1, hRW.2.2.1, hRW.2.2.2.mono (by decide) (by decide)⟩
      · exact retN X280 hx (t := .boolean) Bd.returns (by simp) (hb hby at_245) hr
      · show Q_rm_law Z nn q0 q1 q2 q3 q4 zc fm wT wF h0 n0 _ T280.heap _
        rw [k282]
        exact ⟨rfl, N283⟩
      · show CHr Z own_EL s.vm s.heap T280.vm T280.heap
        rw [hh, k282]
        exact CR271.trans (CHv.at X280 hZ263 own_ew CR271.1)
    · have N285 := Fr.app N258 N268
      have CR286 := CR260.trans C263
      have hk287 : T263.heap.size ≤ T263.heap.size := Nat.le_refl _
      have O288 := O262.keep k269 all0
      have c289 : ¬ (([x4, x13, x22, x31, x40] : List Int32) = [(102 : Int32), (97 : Int32), (108 : Int32), (115 : Int32), (101 : Int32)]) := fun q => c267 q.symm
      have S290 : ∀ t, Steps p.tables e below (T263.setTop (mkF m 143 #[.val (.int nn), .val (.int q0), .val (.int q1), .val (.int q2), .val (.int q3), .val (.int q4), .val (.int (5 : Int32)), .val (.int x4), .val (.int x13), .val (.int x22), .val (.int x31), .val (.int x40), .val (.int x49), .val (.ref x248), .val .null, .val (.int (0 : Int32)), .unset] [])) t → Steps p.tables e below (s₁.setTop (mkF m 0 #[.val (.int nn), .val (.int q0), .val (.int q1), .val (.int q2), .val (.int q3), .val (.int q4), .unset, .unset, .unset, .unset, .unset, .unset, .unset, .unset, .unset, .unset, .unset] [])) t := by
        intro t kt
        refine S57 t ?_
        refine XS.iload X48.here hx rfl (hb hby at_46) rfl ?_
        refine XS.bipush X48.here hx rfl (hb hby at_48) ?_
        refine XS.icmpYes X48.here hx rfl (pc0 := 50) (pc' := 57) rfl (hb hby at_50) rfl (feq ((by decide) : ¬ ((5 : Int32) = (7 : Int32)))).2 (by decide) (by decide) ?_
        refine XS.iload X48.here hx rfl (hb hby at_57) rfl ?_
        refine XS.iload X48.here hx rfl (hb hby at_59) rfl ?_
        refine XS.iload X48.here hx rfl (hb hby at_61) rfl ?_
        show Steps p.tables e below (T48.setTop (mkF m 63 #[.val (.int nn), .val (.int q0), .val (.int q1), .val (.int q2), .val (.int q3), .val (.int q4), .val (.int (5 : Int32)), .val (.int x4), .val (.int x13), .val (.int x22), .val (.int x31), .val (.int x40), .val (.int x49), .unset, .unset, .unset, .unset] [(.int x13), (.int x4), (.int (5 : Int32))])) _
        refine XS.iload X48.here hx rfl (hb hby at_63) rfl ?_
        refine XS.iload X48.here hx rfl (hb hby at_65) rfl ?_
        refine XS.iload X48.here hx rfl (hb hby at_67) rfl ?_
        refine XS.iload X48.here hx rfl (hb hby at_69) rfl ?_
        show Steps p.tables e below (T48.setTop (mkF m 71 #[.val (.int nn), .val (.int q0), .val (.int q1), .val (.int q2), .val (.int q3), .val (.int q4), .val (.int (5 : Int32)), .val (.int x4), .val (.int x13), .val (.int x22), .val (.int x31), .val (.int x40), .val (.int x49), .unset, .unset, .unset, .unset] [(.int x49), (.int x40), (.int x31), (.int x22), (.int x13), (.int x4), (.int (5 : Int32))])) _
        refine st247 _ ?_
        refine XS.astore X247.here hx rfl (hb hby at_74) rfl rfl (l' := #[.val (.int nn), .val (.int q0), .val (.int q1), .val (.int q2), .val (.int q3), .val (.int q4), .val (.int (5 : Int32)), .val (.int x4), .val (.int x13), .val (.int x22), .val (.int x31), .val (.int x40), .val (.int x49), .val (.ref x248), .unset, .unset, .unset]) rfl ?_
        refine XS.aload X247.here hx rfl (hb hby at_76) rfl rfl ?_
        show Steps p.tables e below (T247.setTop (mkF m 78 #[.val (.int nn), .val (.int q0), .val (.int q1), .val (.int q2), .val (.int q3), .val (.int q4), .val (.int (5 : Int32)), .val (.int x4), .val (.int x13), .val (.int x22), .val (.int x31), .val (.int x40), .val (.int x49), .val (.ref x248), .unset, .unset, .unset] [(.ref x248)])) _
        refine st263.trans ?_
        refine XS.astore X263.here hx rfl (hb hby at_81) rfl rfl (l' := #[.val (.int nn), .val (.int q0), .val (.int q1), .val (.int q2), .val (.int q3), .val (.int q4), .val (.int (5 : Int32)), .val (.int x4), .val (.int x13), .val (.int x22), .val (.int x31), .val (.int x40), .val (.int x49), .val (.ref x248), .val .null, .unset, .unset]) rfl ?_
        refine XS.iload X263.here hx rfl (hb hby at_83) rfl ?_
        refine XS.iconst X263.here hx rfl (hb hby at_85) ?_
        refine XS.icmpYes X263.here hx rfl (pc0 := 86) (pc' := 117) rfl (hb hby at_86) rfl (feq ((by decide) : ¬ ((5 : Int32) = (4 : Int32)))).2 (by decide) (by decide) ?_
        refine XS.iload X263.here hx rfl (hb hby at_117) rfl ?_
        show Steps p.tables e below (T263.setTop (mkF m 119 #[.val (.int nn), .val (.int q0), .val (.int q1), .val (.int q2), .val (.int q3), .val (.int q4), .val (.int (5 : Int32)), .val (.int x4), .val (.int x13), .val (.int x22), .val (.int x31), .val (.int x40), .val (.int x49), .val (.ref x248), .val .null, .unset, .unset] [(.int (5 : Int32))])) _
        refine XS.iconst X263.here hx rfl (hb hby at_119) ?_
        refine XS.icmpYes X263.here hx rfl (pc0 := 120) (pc' := 134) rfl (hb hby at_120) rfl (feq ((by decide) : ¬ ((5 : Int32) = (1 : Int32)))).2 (by decide) (by decide) ?_
        refine XS.iconst X263.here hx rfl (hb hby at_134) ?_
        refine XS.istore X263.here hx rfl (hb hby at_135) rfl (l' := #[.val (.int nn), .val (.int q0), .val (.int q1), .val (.int q2), .val (.int q3), .val (.int q4), .val (.int (5 : Int32)), .val (.int x4), .val (.int x13), .val (.int x22), .val (.int x31), .val (.int x40), .val (.int x49), .val (.ref x248), .val .null, .val (.int (0 : Int32)), .unset]) rfl ?_
        refine XS.iload X263.here hx rfl (hb hby at_137) rfl ?_
        refine XS.iconst X263.here hx rfl (hb hby at_139) ?_
        show Steps p.tables e below (T263.setTop (mkF m 140 #[.val (.int nn), .val (.int q0), .val (.int q1), .val (.int q2), .val (.int q3), .val (.int q4), .val (.int (5 : Int32)), .val (.int x4), .val (.int x13), .val (.int x22), .val (.int x31), .val (.int x40), .val (.int x49), .val (.ref x248), .val .null, .val (.int (0 : Int32)), .unset] [(.int (5 : Int32)), (.int (5 : Int32))])) _
        refine XS.icmpNo X263.here hx rfl (hb hby at_140) rfl (teq ((by decide) : (5 : Int32) = (5 : Int32))).2 ?_
        exact kt
      have S291 : ∀ t, Steps p.tables e below (T263.setTop (mkF m 196 #[.val (.int nn), .val (.int q0), .val (.int q1), .val (.int q2), .val (.int q3), .val (.int q4), .val (.int (5 : Int32)), .val (.int x4), .val (.int x13), .val (.int x22), .val (.int x31), .val (.int x40), .val (.int x49), .val (.ref x248), .val .null, .val (.int (0 : Int32)), .unset] [(.int (if ([x4, x13, x22, x31, x40] : List Int32) = [(102 : Int32), (97 : Int32), (108 : Int32), (115 : Int32), (101 : Int32)] then (1 : Int32) else (0 : Int32)))])) t → Steps p.tables e below (s₁.setTop (mkF m 0 #[.val (.int nn), .val (.int q0), .val (.int q1), .val (.int q2), .val (.int q3), .val (.int q4), .unset, .unset, .unset, .unset, .unset, .unset, .unset, .unset, .unset, .unset, .unset] [])) t := by
        intro t kt
        have S292 : ∀ t, Steps p.tables e below (T263.setTop (mkF m 147 #[.val (.int nn), .val (.int q0), .val (.int q1), .val (.int q2), .val (.int q3), .val (.int q4), .val (.int (5 : Int32)), .val (.int x4), .val (.int x13), .val (.int x22), .val (.int x31), .val (.int x40), .val (.int x49), .val (.ref x248), .val .null, .val (.int (0 : Int32)), .unset] [(.int (102 : Int32)), (.int x4)])) t → Steps p.tables e below (s₁.setTop (mkF m 0 #[.val (.int nn), .val (.int q0), .val (.int q1), .val (.int q2), .val (.int q3), .val (.int q4), .unset, .unset, .unset, .unset, .unset, .unset, .unset, .unset, .unset, .unset, .unset] [])) t := by
          intro t kt
          refine S290 t ?_
          refine XS.iload X263.here hx rfl (hb hby at_143) rfl ?_
          refine XS.bipush X263.here hx rfl (hb hby at_145) ?_
          exact kt
        rcases Decidable.em (x4 = (102 : Int32)) with c293 | c293
        · have S294 : ∀ t, Steps p.tables e below (T263.setTop (mkF m 154 #[.val (.int nn), .val (.int q0), .val (.int q1), .val (.int q2), .val (.int q3), .val (.int q4), .val (.int (5 : Int32)), .val (.int x4), .val (.int x13), .val (.int x22), .val (.int x31), .val (.int x40), .val (.int x49), .val (.ref x248), .val .null, .val (.int (0 : Int32)), .unset] [(.int (97 : Int32)), (.int x13)])) t → Steps p.tables e below (s₁.setTop (mkF m 0 #[.val (.int nn), .val (.int q0), .val (.int q1), .val (.int q2), .val (.int q3), .val (.int q4), .unset, .unset, .unset, .unset, .unset, .unset, .unset, .unset, .unset, .unset, .unset] [])) t := by
            intro t kt
            refine S292 t ?_
            refine XS.icmpNo X263.here hx rfl (hb hby at_147) rfl (teq (c293 : x4 = (102 : Int32))).2 ?_
            refine XS.iload X263.here hx rfl (hb hby at_150) rfl ?_
            refine XS.bipush X263.here hx rfl (hb hby at_152) ?_
            exact kt
          rcases Decidable.em (x13 = (97 : Int32)) with c295 | c295
          · have S296 : ∀ t, Steps p.tables e below (T263.setTop (mkF m 161 #[.val (.int nn), .val (.int q0), .val (.int q1), .val (.int q2), .val (.int q3), .val (.int q4), .val (.int (5 : Int32)), .val (.int x4), .val (.int x13), .val (.int x22), .val (.int x31), .val (.int x40), .val (.int x49), .val (.ref x248), .val .null, .val (.int (0 : Int32)), .unset] [(.int (108 : Int32)), (.int x22)])) t → Steps p.tables e below (s₁.setTop (mkF m 0 #[.val (.int nn), .val (.int q0), .val (.int q1), .val (.int q2), .val (.int q3), .val (.int q4), .unset, .unset, .unset, .unset, .unset, .unset, .unset, .unset, .unset, .unset, .unset] [])) t := by
              intro t kt
              refine S294 t ?_
              refine XS.icmpNo X263.here hx rfl (hb hby at_154) rfl (teq (c295 : x13 = (97 : Int32))).2 ?_
              refine XS.iload X263.here hx rfl (hb hby at_157) rfl ?_
              refine XS.bipush X263.here hx rfl (hb hby at_159) ?_
              exact kt
            rcases Decidable.em (x22 = (108 : Int32)) with c297 | c297
            · have S298 : ∀ t, Steps p.tables e below (T263.setTop (mkF m 168 #[.val (.int nn), .val (.int q0), .val (.int q1), .val (.int q2), .val (.int q3), .val (.int q4), .val (.int (5 : Int32)), .val (.int x4), .val (.int x13), .val (.int x22), .val (.int x31), .val (.int x40), .val (.int x49), .val (.ref x248), .val .null, .val (.int (0 : Int32)), .unset] [(.int (115 : Int32)), (.int x31)])) t → Steps p.tables e below (s₁.setTop (mkF m 0 #[.val (.int nn), .val (.int q0), .val (.int q1), .val (.int q2), .val (.int q3), .val (.int q4), .unset, .unset, .unset, .unset, .unset, .unset, .unset, .unset, .unset, .unset, .unset] [])) t := by
                intro t kt
                refine S296 t ?_
                refine XS.icmpNo X263.here hx rfl (hb hby at_161) rfl (teq (c297 : x22 = (108 : Int32))).2 ?_
                refine XS.iload X263.here hx rfl (hb hby at_164) rfl ?_
                refine XS.bipush X263.here hx rfl (hb hby at_166) ?_
                exact kt
              rcases Decidable.em (x31 = (115 : Int32)) with c299 | c299
              · have S300 : ∀ t, Steps p.tables e below (T263.setTop (mkF m 175 #[.val (.int nn), .val (.int q0), .val (.int q1), .val (.int q2), .val (.int q3), .val (.int q4), .val (.int (5 : Int32)), .val (.int x4), .val (.int x13), .val (.int x22), .val (.int x31), .val (.int x40), .val (.int x49), .val (.ref x248), .val .null, .val (.int (0 : Int32)), .unset] [(.int (101 : Int32)), (.int x40)])) t → Steps p.tables e below (s₁.setTop (mkF m 0 #[.val (.int nn), .val (.int q0), .val (.int q1), .val (.int q2), .val (.int q3), .val (.int q4), .unset, .unset, .unset, .unset, .unset, .unset, .unset, .unset, .unset, .unset, .unset] [])) t := by
                  intro t kt
                  refine S298 t ?_
                  refine XS.icmpNo X263.here hx rfl (hb hby at_168) rfl (teq (c299 : x31 = (115 : Int32))).2 ?_
                  refine XS.iload X263.here hx rfl (hb hby at_171) rfl ?_
                  refine XS.bipush X263.here hx rfl (hb hby at_173) ?_
                  exact kt
                rcases Decidable.em (x40 = (101 : Int32)) with c301 | c301
                · have S302 : ∀ t, Steps p.tables e below (T263.setTop (mkF m 196 #[.val (.int nn), .val (.int q0), .val (.int q1), .val (.int q2), .val (.int q3), .val (.int q4), .val (.int (5 : Int32)), .val (.int x4), .val (.int x13), .val (.int x22), .val (.int x31), .val (.int x40), .val (.int x49), .val (.ref x248), .val .null, .val (.int (0 : Int32)), .unset] [(.int (1 : Int32))])) t → Steps p.tables e below (s₁.setTop (mkF m 0 #[.val (.int nn), .val (.int q0), .val (.int q1), .val (.int q2), .val (.int q3), .val (.int q4), .unset, .unset, .unset, .unset, .unset, .unset, .unset, .unset, .unset, .unset, .unset] [])) t := by
                    intro t kt
                    refine S300 t ?_
                    refine XS.icmpYes X263.here hx rfl (pc0 := 175) (pc' := 191) rfl (hb hby at_175) rfl (teq (c301 : x40 = (101 : Int32))).1 (by decide) (by decide) ?_
                    refine XS.iconst X263.here hx rfl (hb hby at_191) ?_
                    refine XS.goto X263.here hx rfl (pc0 := 192) (pc' := 196) rfl (hb hby at_192) (by decide) (by decide) ?_
                    exact kt
                  rw [if_pos (by rw [(c293 : x4 = (102 : Int32)), (c295 : x13 = (97 : Int32)), (c297 : x22 = (108 : Int32)), (c299 : x31 = (115 : Int32)), (c301 : x40 = (101 : Int32))])] at kt
                  exact S302 t kt
                · have S303 : ∀ t, Steps p.tables e below (T263.setTop (mkF m 196 #[.val (.int nn), .val (.int q0), .val (.int q1), .val (.int q2), .val (.int q3), .val (.int q4), .val (.int (5 : Int32)), .val (.int x4), .val (.int x13), .val (.int x22), .val (.int x31), .val (.int x40), .val (.int x49), .val (.ref x248), .val .null, .val (.int (0 : Int32)), .unset] [(.int (0 : Int32))])) t → Steps p.tables e below (s₁.setTop (mkF m 0 #[.val (.int nn), .val (.int q0), .val (.int q1), .val (.int q2), .val (.int q3), .val (.int q4), .unset, .unset, .unset, .unset, .unset, .unset, .unset, .unset, .unset, .unset, .unset] [])) t := by
                    intro t kt
                    refine S300 t ?_
                    refine XS.icmpNo X263.here hx rfl (hb hby at_175) rfl (feq (c301 : ¬ (x40 = (101 : Int32)))).1 ?_
                    refine XS.iload X263.here hx rfl (hb hby at_178) rfl ?_
                    refine XS.iconst X263.here hx rfl (hb hby at_180) ?_
                    refine XS.icmpYes X263.here hx rfl (pc0 := 181) (pc' := 195) rfl (hb hby at_181) rfl (feq ((by decide) : ¬ ((5 : Int32) = (1 : Int32)))).2 (by decide) (by decide) ?_
                    refine XS.iconst X263.here hx rfl (hb hby at_195) ?_
                    exact kt
                  rw [if_neg (fun q => (c301 : ¬ (x40 = (101 : Int32))) (congrArg (fun l => l.getD 4 0) q))] at kt
                  exact S303 t kt
              · have S304 : ∀ t, Steps p.tables e below (T263.setTop (mkF m 196 #[.val (.int nn), .val (.int q0), .val (.int q1), .val (.int q2), .val (.int q3), .val (.int q4), .val (.int (5 : Int32)), .val (.int x4), .val (.int x13), .val (.int x22), .val (.int x31), .val (.int x40), .val (.int x49), .val (.ref x248), .val .null, .val (.int (0 : Int32)), .unset] [(.int (0 : Int32))])) t → Steps p.tables e below (s₁.setTop (mkF m 0 #[.val (.int nn), .val (.int q0), .val (.int q1), .val (.int q2), .val (.int q3), .val (.int q4), .unset, .unset, .unset, .unset, .unset, .unset, .unset, .unset, .unset, .unset, .unset] [])) t := by
                  intro t kt
                  refine S298 t ?_
                  refine XS.icmpYes X263.here hx rfl (pc0 := 168) (pc' := 178) rfl (hb hby at_168) rfl (feq (c299 : ¬ (x31 = (115 : Int32)))).2 (by decide) (by decide) ?_
                  refine XS.iload X263.here hx rfl (hb hby at_178) rfl ?_
                  refine XS.iconst X263.here hx rfl (hb hby at_180) ?_
                  refine XS.icmpYes X263.here hx rfl (pc0 := 181) (pc' := 195) rfl (hb hby at_181) rfl (feq ((by decide) : ¬ ((5 : Int32) = (1 : Int32)))).2 (by decide) (by decide) ?_
                  refine XS.iconst X263.here hx rfl (hb hby at_195) ?_
                  exact kt
                rw [if_neg (fun q => (c299 : ¬ (x31 = (115 : Int32))) (congrArg (fun l => l.getD 3 0) q))] at kt
                exact S304 t kt
            · have S305 : ∀ t, Steps p.tables e below (T263.setTop (mkF m 196 #[.val (.int nn), .val (.int q0), .val (.int q1), .val (.int q2), .val (.int q3), .val (.int q4), .val (.int (5 : Int32)), .val (.int x4), .val (.int x13), .val (.int x22), .val (.int x31), .val (.int x40), .val (.int x49), .val (.ref x248), .val .null, .val (.int (0 : Int32)), .unset] [(.int (0 : Int32))])) t → Steps p.tables e below (s₁.setTop (mkF m 0 #[.val (.int nn), .val (.int q0), .val (.int q1), .val (.int q2), .val (.int q3), .val (.int q4), .unset, .unset, .unset, .unset, .unset, .unset, .unset, .unset, .unset, .unset, .unset] [])) t := by
                intro t kt
                refine S296 t ?_
                refine XS.icmpYes X263.here hx rfl (pc0 := 161) (pc' := 178) rfl (hb hby at_161) rfl (feq (c297 : ¬ (x22 = (108 : Int32)))).2 (by decide) (by decide) ?_
                refine XS.iload X263.here hx rfl (hb hby at_178) rfl ?_
                refine XS.iconst X263.here hx rfl (hb hby at_180) ?_
                refine XS.icmpYes X263.here hx rfl (pc0 := 181) (pc' := 195) rfl (hb hby at_181) rfl (feq ((by decide) : ¬ ((5 : Int32) = (1 : Int32)))).2 (by decide) (by decide) ?_
                refine XS.iconst X263.here hx rfl (hb hby at_195) ?_
                exact kt
              rw [if_neg (fun q => (c297 : ¬ (x22 = (108 : Int32))) (congrArg (fun l => l.getD 2 0) q))] at kt
              exact S305 t kt
          · have S306 : ∀ t, Steps p.tables e below (T263.setTop (mkF m 196 #[.val (.int nn), .val (.int q0), .val (.int q1), .val (.int q2), .val (.int q3), .val (.int q4), .val (.int (5 : Int32)), .val (.int x4), .val (.int x13), .val (.int x22), .val (.int x31), .val (.int x40), .val (.int x49), .val (.ref x248), .val .null, .val (.int (0 : Int32)), .unset] [(.int (0 : Int32))])) t → Steps p.tables e below (s₁.setTop (mkF m 0 #[.val (.int nn), .val (.int q0), .val (.int q1), .val (.int q2), .val (.int q3), .val (.int q4), .unset, .unset, .unset, .unset, .unset, .unset, .unset, .unset, .unset, .unset, .unset] [])) t := by
              intro t kt
              refine S294 t ?_
              refine XS.icmpYes X263.here hx rfl (pc0 := 154) (pc' := 178) rfl (hb hby at_154) rfl (feq (c295 : ¬ (x13 = (97 : Int32)))).2 (by decide) (by decide) ?_
              refine XS.iload X263.here hx rfl (hb hby at_178) rfl ?_
              refine XS.iconst X263.here hx rfl (hb hby at_180) ?_
              refine XS.icmpYes X263.here hx rfl (pc0 := 181) (pc' := 195) rfl (hb hby at_181) rfl (feq ((by decide) : ¬ ((5 : Int32) = (1 : Int32)))).2 (by decide) (by decide) ?_
              refine XS.iconst X263.here hx rfl (hb hby at_195) ?_
              exact kt
            rw [if_neg (fun q => (c295 : ¬ (x13 = (97 : Int32))) (congrArg (fun l => l.getD 1 0) q))] at kt
            exact S306 t kt
        · have S307 : ∀ t, Steps p.tables e below (T263.setTop (mkF m 196 #[.val (.int nn), .val (.int q0), .val (.int q1), .val (.int q2), .val (.int q3), .val (.int q4), .val (.int (5 : Int32)), .val (.int x4), .val (.int x13), .val (.int x22), .val (.int x31), .val (.int x40), .val (.int x49), .val (.ref x248), .val .null, .val (.int (0 : Int32)), .unset] [(.int (0 : Int32))])) t → Steps p.tables e below (s₁.setTop (mkF m 0 #[.val (.int nn), .val (.int q0), .val (.int q1), .val (.int q2), .val (.int q3), .val (.int q4), .unset, .unset, .unset, .unset, .unset, .unset, .unset, .unset, .unset, .unset, .unset] [])) t := by
            intro t kt
            refine S292 t ?_
            refine XS.icmpYes X263.here hx rfl (pc0 := 147) (pc' := 178) rfl (hb hby at_147) rfl (feq (c293 : ¬ (x4 = (102 : Int32)))).2 (by decide) (by decide) ?_
            refine XS.iload X263.here hx rfl (hb hby at_178) rfl ?_
            refine XS.iconst X263.here hx rfl (hb hby at_180) ?_
            refine XS.icmpYes X263.here hx rfl (pc0 := 181) (pc' := 195) rfl (hb hby at_181) rfl (feq ((by decide) : ¬ ((5 : Int32) = (1 : Int32)))).2 (by decide) (by decide) ?_
            refine XS.iconst X263.here hx rfl (hb hby at_195) ?_
            exact kt
          rw [if_neg (fun q => (c293 : ¬ (x4 = (102 : Int32))) (congrArg (fun l => l.getD 0 0) q))] at kt
          exact S307 t kt
      have q308 : (if ([x4, x13, x22, x31, x40] : List Int32) = [(102 : Int32), (97 : Int32), (108 : Int32), (115 : Int32), (101 : Int32)] then (1 : Int32) else (0 : Int32)) = (0 : Int32) := if_neg c289
      have S309 : ∀ t, Steps p.tables e below (T263.setTop (mkF m 256 #[.val (.int nn), .val (.int q0), .val (.int q1), .val (.int q2), .val (.int q3), .val (.int q4), .val (.int (5 : Int32)), .val (.int x4), .val (.int x13), .val (.int x22), .val (.int x31), .val (.int x40), .val (.int x49), .val (.ref x248), .val .null, .val (.int (0 : Int32)), .val (.int (if ([x4, x13, x22, x31, x40] : List Int32) = [(102 : Int32), (97 : Int32), (108 : Int32), (115 : Int32), (101 : Int32)] then (1 : Int32) else (0 : Int32)))] [(.int (1 : Int32))])) t → Steps p.tables e below (s₁.setTop (mkF m 0 #[.val (.int nn), .val (.int q0), .val (.int q1), .val (.int q2), .val (.int q3), .val (.int q4), .unset, .unset, .unset, .unset, .unset, .unset, .unset, .unset, .unset, .unset, .unset] [])) t := by
        intro t kt
        refine S291 t ?_
        refine XS.istore X263.here hx rfl (hb hby at_196) rfl (l' := #[.val (.int nn), .val (.int q0), .val (.int q1), .val (.int q2), .val (.int q3), .val (.int q4), .val (.int (5 : Int32)), .val (.int x4), .val (.int x13), .val (.int x22), .val (.int x31), .val (.int x40), .val (.int x49), .val (.ref x248), .val .null, .val (.int (0 : Int32)), .val (.int (if ([x4, x13, x22, x31, x40] : List Int32) = [(102 : Int32), (97 : Int32), (108 : Int32), (115 : Int32), (101 : Int32)] then (1 : Int32) else (0 : Int32)))]) rfl ?_
        refine XS.iload X263.here hx rfl (hb hby at_198) rfl ?_
        refine XS.ifYes X263.here hx rfl (pc0 := 200) (pc' := 222) rfl (hb hby at_200) rfl ((if0 _ _).trans (teq ((by decide) : (0 : Int32) = (0 : Int32))).1) (by decide) (by decide) ?_
        refine XS.iload X263.here hx rfl (hb hby at_222) rfl ?_
        refine XS.ifYes X263.here hx rfl (pc0 := 224) (pc' := 246) rfl (hb hby at_224) rfl ((if0 _ _).trans (teq (q308 : (if ([x4, x13, x22, x31, x40] : List Int32) = [(102 : Int32), (97 : Int32), (108 : Int32), (115 : Int32), (101 : Int32)] then (1 : Int32) else (0 : Int32)) = (0 : Int32))).1) (by decide) (by decide) ?_
        refine XS.aload X263.here hx rfl (hb hby at_246) rfl rfl ?_
        show Steps p.tables e below (T263.setTop (mkF m 248 #[.val (.int nn), .val (.int q0), .val (.int q1), .val (.int q2), .val (.int q3), .val (.int q4), .val (.int (5 : Int32)), .val (.int x4), .val (.int x13), .val (.int x22), .val (.int x31), .val (.int x40), .val (.int x49), .val (.ref x248), .val .null, .val (.int (0 : Int32)), .val (.int (if ([x4, x13, x22, x31, x40] : List Int32) = [(102 : Int32), (97 : Int32), (108 : Int32), (115 : Int32), (101 : Int32)] then (1 : Int32) else (0 : Int32)))] [.null])) _
        refine XS.ifnonnullNo X263.here hx rfl (hb hby at_248) rfl ?_
        refine XS.iconst X263.here hx rfl (hb hby at_251) ?_
        refine XS.goto X263.here hx rfl (pc0 := 252) (pc' := 256) rfl (hb hby at_252) (by decide) (by decide) ?_
        exact kt
      obtain ⟨fs, hr, hrun, hended, hRW⟩ := X263.leaveW hS263 (by exact hk287) (v := some (.int (1 : Int32))) (fun h => by rw [Bd.returns] at h; cases h)
      refine ⟨_, _, pre0 _ (S309 _ ?_), hrun, hended, _, _, rfl, ?_, ?_, hRW.1, hRW.2.1, hRW.2.2.1, hRW.2.2.2.mono (by decide) (by decide)⟩
      · exact retN X263 hx (t := .boolean) Bd.returns (by simp) (hb hby at_256) hr
      · show Q_rm_law Z nn q0 q1 q2 q3 q4 zc fm wT wF h0 n0 _ T263.heap _
        exact ⟨rfl, N285⟩
      · show CHr Z own_EL s.vm s.heap T263.vm T263.heap
        rw [hh]
        exact CR286.trans (CHv.at X263 hZ263 own_ew CR286.1)
  · obtain ⟨_, _, ⟨T310, L310, k310, n310⟩, -, X310, ⟨Lc310, hQ310, l310, y310, z310⟩, st310⟩ := Jvm.LawKit.callS X48 hx (y := (⟨"com/example/pico_notify/piconotify/XmlBoolPinLaw", "str", "(ICCCCCC)Ljava/lang/String;"⟩ : MethodName)) ho48 (mvT hZ48 (own_w hw 37 rfl)) (mvT hZ48 (own_w hw 38 rfl)) (mvT hZ48 (own_w hw 2 rfl)) (mvT hZ48 (own_w hw 39 rfl)) (by decide) (backOf (W := 0) (rm_str6 l Z a0 hw [] x4 x13 x22 x31 x40 x49 zc T48.heap n0 O56 c5 c14 c23 c32 c41 c50 S_C hzc) hZ48 (own_w hw 39 rfl) (own_w hw 2 rfl) (by decide) (by decide)) (g := (mkF m 71 #[.val (.int nn), .val (.int q0), .val (.int q1), .val (.int q2), .val (.int q3), .val (.int q4), .val (.int (6 : Int32)), .val (.int x4), .val (.int x13), .val (.int x22), .val (.int x31), .val (.int x40), .val (.int x49), .unset, .unset, .unset, .unset] [(.int x49), (.int x40), (.int x31), (.int x22), (.int x13), (.int x4), (.int (6 : Int32))])) rfl (by rw [hml]; rfl) (argsL := [(.int (6 : Int32)), (.int x4), (.int x13), (.int x22), (.int x31), (.int x40), (.int x49)]) (rest := []) (lenOf pd_4 rfl) rfl (by show 2 * 0 + _ ≤ _; exact Nat.le_of_eq rfl) (hb hby at_71) (fun _ _ => ⟨rfl, rfl, (by decide : 12 + 3 ≤ _), (by decide : 264 + 16 ≤ _)⟩)
    dsimp only [Pt.U, Pt.locs, Pt.cells, Pt.slots] at X310 l310 y310 z310 st310 hQ310
    subst l310 y310 z310
    obtain ⟨x311, x312, x313, rfl, N314, k315, f316, f317, f318, f319, f320⟩ := hQ310
    have N321 := Fr.app N53 N314
    have ge322 : n0 ≤ x311 := by rw [← O56.1]; exact Nat.le_trans O56.2.1 f316
    have CR323 := CR54.trans (CHr.keep k315 sf0 CR54.1)
    have hk324 := Nat.le_trans hk55 k315.1
    have O325 := O56.keep k315 all0
    obtain ⟨_, _, ⟨T326, L326, k326, n326⟩, -, Xq326, hSq326, hgq326, ⟨Lc326, hQ326, l326, y326, z326, C326⟩, st326⟩ := callSS X310 hx (y := (⟨"com/example/pico_notify/piconotify/Xml", "bool", "(Ljava/lang/String;)Ljava/lang/Boolean;"⟩ : MethodName)) ho48 (mvT hZ48 (own_w hw 53 rfl)) (mvT hZ48 (own_w hw 54 rfl)) (mvT hZ48 (own_w hw 55 rfl)) (mvT hZ48 (own_w hw 56 rfl)) (by decide) (own_backS (W := 0) (rm := ({ frames := 2, cells := 8, slots := 60, locals := 28 } : Room)) (xs := []) (rm_bool6 l Z a0 hw [] x311 x312 x313 x4 x13 x22 x31 x40 x49 zc wT wF T310.heap n0 O325 f317 f318 f319 f320 c5 c14 c23 c32 c41 c50 S_C hzc S_T S_F0) hZ48 (own_w hw 56 rfl) (own_w hw 55 rfl) (by decide) (by decide) own_ew CR323.1 all0) (g := (mkF m 78 #[.val (.int nn), .val (.int q0), .val (.int q1), .val (.int q2), .val (.int q3), .val (.int q4), .val (.int (6 : Int32)), .val (.int x4), .val (.int x13), .val (.int x22), .val (.int x31), .val (.int x40), .val (.int x49), .val (.ref x311), .unset, .unset, .unset] [(.ref x311)])) rfl (by rw [hml]; rfl) (argsL := [(.ref x311)]) (rest := []) (lenOf pd_5 rfl) rfl (by show 2 * 0 + _ ≤ _; exact Nat.le_of_eq rfl) (hb hby at_78) (fun _ _ => ⟨rfl, rfl, (by decide : 15 + 8 ≤ _), (by decide : 280 + 60 ≤ _)⟩)
    dsimp only [Pt.U, Pt.locs, Pt.cells, Pt.slots] at Xq326 hSq326 hgq326 l326 y326 z326 st326 hQ326 C326
    obtain ⟨X326, hS326, hZ326, ho326⟩ := rebS hS48 (by exact hk324) Xq326 hSq326 hgq326 hZ48 ho48
    subst l326 y326 z326
    obtain ⟨rfl, N327, k328⟩ := hQ326
    have N329 := Fr.app N321 N327
    have CR330 := CR323.trans C326
    have hk331 : T326.heap.size ≤ T326.heap.size := Nat.le_refl _
    have O332 := O325.keep k328 all0
    have S333 : ∀ t, Steps p.tables e below (T326.setTop (mkF m 256 #[.val (.int nn), .val (.int q0), .val (.int q1), .val (.int q2), .val (.int q3), .val (.int q4), .val (.int (6 : Int32)), .val (.int x4), .val (.int x13), .val (.int x22), .val (.int x31), .val (.int x40), .val (.int x49), .val (.ref x311), .val .null, .val (.int (0 : Int32)), .val (.int (0 : Int32))] [(.int (1 : Int32))])) t → Steps p.tables e below (s₁.setTop (mkF m 0 #[.val (.int nn), .val (.int q0), .val (.int q1), .val (.int q2), .val (.int q3), .val (.int q4), .unset, .unset, .unset, .unset, .unset, .unset, .unset, .unset, .unset, .unset, .unset] [])) t := by
      intro t kt
      refine S57 t ?_
      refine XS.iload X48.here hx rfl (hb hby at_46) rfl ?_
      refine XS.bipush X48.here hx rfl (hb hby at_48) ?_
      refine XS.icmpYes X48.here hx rfl (pc0 := 50) (pc' := 57) rfl (hb hby at_50) rfl (feq ((by decide) : ¬ ((6 : Int32) = (7 : Int32)))).2 (by decide) (by decide) ?_
      refine XS.iload X48.here hx rfl (hb hby at_57) rfl ?_
      refine XS.iload X48.here hx rfl (hb hby at_59) rfl ?_
      refine XS.iload X48.here hx rfl (hb hby at_61) rfl ?_
      show Steps p.tables e below (T48.setTop (mkF m 63 #[.val (.int nn), .val (.int q0), .val (.int q1), .val (.int q2), .val (.int q3), .val (.int q4), .val (.int (6 : Int32)), .val (.int x4), .val (.int x13), .val (.int x22), .val (.int x31), .val (.int x40), .val (.int x49), .unset, .unset, .unset, .unset] [(.int x13), (.int x4), (.int (6 : Int32))])) _
      refine XS.iload X48.here hx rfl (hb hby at_63) rfl ?_
      refine XS.iload X48.here hx rfl (hb hby at_65) rfl ?_
      refine XS.iload X48.here hx rfl (hb hby at_67) rfl ?_
      refine XS.iload X48.here hx rfl (hb hby at_69) rfl ?_
      show Steps p.tables e below (T48.setTop (mkF m 71 #[.val (.int nn), .val (.int q0), .val (.int q1), .val (.int q2), .val (.int q3), .val (.int q4), .val (.int (6 : Int32)), .val (.int x4), .val (.int x13), .val (.int x22), .val (.int x31), .val (.int x40), .val (.int x49), .unset, .unset, .unset, .unset] [(.int x49), (.int x40), (.int x31), (.int x22), (.int x13), (.int x4), (.int (6 : Int32))])) _
      refine st310 _ ?_
      refine XS.astore X310.here hx rfl (hb hby at_74) rfl rfl (l' := #[.val (.int nn), .val (.int q0), .val (.int q1), .val (.int q2), .val (.int q3), .val (.int q4), .val (.int (6 : Int32)), .val (.int x4), .val (.int x13), .val (.int x22), .val (.int x31), .val (.int x40), .val (.int x49), .val (.ref x311), .unset, .unset, .unset]) rfl ?_
      refine XS.aload X310.here hx rfl (hb hby at_76) rfl rfl ?_
      show Steps p.tables e below (T310.setTop (mkF m 78 #[.val (.int nn), .val (.int q0), .val (.int q1), .val (.int q2), .val (.int q3), .val (.int q4), .val (.int (6 : Int32)), .val (.int x4), .val (.int x13), .val (.int x22), .val (.int x31), .val (.int x40), .val (.int x49), .val (.ref x311), .unset, .unset, .unset] [(.ref x311)])) _
      refine st326.trans ?_
      refine XS.astore X326.here hx rfl (hb hby at_81) rfl rfl (l' := #[.val (.int nn), .val (.int q0), .val (.int q1), .val (.int q2), .val (.int q3), .val (.int q4), .val (.int (6 : Int32)), .val (.int x4), .val (.int x13), .val (.int x22), .val (.int x31), .val (.int x40), .val (.int x49), .val (.ref x311), .val .null, .unset, .unset]) rfl ?_
      refine XS.iload X326.here hx rfl (hb hby at_83) rfl ?_
      refine XS.iconst X326.here hx rfl (hb hby at_85) ?_
      refine XS.icmpYes X326.here hx rfl (pc0 := 86) (pc' := 117) rfl (hb hby at_86) rfl (feq ((by decide) : ¬ ((6 : Int32) = (4 : Int32)))).2 (by decide) (by decide) ?_
      refine XS.iload X326.here hx rfl (hb hby at_117) rfl ?_
      show Steps p.tables e below (T326.setTop (mkF m 119 #[.val (.int nn), .val (.int q0), .val (.int q1), .val (.int q2), .val (.int q3), .val (.int q4), .val (.int (6 : Int32)), .val (.int x4), .val (.int x13), .val (.int x22), .val (.int x31), .val (.int x40), .val (.int x49), .val (.ref x311), .val .null, .unset, .unset] [(.int (6 : Int32))])) _
      refine XS.iconst X326.here hx rfl (hb hby at_119) ?_
      refine XS.icmpYes X326.here hx rfl (pc0 := 120) (pc' := 134) rfl (hb hby at_120) rfl (feq ((by decide) : ¬ ((6 : Int32) = (1 : Int32)))).2 (by decide) (by decide) ?_
      refine XS.iconst X326.here hx rfl (hb hby at_134) ?_
      refine XS.istore X326.here hx rfl (hb hby at_135) rfl (l' := #[.val (.int nn), .val (.int q0), .val (.int q1), .val (.int q2), .val (.int q3), .val (.int q4), .val (.int (6 : Int32)), .val (.int x4), .val (.int x13), .val (.int x22), .val (.int x31), .val (.int x40), .val (.int x49), .val (.ref x311), .val .null, .val (.int (0 : Int32)), .unset]) rfl ?_
      refine XS.iload X326.here hx rfl (hb hby at_137) rfl ?_
      refine XS.iconst X326.here hx rfl (hb hby at_139) ?_
      show Steps p.tables e below (T326.setTop (mkF m 140 #[.val (.int nn), .val (.int q0), .val (.int q1), .val (.int q2), .val (.int q3), .val (.int q4), .val (.int (6 : Int32)), .val (.int x4), .val (.int x13), .val (.int x22), .val (.int x31), .val (.int x40), .val (.int x49), .val (.ref x311), .val .null, .val (.int (0 : Int32)), .unset] [(.int (5 : Int32)), (.int (6 : Int32))])) _
      refine XS.icmpYes X326.here hx rfl (pc0 := 140) (pc' := 178) rfl (hb hby at_140) rfl (feq ((by decide) : ¬ ((6 : Int32) = (5 : Int32)))).2 (by decide) (by decide) ?_
      refine XS.iload X326.here hx rfl (hb hby at_178) rfl ?_
      refine XS.iconst X326.here hx rfl (hb hby at_180) ?_
      refine XS.icmpYes X326.here hx rfl (pc0 := 181) (pc' := 195) rfl (hb hby at_181) rfl (feq ((by decide) : ¬ ((6 : Int32) = (1 : Int32)))).2 (by decide) (by decide) ?_
      refine XS.iconst X326.here hx rfl (hb hby at_195) ?_
      refine XS.istore X326.here hx rfl (hb hby at_196) rfl (l' := #[.val (.int nn), .val (.int q0), .val (.int q1), .val (.int q2), .val (.int q3), .val (.int q4), .val (.int (6 : Int32)), .val (.int x4), .val (.int x13), .val (.int x22), .val (.int x31), .val (.int x40), .val (.int x49), .val (.ref x311), .val .null, .val (.int (0 : Int32)), .val (.int (0 : Int32))]) rfl ?_
      show Steps p.tables e below (T326.setTop (mkF m 198 #[.val (.int nn), .val (.int q0), .val (.int q1), .val (.int q2), .val (.int q3), .val (.int q4), .val (.int (6 : Int32)), .val (.int x4), .val (.int x13), .val (.int x22), .val (.int x31), .val (.int x40), .val (.int x49), .val (.ref x311), .val .null, .val (.int (0 : Int32)), .val (.int (0 : Int32))] [])) _
      refine XS.iload X326.here hx rfl (hb hby at_198) rfl ?_
      refine XS.ifYes X326.here hx rfl (pc0 := 200) (pc' := 222) rfl (hb hby at_200) rfl ((if0 _ _).trans (teq ((by decide) : (0 : Int32) = (0 : Int32))).1) (by decide) (by decide) ?_
      refine XS.iload X326.here hx rfl (hb hby at_222) rfl ?_
      refine XS.ifYes X326.here hx rfl (pc0 := 224) (pc' := 246) rfl (hb hby at_224) rfl ((if0 _ _).trans (teq ((by decide) : (0 : Int32) = (0 : Int32))).1) (by decide) (by decide) ?_
      refine XS.aload X326.here hx rfl (hb hby at_246) rfl rfl ?_
      refine XS.ifnonnullNo X326.here hx rfl (hb hby at_248) rfl ?_
      show Steps p.tables e below (T326.setTop (mkF m 251 #[.val (.int nn), .val (.int q0), .val (.int q1), .val (.int q2), .val (.int q3), .val (.int q4), .val (.int (6 : Int32)), .val (.int x4), .val (.int x13), .val (.int x22), .val (.int x31), .val (.int x40), .val (.int x49), .val (.ref x311), .val .null, .val (.int (0 : Int32)), .val (.int (0 : Int32))] [])) _
      refine XS.iconst X326.here hx rfl (hb hby at_251) ?_
      refine XS.goto X326.here hx rfl (pc0 := 252) (pc' := 256) rfl (hb hby at_252) (by decide) (by decide) ?_
      exact kt
    obtain ⟨fs, hr, hrun, hended, hRW⟩ := X326.leaveW hS326 (by exact hk331) (v := some (.int (1 : Int32))) (fun h => by rw [Bd.returns] at h; cases h)
    refine ⟨_, _, pre0 _ (S333 _ ?_), hrun, hended, _, _, rfl, ?_, ?_, hRW.1, hRW.2.1, hRW.2.2.1, hRW.2.2.2.mono (by decide) (by decide)⟩
    · exact retN X326 hx (t := .boolean) Bd.returns (by simp) (hb hby at_256) hr
    · show Q_rm_law Z nn q0 q1 q2 q3 q4 zc fm wT wF h0 n0 _ T326.heap _
      exact ⟨rfl, N329⟩
    · show CHr Z own_EL s.vm s.heap T326.vm T326.heap
      rw [hh]
      exact CR330.trans (CHv.at X326 hZ326 own_ew CR330.1)
  · obtain ⟨_, _, ⟨T334, L334, k334, n334⟩, -, Xq334, hSq334, hgq334, ⟨Lc334, hQ334, l334, y334, z334, C334⟩, st334⟩ := callSS X48 hx (y := (⟨"com/example/pico_notify/piconotify/Xml", "bool", "(Ljava/lang/String;)Ljava/lang/Boolean;"⟩ : MethodName)) ho48 (mvT hZ48 (own_w hw 53 rfl)) (mvT hZ48 (own_w hw 54 rfl)) (mvT hZ48 (own_w hw 55 rfl)) (mvT hZ48 (own_w hw 56 rfl)) (by decide) (own_backS (W := 0) (rm := ({ frames := 1, cells := 8, slots := 60, locals := 14 } : Room)) (xs := []) (rm_bool7 l Z a0 hw [] zc wT wF T48.heap n0 O56 S_C hzc S_T S_F0) hZ48 (own_w hw 56 rfl) (own_w hw 55 rfl) (by decide) (by decide) own_ew CR54.1 all0) (g := (mkF m 78 #[.val (.int nn), .val (.int q0), .val (.int q1), .val (.int q2), .val (.int q3), .val (.int q4), .val (.int (7 : Int32)), .val (.int x4), .val (.int x13), .val (.int x22), .val (.int x31), .val (.int x40), .val (.int x49), .val .null, .unset, .unset, .unset] [.null])) rfl (by rw [hml]; rfl) (argsL := [.null]) (rest := []) (lenOf pd_5 rfl) rfl (by show 2 * 0 + _ ≤ _; exact Nat.le_of_eq rfl) (hb hby at_78) (fun _ _ => ⟨rfl, rfl, (by decide : 12 + 8 ≤ _), (by decide : 264 + 60 ≤ _)⟩)
    dsimp only [Pt.U, Pt.locs, Pt.cells, Pt.slots] at Xq334 hSq334 hgq334 l334 y334 z334 st334 hQ334 C334
    obtain ⟨X334, hS334, hZ334, ho334⟩ := rebS hS48 (by exact hk55) Xq334 hSq334 hgq334 hZ48 ho48
    subst l334 y334 z334
    obtain ⟨rfl, N335, k336⟩ := hQ334
    have N337 := Fr.app N53 N335
    have CR338 := CR54.trans C334
    have hk339 : T334.heap.size ≤ T334.heap.size := Nat.le_refl _
    have O340 := O56.keep k336 all0
    have S341 : ∀ t, Steps p.tables e below (T334.setTop (mkF m 256 #[.val (.int nn), .val (.int q0), .val (.int q1), .val (.int q2), .val (.int q3), .val (.int q4), .val (.int (7 : Int32)), .val (.int x4), .val (.int x13), .val (.int x22), .val (.int x31), .val (.int x40), .val (.int x49), .val .null, .val .null, .val (.int (0 : Int32)), .val (.int (0 : Int32))] [(.int (1 : Int32))])) t → Steps p.tables e below (s₁.setTop (mkF m 0 #[.val (.int nn), .val (.int q0), .val (.int q1), .val (.int q2), .val (.int q3), .val (.int q4), .unset, .unset, .unset, .unset, .unset, .unset, .unset, .unset, .unset, .unset, .unset] [])) t := by
      intro t kt
      refine S57 t ?_
      refine XS.iload X48.here hx rfl (hb hby at_46) rfl ?_
      refine XS.bipush X48.here hx rfl (hb hby at_48) ?_
      refine XS.icmpNo X48.here hx rfl (hb hby at_50) rfl (teq ((by decide) : (7 : Int32) = (7 : Int32))).2 ?_
      refine XS.aconstNull X48.here hx rfl (hb hby at_53) ?_
      refine XS.goto X48.here hx rfl (pc0 := 54) (pc' := 74) rfl (hb hby at_54) (by decide) (by decide) ?_
      refine XS.astore X48.here hx rfl (hb hby at_74) rfl rfl (l' := #[.val (.int nn), .val (.int q0), .val (.int q1), .val (.int q2), .val (.int q3), .val (.int q4), .val (.int (7 : Int32)), .val (.int x4), .val (.int x13), .val (.int x22), .val (.int x31), .val (.int x40), .val (.int x49), .val .null, .unset, .unset, .unset]) rfl ?_
      show Steps p.tables e below (T48.setTop (mkF m 76 #[.val (.int nn), .val (.int q0), .val (.int q1), .val (.int q2), .val (.int q3), .val (.int q4), .val (.int (7 : Int32)), .val (.int x4), .val (.int x13), .val (.int x22), .val (.int x31), .val (.int x40), .val (.int x49), .val .null, .unset, .unset, .unset] [])) _
      refine XS.aload X48.here hx rfl (hb hby at_76) rfl rfl ?_
      show Steps p.tables e below (T48.setTop (mkF m 78 #[.val (.int nn), .val (.int q0), .val (.int q1), .val (.int q2), .val (.int q3), .val (.int q4), .val (.int (7 : Int32)), .val (.int x4), .val (.int x13), .val (.int x22), .val (.int x31), .val (.int x40), .val (.int x49), .val .null, .unset, .unset, .unset] [.null])) _
      refine st334.trans ?_
      refine XS.astore X334.here hx rfl (hb hby at_81) rfl rfl (l' := #[.val (.int nn), .val (.int q0), .val (.int q1), .val (.int q2), .val (.int q3), .val (.int q4), .val (.int (7 : Int32)), .val (.int x4), .val (.int x13), .val (.int x22), .val (.int x31), .val (.int x40), .val (.int x49), .val .null, .val .null, .unset, .unset]) rfl ?_
      refine XS.iload X334.here hx rfl (hb hby at_83) rfl ?_
      refine XS.iconst X334.here hx rfl (hb hby at_85) ?_
      refine XS.icmpYes X334.here hx rfl (pc0 := 86) (pc' := 117) rfl (hb hby at_86) rfl (feq ((by decide) : ¬ ((7 : Int32) = (4 : Int32)))).2 (by decide) (by decide) ?_
      refine XS.iload X334.here hx rfl (hb hby at_117) rfl ?_
      show Steps p.tables e below (T334.setTop (mkF m 119 #[.val (.int nn), .val (.int q0), .val (.int q1), .val (.int q2), .val (.int q3), .val (.int q4), .val (.int (7 : Int32)), .val (.int x4), .val (.int x13), .val (.int x22), .val (.int x31), .val (.int x40), .val (.int x49), .val .null, .val .null, .unset, .unset] [(.int (7 : Int32))])) _
      refine XS.iconst X334.here hx rfl (hb hby at_119) ?_
      refine XS.icmpYes X334.here hx rfl (pc0 := 120) (pc' := 134) rfl (hb hby at_120) rfl (feq ((by decide) : ¬ ((7 : Int32) = (1 : Int32)))).2 (by decide) (by decide) ?_
      refine XS.iconst X334.here hx rfl (hb hby at_134) ?_
      refine XS.istore X334.here hx rfl (hb hby at_135) rfl (l' := #[.val (.int nn), .val (.int q0), .val (.int q1), .val (.int q2), .val (.int q3), .val (.int q4), .val (.int (7 : Int32)), .val (.int x4), .val (.int x13), .val (.int x22), .val (.int x31), .val (.int x40), .val (.int x49), .val .null, .val .null, .val (.int (0 : Int32)), .unset]) rfl ?_
      refine XS.iload X334.here hx rfl (hb hby at_137) rfl ?_
      refine XS.iconst X334.here hx rfl (hb hby at_139) ?_
      show Steps p.tables e below (T334.setTop (mkF m 140 #[.val (.int nn), .val (.int q0), .val (.int q1), .val (.int q2), .val (.int q3), .val (.int q4), .val (.int (7 : Int32)), .val (.int x4), .val (.int x13), .val (.int x22), .val (.int x31), .val (.int x40), .val (.int x49), .val .null, .val .null, .val (.int (0 : Int32)), .unset] [(.int (5 : Int32)), (.int (7 : Int32))])) _
      refine XS.icmpYes X334.here hx rfl (pc0 := 140) (pc' := 178) rfl (hb hby at_140) rfl (feq ((by decide) : ¬ ((7 : Int32) = (5 : Int32)))).2 (by decide) (by decide) ?_
      refine XS.iload X334.here hx rfl (hb hby at_178) rfl ?_
      refine XS.iconst X334.here hx rfl (hb hby at_180) ?_
      refine XS.icmpYes X334.here hx rfl (pc0 := 181) (pc' := 195) rfl (hb hby at_181) rfl (feq ((by decide) : ¬ ((7 : Int32) = (1 : Int32)))).2 (by decide) (by decide) ?_
      refine XS.iconst X334.here hx rfl (hb hby at_195) ?_
      refine XS.istore X334.here hx rfl (hb hby at_196) rfl (l' := #[.val (.int nn), .val (.int q0), .val (.int q1), .val (.int q2), .val (.int q3), .val (.int q4), .val (.int (7 : Int32)), .val (.int x4), .val (.int x13), .val (.int x22), .val (.int x31), .val (.int x40), .val (.int x49), .val .null, .val .null, .val (.int (0 : Int32)), .val (.int (0 : Int32))]) rfl ?_
      show Steps p.tables e below (T334.setTop (mkF m 198 #[.val (.int nn), .val (.int q0), .val (.int q1), .val (.int q2), .val (.int q3), .val (.int q4), .val (.int (7 : Int32)), .val (.int x4), .val (.int x13), .val (.int x22), .val (.int x31), .val (.int x40), .val (.int x49), .val .null, .val .null, .val (.int (0 : Int32)), .val (.int (0 : Int32))] [])) _
      refine XS.iload X334.here hx rfl (hb hby at_198) rfl ?_
      refine XS.ifYes X334.here hx rfl (pc0 := 200) (pc' := 222) rfl (hb hby at_200) rfl ((if0 _ _).trans (teq ((by decide) : (0 : Int32) = (0 : Int32))).1) (by decide) (by decide) ?_
      refine XS.iload X334.here hx rfl (hb hby at_222) rfl ?_
      refine XS.ifYes X334.here hx rfl (pc0 := 224) (pc' := 246) rfl (hb hby at_224) rfl ((if0 _ _).trans (teq ((by decide) : (0 : Int32) = (0 : Int32))).1) (by decide) (by decide) ?_
      refine XS.aload X334.here hx rfl (hb hby at_246) rfl rfl ?_
      refine XS.ifnonnullNo X334.here hx rfl (hb hby at_248) rfl ?_
      show Steps p.tables e below (T334.setTop (mkF m 251 #[.val (.int nn), .val (.int q0), .val (.int q1), .val (.int q2), .val (.int q3), .val (.int q4), .val (.int (7 : Int32)), .val (.int x4), .val (.int x13), .val (.int x22), .val (.int x31), .val (.int x40), .val (.int x49), .val .null, .val .null, .val (.int (0 : Int32)), .val (.int (0 : Int32))] [])) _
      refine XS.iconst X334.here hx rfl (hb hby at_251) ?_
      refine XS.goto X334.here hx rfl (pc0 := 252) (pc' := 256) rfl (hb hby at_252) (by decide) (by decide) ?_
      exact kt
    obtain ⟨fs, hr, hrun, hended, hRW⟩ := X334.leaveW hS334 (by exact hk339) (v := some (.int (1 : Int32))) (fun h => by rw [Bd.returns] at h; cases h)
    refine ⟨_, _, pre0 _ (S341 _ ?_), hrun, hended, _, _, rfl, ?_, ?_, hRW.1, hRW.2.1, hRW.2.2.1, hRW.2.2.2.mono (by decide) (by decide)⟩
    · exact retN X334 hx (t := .boolean) Bd.returns (by simp) (hb hby at_256) hr
    · show Q_rm_law Z nn q0 q1 q2 q3 q4 zc fm wT wF h0 n0 _ T334.heap _
      exact ⟨rfl, N337⟩
    · show CHr Z own_EL s.vm s.heap T334.vm T334.heap
      rw [hh]
      exact CR338.trans (CHv.at X334 hZ334 own_ew CR338.1)
set_option maxRecDepth 65536 in
set_option maxHeartbeats 40000000 in
theorem comes_1 {Post : Tables → Env → Array Value → State → Outcome → State → Prop} (hpost : ∀ tb e args s v u, (limb_1_1.after args s (.returned v) u = true ∧ limb_1_2.after args s (.returned v) u = true ∧ True) → ReturnedEndW s (.returned v) u (Jvm.fieldLocs frame_1_writes args s ++ Jvm.arrayLocs frame_1_arrays args s ++ Jvm.staticLocs frame_1_statics s) 32 6272 → Post tb e args s (.returned v) u) :
    ArmFor flags0 classFile x code maxLocals ret World_1 tables_1 room_1 Calls_1 rest_1 Pre_1 Post := by
  intro l hfl _ _ p e ha hc hk s m args below hf hA hF happ hP
  obtain ⟨hcalls, hrest, hpre⟩ := hP
  obtain ⟨-, -, -, hnamed, -, -, -, hat⟩ := (Spec.applies_iff hf).mp happ
  obtain ⟨hg, hn⟩ := and_e (Cond.before_iff.mp (show (Jvm.Cond.and given_1 narrow_1).before args s = true from hpre))
  obtain ⟨g0, r0⟩ := and_e hg
  obtain ⟨g1, r1⟩ := and_e r0
  obtain ⟨g2, r2⟩ := and_e r1
  obtain ⟨g3, r3⟩ := and_e r2
  obtain ⟨g4, r4⟩ := and_e r3
  obtain ⟨g5, r5⟩ := and_e r4
  obtain ⟨w0, w1, w2, w3, w4, w5, rfl⟩ : ∃ w0 w1 w2 w3 w4 w5 : Value, args = #[w0, w1, w2, w3, w4, w5] := by
    have hs : args.size = 6 := by simpa [Cond.value, given_1] using g0
    obtain ⟨L⟩ := args
    match L, hs with
    | [w0, w1, w2, w3, w4, w5], _ => exact ⟨w0, w1, w2, w3, w4, w5, rfl⟩
  have hw := fun d (hd : d ∈ tables_1) => atoms_spec (ws := Jvm.Cond.code x code maxLocals ret :: tables_1) hat d (List.mem_cons_of_mem _ hd)
  have hfit : Fit s := fun {y c} hc i hi => by
    obtain ⟨ha, rfl⟩ := Array.getElem?_eq_some_iff.mp hc
    have q := List.all_eq_true.mp ((Array.all_eq_true_iff_forall_mem.mp hF) _ (Array.getElem_mem ha)) i (List.mem_range.mpr hi)
    simpa [Array.getElem?_eq_getElem hi] using q
  obtain ⟨i0, e0⟩ := is_v g1
  obtain rfl : w0 = (.int i0) := Option.some.inj e0
  obtain ⟨i1, e1⟩ := is_v g2
  obtain rfl : w1 = (.int i1) := Option.some.inj e1
  obtain ⟨i2, e2⟩ := is_v g3
  obtain rfl : w2 = (.int i2) := Option.some.inj e2
  obtain ⟨i3, e3⟩ := is_v g4
  obtain rfl : w3 = (.int i3) := Option.some.inj e3
  obtain ⟨i4, e4⟩ := is_v g5
  obtain rfl : w4 = (.int i4) := Option.some.inj e4
  obtain ⟨i5, e5⟩ := is_v r5
  obtain rfl : w5 = (.int i5) := Option.some.inj e5
  obtain ⟨hsets, hown0⟩ := atoms_of _ (rest_1_c_eq ▸ (show rest_1_c.before _ s = true from hrest))
  obtain ⟨zc, ezc⟩ := is_v (Cond.before_iff.mp (hsets _ (List.mem_of_getElem? (i := 1) rfl)))
  have S_C : Sta s s.heap "java/lang/String" "COMPACT_STRINGS" "Z" (.int zc) := Sta.start ezc (Or.inl (hsets _ (List.mem_of_getElem? (i := 0) rfl)))
  have hcw : Jvm.Lit.compactW.before _ s = true := hsets _ (List.mem_of_getElem? (i := 2) rfl)
  have n3 := not_v (Cond.before_iff.mp (hsets _ (List.mem_of_getElem? (i := 2) rfl)))
  have hzc : ¬ (zc = (0 : Int32)) := gotF (Cond.eq_ints ezc (Term.int_eval (0))) n3
  obtain ⟨fm, efm, hfm⟩ := isR_v (Cond.before_iff.mp (hsets _ (List.mem_of_getElem? (i := 8) rfl)))
  have S_F : Sta s s.heap "jdk/internal/util/Preconditions" "SIOOBE_FORMATTER" "Ljava/util/function/BiFunction;" fm := Sta.start efm (Or.inl (hsets _ (List.mem_of_getElem? (i := 7) rfl)))
  obtain ⟨wF, ev_wF⟩ := exa_v (Cond.before_iff.mp (hsets _ (List.mem_of_getElem? (i := 11) rfl)))
  have E_wF : Exa s s.heap wF "java/lang/Boolean" := Exa.start ev_wF (Cond.before_iff.mp (hsets _ (List.mem_of_getElem? (i := 11) rfl)))
  have S_wF : Sta s s.heap "java/lang/Boolean" "FALSE" "Ljava/lang/Boolean;" (.ref wF) := Sta.start ev_wF (Or.inl (hsets _ (List.mem_of_getElem? (i := 10) rfl)))
  have F_wF : Fld s s.heap wF "java/lang/Boolean" "value" "Z" (.int (0 : Int32)) := Fld.start (own_fldI ev_wF (Cond.before_iff.mp (hsets _ (List.mem_of_getElem? (i := 12) rfl))))
  obtain ⟨wT, ev_wT⟩ := exa_v (Cond.before_iff.mp (hsets _ (List.mem_of_getElem? (i := 15) rfl)))
  have E_wT : Exa s s.heap wT "java/lang/Boolean" := Exa.start ev_wT (Cond.before_iff.mp (hsets _ (List.mem_of_getElem? (i := 15) rfl)))
  have S_wT : Sta s s.heap "java/lang/Boolean" "TRUE" "Ljava/lang/Boolean;" (.ref wT) := Sta.start ev_wT (Or.inl (hsets _ (List.mem_of_getElem? (i := 14) rfl)))
  have F_wT : Fld s s.heap wT "java/lang/Boolean" "value" "Z" (.int (1 : Int32)) := Fld.start (own_fldI ev_wT (Cond.before_iff.mp (hsets _ (List.mem_of_getElem? (i := 16) rfl))))
  have hch : CHv s own_EL s.vm s.heap := CHv.start (own_EWof hw) (fun p hp => hcalls.1 p (own_sub p hp)) hcw (hw _ (own_atoms _ (by simp [Bundle.stringAtoms]))) (hw _ (own_atoms _ (by simp [Bundle.stringAtoms, Bundle.sN])))
  obtain ⟨n, o, h1, h2, h3, _, L, rfl, ⟨rfl, N⟩, hC, hq⟩ := rm_law l s _ hw tables_1 i0 i1 i2 i3 i4 i5 zc fm wT wF s.heap s.heap.size (Old.start s) S_C hzc S_F hfm S_wT S_wF E_wT E_wF F_wT F_wF p e ha hc hk s m _ below hf ((Spec.applies_iff_loose hf).mp happ).1 ⟨rfl, State.Warmed39.refl s, rfl, hch, all0⟩ trivial
  refine ⟨n, _, h1, h2, h3, hpost _ _ _ _ _ _ ⟨Cond.after_iff.mpr rfl, Cond.after_iff.mpr (eq_i res_at (Term.int_eval (1)) rfl), trivial⟩ ⟨hq.1, hq.2.1, hq.2.2.1, (hq.2.2.2.sift fun y hy => Or.inr (N y hy)).mono (by decide) (by decide)⟩⟩
theorem main_1_1 : Claimed_1_1 := comes_1 fun _ _ _ _ _ _ h hF => ⟨h.1, hF⟩
theorem main_1_2 : Claimed_1_2 := comes_1 fun _ _ _ _ _ _ h hF => ⟨h.2.1, hF⟩
end Jvm.Pilot.@@N@@
namespace Jvm.Pilot.@@N@@
open Jvm Jvm.ClassFile Sem Op Lib Jvm.Free Jvm.Stand Jvm.Pilot.@@N@@.Jvm.D
/-! MADE BY PROGRAM (witnessworld.py) out of the Statement's table words and the real class files: 21 classes; the members and pool entries that the words name. The judged class is class 1, her method 3. -/
namespace start1
open Jvm.ClassFile
def u (s : String) : CpInfo := .utf8 (stringToUtf16 s)
/-- a pool by its gaps: so many unusable entries, then the entry; so many at the end -/
def gap : Nat → List CpInfo → List CpInfo
  | 0, r => r
  | n + 1, r => .unusable :: gap n r
def poolList (es : List (Nat × CpInfo)) (last : Nat) : List CpInfo := es.foldr (fun e r => gap e.1 (e.2 :: r)) (gap last [])
def pool (es : List (Nat × CpInfo)) (last : Nat) : Array CpInfo := ⟨poolList es last⟩
def fileOf (pool : Array CpInfo) (this : Nat) (attrs : Array Attribute := #[]) (ms : Array MethodInfo := #[]) (fl : Nat := 33) (sup : Nat := 0) (ifs : Array Nat := #[]) (fds : Array FieldInfo := #[]) : ClassFile where
  minorVersion := 0
  majorVersion := 65
  constantPool := pool
  accessFlags := fl
  thisClass := this
  superClass := sup
  interfaces := ifs
  fields := fds
  methods := ms
  attributes := attrs
def plain (name : String) (sup : Option ClassId) : Class where
  name := name
  kind := .ordinary
  loader := none
  accessFlags := 33
  super := sup
  interfaces := #[]
  cf := none
  fields := #[]
  methods := #[]
  instanceTypes := #[]
  staticTypes := #[]
  resolved := #[]
  callSites := []
  init := .initialized
  statics := none
  mirror := none

def pool0 : Array CpInfo := pool [(5, u "<init>"), (0, u "()V"), (1, .class_ 10), (1, u "java/lang/Object")] 113

def k0c0 : Code := { maxStack := 0, maxLocals := 1, code := object_method_1_code, exceptionTable := #[], attributes := #[] }
def k0m0 : Method := { name := "<init>", desc := "()V", sig := { parameters := [], returnType := none }, accessFlags := 1, code := some k0c0 }
/-- java/lang/Object -/
def k0 : Class := { plain "java/lang/Object" none with
  accessFlags := 33
  interfaces := #[]
  cf := some (fileOf pool0 8 #[] #[{ accessFlags := 1, nameIndex := 5, descriptorIndex := 6, attributes := #[] }] 33 0 #[] #[])
  fields := #[]
  methods := #[k0m0]
  instanceTypes := #[]
  staticTypes := #[]
  resolved := Array.replicate 124 none
  statics := none }

def pool1 : Array CpInfo := pool [(2, .class_ 4), (1, u "java/lang/Object"), (0, u "<init>"), (0, u "()V"), (0, .string 8), (0, u "truefals01"), (0, .methodref 10 11), (0, .class_ 12), (0, .nameAndType 13 14), (0, u "java/lang/String"), (0, u "charAt"), (0, u "(I)C"), (0, .methodref 10 16), (0, .nameAndType 5 17), (0, u "([C)V"), (0, .methodref 19 20), (0, .class_ 21), (0, .nameAndType 22 14), (0, u "com/example/pico_notify/piconotify/XmlBoolPinLaw"), (0, u "ch"), (0, .methodref 19 24), (0, .nameAndType 25 26), (0, u "str"), (0, u "(ICCCCCC)Ljava/lang/String;"), (0, .methodref 28 29), (0, .class_ 30), (0, .nameAndType 31 32), (0, u "com/example/pico_notify/piconotify/Xml"), (0, u "bool"), (0, u "(Ljava/lang/String;)Ljava/lang/Boolean;"), (0, .methodref 34 35), (0, .class_ 36), (0, .nameAndType 37 38), (0, u "java/lang/Boolean"), (0, u "booleanValue"), (0, u "()Z"), (3, u "law"), (0, u "(IIIIII)Z")] 2

def k1m0 : Method := { name := "<init>", desc := "()V", sig := { parameters := [], returnType := none }, accessFlags := 2, code := none }
def k1c1 : Code := { maxStack := 3, maxLocals := 1, code := method_2_code, exceptionTable := #[], attributes := #[] }
def k1m1 : Method := { name := "ch", desc := "(I)C", sig := { parameters := [.int], returnType := some .char }, accessFlags := 10, code := some k1c1 }
def k1c2 : Code := { maxStack := 6, maxLocals := 7, code := method_3_code, exceptionTable := #[], attributes := #[] }
def k1m2 : Method := { name := "str", desc := "(ICCCCCC)Ljava/lang/String;", sig := { parameters := [.int, .char, .char, .char, .char, .char, .char], returnType := some (.object "java/lang/String") }, accessFlags := 10, code := some k1c2 }
def k1c3 : Code := { maxStack := 7, maxLocals := 17, code := code, exceptionTable := #[], attributes := #[] }
def k1m3 : Method := { name := "law", desc := "(IIIIII)Z", sig := { parameters := [.int, .int, .int, .int, .int, .int], returnType := some .boolean }, accessFlags := 9, code := some k1c3 }
/-- com/example/pico_notify/piconotify/XmlBoolPinLaw -/
def k1 : Class := { plain "com/example/pico_notify/piconotify/XmlBoolPinLaw" (some 0) with
  accessFlags := 49
  interfaces := #[]
  cf := some (fileOf pool1 19 #[] #[{ accessFlags := 2, nameIndex := 5, descriptorIndex := 6, attributes := #[] }, { accessFlags := 10, nameIndex := 22, descriptorIndex := 14, attributes := #[] }, { accessFlags := 10, nameIndex := 25, descriptorIndex := 26, attributes := #[] }, { accessFlags := 9, nameIndex := 42, descriptorIndex := 43, attributes := #[] }] 49 2 #[] #[])
  fields := #[]
  methods := #[k1m0, k1m1, k1m2, k1m3]
  instanceTypes := #[]
  staticTypes := #[]
  resolved := Array.replicate 46 none
  statics := none }

def pool2 : Array CpInfo := pool [(1, .class_ 2), (0, u "java/io/Serializable"), (0, .class_ 4), (0, u "java/lang/Object")] 2

/-- java/io/Serializable -/
def k2 : Class := { plain "java/io/Serializable" (some 0) with
  accessFlags := 1537
  interfaces := #[]
  cf := some (fileOf pool2 1 #[] #[] 1537 3 #[] #[])
  fields := #[]
  methods := #[]
  instanceTypes := #[]
  staticTypes := #[]
  resolved := Array.replicate 7 none
  statics := none }

def pool3 : Array CpInfo := pool [(1, .class_ 2), (0, u "java/lang/Comparable"), (0, .class_ 4), (0, u "java/lang/Object")] 7

/-- java/lang/Comparable -/
def k3 : Class := { plain "java/lang/Comparable" (some 0) with
  accessFlags := 1537
  interfaces := #[]
  cf := some (fileOf pool3 1 #[] #[] 1537 3 #[] #[])
  fields := #[]
  methods := #[]
  instanceTypes := #[]
  staticTypes := #[]
  resolved := Array.replicate 12 none
  statics := none }

def pool4 : Array CpInfo := pool [(2, .class_ 4), (1, u "java/lang/CharSequence"), (42, .class_ 48), (0, u "java/lang/CharSequence$1CodePointIterator"), (10, .class_ 60), (0, u "java/lang/CharSequence$1CharIterator"), (5, .class_ 67), (0, u "java/lang/Object")] 63

/-- java/lang/CharSequence -/
def k4 : Class := { plain "java/lang/CharSequence" (some 0) with
  accessFlags := 1537
  interfaces := #[]
  cf := some (fileOf pool4 2 #[.nestMembers #[47, 59]] #[] 1537 66 #[] #[])
  fields := #[]
  methods := #[]
  instanceTypes := #[]
  staticTypes := #[]
  resolved := Array.replicate 131 none
  statics := none }

def pool5 : Array CpInfo := pool [(1, .class_ 2), (0, u "java/lang/constant/Constable"), (0, .class_ 4), (0, u "java/lang/Object")] 6

/-- java/lang/constant/Constable -/
def k5 : Class := { plain "java/lang/constant/Constable" (some 0) with
  accessFlags := 1537
  interfaces := #[]
  cf := some (fileOf pool5 1 #[] #[] 1537 3 #[] #[])
  fields := #[]
  methods := #[]
  instanceTypes := #[]
  staticTypes := #[]
  resolved := Array.replicate 11 none
  statics := none }

def pool6 : Array CpInfo := pool [(1, .class_ 2), (0, u "java/lang/constant/ConstantDesc"), (0, .class_ 4), (0, u "java/lang/Object")] 32

/-- java/lang/constant/ConstantDesc -/
def k6 : Class := { plain "java/lang/constant/ConstantDesc" (some 0) with
  accessFlags := 1537
  interfaces := #[]
  cf := some (fileOf pool6 1 #[] #[] 1537 3 #[] #[])
  fields := #[]
  methods := #[]
  instanceTypes := #[]
  staticTypes := #[]
  resolved := Array.replicate 37 none
  statics := none }

def pool7 : Array CpInfo := pool [(1, .methodref 2 3), (0, .class_ 4), (0, .nameAndType 5 6), (0, u "java/lang/Object"), (0, u "<init>"), (0, u "()V"), (0, .string 8), (0, u ""), (0, .fieldref 10 11), (0, .class_ 12), (0, .nameAndType 13 14), (0, u "java/lang/String"), (0, u "value"), (0, u "[B"), (0, .fieldref 10 16), (0, .nameAndType 17 18), (0, u "coder"), (0, u "B"), (2, u "hash"), (0, u "I"), (2, u "hashIsZero"), (0, u "Z"), (0, .methodref 10 28), (0, .nameAndType 5 29), (0, u "([CIILjava/lang/Void;)V"), (8, .fieldref 10 39), (0, .nameAndType 40 26), (0, u "COMPACT_STRINGS"), (1, .class_ 44), (1, u "java/lang/StringUTF16"), (0, u "compress"), (1, .methodref 42 48), (0, .nameAndType 49 50), (0, u "coderFromArrayLen"), (0, u "([BI)B"), (56, .class_ 109), (1, u "java/lang/StringLatin1"), (32, u "()Z"), (34, .methodref 42 178), (0, .nameAndType 45 179), (0, u "([CII)[B"), (183, u "([BI)C"), (27, u "(II)V"), (35, u "(I)C"), (64, .methodref 10 493), (0, .nameAndType 494 142), (0, u "isLatin1"), (0, .methodref 107 496), (0, .nameAndType 497 363), (0, u "charAt"), (3, u "checkIndex"), (39, .methodref 107 542), (0, .nameAndType 543 544), (0, u "equals"), (0, u "([B[B)Z"), (28, u "(Ljava/lang/Object;)Z"), (1, .class_ 576), (0, u "java/lang/CharSequence"), (22, u "CASE_INSENSITIVE_ORDER"), (0, u "Ljava/util/Comparator;"), (409, u "([C)V"), (42, .fieldref 1054 1055), (0, .class_ 1056), (0, .nameAndType 1057 1058), (0, u "jdk/internal/util/Preconditions"), (0, u "SIOOBE_FORMATTER"), (0, u "Ljava/util/function/BiFunction;"), (0, .methodref 1054 1060), (0, .nameAndType 501 1061), (0, u "(IILjava/util/function/BiFunction;)I"), (39, u "serialPersistentFields"), (0, u "[Ljava/io/ObjectStreamField;"), (0, .class_ 1104), (0, u "java/lang/String$CaseInsensitiveComparator"), (1, .class_ 1107), (0, u "java/io/Serializable"), (0, .class_ 1109), (0, u "java/lang/Comparable"), (0, .class_ 1111), (0, u "java/lang/constant/Constable"), (0, .class_ 1113), (0, u "java/lang/constant/ConstantDesc"), (2, u "serialVersionUID"), (0, u "J"), (3, u "REPL"), (0, u "C"), (2, u "LATIN1"), (1, u "UTF16")] 323

def k7m0 : Method := { name := "<init>", desc := "()V", sig := { parameters := [], returnType := none }, accessFlags := 1, code := none }
def k7c1 : Code := { maxStack := 5, maxLocals := 2, code := jdk_42_method_3_code, exceptionTable := #[], attributes := #[] }
def k7m1 : Method := { name := "<init>", desc := "([C)V", sig := { parameters := [(.array .char)], returnType := none }, accessFlags := 1, code := some k7c1 }
def k7c2 : Code := { maxStack := 2, maxLocals := 2, code := jdk_42_method_56_code, exceptionTable := #[], attributes := #[] }
def k7m2 : Method := { name := "charAt", desc := "(I)C", sig := { parameters := [.int], returnType := some .char }, accessFlags := 1, code := some k7c2 }
def k7c3 : Code := { maxStack := 2, maxLocals := 3, code := jdk_42_method_66_code, exceptionTable := #[], attributes := #[] }
def k7m3 : Method := { name := "equals", desc := "(Ljava/lang/Object;)Z", sig := { parameters := [(.object "java/lang/Object")], returnType := some .boolean }, accessFlags := 1, code := some k7c3 }
def k7c4 : Code := { maxStack := 4, maxLocals := 6, code := jdk_42_method_149_code, exceptionTable := #[], attributes := #[] }
def k7m4 : Method := { name := "<init>", desc := "([CIILjava/lang/Void;)V", sig := { parameters := [(.array .char), .int, .int, (.object "java/lang/Void")], returnType := none }, accessFlags := 2, code := some k7c4 }
def k7c5 : Code := { maxStack := 1, maxLocals := 1, code := jdk_42_method_154_code, exceptionTable := #[], attributes := #[] }
def k7m5 : Method := { name := "isLatin1", desc := "()Z", sig := { parameters := [], returnType := some .boolean }, accessFlags := 0, code := some k7c5 }
def k7c6 : Code := { maxStack := 3, maxLocals := 2, code := jdk_42_method_155_code, exceptionTable := #[], attributes := #[] }
def k7m6 : Method := { name := "checkIndex", desc := "(II)V", sig := { parameters := [.int, .int], returnType := none }, accessFlags := 8, code := some k7c6 }
/-- java/lang/String -/
def k7 : Class := { plain "java/lang/String" (some 0) with
  accessFlags := 49
  interfaces := #[2, 3, 4, 5, 6]
  cf := some (fileOf pool7 10 #[.nestMembers #[1103]] #[{ accessFlags := 1, nameIndex := 5, descriptorIndex := 6, attributes := #[] }, { accessFlags := 1, nameIndex := 5, descriptorIndex := 1010, attributes := #[] }, { accessFlags := 1, nameIndex := 497, descriptorIndex := 427, attributes := #[] }, { accessFlags := 1, nameIndex := 543, descriptorIndex := 573, attributes := #[] }, { accessFlags := 2, nameIndex := 5, descriptorIndex := 29, attributes := #[] }, { accessFlags := 0, nameIndex := 494, descriptorIndex := 142, attributes := #[] }, { accessFlags := 8, nameIndex := 501, descriptorIndex := 391, attributes := #[] }] 49 2 #[1106, 1108, 575, 1110, 1112] #[{ accessFlags := 18, nameIndex := 13, descriptorIndex := 14, attributes := #[] }, { accessFlags := 18, nameIndex := 17, descriptorIndex := 18, attributes := #[] }, { accessFlags := 2, nameIndex := 21, descriptorIndex := 22, attributes := #[] }, { accessFlags := 2, nameIndex := 25, descriptorIndex := 26, attributes := #[] }, { accessFlags := 26, nameIndex := 1116, descriptorIndex := 1117, attributes := #[] }, { accessFlags := 24, nameIndex := 40, descriptorIndex := 26, attributes := #[] }, { accessFlags := 26, nameIndex := 1101, descriptorIndex := 1102, attributes := #[] }, { accessFlags := 26, nameIndex := 1121, descriptorIndex := 1122, attributes := #[] }, { accessFlags := 25, nameIndex := 599, descriptorIndex := 600, attributes := #[] }, { accessFlags := 24, nameIndex := 1125, descriptorIndex := 18, attributes := #[] }, { accessFlags := 24, nameIndex := 1127, descriptorIndex := 18, attributes := #[] }])
  fields := #[{ name := "value", type := (.array .byte), accessFlags := 18, slot := 0, constantValue := 0 }, { name := "coder", type := .byte, accessFlags := 18, slot := 1, constantValue := 0 }, { name := "hash", type := .int, accessFlags := 2, slot := 2, constantValue := 0 }, { name := "hashIsZero", type := .boolean, accessFlags := 2, slot := 3, constantValue := 0 }, { name := "serialVersionUID", type := .long, accessFlags := 26, slot := 0, constantValue := 0 }, { name := "COMPACT_STRINGS", type := .boolean, accessFlags := 24, slot := 1, constantValue := 0 }, { name := "serialPersistentFields", type := (.array (.object "java/io/ObjectStreamField")), accessFlags := 26, slot := 2, constantValue := 0 }, { name := "REPL", type := .char, accessFlags := 26, slot := 3, constantValue := 0 }, { name := "CASE_INSENSITIVE_ORDER", type := (.object "java/util/Comparator"), accessFlags := 25, slot := 4, constantValue := 0 }, { name := "LATIN1", type := .byte, accessFlags := 24, slot := 5, constantValue := 0 }, { name := "UTF16", type := .byte, accessFlags := 24, slot := 6, constantValue := 0 }]
  methods := #[k7m0, k7m1, k7m2, k7m3, k7m4, k7m5, k7m6]
  instanceTypes := #[(.array .byte), .byte, .int, .boolean]
  staticTypes := #[.long, .boolean, (.array (.object "java/io/ObjectStreamField")), .char, (.object "java/util/Comparator"), .byte, .byte]
  resolved := Array.replicate 1451 none
  statics := some 0 }

def pool8 : Array CpInfo := pool [(1, .class_ 2), (0, u "java/lang/String"), (1, .class_ 6), (1, u "java/lang/Object"), (0, u "<init>"), (0, u "()V"), (0, .methodref 1 10), (0, .nameAndType 11 12), (0, u "checkIndex"), (0, u "(II)V"), (1, .class_ 16), (1, u "java/lang/StringLatin1"), (36, u "([BI)C"), (67, u "$assertionsDisabled"), (0, u "Z"), (98, .class_ 223), (1, u "java/lang/StringLatin1$LinesSpliterator"), (28, u "charAt"), (28, u "equals"), (0, u "([B[B)Z"), (107, .class_ 391), (0, u "java/lang/StringLatin1$CharsSpliterator")] 3

def k8m0 : Method := { name := "<init>", desc := "()V", sig := { parameters := [], returnType := none }, accessFlags := 0, code := none }
def k8c1 : Code := { maxStack := 2, maxLocals := 2, code := jdk_43_method_2_code, exceptionTable := #[], attributes := #[] }
def k8m1 : Method := { name := "charAt", desc := "([BI)C", sig := { parameters := [(.array .byte), .int], returnType := some .char }, accessFlags := 9, code := some k8c1 }
def k8c2 : Code := { maxStack := 3, maxLocals := 3, code := jdk_43_method_13_code, exceptionTable := #[], attributes := #[] }
def k8m2 : Method := { name := "equals", desc := "([B[B)Z", sig := { parameters := [(.array .byte), (.array .byte)], returnType := some .boolean }, accessFlags := 9, code := some k8c2 }
/-- java/lang/StringLatin1 -/
def k8 : Class := { plain "java/lang/StringLatin1" (some 0) with
  accessFlags := 48
  interfaces := #[]
  cf := some (fileOf pool8 14 #[.nestMembers #[390, 221]] #[{ accessFlags := 0, nameIndex := 7, descriptorIndex := 8, attributes := #[] }, { accessFlags := 9, nameIndex := 252, descriptorIndex := 53, attributes := #[] }, { accessFlags := 9, nameIndex := 281, descriptorIndex := 282, attributes := #[] }] 48 4 #[] #[{ accessFlags := 4120, nameIndex := 121, descriptorIndex := 122, attributes := #[] }])
  fields := #[{ name := "$assertionsDisabled", type := .boolean, accessFlags := 4120, slot := 0, constantValue := 0 }]
  methods := #[k8m0, k8m1, k8m2]
  instanceTypes := #[]
  staticTypes := #[.boolean]
  resolved := Array.replicate 395 none
  statics := none }

def pool9 : Array CpInfo := pool [(2, .class_ 4), (1, u "java/lang/Object"), (0, u "<init>"), (0, u "()V"), (17, .class_ 26), (1, u "jdk/internal/util/Preconditions"), (6, u "checkIndex"), (21, .class_ 56), (0, u "jdk/internal/util/Preconditions$4"), (57, .class_ 115), (0, u "jdk/internal/util/Preconditions$1"), (7, u "SIOOBE_FORMATTER"), (0, u "Ljava/util/function/BiFunction;"), (0, .class_ 126), (0, u "jdk/internal/util/Preconditions$2"), (3, u "AIOOBE_FORMATTER"), (0, .class_ 132), (0, u "jdk/internal/util/Preconditions$3"), (3, u "IOOBE_FORMATTER"), (41, u "(IILjava/util/function/BiFunction;)I")] 15

def k9m0 : Method := { name := "<init>", desc := "()V", sig := { parameters := [], returnType := none }, accessFlags := 1, code := none }
def k9c1 : Code := { maxStack := 3, maxLocals := 3, code := jdk_41_method_11_code, exceptionTable := #[], attributes := #[] }
def k9m1 : Method := { name := "checkIndex", desc := "(IILjava/util/function/BiFunction;)I", sig := { parameters := [.int, .int, (.object "java/util/function/BiFunction")], returnType := some .int }, accessFlags := 9, code := some k9c1 }
/-- jdk/internal/util/Preconditions -/
def k9 : Class := { plain "jdk/internal/util/Preconditions" (some 0) with
  accessFlags := 33
  interfaces := #[]
  cf := some (fileOf pool9 24 #[.nestMembers #[55, 131, 125, 114]] #[{ accessFlags := 1, nameIndex := 5, descriptorIndex := 6, attributes := #[] }, { accessFlags := 9, nameIndex := 33, descriptorIndex := 178, attributes := #[] }] 33 2 #[] #[{ accessFlags := 25, nameIndex := 123, descriptorIndex := 124, attributes := #[] }, { accessFlags := 25, nameIndex := 130, descriptorIndex := 124, attributes := #[] }, { accessFlags := 25, nameIndex := 136, descriptorIndex := 124, attributes := #[] }])
  fields := #[{ name := "SIOOBE_FORMATTER", type := (.object "java/util/function/BiFunction"), accessFlags := 25, slot := 0, constantValue := 0 }, { name := "AIOOBE_FORMATTER", type := (.object "java/util/function/BiFunction"), accessFlags := 25, slot := 1, constantValue := 0 }, { name := "IOOBE_FORMATTER", type := (.object "java/util/function/BiFunction"), accessFlags := 25, slot := 2, constantValue := 0 }]
  methods := #[k9m0, k9m1]
  instanceTypes := #[]
  staticTypes := #[(.object "java/util/function/BiFunction"), (.object "java/util/function/BiFunction"), (.object "java/util/function/BiFunction")]
  resolved := Array.replicate 194 none
  statics := some 1 }

def pool10 : Array CpInfo := pool [(2, .class_ 4), (1, u "java/lang/Object"), (0, u "<init>"), (0, u "()V"), (1, .class_ 10), (1, u "com/example/pico_notify/piconotify/Xml"), (0, u "PARSER"), (0, u "Ljava/lang/ThreadLocal;"), (10, u "STRICT"), (0, u "Lorg/xml/sax/ErrorHandler;"), (45, .class_ 72), (1, u "java/lang/String"), (26, .class_ 100), (0, u "com/example/pico_notify/piconotify/Xml$Parts"), (52, .class_ 155), (1, u "com/example/pico_notify/piconotify/Xml$Visitor"), (28, u "(Ljava/lang/Object;)Z"), (6, .methodref 70 192), (0, .nameAndType 193 184), (0, u "equals"), (52, .string 247), (0, u "true"), (0, .string 249), (0, u "1"), (0, .fieldref 251 252), (0, .class_ 253), (0, .nameAndType 254 255), (0, u "java/lang/Boolean"), (0, u "TRUE"), (0, u "Ljava/lang/Boolean;"), (0, .string 257), (0, u "false"), (0, .string 259), (0, u "0"), (0, .fieldref 251 261), (0, .nameAndType 262 255), (0, u "FALSE"), (24, .class_ 288), (0, u "com/example/pico_notify/piconotify/Xml$Copies"), (79, .class_ 369), (0, u "com/example/pico_notify/piconotify/Xml$Declarations"), (181, .class_ 553), (1, u "com/example/pico_notify/piconotify/Xml$Parsers"), (13, u "SERIALIZERS"), (41, .class_ 610), (0, u "com/example/pico_notify/piconotify/Xml$Events"), (38, .class_ 650), (0, u "com/example/pico_notify/piconotify/Xml$1"), (1, u "COPIES"), (0, u "Ljava/lang/String;"), (33, u "bool"), (0, u "(Ljava/lang/String;)Ljava/lang/Boolean;")] 125

def k10m0 : Method := { name := "<init>", desc := "()V", sig := { parameters := [], returnType := none }, accessFlags := 2, code := none }
def k10c1 : Code := { maxStack := 2, maxLocals := 2, code := prog_46_method_18_code, exceptionTable := #[], attributes := #[] }
def k10m1 : Method := { name := "bool", desc := "(Ljava/lang/String;)Ljava/lang/Boolean;", sig := { parameters := [(.object "java/lang/String")], returnType := some (.object "java/lang/Boolean") }, accessFlags := 8, code := some k10c1 }
/-- com/example/pico_notify/piconotify/Xml -/
def k10 : Class := { plain "com/example/pico_notify/piconotify/Xml" (some 0) with
  accessFlags := 32
  interfaces := #[]
  cf := some (fileOf pool10 8 #[.nestMembers #[609, 551, 368, 287, 153, 99, 649]] #[{ accessFlags := 2, nameIndex := 5, descriptorIndex := 6, attributes := #[] }, { accessFlags := 8, nameIndex := 687, descriptorIndex := 688, attributes := #[] }] 32 2 #[] #[{ accessFlags := 26, nameIndex := 652, descriptorIndex := 653, attributes := #[] }, { accessFlags := 26, nameIndex := 11, descriptorIndex := 12, attributes := #[] }, { accessFlags := 26, nameIndex := 567, descriptorIndex := 12, attributes := #[] }, { accessFlags := 26, nameIndex := 23, descriptorIndex := 24, attributes := #[] }])
  fields := #[{ name := "COPIES", type := (.object "java/lang/String"), accessFlags := 26, slot := 0, constantValue := 0 }, { name := "PARSER", type := (.object "java/lang/ThreadLocal"), accessFlags := 26, slot := 1, constantValue := 0 }, { name := "SERIALIZERS", type := (.object "java/lang/ThreadLocal"), accessFlags := 26, slot := 2, constantValue := 0 }, { name := "STRICT", type := (.object "org/xml/sax/ErrorHandler"), accessFlags := 26, slot := 3, constantValue := 0 }]
  methods := #[k10m0, k10m1]
  instanceTypes := #[]
  staticTypes := #[(.object "java/lang/String"), (.object "java/lang/ThreadLocal"), (.object "java/lang/ThreadLocal"), (.object "org/xml/sax/ErrorHandler")]
  resolved := Array.replicate 814 none
  statics := none }

def pool11 : Array CpInfo := pool [(6, .class_ 8), (1, u "java/lang/Object"), (0, u "<init>"), (0, u "()V"), (1, .class_ 14), (1, u "java/lang/StringUTF16"), (31, u "$assertionsDisabled"), (0, u "Z"), (13, u "HI_BYTE_SHIFT"), (0, u "I"), (2, u "LO_BYTE_SHIFT"), (49, .methodref 12 116), (0, .nameAndType 117 118), (0, u "compress"), (0, u "([CI[BII)I"), (3, u "([CII)[B"), (138, u "coderFromArrayLen"), (0, u "([BI)B"), (106, .class_ 371), (1, u "java/lang/StringUTF16$LinesSpliterator"), (58, u "MAX_LENGTH"), (196, .class_ 628), (0, u "java/lang/StringUTF16$CodePointsSpliterator"), (0, .class_ 630), (0, u "java/lang/StringUTF16$CharsSpliterator")] 4

def k11m0 : Method := { name := "<init>", desc := "()V", sig := { parameters := [], returnType := none }, accessFlags := 0, code := none }
def k11c1 : Code := { maxStack := 2, maxLocals := 2, code := jdk_52_method_15_code, exceptionTable := #[], attributes := #[] }
def k11m1 : Method := { name := "coderFromArrayLen", desc := "([BI)B", sig := { parameters := [(.array .byte), .int], returnType := some .byte }, accessFlags := 8, code := some k11c1 }
def k11c2 : Code := { maxStack := 5, maxLocals := 6, code := jdk_52_method_16_code, exceptionTable := #[], attributes := #[] }
def k11m2 : Method := { name := "compress", desc := "([CII)[B", sig := { parameters := [(.array .char), .int, .int], returnType := some (.array .byte) }, accessFlags := 9, code := some k11c2 }
def k11c3 : Code := { maxStack := 3, maxLocals := 7, code := jdk_52_method_21_code, exceptionTable := #[], attributes := #[] }
def k11m3 : Method := { name := "compress", desc := "([CI[BII)I", sig := { parameters := [(.array .char), .int, (.array .byte), .int, .int], returnType := some .int }, accessFlags := 9, code := some k11c3 }
/-- java/lang/StringUTF16 -/
def k11 : Class := { plain "java/lang/StringUTF16" (some 0) with
  accessFlags := 48
  interfaces := #[]
  cf := some (fileOf pool11 12 #[.nestMembers #[627, 629, 369]] #[{ accessFlags := 0, nameIndex := 9, descriptorIndex := 10, attributes := #[] }, { accessFlags := 8, nameIndex := 261, descriptorIndex := 262, attributes := #[] }, { accessFlags := 9, nameIndex := 117, descriptorIndex := 122, attributes := #[] }, { accessFlags := 9, nameIndex := 117, descriptorIndex := 118, attributes := #[] }] 48 6 #[] #[{ accessFlags := 26, nameIndex := 61, descriptorIndex := 62, attributes := #[] }, { accessFlags := 26, nameIndex := 65, descriptorIndex := 62, attributes := #[] }, { accessFlags := 24, nameIndex := 430, descriptorIndex := 62, attributes := #[] }, { accessFlags := 4120, nameIndex := 46, descriptorIndex := 47, attributes := #[] }])
  fields := #[{ name := "HI_BYTE_SHIFT", type := .int, accessFlags := 26, slot := 0, constantValue := 0 }, { name := "LO_BYTE_SHIFT", type := .int, accessFlags := 26, slot := 1, constantValue := 0 }, { name := "MAX_LENGTH", type := .int, accessFlags := 24, slot := 2, constantValue := 0 }, { name := "$assertionsDisabled", type := .boolean, accessFlags := 4120, slot := 3, constantValue := 0 }]
  methods := #[k11m0, k11m1, k11m2, k11m3]
  instanceTypes := #[]
  staticTypes := #[.int, .int, .int, .boolean]
  resolved := Array.replicate 635 none
  statics := none }

def pool12 : Array CpInfo := pool [(2, .class_ 4), (1, u "java/lang/Object"), (2, .fieldref 8 9), (0, .class_ 10), (0, .nameAndType 11 12), (0, u "java/lang/Boolean"), (0, u "value"), (0, u "Z"), (16, u "TRUE"), (0, u "Ljava/lang/Boolean;"), (2, u "FALSE"), (10, u "booleanValue"), (0, u "()Z"), (41, u "TYPE"), (0, u "Ljava/lang/Class;"), (0, .class_ 90), (0, u "java/io/Serializable"), (0, .class_ 92), (0, u "java/lang/Comparable"), (0, .class_ 94), (0, u "java/lang/constant/Constable"), (2, u "serialVersionUID"), (0, u "J")] 53

def k12c0 : Code := { maxStack := 1, maxLocals := 1, code := jdk_2055_method_4_code, exceptionTable := #[], attributes := #[] }
def k12m0 : Method := { name := "booleanValue", desc := "()Z", sig := { parameters := [], returnType := some .boolean }, accessFlags := 1, code := some k12c0 }
/-- java/lang/Boolean -/
def k12 : Class := { plain "java/lang/Boolean" (some 0) with
  accessFlags := 49
  interfaces := #[2, 3, 5]
  cf := some (fileOf pool12 8 #[] #[{ accessFlags := 1, nameIndex := 44, descriptorIndex := 45, attributes := #[] }] 49 2 #[89, 91, 93] #[{ accessFlags := 25, nameIndex := 29, descriptorIndex := 30, attributes := #[] }, { accessFlags := 25, nameIndex := 33, descriptorIndex := 30, attributes := #[] }, { accessFlags := 25, nameIndex := 87, descriptorIndex := 88, attributes := #[] }, { accessFlags := 18, nameIndex := 11, descriptorIndex := 12, attributes := #[] }, { accessFlags := 26, nameIndex := 97, descriptorIndex := 98, attributes := #[] }])
  fields := #[{ name := "TRUE", type := (.object "java/lang/Boolean"), accessFlags := 25, slot := 0, constantValue := 0 }, { name := "FALSE", type := (.object "java/lang/Boolean"), accessFlags := 25, slot := 1, constantValue := 0 }, { name := "TYPE", type := (.object "java/lang/Class"), accessFlags := 25, slot := 2, constantValue := 0 }, { name := "value", type := .boolean, accessFlags := 18, slot := 0, constantValue := 0 }, { name := "serialVersionUID", type := .long, accessFlags := 26, slot := 3, constantValue := 0 }]
  methods := #[k12m0]
  instanceTypes := #[.boolean]
  staticTypes := #[(.object "java/lang/Boolean"), (.object "java/lang/Boolean"), (.object "java/lang/Class"), .long]
  resolved := Array.replicate 152 none
  statics := some 2 }

def pool13 : Array CpInfo := pool [(9, u "<init>"), (6, .class_ 18), (1, u "java/lang/Object"), (0, u "()V"), (1, .class_ 23), (1, u "jdk/internal/util/ArraysSupport"), (0, u "LOG2_ARRAY_LONG_INDEX_SCALE"), (0, u "I"), (2, u "U"), (0, u "Ljdk/internal/misc/Unsafe;"), (8, u "BIG_ENDIAN"), (0, u "Z"), (8, u "LOG2_BYTE_BIT_SIZE"), (4, u "LOG2_ARRAY_INT_INDEX_SCALE"), (54, u "JLA"), (0, u "Ljdk/internal/access/JavaLangAccess;"), (11, u "LOG2_ARRAY_BOOLEAN_INDEX_SCALE"), (9, u "LOG2_ARRAY_BYTE_INDEX_SCALE"), (5, u "LOG2_ARRAY_CHAR_INDEX_SCALE"), (5, u "LOG2_ARRAY_SHORT_INDEX_SCALE"), (18, u "LOG2_ARRAY_FLOAT_INDEX_SCALE"), (24, u "LOG2_ARRAY_DOUBLE_INDEX_SCALE"), (89, u "T_BOOLEAN"), (2, u "T_CHAR"), (1, u "T_FLOAT"), (1, u "T_DOUBLE"), (1, u "T_BYTE"), (1, u "T_SHORT"), (1, u "T_INT"), (1, u "T_LONG"), (1, u "SOFT_MAX_ARRAY_LENGTH")] 83

def k13m0 : Method := { name := "<init>", desc := "()V", sig := { parameters := [], returnType := none }, accessFlags := 2, code := none }
/-- jdk/internal/util/ArraysSupport -/
def k13 : Class := { plain "jdk/internal/util/ArraysSupport" (some 0) with
  accessFlags := 33
  interfaces := #[]
  cf := some (fileOf pool13 21 #[] #[{ accessFlags := 2, nameIndex := 9, descriptorIndex := 19, attributes := #[] }] 33 16 #[] #[{ accessFlags := 24, nameIndex := 28, descriptorIndex := 29, attributes := #[] }, { accessFlags := 26, nameIndex := 38, descriptorIndex := 39, attributes := #[] }, { accessFlags := 25, nameIndex := 121, descriptorIndex := 25, attributes := #[] }, { accessFlags := 25, nameIndex := 131, descriptorIndex := 25, attributes := #[] }, { accessFlags := 25, nameIndex := 137, descriptorIndex := 25, attributes := #[] }, { accessFlags := 25, nameIndex := 143, descriptorIndex := 25, attributes := #[] }, { accessFlags := 25, nameIndex := 53, descriptorIndex := 25, attributes := #[] }, { accessFlags := 25, nameIndex := 24, descriptorIndex := 25, attributes := #[] }, { accessFlags := 25, nameIndex := 162, descriptorIndex := 25, attributes := #[] }, { accessFlags := 25, nameIndex := 187, descriptorIndex := 25, attributes := #[] }, { accessFlags := 26, nameIndex := 48, descriptorIndex := 25, attributes := #[] }, { accessFlags := 25, nameIndex := 277, descriptorIndex := 25, attributes := #[] }, { accessFlags := 25, nameIndex := 280, descriptorIndex := 25, attributes := #[] }, { accessFlags := 25, nameIndex := 282, descriptorIndex := 25, attributes := #[] }, { accessFlags := 25, nameIndex := 284, descriptorIndex := 25, attributes := #[] }, { accessFlags := 25, nameIndex := 286, descriptorIndex := 25, attributes := #[] }, { accessFlags := 25, nameIndex := 288, descriptorIndex := 25, attributes := #[] }, { accessFlags := 25, nameIndex := 290, descriptorIndex := 25, attributes := #[] }, { accessFlags := 25, nameIndex := 292, descriptorIndex := 25, attributes := #[] }, { accessFlags := 26, nameIndex := 108, descriptorIndex := 109, attributes := #[] }, { accessFlags := 25, nameIndex := 294, descriptorIndex := 25, attributes := #[] }])
  fields := #[{ name := "U", type := (.object "jdk/internal/misc/Unsafe"), accessFlags := 24, slot := 0, constantValue := 0 }, { name := "BIG_ENDIAN", type := .boolean, accessFlags := 26, slot := 1, constantValue := 0 }, { name := "LOG2_ARRAY_BOOLEAN_INDEX_SCALE", type := .int, accessFlags := 25, slot := 2, constantValue := 0 }, { name := "LOG2_ARRAY_BYTE_INDEX_SCALE", type := .int, accessFlags := 25, slot := 3, constantValue := 0 }, { name := "LOG2_ARRAY_CHAR_INDEX_SCALE", type := .int, accessFlags := 25, slot := 4, constantValue := 0 }, { name := "LOG2_ARRAY_SHORT_INDEX_SCALE", type := .int, accessFlags := 25, slot := 5, constantValue := 0 }, { name := "LOG2_ARRAY_INT_INDEX_SCALE", type := .int, accessFlags := 25, slot := 6, constantValue := 0 }, { name := "LOG2_ARRAY_LONG_INDEX_SCALE", type := .int, accessFlags := 25, slot := 7, constantValue := 0 }, { name := "LOG2_ARRAY_FLOAT_INDEX_SCALE", type := .int, accessFlags := 25, slot := 8, constantValue := 0 }, { name := "LOG2_ARRAY_DOUBLE_INDEX_SCALE", type := .int, accessFlags := 25, slot := 9, constantValue := 0 }, { name := "LOG2_BYTE_BIT_SIZE", type := .int, accessFlags := 26, slot := 10, constantValue := 0 }, { name := "T_BOOLEAN", type := .int, accessFlags := 25, slot := 11, constantValue := 0 }, { name := "T_CHAR", type := .int, accessFlags := 25, slot := 12, constantValue := 0 }, { name := "T_FLOAT", type := .int, accessFlags := 25, slot := 13, constantValue := 0 }, { name := "T_DOUBLE", type := .int, accessFlags := 25, slot := 14, constantValue := 0 }, { name := "T_BYTE", type := .int, accessFlags := 25, slot := 15, constantValue := 0 }, { name := "T_SHORT", type := .int, accessFlags := 25, slot := 16, constantValue := 0 }, { name := "T_INT", type := .int, accessFlags := 25, slot := 17, constantValue := 0 }, { name := "T_LONG", type := .int, accessFlags := 25, slot := 18, constantValue := 0 }, { name := "JLA", type := (.object "jdk/internal/access/JavaLangAccess"), accessFlags := 26, slot := 19, constantValue := 0 }, { name := "SOFT_MAX_ARRAY_LENGTH", type := .int, accessFlags := 25, slot := 20, constantValue := 0 }]
  methods := #[k13m0]
  instanceTypes := #[]
  staticTypes := #[(.object "jdk/internal/misc/Unsafe"), .boolean, .int, .int, .int, .int, .int, .int, .int, .int, .int, .int, .int, .int, .int, .int, .int, .int, .int, (.object "jdk/internal/access/JavaLangAccess"), .int]
  resolved := Array.replicate 378 none
  statics := none }

def pool14 : Array CpInfo := pool [(1, u "java/lang/Cloneable"), (0, .class_ 1), (0, u "java/lang/Object"), (0, .class_ 3)] 3

/-- java/lang/Cloneable -/
def k14 : Class := { plain "java/lang/Cloneable" (some 0) with
  accessFlags := 1537
  interfaces := #[]
  cf := some (fileOf pool14 2 #[] #[] 1537 4 #[] #[])
  fields := #[]
  methods := #[]
  instanceTypes := #[]
  staticTypes := #[]
  resolved := Array.replicate 8 none
  statics := none }

/-- the primitive byte -/
def k15 : Class := { plain "byte" none with kind := .primitive 'B', accessFlags := 0x411 }
/-- [B -/
def k16 : Class := { plain "[B" (some 0) with kind := .array 15 .byte, interfaces := #[14, 2], accessFlags := 1041 }

/-- the primitive char -/
def k17 : Class := { plain "char" none with kind := .primitive 'C', accessFlags := 0x411 }
/-- [C -/
def k18 : Class := { plain "[C" (some 0) with kind := .array 17 .char, interfaces := #[14, 2], accessFlags := 1041 }

/-- the primitive int -/
def k19 : Class := { plain "int" none with kind := .primitive 'I', accessFlags := 0x411 }
/-- [I -/
def k20 : Class := { plain "[I" (some 0) with kind := .array 19 .int, interfaces := #[14, 2], accessFlags := 1041 }

def heap : Heap := #[{ cls := 7, slots := #[.long 0, .int 1, .null, .int 0, .null, .int 0, .int 0], vm := .statics 7 },
  { cls := 9, slots := #[.null, .null, .null], vm := .statics 9 },
  { cls := 12, slots := #[.ref 4, .ref 3, .null, .long 0], vm := .statics 12 },
  { cls := 12, slots := #[.int 0], vm := .none },
  { cls := 12, slots := #[.int 1], vm := .none }]
def classes : Array Class := #[k0, k1, k2, k3, k4, k5, k6, k7, k8, k9, k10, k11, k12, k13, k14, k15, k16, k17, k18, k19, k20]
def interned : List (Array UInt16 × Addr) := []
def slotsUsed : Nat := 16
def theMethod : MethodId := ⟨1, 3⟩
def args0 : Array Value := #[.int 5, .int 5, .int 5, .int 5, .int 5, .int 5]
def aboutOver (below : List Frame) : State where
  vm := { classes := classes, interned := interned.toArray }
  heap := heap
  slotsUsed := slotsUsed
  threads := #[{ frames := .invoking theMethod args0 :: below }]
def below0 : List Frame := [.native { method := ⟨0, 0⟩, args := #[] }]
def about1 : State := aboutOver below0
def p0 : Program := .bare "" "" ""
def e0 : Env := launch0.env 0 0 0
theorem w_frames : about1.frames = Frame.invoking theMethod args0 :: below0 := rfl
set_option maxRecDepth 65536 in
theorem w_args : argsFit about1.vm theMethod args0 = true := by decide +kernel
set_option maxRecDepth 65536 in
theorem w_heap : heapFits about1 = true := by decide +kernel
set_option maxRecDepth 65536 in
theorem w_runnable : about1.curStatus? = some .runnable := by decide +kernel
set_option maxRecDepth 65536 in
theorem w_alone : about1.alone = true := by decide +kernel
set_option maxRecDepth 65536 in
theorem w_named : about1.methodNamed? x = some theMethod := by decide +kernel
set_option maxRecDepth 65536 in
theorem w_hears : about1.hears theMethod below0 = true := by decide +kernel
set_option maxRecDepth 65536 in
theorem w_ripe : about1.ripe theMethod args0 below0 = true := by decide +kernel
theorem w_running : about1.status = .running := rfl
set_option maxRecDepth 65536 in
theorem w_room : about1.hasRoom e0.platform room_1 = true :=
  launch0.hasRoom_least _ room_1 (by decide +kernel) (by decide +kernel) (by decide +kernel) (by decide +kernel) (by decide +kernel) (by decide +kernel)
theorem allAtoms_all (ts : List Jvm.Cond) (a : Array Jvm.Value) (st : Jvm.State) : (allAtoms ts).before a st = ts.all (fun c => c.before a st) := by
  induction ts with
  | nil => rfl
  | cons c t ih =>
    show (Jvm.Cond.and c (allAtoms t)).before a st = _
    rw [Jvm.Cond.before_and, ih, List.all_cons]
def words1 : List Jvm.Cond := Jvm.Cond.code x code maxLocals ret :: tables_1
/-- a 'code' word, met by the world's own term for the bytes: nothing is compared byte by byte -/
theorem code_word {y : MethodName} {bytes : ByteArray} {mx : Nat} {rt : Option FieldType} {a : Array Value} {s : State} {m : MethodId} {meth : Method} {c : Code} (h1 : s.methodNamed? y = some m) (h2 : s.vm.method? m = some meth) (h3 : meth.code = some c) (h4 : c.code = bytes)
    (h5 : (c.maxLocals == mx && c.exceptionTable.isEmpty && decide (c.maxStack ≤ mostOperands) && decide (meth.sig.returnType = rt) && !meth.locks && decide (parseMethodDescriptor y.desc = some meth.sig)) = true) : (Jvm.Cond.code y bytes mx rt).before a s = true := by
  simp only [Bool.and_eq_true, beq_iff_eq, Bool.not_eq_true', decide_eq_true_eq] at h5
  obtain ⟨⟨⟨⟨⟨g1, g2⟩, g3⟩, g4⟩, g5⟩, g6⟩ := h5
  simp [Cond.before, Cond.holds, Cond.value, h1, h2, h3, h4, g1, g2, g3, g4, g5, g6]
def isCode : Jvm.Cond → Bool
  | .code _ _ _ _ => true
  | _ => false
theorem all_split {L : List Jvm.Cond} {P : Jvm.Cond → Bool} (h1 : L.all (fun c => isCode c || P c) = true) (h2 : ∀ c ∈ L.filter isCode, P c = true) : L.all P = true := by
  refine List.all_eq_true.mpr fun c hc => ?_
  have h := List.all_eq_true.mp h1 c hc
  rcases Bool.eq_false_or_eq_true (isCode c) with hi | hi
  · exact h2 c (List.mem_filter.mpr ⟨hc, hi⟩)
  · simpa [hi] using h
set_option maxRecDepth 65536 in
theorem w_c0 : (Jvm.Cond.code x code maxLocals ret).before args0 about1 = true := code_word (m := ⟨1, 3⟩) (meth := k1m3) (c := k1c3) (by decide +kernel) rfl rfl rfl (by decide +kernel)
set_option maxRecDepth 65536 in
theorem w_c1 : (Jvm.Cond.code ({ cls := "com/example/pico_notify/piconotify/XmlBoolPinLaw", name := "ch", desc := "(I)C" } : Jvm.MethodName) method_2_code (1 : Nat) (Option.some Jvm.ClassFile.FieldType.char)).before args0 about1 = true := code_word (m := ⟨1, 1⟩) (meth := k1m1) (c := k1c1) (by decide +kernel) rfl rfl rfl (by decide +kernel)
set_option maxRecDepth 65536 in
theorem w_c2 : (Jvm.Cond.code ({ cls := "java/lang/String", name := "charAt", desc := "(I)C" } : Jvm.MethodName) jdk_42_method_56_code (2 : Nat) (Option.some Jvm.ClassFile.FieldType.char)).before args0 about1 = true := code_word (m := ⟨7, 2⟩) (meth := k7m2) (c := k7c2) (by decide +kernel) rfl rfl rfl (by decide +kernel)
set_option maxRecDepth 65536 in
theorem w_c3 : (Jvm.Cond.code ({ cls := "java/lang/String", name := "isLatin1", desc := "()Z" } : Jvm.MethodName) jdk_42_method_154_code (1 : Nat) (Option.some Jvm.ClassFile.FieldType.boolean)).before args0 about1 = true := code_word (m := ⟨7, 5⟩) (meth := k7m5) (c := k7c5) (by decide +kernel) rfl rfl rfl (by decide +kernel)
set_option maxRecDepth 65536 in
theorem w_c4 : (Jvm.Cond.code ({ cls := "java/lang/StringLatin1", name := "charAt", desc := "([BI)C" } : Jvm.MethodName) jdk_43_method_2_code (2 : Nat) (Option.some Jvm.ClassFile.FieldType.char)).before args0 about1 = true := code_word (m := ⟨8, 1⟩) (meth := k8m1) (c := k8c1) (by decide +kernel) rfl rfl rfl (by decide +kernel)
set_option maxRecDepth 65536 in
theorem w_c5 : (Jvm.Cond.code ({ cls := "java/lang/String", name := "checkIndex", desc := "(II)V" } : Jvm.MethodName) jdk_42_method_155_code (2 : Nat) (Option.none : Option Jvm.ClassFile.FieldType)).before args0 about1 = true := code_word (m := ⟨7, 6⟩) (meth := k7m6) (c := k7c6) (by decide +kernel) rfl rfl rfl (by decide +kernel)
set_option maxRecDepth 65536 in
theorem w_c6 : (Jvm.Cond.code ({ cls := "jdk/internal/util/Preconditions", name := "checkIndex", desc := "(IILjava/util/function/BiFunction;)I" } : Jvm.MethodName) jdk_41_method_11_code (3 : Nat) (Option.some Jvm.ClassFile.FieldType.int)).before args0 about1 = true := code_word (m := ⟨9, 1⟩) (meth := k9m1) (c := k9c1) (by decide +kernel) rfl rfl rfl (by decide +kernel)
set_option maxRecDepth 65536 in
theorem w_c7 : (Jvm.Cond.code ({ cls := "com/example/pico_notify/piconotify/XmlBoolPinLaw", name := "str", desc := "(ICCCCCC)Ljava/lang/String;" } : Jvm.MethodName) method_3_code (7 : Nat) (Option.some (Jvm.ClassFile.FieldType.object "java/lang/String"))).before args0 about1 = true := code_word (m := ⟨1, 2⟩) (meth := k1m2) (c := k1c2) (by decide +kernel) rfl rfl rfl (by decide +kernel)
set_option maxRecDepth 65536 in
theorem w_c8 : (Jvm.Cond.code ({ cls := "java/lang/String", name := "<init>", desc := "([C)V" } : Jvm.MethodName) jdk_42_method_3_code (2 : Nat) (Option.none : Option Jvm.ClassFile.FieldType)).before args0 about1 = true := code_word (m := ⟨7, 1⟩) (meth := k7m1) (c := k7c1) (by decide +kernel) rfl rfl rfl (by decide +kernel)
set_option maxRecDepth 65536 in
theorem w_c9 : (Jvm.Cond.code ({ cls := "java/lang/String", name := "<init>", desc := "([CIILjava/lang/Void;)V" } : Jvm.MethodName) jdk_42_method_149_code (6 : Nat) (Option.none : Option Jvm.ClassFile.FieldType)).before args0 about1 = true := code_word (m := ⟨7, 4⟩) (meth := k7m4) (c := k7c4) (by decide +kernel) rfl rfl rfl (by decide +kernel)
set_option maxRecDepth 65536 in
theorem w_c10 : (Jvm.Cond.code ({ cls := "java/lang/Object", name := "<init>", desc := "()V" } : Jvm.MethodName) object_method_1_code (1 : Nat) (Option.none : Option Jvm.ClassFile.FieldType)).before args0 about1 = true := code_word (m := ⟨0, 0⟩) (meth := k0m0) (c := k0c0) (by decide +kernel) rfl rfl rfl (by decide +kernel)
set_option maxRecDepth 65536 in
theorem w_c11 : (Jvm.Cond.code ({ cls := "com/example/pico_notify/piconotify/Xml", name := "bool", desc := "(Ljava/lang/String;)Ljava/lang/Boolean;" } : Jvm.MethodName) prog_46_method_18_code (2 : Nat) (Option.some (Jvm.ClassFile.FieldType.object "java/lang/Boolean"))).before args0 about1 = true := code_word (m := ⟨10, 1⟩) (meth := k10m1) (c := k10c1) (by decide +kernel) rfl rfl rfl (by decide +kernel)
set_option maxRecDepth 65536 in
theorem w_c12 : (Jvm.Cond.code ({ cls := "java/lang/String", name := "equals", desc := "(Ljava/lang/Object;)Z" } : Jvm.MethodName) jdk_42_method_66_code (3 : Nat) (Option.some Jvm.ClassFile.FieldType.boolean)).before args0 about1 = true := code_word (m := ⟨7, 3⟩) (meth := k7m3) (c := k7c3) (by decide +kernel) rfl rfl rfl (by decide +kernel)
set_option maxRecDepth 65536 in
theorem w_c13 : (Jvm.Cond.code ({ cls := "java/lang/StringLatin1", name := "equals", desc := "([B[B)Z" } : Jvm.MethodName) jdk_43_method_13_code (3 : Nat) (Option.some Jvm.ClassFile.FieldType.boolean)).before args0 about1 = true := code_word (m := ⟨8, 2⟩) (meth := k8m2) (c := k8c2) (by decide +kernel) rfl rfl rfl (by decide +kernel)
set_option maxRecDepth 65536 in
theorem w_c14 : (Jvm.Cond.code ({ cls := "java/lang/StringUTF16", name := "compress", desc := "([CII)[B" } : Jvm.MethodName) jdk_52_method_16_code (6 : Nat) (Option.some (Jvm.ClassFile.FieldType.array Jvm.ClassFile.FieldType.byte))).before args0 about1 = true := code_word (m := ⟨11, 2⟩) (meth := k11m2) (c := k11c2) (by decide +kernel) rfl rfl rfl (by decide +kernel)
set_option maxRecDepth 65536 in
theorem w_c15 : (Jvm.Cond.code ({ cls := "java/lang/StringUTF16", name := "compress", desc := "([CI[BII)I" } : Jvm.MethodName) jdk_52_method_21_code (7 : Nat) (Option.some Jvm.ClassFile.FieldType.int)).before args0 about1 = true := code_word (m := ⟨11, 3⟩) (meth := k11m3) (c := k11c3) (by decide +kernel) rfl rfl rfl (by decide +kernel)
set_option maxRecDepth 65536 in
theorem w_c16 : (Jvm.Cond.code ({ cls := "java/lang/StringUTF16", name := "coderFromArrayLen", desc := "([BI)B" } : Jvm.MethodName) jdk_52_method_15_code (2 : Nat) (Option.some Jvm.ClassFile.FieldType.byte)).before args0 about1 = true := code_word (m := ⟨11, 1⟩) (meth := k11m1) (c := k11c1) (by decide +kernel) rfl rfl rfl (by decide +kernel)
set_option maxRecDepth 65536 in
theorem w_c17 : (Jvm.Cond.code ({ cls := "java/lang/Boolean", name := "booleanValue", desc := "()Z" } : Jvm.MethodName) jdk_2055_method_4_code (1 : Nat) (Option.some Jvm.ClassFile.FieldType.boolean)).before args0 about1 = true := code_word (m := ⟨12, 0⟩) (meth := k12m0) (c := k12c0) (by decide +kernel) rfl rfl rfl (by decide +kernel)
def codes1 : List Jvm.Cond := [Jvm.Cond.code x code maxLocals ret, Jvm.Cond.code ({ cls := "com/example/pico_notify/piconotify/XmlBoolPinLaw", name := "ch", desc := "(I)C" } : Jvm.MethodName) method_2_code (1 : Nat) (Option.some Jvm.ClassFile.FieldType.char), Jvm.Cond.code ({ cls := "java/lang/String", name := "charAt", desc := "(I)C" } : Jvm.MethodName) jdk_42_method_56_code (2 : Nat) (Option.some Jvm.ClassFile.FieldType.char), Jvm.Cond.code ({ cls := "java/lang/String", name := "isLatin1", desc := "()Z" } : Jvm.MethodName) jdk_42_method_154_code (1 : Nat) (Option.some Jvm.ClassFile.FieldType.boolean), Jvm.Cond.code ({ cls := "java/lang/StringLatin1", name := "charAt", desc := "([BI)C" } : Jvm.MethodName) jdk_43_method_2_code (2 : Nat) (Option.some Jvm.ClassFile.FieldType.char), Jvm.Cond.code ({ cls := "java/lang/String", name := "checkIndex", desc := "(II)V" } : Jvm.MethodName) jdk_42_method_155_code (2 : Nat) (Option.none : Option Jvm.ClassFile.FieldType), Jvm.Cond.code ({ cls := "jdk/internal/util/Preconditions", name := "checkIndex", desc := "(IILjava/util/function/BiFunction;)I" } : Jvm.MethodName) jdk_41_method_11_code (3 : Nat) (Option.some Jvm.ClassFile.FieldType.int), Jvm.Cond.code ({ cls := "com/example/pico_notify/piconotify/XmlBoolPinLaw", name := "str", desc := "(ICCCCCC)Ljava/lang/String;" } : Jvm.MethodName) method_3_code (7 : Nat) (Option.some (Jvm.ClassFile.FieldType.object "java/lang/String")), Jvm.Cond.code ({ cls := "java/lang/String", name := "<init>", desc := "([C)V" } : Jvm.MethodName) jdk_42_method_3_code (2 : Nat) (Option.none : Option Jvm.ClassFile.FieldType), Jvm.Cond.code ({ cls := "java/lang/String", name := "<init>", desc := "([CIILjava/lang/Void;)V" } : Jvm.MethodName) jdk_42_method_149_code (6 : Nat) (Option.none : Option Jvm.ClassFile.FieldType), Jvm.Cond.code ({ cls := "java/lang/Object", name := "<init>", desc := "()V" } : Jvm.MethodName) object_method_1_code (1 : Nat) (Option.none : Option Jvm.ClassFile.FieldType), Jvm.Cond.code ({ cls := "com/example/pico_notify/piconotify/Xml", name := "bool", desc := "(Ljava/lang/String;)Ljava/lang/Boolean;" } : Jvm.MethodName) prog_46_method_18_code (2 : Nat) (Option.some (Jvm.ClassFile.FieldType.object "java/lang/Boolean")), Jvm.Cond.code ({ cls := "java/lang/String", name := "equals", desc := "(Ljava/lang/Object;)Z" } : Jvm.MethodName) jdk_42_method_66_code (3 : Nat) (Option.some Jvm.ClassFile.FieldType.boolean), Jvm.Cond.code ({ cls := "java/lang/StringLatin1", name := "equals", desc := "([B[B)Z" } : Jvm.MethodName) jdk_43_method_13_code (3 : Nat) (Option.some Jvm.ClassFile.FieldType.boolean), Jvm.Cond.code ({ cls := "java/lang/StringUTF16", name := "compress", desc := "([CII)[B" } : Jvm.MethodName) jdk_52_method_16_code (6 : Nat) (Option.some (Jvm.ClassFile.FieldType.array Jvm.ClassFile.FieldType.byte)), Jvm.Cond.code ({ cls := "java/lang/StringUTF16", name := "compress", desc := "([CI[BII)I" } : Jvm.MethodName) jdk_52_method_21_code (7 : Nat) (Option.some Jvm.ClassFile.FieldType.int), Jvm.Cond.code ({ cls := "java/lang/StringUTF16", name := "coderFromArrayLen", desc := "([BI)B" } : Jvm.MethodName) jdk_52_method_15_code (2 : Nat) (Option.some Jvm.ClassFile.FieldType.byte), Jvm.Cond.code ({ cls := "java/lang/Boolean", name := "booleanValue", desc := "()Z" } : Jvm.MethodName) jdk_2055_method_4_code (1 : Nat) (Option.some Jvm.ClassFile.FieldType.boolean)]
set_option maxRecDepth 65536 in
theorem codes_eq : words1.filter isCode = codes1 := rfl
theorem w_codes : ∀ c ∈ words1.filter isCode, c.before args0 about1 = true := by
  rw [codes_eq]
  intro c hc
  simp only [codes1, List.mem_cons, List.not_mem_nil, or_false] at hc
  rcases hc with rfl | rfl | rfl | rfl | rfl | rfl | rfl | rfl | rfl | rfl | rfl | rfl | rfl | rfl | rfl | rfl | rfl | rfl
  · exact w_c0
  · exact w_c1
  · exact w_c2
  · exact w_c3
  · exact w_c4
  · exact w_c5
  · exact w_c6
  · exact w_c7
  · exact w_c8
  · exact w_c9
  · exact w_c10
  · exact w_c11
  · exact w_c12
  · exact w_c13
  · exact w_c14
  · exact w_c15
  · exact w_c16
  · exact w_c17
set_option maxRecDepth 65536 in
theorem w_t1 : (words1.take 24).all (fun c => isCode c || c.before args0 about1) = true := by decide +kernel
set_option maxRecDepth 65536 in
theorem w_t2 : ((words1.drop 24).take 24).all (fun c => isCode c || c.before args0 about1) = true := by decide +kernel
set_option maxRecDepth 65536 in
theorem w_t3 : (((words1.drop 24).drop 24).take 24).all (fun c => isCode c || c.before args0 about1) = true := by decide +kernel
set_option maxRecDepth 65536 in
theorem w_t4 : (((words1.drop 24).drop 24).drop 24).all (fun c => isCode c || c.before args0 about1) = true := by decide +kernel
theorem w_tables : (allAtoms (Jvm.Cond.code x code maxLocals ret :: tables_1)).before args0 about1 = true := by
  rw [allAtoms_all]
  show words1.all (fun c => c.before args0 about1) = true
  refine all_split ?_ w_codes
  rw [← List.take_append_drop 24 words1, List.all_append, w_t1, ← List.take_append_drop 24 (words1.drop 24), List.all_append, w_t2, ← List.take_append_drop 24 ((words1.drop 24).drop 24), List.all_append, w_t3, w_t4]
  rfl
set_option maxRecDepth 65536 in
theorem w_rest : rest_1_c.before args0 about1 = true := by decide +kernel
set_option maxRecDepth 65536 in
theorem w_case : (Jvm.Cond.and given_1 narrow_1).before args0 about1 = true := by decide +kernel
set_option maxRecDepth 65536 in
theorem w_consts : constsHeld consts_1 about1 := Jvm.Lit.constsHeldB_iff.mp (by decide +kernel)
theorem w_applies : (headSpec (Jvm.Cond.code x code maxLocals ret :: tables_1) room_1).applies x e0.platform about1 = true :=
  (Spec.applies_iff w_frames).mpr ⟨w_running, w_runnable, w_alone, w_named, w_hears, w_ripe, w_room, w_tables⟩
theorem atStart : AtStart classFile x code maxLocals ret World_1 tables_1 room_1 Calls_1 rest_1 Pre_1 launch0 p0 e0 about1 theMethod args0 below0 :=
  ⟨lists_1, trivial, launch0.admits_env _ _ _, launch0.least_env, fairChoices_fair.cas, fairChoices_fair.clock, w_frames, w_args, w_heap, w_applies, ⟨w_consts, trivial⟩, w_rest, w_case⟩
end start1
theorem witness_1 : WitnessClaimed_1 := ⟨start1.p0, start1.e0, start1.about1, start1.theMethod, start1.args0, start1.below0, start1.atStart⟩
end Jvm.Pilot.@@N@@
