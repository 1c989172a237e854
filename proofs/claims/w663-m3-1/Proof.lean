import JvmDerived
import JvmDerived.Pilot.@@N@@Statement
import JvmDerived.Pilot.@@N@@Code
set_option linter.unusedVariables false
set_option linter.unusedSimpArgs false
/- laws to paste: Road.lenW, Road.chN, Road.eqW, Road.codOf (cut by pick.py; bodies as the Statement names them) -/
namespace Jvm.Pilot.@@N@@
namespace StrChars
open Jvm Sem ClassFile Op Lib Jvm.Stand Jvm.Free.XT Jvm.Free.ALB Jvm.Free.JM Jvm.Free
open Jvm.Lib.Cold (StaticIs)
/-- a char array whose places are chars -/
def Ch (a : Addr) (A : Cell) (U : State) : Prop := Arr .char a A U ∧ Typed .char A
theorem Ch.mv {a : Addr} {A : Cell} {U U' : State} (h : Ch a A U) (hal : U.vm.Alike U'.vm) (hh : U'.heap = U.heap) : Ch a A U' := ⟨h.1.mv hal hh, h.2⟩
theorem Ch.keep {a : Addr} {A : Cell} {U U' : State} (h : Ch a A U) (hal : U.vm.Alike U'.vm) (hk : U'.heap[a]? = some A) : Ch a A U' := ⟨h.1.keep hal hk, h.2⟩
/-- what place i of a char[]'s cell holds -/
def cv (A : Cell) (i : Nat) : Int32 := match A.slots[i]? with | some (.int x) => x | _ => 0
theorem Ch.get {a : Addr} {A : Cell} {U : State} (h : Ch a A U) {i : Nat} (hi : i < A.slots.size) : A.slots[i]? = some (.int (cv A i)) := by
  have e := Array.getElem?_eq_getElem hi
  have f := h.2 i _ e
  unfold cv; rw [e]
  generalize A.slots[i] = v at f
  cases v <;> simp [fits] at f ⊢
/-- the byte that i2b leaves of a char -/
def lo8 (x : Int32) : Int32 := x.toInt8.toInt32
theorem fits_lo8 (y : Int32) : fits .byte (.int (lo8 y)) = true := by
  have h1 := y.toInt8.le_toInt
  have h2 := y.toInt8.toInt_lt
  simp only [lo8, fits, Bool.and_eq_true, decide_eq_true_eq, Int32.le_iff_toInt_le, Int8.toInt_toInt32, show (-128 : Int32).toInt = -128 from by decide, show (127 : Int32).toInt = 127 from by decide]
  omega
/-- A' is A but that each place j of lo .. hi - 1 holds f j -/
def Laid (A A' : Cell) (lo hi : Nat) (f : Nat → Value) : Prop := A'.cls = A.cls ∧ A'.vm = A.vm ∧ A'.slots.size = A.slots.size ∧ ∀ i, A'.slots[i]? = if lo ≤ i ∧ i < hi then some (f i) else A.slots[i]?
theorem Laid.zero (A : Cell) (lo : Nat) (f : Nat → Value) : Laid A A lo (lo + 0) f := ⟨rfl, rfl, rfl, fun i => by rw [if_neg (by omega)]⟩
theorem Laid.step {A Ak : Cell} {lo k : Nat} {f : Nat → Value} {v : Value} (h : Laid A Ak lo k f) (hlo : lo ≤ k) (hk : k < Ak.slots.size) (hv : v = f k) : Laid A (Ak.setSlot k v) lo (k + 1) f := by
  refine ⟨h.1, h.2.1, by simpa [Cell.setSlot] using h.2.2.1, fun i => ?_⟩
  by_cases e : k = i
  · subst e; rw [Cell.slots_setSlot_self v hk, if_pos (by omega), hv]
  · rw [Cell.slots_setSlot_ne v e, h.2.2.2 i]
    by_cases q : lo ≤ i ∧ i < k
    · rw [if_pos q, if_pos (by omega)]
    · rw [if_neg q, if_neg (by omega)]
def U16 : String := "java/lang/StringUTF16"
namespace Cmp5
def yN : MethodName := ⟨"java/lang/StringUTF16", "compress", "([CI[BII)I"⟩
abbrev yB : ByteArray := jdk_52_method_21_code
theorem d0 : decode yB 0 = .ok (.iconst 0, 1) := by decide +kernel
theorem d1 : decode yB 1 = .ok (.istore 5, 2) := by decide +kernel
theorem d3 : decode yB 3 = .ok (.iload 5, 2) := by decide +kernel
theorem d5 : decode yB 5 = .ok (.iload 4, 2) := by decide +kernel
theorem d7 : decode yB 7 = .ok (.if_icmp (.ge) 37, 3) := by decide +kernel
theorem d10 : decode yB 10 = .ok (.aload_n 0, 1) := by decide +kernel
theorem d11 : decode yB 11 = .ok (.iload_n 1, 1) := by decide +kernel
theorem d12 : decode yB 12 = .ok (.caload, 1) := by decide +kernel
theorem d13 : decode yB 13 = .ok (.istore 6, 2) := by decide +kernel
theorem d15 : decode yB 15 = .ok (.iload 6, 2) := by decide +kernel
theorem d17 : decode yB 17 = .ok (.sipush 255, 3) := by decide +kernel
theorem d20 : decode yB 20 = .ok (.if_icmp (.le) 6, 3) := by decide +kernel
theorem d26 : decode yB 26 = .ok (.aload_n 2, 1) := by decide +kernel
theorem d27 : decode yB 27 = .ok (.iload_n 3, 1) := by decide +kernel
theorem d28 : decode yB 28 = .ok (.iload 6, 2) := by decide +kernel
theorem d30 : decode yB 30 = .ok (.i2b, 1) := by decide +kernel
theorem d31 : decode yB 31 = .ok (.bastore, 1) := by decide +kernel
theorem d32 : decode yB 32 = .ok (.iinc 1 1, 3) := by decide +kernel
theorem d35 : decode yB 35 = .ok (.iinc 3 1, 3) := by decide +kernel
theorem d38 : decode yB 38 = .ok (.iinc 5 1, 3) := by decide +kernel
theorem d41 : decode yB 41 = .ok (.goto (-38), 3) := by decide +kernel
theorem d44 : decode yB 44 = .ok (.iload 4, 2) := by decide +kernel
theorem d46 : decode yB 46 = .ok (.ireturn, 1) := by decide +kernel
def site : List Cond := []
def tab : Cond := tabOf yN yB 7 (some .int) site
def P (b : Addr) (A : Cell) (d : Addr) (B : Cell) (o q len : Nat) (args : Array Value) (s : State) : Prop := args = #[.ref b, .int (Int32.ofNat o), .ref d, .int (Int32.ofNat q), .int (Int32.ofNat len)] ∧ Ch b A s ∧ Arr .byte d B s ∧ b ≠ d ∧ o + len ≤ A.slots.size ∧ q + len ≤ B.slots.size ∧ ∀ i, i < len → ¬ 255 < cv A (o + i)
def E (b : Addr) (A : Cell) (d : Addr) (B : Cell) (o q len : Nat) (r : Option Value) (s u : State) : Prop := r = some (.int (Int32.ofNat len)) ∧ ∃ B', Put d B' s u ∧ Laid B B' q (q + len) (fun j => Value.int (lo8 (cv A (o + (j - q)))))
/-- no char of the range above 255: len; the places written hold each char's low byte -/
theorem law (l : Launch) (b : Addr) (A : Cell) (d : Addr) (B : Cell) (o q len : Nat) : Law l yN 5 5 0 0 yB 7 (some .int) site (P b A d B o q len) (E b A d B o q len) (copyLocs d q len) 0 0 := by
  refine Law.of_walk (plainFor_of_name (by decide +kernel)) (by decide +kernel) (by decide +kernel) (by decide) (fun _ _ h => by rw [h.1]; rfl) (fun _ U U' hal hh h => ⟨h.1, h.2.1.mv hal hh, h.2.2.1.mv hal hh, h.2.2.2⟩) (fun r U U' V V' h1 hal h2 h => ⟨h.1, h.2.elim fun B' q => ⟨B', q.1.mv h1 h2, q.2⟩⟩) ?_
  intro p e s m args below meth c s₁ X0 hexec hbytes hml hret hlk hnm hown hh0 W hP
  obtain ⟨rfl, hA, hB, hne, l1, l2, hp⟩ := hP
  have c1 : Steps p.tables e below (s₁.setTop (entryFrame m #[.ref b, .int (Int32.ofNat o), .ref d, .int (Int32.ofNat q), .int (Int32.ofNat len)] 7)) (s₁.setTop (mkF m 0 #[.val (.ref b), .val (.int (Int32.ofNat o)), .val (.ref d), .val (.int (Int32.ofNat q)), .val (.int (Int32.ofNat len)), .unset, .unset] [])) := entry rfl
  have hA0 := hA.1.mv X0.warmed.alike hh0
  have hB0 := hB.mv X0.warmed.alike hh0
  have a31 := hA.1.2.2.2
  have c2 : Steps p.tables e below (s₁.setTop (entryFrame m #[.ref b, .int (Int32.ofNat o), .ref d, .int (Int32.ofNat q), .int (Int32.ofNat len)] 7)) (s₁.setTop (mkF m 3 #[.val (.ref b), .val (.int (Int32.ofNat o)), .val (.ref d), .val (.int (Int32.ofNat q)), .val (.int (Int32.ofNat len)), .val (.int 0), .unset] [])) := c1.trans (by
    refine iconstV X0.here hexec rfl 0 (hb hbytes d0) (by decide) ?_
    refine XS.istore X0.here hexec rfl (hb hbytes d1) rfl rfl ?_
    exact Steps.refl _)
  have loop : ∀ (r i : Nat), i + r = len → ∀ (z : Slot), (z = .unset ∨ ∃ w, z = .val w ∧ w.category = 1) → ∀ (Tl : State) (Bk : Cell), Stand p l e { frames := 0, locals := 0, cells := 0, slots := 0 } s m #[.ref b, .int (Int32.ofNat o), .ref d, .int (Int32.ofNat q), .int (Int32.ofNat len)] below meth c Tl ([] ++ copyLocs d q i) 0 0 → Put d Bk s₁ Tl → Laid B Bk q (q + i) (fun j => Value.int (lo8 (cv A (o + (j - q))))) →
      Steps p.tables e below (s₁.setTop (entryFrame m #[.ref b, .int (Int32.ofNat o), .ref d, .int (Int32.ofNat q), .int (Int32.ofNat len)] 7)) (Tl.setTop (mkF m 3 #[.val (.ref b), .val (.int (Int32.ofNat (o + i))), .val (.ref d), .val (.int (Int32.ofNat (q + i))), .val (.int (Int32.ofNat len)), .val (.int (Int32.ofNat i)), z] [])) → ∃ (T' : State) (B' : Cell) (z' : Slot), Stand p l e { frames := 0, locals := 0, cells := 0, slots := 0 } s m #[.ref b, .int (Int32.ofNat o), .ref d, .int (Int32.ofNat q), .int (Int32.ofNat len)] below meth c T' ([] ++ copyLocs d q len) 0 0 ∧ Put d B' s₁ T' ∧ Laid B B' q (q + len) (fun j => Value.int (lo8 (cv A (o + (j - q))))) ∧
      Steps p.tables e below (s₁.setTop (entryFrame m #[.ref b, .int (Int32.ofNat o), .ref d, .int (Int32.ofNat q), .int (Int32.ofNat len)] 7)) (T'.setTop (mkF m 3 #[.val (.ref b), .val (.int (Int32.ofNat (o + len))), .val (.ref d), .val (.int (Int32.ofNat (q + len))), .val (.int (Int32.ofNat len)), .val (.int (Int32.ofNat len)), z'] [])) := by
    intro r
    induction r with
    | zero =>
      intro i hi z hz Tl Bk Xl pl fl cl
      have hil : i = len := by omega
      rw [hil] at Xl fl cl
      exact ⟨Tl, Bk, z, Xl, pl, fl, cl⟩
    | succ r ih =>
      intro i hi z hz Tl Bk Xl pl fl cl
      have all := X0.warmed.alike.symm.trans Xl.warmed.alike
      have hAl := hA0.keep all (pl.other hne hA0.1)
      have hBk := hB0.like all pl.1 fl.1 fl.2.1 fl.2.2.1
      have hlt : q + i < Bk.slots.size := by rw [fl.2.2.1]; omega
      have c3 : Steps p.tables e below (s₁.setTop (entryFrame m #[.ref b, .int (Int32.ofNat o), .ref d, .int (Int32.ofNat q), .int (Int32.ofNat len)] 7)) (Tl.setTop (mkF m 12 #[.val (.ref b), .val (.int (Int32.ofNat (o + i))), .val (.ref d), .val (.int (Int32.ofNat (q + i))), .val (.int (Int32.ofNat len)), .val (.int (Int32.ofNat i)), z] [.int (Int32.ofNat (o + i)), .ref b])) := cl.trans (by
        refine XS.iload Xl.here hexec rfl (hb hbytes d3) rfl ?_
        refine XS.iload Xl.here hexec rfl (hb hbytes d5) rfl ?_
        refine XS.icmpNo Xl.here hexec rfl (hb hbytes d7) rfl (ii_ge_f (lt32 (by omega) (by omega))) ?_
        refine XS.aloadN Xl.here hexec rfl (hb hbytes d10) rfl rfl ?_
        refine XS.iloadN Xl.here hexec rfl (hb hbytes d11) rfl ?_
        exact Steps.refl _)
      have c4 : Steps p.tables e below (s₁.setTop (entryFrame m #[.ref b, .int (Int32.ofNat o), .ref d, .int (Int32.ofNat q), .int (Int32.ofNat len)] 7)) (Tl.setTop (mkF m 13 #[.val (.ref b), .val (.int (Int32.ofNat (o + i))), .val (.ref d), .val (.int (Int32.ofNat (q + i))), .val (.int (Int32.ofNat len)), .val (.int (Int32.ofNat i)), z] [.int (cv A (o + i))])) := c3.trans (by
        refine Xl.aget hexec hAl rfl (hA.get (i := o + i) (by omega)) rfl rfl (hb hbytes d12) ?_
        exact Steps.refl _)
      have c5 : Steps p.tables e below (s₁.setTop (entryFrame m #[.ref b, .int (Int32.ofNat o), .ref d, .int (Int32.ofNat q), .int (Int32.ofNat len)] 7)) (Tl.setTop (mkF m 15 #[.val (.ref b), .val (.int (Int32.ofNat (o + i))), .val (.ref d), .val (.int (Int32.ofNat (q + i))), .val (.int (Int32.ofNat len)), .val (.int (Int32.ofNat i)), .val (.int (cv A (o + i)))] [])) := c4.trans (by
        refine XS.istoreS Xl.here hexec rfl (hb hbytes d13) rfl rfl hz ?_
        exact Steps.refl _)
      have c6 : Steps p.tables e below (s₁.setTop (entryFrame m #[.ref b, .int (Int32.ofNat o), .ref d, .int (Int32.ofNat q), .int (Int32.ofNat len)] 7)) (Tl.setTop (mkF m 31 #[.val (.ref b), .val (.int (Int32.ofNat (o + i))), .val (.ref d), .val (.int (Int32.ofNat (q + i))), .val (.int (Int32.ofNat len)), .val (.int (Int32.ofNat i)), .val (.int (cv A (o + i)))] [.int (lo8 (cv A (o + i))), .int (Int32.ofNat (q + i)), .ref d])) := c5.trans (by
        refine XS.iload Xl.here hexec rfl (hb hbytes d15) rfl ?_
        refine sipushV Xl.here hexec rfl 255 (hb hbytes d17) (by decide) ?_
        refine XS.icmpYes Xl.here hexec rfl (pc0 := 20) rfl (hb hbytes d20) rfl (ii_le_t (hp i (by omega))) (by decide) rfl ?_
        refine XS.aloadN Xl.here hexec rfl (hb hbytes d26) rfl rfl ?_
        refine XS.iloadN Xl.here hexec rfl (hb hbytes d27) rfl ?_
        refine XS.iload Xl.here hexec rfl (hb hbytes d28) rfl ?_
        refine i2b Xl.here hexec rfl (hb hbytes d30) rfl ?_
        exact Steps.refl _)
      obtain ⟨T7, X7, p7, st7⟩ := Xl.aput hexec hBk rfl hlt rfl (fits_lo8 (cv A (o + i))) (g := (mkF m 31 #[.val (.ref b), .val (.int (Int32.ofNat (o + i))), .val (.ref d), .val (.int (Int32.ofNat (q + i))), .val (.int (Int32.ofNat len)), .val (.int (Int32.ofNat i)), .val (.int (cv A (o + i)))] [.int (lo8 (cv A (o + i))), .int (Int32.ofNat (q + i)), .ref d])) rfl (rest := []) rfl (hb hbytes d31)
      have c8 : Steps p.tables e below (s₁.setTop (entryFrame m #[.ref b, .int (Int32.ofNat o), .ref d, .int (Int32.ofNat q), .int (Int32.ofNat len)] 7)) (T7.setTop (mkF m 32 #[.val (.ref b), .val (.int (Int32.ofNat (o + i))), .val (.ref d), .val (.int (Int32.ofNat (q + i))), .val (.int (Int32.ofNat len)), .val (.int (Int32.ofNat i)), .val (.int (cv A (o + i)))] [])) := c6.trans (st7 _ (Steps.refl _))
      have c9 : Steps p.tables e below (s₁.setTop (entryFrame m #[.ref b, .int (Int32.ofNat o), .ref d, .int (Int32.ofNat q), .int (Int32.ofNat len)] 7)) (T7.setTop (mkF m 3 #[.val (.ref b), .val (.int (Int32.ofNat (o + i) + 1)), .val (.ref d), .val (.int (Int32.ofNat (q + i) + 1)), .val (.int (Int32.ofNat len)), .val (.int (Int32.ofNat i + 1)), .val (.int (cv A (o + i)))] [])) := c8.trans (by
        refine iincV X7.here hexec rfl 1 (hb hbytes d32) (by decide) rfl rfl ?_
        refine iincV X7.here hexec rfl 1 (hb hbytes d35) (by decide) rfl rfl ?_
        refine iincV X7.here hexec rfl 1 (hb hbytes d38) (by decide) rfl rfl ?_
        refine XS.goto X7.here hexec rfl (pc0 := 41) rfl (hb hbytes d41) (by decide) rfl ?_
        exact Steps.refl _)
      have c10 : Steps p.tables e below (s₁.setTop (entryFrame m #[.ref b, .int (Int32.ofNat o), .ref d, .int (Int32.ofNat q), .int (Int32.ofNat len)] 7)) (T7.setTop (mkF m 3 #[.val (.ref b), .val (.int (Int32.ofNat (o + (i + 1)))), .val (.ref d), .val (.int (Int32.ofNat (q + (i + 1)))), .val (.int (Int32.ofNat len)), .val (.int (Int32.ofNat (i + 1))), .val (.int (cv A (o + i)))] [])) := by
        have := c9
        rw [succ32, succ32, succ32] at this
        exact this
      exact ih (i + 1) (by omega) _ (Or.inr ⟨_, rfl, rfl⟩) T7 _ (by rw [copyLocs_step, ← List.append_assoc]; exact X7) (pl.trans p7) (fl.step (by omega) hlt (by simp)) c10
  obtain ⟨T9, B9, z9, X9, p9, f9, g9⟩ := loop len 0 (by omega) .unset (Or.inl rfl) s₁ B (by simpa [copyLocs] using X0) ⟨hB0.1, fun _ _ => rfl, rfl⟩ (Laid.zero _ _ _) c2
  have c11 : Steps p.tables e below (s₁.setTop (entryFrame m #[.ref b, .int (Int32.ofNat o), .ref d, .int (Int32.ofNat q), .int (Int32.ofNat len)] 7)) (T9.setTop (mkF m 46 #[.val (.ref b), .val (.int (Int32.ofNat (o + len))), .val (.ref d), .val (.int (Int32.ofNat (q + len))), .val (.int (Int32.ofNat len)), .val (.int (Int32.ofNat len)), z9] [.int (Int32.ofNat len)])) := g9.trans (by
    refine XS.iload X9.here hexec rfl (hb hbytes d3) rfl ?_
    refine XS.iload X9.here hexec rfl (hb hbytes d5) rfl ?_
    refine XS.icmpYes X9.here hexec rfl (pc0 := 7) rfl (hb hbytes d7) rfl (ii_ge_t (nlt32 (by omega) (Nat.le_refl _))) (by decide) rfl ?_
    refine XS.iload X9.here hexec rfl (hb hbytes d44) rfl ?_
    exact Steps.refl _)
  exact ⟨T9, some (.int (Int32.ofNat len)), _, _, _, X9, by simp, rfl, rfl, (fun h => by cases h), ⟨rfl, B9, p9.from hh0, f9⟩, fun fs hl => c11.trans (X9.ireturnOut hexec hret rfl (Or.inl rfl) (hb hbytes d46) hl)⟩
end Cmp5
namespace Cmp3
def yN : MethodName := ⟨"java/lang/StringUTF16", "compress", "([CII)[B"⟩
abbrev yB : ByteArray := jdk_52_method_16_code
theorem d0 : decode yB 0 = .ok (.iload_n 2, 1) := by decide +kernel
theorem d1 : decode yB 1 = .ok (.newarray .byte, 2) := by decide +kernel
theorem d3 : decode yB 3 = .ok (.astore_n 3, 1) := by decide +kernel
theorem d4 : decode yB 4 = .ok (.aload_n 0, 1) := by decide +kernel
theorem d5 : decode yB 5 = .ok (.iload_n 1, 1) := by decide +kernel
theorem d6 : decode yB 6 = .ok (.aload_n 3, 1) := by decide +kernel
theorem d7 : decode yB 7 = .ok (.iconst 0, 1) := by decide +kernel
theorem d8 : decode yB 8 = .ok (.iload_n 2, 1) := by decide +kernel
theorem d9 : decode yB 9 = .ok (.invokestatic 115, 3) := by decide +kernel
theorem d12 : decode yB 12 = .ok (.istore 4, 2) := by decide +kernel
theorem d14 : decode yB 14 = .ok (.iload 4, 2) := by decide +kernel
theorem d16 : decode yB 16 = .ok (.iload_n 2, 1) := by decide +kernel
theorem d17 : decode yB 17 = .ok (.if_icmp (.eq) 40, 3) := by decide +kernel
theorem d57 : decode yB 57 = .ok (.aload_n 3, 1) := by decide +kernel
theorem d58 : decode yB 58 = .ok (.areturn, 1) := by decide +kernel
def site : List Cond := [.arrayClass .byte, Cmp5.tab] ++ staticW U16 115 Cmp5.yN
def tab : Cond := tabOf yN yB 6 (some (.array .byte)) site
def P (b : Addr) (A : Cell) (o len : Nat) (args : Array Value) (s : State) : Prop := args = #[.ref b, .int (Int32.ofNat o), .int (Int32.ofNat len)] ∧ Ch b A s ∧ o + len ≤ A.slots.size ∧ len ≤ 536870912 ∧ ∀ i, i < len → ¬ 255 < cv A (o + i)
def E (b : Addr) (A : Cell) (o len : Nat) (r : Option Value) (s u : State) : Prop := NewArr .byte "[B" len (fun j => .int (lo8 (cv A (o + j)))) r s u ∧ u.heap.size = s.heap.size + 1
/-- no char of the range above 255: a new byte[] of their low bytes -/
theorem law (l : Launch) (b : Addr) (A : Cell) (o len : Nat) : Law l yN 3 3 1 18 yB 6 (some (.array .byte)) site (P b A o len) (E b A o len) [] 1 len := by
  refine Law.of_walk (plainFor_of_name (by decide +kernel)) (by decide +kernel) (by decide +kernel) (by decide) (fun _ _ h => by rw [h.1]; rfl) (fun _ U U' hal hh h => ⟨h.1, h.2.1.mv hal hh, h.2.2⟩) (fun r U U' V V' h1 hal h2 h => ⟨NewArr.mv r U U' V V' h1 hal h2 h.1, by rw [h1, h2]; exact h.2⟩) ?_
  intro p e s m args below meth c s₁ X0 hexec hbytes hml hret hlk hnm hown hh0 W hP
  obtain ⟨rfl, hA, l1, l2, hp⟩ := hP
  have a31 := hA.1.2.2.2
  have c1 : Steps p.tables e below (s₁.setTop (entryFrame m #[.ref b, .int (Int32.ofNat o), .int (Int32.ofNat len)] 6)) (s₁.setTop (mkF m 0 #[.val (.ref b), .val (.int (Int32.ofNat o)), .val (.int (Int32.ofNat len)), .unset, .unset, .unset] [])) := entry rfl
  have c2 : Steps p.tables e below (s₁.setTop (entryFrame m #[.ref b, .int (Int32.ofNat o), .int (Int32.ofNat len)] 6)) (s₁.setTop (mkF m 1 #[.val (.ref b), .val (.int (Int32.ofNat o)), .val (.int (Int32.ofNat len)), .unset, .unset, .unset] [.int (Int32.ofNat len)])) := c1.trans (by
    refine XS.iloadN X0.here hexec rfl (hb hbytes d0) rfl ?_
    exact Steps.refl _)
  obtain ⟨T3, B3, X3, ba3, bs3, bv3, bh3, bf3, st3⟩ := X0.anew hexec (atype := .byte) (wk W (.arrayClass .byte)) rfl (by show len * 1 ≤ _; omega) (by omega) (g := (mkF m 1 #[.val (.ref b), .val (.int (Int32.ofNat o)), .val (.int (Int32.ofNat len)), .unset, .unset, .unset] [.int (Int32.ofNat len)])) rfl (hb hbytes d1) (rest := []) rfl (Nat.le_refl _) (by show 0 + len ≤ len; omega)
  rw [hh0] at ba3 st3
  have kp3 : XT.Kept s T3 := (XT.Kept.of_eq hh0).push bh3
  have hA3 := hA.keep X3.warmed.alike (kp3 _ _ hA.1.1)
  have hne : b ≠ s.heap.size := hA.1.ne
  have c4 : Steps p.tables e below (s₁.setTop (entryFrame m #[.ref b, .int (Int32.ofNat o), .int (Int32.ofNat len)] 6)) (T3.setTop (mkF m 3 #[.val (.ref b), .val (.int (Int32.ofNat o)), .val (.int (Int32.ofNat len)), .unset, .unset, .unset] [.ref s.heap.size])) := c2.trans (st3 _ (Steps.refl _))
  have c5 : Steps p.tables e below (s₁.setTop (entryFrame m #[.ref b, .int (Int32.ofNat o), .int (Int32.ofNat len)] 6)) (T3.setTop (mkF m 9 #[.val (.ref b), .val (.int (Int32.ofNat o)), .val (.int (Int32.ofNat len)), .val (.ref s.heap.size), .unset, .unset] [.int (Int32.ofNat len), .int 0, .ref s.heap.size, .int (Int32.ofNat o), .ref b])) := c4.trans (by
    refine XS.astoreN X3.here hexec rfl (hb hbytes d3) rfl rfl rfl ?_
    refine XS.aloadN X3.here hexec rfl (hb hbytes d4) rfl rfl ?_
    refine XS.iloadN X3.here hexec rfl (hb hbytes d5) rfl ?_
    refine XS.aloadN X3.here hexec rfl (hb hbytes d6) rfl rfl ?_
    refine iconstV X3.here hexec rfl 0 (hb hbytes d7) (by decide) ?_
    refine XS.iloadN X3.here hexec rfl (hb hbytes d8) rfl ?_
    exact Steps.refl _)
  obtain ⟨v6, T6, X6, E6, g6⟩ := X3.callS hexec (Cmp5.law l b A s.heap.size B3 o 0 len) hown (wks W (staticW U16 115 Cmp5.yN)) (wk W Cmp5.tab) (W := 0) (Nat.le_of_ble_eq_true rfl) (Nat.le_of_ble_eq_true rfl) (Nat.le_refl _) (by show 0 + len + 0 ≤ len; omega) (g := (mkF m 9 #[.val (.ref b), .val (.int (Int32.ofNat o)), .val (.int (Int32.ofNat len)), .val (.ref s.heap.size), .unset, .unset] [.int (Int32.ofNat len), .int (Int32.ofNat 0), .ref s.heap.size, .int (Int32.ofNat o), .ref b])) rfl (by rw [hml]; rfl) c5 (argsL := [.ref b, .int (Int32.ofNat o), .ref s.heap.size, .int (Int32.ofNat 0), .int (Int32.ofNat len)]) (rest := []) rfl rfl (by show 2 * 0 + 0 ≤ _; decide) (hb hbytes d9) (⟨rfl, hA3, ba3, hne, l1, by rw [bs3]; simp, hp⟩)
  obtain ⟨rfl, B6, p6, f6⟩ := E6
  have c7 : Steps p.tables e below (s₁.setTop (entryFrame m #[.ref b, .int (Int32.ofNat o), .int (Int32.ofNat len)] 6)) (T6.setTop (mkF m 12 #[.val (.ref b), .val (.int (Int32.ofNat o)), .val (.int (Int32.ofNat len)), .val (.ref s.heap.size), .unset, .unset] [.int (Int32.ofNat len)])) := g6
  have c8 : Steps p.tables e below (s₁.setTop (entryFrame m #[.ref b, .int (Int32.ofNat o), .int (Int32.ofNat len)] 6)) (T6.setTop (mkF m 58 #[.val (.ref b), .val (.int (Int32.ofNat o)), .val (.int (Int32.ofNat len)), .val (.ref s.heap.size), .val (.int (Int32.ofNat len)), .unset] [.ref s.heap.size])) := c7.trans (by
    refine XS.istore X6.here hexec rfl (hb hbytes d12) rfl rfl ?_
    refine XS.iload X6.here hexec rfl (hb hbytes d14) rfl ?_
    refine XS.iloadN X6.here hexec rfl (hb hbytes d16) rfl ?_
    refine XS.icmpYes X6.here hexec rfl (pc0 := 17) rfl (hb hbytes d17) rfl (ii_eq_t rfl) (by decide) rfl ?_
    refine XS.aloadN X6.here hexec rfl (hb hbytes d57) rfl rfl ?_
    exact Steps.refl _)
  have X8 := X6.wide (L' := []) (cells' := 1) (slots' := len) (fun x hx hlt => by
    simp only [List.nil_append, copyLocs, List.mem_map, List.mem_range] at hx
    obtain ⟨i, -, rfl⟩ := hx
    exact absurd hlt (Nat.lt_irrefl _)) (Nat.le_refl _) (by omega)
  exact ⟨T6, some (.ref s.heap.size), _, _, _, X8, rfl, rfl, rfl, (fun h => by cases h), ⟨⟨rfl, B6, ba3.like (X3.warmed.alike.symm.trans X6.warmed.alike) p6.1 f6.1 f6.2.1 f6.2.2.1, f6.2.1.trans bv3, by rw [X6.warmed.alike.findClass, f6.1]; exact bf3, by rw [f6.2.2.1, bs3]; simp, fun j hj => by rw [f6.2.2.2 j, if_pos (by omega)]; rfl, kp3.put p6 (Nat.le_refl _)⟩, by rw [p6.2.2, bh3, hh0]; simp⟩, fun fs hl => c8.trans (X8.areturnOut hexec rfl hret rfl (hb hbytes d58) hl)⟩
end Cmp3
namespace CodL
def yN : MethodName := ⟨"java/lang/StringUTF16", "coderFromArrayLen", "([BI)B"⟩
abbrev yB : ByteArray := jdk_52_method_15_code
theorem d0 : decode yB 0 = .ok (.iload_n 1, 1) := by decide +kernel
theorem d1 : decode yB 1 = .ok (.aload_n 0, 1) := by decide +kernel
theorem d2 : decode yB 2 = .ok (.arraylength, 1) := by decide +kernel
theorem d3 : decode yB 3 = .ok (.isub, 1) := by decide +kernel
theorem d4 : decode yB 4 = .ok (.bipush 31, 2) := by decide +kernel
theorem d6 : decode yB 6 = .ok (.iushr, 1) := by decide +kernel
theorem d7 : decode yB 7 = .ok (.i2b, 1) := by decide +kernel
theorem d8 : decode yB 8 = .ok (.ireturn, 1) := by decide +kernel
def site : List Cond := []
def tab : Cond := tabOf yN yB 2 (some .byte) site
def P (d : Addr) (B : Cell) (args : Array Value) (s : State) : Prop := args = #[.ref d, .int (Int32.ofNat B.slots.size)] ∧ Arr .byte d B s
def E (r : Option Value) (s u : State) : Prop := XT.PureE (some (.int 0)) r s u
/-- an array as long as the number of chars: LATIN1 -/
theorem law (l : Launch) (d : Addr) (B : Cell) : Law l yN 2 2 0 0 yB 2 (some .byte) site (P d B) E [] 0 0 := by
  refine Law.of_walk (plainFor_of_name (by decide +kernel)) (by decide +kernel) (by decide +kernel) (by decide) (fun _ _ h => by rw [h.1]; rfl) (fun _ U U' hal hh h => ⟨h.1, h.2.mv hal hh⟩) (fun r U U' V V' h1 hal h2 h => XT.PureE.mv r U U' V V' h1 hal h2 h) ?_
  intro p e s m args below meth c s₁ X0 hexec hbytes hml hret hlk hnm hown hh0 W hP
  obtain ⟨rfl, hB⟩ := hP
  have hB0 := hB.mv X0.warmed.alike hh0
  have c1 : Steps p.tables e below (s₁.setTop (entryFrame m #[.ref d, .int (Int32.ofNat B.slots.size)] 2)) (s₁.setTop (mkF m 0 #[.val (.ref d), .val (.int (Int32.ofNat B.slots.size))] [])) := entry rfl
  have c2 : Steps p.tables e below (s₁.setTop (entryFrame m #[.ref d, .int (Int32.ofNat B.slots.size)] 2)) (s₁.setTop (mkF m 2 #[.val (.ref d), .val (.int (Int32.ofNat B.slots.size))] [.ref d, .int (Int32.ofNat B.slots.size)])) := c1.trans (by
    refine XS.iloadN X0.here hexec rfl (hb hbytes d0) rfl ?_
    refine XS.aloadN X0.here hexec rfl (hb hbytes d1) rfl rfl ?_
    exact Steps.refl _)
  have c3 : Steps p.tables e below (s₁.setTop (entryFrame m #[.ref d, .int (Int32.ofNat B.slots.size)] 2)) (s₁.setTop (mkF m 8 #[.val (.ref d), .val (.int (Int32.ofNat B.slots.size))] [.int (lo8 (ushr (Int32.ofNat B.slots.size - Int32.ofNat B.slots.size) 31))])) := c2.trans (by
    refine X0.alen hexec hB0 rfl rfl (hb hbytes d2) ?_
    refine XS.isub X0.here hexec rfl (hb hbytes d3) rfl ?_
    refine bipushV X0.here hexec rfl 31 (hb hbytes d4) (by decide) ?_
    refine iushr X0.here hexec rfl (hb hbytes d6) rfl ?_
    refine i2b X0.here hexec rfl (hb hbytes d7) rfl ?_
    exact Steps.refl _)
  have e0 : lo8 (ushr (Int32.ofNat B.slots.size - Int32.ofNat B.slots.size) 31) = 0 := by rw [Int32.sub_self]; decide
  rw [e0] at c3
  exact ⟨s₁, some (.int 0), _, _, _, X0, rfl, rfl, rfl, (fun h => by cases h), ⟨rfl, hh0⟩, fun fs hl => c3.trans (X0.ireturnOut hexec hret rfl (Or.inr (Or.inr (Or.inl rfl))) (hb hbytes d8) hl)⟩
end CodL
/-- the String at a is Latin-1 over a new byte[] (the heap's one new cell): the low bytes of the len chars of A from o on; every cell but a is kept -/
def Got (a : Addr) (D : Cell) (fV fC : Field) (A : Cell) (o len : Nat) (r : Option Value) (s u : State) : Prop := r = none ∧ ∃ D' V : Cell, Blank "java/lang/String" a D' u ∧ Same D D' [fV.slot, fC.slot] ∧ D'.slots[fV.slot]? = some (.ref s.heap.size) ∧ D'.slots[fC.slot]? = some (.int 0) ∧ Arr .byte s.heap.size V u ∧ V.vm = .none ∧ u.vm.findClass "[B" = some V.cls ∧ V.slots.size = len ∧ (∀ j, j < len → V.slots[j]? = some (.int (lo8 (cv A (o + j))))) ∧ (∀ (y : Addr) (c : Cell), y ≠ a → s.heap[y]? = some c → u.heap[y]? = some c) ∧ u.heap.size = s.heap.size + 1
theorem Got.mv {a : Addr} {D A : Cell} {fV fC : Field} {o len : Nat} : ∀ r (U U' V V' : State), U'.heap = U.heap → V.vm.Alike V'.vm → V'.heap = V.heap → Got a D fV fC A o len r U V → Got a D fV fC A o len r U' V' :=
  fun r U U' V V' h1 hal h2 ⟨e0, D', X, a1, a2, a3, a4, a5, a6, a7, a8, a9, a10, a11⟩ => ⟨e0, D', X, a1.mv hal h2, a2, by rw [h1]; exact a3, a4, by rw [h1]; exact a5.mv hal h2, a6, by rw [hal.findClass]; exact a7, a8, a9, by rw [h1, h2]; exact a10, by rw [h1, h2]; exact a11⟩
namespace New4
def yN : MethodName := ⟨"java/lang/String", "<init>", "([CIILjava/lang/Void;)V"⟩
abbrev yB : ByteArray := jdk_42_method_149_code
theorem d0 : decode yB 0 = .ok (.aload_n 0, 1) := by decide +kernel
theorem d1 : decode yB 1 = .ok (.invokespecial 1, 3) := by decide +kernel
theorem d4 : decode yB 4 = .ok (.iload_n 3, 1) := by decide +kernel
theorem d5 : decode yB 5 = .ok (.ifCond (.ne) 22, 3) := by decide +kernel
theorem d27 : decode yB 27 = .ok (.getstatic 38, 3) := by decide +kernel
theorem d30 : decode yB 30 = .ok (.ifCond (.eq) 28, 3) := by decide +kernel
theorem d33 : decode yB 33 = .ok (.aload_n 1, 1) := by decide +kernel
theorem d34 : decode yB 34 = .ok (.iload_n 2, 1) := by decide +kernel
theorem d35 : decode yB 35 = .ok (.iload_n 3, 1) := by decide +kernel
theorem d36 : decode yB 36 = .ok (.invokestatic 177, 3) := by decide +kernel
theorem d39 : decode yB 39 = .ok (.astore 5, 2) := by decide +kernel
theorem d41 : decode yB 41 = .ok (.aload_n 0, 1) := by decide +kernel
theorem d42 : decode yB 42 = .ok (.aload 5, 2) := by decide +kernel
theorem d44 : decode yB 44 = .ok (.iload_n 3, 1) := by decide +kernel
theorem d45 : decode yB 45 = .ok (.invokestatic 47, 3) := by decide +kernel
theorem d48 : decode yB 48 = .ok (.putfield 15, 3) := by decide +kernel
theorem d51 : decode yB 51 = .ok (.aload_n 0, 1) := by decide +kernel
theorem d52 : decode yB 52 = .ok (.aload 5, 2) := by decide +kernel
theorem d54 : decode yB 54 = .ok (.putfield 9, 3) := by decide +kernel
theorem d57 : decode yB 57 = .ok (.return_, 1) := by decide +kernel
def site : List Cond := [.fieldLink "java/lang/String" 38 "java/lang/String" "COMPACT_STRINGS" "Z", Cmp3.tab, CodL.tab, .laysFinal "java/lang/String" "java/lang/String" "value" "[B", .fieldLink "java/lang/String" 9 "java/lang/String" "value" "[B", .laysFinal "java/lang/String" "java/lang/String" "coder" "B", .fieldLink "java/lang/String" 15 "java/lang/String" "coder" "B"] ++ objW "java/lang/String" 1 ++ staticW "java/lang/String" 177 Cmp3.yN ++ staticW "java/lang/String" 47 CodL.yN
def tab : Cond := tabOf yN yB 6 none site
def P (a : Addr) (D : Cell) (fV fC : Field) (b : Addr) (A : Cell) (z : Int32) (o len : Nat) (args : Array Value) (s : State) : Prop := args = #[.ref a, .ref b, .int (Int32.ofNat o), .int (Int32.ofNat len), .null] ∧ Blank "java/lang/String" a D s ∧ Found "java/lang/String" "value" "[B" fV s ∧ Found "java/lang/String" "coder" "B" fC s ∧ Ch b A s ∧ StaticIs s "java/lang/String" "COMPACT_STRINGS" "Z" (.int z) ∧ ¬ z = 0 ∧ 0 < len ∧ o + len ≤ A.slots.size ∧ len ≤ 536870912 ∧ ∀ i, i < len → ¬ 255 < cv A (o + i)
def E (a : Addr) (D : Cell) (fV fC : Field) (A : Cell) (o len : Nat) (r : Option Value) (s u : State) : Prop := Got a D fV fC A o len r s u
/-- len > 0, no char of the range above 255: a Latin-1 String of their low bytes -/
theorem law (l : Launch) (a : Addr) (D : Cell) (fV fC : Field) (b : Addr) (A : Cell) (z : Int32) (o len : Nat) : Law l yN 5 4 2 35 yB 6 none site (P a D fV fC b A z o len) (E a D fV fC A o len) [⟨a, fC.slot⟩, ⟨a, fV.slot⟩] 1 len := by
  refine Law.of_walk (plainFor_of_name (by decide +kernel)) (by decide +kernel) (by decide +kernel) (by decide) (fun _ _ h => by rw [h.1]; rfl) (fun _ U U' hal hh h => ⟨h.1, h.2.1.mv hal hh, h.2.2.1.al hal, h.2.2.2.1.al hal, h.2.2.2.2.1.mv hal hh, h.2.2.2.2.2.1.there hal hh, h.2.2.2.2.2.2⟩) (fun r U U' V V' h1 hal h2 h => Got.mv r U U' V V' h1 hal h2 h) ?_
  intro p e s m args below meth c s₁ X0 hexec hbytes hml hret hlk hnm hown hh0 W hP
  obtain ⟨rfl, hB, f1, f2, hA, s1, hz, l0, l1, l2, hp⟩ := hP
  have a31 := hA.1.2.2.2
  have c1 : Steps p.tables e below (s₁.setTop (entryFrame m #[.ref a, .ref b, .int (Int32.ofNat o), .int (Int32.ofNat len), .null] 6)) (s₁.setTop (mkF m 0 #[.val (.ref a), .val (.ref b), .val (.int (Int32.ofNat o)), .val (.int (Int32.ofNat len)), .val .null, .unset] [])) := entry rfl
  have c2 : Steps p.tables e below (s₁.setTop (entryFrame m #[.ref a, .ref b, .int (Int32.ofNat o), .int (Int32.ofNat len), .null] 6)) (s₁.setTop (mkF m 1 #[.val (.ref a), .val (.ref b), .val (.int (Int32.ofNat o)), .val (.int (Int32.ofNat len)), .val .null, .unset] [.ref a])) := c1.trans (by
    refine XS.aloadN X0.here hexec rfl (hb hbytes d0) rfl rfl ?_
    exact Steps.refl _)
  obtain ⟨T3, X3, q3, st3⟩ := X0.oinit hexec hown (wks W (objW "java/lang/String" 1)) (g := (mkF m 1 #[.val (.ref a), .val (.ref b), .val (.int (Int32.ofNat o)), .val (.int (Int32.ofNat len)), .val .null, .unset] [.ref a])) rfl (by rw [hml]; rfl) (rest := []) rfl (hb hbytes d1) (W := 0) (by show 2 * 0 + 0 ≤ _; decide) (Nat.le_of_ble_eq_true rfl) (Nat.le_of_ble_eq_true rfl)
  have hh3 := q3.trans hh0
  have c4 : Steps p.tables e below (s₁.setTop (entryFrame m #[.ref a, .ref b, .int (Int32.ofNat o), .int (Int32.ofNat len), .null] 6)) (T3.setTop (mkF m 27 #[.val (.ref a), .val (.ref b), .val (.int (Int32.ofNat o)), .val (.int (Int32.ofNat len)), .val .null, .unset] [])) := (c2.trans (st3 _ (Steps.refl _))).trans (by
    refine XS.iloadN X3.here hexec rfl (hb hbytes d4) rfl ?_
    refine XS.ifYes X3.here hexec rfl (pc0 := 5) rfl (hb hbytes d5) rfl (i0_ne_t (nz32 (by omega) l0)) (by decide) rfl ?_
    exact Steps.refl _)
  obtain ⟨T5, X5, q5, st5⟩ := X3.sget hexec hown (wk W (.fieldLink "java/lang/String" 38 "java/lang/String" "COMPACT_STRINGS" "Z")) s1 (fun _ _ h => by rw [hh3]; exact h) (g := (mkF m 27 #[.val (.ref a), .val (.ref b), .val (.int (Int32.ofNat o)), .val (.int (Int32.ofNat len)), .val .null, .unset] [])) rfl (hb hbytes d27)
  have hh5 := q5.trans hh3
  have c6 : Steps p.tables e below (s₁.setTop (entryFrame m #[.ref a, .ref b, .int (Int32.ofNat o), .int (Int32.ofNat len), .null] 6)) (T5.setTop (mkF m 30 #[.val (.ref a), .val (.ref b), .val (.int (Int32.ofNat o)), .val (.int (Int32.ofNat len)), .val .null, .unset] [.int z])) := c4.trans (st5 _ (Steps.refl _))
  have c7 : Steps p.tables e below (s₁.setTop (entryFrame m #[.ref a, .ref b, .int (Int32.ofNat o), .int (Int32.ofNat len), .null] 6)) (T5.setTop (mkF m 36 #[.val (.ref a), .val (.ref b), .val (.int (Int32.ofNat o)), .val (.int (Int32.ofNat len)), .val .null, .unset] [.int (Int32.ofNat len), .int (Int32.ofNat o), .ref b])) := c6.trans (by
    refine XS.ifNo X5.here hexec rfl (hb hbytes d30) rfl (i0_eq_f hz) ?_
    refine XS.aloadN X5.here hexec rfl (hb hbytes d33) rfl rfl ?_
    refine XS.iloadN X5.here hexec rfl (hb hbytes d34) rfl ?_
    refine XS.iloadN X5.here hexec rfl (hb hbytes d35) rfl ?_
    exact Steps.refl _)
  obtain ⟨v8, T8, X8, E8, g8⟩ := X5.callS hexec (Cmp3.law l b A o len) hown (wks W (staticW "java/lang/String" 177 Cmp3.yN)) (wk W Cmp3.tab) (W := 0) (Nat.le_of_ble_eq_true rfl) (Nat.le_of_ble_eq_true rfl) (Nat.le_refl _) (by show 0 + len ≤ len; omega) (g := (mkF m 36 #[.val (.ref a), .val (.ref b), .val (.int (Int32.ofNat o)), .val (.int (Int32.ofNat len)), .val .null, .unset] [.int (Int32.ofNat len), .int (Int32.ofNat o), .ref b])) rfl (by rw [hml]; rfl) c7 (argsL := [.ref b, .int (Int32.ofNat o), .int (Int32.ofNat len)]) (rest := []) rfl rfl (by show 2 * 0 + 0 ≤ _; decide) (hb hbytes d36) (⟨rfl, hA.mv X5.warmed.alike hh5, l1, l2, hp⟩)
  obtain ⟨e8, z8⟩ := E8
  obtain ⟨rfl, N, n1, n2, n3, n4, n5, n6⟩ := NewArr.mv _ T5 s _ _ hh5.symm (Vm.Alike.refl _) rfl e8
  rw [hh5] at z8
  have hB1 := hB.keep X8.warmed.alike (n6 _ _ hB.1)
  have hne : s.heap.size ≠ a := (Nat.ne_of_lt (Array.getElem?_eq_some_iff.mp hB.1).1).symm
  have c9 : Steps p.tables e below (s₁.setTop (entryFrame m #[.ref a, .ref b, .int (Int32.ofNat o), .int (Int32.ofNat len), .null] 6)) (T8.setTop (mkF m 39 #[.val (.ref a), .val (.ref b), .val (.int (Int32.ofNat o)), .val (.int (Int32.ofNat len)), .val .null, .unset] [.ref s.heap.size])) := g8
  have c10 : Steps p.tables e below (s₁.setTop (entryFrame m #[.ref a, .ref b, .int (Int32.ofNat o), .int (Int32.ofNat len), .null] 6)) (T8.setTop (mkF m 45 #[.val (.ref a), .val (.ref b), .val (.int (Int32.ofNat o)), .val (.int (Int32.ofNat len)), .val .null, .val (.ref s.heap.size)] [.int (Int32.ofNat N.slots.size), .ref s.heap.size, .ref a])) := by
    have hc : Steps p.tables e below (s₁.setTop (entryFrame m #[.ref a, .ref b, .int (Int32.ofNat o), .int (Int32.ofNat len), .null] 6)) (T8.setTop (mkF m 45 #[.val (.ref a), .val (.ref b), .val (.int (Int32.ofNat o)), .val (.int (Int32.ofNat len)), .val .null, .val (.ref s.heap.size)] [.int (Int32.ofNat len), .ref s.heap.size, .ref a])) := c9.trans (by
      refine XS.astore X8.here hexec rfl (hb hbytes d39) rfl rfl rfl ?_
      refine XS.aloadN X8.here hexec rfl (hb hbytes d41) rfl rfl ?_
      refine XS.aload X8.here hexec rfl (hb hbytes d42) rfl rfl ?_
      refine XS.iloadN X8.here hexec rfl (hb hbytes d44) rfl ?_
      exact Steps.refl _)
    rw [n4]; exact hc
  obtain ⟨v11, T11, X11, E11, g11⟩ := X8.callS hexec (CodL.law l s.heap.size N) hown (wks W (staticW "java/lang/String" 47 CodL.yN)) (wk W CodL.tab) (W := 1) (Nat.le_of_ble_eq_true rfl) (Nat.le_of_ble_eq_true rfl) (Nat.le_refl _) (by show 0 + len + 0 ≤ len; omega) (g := (mkF m 45 #[.val (.ref a), .val (.ref b), .val (.int (Int32.ofNat o)), .val (.int (Int32.ofNat len)), .val .null, .val (.ref s.heap.size)] [.int (Int32.ofNat N.slots.size), .ref s.heap.size, .ref a])) rfl (by rw [hml]; rfl) c10 (argsL := [.ref s.heap.size, .int (Int32.ofNat N.slots.size)]) (rest := [.ref a]) rfl rfl (by show 2 * 0 + (1 + 0) ≤ _; decide) (hb hbytes d45) (⟨rfl, n1⟩)
  obtain ⟨rfl, q11⟩ := E11
  have hB11 := hB1.mv (X8.warmed.alike.symm.trans X11.warmed.alike) q11
  have c12 : Steps p.tables e below (s₁.setTop (entryFrame m #[.ref a, .ref b, .int (Int32.ofNat o), .int (Int32.ofNat len), .null] 6)) (T11.setTop (mkF m 48 #[.val (.ref a), .val (.ref b), .val (.int (Int32.ofNat o)), .val (.int (Int32.ofNat len)), .val .null, .val (.ref s.heap.size)] [.int 0, .ref a])) := g11
  obtain ⟨T13, X13, p13, bl13, sl13, st13⟩ := X11.finit hexec hown (wk W (.fieldLink "java/lang/String" 15 "java/lang/String" "coder" "B")) (Or.inr ⟨_, (wk W (.laysFinal "java/lang/String" "java/lang/String" "coder" "B"))⟩) (Or.inl ⟨rfl, hnm⟩) f2 (Or.inl rfl) hB11 (t := .byte) (by decide +kernel) rfl (g := (mkF m 48 #[.val (.ref a), .val (.ref b), .val (.int (Int32.ofNat o)), .val (.int (Int32.ofNat len)), .val .null, .val (.ref s.heap.size)] [.int 0, .ref a])) rfl (rest := []) rfl (hb hbytes d48)
  have c14 : Steps p.tables e below (s₁.setTop (entryFrame m #[.ref a, .ref b, .int (Int32.ofNat o), .int (Int32.ofNat len), .null] 6)) (T13.setTop (mkF m 54 #[.val (.ref a), .val (.ref b), .val (.int (Int32.ofNat o)), .val (.int (Int32.ofNat len)), .val .null, .val (.ref s.heap.size)] [.ref s.heap.size, .ref a])) := (c12.trans (st13 _ (Steps.refl _))).trans (by
    refine XS.aloadN X13.here hexec rfl (hb hbytes d51) rfl rfl ?_
    refine XS.aload X13.here hexec rfl (hb hbytes d52) rfl rfl ?_
    exact Steps.refl _)
  obtain ⟨T15, X15, p15, bl15, sl15, st15⟩ := X13.finit hexec hown (wk W (.fieldLink "java/lang/String" 9 "java/lang/String" "value" "[B")) (Or.inr ⟨_, (wk W (.laysFinal "java/lang/String" "java/lang/String" "value" "[B"))⟩) (Or.inl ⟨rfl, hnm⟩) f1 (Or.inl rfl) bl13 (t := (.array .byte)) (by decide +kernel) rfl (g := (mkF m 54 #[.val (.ref a), .val (.ref b), .val (.int (Int32.ofNat o)), .val (.int (Int32.ofNat len)), .val .null, .val (.ref s.heap.size)] [.ref s.heap.size, .ref a])) rfl (rest := []) rfl (hb hbytes d54)
  have c16 : Steps p.tables e below (s₁.setTop (entryFrame m #[.ref a, .ref b, .int (Int32.ofNat o), .int (Int32.ofNat len), .null] 6)) (T15.setTop (mkF m 57 #[.val (.ref a), .val (.ref b), .val (.int (Int32.ofNat o)), .val (.int (Int32.ofNat len)), .val .null, .val (.ref s.heap.size)] [])) := c14.trans (st15 _ (Steps.refl _))
  have ap := apart (Or.inr ⟨_, (wk W (.laysFinal "java/lang/String" "java/lang/String" "value" "[B"))⟩) (Or.inr ⟨_, (wk W (.laysFinal "java/lang/String" "java/lang/String" "coder" "B"))⟩) f1 f2 (t₁ := .array .byte) (t₂ := .byte) (by decide +kernel) (by decide +kernel) (by decide)
  have al := X8.warmed.alike.symm.trans X15.warmed.alike
  have n7 : T11.heap[s.heap.size]? = some N := by rw [q11]; exact n1.1
  exact ⟨T15, none, _, _, _, X15, by simp, rfl, by omega, (fun _ => rfl), ⟨rfl, _, N, bl15, ((Same.refl D _).set _ (by simp)).set _ (by simp), sl15, (Cell.slots_setSlot_ne _ ap).trans sl13, n1.keep al (p15.other hne (p13.other hne n7)), n2, by rw [al.findClass]; exact n3, n4, n5, fun y c h1 h2 => p15.other h1 (p13.other h1 (by rw [q11]; exact n6 y c h2)), by rw [p15.2.2, p13.2.2, q11]; exact z8⟩, fun fs hl => c16.trans (X15.returnOut hexec hret (hb hbytes d57) hl)⟩
end New4
namespace New1
def yN : MethodName := ⟨"java/lang/String", "<init>", "([C)V"⟩
abbrev yB : ByteArray := jdk_42_method_3_code
theorem d0 : decode yB 0 = .ok (.aload_n 0, 1) := by decide +kernel
theorem d1 : decode yB 1 = .ok (.aload_n 1, 1) := by decide +kernel
theorem d2 : decode yB 2 = .ok (.iconst 0, 1) := by decide +kernel
theorem d3 : decode yB 3 = .ok (.aload_n 1, 1) := by decide +kernel
theorem d4 : decode yB 4 = .ok (.arraylength, 1) := by decide +kernel
theorem d5 : decode yB 5 = .ok (.aconst_null, 1) := by decide +kernel
theorem d6 : decode yB 6 = .ok (.invokespecial 27, 3) := by decide +kernel
theorem d9 : decode yB 9 = .ok (.return_, 1) := by decide +kernel
def site : List Cond := [New4.tab] ++ initW "java/lang/String" 27 New4.yN
def tab : Cond := tabOf yN yB 2 none site
def P (a : Addr) (D : Cell) (fV fC : Field) (b : Addr) (A : Cell) (z : Int32) (args : Array Value) (s : State) : Prop := args = #[.ref a, .ref b] ∧ Blank "java/lang/String" a D s ∧ Found "java/lang/String" "value" "[B" fV s ∧ Found "java/lang/String" "coder" "B" fC s ∧ Ch b A s ∧ StaticIs s "java/lang/String" "COMPACT_STRINGS" "Z" (.int z) ∧ ¬ z = 0 ∧ 0 < A.slots.size ∧ A.slots.size ≤ 536870912 ∧ ∀ i, i < A.slots.size → ¬ 255 < cv A i
def E (a : Addr) (D : Cell) (fV fC : Field) (A : Cell) (r : Option Value) (s u : State) : Prop := Got a D fV fC A 0 A.slots.size r s u
/-- new String(chars), not empty, no char above 255: a Latin-1 String of their low bytes -/
theorem law (l : Launch) (a : Addr) (D : Cell) (fV fC : Field) (b : Addr) (A : Cell) (z : Int32) : Law l yN 2 1 3 52 yB 2 none site (P a D fV fC b A z) (E a D fV fC A) [⟨a, fC.slot⟩, ⟨a, fV.slot⟩] 1 A.slots.size := by
  refine Law.of_walk (plainFor_of_name (by decide +kernel)) (by decide +kernel) (by decide +kernel) (by decide) (fun _ _ h => by rw [h.1]; rfl) (fun _ U U' hal hh h => ⟨h.1, h.2.1.mv hal hh, h.2.2.1.al hal, h.2.2.2.1.al hal, h.2.2.2.2.1.mv hal hh, h.2.2.2.2.2.1.there hal hh, h.2.2.2.2.2.2⟩) (fun r U U' V V' h1 hal h2 h => Got.mv r U U' V V' h1 hal h2 h) ?_
  intro p e s m args below meth c s₁ X0 hexec hbytes hml hret hlk hnm hown hh0 W hP
  obtain ⟨rfl, hB, f1, f2, hA, s1, hz, l0, l2, hp⟩ := hP
  have c1 : Steps p.tables e below (s₁.setTop (entryFrame m #[.ref a, .ref b] 2)) (s₁.setTop (mkF m 0 #[.val (.ref a), .val (.ref b)] [])) := entry rfl
  have c2 : Steps p.tables e below (s₁.setTop (entryFrame m #[.ref a, .ref b] 2)) (s₁.setTop (mkF m 6 #[.val (.ref a), .val (.ref b)] [.null, .int (Int32.ofNat A.slots.size), .int 0, .ref b, .ref a])) := c1.trans (by
    refine XS.aloadN X0.here hexec rfl (hb hbytes d0) rfl rfl ?_
    refine XS.aloadN X0.here hexec rfl (hb hbytes d1) rfl rfl ?_
    refine iconstV X0.here hexec rfl 0 (hb hbytes d2) (by decide) ?_
    refine XS.aloadN X0.here hexec rfl (hb hbytes d3) rfl rfl ?_
    refine X0.alen hexec (hA.1.mv X0.warmed.alike hh0) rfl rfl (hb hbytes d4) ?_
    refine XS.aconstNull X0.here hexec rfl (hb hbytes d5) ?_
    exact Steps.refl _)
  obtain ⟨v3, T3, X3, E3, g3⟩ := X0.callN hexec (New4.law l a D fV fC b A z 0 A.slots.size) rfl hown (wks W (initW "java/lang/String" 27 New4.yN)) (W New4.tab (by simp only [site, List.mem_cons, List.mem_append, true_or, or_true])) (W := 0) (Nat.le_of_ble_eq_true rfl) (Nat.le_of_ble_eq_true rfl) (Nat.le_refl _) (by show 0 + A.slots.size ≤ A.slots.size; omega) (g := (mkF m 6 #[.val (.ref a), .val (.ref b)] [.null, .int (Int32.ofNat A.slots.size), .int (Int32.ofNat 0), .ref b, .ref a])) rfl (by rw [hml]; rfl) c2 (argsL := [.ref b, .int (Int32.ofNat 0), .int (Int32.ofNat A.slots.size), .null]) (rest := []) rfl rfl (by show 2 * 0 + 0 ≤ _; decide) (hb hbytes d6) (⟨rfl, hB.mv X0.warmed.alike hh0, f1.al X0.warmed.alike, f2.al X0.warmed.alike, hA.mv X0.warmed.alike hh0, s1.there X0.warmed.alike hh0, hz, l0, by omega, l2, fun i hi => by rw [Nat.zero_add]; exact hp i hi⟩)
  have e0 := Got.mv _ s₁ s _ _ hh0.symm (Vm.Alike.refl _) rfl E3
  obtain rfl := e0.1
  have c4 : Steps p.tables e below (s₁.setTop (entryFrame m #[.ref a, .ref b] 2)) (T3.setTop (mkF m 9 #[.val (.ref a), .val (.ref b)] [])) := g3
  exact ⟨T3, none, _, _, _, X3, by simp, rfl, by omega, (fun _ => rfl), e0, fun fs hl => c4.trans (X3.returnOut hexec hret (hb hbytes d9) hl)⟩
theorem pays {l : Launch} {R : Room} {p : Program} {e : Env} {below : List Frame} {s : State} {sargs : Array Value} {len W : Nat} (a : Addr) (D : Cell) (fV fC : Field) (b : Addr) (A : Cell) (z : Int32) (htab : tab.before sargs s = true) (hfr : 4 ≤ R.frames) (hlo : W + 65 ≤ R.locals) :
    Back l R p e below s sargs yN len W (fun A₁ a₁ => A₁.cells + 1 ≤ R.cells ∧ A₁.slots + A.slots.size ≤ R.slots ∧ P a D fV fC b A z a₁ A₁.U) (fun A₁ _ v₁ B₁ => E a D fV fC A v₁ A₁.U B₁.U ∧ B₁.locs = A₁.locs ++ [⟨a, fC.slot⟩, ⟨a, fV.slot⟩] ∧ B₁.cells = A₁.cells + 1 ∧ B₁.slots = A₁.slots + A.slots.size) :=
  (law l a D fV fC b A z).pays htab hfr (by omega)
end New1
/-- the byte, read back as charAt reads it, is the char -/
theorem lo8_mask {x : Int32} (h0 : ¬ x < 0) (h1 : ¬ 255 < x) : lo8 x &&& 255 = x := by
  have t : ∀ k : Fin 256, lo8 (Int32.ofNat k.val) &&& 255 = Int32.ofNat k.val := by decide +kernel
  rw [Int32.lt_iff_toInt_lt] at h0 h1
  have e0 : (0 : Int32).toInt = 0 := rfl
  have e1 : (255 : Int32).toInt = 255 := rfl
  obtain ⟨k, hk⟩ : ∃ k : Nat, x.toInt = k := ⟨x.toInt.toNat, by omega⟩
  have hx : x = Int32.ofNat k := Int32.toInt_inj.mp (by rw [hk, Int32.toInt_ofNat_small (by omega)])
  rw [hx]
  exact t ⟨k, by omega⟩
end StrChars
namespace StrChars.Road
open Jvm Sem ClassFile Op Lib Jvm.Stand Jvm.Free Jvm.Free.XT
open Jvm.Lib.Cold (StaticIs)
abbrev ST : String := "java/lang/String"
/-- every table word that New1's law asks, flat -/
abbrev words : List Jvm.Cond := [.code New1.yN New1.yB 2 none, .initialized ST, .methodLink ST 27 New4.yN, .instanceMethod New4.yN,
  .code New4.yN New4.yB 6 none, .fieldLink ST 38 ST "COMPACT_STRINGS" "Z", .laysFinal ST ST "value" "[B", .fieldLink ST 9 ST "value" "[B", .laysFinal ST ST "coder" "B", .fieldLink ST 15 ST "coder" "B",
  .methodLink ST 1 Lib.objectInit, .instanceMethod Lib.objectInit, .code Lib.objectInit ⟨#[0xb1]⟩ 1 none, .methodLink ST 177 Cmp3.yN, .static Cmp3.yN, .methodLink ST 47 CodL.yN, .static CodL.yN,
  .code Cmp3.yN Cmp3.yB 6 (some (.array .byte)), .initialized U16, .arrayClass .byte, .methodLink U16 115 Cmp5.yN, .static Cmp5.yN, .code Cmp5.yN Cmp5.yB 7 (some .int), .code CodL.yN CodL.yB 2 (some .byte)]
theorem tab_of {a : Array Value} {s : State} (h : ∀ w ∈ words, w.before a s = true) : New1.tab.before a s = true := by
  have h5 : Cmp5.tab.before a s = true := unparts (wk h (.code Cmp5.yN Cmp5.yB 7 (some .int))) (wks h (.initialized Cmp5.yN.cls :: Cmp5.site))
  have hc : CodL.tab.before a s = true := unparts (wk h (.code CodL.yN CodL.yB 2 (some .byte))) (wks h (.initialized CodL.yN.cls :: CodL.site))
  have q5 : ∀ w ∈ Cmp5.tab :: words, w.before a s = true := fun w hw => (List.mem_cons.mp hw).elim (fun e => e ▸ h5) (h w)
  have h3 : Cmp3.tab.before a s = true := unparts (wk q5 (.code Cmp3.yN Cmp3.yB 6 (some (.array .byte)))) (wks q5 (.initialized Cmp3.yN.cls :: Cmp3.site))
  have q3 : ∀ w ∈ Cmp3.tab :: CodL.tab :: words, w.before a s = true := fun w hw => (List.mem_cons.mp hw).elim (fun e => e ▸ h3) fun hw => (List.mem_cons.mp hw).elim (fun e => e ▸ hc) (h w)
  have h4 : New4.tab.before a s = true := unparts (wk q3 (.code New4.yN New4.yB 6 none)) (wks q3 (.initialized New4.yN.cls :: New4.site))
  have q4 : ∀ w ∈ New4.tab :: words, w.before a s = true := fun w hw => (List.mem_cons.mp hw).elim (fun e => e ▸ h4) (h w)
  exact unparts (wk q4 (.code New1.yN New1.yB 2 none)) (wks q4 (.initialized New1.yN.cls :: New1.site))
/-- the words ride from the start Z to the walk's own state -/
theorem moved {Z s : State} {a0 args : Array Value} (hZ : Z.Warmed39 s.vm) (hw : ∀ d ∈ words, d.before a0 Z = true) : ∀ d ∈ words, d.before args s = true := fun d hd => by
  have q := hw d hd
  have t : ∀ d ∈ words, d = .arrayClass .byte ∨ (d.onTables && d.keepsFace) = true := by decide +kernel
  rcases t d hd with rfl | t
  · exact RoadKit.mvA hZ q
  · exact RoadKit.mv hZ q t
/-- WHAT COMES BACK, over the tables of the start Z: h the heap at the call, h' behind it -/
def Q (Z : State) (x : Addr) (A : Cell) (h : Heap) (v : Option Value) (h' : Heap) (L : List Loc) : Prop := v = none ∧ (∀ y ∈ L, y.base = x) ∧ RoadKit.Keep h h' [x] ∧ h'.size = h.size + 1 ∧ RoadKit.Exa Z h' x ST ∧ RoadKit.Fld Z h' x ST "value" "[B" (.ref h.size) ∧ RoadKit.Fld Z h' x ST "coder" "B" (.int 0) ∧
  (∃ V : Cell, RoadKit.Arr Z h' h.size V .byte ∧ V.vm = .none ∧ Z.vm.findClass "[B" = some V.cls ∧ V.slots.size = A.slots.size ∧ ∀ j, j < A.slots.size → V.slots[j]? = some (.int (lo8 (cv A j)))) ∧
  ∀ (O n d : String) (w : Value), RoadKit.Fld Z h x O n d w → RoadKit.slotOf Z O n d ≠ RoadKit.slotOf Z ST "value" "[B" → RoadKit.slotOf Z O n d ≠ RoadKit.slotOf Z ST "coder" "B" → RoadKit.Fld Z h' x O n d w
/-- **new String(chars) AT A CALL, IN THE ROAD'S FORM**: for specialBack behind newO: x the fresh String, b the char[] with the cell A -/
theorem back {p : Program} {l : Launch} {e : Env} {R : Room} {s : State} {args : Array Value} {below : List Frame} {len W : Nat} {Z : State} {a0 : Array Value} {h : Heap} (hZ : Z.Warmed39 s.vm) (hw : ∀ d ∈ words, d.before a0 Z = true) {kI : Nat} (wi : (Jvm.Cond.instantiable ST kI).before a0 Z = true)
    {x b : Addr} {A : Cell} {z : Int32} {v0 c0 : Value} (E : RoadKit.Exa Z h x ST) (V : RoadKit.Fld Z h x ST "value" "[B" v0) (C : RoadKit.Fld Z h x ST "coder" "B" c0) (K : RoadKit.Arr Z h b A .char) (hty : Typed .char A) (S : RoadKit.Sta Z h ST "COMPACT_STRINGS" "Z" (.int z)) (hz : ¬ z = 0)
    (l0 : 0 < A.slots.size) (l2 : A.slots.size ≤ 536870912) (hp : ∀ i, i < A.slots.size → ¬ 255 < cv A i) (hfr : 4 ≤ R.frames) (hlo : W + 65 ≤ R.locals) :
    Back l R p e below s args New1.yN len W (fun P a => a = #[.ref x, .ref b] ∧ P.U.heap = h ∧ P.cells + 1 ≤ R.cells ∧ P.slots + A.slots.size ≤ R.slots)
      (fun P _ v B => ∃ L, Q Z x A h v B.U.heap L ∧ B.locs = P.locs ++ L ∧ B.cells = P.cells + 1 ∧ B.slots = P.slots + A.slots.size) := by
  intro m meth c P g ig mk a X hg hsize hdg hW hn hp'
  obtain ⟨rfl, rfl, r1, r2⟩ := hp'
  have al : Z.vm.Alike P.U.vm := hZ.alike.trans X.warmed.alike
  obtain ⟨D, cfV, kV, iV, fV, hD, gV, stV, knV, obV, asV, slV⟩ := id V
  obtain ⟨D', cfC, kC, iC, fC, hD', gC, stC, -, -, asC, slC⟩ := id C
  cases hD.symm.trans hD'
  obtain ⟨D2, kD, e1, e2, e3, e4, e5⟩ := id E
  cases hD.symm.trans e1
  obtain ⟨c2, k2, i1, i2, i3, -⟩ := Cond.instantiable_spec wi
  cases e2.symm.trans i1
  cases e3.symm.trans i2
  obtain ⟨kU, u1, u2⟩ := al.2.2 _ _ e3
  have hB : Blank ST x D P.U := ⟨hD, ⟨knV, fun q hq => by rw [hq] at obV; cases obV⟩, by rw [al.findClass]; exact e2, kU, u1, by rw [u2]; exact i3, by rw [u2]; exact e5 i3⟩
  have F1 : Found ST "value" "[B" fV P.U := ⟨SBG.found_only al ⟨cfV, kV, iV, gV⟩, stV⟩
  have F2 : Found ST "coder" "B" fC P.U := ⟨SBG.found_only al ⟨cfC, kC, iC, gC⟩, stC⟩
  have hA : Ch b A P.U := ⟨⟨K.1, State.isArrayOf_alike al K.2.1, K.2.2, by omega⟩, hty⟩
  have hS : StaticIs P.U ST "COMPACT_STRINGS" "Z" (.int z) := by
    obtain ⟨cfS, iS, kS, fS, st, cS, t1, t2, t3, t4, t5, t6, t7⟩ := S
    exact StaticIs.there (s := { Z with heap := P.U.heap }) ⟨cfS, iS, kS, fS, st, cS, t1, t2, t3, t4, t5, (fun q => by rw [q] at t6; cases t6), t7⟩ al rfl
  obtain ⟨v, B, X', ⟨⟨hv, E', V', q1, q2, q3, q4, q5, q6, q7, q8, q9, q10, q11⟩, hl, hc, hs⟩, st⟩ := New1.pays x D fV fC b A z (tab_of (moved hZ hw)) hfr hlo m meth c P g ig mk _ X hg hsize hdg hW hn ⟨r1, r2, rfl, hB, F1, F2, hA, hS, hz, l0, l2, hp⟩
  have al' : Z.vm.Alike B.U.vm := hZ.alike.trans X'.warmed.alike
  have hsz : E'.slots.size = D.slots.size := by
    obtain ⟨-, -, -, kB, w1, w2, w3⟩ := q1
    obtain ⟨kB', y1, y2⟩ := al'.2.2 _ _ e3
    rw [q2.2.1] at w1
    cases w1.symm.trans y1
    rw [w3, e5 i3, y2]
  refine ⟨v, B, X', ⟨_, ⟨hv, ?_, ⟨by omega, fun y cy hy hn' => q10 y cy (by simpa using hn') hy, fun y cy hy => ?_⟩, q11, ⟨E', _, q1.1, by rw [q2.2.1]; exact e2, by rw [q2.2.1]; exact e3, by rw [q2.1]; exact obV, fun _ => by rw [hsz]; exact e5 i3⟩,
    ⟨E', cfV, kV, iV, fV, q1.1, gV, stV, by rw [q2.1]; exact knV, by rw [q2.1]; exact obV, by rw [q2.2.1]; exact asV, q3⟩, ⟨E', cfC, kC, iC, fC, q1.1, gC, stC, by rw [q2.1]; exact knV, by rw [q2.1]; exact obV, by rw [q2.2.1]; exact asC, q4⟩,
    ⟨V', ⟨q5.1, State.isArrayOf_alike al'.symm q5.2.1, q5.2.2.1⟩, q6, by rw [← al'.findClass]; exact q7, q8, fun j hj => by have := q9 j hj; rwa [Nat.zero_add] at this⟩, fun O n d w F n1 n2 => ?_⟩, hl, hc, hs⟩, st⟩
  · intro y hy
    simp only [List.mem_cons, List.not_mem_nil, or_false] at hy
    rcases hy with rfl | rfl <;> rfl
  · by_cases q : y = x
    · subst q
      cases hD.symm.trans hy
      exact ⟨E', q1.1, q2.2.1, q2.1, hsz⟩
    · exact ⟨cy, q10 y cy q hy, rfl, rfl, rfl⟩
  · obtain ⟨D3, cf, k, i, f, g1, g2, g3, g4, g5, g6, g7⟩ := F
    cases hD.symm.trans g1
    simp only [RoadKit.slotOf, g2, gV, gC, Option.map_some, Option.getD_some] at n1 n2
    exact ⟨E', cf, k, i, f, q1.1, g2, g3, by rw [q2.1]; exact g4, by rw [q2.1]; exact g5, by rw [q2.2.1]; exact g6, by rw [q2.2.2 f.slot (by simp [n1, n2])]; exact g7⟩
end StrChars.Road
namespace StrChars.Road
open Jvm Sem ClassFile Op Lib Jvm.Stand Jvm.Free Jvm.Free.XT
/-- WHAT COMES BACK, the byte[] as a list of values -/
def QA (Z : State) (x : Addr) (zn : Int32) (cs : List Int32) (h : Heap) (v : Option Value) (h' : Heap) (L : List Loc) : Prop := v = none ∧ (∀ y ∈ L, y.base = x) ∧ RoadKit.Keep h h' [x] ∧ h'.size = h.size + 1 ∧ RoadKit.Exa Z h' x ST ∧ RoadKit.Fld Z h' x ST "value" "[B" (.ref h.size) ∧ RoadKit.Fld Z h' x ST "coder" "B" (.int 0) ∧
  (∃ kb, Z.vm.findClass "[B" = some kb ∧ RoadKit.Arv Z h' h.size kb .byte zn (cs.map fun c => .int (lo8 c)) (.int 0)) ∧
  ∀ (O n d : String) (w : Value), RoadKit.Fld Z h x O n d w → RoadKit.slotOf Z O n d ≠ RoadKit.slotOf Z ST "value" "[B" → RoadKit.slotOf Z O n d ≠ RoadKit.slotOf Z ST "coder" "B" → RoadKit.Fld Z h' x O n d w
/-- **new String(chars) AT A CALL, THE ARRAYS AS LISTS**: the char[] at b holds cs, not empty, no char above 255 -/
theorem backArv {p : Program} {l : Launch} {e : Env} {R : Room} {s : State} {args : Array Value} {below : List Frame} {len W : Nat} {Z : State} {a0 : Array Value} {h : Heap} (hZ : Z.Warmed39 s.vm) (hw : ∀ d ∈ words, d.before a0 Z = true) {kI : Nat} (wi : (Jvm.Cond.instantiable ST kI).before a0 Z = true)
    {x b : Addr} {k : ClassId} {zn z : Int32} {cs : List Int32} {dv v0 c0 : Value} (E : RoadKit.Exa Z h x ST) (V : RoadKit.Fld Z h x ST "value" "[B" v0) (C : RoadKit.Fld Z h x ST "coder" "B" c0) (K : RoadKit.Arv Z h b k .char zn (cs.map Value.int) dv) (S : RoadKit.Sta Z h ST "COMPACT_STRINGS" "Z" (.int z)) (hz : ¬ z = 0)
    (hlen : zn.toNatClampNeg = cs.length) (h0 : 0 < cs.length) (hbig : cs.length ≤ 536870912) (hall : ∀ c ∈ cs, ¬ 255 < c) (hfr : 4 ≤ R.frames) (hlo : W + 65 ≤ R.locals) :
    Back l R p e below s args New1.yN len W (fun P a => a = #[.ref x, .ref b] ∧ P.U.heap = h ∧ P.cells + 1 ≤ R.cells ∧ P.slots + cs.length ≤ R.slots)
      (fun P _ v B => ∃ L, QA Z x zn cs h v B.U.heap L ∧ B.locs = P.locs ++ L ∧ B.cells = P.cells + 1 ∧ B.slots = P.slots + cs.length) := by
  obtain ⟨A, K1, K2, K3, K4, K5, K6⟩ := K
  have e : A.slots.size = cs.length := K3.trans hlen
  have hat : ∀ (i : Nat) (hi : i < cs.length), A.slots[i]? = some (.int cs[i]) := fun i hi => by rw [K5 i (by omega)]; simp [List.getD_eq_getElem?_getD, hi]
  have hcv : ∀ (i : Nat) (hi : i < cs.length), cv A i = cs[i] := fun i hi => by unfold cv; rw [hat i hi]
  have hty : Typed .char A := fun i v hv => by
    have hi : i < A.slots.size := (Array.getElem?_eq_some_iff.mp hv).1
    have q := K5 i hi
    rw [hv] at q
    rw [Option.some.inj q]
    exact K6 i hi
  refine Back.mono (back hZ hw wi E V C K1 hty S hz (by omega) (by omega) (fun i hi => by rw [hcv i (by omega)]; exact hall _ (List.getElem_mem _)) hfr hlo) (fun P a hp => ⟨hp.1, hp.2.1, hp.2.2.1, by rw [e]; exact hp.2.2.2⟩) (fun P a v B hp hq => ?_)
  obtain ⟨L, ⟨q1, q2, q3, q4, q5, q6, q7, ⟨V', v1, v2, v3, v4, v5⟩, q9⟩, hl, hc, hs⟩ := hq
  refine ⟨L, ⟨q1, q2, q3, q4, q5, q6, q7, ⟨V'.cls, v3, V', v1, rfl, by rw [v4, e, hlen], K4, fun i hi => ?_, fun i hi => ?_⟩, q9⟩, hl, hc, by rw [hs, e]⟩
  · have hi' : i < cs.length := by omega
    rw [v5 i (by omega), hcv i hi']; simp [List.getD_eq_getElem?_getD, hi']
  · have hi' : i < cs.length := by omega
    simp only [List.getD_eq_getElem?_getD, List.getElem?_map, List.getElem?_eq_getElem hi', Option.map_some, Option.getD_some]
    exact fits_lo8 _
end StrChars.Road
namespace StrChars.Road
open Jvm Sem ClassFile Op Lib Jvm.Stand Jvm.Free Jvm.Free.XT
/-- WHAT COMES BACK, in the writer's own shape -/
def QV (Z : State) (x : Addr) (N : Int32) (bs : List Int32) (h : Heap) (n0 : Nat) (v : Option Value) (h' : Heap) (L : List Loc) : Prop := v = none ∧ RoadKit.Fr n0 L ∧ RoadKit.Keep h h' [x] ∧ RoadKit.Exa Z h' x ST ∧ RoadKit.Fld Z h' x ST "coder" "B" (.int 0) ∧
  ∃ (t : Addr) (kb : ClassId), n0 ≤ t ∧ h.size ≤ t ∧ ¬ t = x ∧ RoadKit.Fld Z h' x ST "value" "[B" (.ref t) ∧ RoadKit.Arv Z h' t kb .byte N (bs.map Value.int) (.int 0)
/-- **new String(chars) AT A CALL, FOR THE WRITER**: a char[] of n known ints, each 0 to 255 -/
theorem backV {p : Program} {l : Launch} {e : Env} {R : Room} {s : State} {args : Array Value} {below : List Frame} {len W : Nat} {Z : State} {a0 : Array Value} {h : Heap} (hZ : Z.Warmed39 s.vm) (hw : ∀ d ∈ words, d.before a0 Z = true) {kI : Nat} (wi : (Jvm.Cond.instantiable ST kI).before a0 Z = true)
    {x b : Addr} {kC : ClassId} {cs bs : List Int32} {d v0 c0 : Value} {z N : Int32} {n n0 : Nat} (hx0 : n0 ≤ x) (hh0 : n0 ≤ h.size) (E : RoadKit.Exa Z h x ST) (V : RoadKit.Fld Z h x ST "value" "[B" v0) (C : RoadKit.Fld Z h x ST "coder" "B" c0) (K : RoadKit.Arv Z h b kC .char N (cs.map Value.int) d) (S : RoadKit.Sta Z h ST "COMPACT_STRINGS" "Z" (.int z)) (hz : ¬ z = 0)
    (hn : cs.length = n) (hN : N = Int32.ofNat n) (l0 : 0 < n) (l2 : n ≤ 4000) (hp : ∀ c ∈ cs, ¬ c < 0 ∧ ¬ (255 : Int32) < c) (hb : bs = cs.map (fun c => c.toInt8.toInt32)) (hfr : 4 ≤ R.frames) (hlo : W + 65 ≤ R.locals) :
    Back l R p e below s args (⟨"java/lang/String", "<init>", "([C)V"⟩ : MethodName) len W (fun P a => a = #[.ref x, .ref b] ∧ P.U.heap = h ∧ P.cells + 1 ≤ R.cells ∧ P.slots + n ≤ R.slots)
      (fun P _ v B => ∃ L, QV Z x N bs h n0 v B.U.heap L ∧ B.locs = P.locs ++ L ∧ B.cells = P.cells + 1 ∧ B.slots = P.slots + n) := by
  subst hn hN hb
  refine Back.mono (backArv hZ hw wi E V C K S hz (n32 (by omega)) l0 (by omega) (fun c hc => (hp c hc).2) hfr hlo) (fun P a hp => hp) (fun P a v B hp hq => ?_)
  obtain ⟨L, ⟨q1, q2, q3, q4, q5, q6, q7, ⟨kb, v1, v2⟩, q9⟩, hl, hc, hs⟩ := hq
  exact ⟨L, ⟨q1, fun y hy => by rw [q2 y hy]; exact hx0, q3, q5, q7, h.size, kb, hh0, Nat.le_refl _, Nat.ne_of_gt E.lt, q6, by rw [List.map_map]; exact v2⟩, hl, hc, hs⟩
end StrChars.Road
namespace StrChars
open Jvm Sem ClassFile Op Lib Jvm.Stand Jvm.Free.XT Jvm.Free.ALB Jvm.Free.JM Jvm.Free
open Jvm.Lib.Cold (StaticIs)
def hi8 (x : Int32) : Int32 := lo8 (x >>> ((8 : Int32) &&& 31))
/-- what StringUTF16.getChar makes of two bytes -/
def pairCh (u v : Int32) : Int32 := (((u &&& 255) <<< ((0 : Int32) &&& 31)) ||| ((v &&& 255) <<< ((8 : Int32) &&& 31))).toUInt32.toUInt16.toUInt32.toInt32
theorem shr0 (c : Int32) : c >>> ((0 : Int32) &&& 31) = c := by
  have e : ((0 : Int32) &&& 31) = 0 := by decide
  rw [e]
  apply Int32.toBitVec_inj.mp
  rw [Int32.toBitVec_shiftRight]
  have e1 : ((0 : Int32).toBitVec.smod 32) = 0#32 := by decide
  rw [e1, BitVec.sshiftRight_eq']
  exact BitVec.sshiftRight_zero
theorem lo8_and (x : Int32) : (lo8 x &&& 255).toBitVec.toNat = x.toBitVec.toNat % 256 := by
  have h : (lo8 x).toBitVec = (x.toBitVec.signExtend 8).signExtend 32 := by rw [lo8, Int8.toBitVec_toInt32, Int32.toBitVec_toInt8]
  rw [Int32.toBitVec_and, BitVec.toNat_and, h]
  have e : ((x.toBitVec.signExtend 8).signExtend 32).toNat % 256 = x.toBitVec.toNat % 256 := by
    rw [BitVec.toNat_signExtend]
    have hlt := x.toBitVec.isLt
    simp only [BitVec.toNat_setWidth, BitVec.toNat_signExtend]
    split <;> split <;> omega
  rw [← e]
  exact Nat.and_two_pow_sub_one_eq_mod _ 8
theorem pair_says {c : Int32} (h0 : ¬ c < 0) (h1 : ¬ 65535 < c) : pairCh (lo8 c) (hi8 c) = c := by
  rw [Int32.lt_iff_toInt_lt] at h0 h1
  have e0 : (0 : Int32).toInt = 0 := rfl
  have e1 : (65535 : Int32).toInt = 65535 := rfl
  have hc : c.toInt = c.toBitVec.toNat := by
    have := c.toBitVec.isLt
    have e : c.toInt = c.toBitVec.toInt := rfl
    rw [e] at h0 h1
    rw [e]
    rw [BitVec.toInt_eq_toNat_cond] at h0 h1 ⊢
    split at h0 <;> split <;> omega
  have hn : c.toBitVec.toNat < 65536 := by omega
  have a1 := lo8_and c
  have a2 : (hi8 c &&& 255).toBitVec.toNat = c.toBitVec.toNat / 256 := by
    rw [hi8, lo8_and]
    have e : ((8 : Int32) &&& 31) = 8 := by decide
    rw [e, Int32.toBitVec_shiftRight]
    have e2 : ((8 : Int32).toBitVec.smod 32) = 8#32 := by decide
    rw [e2, BitVec.sshiftRight_eq', BitVec.toNat_sshiftRight_of_msb_false (by rw [BitVec.msb_eq_false_iff_two_mul_lt]; omega)]
    show c.toBitVec.toNat >>> 8 % 256 = _
    rw [Nat.shiftRight_eq_div_pow]
    omega
  unfold pairCh
  apply Int32.toBitVec_inj.mp
  apply BitVec.eq_of_toNat_eq
  have f0 : ((0 : Int32) &&& 31) = 0 := by decide
  have f8 : ((8 : Int32) &&& 31) = 8 := by decide
  rw [f0, f8]
  have g : (((lo8 c &&& 255) <<< (0 : Int32)) ||| ((hi8 c &&& 255) <<< (8 : Int32))).toBitVec.toNat = c.toBitVec.toNat := by
    rw [Int32.toBitVec_or, Int32.toBitVec_shiftLeft, Int32.toBitVec_shiftLeft]
    have s0 : ((0 : Int32).toBitVec.smod 32) = 0#32 := by decide
    have s8 : ((8 : Int32).toBitVec.smod 32) = 8#32 := by decide
    rw [s0, s8, BitVec.toNat_or]
    simp only [BitVec.shiftLeft_eq', BitVec.toNat_shiftLeft, a1, a2]
    show (c.toBitVec.toNat % 256) <<< 0 % 2 ^ 32 ||| (c.toBitVec.toNat / 256) <<< 8 % 2 ^ 32 = _
    rw [Nat.shiftLeft_zero, Nat.mod_eq_of_lt (show c.toBitVec.toNat % 256 < 2 ^ 32 by omega), Nat.mod_eq_of_lt (show (c.toBitVec.toNat / 256) <<< 8 < 2 ^ 32 by rw [Nat.shiftLeft_eq]; omega), Nat.or_comm, ← Nat.shiftLeft_add_eq_or_of_lt (by omega), Nat.shiftLeft_eq]
    omega
  show BitVec.toNat (((((lo8 c &&& 255) <<< (0 : Int32)) ||| ((hi8 c &&& 255) <<< (8 : Int32))).toBitVec.setWidth 16).setWidth 32) = _
  rw [BitVec.toNat_setWidth, BitVec.toNat_setWidth, g]
  omega
end StrChars
namespace StrChars
open Jvm Sem ClassFile Op Lib Jvm.Stand Jvm.Free.XT Jvm.Free.ALB Jvm.Free.JM Jvm.Free
open Jvm.Lib.Cold (StaticIs)
theorem shr1 {n : Nat} (h : 2 * n < 2 ^ 31) : Int32.ofNat (2 * n) >>> ((1 : Int32) &&& 31) = Int32.ofNat n := by
  have e : ((1 : Int32) &&& 31) = 1 := by decide
  rw [e]
  apply Int32.toBitVec_inj.mp
  rw [Int32.toBitVec_shiftRight]
  have e1 : ((1 : Int32).toBitVec.smod 32) = 1#32 := by decide
  have hm : (BitVec.ofNat 32 (2 * n)).toNat = 2 * n := by rw [BitVec.toNat_ofNat, Nat.mod_eq_of_lt (by omega)]
  rw [e1, BitVec.sshiftRight_eq']
  apply BitVec.eq_of_toNat_eq
  show ((BitVec.ofNat 32 (2 * n)).sshiftRight 1).toNat = (BitVec.ofNat 32 n).toNat
  rw [BitVec.toNat_sshiftRight_of_msb_false (by rw [BitVec.msb_eq_false_iff_two_mul_lt, hm]; omega), hm, BitVec.toNat_ofNat, Nat.shiftRight_eq_div_pow]
  omega
/-- charAt's cast of a byte read back -/
def chr8 (u : Int32) : Int32 := (u &&& 255).toUInt32.toUInt16.toUInt32.toInt32
theorem chr8_lo8 {c : Int32} (h0 : ¬ c < 0) (h1 : ¬ 255 < c) : chr8 (lo8 c) = c := by
  have t : ∀ k : Fin 256, (Int32.ofNat k.val).toUInt32.toUInt16.toUInt32.toInt32 = Int32.ofNat k.val := by decide +kernel
  unfold chr8
  rw [lo8_mask h0 h1]
  rw [Int32.lt_iff_toInt_lt] at h0 h1
  have e0 : (0 : Int32).toInt = 0 := rfl
  have e1 : (255 : Int32).toInt = 255 := rfl
  obtain ⟨k, hk⟩ : ∃ k : Nat, c.toInt = k := ⟨c.toInt.toNat, by omega⟩
  have hx : c = Int32.ofNat k := Int32.toInt_inj.mp (by rw [hk, Int32.toInt_ofNat_small (by omega)])
  rw [hx]
  exact t ⟨k, by omega⟩
theorem narrow_ch {c : Int32} (h0 : ¬ c < 0) (h1 : ¬ 65535 < c) : narrow .char (.int c) = .int c := by
  have q : narrow .char (.int (pairCh (lo8 c) (hi8 c))) = .int (pairCh (lo8 c) (hi8 c)) := narrow_c _
  rwa [pair_says h0 h1] at q
/-- the array's cell V codes the n chars f 0 .. f (n - 1) by the coder cd, as the JDK does: coder 1 just where some char is above 255 -/
def Cod (cd : Int32) (n : Nat) (f : Nat → Int32) (V : Cell) : Prop := (cd = 0 ∧ V.slots.size = n ∧ ∀ j, j < n → V.slots[j]? = some (.int (lo8 (f j))) ∧ ¬ 255 < f j) ∨ (cd = 1 ∧ V.slots.size = 2 * n ∧ (∀ j, j < n → V.slots[2 * j]? = some (.int (lo8 (f j))) ∧ V.slots[2 * j + 1]? = some (.int (hi8 (f j)))) ∧ ∃ j, j < n ∧ 255 < f j)
theorem Cod.cd {cd : Int32} {n : Nat} {f : Nat → Int32} {V : Cell} (h : Cod cd n f V) : cd = 0 ∨ cd = 1 := h.imp (fun q => q.1) fun q => q.1
theorem Cod.len {cd : Int32} {n : Nat} {f : Nat → Int32} {V : Cell} (h : Cod cd n f V) (hs : V.slots.size < 2 ^ 31) : Int32.ofNat V.slots.size >>> (cd &&& 31) = Int32.ofNat n := by
  rcases h with ⟨rfl, h, -⟩ | ⟨rfl, h, -⟩
  · rw [shr0, h]
  · rw [h, shr1 (by omega)]
/-- **x is a String of the n chars f 0 .. f (n - 1)**, Latin-1 or UTF-16; its array at t has the cell V -/
def Txt (x t : Addr) (V : Cell) (cd : Int32) (n : Nat) (f : Nat → Int32) (U : State) : Prop := Exact "java/lang/String" x U ∧ Has x "java/lang/String" "value" "[B" (.ref t) U ∧ Has x "java/lang/String" "coder" "B" (.int cd) U ∧ XT.Arr .byte t V U ∧ Cod cd n f V ∧ ∀ j, j < n → ¬ f j < 0 ∧ ¬ 65535 < f j
theorem Txt.mv {x t : Addr} {V : Cell} {cd : Int32} {n : Nat} {f : Nat → Int32} {U U' : State} (h : Txt x t V cd n f U) (hal : U.vm.Alike U'.vm) (hh : U'.heap = U.heap) : Txt x t V cd n f U' := ⟨h.1.mv hal hh, h.2.1.mv hal hh, h.2.2.1.mv hal hh, h.2.2.2.1.mv hal hh, h.2.2.2.2⟩
namespace Cdr
def yN : MethodName := ⟨"java/lang/String", "coder", "()B"⟩
abbrev yB : ByteArray := jdk_42_method_152_code
theorem d0 : decode yB 0 = .ok (.getstatic 38, 3) := by decide +kernel
theorem d3 : decode yB 3 = .ok (.ifCond (.eq) 10, 3) := by decide +kernel
theorem d6 : decode yB 6 = .ok (.aload_n 0, 1) := by decide +kernel
theorem d7 : decode yB 7 = .ok (.getfield 15, 3) := by decide +kernel
theorem d10 : decode yB 10 = .ok (.goto 4, 3) := by decide +kernel
theorem d14 : decode yB 14 = .ok (.ireturn, 1) := by decide +kernel
def site : List Cond := [.fieldLink "java/lang/String" 38 "java/lang/String" "COMPACT_STRINGS" "Z", .fieldLink "java/lang/String" 15 "java/lang/String" "coder" "B"]
def tab : Cond := tabOf yN yB 1 (some .byte) site
def P (x : Addr) (cd z : Int32) (args : Array Value) (s : State) : Prop := args = #[.ref x] ∧ Has x "java/lang/String" "coder" "B" (.int cd) s ∧ (cd = 0 ∨ cd = 1) ∧ StaticIs s "java/lang/String" "COMPACT_STRINGS" "Z" (.int z) ∧ ¬ z = 0
def E (cd : Int32) (r : Option Value) (s u : State) : Prop := XT.PureE (some (.int cd)) r s u
theorem law (l : Launch) (x : Addr) (cd z : Int32) : Law l yN 1 0 0 0 yB 1 (some .byte) site (P x cd z) (E cd) [] 0 0 := by
  refine Law.of_walk (plainFor_of_name (by decide +kernel)) (by decide +kernel) (by decide +kernel) (by decide) (fun _ _ h => by rw [h.1]; rfl) (fun _ U U' hal hh h => ⟨h.1, h.2.1.mv hal hh, h.2.2.1, h.2.2.2.1.there hal hh, h.2.2.2.2⟩) (fun r U U' V V' h1 hal h2 h => XT.PureE.mv r U U' V V' h1 hal h2 h) ?_
  intro p e s m args below meth c s₁ X0 hexec hbytes hml hret hlk hnm hown hh0 W hP
  obtain ⟨rfl, hx, hc, s1, hz⟩ := hP
  have c1 : Steps p.tables e below (s₁.setTop (entryFrame m #[.ref x] 1)) (s₁.setTop (mkF m 0 #[.val (.ref x)] [])) := entry rfl
  obtain ⟨T2, X2, q2, st2⟩ := X0.sget hexec hown (wk W (.fieldLink "java/lang/String" 38 "java/lang/String" "COMPACT_STRINGS" "Z")) s1 (fun _ _ h => by rw [hh0]; exact h) (g := (mkF m 0 #[.val (.ref x)] [])) rfl (hb hbytes d0)
  have hh2 := q2.trans hh0
  have c3 : Steps p.tables e below (s₁.setTop (entryFrame m #[.ref x] 1)) (T2.setTop (mkF m 7 #[.val (.ref x)] [.ref x])) := (c1.trans (st2 _ (Steps.refl _))).trans (by
    refine XS.ifNo X2.here hexec rfl (hb hbytes d3) rfl (i0_eq_f hz) ?_
    refine XS.aloadN X2.here hexec rfl (hb hbytes d6) rfl rfl ?_
    exact Steps.refl _)
  obtain ⟨T4, X4, q4, st4⟩ := X2.hget hexec hown (wk W (.fieldLink "java/lang/String" 15 "java/lang/String" "coder" "B")) (hx.mv X2.warmed.alike hh2) (g := (mkF m 7 #[.val (.ref x)] [.ref x])) rfl (rest := []) rfl (hb hbytes d7)
  have c5 : Steps p.tables e below (s₁.setTop (entryFrame m #[.ref x] 1)) (T4.setTop (mkF m 14 #[.val (.ref x)] [.int cd])) := (c3.trans (st4 _ (Steps.refl _))).trans (by
    refine XS.goto X4.here hexec rfl (pc0 := 10) rfl (hb hbytes d10) (by decide) rfl ?_
    exact Steps.refl _)
  exact ⟨T4, some (.int cd), _, _, _, X4, rfl, rfl, rfl, (fun h => by cases h), ⟨rfl, q4.trans hh2⟩, fun fs hl => c5.trans (X4.ireturnOut hexec hret (by rcases hc with rfl | rfl <;> rfl) (Or.inr (Or.inr (Or.inl rfl))) (hb hbytes d14) hl)⟩
end Cdr
namespace Len
def yN : MethodName := ⟨"java/lang/String", "length", "()I"⟩
abbrev yB : ByteArray := jdk_42_method_54_code
theorem d0 : decode yB 0 = .ok (.aload_n 0, 1) := by decide +kernel
theorem d1 : decode yB 1 = .ok (.getfield 9, 3) := by decide +kernel
theorem d4 : decode yB 4 = .ok (.arraylength, 1) := by decide +kernel
theorem d5 : decode yB 5 = .ok (.aload_n 0, 1) := by decide +kernel
theorem d6 : decode yB 6 = .ok (.invokevirtual 335, 3) := by decide +kernel
theorem d9 : decode yB 9 = .ok (.ishr, 1) := by decide +kernel
theorem d10 : decode yB 10 = .ok (.ireturn, 1) := by decide +kernel
def site : List Cond := [.fieldLink "java/lang/String" 9 "java/lang/String" "value" "[B", Cdr.tab] ++ virtW "java/lang/String" 335 "java/lang/String" Cdr.yN Cdr.yN
def tab : Cond := tabOf yN yB 1 (some .int) site
def P (x t : Addr) (V : Cell) (cd : Int32) (n : Nat) (f : Nat → Int32) (z : Int32) (args : Array Value) (s : State) : Prop := args = #[.ref x] ∧ Txt x t V cd n f s ∧ StaticIs s "java/lang/String" "COMPACT_STRINGS" "Z" (.int z) ∧ ¬ z = 0
def E (n : Nat) (r : Option Value) (s u : State) : Prop := XT.PureE (some (.int (Int32.ofNat n))) r s u
/-- length() of a String of n chars, in either coding -/
theorem law (l : Launch) (x t : Addr) (V : Cell) (cd : Int32) (n : Nat) (f : Nat → Int32) (z : Int32) : Law l yN 1 0 1 13 yB 1 (some .int) site (P x t V cd n f z) (E n) [] 0 0 := by
  refine Law.of_walk (plainFor_of_name (by decide +kernel)) (by decide +kernel) (by decide +kernel) (by decide) (fun _ _ h => by rw [h.1]; rfl) (fun _ U U' hal hh h => ⟨h.1, h.2.1.mv hal hh, h.2.2.1.there hal hh, h.2.2.2⟩) (fun r U U' V V' h1 hal h2 h => XT.PureE.mv r U U' V V' h1 hal h2 h) ?_
  intro p e s m args below meth c s₁ X0 hexec hbytes hml hret hlk hnm hown hh0 W hP
  obtain ⟨rfl, hx, s1, hz⟩ := hP
  have v31 := hx.2.2.2.1.2.2.2
  have c1 : Steps p.tables e below (s₁.setTop (entryFrame m #[.ref x] 1)) (s₁.setTop (mkF m 1 #[.val (.ref x)] [.ref x])) := Steps.trans (entry rfl) (by
    show Steps p.tables e below (s₁.setTop (mkF m 0 #[.val (.ref x)] [])) _
    refine XS.aloadN X0.here hexec rfl (hb hbytes d0) rfl rfl ?_
    exact Steps.refl _)
  obtain ⟨T2, X2, q2, st2⟩ := X0.hget hexec hown (wk W (.fieldLink "java/lang/String" 9 "java/lang/String" "value" "[B")) (hx.mv X0.warmed.alike hh0).2.1 (g := (mkF m 1 #[.val (.ref x)] [.ref x])) rfl (rest := []) rfl (hb hbytes d1)
  have hh2 := q2.trans hh0
  have hx2 := hx.mv X2.warmed.alike hh2
  have c3 : Steps p.tables e below (s₁.setTop (entryFrame m #[.ref x] 1)) (T2.setTop (mkF m 6 #[.val (.ref x)] [.ref x, .int (Int32.ofNat V.slots.size)])) := (c1.trans (st2 _ (Steps.refl _))).trans (by
    refine X2.alen hexec hx2.2.2.2.1 rfl rfl (hb hbytes d4) ?_
    refine XS.aloadN X2.here hexec rfl (hb hbytes d5) rfl rfl ?_
    exact Steps.refl _)
  obtain ⟨v4, T4, X4, E4, g4⟩ := X2.callV hexec (Cdr.law l x cd z) hown (wks W (virtW "java/lang/String" 335 "java/lang/String" Cdr.yN Cdr.yN)) rfl (by decide) (wk W Cdr.tab) (W := 1) (Nat.le_of_ble_eq_true rfl) (Nat.le_of_ble_eq_true rfl) (Nat.le_refl _) (Nat.le_refl _) (hx2.1.fc X2.warmed.alike) hx2.1.is (g := (mkF m 6 #[.val (.ref x)] [.ref x, .int (Int32.ofNat V.slots.size)])) rfl (by rw [hml]; rfl) c3 (argsL := []) (rest := [.int (Int32.ofNat V.slots.size)]) rfl rfl (by show 2 * 0 + (1 + 0) ≤ _; decide) (hb hbytes d6) (⟨rfl, hx2.2.2.1, hx.2.2.2.2.1.cd, s1.there X2.warmed.alike hh2, hz⟩)
  obtain ⟨rfl, q4⟩ := E4
  have c5 : Steps p.tables e below (s₁.setTop (entryFrame m #[.ref x] 1)) (T4.setTop (mkF m 10 #[.val (.ref x)] [.int (Int32.ofNat V.slots.size >>> (cd &&& 31))])) := Steps.trans g4 (by
    refine ishr X4.here hexec rfl (hb hbytes d9) rfl ?_
    exact Steps.refl _)
  rw [hx.2.2.2.2.1.len v31] at c5
  exact ⟨T4, some (.int (Int32.ofNat n)), _, _, _, X4, rfl, rfl, rfl, (fun h => by cases h), ⟨rfl, q4.trans hh2⟩, fun fs hl => c5.trans (X4.ireturnOut hexec hret rfl (Or.inl rfl) (hb hbytes d10) hl)⟩
theorem pays {l : Launch} {R : Room} {p : Program} {e : Env} {below : List Frame} {s : State} {sargs : Array Value} {len W : Nat} (x t : Addr) (V : Cell) (cd : Int32) (n : Nat) (f : Nat → Int32) (z : Int32) (htab : tab.before sargs s = true) (hfr : 2 ≤ R.frames) (hlo : W + 25 ≤ R.locals) :
    Back l R p e below s sargs yN len W (fun A₁ a₁ => A₁.cells + 0 ≤ R.cells ∧ A₁.slots + 0 ≤ R.slots ∧ P x t V cd n f z a₁ A₁.U) (fun A₁ _ v₁ B₁ => E n v₁ A₁.U B₁.U ∧ B₁.locs = A₁.locs ++ [] ∧ B₁.cells = A₁.cells + 0 ∧ B₁.slots = A₁.slots + 0) :=
  (law l x t V cd n f z).pays htab hfr (by omega)
end Len
namespace IsL
def yN : MethodName := ⟨"java/lang/String", "isLatin1", "()Z"⟩
abbrev yB : ByteArray := jdk_42_method_154_code
theorem d0 : decode yB 0 = .ok (.getstatic 38, 3) := by decide +kernel
theorem d3 : decode yB 3 = .ok (.ifCond (.eq) 14, 3) := by decide +kernel
theorem d6 : decode yB 6 = .ok (.aload_n 0, 1) := by decide +kernel
theorem d7 : decode yB 7 = .ok (.getfield 15, 3) := by decide +kernel
theorem d10 : decode yB 10 = .ok (.ifCond (.ne) 7, 3) := by decide +kernel
theorem d13 : decode yB 13 = .ok (.iconst 1, 1) := by decide +kernel
theorem d14 : decode yB 14 = .ok (.goto 4, 3) := by decide +kernel
theorem d17 : decode yB 17 = .ok (.iconst 0, 1) := by decide +kernel
theorem d18 : decode yB 18 = .ok (.ireturn, 1) := by decide +kernel
def site : List Cond := [.fieldLink "java/lang/String" 38 "java/lang/String" "COMPACT_STRINGS" "Z", .fieldLink "java/lang/String" 15 "java/lang/String" "coder" "B"]
def tab : Cond := tabOf yN yB 1 (some .boolean) site
def P (x : Addr) (cd z : Int32) (args : Array Value) (s : State) : Prop := args = #[.ref x] ∧ Has x "java/lang/String" "coder" "B" (.int cd) s ∧ (cd = 0 ∨ cd = 1) ∧ StaticIs s "java/lang/String" "COMPACT_STRINGS" "Z" (.int z) ∧ ¬ z = 0
def E (cd : Int32) (r : Option Value) (s u : State) : Prop := XT.PureE (some (.int (1 - cd))) r s u
theorem law (l : Launch) (x : Addr) (cd z : Int32) : Law l yN 1 0 0 0 yB 1 (some .boolean) site (P x cd z) (E cd) [] 0 0 := by
  refine Law.of_walk (plainFor_of_name (by decide +kernel)) (by decide +kernel) (by decide +kernel) (by decide) (fun _ _ h => by rw [h.1]; rfl) (fun _ U U' hal hh h => ⟨h.1, h.2.1.mv hal hh, h.2.2.1, h.2.2.2.1.there hal hh, h.2.2.2.2⟩) (fun r U U' V V' h1 hal h2 h => XT.PureE.mv r U U' V V' h1 hal h2 h) ?_
  intro p e s m args below meth c s₁ X0 hexec hbytes hml hret hlk hnm hown hh0 W hP
  obtain ⟨rfl, hx, hc, s1, hz⟩ := hP
  have c1 : Steps p.tables e below (s₁.setTop (entryFrame m #[.ref x] 1)) (s₁.setTop (mkF m 0 #[.val (.ref x)] [])) := entry rfl
  obtain ⟨T2, X2, q2, st2⟩ := X0.sget hexec hown (wk W (.fieldLink "java/lang/String" 38 "java/lang/String" "COMPACT_STRINGS" "Z")) s1 (fun _ _ h => by rw [hh0]; exact h) (g := (mkF m 0 #[.val (.ref x)] [])) rfl (hb hbytes d0)
  have hh2 := q2.trans hh0
  have c3 : Steps p.tables e below (s₁.setTop (entryFrame m #[.ref x] 1)) (T2.setTop (mkF m 7 #[.val (.ref x)] [.ref x])) := (c1.trans (st2 _ (Steps.refl _))).trans (by
    refine XS.ifNo X2.here hexec rfl (hb hbytes d3) rfl (i0_eq_f hz) ?_
    refine XS.aloadN X2.here hexec rfl (hb hbytes d6) rfl rfl ?_
    exact Steps.refl _)
  obtain ⟨T4, X4, q4, st4⟩ := X2.hget hexec hown (wk W (.fieldLink "java/lang/String" 15 "java/lang/String" "coder" "B")) (hx.mv X2.warmed.alike hh2) (g := (mkF m 7 #[.val (.ref x)] [.ref x])) rfl (rest := []) rfl (hb hbytes d7)
  have c5 : Steps p.tables e below (s₁.setTop (entryFrame m #[.ref x] 1)) (T4.setTop (mkF m 10 #[.val (.ref x)] [.int cd])) := c3.trans (st4 _ (Steps.refl _))
  have c6 : Steps p.tables e below (s₁.setTop (entryFrame m #[.ref x] 1)) (T4.setTop (mkF m 18 #[.val (.ref x)] [.int (1 - cd)])) := by
    rcases hc with rfl | rfl
    · exact c5.trans (by
        refine XS.ifNo X4.here hexec rfl (hb hbytes d10) rfl (i0_ne_f rfl) ?_
        refine iconstV X4.here hexec rfl 1 (hb hbytes d13) (by decide) ?_
        refine XS.goto X4.here hexec rfl (pc0 := 14) rfl (hb hbytes d14) (by decide) rfl ?_
        exact Steps.refl _)
    · exact c5.trans (by
        refine XS.ifYes X4.here hexec rfl (pc0 := 10) rfl (hb hbytes d10) rfl (i0_ne_t (by decide)) (by decide) rfl ?_
        refine iconstV X4.here hexec rfl 0 (hb hbytes d17) (by decide) ?_
        exact Steps.refl _)
  exact ⟨T4, some (.int (1 - cd)), _, _, _, X4, rfl, rfl, rfl, (fun h => by cases h), ⟨rfl, q4.trans hh2⟩, fun fs hl => c6.trans (X4.ireturnOut hexec hret (by rcases hc with rfl | rfl <;> rfl) (Or.inr (Or.inl rfl)) (hb hbytes d18) hl)⟩
end IsL
namespace LChA
def yN : MethodName := ⟨"java/lang/StringLatin1", "charAt", "([BI)C"⟩
abbrev yB : ByteArray := jdk_43_method_2_code
theorem d0 : decode yB 0 = .ok (.iload_n 1, 1) := by decide +kernel
theorem d1 : decode yB 1 = .ok (.aload_n 0, 1) := by decide +kernel
theorem d2 : decode yB 2 = .ok (.arraylength, 1) := by decide +kernel
theorem d3 : decode yB 3 = .ok (.invokestatic 9, 3) := by decide +kernel
theorem d6 : decode yB 6 = .ok (.aload_n 0, 1) := by decide +kernel
theorem d7 : decode yB 7 = .ok (.iload_n 1, 1) := by decide +kernel
theorem d8 : decode yB 8 = .ok (.baload, 1) := by decide +kernel
theorem d9 : decode yB 9 = .ok (.sipush 255, 3) := by decide +kernel
theorem d12 : decode yB 12 = .ok (.iand, 1) := by decide +kernel
theorem d13 : decode yB 13 = .ok (.i2c, 1) := by decide +kernel
theorem d14 : decode yB 14 = .ok (.ireturn, 1) := by decide +kernel
def site : List Cond := [JO.Str_checkIndex.tab] ++ staticW "java/lang/StringLatin1" 9 JO.Str_checkIndex.yN
def tab : Cond := tabOf yN yB 2 (some .char) site
def P (t : Addr) (V : Cell) (i : Nat) (u : Int32) (fm : Value) (args : Array Value) (s : State) : Prop := args = #[.ref t, .int (Int32.ofNat i)] ∧ XT.Arr .byte t V s ∧ V.slots[i]? = some (.int u) ∧ (StaticIs s "jdk/internal/util/Preconditions" "SIOOBE_FORMATTER" "Ljava/util/function/BiFunction;" fm ∧ fm.isRef = true)
def E (u : Int32) (r : Option Value) (s w : State) : Prop := XT.PureE (some (.int (chr8 u))) r s w
theorem law (l : Launch) (t : Addr) (V : Cell) (i : Nat) (u : Int32) (fm : Value) : Law l yN 2 2 2 27 yB 2 (some .char) site (P t V i u fm) (E u) [] 0 0 := by
  refine Law.of_walk (plainFor_of_name (by decide +kernel)) (by decide +kernel) (by decide +kernel) (by decide) (fun _ _ h => by rw [h.1]; rfl) (fun _ U U' hal hh h => ⟨h.1, h.2.1.mv hal hh, h.2.2.1, h.2.2.2.1.there hal hh, h.2.2.2.2⟩) (fun r U U' V V' h1 hal h2 h => XT.PureE.mv r U U' V V' h1 hal h2 h) ?_
  intro p e s m args below meth c s₁ X0 hexec hbytes hml hret hlk hnm hown hh0 W hP
  obtain ⟨rfl, hV, hu, s1, rf⟩ := hP
  have v31 := hV.2.2.2
  have hi : i < V.slots.size := (Array.getElem?_eq_some_iff.mp hu).1
  have c1 : Steps p.tables e below (s₁.setTop (entryFrame m #[.ref t, .int (Int32.ofNat i)] 2)) (s₁.setTop (mkF m 0 #[.val (.ref t), .val (.int (Int32.ofNat i))] [])) := entry rfl
  have c2 : Steps p.tables e below (s₁.setTop (entryFrame m #[.ref t, .int (Int32.ofNat i)] 2)) (s₁.setTop (mkF m 3 #[.val (.ref t), .val (.int (Int32.ofNat i))] [.int (Int32.ofNat V.slots.size), .int (Int32.ofNat i)])) := c1.trans (by
    refine XS.iloadN X0.here hexec rfl (hb hbytes d0) rfl ?_
    refine XS.aloadN X0.here hexec rfl (hb hbytes d1) rfl rfl ?_
    refine X0.alen hexec (hV.mv X0.warmed.alike hh0) rfl rfl (hb hbytes d2) ?_
    exact Steps.refl _)
  obtain ⟨v3, T3, X3, E3, g3⟩ := X0.callS hexec (JO.Str_checkIndex.law l (Int32.ofNat i) (Int32.ofNat V.slots.size) fm) hown (wks W (staticW "java/lang/StringLatin1" 9 JO.Str_checkIndex.yN)) (wk W JO.Str_checkIndex.tab) (W := 0) (Nat.le_of_ble_eq_true rfl) (Nat.le_of_ble_eq_true rfl) (Nat.le_refl _) (Nat.le_refl _) (g := (mkF m 3 #[.val (.ref t), .val (.int (Int32.ofNat i))] [.int (Int32.ofNat V.slots.size), .int (Int32.ofNat i)])) rfl (by rw [hml]; rfl) c2 (argsL := [.int (Int32.ofNat i), .int (Int32.ofNat V.slots.size)]) (rest := []) rfl rfl (by show 2 * 0 + 0 ≤ _; decide) (hb hbytes d3) (⟨rfl, rf, s1.there X0.warmed.alike hh0, Int32.ofNat_not_neg (by omega), lt32 v31 hi⟩)
  obtain ⟨rfl, q3⟩ := E3
  have hh3 := q3.trans hh0
  have c4 : Steps p.tables e below (s₁.setTop (entryFrame m #[.ref t, .int (Int32.ofNat i)] 2)) (T3.setTop (mkF m 14 #[.val (.ref t), .val (.int (Int32.ofNat i))] [.int (chr8 u)])) := Steps.trans g3 (by
    refine XS.aloadN X3.here hexec rfl (hb hbytes d6) rfl rfl ?_
    refine XS.iloadN X3.here hexec rfl (hb hbytes d7) rfl ?_
    refine X3.aget hexec (hV.mv X3.warmed.alike hh3) rfl hu rfl rfl (hb hbytes d8) ?_
    refine sipushV X3.here hexec rfl 255 (hb hbytes d9) (by decide) ?_
    refine XS.iand X3.here hexec rfl (hb hbytes d12) rfl ?_
    refine i2c X3.here hexec rfl (hb hbytes d13) rfl ?_
    exact Steps.refl _)
  exact ⟨T3, some (.int (chr8 u)), _, _, _, X3, rfl, rfl, rfl, (fun h => by cases h), ⟨rfl, hh3⟩, fun fs hl => c4.trans (X3.ireturnOut hexec hret (narrow_c _) (Or.inr (Or.inr (Or.inr (Or.inl rfl)))) (hb hbytes d14) hl)⟩
end LChA
end StrChars
namespace StrChars.Road
open Jvm Sem ClassFile Op Lib Jvm.Stand Jvm.Free Jvm.Free.XT
open Jvm.Lib.Cold (StaticIs)
theorem consq {a : Array Value} {s : State} {c : Jvm.Cond} {L : List Jvm.Cond} (h0 : c.before a s = true) (h : ∀ w ∈ L, w.before a s = true) : ∀ w ∈ c :: L, w.before a s = true := fun w hw => (List.mem_cons.mp hw).elim (fun e => e ▸ h0) (h w)
/-- the words of String.length(), either coding -/
abbrev wordsLen : List Jvm.Cond := [.code Len.yN Len.yB 1 (some .int), .initialized ST, .fieldLink ST 9 ST "value" "[B", .fieldLink ST 38 ST "COMPACT_STRINGS" "Z", .fieldLink ST 15 ST "coder" "B", .code Cdr.yN Cdr.yB 1 (some .byte), .methodLink ST 335 Cdr.yN, .declares Cdr.yN, .selects ST Cdr.yN Cdr.yN, .instanceMethod Cdr.yN]
theorem tabLen_of {a : Array Value} {s : State} (h : ∀ w ∈ wordsLen, w.before a s = true) : Len.tab.before a s = true := by
  have hc : Cdr.tab.before a s = true := unparts (wk h (.code Cdr.yN Cdr.yB 1 (some .byte))) (wks h (.initialized Cdr.yN.cls :: Cdr.site))
  have q := consq hc h
  exact unparts (wk q (.code Len.yN Len.yB 1 (some .int))) (wks q (.initialized Len.yN.cls :: Len.site))
theorem movedLen {Z s : State} {a0 args : Array Value} (hZ : Z.Warmed39 s.vm) (hw : ∀ d ∈ wordsLen, d.before a0 Z = true) : ∀ d ∈ wordsLen, d.before args s = true := fun d hd => by
  have q := hw d hd
  have t : ∀ d ∈ wordsLen, d = .arrayClass .byte ∨ (d.onTables && d.keepsFace) = true := by decide +kernel
  rcases t d hd with rfl | t
  · exact RoadKit.mvA hZ q
  · exact RoadKit.mv hZ q t
/-- the bytes of the chars cs, low before high -/
def wideBytes : List Int32 → List Value
  | [] => []
  | c :: cs => .int (lo8 c) :: .int (hi8 c) :: wideBytes cs
theorem wide_lo (d : Value) : ∀ (cs : List Int32) (j : Nat), j < cs.length → (wideBytes cs).getD (2 * j) d = .int (lo8 (cs.getD j 0))
  | [], j, h => absurd h (Nat.not_lt_zero j)
  | c :: cs, 0, _ => rfl
  | c :: cs, j + 1, h => by
    have q := wide_lo d cs j (by simpa using h)
    rw [show 2 * (j + 1) = 2 * j + 1 + 1 from by omega]
    simpa [wideBytes] using q
theorem wide_hi (d : Value) : ∀ (cs : List Int32) (j : Nat), j < cs.length → (wideBytes cs).getD (2 * j + 1) d = .int (hi8 (cs.getD j 0))
  | [], j, h => absurd h (Nat.not_lt_zero j)
  | c :: cs, 0, _ => rfl
  | c :: cs, j + 1, h => by
    have q := wide_hi d cs j (by simpa using h)
    rw [show 2 * (j + 1) + 1 = 2 * j + 1 + 1 + 1 from by omega]
    simpa [wideBytes] using q
theorem low_at (d : Value) (cs : List Int32) (j : Nat) (h : j < cs.length) : (cs.map fun c => Value.int (lo8 c)).getD j d = .int (lo8 (cs.getD j 0)) := by
  simp [List.getD_eq_getElem?_getD, h]
/-- an array of N2 bytes vs codes the chars cs by the coder cd -/
def CodA (cs : List Int32) (cd N2 : Int32) (vs : List Value) : Prop := (cd = 0 ∧ N2 = Int32.ofNat cs.length ∧ vs = (cs.map fun c => Value.int (lo8 c)) ∧ ∀ c ∈ cs, ¬ 255 < c) ∨ (cd = 1 ∧ N2 = Int32.ofNat (2 * cs.length) ∧ vs = wideBytes cs ∧ ∃ c ∈ cs, 255 < c)
theorem CodA.cod {cs : List Int32} {cd N2 : Int32} {vs : List Value} {V : Cell} (h : CodA cs cd N2 vs) (hn : 2 * cs.length < 2 ^ 31) (hs : V.slots.size = N2.toNatClampNeg) (hv : RoadKit.Has V vs (.int 0)) : Cod cd cs.length (fun j => cs.getD j 0) V := by
  rcases h with ⟨rfl, rfl, rfl, h⟩ | ⟨rfl, rfl, rfl, c, hc, hw⟩
  · rw [n32 (by omega)] at hs
    exact Or.inl ⟨rfl, hs, fun j hj => ⟨by rw [hv j (by omega), low_at _ _ _ hj], by
      have e : cs.getD j 0 = cs[j] := by simp [List.getD_eq_getElem?_getD, hj]
      show ¬ 255 < cs.getD j 0
      rw [e]; exact h _ (List.getElem_mem _)⟩⟩
  · rw [n32 (by omega)] at hs
    obtain ⟨j, hj, rfl⟩ := List.getElem_of_mem hc
    exact Or.inr ⟨rfl, hs, fun j hj => ⟨by rw [hv _ (by omega), wide_lo _ _ _ hj], by rw [hv _ (by omega), wide_hi _ _ _ hj]⟩, j, hj, by
      have e : cs.getD j 0 = cs[j] := by simp [List.getD_eq_getElem?_getD, hj]
      show 255 < cs.getD j 0
      rw [e]; exact hw⟩
/-- an object of exactly java/lang/String, its two fields found: as the laws ask it -/
theorem strObj {Z U : State} {a0 : Array Value} {kI : Nat} (wi : (Jvm.Cond.instantiable ST kI).before a0 Z = true) (al : Z.vm.Alike U.vm) {x : Addr} {v0 c0 : Value} (E : RoadKit.Exa Z U.heap x ST) (V : RoadKit.Fld Z U.heap x ST "value" "[B" v0) (C : RoadKit.Fld Z U.heap x ST "coder" "B" c0) :
    ∃ (D : Cell) (fV fC : Field), Blank ST x D U ∧ Found ST "value" "[B" fV U ∧ Found ST "coder" "B" fC U ∧ D.slots[fV.slot]? = some v0 ∧ D.slots[fC.slot]? = some c0 ∧ RoadKit.slotOf Z ST "value" "[B" = fV.slot ∧ RoadKit.slotOf Z ST "coder" "B" = fC.slot := by
  obtain ⟨D, cfV, kV, iV, fV, hD, gV, stV, knV, obV, asV, slV⟩ := V
  obtain ⟨D', cfC, kC, iC, fC, hD', gC, stC, -, -, asC, slC⟩ := C
  cases hD.symm.trans hD'
  obtain ⟨D2, kD, e1, e2, e3, e4, e5⟩ := E
  cases hD.symm.trans e1
  obtain ⟨c2, k2, i1, i2, i3, -⟩ := Cond.instantiable_spec wi
  cases e2.symm.trans i1
  cases e3.symm.trans i2
  obtain ⟨kU, u1, u2⟩ := al.2.2 _ _ e3
  exact ⟨D, fV, fC, ⟨hD, ⟨knV, fun q hq => by rw [hq] at obV; cases obV⟩, by rw [al.findClass]; exact e2, kU, u1, by rw [u2]; exact i3, by rw [u2]; exact e5 i3⟩, ⟨SBG.found_only al ⟨cfV, kV, iV, gV⟩, stV⟩, ⟨SBG.found_only al ⟨cfC, kC, iC, gC⟩, stC⟩, slV, slC, by simp [RoadKit.slotOf, gV], by simp [RoadKit.slotOf, gC]⟩
theorem sta_is {Z U : State} (al : Z.vm.Alike U.vm) {C n d : String} {v : Value} (S : RoadKit.Sta Z U.heap C n d v) : StaticIs U C n d v := by
  obtain ⟨cfS, iS, kS, fS, st, cS, t1, t2, t3, t4, t5, t6, t7⟩ := S
  exact StaticIs.there (s := { Z with heap := U.heap }) ⟨cfS, iS, kS, fS, st, cS, t1, t2, t3, t4, t5, (fun q => by rw [q] at t6; cases t6), t7⟩ al rfl
/-- **length() OF SUCH A STRING** -/
theorem lenW {p : Program} {l : Launch} {e : Env} {R : Room} {s : State} {args : Array Value} {below : List Frame} {len W : Nat} {Z : State} {a0 : Array Value} {h : Heap} (hZ : Z.Warmed39 s.vm) (hw : ∀ d ∈ wordsLen, d.before a0 Z = true) {kI : Nat} (wi : (Jvm.Cond.instantiable ST kI).before a0 Z = true)
    {x t : Addr} {kb : ClassId} {cs : List Int32} {cd N2 z : Int32} {vs : List Value} (E : RoadKit.Exa Z h x ST) (V : RoadKit.Fld Z h x ST "value" "[B" (.ref t)) (C : RoadKit.Fld Z h x ST "coder" "B" (.int cd)) (K : RoadKit.Arv Z h t kb .byte N2 vs (.int 0)) (hc : CodA cs cd N2 vs) (hb : ∀ c ∈ cs, ¬ c < 0 ∧ ¬ (65535 : Int32) < c)
    (S : RoadKit.Sta Z h ST "COMPACT_STRINGS" "Z" (.int z)) (hz : ¬ z = 0) (l2 : cs.length ≤ 4000) (hfr : 2 ≤ R.frames) (hlo : W + 25 ≤ R.locals) :
    Back l R p e below s args (⟨"java/lang/String", "length", "()I"⟩ : MethodName) len W (fun P a => a = #[.ref x] ∧ P.U.heap = h ∧ P.cells + 0 ≤ R.cells ∧ P.slots + 0 ≤ R.slots)
      (fun P _ v B => ∃ L, (v = some (.int (Int32.ofNat cs.length)) ∧ L = [] ∧ B.U.heap = h) ∧ B.locs = P.locs ++ L ∧ B.cells = P.cells + 0 ∧ B.slots = P.slots + 0) := by
  obtain ⟨A, K1, K2, K3, K4, K5, K6⟩ := K
  have hcod := hc.cod (by omega) K3 K5
  intro m meth c P g ig mk a X hg hsize hdg hW hn hp'
  obtain ⟨rfl, rfl, r1, r2⟩ := hp'
  have al : Z.vm.Alike P.U.vm := hZ.alike.trans X.warmed.alike
  obtain ⟨D, fV, fC, hB, F1, F2, g1, g2, -, -⟩ := strObj wi al E V C
  have hx : Txt x t A cd cs.length (fun j => cs.getD j 0) P.U := ⟨⟨_, hB.2.2.1, D, hB.1, rfl, by cases q : D.vm <;> first | rfl | exact absurd q (hB.2.1.2 _)⟩, Has.of hB F1 g1, Has.of hB F2 g2, ⟨K1.1, State.isArrayOf_alike al K1.2.1, K1.2.2, by rcases hcod with ⟨-, q, -⟩ | ⟨-, q, -⟩ <;> omega⟩, hcod, fun j hj => by
    have e : cs.getD j 0 = cs[j] := by simp [List.getD_eq_getElem?_getD, hj]
    show ¬ cs.getD j 0 < 0 ∧ ¬ 65535 < cs.getD j 0
    rw [e]; exact hb _ (List.getElem_mem _)⟩
  obtain ⟨v, B, X', ⟨⟨hv, hh⟩, hl, hk, hs⟩, st⟩ := Len.pays x t A cd cs.length (fun j => cs.getD j 0) z (tabLen_of (movedLen hZ hw)) hfr hlo m meth c P g ig mk _ X hg hsize hdg hW hn ⟨r1, r2, rfl, hx, sta_is al S, hz⟩
  exact ⟨v, B, X', ⟨[], ⟨hv, rfl, hh⟩, hl, hk, hs⟩, st⟩
end StrChars.Road
namespace StrChars
open Jvm Sem ClassFile Op Lib Jvm.Stand Jvm.Free.XT Jvm.Free.ALB Jvm.Free.JM Jvm.Free
open Jvm.Lib.Cold (StaticIs)
/-- what place i of a byte[]'s cell holds -/
def yv (A : Cell) (i : Nat) : Int32 := match A.slots[i]? with | some (.int x) => x | _ => 0
theorem yv_get {a : Addr} {A : Cell} {U : State} (h : XT.Arr .byte a A U) (ht : Typed .byte A) {i : Nat} (hi : i < A.slots.size) : A.slots[i]? = some (.int (yv A i)) := by
  have e := Array.getElem?_eq_getElem hi
  have f := ht i _ e
  unfold yv; rw [e]
  generalize A.slots[i] = v at f
  cases v <;> simp [fits] at f ⊢
/-- the two arrays are equal, place for place -/
def EqC (A B : Cell) : Prop := A.slots.size = B.slots.size ∧ ∀ i, i < A.slots.size → yv A i = yv B i
/-- a boolean that says whether p -/
def Says01 (q : Prop) (r : Option Value) (s u : State) : Prop := ∃ v : Int32, r = some (.int v) ∧ u.heap = s.heap ∧ ((v = 1 ∧ q) ∨ (v = 0 ∧ ¬ q))
theorem Says01.mv {q : Prop} : ∀ r (U U' V V' : State), U'.heap = U.heap → V.vm.Alike V'.vm → V'.heap = V.heap → Says01 q r U V → Says01 q r U' V' :=
  fun r U U' V V' h1 _ h2 ⟨v, a, b, c⟩ => ⟨v, a, by rw [h1, h2]; exact b, c⟩
namespace LEq
def yN : MethodName := ⟨"java/lang/StringLatin1", "equals", "([B[B)Z"⟩
abbrev yB : ByteArray := jdk_43_method_13_code
theorem d0 : decode yB 0 = .ok (.aload_n 0, 1) := by decide +kernel
theorem d1 : decode yB 1 = .ok (.arraylength, 1) := by decide +kernel
theorem d2 : decode yB 2 = .ok (.aload_n 1, 1) := by decide +kernel
theorem d3 : decode yB 3 = .ok (.arraylength, 1) := by decide +kernel
theorem d4 : decode yB 4 = .ok (.if_icmp (.ne) 30, 3) := by decide +kernel
theorem d7 : decode yB 7 = .ok (.iconst 0, 1) := by decide +kernel
theorem d8 : decode yB 8 = .ok (.istore_n 2, 1) := by decide +kernel
theorem d9 : decode yB 9 = .ok (.iload_n 2, 1) := by decide +kernel
theorem d10 : decode yB 10 = .ok (.aload_n 0, 1) := by decide +kernel
theorem d11 : decode yB 11 = .ok (.arraylength, 1) := by decide +kernel
theorem d12 : decode yB 12 = .ok (.if_icmp (.ge) 20, 3) := by decide +kernel
theorem d15 : decode yB 15 = .ok (.aload_n 0, 1) := by decide +kernel
theorem d16 : decode yB 16 = .ok (.iload_n 2, 1) := by decide +kernel
theorem d17 : decode yB 17 = .ok (.baload, 1) := by decide +kernel
theorem d18 : decode yB 18 = .ok (.aload_n 1, 1) := by decide +kernel
theorem d19 : decode yB 19 = .ok (.iload_n 2, 1) := by decide +kernel
theorem d20 : decode yB 20 = .ok (.baload, 1) := by decide +kernel
theorem d21 : decode yB 21 = .ok (.if_icmp (.eq) 5, 3) := by decide +kernel
theorem d24 : decode yB 24 = .ok (.iconst 0, 1) := by decide +kernel
theorem d25 : decode yB 25 = .ok (.ireturn, 1) := by decide +kernel
theorem d26 : decode yB 26 = .ok (.iinc 2 1, 3) := by decide +kernel
theorem d29 : decode yB 29 = .ok (.goto (-20), 3) := by decide +kernel
theorem d32 : decode yB 32 = .ok (.iconst 1, 1) := by decide +kernel
theorem d33 : decode yB 33 = .ok (.ireturn, 1) := by decide +kernel
theorem d34 : decode yB 34 = .ok (.iconst 0, 1) := by decide +kernel
theorem d35 : decode yB 35 = .ok (.ireturn, 1) := by decide +kernel
def site : List Cond := []
def tab : Cond := tabOf yN yB 3 (some .boolean) site
def P (a : Addr) (A : Cell) (b : Addr) (B : Cell) (args : Array Value) (s : State) : Prop := args = #[.ref a, .ref b] ∧ XT.Arr .byte a A s ∧ Typed .byte A ∧ XT.Arr .byte b B s ∧ Typed .byte B
/-- whether two byte[] are equal, place for place -/
theorem law (l : Launch) (a : Addr) (A : Cell) (b : Addr) (B : Cell) : Law l yN 2 2 0 0 yB 3 (some .boolean) site (P a A b B) (Says01 (EqC A B)) [] 0 0 := by
  refine Law.of_walk (plainFor_of_name (by decide +kernel)) (by decide +kernel) (by decide +kernel) (by decide) (fun _ _ h => by rw [h.1]; rfl) (fun _ U U' hal hh h => ⟨h.1, h.2.1.mv hal hh, h.2.2.1, h.2.2.2.1.mv hal hh, h.2.2.2.2⟩) (fun r U U' V V' h1 hal h2 h => Says01.mv r U U' V V' h1 hal h2 h) ?_
  intro p e s m args below meth c s₁ X0 hexec hbytes hml hret hlk hnm hown hh0 W hP
  obtain ⟨rfl, hA, tA, hB, tB⟩ := hP
  have a31 := hA.2.2.2
  have b31 := hB.2.2.2
  have hA0 := hA.mv X0.warmed.alike hh0
  have hB0 := hB.mv X0.warmed.alike hh0
  have c1 : Steps p.tables e below (s₁.setTop (entryFrame m #[.ref a, .ref b] 3)) (s₁.setTop (mkF m 0 #[.val (.ref a), .val (.ref b), .unset] [])) := entry rfl
  have c2 : Steps p.tables e below (s₁.setTop (entryFrame m #[.ref a, .ref b] 3)) (s₁.setTop (mkF m 4 #[.val (.ref a), .val (.ref b), .unset] [.int (Int32.ofNat B.slots.size), .int (Int32.ofNat A.slots.size)])) := c1.trans (by
    refine XS.aloadN X0.here hexec rfl (hb hbytes d0) rfl rfl ?_
    refine X0.alen hexec hA0 rfl rfl (hb hbytes d1) ?_
    refine XS.aloadN X0.here hexec rfl (hb hbytes d2) rfl rfl ?_
    refine X0.alen hexec hB0 rfl rfl (hb hbytes d3) ?_
    exact Steps.refl _)
  by_cases hs : A.slots.size = B.slots.size
  · have c3 : Steps p.tables e below (s₁.setTop (entryFrame m #[.ref a, .ref b] 3)) (s₁.setTop (mkF m 9 #[.val (.ref a), .val (.ref b), .val (.int 0)] [])) := c2.trans (by
      refine XS.icmpNo X0.here hexec rfl (hb hbytes d4) rfl (ii_ne_f (by rw [hs])) ?_
      refine iconstV X0.here hexec rfl 0 (hb hbytes d7) (by decide) ?_
      refine XS.istoreN X0.here hexec rfl (hb hbytes d8) rfl rfl ?_
      exact Steps.refl _)
    have loop : ∀ (r i : Nat), i + r = A.slots.size → (∀ j, j < i → yv A j = yv B j) → Steps p.tables e below (s₁.setTop (entryFrame m #[.ref a, .ref b] 3)) (s₁.setTop (mkF m 9 #[.val (.ref a), .val (.ref b), .val (.int (Int32.ofNat i))] [])) → ∃ (pc : Nat) (Ls : Array Slot) (v : Int32), (pc = 25 ∨ pc = 33) ∧ ((v = 1 ∧ EqC A B) ∨ (v = 0 ∧ ¬ EqC A B)) ∧ Steps p.tables e below (s₁.setTop (entryFrame m #[.ref a, .ref b] 3)) (s₁.setTop (mkF m pc Ls [.int v])) := by
      intro r
      induction r with
      | zero =>
        intro i hi he cl
        exact ⟨33, _, 1, Or.inr rfl, Or.inl ⟨rfl, hs, fun j hj => he j (by omega)⟩, cl.trans (by
          refine XS.iloadN X0.here hexec rfl (hb hbytes d9) rfl ?_
          refine XS.aloadN X0.here hexec rfl (hb hbytes d10) rfl rfl ?_
          refine X0.alen hexec hA0 rfl rfl (hb hbytes d11) ?_
          refine XS.icmpYes X0.here hexec rfl (pc0 := 12) rfl (hb hbytes d12) rfl (ii_ge_t (nlt32 (by omega) (by omega))) (by decide) rfl ?_
          refine iconstV X0.here hexec rfl 1 (hb hbytes d32) (by decide) ?_
          exact Steps.refl _)⟩
      | succ r ih =>
        intro i hi he cl
        have c4 : Steps p.tables e below (s₁.setTop (entryFrame m #[.ref a, .ref b] 3)) (s₁.setTop (mkF m 21 #[.val (.ref a), .val (.ref b), .val (.int (Int32.ofNat i))] [.int (yv B i), .int (yv A i)])) := cl.trans (by
          refine XS.iloadN X0.here hexec rfl (hb hbytes d9) rfl ?_
          refine XS.aloadN X0.here hexec rfl (hb hbytes d10) rfl rfl ?_
          refine X0.alen hexec hA0 rfl rfl (hb hbytes d11) ?_
          refine XS.icmpNo X0.here hexec rfl (hb hbytes d12) rfl (ii_ge_f (lt32 (by omega) (by omega))) ?_
          refine XS.aloadN X0.here hexec rfl (hb hbytes d15) rfl rfl ?_
          refine XS.iloadN X0.here hexec rfl (hb hbytes d16) rfl ?_
          refine X0.aget hexec hA0 rfl (yv_get hA tA (i := i) (by omega)) rfl rfl (hb hbytes d17) ?_
          refine XS.aloadN X0.here hexec rfl (hb hbytes d18) rfl rfl ?_
          refine XS.iloadN X0.here hexec rfl (hb hbytes d19) rfl ?_
          refine X0.aget hexec hB0 rfl (yv_get hB tB (i := i) (by omega)) rfl rfl (hb hbytes d20) ?_
          exact Steps.refl _)
        by_cases hv : yv A i = yv B i
        · have c5 : Steps p.tables e below (s₁.setTop (entryFrame m #[.ref a, .ref b] 3)) (s₁.setTop (mkF m 9 #[.val (.ref a), .val (.ref b), .val (.int (Int32.ofNat i + 1))] [])) := c4.trans (by
            refine XS.icmpYes X0.here hexec rfl (pc0 := 21) rfl (hb hbytes d21) rfl (ii_eq_t hv) (by decide) rfl ?_
            refine iincV X0.here hexec rfl 1 (hb hbytes d26) (by decide) rfl rfl ?_
            refine XS.goto X0.here hexec rfl (pc0 := 29) rfl (hb hbytes d29) (by decide) rfl ?_
            exact Steps.refl _)
          rw [succ32] at c5
          exact ih (i + 1) (by omega) (fun j hj => by
            by_cases e : j = i
            · rw [e]; exact hv
            · exact he j (by omega)) c5
        · exact ⟨25, _, 0, Or.inl rfl, Or.inr ⟨rfl, fun q => hv (q.2 i (by omega))⟩, c4.trans (by
            refine XS.icmpNo X0.here hexec rfl (hb hbytes d21) rfl (ii_eq_f hv) ?_
            refine iconstV X0.here hexec rfl 0 (hb hbytes d24) (by decide) ?_
            exact Steps.refl _)⟩
    obtain ⟨pc, Ls, v, hpc, hv, cz⟩ := loop A.slots.size 0 (by omega) (fun j hj => absurd hj (Nat.not_lt_zero j)) c3
    have nv : narrow .boolean (.int v) = .int v := by rcases hv with ⟨rfl, -⟩ | ⟨rfl, -⟩ <;> rfl
    rcases hpc with rfl | rfl
    · exact ⟨s₁, some (.int v), _, _, _, X0, rfl, rfl, rfl, (fun h => by cases h), ⟨v, rfl, hh0, hv⟩, fun fs hl => cz.trans (X0.ireturnOut hexec hret nv (Or.inr (Or.inl rfl)) (hb hbytes d25) hl)⟩
    · exact ⟨s₁, some (.int v), _, _, _, X0, rfl, rfl, rfl, (fun h => by cases h), ⟨v, rfl, hh0, hv⟩, fun fs hl => cz.trans (X0.ireturnOut hexec hret nv (Or.inr (Or.inl rfl)) (hb hbytes d33) hl)⟩
  · have c3 : Steps p.tables e below (s₁.setTop (entryFrame m #[.ref a, .ref b] 3)) (s₁.setTop (mkF m 35 #[.val (.ref a), .val (.ref b), .unset] [.int 0])) := c2.trans (by
      refine XS.icmpYes X0.here hexec rfl (pc0 := 4) rfl (hb hbytes d4) rfl (ii_ne_t (ne32 a31 b31 hs)) (by decide) rfl ?_
      refine iconstV X0.here hexec rfl 0 (hb hbytes d34) (by decide) ?_
      exact Steps.refl _)
    exact ⟨s₁, some (.int 0), _, _, _, X0, rfl, rfl, rfl, (fun h => by cases h), ⟨0, rfl, hh0, Or.inr ⟨rfl, fun q => hs q.1⟩⟩, fun fs hl => c3.trans (X0.ireturnOut hexec hret rfl (Or.inr (Or.inl rfl)) (hb hbytes d35) hl)⟩
end LEq
theorem Cod.ty {cd : Int32} {n : Nat} {f : Nat → Int32} {V : Cell} (h : Cod cd n f V) : Typed .byte V := fun i v hv => by
  have hi : i < V.slots.size := (Array.getElem?_eq_some_iff.mp hv).1
  rcases h with ⟨-, k1, k2⟩ | ⟨-, k1, k2, -⟩
  · rw [(k2 i (by omega)).1] at hv; cases hv; exact fits_lo8 _
  · rcases Nat.mod_two_eq_zero_or_one i with e | e
    · obtain ⟨j, rfl⟩ : ∃ j, i = 2 * j := ⟨i / 2, by omega⟩
      rw [(k2 j (by omega)).1] at hv; cases hv; exact fits_lo8 _
    · obtain ⟨j, rfl⟩ : ∃ j, i = 2 * j + 1 := ⟨i / 2, by omega⟩
      rw [(k2 j (by omega)).2] at hv; cases hv; exact fits_lo8 _
/-- the same text -/
def SameT (n : Nat) (f : Nat → Int32) (k : Nat) (g : Nat → Int32) : Prop := n = k ∧ ∀ j, j < n → f j = g j
theorem lo8_inj {x y : Int32} (h0 : ¬ x < 0) (h1 : ¬ 255 < x) (k0 : ¬ y < 0) (k1 : ¬ 255 < y) (h : lo8 x = lo8 y) : x = y := by
  rw [← lo8_mask h0 h1, ← lo8_mask k0 k1, h]
/-- arrays coded by one coder are equal just where the texts are -/
theorem Cod.eqv {cd : Int32} {n k : Nat} {f g : Nat → Int32} {V V' : Cell} (h : Cod cd n f V) (h' : Cod cd k g V') (hf : ∀ j, j < n → ¬ f j < 0 ∧ ¬ 65535 < f j) (hg : ∀ j, j < k → ¬ g j < 0 ∧ ¬ 65535 < g j) : EqC V V' ↔ SameT n f k g := by
  have yvv : ∀ {W : Cell} {i : Nat} {x : Int32}, W.slots[i]? = some (.int x) → yv W i = x := fun q => by unfold yv; rw [q]
  rcases h with ⟨rfl, k1, k2⟩ | ⟨rfl, k1, k2, -⟩
  · rcases h' with ⟨-, m1, m2⟩ | ⟨e, -⟩
    · constructor
      · rintro ⟨e1, e2⟩
        refine ⟨by omega, fun j hj => ?_⟩
        have q := e2 j (by omega)
        rw [yvv (k2 j hj).1, yvv (m2 j (by omega)).1] at q
        exact lo8_inj (hf j hj).1 (k2 j hj).2 (hg j (by omega)).1 (m2 j (by omega)).2 q
      · rintro ⟨rfl, e2⟩
        refine ⟨by omega, fun j hj => ?_⟩
        rw [yvv (k2 j (by omega)).1, yvv (m2 j (by omega)).1, e2 j (by omega)]
    · exact absurd e (by decide)
  · rcases h' with ⟨e, -⟩ | ⟨-, m1, m2, -⟩
    · exact absurd e (by decide)
    · constructor
      · rintro ⟨e1, e2⟩
        refine ⟨by omega, fun j hj => ?_⟩
        have q1 := e2 (2 * j) (by omega)
        have q2 := e2 (2 * j + 1) (by omega)
        rw [yvv (k2 j hj).1, yvv (m2 j (by omega)).1] at q1
        rw [yvv (k2 j hj).2, yvv (m2 j (by omega)).2] at q2
        rw [← pair_says (hf j hj).1 (hf j hj).2, ← pair_says (hg j (by omega)).1 (hg j (by omega)).2, q1, q2]
      · rintro ⟨rfl, e2⟩
        refine ⟨by omega, fun i hi => ?_⟩
        rcases Nat.mod_two_eq_zero_or_one i with e | e
        · obtain ⟨j, rfl⟩ : ∃ j, i = 2 * j := ⟨i / 2, by omega⟩
          rw [yvv (k2 j (by omega)).1, yvv (m2 j (by omega)).1, e2 j (by omega)]
        · obtain ⟨j, rfl⟩ : ∃ j, i = 2 * j + 1 := ⟨i / 2, by omega⟩
          rw [yvv (k2 j (by omega)).2, yvv (m2 j (by omega)).2, e2 j (by omega)]
/-- two codings differ: so do the texts -/
theorem Cod.dif {cd cd' : Int32} {n k : Nat} {f g : Nat → Int32} {V V' : Cell} (h : Cod cd n f V) (h' : Cod cd' k g V') (hne : ¬ cd = cd') : ¬ SameT n f k g := by
  rintro ⟨rfl, e⟩
  rcases h with ⟨rfl, -, k2⟩ | ⟨rfl, -, -, j, hj, hw⟩
  · rcases h' with ⟨rfl, -⟩ | ⟨-, -, -, j, hj, hw⟩
    · exact hne rfl
    · exact (k2 j hj).2 (by rw [e j hj]; exact hw)
  · rcases h' with ⟨-, -, m2⟩ | ⟨rfl, -⟩
    · exact (m2 j hj).2 (by rw [← e j hj]; exact hw)
    · exact hne rfl
/-- an object of exactly C is an instance of C -/
theorem cinst {p : Program} {l : Launch} {e : Env} {R : Room} {s : State} {m : MethodId} {args : Array Value} {below : List Frame} {meth : Method} {c : Code} {T : State} {locs : List Loc} {cells slots : Nat} (X : Stand p l e R s m args below meth c T locs cells slots) (hexec : p.tables.exec = Jvm.exec) {own C : String} {index : Nat} (hown : s.vm.findClass own = some m.cls) (hlink : (Cond.classLink own index C).before args s = true) {a : Addr} (hE : Exact C a T)
    {g : JFrame} (hg : g.method = m) {rest : List Value} (hstack : g.stack = .ref a :: rest) (hdg : decode c.code g.pc = .ok (.instanceof index, 3)) :
    ∃ T', Stand p l e R s m args below meth c T' locs cells slots ∧ T'.heap = T.heap ∧ ∀ target, Steps p.tables e below (T'.setTop { g with pc := g.pc + 3, stack := .int 1 :: rest }) target → Steps p.tables e below (T.setTop g) target := by
  obtain ⟨cB, h1, D, h2, h3, h4⟩ := hE
  have h1' : s.vm.findClass C = some cB := by rw [← X.warmed.alike.findClass]; exact h1
  obtain ⟨vm', X', st⟩ := X.instanceofYes hexec hown hlink h2 h4 h1' (by rw [h3]; exact Jvm.Free.SB.assignable_self _ _) hg hstack hdg
  exact ⟨_, X', rfl, st⟩
theorem cself {p : Program} {l : Launch} {e : Env} {R : Room} {s : State} {m : MethodId} {args : Array Value} {below : List Frame} {meth : Method} {c : Code} {T : State} {locs : List Loc} {cells slots : Nat} (X : Stand p l e R s m args below meth c T locs cells slots) (hexec : p.tables.exec = Jvm.exec) {own C : String} {index : Nat} (hown : s.vm.findClass own = some m.cls) (hlink : (Cond.classLink own index C).before args s = true) {a : Addr} (hE : Exact C a T)
    {g : JFrame} (hg : g.method = m) {rest : List Value} (hstack : g.stack = .ref a :: rest) (hdg : decode c.code g.pc = .ok (.checkcast index, 3)) :
    ∃ T', Stand p l e R s m args below meth c T' locs cells slots ∧ T'.heap = T.heap ∧ ∀ target, Steps p.tables e below (T'.setTop { g with pc := g.pc + 3, stack := .ref a :: rest }) target → Steps p.tables e below (T.setTop g) target := by
  obtain ⟨cB, h1, D, h2, h3, h4⟩ := hE
  have h1' : s.vm.findClass C = some cB := by rw [← X.warmed.alike.findClass]; exact h1
  obtain ⟨vm', X', st⟩ := X.checkcastYes hexec hown hlink h2 h4 h1' (by rw [h3]; exact Jvm.Free.SB.assignable_self _ _) hg hstack hdg
  exact ⟨_, X', rfl, fun t h => st t (by rw [← hstack] at h; exact h)⟩
namespace SEq
def yN : MethodName := ⟨"java/lang/String", "equals", "(Ljava/lang/Object;)Z"⟩
abbrev yB : ByteArray := jdk_42_method_66_code
theorem d0 : decode yB 0 = .ok (.aload_n 0, 1) := by decide +kernel
theorem d1 : decode yB 1 = .ok (.aload_n 1, 1) := by decide +kernel
theorem d2 : decode yB 2 = .ok (.if_acmp (.ne) 5, 3) := by decide +kernel
theorem d5 : decode yB 5 = .ok (.iconst 1, 1) := by decide +kernel
theorem d6 : decode yB 6 = .ok (.ireturn, 1) := by decide +kernel
theorem d7 : decode yB 7 = .ok (.aload_n 1, 1) := by decide +kernel
theorem d8 : decode yB 8 = .ok (.instanceof 10, 3) := by decide +kernel
theorem d11 : decode yB 11 = .ok (.ifCond (.eq) 43, 3) := by decide +kernel
theorem d14 : decode yB 14 = .ok (.aload_n 1, 1) := by decide +kernel
theorem d15 : decode yB 15 = .ok (.checkcast 10, 3) := by decide +kernel
theorem d18 : decode yB 18 = .ok (.astore_n 2, 1) := by decide +kernel
theorem d19 : decode yB 19 = .ok (.getstatic 38, 3) := by decide +kernel
theorem d22 : decode yB 22 = .ok (.ifCond (.eq) 14, 3) := by decide +kernel
theorem d25 : decode yB 25 = .ok (.aload_n 0, 1) := by decide +kernel
theorem d26 : decode yB 26 = .ok (.getfield 15, 3) := by decide +kernel
theorem d29 : decode yB 29 = .ok (.aload_n 2, 1) := by decide +kernel
theorem d30 : decode yB 30 = .ok (.getfield 15, 3) := by decide +kernel
theorem d33 : decode yB 33 = .ok (.if_icmp (.ne) 21, 3) := by decide +kernel
theorem d36 : decode yB 36 = .ok (.aload_n 0, 1) := by decide +kernel
theorem d37 : decode yB 37 = .ok (.getfield 9, 3) := by decide +kernel
theorem d40 : decode yB 40 = .ok (.aload_n 2, 1) := by decide +kernel
theorem d41 : decode yB 41 = .ok (.getfield 9, 3) := by decide +kernel
theorem d44 : decode yB 44 = .ok (.invokestatic 541, 3) := by decide +kernel
theorem d47 : decode yB 47 = .ok (.ifCond (.eq) 7, 3) := by decide +kernel
theorem d50 : decode yB 50 = .ok (.iconst 1, 1) := by decide +kernel
theorem d51 : decode yB 51 = .ok (.goto 4, 3) := by decide +kernel
theorem d54 : decode yB 54 = .ok (.iconst 0, 1) := by decide +kernel
theorem d55 : decode yB 55 = .ok (.ireturn, 1) := by decide +kernel
def site : List Cond := [.classLink "java/lang/String" 10 "java/lang/String", .fieldLink "java/lang/String" 38 "java/lang/String" "COMPACT_STRINGS" "Z", .fieldLink "java/lang/String" 15 "java/lang/String" "coder" "B", .fieldLink "java/lang/String" 9 "java/lang/String" "value" "[B", LEq.tab] ++ staticW "java/lang/String" 541 LEq.yN
def tab : Cond := tabOf yN yB 3 (some .boolean) site
def P (x t : Addr) (V : Cell) (cd : Int32) (n : Nat) (f : Nat → Int32) (y t' : Addr) (V' : Cell) (cd' : Int32) (k : Nat) (g : Nat → Int32) (z : Int32) (args : Array Value) (s : State) : Prop := args = #[.ref x, .ref y] ∧ Txt x t V cd n f s ∧ Txt y t' V' cd' k g s ∧ StaticIs s "java/lang/String" "COMPACT_STRINGS" "Z" (.int z) ∧ ¬ z = 0
/-- equals(Object) of two Strings: whether the texts are the same -/
theorem law (l : Launch) (x t : Addr) (V : Cell) (cd : Int32) (n : Nat) (f : Nat → Int32) (y t' : Addr) (V' : Cell) (cd' : Int32) (k : Nat) (g : Nat → Int32) (z : Int32) : Law l yN 2 1 1 14 yB 3 (some .boolean) site (P x t V cd n f y t' V' cd' k g z) (Says01 (SameT n f k g)) [] 0 0 := by
  refine Law.of_walk (plainFor_of_name (by decide +kernel)) (by decide +kernel) (by decide +kernel) (by decide) (fun _ _ h => by rw [h.1]; rfl) (fun _ U U' hal hh h => ⟨h.1, h.2.1.mv hal hh, h.2.2.1.mv hal hh, h.2.2.2.1.there hal hh, h.2.2.2.2⟩) (fun r U U' V V' h1 hal h2 h => Says01.mv r U U' V V' h1 hal h2 h) ?_
  intro p e s m args below meth c s₁ X0 hexec hbytes hml hret hlk hnm hown hh0 W hP
  obtain ⟨rfl, hx, hy, s1, hz⟩ := hP
  have c1 : Steps p.tables e below (s₁.setTop (entryFrame m #[.ref x, .ref y] 3)) (s₁.setTop (mkF m 2 #[.val (.ref x), .val (.ref y), .unset] [.ref y, .ref x])) := Steps.trans (entry rfl) (by
    show Steps p.tables e below (s₁.setTop (mkF m 0 #[.val (.ref x), .val (.ref y), .unset] [])) _
    refine XS.aloadN X0.here hexec rfl (hb hbytes d0) rfl rfl ?_
    refine XS.aloadN X0.here hexec rfl (hb hbytes d1) rfl rfl ?_
    exact Steps.refl _)
  by_cases hxy : x = y
  · have c2 : Steps p.tables e below (s₁.setTop (entryFrame m #[.ref x, .ref y] 3)) (s₁.setTop (mkF m 6 #[.val (.ref x), .val (.ref y), .unset] [.int 1])) := c1.trans (by
      refine acmpNo X0.here hexec rfl (hb hbytes d2) rfl rfl rfl (by simp [acmp, hxy]) ?_
      refine iconstV X0.here hexec rfl 1 (hb hbytes d5) (by decide) ?_
      exact Steps.refl _)
    subst hxy
    have ec : cd = cd' := by
      obtain ⟨D, fd, a1, a2, a3⟩ := hx.2.2.1
      obtain ⟨D', fd', b1, b2, b3⟩ := hy.2.2.1
      cases a1.symm.trans b1
      obtain ⟨q1, q2, q3, q4⟩ := a2.1
      obtain ⟨r1, r2, r3, r4⟩ := b2.1
      cases q4.symm.trans r4
      cases a3.symm.trans b3; rfl
    have et : t = t' := by
      obtain ⟨D, fd, a1, a2, a3⟩ := hx.2.1
      obtain ⟨D', fd', b1, b2, b3⟩ := hy.2.1
      cases a1.symm.trans b1
      obtain ⟨q1, q2, q3, q4⟩ := a2.1
      obtain ⟨r1, r2, r3, r4⟩ := b2.1
      cases q4.symm.trans r4
      cases a3.symm.trans b3; rfl
    subst ec et
    have ev : V = V' := by cases hx.2.2.2.1.1.symm.trans hy.2.2.2.1.1; rfl
    subst ev
    have hs : SameT n f k g := (Cod.eqv hx.2.2.2.2.1 hy.2.2.2.2.1 hx.2.2.2.2.2 hy.2.2.2.2.2).mp ⟨rfl, fun _ _ => rfl⟩
    exact ⟨s₁, some (.int 1), _, _, _, X0, rfl, rfl, rfl, (fun h => by cases h), ⟨1, rfl, hh0, Or.inl ⟨rfl, hs⟩⟩, fun fs hl => c2.trans (X0.ireturnOut hexec hret rfl (Or.inr (Or.inl rfl)) (hb hbytes d6) hl)⟩
  · have c2 : Steps p.tables e below (s₁.setTop (entryFrame m #[.ref x, .ref y] 3)) (s₁.setTop (mkF m 8 #[.val (.ref x), .val (.ref y), .unset] [.ref y])) := c1.trans (by
      refine acmpYes X0.here hexec rfl (pc0 := 2) rfl (hb hbytes d2) rfl rfl rfl (by simp [acmp, hxy]) (by decide) rfl ?_
      refine XS.aloadN X0.here hexec rfl (hb hbytes d7) rfl rfl ?_
      exact Steps.refl _)
    obtain ⟨T3, X3, q3, st3⟩ := cinst X0 hexec hown (wk W (.classLink "java/lang/String" 10 "java/lang/String")) (hy.mv X0.warmed.alike hh0).1 (g := (mkF m 8 #[.val (.ref x), .val (.ref y), .unset] [.ref y])) rfl (rest := []) rfl (hb hbytes d8)
    have hh3 := q3.trans hh0
    have c4 : Steps p.tables e below (s₁.setTop (entryFrame m #[.ref x, .ref y] 3)) (T3.setTop (mkF m 15 #[.val (.ref x), .val (.ref y), .unset] [.ref y])) := (c2.trans (st3 _ (Steps.refl _))).trans (by
      refine XS.ifNo X3.here hexec rfl (hb hbytes d11) rfl (i0_eq_f (by decide)) ?_
      refine XS.aloadN X3.here hexec rfl (hb hbytes d14) rfl rfl ?_
      exact Steps.refl _)
    obtain ⟨T5, X5, q5, st5⟩ := cself X3 hexec hown (wk W (.classLink "java/lang/String" 10 "java/lang/String")) (hy.mv X3.warmed.alike hh3).1 (g := (mkF m 15 #[.val (.ref x), .val (.ref y), .unset] [.ref y])) rfl (rest := []) rfl (hb hbytes d15)
    have hh5 := q5.trans hh3
    have c6 : Steps p.tables e below (s₁.setTop (entryFrame m #[.ref x, .ref y] 3)) (T5.setTop (mkF m 19 #[.val (.ref x), .val (.ref y), .val (.ref y)] [])) := (c4.trans (st5 _ (Steps.refl _))).trans (by
      refine XS.astoreN X5.here hexec rfl (hb hbytes d18) rfl rfl rfl ?_
      exact Steps.refl _)
    obtain ⟨T7, X7, q7, st7⟩ := X5.sget hexec hown (wk W (.fieldLink "java/lang/String" 38 "java/lang/String" "COMPACT_STRINGS" "Z")) s1 (fun _ _ h => by rw [hh5]; exact h) (g := (mkF m 19 #[.val (.ref x), .val (.ref y), .val (.ref y)] [])) rfl (hb hbytes d19)
    have hh7 := q7.trans hh5
    have c8 : Steps p.tables e below (s₁.setTop (entryFrame m #[.ref x, .ref y] 3)) (T7.setTop (mkF m 26 #[.val (.ref x), .val (.ref y), .val (.ref y)] [.ref x])) := (c6.trans (st7 _ (Steps.refl _))).trans (by
      refine XS.ifNo X7.here hexec rfl (hb hbytes d22) rfl (i0_eq_f hz) ?_
      refine XS.aloadN X7.here hexec rfl (hb hbytes d25) rfl rfl ?_
      exact Steps.refl _)
    obtain ⟨T9, X9, q9, st9⟩ := X7.hget hexec hown (wk W (.fieldLink "java/lang/String" 15 "java/lang/String" "coder" "B")) (hx.mv X7.warmed.alike hh7).2.2.1 (g := (mkF m 26 #[.val (.ref x), .val (.ref y), .val (.ref y)] [.ref x])) rfl (rest := []) rfl (hb hbytes d26)
    have hh9 := q9.trans hh7
    have c10 : Steps p.tables e below (s₁.setTop (entryFrame m #[.ref x, .ref y] 3)) (T9.setTop (mkF m 30 #[.val (.ref x), .val (.ref y), .val (.ref y)] [.ref y, .int cd])) := (c8.trans (st9 _ (Steps.refl _))).trans (by
      refine XS.aloadN X9.here hexec rfl (hb hbytes d29) rfl rfl ?_
      exact Steps.refl _)
    obtain ⟨T11, X11, q11, st11⟩ := X9.hget hexec hown (wk W (.fieldLink "java/lang/String" 15 "java/lang/String" "coder" "B")) (hy.mv X9.warmed.alike hh9).2.2.1 (g := (mkF m 30 #[.val (.ref x), .val (.ref y), .val (.ref y)] [.ref y, .int cd])) rfl (rest := [.int cd]) rfl (hb hbytes d30)
    have hh11 := q11.trans hh9
    have c12 : Steps p.tables e below (s₁.setTop (entryFrame m #[.ref x, .ref y] 3)) (T11.setTop (mkF m 33 #[.val (.ref x), .val (.ref y), .val (.ref y)] [.int cd', .int cd])) := c10.trans (st11 _ (Steps.refl _))
    by_cases hcd : cd = cd'
    · subst hcd
      have c13 : Steps p.tables e below (s₁.setTop (entryFrame m #[.ref x, .ref y] 3)) (T11.setTop (mkF m 37 #[.val (.ref x), .val (.ref y), .val (.ref y)] [.ref x])) := c12.trans (by
        refine XS.icmpNo X11.here hexec rfl (hb hbytes d33) rfl (ii_ne_f rfl) ?_
        refine XS.aloadN X11.here hexec rfl (hb hbytes d36) rfl rfl ?_
        exact Steps.refl _)
      obtain ⟨T14, X14, q14, st14⟩ := X11.hget hexec hown (wk W (.fieldLink "java/lang/String" 9 "java/lang/String" "value" "[B")) (hx.mv X11.warmed.alike hh11).2.1 (g := (mkF m 37 #[.val (.ref x), .val (.ref y), .val (.ref y)] [.ref x])) rfl (rest := []) rfl (hb hbytes d37)
      have hh14 := q14.trans hh11
      have c15 : Steps p.tables e below (s₁.setTop (entryFrame m #[.ref x, .ref y] 3)) (T14.setTop (mkF m 41 #[.val (.ref x), .val (.ref y), .val (.ref y)] [.ref y, .ref t])) := (c13.trans (st14 _ (Steps.refl _))).trans (by
        refine XS.aloadN X14.here hexec rfl (hb hbytes d40) rfl rfl ?_
        exact Steps.refl _)
      obtain ⟨T16, X16, q16, st16⟩ := X14.hget hexec hown (wk W (.fieldLink "java/lang/String" 9 "java/lang/String" "value" "[B")) (hy.mv X14.warmed.alike hh14).2.1 (g := (mkF m 41 #[.val (.ref x), .val (.ref y), .val (.ref y)] [.ref y, .ref t])) rfl (rest := [.ref t]) rfl (hb hbytes d41)
      have hh16 := q16.trans hh14
      have c17 : Steps p.tables e below (s₁.setTop (entryFrame m #[.ref x, .ref y] 3)) (T16.setTop (mkF m 44 #[.val (.ref x), .val (.ref y), .val (.ref y)] [.ref t', .ref t])) := c15.trans (st16 _ (Steps.refl _))
      obtain ⟨v18, T18, X18, E18, g18⟩ := X16.callS hexec (LEq.law l t V t' V') hown (wks W (staticW "java/lang/String" 541 LEq.yN)) (wk W LEq.tab) (W := 0) (Nat.le_of_ble_eq_true rfl) (Nat.le_of_ble_eq_true rfl) (Nat.le_refl _) (Nat.le_refl _) (g := (mkF m 44 #[.val (.ref x), .val (.ref y), .val (.ref y)] [.ref t', .ref t])) rfl (by rw [hml]; rfl) c17 (argsL := [.ref t, .ref t']) (rest := []) rfl rfl (by show 2 * 0 + 0 ≤ _; decide) (hb hbytes d44) (⟨rfl, hx.2.2.2.1.mv X16.warmed.alike hh16, hx.2.2.2.2.1.ty, hy.2.2.2.1.mv X16.warmed.alike hh16, hy.2.2.2.2.1.ty⟩)
      obtain ⟨v, rfl, q18, hv⟩ := E18
      have iff := Cod.eqv hx.2.2.2.2.1 hy.2.2.2.2.1 hx.2.2.2.2.2 hy.2.2.2.2.2
      rcases hv with ⟨rfl, he⟩ | ⟨rfl, he⟩
      · have c19 : Steps p.tables e below (s₁.setTop (entryFrame m #[.ref x, .ref y] 3)) (T18.setTop (mkF m 55 #[.val (.ref x), .val (.ref y), .val (.ref y)] [.int 1])) := Steps.trans g18 (by
          refine XS.ifNo X18.here hexec rfl (hb hbytes d47) rfl (i0_eq_f (by decide)) ?_
          refine iconstV X18.here hexec rfl 1 (hb hbytes d50) (by decide) ?_
          refine XS.goto X18.here hexec rfl (pc0 := 51) rfl (hb hbytes d51) (by decide) rfl ?_
          exact Steps.refl _)
        exact ⟨T18, some (.int 1), _, _, _, X18, rfl, rfl, rfl, (fun h => by cases h), ⟨1, rfl, q18.trans hh16, Or.inl ⟨rfl, iff.mp he⟩⟩, fun fs hl => c19.trans (X18.ireturnOut hexec hret rfl (Or.inr (Or.inl rfl)) (hb hbytes d55) hl)⟩
      · have c19 : Steps p.tables e below (s₁.setTop (entryFrame m #[.ref x, .ref y] 3)) (T18.setTop (mkF m 55 #[.val (.ref x), .val (.ref y), .val (.ref y)] [.int 0])) := Steps.trans g18 (by
          refine XS.ifYes X18.here hexec rfl (pc0 := 47) rfl (hb hbytes d47) rfl (i0_eq_t rfl) (by decide) rfl ?_
          refine iconstV X18.here hexec rfl 0 (hb hbytes d54) (by decide) ?_
          exact Steps.refl _)
        exact ⟨T18, some (.int 0), _, _, _, X18, rfl, rfl, rfl, (fun h => by cases h), ⟨0, rfl, q18.trans hh16, Or.inr ⟨rfl, fun q => he (iff.mpr q)⟩⟩, fun fs hl => c19.trans (X18.ireturnOut hexec hret rfl (Or.inr (Or.inl rfl)) (hb hbytes d55) hl)⟩
    · have c13 : Steps p.tables e below (s₁.setTop (entryFrame m #[.ref x, .ref y] 3)) (T11.setTop (mkF m 55 #[.val (.ref x), .val (.ref y), .val (.ref y)] [.int 0])) := c12.trans (by
        refine XS.icmpYes X11.here hexec rfl (pc0 := 33) rfl (hb hbytes d33) rfl (ii_ne_t hcd) (by decide) rfl ?_
        refine iconstV X11.here hexec rfl 0 (hb hbytes d54) (by decide) ?_
        exact Steps.refl _)
      exact ⟨T11, some (.int 0), _, _, _, X11, rfl, rfl, rfl, (fun h => by cases h), ⟨0, rfl, hh11, Or.inr ⟨rfl, Cod.dif hx.2.2.2.2.1 hy.2.2.2.2.1 hcd⟩⟩, fun fs hl => c13.trans (X11.ireturnOut hexec hret rfl (Or.inr (Or.inl rfl)) (hb hbytes d55) hl)⟩
theorem pays {l : Launch} {R : Room} {p : Program} {e : Env} {below : List Frame} {s : State} {sargs : Array Value} {len W : Nat} (x t : Addr) (V : Cell) (cd : Int32) (n : Nat) (f : Nat → Int32) (y t' : Addr) (V' : Cell) (cd' : Int32) (k : Nat) (g : Nat → Int32) (z : Int32) (htab : tab.before sargs s = true) (hfr : 2 ≤ R.frames) (hlo : W + 28 ≤ R.locals) :
    Back l R p e below s sargs yN len W (fun A₁ a₁ => A₁.cells + 0 ≤ R.cells ∧ A₁.slots + 0 ≤ R.slots ∧ P x t V cd n f y t' V' cd' k g z a₁ A₁.U) (fun A₁ _ v₁ B₁ => Says01 (SameT n f k g) v₁ A₁.U B₁.U ∧ B₁.locs = A₁.locs ++ [] ∧ B₁.cells = A₁.cells + 0 ∧ B₁.slots = A₁.slots + 0) :=
  (law l x t V cd n f y t' V' cd' k g z).pays htab hfr (by omega)
end SEq
end StrChars
namespace StrChars.Road
open Jvm Sem ClassFile Op Lib Jvm.Stand Jvm.Free Jvm.Free.XT
open Jvm.Lib.Cold (StaticIs)
/-- the words of String.equals(Object) -/
abbrev wordsEq : List Jvm.Cond := [.code SEq.yN SEq.yB 3 (some .boolean), .initialized ST, .classLink ST 10 ST, .fieldLink ST 38 ST "COMPACT_STRINGS" "Z", .fieldLink ST 15 ST "coder" "B", .fieldLink ST 9 ST "value" "[B", .methodLink ST 541 LEq.yN, .static LEq.yN, .code LEq.yN LEq.yB 3 (some .boolean), .initialized "java/lang/StringLatin1"]
theorem tabEq_of {a : Array Value} {s : State} (h : ∀ w ∈ wordsEq, w.before a s = true) : SEq.tab.before a s = true := by
  have hl : LEq.tab.before a s = true := unparts (wk h (.code LEq.yN LEq.yB 3 (some .boolean))) (wks h (.initialized LEq.yN.cls :: LEq.site))
  have q := consq hl h
  exact unparts (wk q (.code SEq.yN SEq.yB 3 (some .boolean))) (wks q (.initialized SEq.yN.cls :: SEq.site))
theorem movedEq {Z s : State} {a0 args : Array Value} (hZ : Z.Warmed39 s.vm) (hw : ∀ d ∈ wordsEq, d.before a0 Z = true) : ∀ d ∈ wordsEq, d.before args s = true := fun d hd => by
  have t : ∀ d ∈ wordsEq, (d.onTables && d.keepsFace) = true := by decide +kernel
  exact RoadKit.mv hZ (hw d hd) (t d hd)
/-- the road's facts of a String, as the laws ask it -/
theorem txt_of {Z U : State} {a0 : Array Value} {kI : Nat} (wi : (Jvm.Cond.instantiable ST kI).before a0 Z = true) (al : Z.vm.Alike U.vm) {x t : Addr} {kb : ClassId} {cs : List Int32} {cd N2 : Int32} {vs : List Value} (E : RoadKit.Exa Z U.heap x ST) (V : RoadKit.Fld Z U.heap x ST "value" "[B" (.ref t)) (C : RoadKit.Fld Z U.heap x ST "coder" "B" (.int cd)) (K : RoadKit.Arv Z U.heap t kb .byte N2 vs (.int 0)) (hc : CodA cs cd N2 vs) (hb : ∀ c ∈ cs, ¬ c < 0 ∧ ¬ (65535 : Int32) < c) (l2 : cs.length ≤ 4000) :
    ∃ A, Txt x t A cd cs.length (fun j => cs.getD j 0) U := by
  obtain ⟨A, K1, K2, K3, K4, K5, K6⟩ := K
  have hcod := hc.cod (by omega) K3 K5
  obtain ⟨D, fV, fC, hB, F1, F2, g1, g2, -, -⟩ := strObj wi al E V C
  exact ⟨A, ⟨_, hB.2.2.1, D, hB.1, rfl, by cases q : D.vm <;> first | rfl | exact absurd q (hB.2.1.2 _)⟩, Has.of hB F1 g1, Has.of hB F2 g2, ⟨K1.1, State.isArrayOf_alike al K1.2.1, K1.2.2, by rcases hcod with ⟨-, q, -⟩ | ⟨-, q, -⟩ <;> omega⟩, hcod, fun j hj => by
    have e : cs.getD j 0 = cs[j] := by simp [List.getD_eq_getElem?_getD, hj]
    show ¬ cs.getD j 0 < 0 ∧ ¬ 65535 < cs.getD j 0
    rw [e]; exact hb _ (List.getElem_mem _)⟩
theorem same_list (cs ds : List Int32) : SameT cs.length (fun j => cs.getD j 0) ds.length (fun j => ds.getD j 0) ↔ cs = ds := by
  constructor
  · rintro ⟨e, q⟩
    refine List.ext_getElem e fun j h1 h2 => ?_
    have := q j h1
    simpa [List.getD_eq_getElem?_getD, h1, h2] using this
  · rintro rfl
    exact ⟨rfl, fun _ _ => rfl⟩
/-- **equals(Object) OF TWO SUCH STRINGS**: 1 just where the chars are the same -/
theorem eqW {p : Program} {l : Launch} {e : Env} {R : Room} {s : State} {args : Array Value} {below : List Frame} {len W : Nat} {Z : State} {a0 : Array Value} {h : Heap} (hZ : Z.Warmed39 s.vm) (hw : ∀ d ∈ wordsEq, d.before a0 Z = true) {kI : Nat} (wi : (Jvm.Cond.instantiable ST kI).before a0 Z = true)
    {x t : Addr} {kb : ClassId} {cs : List Int32} {cd N2 : Int32} {vs : List Value} (E : RoadKit.Exa Z h x ST) (V : RoadKit.Fld Z h x ST "value" "[B" (.ref t)) (C : RoadKit.Fld Z h x ST "coder" "B" (.int cd)) (K : RoadKit.Arv Z h t kb .byte N2 vs (.int 0)) (hc : CodA cs cd N2 vs) (hb : ∀ c ∈ cs, ¬ c < 0 ∧ ¬ (65535 : Int32) < c) (l2 : cs.length ≤ 4000)
    {y t' : Addr} {kb' : ClassId} {ds : List Int32} {cd' N2' : Int32} {vs' : List Value} (E' : RoadKit.Exa Z h y ST) (V' : RoadKit.Fld Z h y ST "value" "[B" (.ref t')) (C' : RoadKit.Fld Z h y ST "coder" "B" (.int cd')) (K' : RoadKit.Arv Z h t' kb' .byte N2' vs' (.int 0)) (hc' : CodA ds cd' N2' vs') (hb' : ∀ c ∈ ds, ¬ c < 0 ∧ ¬ (65535 : Int32) < c) (l2' : ds.length ≤ 4000)
    {z : Int32} (S : RoadKit.Sta Z h ST "COMPACT_STRINGS" "Z" (.int z)) (hz : ¬ z = 0) (hfr : 2 ≤ R.frames) (hlo : W + 28 ≤ R.locals) :
    Back l R p e below s args (⟨"java/lang/String", "equals", "(Ljava/lang/Object;)Z"⟩ : MethodName) len W (fun P a => a = #[.ref x, .ref y] ∧ P.U.heap = h ∧ P.cells + 0 ≤ R.cells ∧ P.slots + 0 ≤ R.slots)
      (fun P _ v B => ∃ L, (((v = some (.int 1) ∧ cs = ds) ∨ (v = some (.int 0) ∧ ¬ cs = ds)) ∧ L = [] ∧ B.U.heap = h) ∧ B.locs = P.locs ++ L ∧ B.cells = P.cells + 0 ∧ B.slots = P.slots + 0) := by
  intro m meth c P g ig mk a X hg hsize hdg hW hn hp'
  obtain ⟨rfl, rfl, r1, r2⟩ := hp'
  have al : Z.vm.Alike P.U.vm := hZ.alike.trans X.warmed.alike
  obtain ⟨A, hx⟩ := txt_of wi al E V C K hc hb l2
  obtain ⟨A', hy⟩ := txt_of wi al E' V' C' K' hc' hb' l2'
  obtain ⟨v, B, X', ⟨⟨w, hv, hh, hq⟩, hl, hk, hs⟩, st⟩ := SEq.pays x t A cd cs.length (fun j => cs.getD j 0) y t' A' cd' ds.length (fun j => ds.getD j 0) z (tabEq_of (movedEq hZ hw)) hfr hlo m meth c P g ig mk _ X hg hsize hdg hW hn ⟨r1, r2, rfl, hx, hy, sta_is al S, hz⟩
  refine ⟨v, B, X', ⟨[], ⟨?_, rfl, hh⟩, hl, hk, hs⟩, st⟩
  rcases hq with ⟨rfl, q⟩ | ⟨rfl, q⟩
  · exact Or.inl ⟨hv, (same_list cs ds).mp q⟩
  · exact Or.inr ⟨hv, fun e => q ((same_list cs ds).mpr e)⟩
end StrChars.Road
namespace StrChars
open Jvm Sem ClassFile Op Lib Jvm.Stand Jvm.Free.XT Jvm.Free.ALB Jvm.Free.JM Jvm.Free
open Jvm.Lib.Cold (StaticIs)
namespace ChN
def yN : MethodName := ⟨"java/lang/String", "charAt", "(I)C"⟩
abbrev yB : ByteArray := jdk_42_method_56_code
theorem d0 : decode yB 0 = .ok (.aload_n 0, 1) := by decide +kernel
theorem d1 : decode yB 1 = .ok (.invokevirtual 492, 3) := by decide +kernel
theorem d4 : decode yB 4 = .ok (.ifCond (.eq) 12, 3) := by decide +kernel
theorem d7 : decode yB 7 = .ok (.aload_n 0, 1) := by decide +kernel
theorem d8 : decode yB 8 = .ok (.getfield 9, 3) := by decide +kernel
theorem d11 : decode yB 11 = .ok (.iload_n 1, 1) := by decide +kernel
theorem d12 : decode yB 12 = .ok (.invokestatic 495, 3) := by decide +kernel
theorem d15 : decode yB 15 = .ok (.ireturn, 1) := by decide +kernel
def site : List Cond := [.fieldLink "java/lang/String" 9 "java/lang/String" "value" "[B", IsL.tab, LChA.tab] ++ virtW "java/lang/String" 492 "java/lang/String" IsL.yN IsL.yN ++ staticW "java/lang/String" 495 LChA.yN
def tab : Cond := tabOf yN yB 2 (some .char) site
def P (x t : Addr) (V : Cell) (n : Nat) (f : Nat → Int32) (z : Int32) (fm : Value) (i : Nat) (args : Array Value) (s : State) : Prop := args = #[.ref x, .int (Int32.ofNat i)] ∧ Txt x t V 0 n f s ∧ i < n ∧ StaticIs s "java/lang/String" "COMPACT_STRINGS" "Z" (.int z) ∧ ¬ z = 0 ∧ StaticIs s "jdk/internal/util/Preconditions" "SIOOBE_FORMATTER" "Ljava/util/function/BiFunction;" fm ∧ fm.isRef = true
def E (f : Nat → Int32) (i : Nat) (r : Option Value) (s u : State) : Prop := XT.PureE (some (.int (f i))) r s u
/-- charAt(i) of a Latin-1 String of n chars, i < n: f i -/
theorem law (l : Launch) (x t : Addr) (V : Cell) (n : Nat) (f : Nat → Int32) (z : Int32) (fm : Value) (i : Nat) : Law l yN 2 1 3 40 yB 2 (some .char) site (P x t V n f z fm i) (E f i) [] 0 0 := by
  refine Law.of_walk (plainFor_of_name (by decide +kernel)) (by decide +kernel) (by decide +kernel) (by decide) (fun _ _ h => by rw [h.1]; rfl) (fun _ U U' hal hh h => ⟨h.1, h.2.1.mv hal hh, h.2.2.1, h.2.2.2.1.there hal hh, h.2.2.2.2.1, h.2.2.2.2.2.1.there hal hh, h.2.2.2.2.2.2⟩) (fun r U U' V V' h1 hal h2 h => XT.PureE.mv r U U' V V' h1 hal h2 h) ?_
  intro p e s m args below meth c s₁ X0 hexec hbytes hml hret hlk hnm hown hh0 W hP
  obtain ⟨rfl, hx, hi, s1, hz, s3, rf⟩ := hP
  have v31 := hx.2.2.2.1.2.2.2
  have hr := hx.2.2.2.2.2 i hi
  have hx0 := hx.mv X0.warmed.alike hh0
  have c1 : Steps p.tables e below (s₁.setTop (entryFrame m #[.ref x, .int (Int32.ofNat i)] 2)) (s₁.setTop (mkF m 1 #[.val (.ref x), .val (.int (Int32.ofNat i))] [.ref x])) := Steps.trans (entry rfl) (by
    show Steps p.tables e below (s₁.setTop (mkF m 0 #[.val (.ref x), .val (.int (Int32.ofNat i))] [])) _
    refine XS.aloadN X0.here hexec rfl (hb hbytes d0) rfl rfl ?_
    exact Steps.refl _)
  obtain ⟨v2, T2, X2, E2, g2⟩ := X0.callV hexec (IsL.law l x 0 z) hown (wks W (virtW "java/lang/String" 492 "java/lang/String" IsL.yN IsL.yN)) rfl (by decide) (wk W IsL.tab) (W := 0) (Nat.le_of_ble_eq_true rfl) (Nat.le_of_ble_eq_true rfl) (Nat.le_refl _) (Nat.le_refl _) (hx0.1.fc X0.warmed.alike) hx0.1.is (g := (mkF m 1 #[.val (.ref x), .val (.int (Int32.ofNat i))] [.ref x])) rfl (by rw [hml]; rfl) c1 (argsL := []) (rest := []) rfl rfl (by show 2 * 0 + 0 ≤ _; decide) (hb hbytes d1) (⟨rfl, hx0.2.2.1, hx.2.2.2.2.1.cd, s1.there X0.warmed.alike hh0, hz⟩)
  obtain ⟨rfl, q2⟩ := E2
  have hh2 := q2.trans hh0
  have hx2 := hx.mv X2.warmed.alike hh2
  obtain ⟨-, k1, k2⟩ | ⟨k0, -⟩ := hx.2.2.2.2.1
  · have c3 : Steps p.tables e below (s₁.setTop (entryFrame m #[.ref x, .int (Int32.ofNat i)] 2)) (T2.setTop (mkF m 8 #[.val (.ref x), .val (.int (Int32.ofNat i))] [.ref x])) := Steps.trans g2 (by
      refine XS.ifNo X2.here hexec rfl (hb hbytes d4) rfl (i0_eq_f (by decide)) ?_
      refine XS.aloadN X2.here hexec rfl (hb hbytes d7) rfl rfl ?_
      exact Steps.refl _)
    obtain ⟨T4, X4, q4, st4⟩ := X2.hget hexec hown (wk W (.fieldLink "java/lang/String" 9 "java/lang/String" "value" "[B")) hx2.2.1 (g := (mkF m 8 #[.val (.ref x), .val (.int (Int32.ofNat i))] [.ref x])) rfl (rest := []) rfl (hb hbytes d8)
    have hh4 := q4.trans hh2
    have c5 : Steps p.tables e below (s₁.setTop (entryFrame m #[.ref x, .int (Int32.ofNat i)] 2)) (T4.setTop (mkF m 12 #[.val (.ref x), .val (.int (Int32.ofNat i))] [.int (Int32.ofNat i), .ref t])) := (c3.trans (st4 _ (Steps.refl _))).trans (by
      refine XS.iloadN X4.here hexec rfl (hb hbytes d11) rfl ?_
      exact Steps.refl _)
    obtain ⟨v6, T6, X6, E6, g6⟩ := X4.callS hexec (LChA.law l t V i (lo8 (f i)) fm) hown (wks W (staticW "java/lang/String" 495 LChA.yN)) (wk W LChA.tab) (W := 0) (Nat.le_of_ble_eq_true rfl) (Nat.le_of_ble_eq_true rfl) (Nat.le_refl _) (Nat.le_refl _) (g := (mkF m 12 #[.val (.ref x), .val (.int (Int32.ofNat i))] [.int (Int32.ofNat i), .ref t])) rfl (by rw [hml]; rfl) c5 (argsL := [.ref t, .int (Int32.ofNat i)]) (rest := []) rfl rfl (by show 2 * 0 + 0 ≤ _; decide) (hb hbytes d12) (⟨rfl, hx.2.2.2.1.mv X4.warmed.alike hh4, (k2 i hi).1, s3.there X4.warmed.alike hh4, rf⟩)
    obtain ⟨rfl, q6⟩ := E6
    rw [chr8_lo8 hr.1 (k2 i hi).2] at g6
    exact ⟨T6, some (.int (f i)), _, _, _, X6, rfl, rfl, rfl, (fun h => by cases h), ⟨rfl, q6.trans hh4⟩, fun fs hl => Steps.trans g6 (X6.ireturnOut hexec hret (narrow_ch hr.1 hr.2) (Or.inr (Or.inr (Or.inr (Or.inl rfl)))) (hb hbytes d15) hl)⟩
  · exact absurd k0 (by decide)
theorem pays {l : Launch} {R : Room} {p : Program} {e : Env} {below : List Frame} {s : State} {sargs : Array Value} {len W : Nat} (x t : Addr) (V : Cell) (n : Nat) (f : Nat → Int32) (z : Int32) (fm : Value) (i : Nat) (htab : tab.before sargs s = true) (hfr : 4 ≤ R.frames) (hlo : W + 53 ≤ R.locals) :
    Back l R p e below s sargs yN len W (fun A₁ a₁ => A₁.cells + 0 ≤ R.cells ∧ A₁.slots + 0 ≤ R.slots ∧ P x t V n f z fm i a₁ A₁.U) (fun A₁ _ v₁ B₁ => E f i v₁ A₁.U B₁.U ∧ B₁.locs = A₁.locs ++ [] ∧ B₁.cells = A₁.cells + 0 ∧ B₁.slots = A₁.slots + 0) :=
  (law l x t V n f z fm i).pays htab hfr (by omega)
end ChN
end StrChars
namespace StrChars.Road
open Jvm Sem ClassFile Op Lib Jvm.Stand Jvm.Free Jvm.Free.XT
open Jvm.Lib.Cold (StaticIs)
/-- the words of String.charAt(int), the Latin-1 road alone -/
abbrev wordsChN : List Jvm.Cond := [.code ChN.yN ChN.yB 2 (some .char), .initialized ST, .fieldLink ST 9 ST "value" "[B", .fieldLink ST 38 ST "COMPACT_STRINGS" "Z", .fieldLink ST 15 ST "coder" "B", .code IsL.yN IsL.yB 1 (some .boolean), .methodLink ST 492 IsL.yN, .declares IsL.yN, .selects ST IsL.yN IsL.yN, .instanceMethod IsL.yN,
  .methodLink ST 495 LChA.yN, .static LChA.yN, .code LChA.yN LChA.yB 2 (some .char), .initialized "java/lang/StringLatin1", .methodLink "java/lang/StringLatin1" 9 JO.Str_checkIndex.yN, .static JO.Str_checkIndex.yN, .code JO.Str_checkIndex.yN JO.Str_checkIndex.yB 2 none,
  .fieldLink ST 1053 "jdk/internal/util/Preconditions" "SIOOBE_FORMATTER" "Ljava/util/function/BiFunction;", .methodLink ST 1059 JC.PreCheck.yN, .static JC.PreCheck.yN, .code JC.PreCheck.yN JC.PreCheck.yB 3 (some .int), .initialized "jdk/internal/util/Preconditions"]
theorem tabChN_of {a : Array Value} {s : State} (h : ∀ w ∈ wordsChN, w.before a s = true) : ChN.tab.before a s = true := by
  have hp : JC.PreCheck.tab.before a s = true := unparts (wk h (.code JC.PreCheck.yN JC.PreCheck.yB 3 (some .int))) (wks h (.initialized JC.PreCheck.yN.cls :: JC.PreCheck.site))
  have qk := consq hp h
  have hk : JO.Str_checkIndex.tab.before a s = true := unparts (wk qk (.code JO.Str_checkIndex.yN JO.Str_checkIndex.yB 2 none)) (wks qk (.initialized JO.Str_checkIndex.yN.cls :: JO.Str_checkIndex.site))
  have ql := consq hk h
  have hl : LChA.tab.before a s = true := unparts (wk ql (.code LChA.yN LChA.yB 2 (some .char))) (wks ql (.initialized LChA.yN.cls :: LChA.site))
  have hi : IsL.tab.before a s = true := unparts (wk h (.code IsL.yN IsL.yB 1 (some .boolean))) (wks h (.initialized IsL.yN.cls :: IsL.site))
  have q := consq hi (consq hl h)
  exact unparts (wk q (.code ChN.yN ChN.yB 2 (some .char))) (wks q (.initialized ChN.yN.cls :: ChN.site))
theorem movedChN {Z s : State} {a0 args : Array Value} (hZ : Z.Warmed39 s.vm) (hw : ∀ d ∈ wordsChN, d.before a0 Z = true) : ∀ d ∈ wordsChN, d.before args s = true := fun d hd => by
  have t : ∀ d ∈ wordsChN, (d.onTables && d.keepsFace) = true := by decide +kernel
  exact RoadKit.mv hZ (hw d hd) (t d hd)
/-- **charAt(i) OF A LATIN-1 STRING**, i < n: the char -/
theorem chN {p : Program} {l : Launch} {e : Env} {R : Room} {s : State} {args : Array Value} {below : List Frame} {len W : Nat} {Z : State} {a0 : Array Value} {h : Heap} (hZ : Z.Warmed39 s.vm) (hw : ∀ d ∈ wordsChN, d.before a0 Z = true) {kI : Nat} (wi : (Jvm.Cond.instantiable ST kI).before a0 Z = true)
    {x t : Addr} {kb : ClassId} {cs : List Int32} {N2 z : Int32} {vs : List Value} {fm : Value} {i : Nat} {j : Int32} (E : RoadKit.Exa Z h x ST) (V : RoadKit.Fld Z h x ST "value" "[B" (.ref t)) (C : RoadKit.Fld Z h x ST "coder" "B" (.int 0)) (K : RoadKit.Arv Z h t kb .byte N2 vs (.int 0)) (hc : CodA cs 0 N2 vs) (hb : ∀ c ∈ cs, ¬ c < 0 ∧ ¬ (65535 : Int32) < c)
    (S : RoadKit.Sta Z h ST "COMPACT_STRINGS" "Z" (.int z)) (hz : ¬ z = 0) (F : RoadKit.Sta Z h "jdk/internal/util/Preconditions" "SIOOBE_FORMATTER" "Ljava/util/function/BiFunction;" fm) (rf : fm.isRef = true) (l2 : cs.length ≤ 4000) (hi : i < cs.length) (hj : j = Int32.ofNat i) (hfr : 4 ≤ R.frames) (hlo : W + 53 ≤ R.locals) :
    Back l R p e below s args (⟨"java/lang/String", "charAt", "(I)C"⟩ : MethodName) len W (fun P a => a = #[.ref x, .int j] ∧ P.U.heap = h ∧ P.cells + 0 ≤ R.cells ∧ P.slots + 0 ≤ R.slots)
      (fun P _ v B => ∃ L, (v = some (.int (cs.getD i 0)) ∧ L = [] ∧ B.U.heap = h) ∧ B.locs = P.locs ++ L ∧ B.cells = P.cells + 0 ∧ B.slots = P.slots + 0) := by
  subst hj
  intro m meth c P g ig mk a X hg hsize hdg hW hn hp'
  obtain ⟨rfl, rfl, r1, r2⟩ := hp'
  have al : Z.vm.Alike P.U.vm := hZ.alike.trans X.warmed.alike
  obtain ⟨A, hx⟩ := txt_of wi al E V C K hc hb l2
  obtain ⟨v, B, X', ⟨⟨hv, hh⟩, hl, hk, hs⟩, st⟩ := ChN.pays x t A cs.length (fun j => cs.getD j 0) z fm i (tabChN_of (movedChN hZ hw)) hfr hlo m meth c P g ig mk _ X hg hsize hdg hW hn ⟨r1, r2, rfl, hx, hi, sta_is al S, hz, sta_is al F, rf⟩
  exact ⟨v, B, X', ⟨[], ⟨hv, rfl, hh⟩, hl, hk, hs⟩, st⟩
/-- what backV says of its String, as the contracts of this text ask it: cs's low bytes, coder 0 -/
theorem codOf {cs : List Int32} {n : Nat} (hn : cs.length = n) (hb : ∀ c ∈ cs, ¬ 255 < c) : CodA cs 0 (Int32.ofNat n) ((cs.map lo8).map Value.int) := Or.inl ⟨rfl, by rw [hn], by simp [List.map_map, Function.comp_def], hb⟩
end StrChars.Road
end Jvm.Pilot.@@N@@
namespace Jvm.Pilot.@@N@@
open Jvm Jvm.ClassFile Sem Op Lib Jvm.Free Jvm.Stand Jvm.LawKit Jvm.RoadKit Bundle Jvm.Pilot.@@N@@.Jvm.D
theorem own_b1 {v A K : Int32} (h : v < A) (d : ¬ (K < A)) : v < K := by rw [Int32.lt_iff_toInt_lt] at *; omega
theorem own_b2 {v A K : Int32} (h : v < A) (d : A.toInt ≤ K.toInt + 1) : ¬ (K < v) := by rw [Int32.lt_iff_toInt_lt] at *; omega
theorem own_b3 {v A K : Int32} (h : ¬ (v < A)) (d : ¬ (A < K)) : ¬ (v < K) := by rw [Int32.lt_iff_toInt_lt] at *; omega
theorem own_b4 {v A K : Int32} (h : ¬ (v < A)) (d : K < A) : K < v := by rw [Int32.lt_iff_toInt_lt] at *; omega
theorem own_b5 {v A K : Int32} (h : A < v) (d : K.toInt ≤ A.toInt + 1) : ¬ (v < K) := by rw [Int32.lt_iff_toInt_lt] at *; omega
theorem own_b6 {v A K : Int32} (h : A < v) (d : ¬ (A < K)) : K < v := by rw [Int32.lt_iff_toInt_lt] at *; omega
theorem own_b7 {v A K : Int32} (h : ¬ (A < v)) (d : A < K) : v < K := by rw [Int32.lt_iff_toInt_lt] at *; omega
theorem own_b8 {v A K : Int32} (h : ¬ (A < v)) (d : ¬ (K < A)) : ¬ (K < v) := by rw [Int32.lt_iff_toInt_lt] at *; omega
theorem own_w {Z : State} {a0 : Array Value} (hw : ∀ d ∈ tables_1, d.before a0 Z = true) (i : Nat) {d : Jvm.Cond} (h : tables_1[i]? = some d) : d.before a0 Z = true := hw d (List.mem_of_getElem? h)
theorem own_fldI {args : Array Value} {s : State} {t : Term} {x : Addr} {C n d : String} {k : Int32} (ht : t.eval args s none [] s = some (.ref x)) (h : (Jvm.Cond.eq (.field t C n d) (.int k)).value args s none s [] = some true) : s.fieldOf? x C n d = some (.int k) := by
  obtain ⟨u, v, e1, e2, -, -⟩ := cmp_v (Or.inl h)
  have e3 : (Term.field t C n d).eval args s none [] s = s.fieldOf? x C n d := fld_at ht
  cases (show some (Value.int k) = some v from e2)
  rw [e3] at e1
  cases u <;> simp [Jvm.Cond.value, Term.eval, ht, e1] at h
  rw [e1, h]
theorem own_fldR {args : Array Value} {s : State} {t u : Term} {x y : Addr} {C n d : String} (ht : t.eval args s none [] s = some (.ref x)) (hu : u.eval args s none [] s = some (.ref y)) (h : (Jvm.Cond.eq (.field t C n d) u).value args s none s [] = some true) : s.fieldOf? x C n d = some (.ref y) := by
  obtain ⟨v, w, e1, e2, -, -⟩ := cmp_v (Or.inl h)
  have e3 : (Term.field t C n d).eval args s none [] s = s.fieldOf? x C n d := fld_at ht
  rw [e3] at e1
  cases v <;> simp [Jvm.Cond.value, Term.eval, ht, hu, e1] at h
  rw [e1, h]
theorem own_lat (x : Int32) : ¬ (x &&& (255 : Int32)) < 0 ∧ ¬ (255 : Int32) < (x &&& (255 : Int32)) := by
  have h := c_and x 255 (by decide)
  have e0 : (0 : Int32).toInt = 0 := by decide
  have e1 : (255 : Int32).toInt = 255 := by decide
  rw [e1] at h
  rw [Int32.lt_iff_toInt_lt, Int32.lt_iff_toInt_lt, e0, e1]
  omega
theorem own_up {cs : List Int32} (h : ∀ c ∈ cs, ¬ c < 0 ∧ ¬ (255 : Int32) < c) : ∀ c ∈ cs, ¬ c < 0 ∧ ¬ (65535 : Int32) < c := fun c hc => ⟨(h c hc).1, fun q => (h c hc).2 (by
  have e1 : (255 : Int32).toInt = 255 := by decide
  have e2 : (65535 : Int32).toInt = 65535 := by decide
  rw [Int32.lt_iff_toInt_lt] at q ⊢
  omega)⟩
theorem own_nar {x : Int32} (h : ¬ (x < (0 : Int32)) ∧ ¬ ((255 : Int32) < x)) : x.toUInt32.toUInt16.toUInt32.toInt32 = x := by
  have e1 : (255 : Int32).toInt = 255 := by decide
  have e0 : (0 : Int32).toInt = 0 := by decide
  have h1 := h.1
  have h2 := h.2
  rw [Int32.lt_iff_toInt_lt] at h1 h2
  have e : x = x &&& (255 : Int32) := by
    apply Int32.toInt_inj.mp
    have q := c_mask x 255 8 (by decide) (by decide)
    have q2 : ((2 ^ 8 : Nat) : Int) = 256 := by decide
    rw [q, q2]; omega
  rw [e]; exact i2c_mask x
theorem own_wordsLen : ∀ d ∈ StrChars.Road.wordsLen, d ∈ tables_1 := by decide +kernel
theorem own_wordsChN : ∀ d ∈ StrChars.Road.wordsChN, d ∈ tables_1 := by decide +kernel
theorem own_wordsEq : ∀ d ∈ StrChars.Road.wordsEq, d ∈ tables_1 := by decide +kernel
section OwnS
variable {p : Program} {l : Launch} {e : Env} {R : Room} {s : State} {args : Array Value} {below : List Frame} {Z : State} {a0 : Array Value} {EL : List (String × Nat)} {h : Heap} {vm0 : Vm}
theorem own_backS {y : MethodName} {bytes : ByteArray} {maxL : Nat} {ret : Option FieldType} {rm : Room} {len W : Nat} {as' : Array Value} {Q : Option Value → Heap → List Loc → Prop} {xs : List Addr}
    (hM : MetFree l y (head1 [Jvm.Cond.code y bytes maxL ret] rm) (fun a U => a = as' ∧ Z.Warmed39 U.vm ∧ U.heap = h ∧ CHv Z EL U.vm h ∧ ∀ x ∈ xs, Safe Z EL U.vm h x) (fun _ _ _ _ _ => True) (fun _ U o U' => ∃ v L, o = .returned v ∧ Q v U'.heap L ∧ CHr Z EL U.vm U.heap U'.vm U'.heap ∧ ReturnedEndW U o U' L rm.cells rm.slots))
    (hZ : Z.Warmed39 vm0) (wc : (Jvm.Cond.code y bytes maxL ret).before a0 Z = true) (wz : (Jvm.Cond.initialized y.cls).before a0 Z = true) (hf : rm.frames + 1 ≤ R.frames) (hl : W + (maxL + 11) + rm.locals ≤ R.locals) (hEL : EW Z a0 EL) (H : CHv Z EL vm0 h) (hxs : ∀ x ∈ xs, x < h.size ∧ Safe Z EL vm0 h x) :
    BackS l R p e below (s.setVm vm0) args y len W (fun A a => a = as' ∧ A.U.heap = h ∧ A.cells + rm.cells ≤ R.cells ∧ A.slots + rm.slots ≤ R.slots)
      (fun A _ v B => ∃ L, Q v B.U.heap L ∧ B.locs = A.locs ++ L ∧ B.cells = A.cells + rm.cells ∧ B.slots = A.slots + rm.slots ∧ CHr Z EL vm0 h B.U.vm B.U.heap) := by
  refine BackS.of_freeW (bytes := bytes) (maxL := maxL) (ret := ret) (E := fun _ first o t L k n => k = rm.cells ∧ n = rm.slots ∧ (∃ v, o = .returned v ∧ Q v t.heap L) ∧ CHr Z EL first.vm first.heap t.vm t.heap) hM hf hl ?_ ?_ (fun _ _ _ _ _ _ _ _ _ => trivial) ?_ ?_
  · intro m meth c A a Y hp
    have hU : Z.Warmed39 A.U.vm := wtrans (s := s.setVm vm0) hZ Y.warmed
    refine ⟨?_, mv hU wc, mv hU wz, hp.2.2.1, hp.2.2.2⟩
    show (Jvm.Cond.and _ .tt).before a A.U = true
    rw [Cond.before_and, mv hU wc]; rfl
  · intro m meth c A a g mk Y hp
    have C := CHv.at Y hZ hEL H
    exact ⟨hp.1, wtrans (s := s.setVm vm0) hZ Y.warmed, hp.2.1, C.1, fun x hx => C.safe (hxs x hx).1 (hxs x hx).2⟩
  · rintro _ _ _ _ ⟨v, L, h1, h2, h3, h4⟩
    exact ⟨L, _, _, h4, rfl, rfl, ⟨v, h1, h2⟩, h3⟩
  · rintro m meth c A a g mk v t L k n Y hp - - ⟨e1, e2, ⟨v', e3, e4⟩, e5⟩
    cases e3; subst e1 e2
    refine ⟨L, e4, rfl, rfl, rfl, (CHv.at Y hZ hEL H).trans ?_⟩
    rw [← hp.2.1]; exact e5
end OwnS
def own_EL : List (String × Nat) := [("java/lang/String", 7)]
theorem own_atoms : ∀ d ∈ Bundle.stringAtoms, d ∈ tables_1 := by decide +kernel
theorem own_EWof {Z : State} {a0 : Array Value} (hw : ∀ d ∈ tables_1, d.before a0 Z = true) : EW Z a0 own_EL := (EW.cons (own_w hw 18 rfl) (by decide) EW.nil)
theorem own_sub : ∀ p ∈ own_EL, p ∈ consts_1 := by decide +kernel
theorem own_narB (x : Int32) : nar .byte x.toInt8.toInt32 = x.toInt8.toInt32 := by
  show x.toInt8.toInt32.toInt8.toInt32 = _
  simp
theorem own_exane {Z : State} {h : Heap} {a b : Addr} {C D : String} (E : Exa Z h a C) (F : Exa Z h b D) (n : C ≠ D) : a ≠ b := by
  rintro rfl
  obtain ⟨c1, k1, h1, f1, -⟩ := E
  obtain ⟨c2, k2, h2, f2, -⟩ := F
  cases h1.symm.trans h2
  obtain ⟨x1, q1, r1⟩ := Vm.findClass_spec f1
  obtain ⟨x2, q2, r2⟩ := Vm.findClass_spec f2
  cases q1.symm.trans q2
  exact n (r1.symm.trans r2)
theorem own_arvne {Z : State} {h : Heap} {a0 : Array Value} {x b : Addr} {C : String} {n : Nat} {k : ClassId} {ty : FieldType} {z : Int32} {vs : List Value} {d : Value} (wi : (Jvm.Cond.instantiable C n).before a0 Z = true) (E : Exa Z h x C) (A : Arv Z h b k ty z vs d) : x ≠ b := by
  rintro rfl
  obtain ⟨c1, k1, h1, f1, g1, -⟩ := E
  obtain ⟨c2, ⟨h2, ⟨-, k2, g2, comp, kd⟩, -⟩, -⟩ := A
  cases h1.symm.trans h2
  obtain ⟨c3, k3, f3, g3, ko, -⟩ := Cond.instantiable_spec wi
  cases f1.symm.trans f3
  cases g2.symm.trans g3
  rw [kd] at ko
  cases ko
def own_len (cs : List Int32) : Int32 := Int32.ofNat cs.length
def own_vs (cs : List Int32) : List Value := cs.map fun c => Value.int c.toInt8.toInt32
def own_ok (cs : List Int32) : Prop := cs.length ≤ 2 ∧ ∀ c ∈ cs, ¬ c < 0 ∧ ¬ (255 : Int32) < c
def own_cs (x : Int32) : List Int32 :=
  if ((x &&& (3 : Int32)) % (3 : Int32)) = 0 then [] else if ((x &&& (3 : Int32)) % (3 : Int32)) = 1 then [(((x.toUInt32 >>> ((8 : Int32) &&& 31).toUInt32).toInt32) &&& (255 : Int32))] else [(((x.toUInt32 >>> ((8 : Int32) &&& 31).toUInt32).toInt32) &&& (255 : Int32)), (((x.toUInt32 >>> ((16 : Int32) &&& 31).toUInt32).toInt32) &&& (255 : Int32))]
theorem own_csok (x : Int32) : own_ok (own_cs x) := by
  unfold own_cs own_ok
  split
  · exact ⟨by decide, fun c hc => nomatch hc⟩
  · split
    · refine ⟨by simp, fun c hc => ?_⟩
      simp only [List.mem_cons, List.not_mem_nil, or_false] at hc
      subst hc; exact own_lat _
    · refine ⟨by simp, fun c hc => ?_⟩
      simp only [List.mem_cons, List.not_mem_nil, or_false] at hc
      rcases hc with rfl | rfl <;> exact own_lat _
def own_H : List Int32 → Int32
  | [] => 0
  | [c] => c.toInt8.toInt32 &&& (255 : Int32)
  | c :: d :: _ => (31 : Int32) * ((31 : Int32) * (0 : Int32) + (c.toInt8.toInt32 &&& (255 : Int32))) + (d.toInt8.toInt32 &&& (255 : Int32))
def own_eqI (cs ds : List Int32) : Int32 := if cs = ds then 1 else 0
theorem own_split {cs : List Int32} (h : own_ok cs) : cs = [] ∨ (∃ c, cs = [c]) ∨ ∃ c d, cs = [c, d] := by
  match cs, h.1 with
  | [], _ => exact Or.inl rfl
  | [c], _ => exact Or.inr (Or.inl ⟨c, rfl⟩)
  | [c, d], _ => exact Or.inr (Or.inr ⟨c, d, rfl⟩)
  | _ :: _ :: _ :: _, q => simp at q
theorem d0_0 : decode jdk_52_method_21_code 0 = .ok (.iconst 0, 1) := by decide +kernel
theorem d0_1 : decode jdk_52_method_21_code 1 = .ok (.istore 5, 2) := by decide +kernel
theorem d0_3 : decode jdk_52_method_21_code 3 = .ok (.iload 5, 2) := by decide +kernel
theorem d0_5 : decode jdk_52_method_21_code 5 = .ok (.iload 4, 2) := by decide +kernel
theorem d0_7 : decode jdk_52_method_21_code 7 = .ok (.if_icmp .ge 37, 3) := by decide +kernel
theorem d0_10 : decode jdk_52_method_21_code 10 = .ok (.aload_n 0, 1) := by decide +kernel
theorem d0_11 : decode jdk_52_method_21_code 11 = .ok (.iload_n 1, 1) := by decide +kernel
theorem d0_12 : decode jdk_52_method_21_code 12 = .ok (.caload, 1) := by decide +kernel
theorem d0_13 : decode jdk_52_method_21_code 13 = .ok (.istore 6, 2) := by decide +kernel
theorem d0_15 : decode jdk_52_method_21_code 15 = .ok (.iload 6, 2) := by decide +kernel
theorem d0_17 : decode jdk_52_method_21_code 17 = .ok (.sipush 255, 3) := by decide +kernel
theorem d0_20 : decode jdk_52_method_21_code 20 = .ok (.if_icmp .le 6, 3) := by decide +kernel
theorem d0_26 : decode jdk_52_method_21_code 26 = .ok (.aload_n 2, 1) := by decide +kernel
theorem d0_27 : decode jdk_52_method_21_code 27 = .ok (.iload_n 3, 1) := by decide +kernel
theorem d0_28 : decode jdk_52_method_21_code 28 = .ok (.iload 6, 2) := by decide +kernel
theorem d0_30 : decode jdk_52_method_21_code 30 = .ok (.i2b, 1) := by decide +kernel
theorem d0_31 : decode jdk_52_method_21_code 31 = .ok (.bastore, 1) := by decide +kernel
theorem d0_32 : decode jdk_52_method_21_code 32 = .ok (.iinc 1 1, 3) := by decide +kernel
theorem d0_35 : decode jdk_52_method_21_code 35 = .ok (.iinc 3 1, 3) := by decide +kernel
theorem d0_38 : decode jdk_52_method_21_code 38 = .ok (.iinc 5 1, 3) := by decide +kernel
theorem d0_41 : decode jdk_52_method_21_code 41 = .ok (.goto (-38), 3) := by decide +kernel
theorem d0_44 : decode jdk_52_method_21_code 44 = .ok (.iload 4, 2) := by decide +kernel
theorem d0_46 : decode jdk_52_method_21_code 46 = .ok (.ireturn, 1) := by decide +kernel
theorem pn_0 : plainName "java/lang/StringUTF16" = true := by first | (simp [plainName, overriddenIn]; done) | decide +kernel
theorem ef_rm_cpb1 (m : MethodId) (x0 : Addr) (x1 : Int32) (x2 : Addr) (x3 : Int32) (x4 : Int32) : entryFrame m #[(.ref x0), (.int x1), (.ref x2), (.int x3), (.int x4)] 7 = mkF m 0 #[.val (.ref x0), .val (.int x1), .val (.ref x2), .val (.int x3), .val (.int x4), .unset, .unset] [] := by first | (simp [entryFrame, mkF, argsToLocals, Value.category]; done) | rfl
def Q_rm_cpb1 (Z : State) (b : Addr) (kb : ClassId) (d : Addr) (kd : ClassId) (c0 : Int32) (h0 : Heap) (n0 : Nat) (v : Option Value) (h : Heap) (L : List Loc) : Prop := ((v = some (.int (1 : Int32))) ∧ (Fr n0 L) ∧ (Keep h0 h [d]) ∧ (Exa Z h d "[B") ∧ (Arv Z h d kd .byte (1 : Int32) [(.int c0.toInt8.toInt32)] (.int (0 : Int32))))
set_option maxRecDepth 65536 in
set_option maxHeartbeats 40000000 in
theorem rm_cpb1 (l : Launch) (Z : State) (a0 : Array Value) (hw : ∀ d ∈ tables_1, d.before a0 Z = true) (ws : List Jvm.Cond) (b : Addr) (kb : ClassId) (d : Addr) (kd : ClassId) (c0 : Int32) (h0 : Heap) (n0 : Nat) (O0 : Old Z n0 h0) (A_b : Arv Z h0 b kb .char (1 : Int32) [(.int c0)] (.int (0 : Int32))) (E_d : Exa Z h0 d "[B") (A_d : Arv Z h0 d kd .byte (1 : Int32) [(.int (0 : Int32))] (.int (0 : Int32))) (g_d : n0 ≤ d) (ne_bd : b ≠ d) (la_c0 : ¬ (c0 < (0 : Int32)) ∧ ¬ ((255 : Int32) < c0)) :
    MetFree l (⟨"java/lang/StringUTF16", "compress", "([CI[BII)I"⟩ : MethodName) (head1 (Jvm.Cond.code (⟨"java/lang/StringUTF16", "compress", "([CI[BII)I"⟩ : MethodName) jdk_52_method_21_code 7 (some .int) :: ws) ({ frames := 0, cells := 0, slots := 0, locals := 0 } : Room)) (fun a U => a = #[(.ref b), (.int (0 : Int32)), (.ref d), (.int (0 : Int32)), (.int (1 : Int32))] ∧ Z.Warmed39 U.vm ∧ U.heap = h0) (fun _ _ _ _ _ => True) (fun _ U o U' => ∃ v L, o = .returned v ∧ Q_rm_cpb1 Z b kb d kd c0 h0 n0 v U'.heap L ∧ FrameEnd U o U' L ({ frames := 0, cells := 0, slots := 0, locals := 0 } : Room).cells ({ frames := 0, cells := 0, slots := 0, locals := 0 } : Room).slots) := by
  refine MetFree.of_bodySF (plainFor_of_name pn_0) hisR ?_
  intro p e s m args below meth c s₁ Bd hml0 hP hK
  obtain ⟨rfl, hZ, hh⟩ := hP
  have hx := Bd.exec
  have hby := Bd.bytes
  have hml : c.maxLocals = 7 := hml0
  have hown : s.vm.findClass "java/lang/StringUTF16" = some m.cls := findClass_of_methodNamed Bd.named
  have hnm := (name_of_methodNamed Bd.named Bd.method).1
  have X0 : Stand p l e ({ frames := 0, cells := 0, slots := 0, locals := 0 } : Room) s m #[(.ref b), (.int (0 : Int32)), (.ref d), (.int (0 : Int32)), (.int (1 : Int32))] below meth c s₁ [] 0 0 := Stand.of_body Bd
  have e0 : s₁.heap = h0 := by rw [← hh, Bd.state]; rfl
  have N0 := Fr.nil n0
  have hwl : ∀ d ∈ StrChars.Road.wordsLen, d.before a0 Z = true := fun d hd => hw d (own_wordsLen d hd)
  have hwc : ∀ d ∈ StrChars.Road.wordsChN, d.before a0 Z = true := fun d hd => hw d (own_wordsChN d hd)
  have hwq : ∀ d ∈ StrChars.Road.wordsEq, d.before a0 Z = true := fun d hd => hw d (own_wordsEq d hd)
  have K0 : Keep h0 h0 [d] := Keep.refl _ _
  have pre0 : ∀ t, Steps p.tables e below (s₁.setTop (mkF m 0 #[.val (.ref b), .val (.int (0 : Int32)), .val (.ref d), .val (.int (0 : Int32)), .val (.int (1 : Int32)), .unset, .unset] [])) t → Steps p.tables e below (s₁.setTop (entryFrame m #[(.ref b), (.int (0 : Int32)), (.ref d), (.int (0 : Int32)), (.int (1 : Int32))] 7)) t := fun t k => castTop (ef_rm_cpb1 m b (0 : Int32) d (0 : Int32) (1 : Int32)) k
  obtain ⟨cl1, Ar1, q1, Sz1, Nn1, Hh1, Gg1⟩ := id A_b
  have in1 : ¬ ((0 : Int32) < 0 ∨ cl1.slots.size ≤ ((0 : Int32)).toNatClampNeg) := by exact inb_of Sz1 ⟨by decide, by decide⟩
  have at1 : cl1.slots[((0 : Int32)).toNatClampNeg]? = some (.int c0) := by
    refine Has.at Hh1 in1 ?_
    rfl
  obtain ⟨cl2, Ar2, q2, Sz2, Nn2, Hh2, Gg2⟩ := id A_d
  have in2 : ¬ ((0 : Int32) < 0 ∨ cl2.slots.size ≤ ((0 : Int32)).toNatClampNeg) := inb_of Sz2 ⟨by decide, by decide⟩
  obtain ⟨T2, h2, X2, e2, W2, st2⟩ := stB X0 hx hZ e0 Ar2 (j := (0 : Int32)) in2 (g := (mkF m 31 #[.val (.ref b), .val (.int (0 : Int32)), .val (.ref d), .val (.int (0 : Int32)), .val (.int (1 : Int32)), .val (.int (0 : Int32)), .val (.int c0)] [(.int (c0.toInt8.toInt32)), (.int (0 : Int32)), (.ref d)])) rfl rfl (hb hby d0_31)
  rw [show nar .byte (c0.toInt8.toInt32) = c0.toInt8.toInt32 from own_narB _] at W2
  have O3 := O0.wr W2 g_d
  have K4 : Keep h0 h2 [d] := K0.wr W2 (Or.inl (List.mem_of_getElem? (i := 0) rfl))
  have N5 := Fr.snoc X2 N0 g_d
  have F2 : Arv Z h2 d kd .byte (1 : Int32) [(.int c0.toInt8.toInt32)] (.int (0 : Int32)) := Arv.set Ar2 q2 Sz2 Nn2 Hh2 Gg2 (by rw [← (own_narB _ : nar .byte (c0.toInt8.toInt32) = c0.toInt8.toInt32)]; exact fits_nar_byte _) W2 0 rfl (Nat.le_of_ble_eq_true rfl)
  have S6 : ∀ t, Steps p.tables e below (T2.setTop (mkF m 46 #[.val (.ref b), .val (.int (1 : Int32)), .val (.ref d), .val (.int (1 : Int32)), .val (.int (1 : Int32)), .val (.int (1 : Int32)), .val (.int c0)] [(.int (1 : Int32))])) t → Steps p.tables e below (s₁.setTop (mkF m 0 #[.val (.ref b), .val (.int (0 : Int32)), .val (.ref d), .val (.int (0 : Int32)), .val (.int (1 : Int32)), .unset, .unset] [])) t := by
    intro t kt
    refine XS.iconst X0.here hx rfl (hb hby d0_0) ?_
    refine XS.istore X0.here hx rfl (hb hby d0_1) rfl (l' := #[.val (.ref b), .val (.int (0 : Int32)), .val (.ref d), .val (.int (0 : Int32)), .val (.int (1 : Int32)), .val (.int (0 : Int32)), .unset]) rfl ?_
    refine XS.iload X0.here hx rfl (hb hby d0_3) rfl ?_
    refine XS.iload X0.here hx rfl (hb hby d0_5) rfl ?_
    refine XS.icmpNo X0.here hx rfl (hb hby d0_7) rfl (tlt ((by decide) : (0 : Int32) < (1 : Int32))).2.1 ?_
    refine XS.aloadN X0.here hx rfl (hb hby d0_10) rfl rfl ?_
    refine XS.iloadN X0.here hx rfl (hb hby d0_11) rfl ?_
    show Steps p.tables e below (s₁.setTop (mkF m 12 #[.val (.ref b), .val (.int (0 : Int32)), .val (.ref d), .val (.int (0 : Int32)), .val (.int (1 : Int32)), .val (.int (0 : Int32)), .unset] [(.int (0 : Int32)), (.ref b)])) _
    refine X0.caload hx (j := (0 : Int32)) (v := (.int c0)) (by rw [e0]; exact Ar1.1) (State.isArrayOf_alike hZ.alike Ar1.2.1) Ar1.2.2 in1 at1 (g := (mkF m 12 #[.val (.ref b), .val (.int (0 : Int32)), .val (.ref d), .val (.int (0 : Int32)), .val (.int (1 : Int32)), .val (.int (0 : Int32)), .unset] [(.int (0 : Int32)), (.ref b)])) rfl rfl (hb hby d0_12) _ ?_
    refine XS.istore X0.here hx rfl (hb hby d0_13) rfl (l' := #[.val (.ref b), .val (.int (0 : Int32)), .val (.ref d), .val (.int (0 : Int32)), .val (.int (1 : Int32)), .val (.int (0 : Int32)), .val (.int c0)]) rfl ?_
    refine XS.iload X0.here hx rfl (hb hby d0_15) rfl ?_
    refine XS.sipush X0.here hx rfl (hb hby d0_17) ?_
    refine XS.icmpYes X0.here hx rfl (pc0 := 20) (pc' := 26) rfl (hb hby d0_20) rfl (flt (la_c0.2 : ¬ ((255 : Int32) < c0))).2.2.2 (by decide) (by decide) ?_
    refine XS.aloadN X0.here hx rfl (hb hby d0_26) rfl rfl ?_
    refine XS.iloadN X0.here hx rfl (hb hby d0_27) rfl ?_
    refine XS.iload X0.here hx rfl (hb hby d0_28) rfl ?_
    refine XS.i2b X0.here hx rfl (hb hby d0_30) rfl ?_
    show Steps p.tables e below (s₁.setTop (mkF m 31 #[.val (.ref b), .val (.int (0 : Int32)), .val (.ref d), .val (.int (0 : Int32)), .val (.int (1 : Int32)), .val (.int (0 : Int32)), .val (.int c0)] [(.int (c0.toInt8.toInt32)), (.int (0 : Int32)), (.ref d)])) _
    refine st2 _ ?_
    refine XS.iinc X2.here hx rfl (hb hby d0_32) rfl (l' := #[.val (.ref b), .val (.int (1 : Int32)), .val (.ref d), .val (.int (0 : Int32)), .val (.int (1 : Int32)), .val (.int (0 : Int32)), .val (.int c0)]) rfl ?_
    refine XS.iinc X2.here hx rfl (hb hby d0_35) rfl (l' := #[.val (.ref b), .val (.int (1 : Int32)), .val (.ref d), .val (.int (1 : Int32)), .val (.int (1 : Int32)), .val (.int (0 : Int32)), .val (.int c0)]) rfl ?_
    refine XS.iinc X2.here hx rfl (hb hby d0_38) rfl (l' := #[.val (.ref b), .val (.int (1 : Int32)), .val (.ref d), .val (.int (1 : Int32)), .val (.int (1 : Int32)), .val (.int (1 : Int32)), .val (.int c0)]) rfl ?_
    refine XS.goto X2.here hx rfl (pc0 := 41) (pc' := 3) rfl (hb hby d0_41) (by decide) (by decide) ?_
    refine XS.iload X2.here hx rfl (hb hby d0_3) rfl ?_
    refine XS.iload X2.here hx rfl (hb hby d0_5) rfl ?_
    refine XS.icmpYes X2.here hx rfl (pc0 := 7) (pc' := 44) rfl (hb hby d0_7) rfl (flt ((by decide) : ¬ ((1 : Int32) < (1 : Int32)))).2.1 (by decide) (by decide) ?_
    refine XS.iload X2.here hx rfl (hb hby d0_44) rfl ?_
    exact kt
  obtain ⟨fs, hr, hrun, hended, hW, hsame⟩ := X2.leave (v := some (.int (1 : Int32))) (fun h => by rw [Bd.returns] at h; cases h)
  have f7 := (Exa.wr W2 E_d)
  refine ⟨_, _, pre0 _ (S6 _ ?_), hrun, hended, _, _, rfl, ?_, ⟨_, rfl⟩, hW, hsame.mono (by decide) (by decide)⟩
  · exact retOut X2 hx Bd.returns rfl (Or.inl ⟨rfl, Or.inl rfl, _, rfl⟩) (hb hby d0_46) hr
  · show Q_rm_cpb1 Z b kb d kd c0 h0 n0 _ T2.heap _
    rw [e2]
    exact ⟨rfl, N5, K4, f7, F2⟩
theorem d1_0 : decode jdk_52_method_16_code 0 = .ok (.iload_n 2, 1) := by decide +kernel
theorem d1_1 : decode jdk_52_method_16_code 1 = .ok (.newarray .byte, 2) := by decide +kernel
theorem d1_3 : decode jdk_52_method_16_code 3 = .ok (.astore_n 3, 1) := by decide +kernel
theorem d1_4 : decode jdk_52_method_16_code 4 = .ok (.aload_n 0, 1) := by decide +kernel
theorem d1_5 : decode jdk_52_method_16_code 5 = .ok (.iload_n 1, 1) := by decide +kernel
theorem d1_6 : decode jdk_52_method_16_code 6 = .ok (.aload_n 3, 1) := by decide +kernel
theorem d1_7 : decode jdk_52_method_16_code 7 = .ok (.iconst 0, 1) := by decide +kernel
theorem d1_8 : decode jdk_52_method_16_code 8 = .ok (.iload_n 2, 1) := by decide +kernel
theorem d1_9 : decode jdk_52_method_16_code 9 = .ok (.invokestatic 115, 3) := by decide +kernel
theorem pd_0 : parseMethodDescriptor "([CI[BII)I" = some ⟨[(.array .char), .int, (.array .byte), .int, .int], some .int⟩ := by decide +kernel
theorem d1_12 : decode jdk_52_method_16_code 12 = .ok (.istore 4, 2) := by decide +kernel
theorem d1_14 : decode jdk_52_method_16_code 14 = .ok (.iload 4, 2) := by decide +kernel
theorem d1_16 : decode jdk_52_method_16_code 16 = .ok (.iload_n 2, 1) := by decide +kernel
theorem d1_17 : decode jdk_52_method_16_code 17 = .ok (.if_icmp .eq 40, 3) := by decide +kernel
theorem d1_57 : decode jdk_52_method_16_code 57 = .ok (.aload_n 3, 1) := by decide +kernel
theorem d1_58 : decode jdk_52_method_16_code 58 = .ok (.areturn, 1) := by decide +kernel
theorem ef_rm_cp1 (m : MethodId) (x0 : Addr) (x1 : Int32) (x2 : Int32) : entryFrame m #[(.ref x0), (.int x1), (.int x2)] 6 = mkF m 0 #[.val (.ref x0), .val (.int x1), .val (.int x2), .unset, .unset, .unset] [] := by first | (simp [entryFrame, mkF, argsToLocals, Value.category]; done) | rfl
def Q_rm_cp1 (Z : State) (b : Addr) (kb : ClassId) (c0 : Int32) (h0 : Heap) (n0 : Nat) (v : Option Value) (h : Heap) (L : List Loc) : Prop := (∃ (r : Addr) (kr : ClassId), (v = some (.ref r)) ∧ (Fr n0 L) ∧ (Keep h0 h []) ∧ (h0.size ≤ r) ∧ (Exa Z h r "[B") ∧ (Arv Z h r kr .byte (1 : Int32) [(.int c0.toInt8.toInt32)] (.int (0 : Int32))))
set_option maxRecDepth 65536 in
set_option maxHeartbeats 40000000 in
theorem rm_cp1 (l : Launch) (Z : State) (a0 : Array Value) (hw : ∀ d ∈ tables_1, d.before a0 Z = true) (ws : List Jvm.Cond) (b : Addr) (kb : ClassId) (c0 : Int32) (h0 : Heap) (n0 : Nat) (O0 : Old Z n0 h0) (A_b : Arv Z h0 b kb .char (1 : Int32) [(.int c0)] (.int (0 : Int32))) (la_c0 : ¬ (c0 < (0 : Int32)) ∧ ¬ ((255 : Int32) < c0)) :
    MetFree l (⟨"java/lang/StringUTF16", "compress", "([CII)[B"⟩ : MethodName) (head1 (Jvm.Cond.code (⟨"java/lang/StringUTF16", "compress", "([CII)[B"⟩ : MethodName) jdk_52_method_16_code 6 (some (.array .byte)) :: ws) ({ frames := 1, cells := 1, slots := 1, locals := 18 } : Room)) (fun a U => a = #[(.ref b), (.int (0 : Int32)), (.int (1 : Int32))] ∧ Z.Warmed39 U.vm ∧ U.heap = h0) (fun _ _ _ _ _ => True) (fun _ U o U' => ∃ v L, o = .returned v ∧ Q_rm_cp1 Z b kb c0 h0 n0 v U'.heap L ∧ FrameEnd U o U' L ({ frames := 1, cells := 1, slots := 1, locals := 18 } : Room).cells ({ frames := 1, cells := 1, slots := 1, locals := 18 } : Room).slots) := by
  refine MetFree.of_bodySF (plainFor_of_name pn_0) hisR ?_
  intro p e s m args below meth c s₁ Bd hml0 hP hK
  obtain ⟨rfl, hZ, hh⟩ := hP
  have hx := Bd.exec
  have hby := Bd.bytes
  have hml : c.maxLocals = 6 := hml0
  have hown : s.vm.findClass "java/lang/StringUTF16" = some m.cls := findClass_of_methodNamed Bd.named
  have hnm := (name_of_methodNamed Bd.named Bd.method).1
  have X0 : Stand p l e ({ frames := 1, cells := 1, slots := 1, locals := 18 } : Room) s m #[(.ref b), (.int (0 : Int32)), (.int (1 : Int32))] below meth c s₁ [] 0 0 := Stand.of_body Bd
  have e0 : s₁.heap = h0 := by rw [← hh, Bd.state]; rfl
  have N0 := Fr.nil n0
  have hwl : ∀ d ∈ StrChars.Road.wordsLen, d.before a0 Z = true := fun d hd => hw d (own_wordsLen d hd)
  have hwc : ∀ d ∈ StrChars.Road.wordsChN, d.before a0 Z = true := fun d hd => hw d (own_wordsChN d hd)
  have hwq : ∀ d ∈ StrChars.Road.wordsEq, d.before a0 Z = true := fun d hd => hw d (own_wordsEq d hd)
  have K0 : Keep h0 h0 [] := Keep.refl _ _
  have pre0 : ∀ t, Steps p.tables e below (s₁.setTop (mkF m 0 #[.val (.ref b), .val (.int (0 : Int32)), .val (.int (1 : Int32)), .unset, .unset, .unset] [])) t → Steps p.tables e below (s₁.setTop (entryFrame m #[(.ref b), (.int (0 : Int32)), (.int (1 : Int32))] 6)) t := fun t k => castTop (ef_rm_cp1 m b (0 : Int32) (1 : Int32)) k
  obtain ⟨T1, h1, k1, X1, e1, E1, A1, B1, st1⟩ := newPE X0 hx hZ (own_w hw 19 rfl) e0 (g := (mkF m 1 #[.val (.ref b), .val (.int (0 : Int32)), .val (.int (1 : Int32)), .unset, .unset, .unset] [(.int (1 : Int32))])) rfl (hb hby d1_1) rfl (by decide) (cap := 1) (by decide) (by decide) (by decide) (by decide) (ad := "[B") (by first | rfl | decide)
  obtain ⟨b1, g1⟩ : ∃ z, z = h0.size := ⟨_, rfl⟩
  have ge_b1 : n0 ≤ b1 := by rw [g1, ← O0.1]; exact O0.2.1
  have sz_b1 : h0.size ≤ b1 := by rw [g1]; exact K0.1
  have ne2 : b ≠ b1 := Nat.ne_of_lt (Nat.lt_of_lt_of_le (Arv.lt A_b) (Nat.le_of_eq g1.symm))
  rw [← g1] at A1 B1 st1
  have O3 := O0.ext E1
  have K4 : Keep h0 h1 [] := K0.ext E1
  have F1 : Arv Z h1 b1 k1 .byte (1 : Int32) [(.int (0 : Int32))] (.int (0 : Int32)) := (Arv.new A1 (by decide)).pad (pad_rep [] (.int (0 : Int32)) 1)
  have f6 := (Arv.ext A_b E1)
  obtain ⟨_, _, ⟨T5, L5, k5, n5⟩, -, X5, ⟨Lc5, hQ5, l5, y5, z5⟩, st5⟩ := Jvm.LawKit.callS X1 hx (y := (⟨"java/lang/StringUTF16", "compress", "([CI[BII)I"⟩ : MethodName)) hown (mvT hZ (own_w hw 93 rfl)) (mvT hZ (own_w hw 94 rfl)) (mvT hZ (own_w hw 91 rfl)) (mvT hZ (own_w hw 95 rfl)) (by decide) (backOf (W := 0) (rm_cpb1 l Z a0 hw [] b kb b1 k1 c0 h1 n0 O3 f6 B1 F1 ge_b1 ne2 la_c0) hZ (own_w hw 95 rfl) (own_w hw 91 rfl) (by decide) (by decide)) (g := (mkF m 9 #[.val (.ref b), .val (.int (0 : Int32)), .val (.int (1 : Int32)), .val (.ref b1), .unset, .unset] [(.int (1 : Int32)), (.int (0 : Int32)), (.ref b1), (.int (0 : Int32)), (.ref b)])) rfl (by rw [hml]; rfl) (argsL := [(.ref b), (.int (0 : Int32)), (.ref b1), (.int (0 : Int32)), (.int (1 : Int32))]) (rest := []) (lenOf pd_0 rfl) rfl (by show 2 * 0 + _ ≤ _; exact Nat.le_of_eq rfl) (hb hby d1_9) (fun _ _ => ⟨rfl, e1, (by decide : 1 + 0 ≤ _), (by decide : 1 + 0 ≤ _)⟩)
  dsimp only [Pt.U, Pt.locs, Pt.cells, Pt.slots] at X5 l5 y5 z5 st5 hQ5
  subst l5 y5 z5
  obtain ⟨rfl, N7, k8, f9, f10⟩ := hQ5
  have N11 := Fr.app N0 N7
  have O12 := O3.keep k8 (allS ge_b1 all0)
  have K13 : Keep h0 T5.heap [] := K4.trans k8 (allS (Or.inr sz_b1) all0)
  have S14 : ∀ t, Steps p.tables e below (T5.setTop (mkF m 58 #[.val (.ref b), .val (.int (0 : Int32)), .val (.int (1 : Int32)), .val (.ref b1), .val (.int (1 : Int32)), .unset] [(.ref b1)])) t → Steps p.tables e below (s₁.setTop (mkF m 0 #[.val (.ref b), .val (.int (0 : Int32)), .val (.int (1 : Int32)), .unset, .unset, .unset] [])) t := by
    intro t kt
    refine XS.iloadN X0.here hx rfl (hb hby d1_0) rfl ?_
    show Steps p.tables e below (s₁.setTop (mkF m 1 #[.val (.ref b), .val (.int (0 : Int32)), .val (.int (1 : Int32)), .unset, .unset, .unset] [(.int (1 : Int32))])) _
    refine st1 _ ?_
    refine XS.astoreN X1.here hx rfl (hb hby d1_3) rfl rfl (l' := #[.val (.ref b), .val (.int (0 : Int32)), .val (.int (1 : Int32)), .val (.ref b1), .unset, .unset]) rfl ?_
    refine XS.aloadN X1.here hx rfl (hb hby d1_4) rfl rfl ?_
    refine XS.iloadN X1.here hx rfl (hb hby d1_5) rfl ?_
    refine XS.aloadN X1.here hx rfl (hb hby d1_6) rfl rfl ?_
    refine XS.iconst X1.here hx rfl (hb hby d1_7) ?_
    refine XS.iloadN X1.here hx rfl (hb hby d1_8) rfl ?_
    show Steps p.tables e below (T1.setTop (mkF m 9 #[.val (.ref b), .val (.int (0 : Int32)), .val (.int (1 : Int32)), .val (.ref b1), .unset, .unset] [(.int (1 : Int32)), (.int (0 : Int32)), (.ref b1), (.int (0 : Int32)), (.ref b)])) _
    refine st5 _ ?_
    refine XS.istore X5.here hx rfl (hb hby d1_12) rfl (l' := #[.val (.ref b), .val (.int (0 : Int32)), .val (.int (1 : Int32)), .val (.ref b1), .val (.int (1 : Int32)), .unset]) rfl ?_
    refine XS.iload X5.here hx rfl (hb hby d1_14) rfl ?_
    refine XS.iloadN X5.here hx rfl (hb hby d1_16) rfl ?_
    refine XS.icmpYes X5.here hx rfl (pc0 := 17) (pc' := 57) rfl (hb hby d1_17) rfl (teq ((by decide) : (1 : Int32) = (1 : Int32))).1 (by decide) (by decide) ?_
    refine XS.aloadN X5.here hx rfl (hb hby d1_57) rfl rfl ?_
    exact kt
  obtain ⟨fs, hr, hrun, hended, hW, hsame⟩ := X5.leave (v := some (.ref b1)) (fun h => by rw [Bd.returns] at h; cases h)
  refine ⟨_, _, pre0 _ (S14 _ ?_), hrun, hended, _, _, rfl, ?_, ⟨_, rfl⟩, hW, hsame.mono (by decide) (by decide)⟩
  · exact retOut X5 hx Bd.returns rfl (Or.inr (Or.inr (Or.inr (Or.inr ⟨rfl, rfl, rfl⟩)))) (hb hby d1_58) hr
  · show Q_rm_cp1 Z b kb c0 h0 n0 _ T5.heap _
    exact ⟨b1, k1, rfl, N11, K13, sz_b1, f9, f10⟩
theorem d2_0 : decode jdk_52_method_15_code 0 = .ok (.iload_n 1, 1) := by decide +kernel
theorem d2_1 : decode jdk_52_method_15_code 1 = .ok (.aload_n 0, 1) := by decide +kernel
theorem d2_2 : decode jdk_52_method_15_code 2 = .ok (.arraylength, 1) := by decide +kernel
theorem d2_3 : decode jdk_52_method_15_code 3 = .ok (.isub, 1) := by decide +kernel
theorem d2_4 : decode jdk_52_method_15_code 4 = .ok (.bipush 31, 2) := by decide +kernel
theorem d2_6 : decode jdk_52_method_15_code 6 = .ok (.iushr, 1) := by decide +kernel
theorem d2_7 : decode jdk_52_method_15_code 7 = .ok (.i2b, 1) := by decide +kernel
theorem d2_8 : decode jdk_52_method_15_code 8 = .ok (.ireturn, 1) := by decide +kernel
theorem ef_rm_cf1 (m : MethodId) (x0 : Addr) (x1 : Int32) : entryFrame m #[(.ref x0), (.int x1)] 2 = mkF m 0 #[.val (.ref x0), .val (.int x1)] [] := by first | (simp [entryFrame, mkF, argsToLocals, Value.category]; done) | rfl
def Q_rm_cf1 (Z : State) (d : Addr) (kd : ClassId) (c0 : Int32) (h0 : Heap) (n0 : Nat) (v : Option Value) (h : Heap) (L : List Loc) : Prop := ((v = some (.int (0 : Int32))) ∧ (Fr n0 L) ∧ (h = h0))
set_option maxRecDepth 65536 in
set_option maxHeartbeats 40000000 in
theorem rm_cf1 (l : Launch) (Z : State) (a0 : Array Value) (hw : ∀ d ∈ tables_1, d.before a0 Z = true) (ws : List Jvm.Cond) (d : Addr) (kd : ClassId) (c0 : Int32) (h0 : Heap) (n0 : Nat) (O0 : Old Z n0 h0) (A_d : Arv Z h0 d kd .byte (1 : Int32) [(.int c0.toInt8.toInt32)] (.int (0 : Int32))) :
    MetFree l (⟨"java/lang/StringUTF16", "coderFromArrayLen", "([BI)B"⟩ : MethodName) (head1 (Jvm.Cond.code (⟨"java/lang/StringUTF16", "coderFromArrayLen", "([BI)B"⟩ : MethodName) jdk_52_method_15_code 2 (some .byte) :: ws) ({ frames := 0, cells := 0, slots := 0, locals := 0 } : Room)) (fun a U => a = #[(.ref d), (.int (1 : Int32))] ∧ Z.Warmed39 U.vm ∧ U.heap = h0) (fun _ _ _ _ _ => True) (fun _ U o U' => ∃ v L, o = .returned v ∧ Q_rm_cf1 Z d kd c0 h0 n0 v U'.heap L ∧ FrameEnd U o U' L ({ frames := 0, cells := 0, slots := 0, locals := 0 } : Room).cells ({ frames := 0, cells := 0, slots := 0, locals := 0 } : Room).slots) := by
  refine MetFree.of_bodySF (plainFor_of_name pn_0) hisR ?_
  intro p e s m args below meth c s₁ Bd hml0 hP hK
  obtain ⟨rfl, hZ, hh⟩ := hP
  have hx := Bd.exec
  have hby := Bd.bytes
  have hml : c.maxLocals = 2 := hml0
  have hown : s.vm.findClass "java/lang/StringUTF16" = some m.cls := findClass_of_methodNamed Bd.named
  have hnm := (name_of_methodNamed Bd.named Bd.method).1
  have X0 : Stand p l e ({ frames := 0, cells := 0, slots := 0, locals := 0 } : Room) s m #[(.ref d), (.int (1 : Int32))] below meth c s₁ [] 0 0 := Stand.of_body Bd
  have e0 : s₁.heap = h0 := by rw [← hh, Bd.state]; rfl
  have N0 := Fr.nil n0
  have hwl : ∀ d ∈ StrChars.Road.wordsLen, d.before a0 Z = true := fun d hd => hw d (own_wordsLen d hd)
  have hwc : ∀ d ∈ StrChars.Road.wordsChN, d.before a0 Z = true := fun d hd => hw d (own_wordsChN d hd)
  have hwq : ∀ d ∈ StrChars.Road.wordsEq, d.before a0 Z = true := fun d hd => hw d (own_wordsEq d hd)
  have pre0 : ∀ t, Steps p.tables e below (s₁.setTop (mkF m 0 #[.val (.ref d), .val (.int (1 : Int32))] [])) t → Steps p.tables e below (s₁.setTop (entryFrame m #[(.ref d), (.int (1 : Int32))] 2)) t := fun t k => castTop (ef_rm_cf1 m d (1 : Int32)) k
  obtain ⟨cl1, Ar1, -, Sz1, Nn1, -, -⟩ := id A_d
  have S2 : ∀ t, Steps p.tables e below (s₁.setTop (mkF m 8 #[.val (.ref d), .val (.int (1 : Int32))] [(.int (0 : Int32))])) t → Steps p.tables e below (s₁.setTop (mkF m 0 #[.val (.ref d), .val (.int (1 : Int32))] [])) t := by
    intro t kt
    refine XS.iloadN X0.here hx rfl (hb hby d2_0) rfl ?_
    refine XS.aloadN X0.here hx rfl (hb hby d2_1) rfl rfl ?_
    show Steps p.tables e below (s₁.setTop (mkF m 2 #[.val (.ref d), .val (.int (1 : Int32))] [(.ref d), (.int (1 : Int32))])) _
    refine X0.arraylength hx (by rw [e0]; exact Ar1.1) (State.isArrayOf_alike hZ.alike Ar1.2.1) (g := (mkF m 2 #[.val (.ref d), .val (.int (1 : Int32))] [(.ref d), (.int (1 : Int32))])) rfl rfl (hb hby d2_2) _ ?_
    rw [len_of Sz1 Nn1]
    refine XS.isub X0.here hx rfl (hb hby d2_3) rfl ?_
    refine XS.bipush X0.here hx rfl (hb hby d2_4) ?_
    refine XS.iushr X0.here hx rfl (hb hby d2_6) rfl ?_
    change Steps p.tables e below (s₁.setTop (mkF m 7 #[.val (.ref d), .val (.int (1 : Int32))] [(.int (((0 : Int32).toUInt32 >>> ((31 : Int32) &&& 31).toUInt32).toInt32))])) _
    rw [show (((0 : Int32).toUInt32 >>> ((31 : Int32) &&& 31).toUInt32).toInt32) = (0 : Int32) from by decide]
    refine XS.i2b X0.here hx rfl (hb hby d2_7) rfl ?_
    change Steps p.tables e below (s₁.setTop (mkF m 8 #[.val (.ref d), .val (.int (1 : Int32))] [(.int ((0 : Int32).toInt8.toInt32))])) _
    rw [show (0 : Int32).toInt8.toInt32 = (0 : Int32) from by decide]
    exact kt
  obtain ⟨fs, hr, hrun, hended, hW, hsame⟩ := X0.leave (v := some (.int (0 : Int32))) (fun h => by rw [Bd.returns] at h; cases h)
  refine ⟨_, _, pre0 _ (S2 _ ?_), hrun, hended, _, _, rfl, ?_, ⟨_, rfl⟩, hW, hsame.mono (by decide) (by decide)⟩
  · exact retN X0 hx (t := .byte) Bd.returns (by simp) (hb hby d2_8) hr
  · show Q_rm_cf1 Z d kd c0 h0 n0 _ s₁.heap _
    rw [e0]
    exact ⟨rfl, N0, rfl⟩
theorem ef_rm_cpb2 (m : MethodId) (x0 : Addr) (x1 : Int32) (x2 : Addr) (x3 : Int32) (x4 : Int32) : entryFrame m #[(.ref x0), (.int x1), (.ref x2), (.int x3), (.int x4)] 7 = mkF m 0 #[.val (.ref x0), .val (.int x1), .val (.ref x2), .val (.int x3), .val (.int x4), .unset, .unset] [] := by first | (simp [entryFrame, mkF, argsToLocals, Value.category]; done) | rfl
def Q_rm_cpb2 (Z : State) (b : Addr) (kb : ClassId) (d : Addr) (kd : ClassId) (c0 : Int32) (c1 : Int32) (h0 : Heap) (n0 : Nat) (v : Option Value) (h : Heap) (L : List Loc) : Prop := ((v = some (.int (2 : Int32))) ∧ (Fr n0 L) ∧ (Keep h0 h [d]) ∧ (Exa Z h d "[B") ∧ (Arv Z h d kd .byte (2 : Int32) [(.int c0.toInt8.toInt32), (.int c1.toInt8.toInt32)] (.int (0 : Int32))))
set_option maxRecDepth 65536 in
set_option maxHeartbeats 40000000 in
theorem rm_cpb2 (l : Launch) (Z : State) (a0 : Array Value) (hw : ∀ d ∈ tables_1, d.before a0 Z = true) (ws : List Jvm.Cond) (b : Addr) (kb : ClassId) (d : Addr) (kd : ClassId) (c0 : Int32) (c1 : Int32) (h0 : Heap) (n0 : Nat) (O0 : Old Z n0 h0) (A_b : Arv Z h0 b kb .char (2 : Int32) [(.int c0), (.int c1)] (.int (0 : Int32))) (E_d : Exa Z h0 d "[B") (A_d : Arv Z h0 d kd .byte (2 : Int32) [(.int (0 : Int32)), (.int (0 : Int32))] (.int (0 : Int32))) (g_d : n0 ≤ d) (ne_bd : b ≠ d) (la_c0 : ¬ (c0 < (0 : Int32)) ∧ ¬ ((255 : Int32) < c0)) (la_c1 : ¬ (c1 < (0 : Int32)) ∧ ¬ ((255 : Int32) < c1)) :
    MetFree l (⟨"java/lang/StringUTF16", "compress", "([CI[BII)I"⟩ : MethodName) (head1 (Jvm.Cond.code (⟨"java/lang/StringUTF16", "compress", "([CI[BII)I"⟩ : MethodName) jdk_52_method_21_code 7 (some .int) :: ws) ({ frames := 0, cells := 0, slots := 0, locals := 0 } : Room)) (fun a U => a = #[(.ref b), (.int (0 : Int32)), (.ref d), (.int (0 : Int32)), (.int (2 : Int32))] ∧ Z.Warmed39 U.vm ∧ U.heap = h0) (fun _ _ _ _ _ => True) (fun _ U o U' => ∃ v L, o = .returned v ∧ Q_rm_cpb2 Z b kb d kd c0 c1 h0 n0 v U'.heap L ∧ FrameEnd U o U' L ({ frames := 0, cells := 0, slots := 0, locals := 0 } : Room).cells ({ frames := 0, cells := 0, slots := 0, locals := 0 } : Room).slots) := by
  refine MetFree.of_bodySF (plainFor_of_name pn_0) hisR ?_
  intro p e s m args below meth c s₁ Bd hml0 hP hK
  obtain ⟨rfl, hZ, hh⟩ := hP
  have hx := Bd.exec
  have hby := Bd.bytes
  have hml : c.maxLocals = 7 := hml0
  have hown : s.vm.findClass "java/lang/StringUTF16" = some m.cls := findClass_of_methodNamed Bd.named
  have hnm := (name_of_methodNamed Bd.named Bd.method).1
  have X0 : Stand p l e ({ frames := 0, cells := 0, slots := 0, locals := 0 } : Room) s m #[(.ref b), (.int (0 : Int32)), (.ref d), (.int (0 : Int32)), (.int (2 : Int32))] below meth c s₁ [] 0 0 := Stand.of_body Bd
  have e0 : s₁.heap = h0 := by rw [← hh, Bd.state]; rfl
  have N0 := Fr.nil n0
  have hwl : ∀ d ∈ StrChars.Road.wordsLen, d.before a0 Z = true := fun d hd => hw d (own_wordsLen d hd)
  have hwc : ∀ d ∈ StrChars.Road.wordsChN, d.before a0 Z = true := fun d hd => hw d (own_wordsChN d hd)
  have hwq : ∀ d ∈ StrChars.Road.wordsEq, d.before a0 Z = true := fun d hd => hw d (own_wordsEq d hd)
  have K0 : Keep h0 h0 [d] := Keep.refl _ _
  have pre0 : ∀ t, Steps p.tables e below (s₁.setTop (mkF m 0 #[.val (.ref b), .val (.int (0 : Int32)), .val (.ref d), .val (.int (0 : Int32)), .val (.int (2 : Int32)), .unset, .unset] [])) t → Steps p.tables e below (s₁.setTop (entryFrame m #[(.ref b), (.int (0 : Int32)), (.ref d), (.int (0 : Int32)), (.int (2 : Int32))] 7)) t := fun t k => castTop (ef_rm_cpb2 m b (0 : Int32) d (0 : Int32) (2 : Int32)) k
  obtain ⟨cl1, Ar1, q1, Sz1, Nn1, Hh1, Gg1⟩ := id A_b
  have in1 : ¬ ((0 : Int32) < 0 ∨ cl1.slots.size ≤ ((0 : Int32)).toNatClampNeg) := by exact inb_of Sz1 ⟨by decide, by decide⟩
  have at1 : cl1.slots[((0 : Int32)).toNatClampNeg]? = some (.int c0) := by
    refine Has.at Hh1 in1 ?_
    rfl
  obtain ⟨cl2, Ar2, q2, Sz2, Nn2, Hh2, Gg2⟩ := id A_d
  have in2 : ¬ ((0 : Int32) < 0 ∨ cl2.slots.size ≤ ((0 : Int32)).toNatClampNeg) := inb_of Sz2 ⟨by decide, by decide⟩
  obtain ⟨T2, h2, X2, e2, W2, st2⟩ := stB X0 hx hZ e0 Ar2 (j := (0 : Int32)) in2 (g := (mkF m 31 #[.val (.ref b), .val (.int (0 : Int32)), .val (.ref d), .val (.int (0 : Int32)), .val (.int (2 : Int32)), .val (.int (0 : Int32)), .val (.int c0)] [(.int (c0.toInt8.toInt32)), (.int (0 : Int32)), (.ref d)])) rfl rfl (hb hby d0_31)
  rw [show nar .byte (c0.toInt8.toInt32) = c0.toInt8.toInt32 from own_narB _] at W2
  have O3 := O0.wr W2 g_d
  have K4 : Keep h0 h2 [d] := K0.wr W2 (Or.inl (List.mem_of_getElem? (i := 0) rfl))
  have N5 := Fr.snoc X2 N0 g_d
  have F2 : Arv Z h2 d kd .byte (2 : Int32) [(.int c0.toInt8.toInt32), (.int (0 : Int32))] (.int (0 : Int32)) := Arv.set Ar2 q2 Sz2 Nn2 Hh2 Gg2 (by rw [← (own_narB _ : nar .byte (c0.toInt8.toInt32) = c0.toInt8.toInt32)]; exact fits_nar_byte _) W2 0 rfl (Nat.le_of_ble_eq_true rfl)
  have f6 := (Arv.other A_b W2 ne_bd)
  obtain ⟨cl7, Ar7, q7, Sz7, Nn7, Hh7, Gg7⟩ := id f6
  have in7 : ¬ ((1 : Int32) < 0 ∨ cl7.slots.size ≤ ((1 : Int32)).toNatClampNeg) := by exact inb_of Sz7 ⟨by decide, by decide⟩
  have at7 : cl7.slots[((1 : Int32)).toNatClampNeg]? = some (.int c1) := by
    refine Has.at Hh7 in7 ?_
    rfl
  obtain ⟨cl8, Ar8, q8, Sz8, Nn8, Hh8, Gg8⟩ := id F2
  have in8 : ¬ ((1 : Int32) < 0 ∨ cl8.slots.size ≤ ((1 : Int32)).toNatClampNeg) := inb_of Sz8 ⟨by decide, by decide⟩
  obtain ⟨T8, h8, X8, e8, W8, st8⟩ := stB X2 hx hZ e2 Ar8 (j := (1 : Int32)) in8 (g := (mkF m 31 #[.val (.ref b), .val (.int (1 : Int32)), .val (.ref d), .val (.int (1 : Int32)), .val (.int (2 : Int32)), .val (.int (1 : Int32)), .val (.int c1)] [(.int (c1.toInt8.toInt32)), (.int (1 : Int32)), (.ref d)])) rfl rfl (hb hby d0_31)
  rw [show nar .byte (c1.toInt8.toInt32) = c1.toInt8.toInt32 from own_narB _] at W8
  have O9 := O3.wr W8 g_d
  have K10 : Keep h0 h8 [d] := K4.wr W8 (Or.inl (List.mem_of_getElem? (i := 0) rfl))
  have N11 := Fr.snoc X8 N5 g_d
  have F8 : Arv Z h8 d kd .byte (2 : Int32) [(.int c0.toInt8.toInt32), (.int c1.toInt8.toInt32)] (.int (0 : Int32)) := Arv.set Ar8 q8 Sz8 Nn8 Hh8 Gg8 (by rw [← (own_narB _ : nar .byte (c1.toInt8.toInt32) = c1.toInt8.toInt32)]; exact fits_nar_byte _) W8 1 rfl (Nat.le_of_ble_eq_true rfl)
  have S12 : ∀ t, Steps p.tables e below (T8.setTop (mkF m 46 #[.val (.ref b), .val (.int (2 : Int32)), .val (.ref d), .val (.int (2 : Int32)), .val (.int (2 : Int32)), .val (.int (2 : Int32)), .val (.int c1)] [(.int (2 : Int32))])) t → Steps p.tables e below (s₁.setTop (mkF m 0 #[.val (.ref b), .val (.int (0 : Int32)), .val (.ref d), .val (.int (0 : Int32)), .val (.int (2 : Int32)), .unset, .unset] [])) t := by
    intro t kt
    refine XS.iconst X0.here hx rfl (hb hby d0_0) ?_
    refine XS.istore X0.here hx rfl (hb hby d0_1) rfl (l' := #[.val (.ref b), .val (.int (0 : Int32)), .val (.ref d), .val (.int (0 : Int32)), .val (.int (2 : Int32)), .val (.int (0 : Int32)), .unset]) rfl ?_
    refine XS.iload X0.here hx rfl (hb hby d0_3) rfl ?_
    refine XS.iload X0.here hx rfl (hb hby d0_5) rfl ?_
    refine XS.icmpNo X0.here hx rfl (hb hby d0_7) rfl (tlt ((by decide) : (0 : Int32) < (2 : Int32))).2.1 ?_
    refine XS.aloadN X0.here hx rfl (hb hby d0_10) rfl rfl ?_
    refine XS.iloadN X0.here hx rfl (hb hby d0_11) rfl ?_
    show Steps p.tables e below (s₁.setTop (mkF m 12 #[.val (.ref b), .val (.int (0 : Int32)), .val (.ref d), .val (.int (0 : Int32)), .val (.int (2 : Int32)), .val (.int (0 : Int32)), .unset] [(.int (0 : Int32)), (.ref b)])) _
    refine X0.caload hx (j := (0 : Int32)) (v := (.int c0)) (by rw [e0]; exact Ar1.1) (State.isArrayOf_alike hZ.alike Ar1.2.1) Ar1.2.2 in1 at1 (g := (mkF m 12 #[.val (.ref b), .val (.int (0 : Int32)), .val (.ref d), .val (.int (0 : Int32)), .val (.int (2 : Int32)), .val (.int (0 : Int32)), .unset] [(.int (0 : Int32)), (.ref b)])) rfl rfl (hb hby d0_12) _ ?_
    refine XS.istore X0.here hx rfl (hb hby d0_13) rfl (l' := #[.val (.ref b), .val (.int (0 : Int32)), .val (.ref d), .val (.int (0 : Int32)), .val (.int (2 : Int32)), .val (.int (0 : Int32)), .val (.int c0)]) rfl ?_
    refine XS.iload X0.here hx rfl (hb hby d0_15) rfl ?_
    refine XS.sipush X0.here hx rfl (hb hby d0_17) ?_
    refine XS.icmpYes X0.here hx rfl (pc0 := 20) (pc' := 26) rfl (hb hby d0_20) rfl (flt (la_c0.2 : ¬ ((255 : Int32) < c0))).2.2.2 (by decide) (by decide) ?_
    refine XS.aloadN X0.here hx rfl (hb hby d0_26) rfl rfl ?_
    refine XS.iloadN X0.here hx rfl (hb hby d0_27) rfl ?_
    refine XS.iload X0.here hx rfl (hb hby d0_28) rfl ?_
    refine XS.i2b X0.here hx rfl (hb hby d0_30) rfl ?_
    show Steps p.tables e below (s₁.setTop (mkF m 31 #[.val (.ref b), .val (.int (0 : Int32)), .val (.ref d), .val (.int (0 : Int32)), .val (.int (2 : Int32)), .val (.int (0 : Int32)), .val (.int c0)] [(.int (c0.toInt8.toInt32)), (.int (0 : Int32)), (.ref d)])) _
    refine st2 _ ?_
    refine XS.iinc X2.here hx rfl (hb hby d0_32) rfl (l' := #[.val (.ref b), .val (.int (1 : Int32)), .val (.ref d), .val (.int (0 : Int32)), .val (.int (2 : Int32)), .val (.int (0 : Int32)), .val (.int c0)]) rfl ?_
    refine XS.iinc X2.here hx rfl (hb hby d0_35) rfl (l' := #[.val (.ref b), .val (.int (1 : Int32)), .val (.ref d), .val (.int (1 : Int32)), .val (.int (2 : Int32)), .val (.int (0 : Int32)), .val (.int c0)]) rfl ?_
    refine XS.iinc X2.here hx rfl (hb hby d0_38) rfl (l' := #[.val (.ref b), .val (.int (1 : Int32)), .val (.ref d), .val (.int (1 : Int32)), .val (.int (2 : Int32)), .val (.int (1 : Int32)), .val (.int c0)]) rfl ?_
    refine XS.goto X2.here hx rfl (pc0 := 41) (pc' := 3) rfl (hb hby d0_41) (by decide) (by decide) ?_
    refine XS.iload X2.here hx rfl (hb hby d0_3) rfl ?_
    refine XS.iload X2.here hx rfl (hb hby d0_5) rfl ?_
    refine XS.icmpNo X2.here hx rfl (hb hby d0_7) rfl (tlt ((by decide) : (1 : Int32) < (2 : Int32))).2.1 ?_
    refine XS.aloadN X2.here hx rfl (hb hby d0_10) rfl rfl ?_
    show Steps p.tables e below (T2.setTop (mkF m 11 #[.val (.ref b), .val (.int (1 : Int32)), .val (.ref d), .val (.int (1 : Int32)), .val (.int (2 : Int32)), .val (.int (1 : Int32)), .val (.int c0)] [(.ref b)])) _
    refine XS.iloadN X2.here hx rfl (hb hby d0_11) rfl ?_
    show Steps p.tables e below (T2.setTop (mkF m 12 #[.val (.ref b), .val (.int (1 : Int32)), .val (.ref d), .val (.int (1 : Int32)), .val (.int (2 : Int32)), .val (.int (1 : Int32)), .val (.int c0)] [(.int (1 : Int32)), (.ref b)])) _
    refine X2.caload hx (j := (1 : Int32)) (v := (.int c1)) (by rw [e2]; exact Ar7.1) (State.isArrayOf_alike hZ.alike Ar7.2.1) Ar7.2.2 in7 at7 (g := (mkF m 12 #[.val (.ref b), .val (.int (1 : Int32)), .val (.ref d), .val (.int (1 : Int32)), .val (.int (2 : Int32)), .val (.int (1 : Int32)), .val (.int c0)] [(.int (1 : Int32)), (.ref b)])) rfl rfl (hb hby d0_12) _ ?_
    refine XS.istore X2.here hx rfl (hb hby d0_13) rfl (l' := #[.val (.ref b), .val (.int (1 : Int32)), .val (.ref d), .val (.int (1 : Int32)), .val (.int (2 : Int32)), .val (.int (1 : Int32)), .val (.int c1)]) rfl ?_
    refine XS.iload X2.here hx rfl (hb hby d0_15) rfl ?_
    refine XS.sipush X2.here hx rfl (hb hby d0_17) ?_
    refine XS.icmpYes X2.here hx rfl (pc0 := 20) (pc' := 26) rfl (hb hby d0_20) rfl (flt (la_c1.2 : ¬ ((255 : Int32) < c1))).2.2.2 (by decide) (by decide) ?_
    refine XS.aloadN X2.here hx rfl (hb hby d0_26) rfl rfl ?_
    refine XS.iloadN X2.here hx rfl (hb hby d0_27) rfl ?_
    refine XS.iload X2.here hx rfl (hb hby d0_28) rfl ?_
    refine XS.i2b X2.here hx rfl (hb hby d0_30) rfl ?_
    show Steps p.tables e below (T2.setTop (mkF m 31 #[.val (.ref b), .val (.int (1 : Int32)), .val (.ref d), .val (.int (1 : Int32)), .val (.int (2 : Int32)), .val (.int (1 : Int32)), .val (.int c1)] [(.int (c1.toInt8.toInt32)), (.int (1 : Int32)), (.ref d)])) _
    refine st8 _ ?_
    refine XS.iinc X8.here hx rfl (hb hby d0_32) rfl (l' := #[.val (.ref b), .val (.int (2 : Int32)), .val (.ref d), .val (.int (1 : Int32)), .val (.int (2 : Int32)), .val (.int (1 : Int32)), .val (.int c1)]) rfl ?_
    refine XS.iinc X8.here hx rfl (hb hby d0_35) rfl (l' := #[.val (.ref b), .val (.int (2 : Int32)), .val (.ref d), .val (.int (2 : Int32)), .val (.int (2 : Int32)), .val (.int (1 : Int32)), .val (.int c1)]) rfl ?_
    refine XS.iinc X8.here hx rfl (hb hby d0_38) rfl (l' := #[.val (.ref b), .val (.int (2 : Int32)), .val (.ref d), .val (.int (2 : Int32)), .val (.int (2 : Int32)), .val (.int (2 : Int32)), .val (.int c1)]) rfl ?_
    refine XS.goto X8.here hx rfl (pc0 := 41) (pc' := 3) rfl (hb hby d0_41) (by decide) (by decide) ?_
    refine XS.iload X8.here hx rfl (hb hby d0_3) rfl ?_
    refine XS.iload X8.here hx rfl (hb hby d0_5) rfl ?_
    refine XS.icmpYes X8.here hx rfl (pc0 := 7) (pc' := 44) rfl (hb hby d0_7) rfl (flt ((by decide) : ¬ ((2 : Int32) < (2 : Int32)))).2.1 (by decide) (by decide) ?_
    refine XS.iload X8.here hx rfl (hb hby d0_44) rfl ?_
    exact kt
  obtain ⟨fs, hr, hrun, hended, hW, hsame⟩ := X8.leave (v := some (.int (2 : Int32))) (fun h => by rw [Bd.returns] at h; cases h)
  have f13 := (Exa.wr W8 (Exa.wr W2 E_d))
  refine ⟨_, _, pre0 _ (S12 _ ?_), hrun, hended, _, _, rfl, ?_, ⟨_, rfl⟩, hW, hsame.mono (by decide) (by decide)⟩
  · exact retOut X8 hx Bd.returns rfl (Or.inl ⟨rfl, Or.inl rfl, _, rfl⟩) (hb hby d0_46) hr
  · show Q_rm_cpb2 Z b kb d kd c0 c1 h0 n0 _ T8.heap _
    rw [e8]
    exact ⟨rfl, N11, K10, f13, F8⟩
theorem ef_rm_cp2 (m : MethodId) (x0 : Addr) (x1 : Int32) (x2 : Int32) : entryFrame m #[(.ref x0), (.int x1), (.int x2)] 6 = mkF m 0 #[.val (.ref x0), .val (.int x1), .val (.int x2), .unset, .unset, .unset] [] := by first | (simp [entryFrame, mkF, argsToLocals, Value.category]; done) | rfl
def Q_rm_cp2 (Z : State) (b : Addr) (kb : ClassId) (c0 : Int32) (c1 : Int32) (h0 : Heap) (n0 : Nat) (v : Option Value) (h : Heap) (L : List Loc) : Prop := (∃ (r : Addr) (kr : ClassId), (v = some (.ref r)) ∧ (Fr n0 L) ∧ (Keep h0 h []) ∧ (h0.size ≤ r) ∧ (Exa Z h r "[B") ∧ (Arv Z h r kr .byte (2 : Int32) [(.int c0.toInt8.toInt32), (.int c1.toInt8.toInt32)] (.int (0 : Int32))))
set_option maxRecDepth 65536 in
set_option maxHeartbeats 40000000 in
theorem rm_cp2 (l : Launch) (Z : State) (a0 : Array Value) (hw : ∀ d ∈ tables_1, d.before a0 Z = true) (ws : List Jvm.Cond) (b : Addr) (kb : ClassId) (c0 : Int32) (c1 : Int32) (h0 : Heap) (n0 : Nat) (O0 : Old Z n0 h0) (A_b : Arv Z h0 b kb .char (2 : Int32) [(.int c0), (.int c1)] (.int (0 : Int32))) (la_c0 : ¬ (c0 < (0 : Int32)) ∧ ¬ ((255 : Int32) < c0)) (la_c1 : ¬ (c1 < (0 : Int32)) ∧ ¬ ((255 : Int32) < c1)) :
    MetFree l (⟨"java/lang/StringUTF16", "compress", "([CII)[B"⟩ : MethodName) (head1 (Jvm.Cond.code (⟨"java/lang/StringUTF16", "compress", "([CII)[B"⟩ : MethodName) jdk_52_method_16_code 6 (some (.array .byte)) :: ws) ({ frames := 1, cells := 1, slots := 2, locals := 18 } : Room)) (fun a U => a = #[(.ref b), (.int (0 : Int32)), (.int (2 : Int32))] ∧ Z.Warmed39 U.vm ∧ U.heap = h0) (fun _ _ _ _ _ => True) (fun _ U o U' => ∃ v L, o = .returned v ∧ Q_rm_cp2 Z b kb c0 c1 h0 n0 v U'.heap L ∧ FrameEnd U o U' L ({ frames := 1, cells := 1, slots := 2, locals := 18 } : Room).cells ({ frames := 1, cells := 1, slots := 2, locals := 18 } : Room).slots) := by
  refine MetFree.of_bodySF (plainFor_of_name pn_0) hisR ?_
  intro p e s m args below meth c s₁ Bd hml0 hP hK
  obtain ⟨rfl, hZ, hh⟩ := hP
  have hx := Bd.exec
  have hby := Bd.bytes
  have hml : c.maxLocals = 6 := hml0
  have hown : s.vm.findClass "java/lang/StringUTF16" = some m.cls := findClass_of_methodNamed Bd.named
  have hnm := (name_of_methodNamed Bd.named Bd.method).1
  have X0 : Stand p l e ({ frames := 1, cells := 1, slots := 2, locals := 18 } : Room) s m #[(.ref b), (.int (0 : Int32)), (.int (2 : Int32))] below meth c s₁ [] 0 0 := Stand.of_body Bd
  have e0 : s₁.heap = h0 := by rw [← hh, Bd.state]; rfl
  have N0 := Fr.nil n0
  have hwl : ∀ d ∈ StrChars.Road.wordsLen, d.before a0 Z = true := fun d hd => hw d (own_wordsLen d hd)
  have hwc : ∀ d ∈ StrChars.Road.wordsChN, d.before a0 Z = true := fun d hd => hw d (own_wordsChN d hd)
  have hwq : ∀ d ∈ StrChars.Road.wordsEq, d.before a0 Z = true := fun d hd => hw d (own_wordsEq d hd)
  have K0 : Keep h0 h0 [] := Keep.refl _ _
  have pre0 : ∀ t, Steps p.tables e below (s₁.setTop (mkF m 0 #[.val (.ref b), .val (.int (0 : Int32)), .val (.int (2 : Int32)), .unset, .unset, .unset] [])) t → Steps p.tables e below (s₁.setTop (entryFrame m #[(.ref b), (.int (0 : Int32)), (.int (2 : Int32))] 6)) t := fun t k => castTop (ef_rm_cp2 m b (0 : Int32) (2 : Int32)) k
  obtain ⟨T1, h1, k1, X1, e1, E1, A1, B1, st1⟩ := newPE X0 hx hZ (own_w hw 19 rfl) e0 (g := (mkF m 1 #[.val (.ref b), .val (.int (0 : Int32)), .val (.int (2 : Int32)), .unset, .unset, .unset] [(.int (2 : Int32))])) rfl (hb hby d1_1) rfl (by decide) (cap := 2) (by decide) (by decide) (by decide) (by decide) (ad := "[B") (by first | rfl | decide)
  obtain ⟨b1, g1⟩ : ∃ z, z = h0.size := ⟨_, rfl⟩
  have ge_b1 : n0 ≤ b1 := by rw [g1, ← O0.1]; exact O0.2.1
  have sz_b1 : h0.size ≤ b1 := by rw [g1]; exact K0.1
  have ne2 : b ≠ b1 := Nat.ne_of_lt (Nat.lt_of_lt_of_le (Arv.lt A_b) (Nat.le_of_eq g1.symm))
  rw [← g1] at A1 B1 st1
  have O3 := O0.ext E1
  have K4 : Keep h0 h1 [] := K0.ext E1
  have F1 : Arv Z h1 b1 k1 .byte (2 : Int32) [(.int (0 : Int32)), (.int (0 : Int32))] (.int (0 : Int32)) := (Arv.new A1 (by decide)).pad (pad_rep [] (.int (0 : Int32)) 2)
  have f6 := (Arv.ext A_b E1)
  obtain ⟨_, _, ⟨T5, L5, k5, n5⟩, -, X5, ⟨Lc5, hQ5, l5, y5, z5⟩, st5⟩ := Jvm.LawKit.callS X1 hx (y := (⟨"java/lang/StringUTF16", "compress", "([CI[BII)I"⟩ : MethodName)) hown (mvT hZ (own_w hw 93 rfl)) (mvT hZ (own_w hw 94 rfl)) (mvT hZ (own_w hw 91 rfl)) (mvT hZ (own_w hw 95 rfl)) (by decide) (backOf (W := 0) (rm_cpb2 l Z a0 hw [] b kb b1 k1 c0 c1 h1 n0 O3 f6 B1 F1 ge_b1 ne2 la_c0 la_c1) hZ (own_w hw 95 rfl) (own_w hw 91 rfl) (by decide) (by decide)) (g := (mkF m 9 #[.val (.ref b), .val (.int (0 : Int32)), .val (.int (2 : Int32)), .val (.ref b1), .unset, .unset] [(.int (2 : Int32)), (.int (0 : Int32)), (.ref b1), (.int (0 : Int32)), (.ref b)])) rfl (by rw [hml]; rfl) (argsL := [(.ref b), (.int (0 : Int32)), (.ref b1), (.int (0 : Int32)), (.int (2 : Int32))]) (rest := []) (lenOf pd_0 rfl) rfl (by show 2 * 0 + _ ≤ _; exact Nat.le_of_eq rfl) (hb hby d1_9) (fun _ _ => ⟨rfl, e1, (by decide : 1 + 0 ≤ _), (by decide : 2 + 0 ≤ _)⟩)
  dsimp only [Pt.U, Pt.locs, Pt.cells, Pt.slots] at X5 l5 y5 z5 st5 hQ5
  subst l5 y5 z5
  obtain ⟨rfl, N7, k8, f9, f10⟩ := hQ5
  have N11 := Fr.app N0 N7
  have O12 := O3.keep k8 (allS ge_b1 all0)
  have K13 : Keep h0 T5.heap [] := K4.trans k8 (allS (Or.inr sz_b1) all0)
  have S14 : ∀ t, Steps p.tables e below (T5.setTop (mkF m 58 #[.val (.ref b), .val (.int (0 : Int32)), .val (.int (2 : Int32)), .val (.ref b1), .val (.int (2 : Int32)), .unset] [(.ref b1)])) t → Steps p.tables e below (s₁.setTop (mkF m 0 #[.val (.ref b), .val (.int (0 : Int32)), .val (.int (2 : Int32)), .unset, .unset, .unset] [])) t := by
    intro t kt
    refine XS.iloadN X0.here hx rfl (hb hby d1_0) rfl ?_
    show Steps p.tables e below (s₁.setTop (mkF m 1 #[.val (.ref b), .val (.int (0 : Int32)), .val (.int (2 : Int32)), .unset, .unset, .unset] [(.int (2 : Int32))])) _
    refine st1 _ ?_
    refine XS.astoreN X1.here hx rfl (hb hby d1_3) rfl rfl (l' := #[.val (.ref b), .val (.int (0 : Int32)), .val (.int (2 : Int32)), .val (.ref b1), .unset, .unset]) rfl ?_
    refine XS.aloadN X1.here hx rfl (hb hby d1_4) rfl rfl ?_
    refine XS.iloadN X1.here hx rfl (hb hby d1_5) rfl ?_
    refine XS.aloadN X1.here hx rfl (hb hby d1_6) rfl rfl ?_
    refine XS.iconst X1.here hx rfl (hb hby d1_7) ?_
    refine XS.iloadN X1.here hx rfl (hb hby d1_8) rfl ?_
    show Steps p.tables e below (T1.setTop (mkF m 9 #[.val (.ref b), .val (.int (0 : Int32)), .val (.int (2 : Int32)), .val (.ref b1), .unset, .unset] [(.int (2 : Int32)), (.int (0 : Int32)), (.ref b1), (.int (0 : Int32)), (.ref b)])) _
    refine st5 _ ?_
    refine XS.istore X5.here hx rfl (hb hby d1_12) rfl (l' := #[.val (.ref b), .val (.int (0 : Int32)), .val (.int (2 : Int32)), .val (.ref b1), .val (.int (2 : Int32)), .unset]) rfl ?_
    refine XS.iload X5.here hx rfl (hb hby d1_14) rfl ?_
    refine XS.iloadN X5.here hx rfl (hb hby d1_16) rfl ?_
    refine XS.icmpYes X5.here hx rfl (pc0 := 17) (pc' := 57) rfl (hb hby d1_17) rfl (teq ((by decide) : (2 : Int32) = (2 : Int32))).1 (by decide) (by decide) ?_
    refine XS.aloadN X5.here hx rfl (hb hby d1_57) rfl rfl ?_
    exact kt
  obtain ⟨fs, hr, hrun, hended, hW, hsame⟩ := X5.leave (v := some (.ref b1)) (fun h => by rw [Bd.returns] at h; cases h)
  refine ⟨_, _, pre0 _ (S14 _ ?_), hrun, hended, _, _, rfl, ?_, ⟨_, rfl⟩, hW, hsame.mono (by decide) (by decide)⟩
  · exact retOut X5 hx Bd.returns rfl (Or.inr (Or.inr (Or.inr (Or.inr ⟨rfl, rfl, rfl⟩)))) (hb hby d1_58) hr
  · show Q_rm_cp2 Z b kb c0 c1 h0 n0 _ T5.heap _
    exact ⟨b1, k1, rfl, N11, K13, sz_b1, f9, f10⟩
theorem ef_rm_cf2 (m : MethodId) (x0 : Addr) (x1 : Int32) : entryFrame m #[(.ref x0), (.int x1)] 2 = mkF m 0 #[.val (.ref x0), .val (.int x1)] [] := by first | (simp [entryFrame, mkF, argsToLocals, Value.category]; done) | rfl
def Q_rm_cf2 (Z : State) (d : Addr) (kd : ClassId) (c0 : Int32) (c1 : Int32) (h0 : Heap) (n0 : Nat) (v : Option Value) (h : Heap) (L : List Loc) : Prop := ((v = some (.int (0 : Int32))) ∧ (Fr n0 L) ∧ (h = h0))
set_option maxRecDepth 65536 in
set_option maxHeartbeats 40000000 in
theorem rm_cf2 (l : Launch) (Z : State) (a0 : Array Value) (hw : ∀ d ∈ tables_1, d.before a0 Z = true) (ws : List Jvm.Cond) (d : Addr) (kd : ClassId) (c0 : Int32) (c1 : Int32) (h0 : Heap) (n0 : Nat) (O0 : Old Z n0 h0) (A_d : Arv Z h0 d kd .byte (2 : Int32) [(.int c0.toInt8.toInt32), (.int c1.toInt8.toInt32)] (.int (0 : Int32))) :
    MetFree l (⟨"java/lang/StringUTF16", "coderFromArrayLen", "([BI)B"⟩ : MethodName) (head1 (Jvm.Cond.code (⟨"java/lang/StringUTF16", "coderFromArrayLen", "([BI)B"⟩ : MethodName) jdk_52_method_15_code 2 (some .byte) :: ws) ({ frames := 0, cells := 0, slots := 0, locals := 0 } : Room)) (fun a U => a = #[(.ref d), (.int (2 : Int32))] ∧ Z.Warmed39 U.vm ∧ U.heap = h0) (fun _ _ _ _ _ => True) (fun _ U o U' => ∃ v L, o = .returned v ∧ Q_rm_cf2 Z d kd c0 c1 h0 n0 v U'.heap L ∧ FrameEnd U o U' L ({ frames := 0, cells := 0, slots := 0, locals := 0 } : Room).cells ({ frames := 0, cells := 0, slots := 0, locals := 0 } : Room).slots) := by
  refine MetFree.of_bodySF (plainFor_of_name pn_0) hisR ?_
  intro p e s m args below meth c s₁ Bd hml0 hP hK
  obtain ⟨rfl, hZ, hh⟩ := hP
  have hx := Bd.exec
  have hby := Bd.bytes
  have hml : c.maxLocals = 2 := hml0
  have hown : s.vm.findClass "java/lang/StringUTF16" = some m.cls := findClass_of_methodNamed Bd.named
  have hnm := (name_of_methodNamed Bd.named Bd.method).1
  have X0 : Stand p l e ({ frames := 0, cells := 0, slots := 0, locals := 0 } : Room) s m #[(.ref d), (.int (2 : Int32))] below meth c s₁ [] 0 0 := Stand.of_body Bd
  have e0 : s₁.heap = h0 := by rw [← hh, Bd.state]; rfl
  have N0 := Fr.nil n0
  have hwl : ∀ d ∈ StrChars.Road.wordsLen, d.before a0 Z = true := fun d hd => hw d (own_wordsLen d hd)
  have hwc : ∀ d ∈ StrChars.Road.wordsChN, d.before a0 Z = true := fun d hd => hw d (own_wordsChN d hd)
  have hwq : ∀ d ∈ StrChars.Road.wordsEq, d.before a0 Z = true := fun d hd => hw d (own_wordsEq d hd)
  have pre0 : ∀ t, Steps p.tables e below (s₁.setTop (mkF m 0 #[.val (.ref d), .val (.int (2 : Int32))] [])) t → Steps p.tables e below (s₁.setTop (entryFrame m #[(.ref d), (.int (2 : Int32))] 2)) t := fun t k => castTop (ef_rm_cf2 m d (2 : Int32)) k
  obtain ⟨cl1, Ar1, -, Sz1, Nn1, -, -⟩ := id A_d
  have S2 : ∀ t, Steps p.tables e below (s₁.setTop (mkF m 8 #[.val (.ref d), .val (.int (2 : Int32))] [(.int (0 : Int32))])) t → Steps p.tables e below (s₁.setTop (mkF m 0 #[.val (.ref d), .val (.int (2 : Int32))] [])) t := by
    intro t kt
    refine XS.iloadN X0.here hx rfl (hb hby d2_0) rfl ?_
    refine XS.aloadN X0.here hx rfl (hb hby d2_1) rfl rfl ?_
    show Steps p.tables e below (s₁.setTop (mkF m 2 #[.val (.ref d), .val (.int (2 : Int32))] [(.ref d), (.int (2 : Int32))])) _
    refine X0.arraylength hx (by rw [e0]; exact Ar1.1) (State.isArrayOf_alike hZ.alike Ar1.2.1) (g := (mkF m 2 #[.val (.ref d), .val (.int (2 : Int32))] [(.ref d), (.int (2 : Int32))])) rfl rfl (hb hby d2_2) _ ?_
    rw [len_of Sz1 Nn1]
    refine XS.isub X0.here hx rfl (hb hby d2_3) rfl ?_
    refine XS.bipush X0.here hx rfl (hb hby d2_4) ?_
    refine XS.iushr X0.here hx rfl (hb hby d2_6) rfl ?_
    change Steps p.tables e below (s₁.setTop (mkF m 7 #[.val (.ref d), .val (.int (2 : Int32))] [(.int (((0 : Int32).toUInt32 >>> ((31 : Int32) &&& 31).toUInt32).toInt32))])) _
    rw [show (((0 : Int32).toUInt32 >>> ((31 : Int32) &&& 31).toUInt32).toInt32) = (0 : Int32) from by decide]
    refine XS.i2b X0.here hx rfl (hb hby d2_7) rfl ?_
    change Steps p.tables e below (s₁.setTop (mkF m 8 #[.val (.ref d), .val (.int (2 : Int32))] [(.int ((0 : Int32).toInt8.toInt32))])) _
    rw [show (0 : Int32).toInt8.toInt32 = (0 : Int32) from by decide]
    exact kt
  obtain ⟨fs, hr, hrun, hended, hW, hsame⟩ := X0.leave (v := some (.int (0 : Int32))) (fun h => by rw [Bd.returns] at h; cases h)
  refine ⟨_, _, pre0 _ (S2 _ ?_), hrun, hended, _, _, rfl, ?_, ⟨_, rfl⟩, hW, hsame.mono (by decide) (by decide)⟩
  · exact retN X0 hx (t := .byte) Bd.returns (by simp) (hb hby d2_8) hr
  · show Q_rm_cf2 Z d kd c0 c1 h0 n0 _ s₁.heap _
    rw [e0]
    exact ⟨rfl, N0, rfl⟩
theorem d3_0 : decode jdk_42_method_149_code 0 = .ok (.aload_n 0, 1) := by decide +kernel
theorem d3_1 : decode jdk_42_method_149_code 1 = .ok (.invokespecial 1, 3) := by decide +kernel
theorem d3_4 : decode jdk_42_method_149_code 4 = .ok (.iload_n 3, 1) := by decide +kernel
theorem d3_5 : decode jdk_42_method_149_code 5 = .ok (.ifCond .ne 22, 3) := by decide +kernel
theorem d3_8 : decode jdk_42_method_149_code 8 = .ok (.aload_n 0, 1) := by decide +kernel
theorem d3_9 : decode jdk_42_method_149_code 9 = .ok (.ldc 7, 2) := by decide +kernel
theorem d3_11 : decode jdk_42_method_149_code 11 = .ok (.getfield 9, 3) := by decide +kernel
theorem d3_14 : decode jdk_42_method_149_code 14 = .ok (.putfield 9, 3) := by decide +kernel
theorem d3_17 : decode jdk_42_method_149_code 17 = .ok (.aload_n 0, 1) := by decide +kernel
theorem d3_18 : decode jdk_42_method_149_code 18 = .ok (.ldc 7, 2) := by decide +kernel
theorem d3_20 : decode jdk_42_method_149_code 20 = .ok (.getfield 15, 3) := by decide +kernel
theorem d3_23 : decode jdk_42_method_149_code 23 = .ok (.putfield 15, 3) := by decide +kernel
theorem d3_26 : decode jdk_42_method_149_code 26 = .ok (.return_, 1) := by decide +kernel
theorem pn_1 : plainName "java/lang/String" = true := by first | (simp [plainName, overriddenIn]; done) | decide +kernel
theorem ef_rm_siv0 (m : MethodId) (x0 : Addr) (x1 : Addr) (x2 : Int32) (x3 : Int32) : entryFrame m #[(.ref x0), (.ref x1), (.int x2), (.int x3), .null] 6 = mkF m 0 #[.val (.ref x0), .val (.ref x1), .val (.int x2), .val (.int x3), .val .null, .unset] [] := by first | (simp [entryFrame, mkF, argsToLocals, Value.category]; done) | rfl
def Q_rm_siv0 (Z : State) (x : Addr) (b : Addr) (h0 : Heap) (n0 : Nat) (v : Option Value) (h : Heap) (L : List Loc) : Prop := (∃ (tb : Addr) (kt : ClassId), (v = none) ∧ (Fr n0 L) ∧ (Keep h0 h [x]) ∧ (Exa Z h x "java/lang/String") ∧ (Fld Z h x "java/lang/String" "value" "[B" (.ref tb)) ∧ (Fld Z h x "java/lang/String" "coder" "B" (.int (0 : Int32))) ∧ (Fld Z h x "java/lang/String" "hash" "I" (.int (0 : Int32))) ∧ (Fld Z h x "java/lang/String" "hashIsZero" "Z" (.int (0 : Int32))) ∧ (Arv Z h tb kt .byte (0 : Int32) [] (.int (0 : Int32))))
set_option maxRecDepth 65536 in
set_option maxHeartbeats 40000000 in
theorem rm_siv0 (l : Launch) (Z : State) (a0 : Array Value) (hw : ∀ d ∈ tables_1, d.before a0 Z = true) (ws : List Jvm.Cond) (x : Addr) (b : Addr) (h0 : Heap) (n0 : Nat) (O0 : Old Z n0 h0) (E_x : Exa Z h0 x "java/lang/String") (V_x : Fld Z h0 x "java/lang/String" "value" "[B" .null) (C_x : Fld Z h0 x "java/lang/String" "coder" "B" (.int (0 : Int32))) (H_x : Fld Z h0 x "java/lang/String" "hash" "I" (.int (0 : Int32))) (Z_x : Fld Z h0 x "java/lang/String" "hashIsZero" "Z" (.int (0 : Int32))) (g_x : n0 ≤ x) :
    MetFree l (⟨"java/lang/String", "<init>", "([CIILjava/lang/Void;)V"⟩ : MethodName) (head1 (Jvm.Cond.code (⟨"java/lang/String", "<init>", "([CIILjava/lang/Void;)V"⟩ : MethodName) jdk_42_method_149_code 6 none :: ws) ({ frames := 1, cells := 4, slots := 8, locals := 12 } : Room)) (fun a U => a = #[(.ref x), (.ref b), (.int (0 : Int32)), (.int (0 : Int32)), .null] ∧ Z.Warmed39 U.vm ∧ U.heap = h0 ∧ CHv Z own_EL U.vm h0 ∧ ∀ own_y ∈ ([x] : List Addr), Safe Z own_EL U.vm h0 own_y) (fun _ _ _ _ _ => True) (fun _ U o U' => ∃ v L, o = .returned v ∧ Q_rm_siv0 Z x b h0 n0 v U'.heap L ∧ CHr Z own_EL U.vm U.heap U'.vm U'.heap ∧ ReturnedEndW U o U' L ({ frames := 1, cells := 4, slots := 8, locals := 12 } : Room).cells ({ frames := 1, cells := 4, slots := 8, locals := 12 } : Room).slots) := by
  refine MetFree.of_bodySF (plainFor_of_name pn_1) hisR ?_
  intro p e s m args below meth c s₁ Bd hml0 hP hK
  obtain ⟨rfl, hZ, hh, hCH, hSf⟩ := hP
  have hx := Bd.exec
  have hby := Bd.bytes
  have hml : c.maxLocals = 6 := hml0
  have hown : s.vm.findClass "java/lang/String" = some m.cls := findClass_of_methodNamed Bd.named
  have hnm := (name_of_methodNamed Bd.named Bd.method).1
  have X0 : Stand p l e ({ frames := 1, cells := 4, slots := 8, locals := 12 } : Room) (s.setVm s.vm) m #[(.ref x), (.ref b), (.int (0 : Int32)), (.int (0 : Int32)), .null] below meth c s₁ [] 0 0 := Stand.of_body Bd
  have e0 : s₁.heap = h0 := by rw [← hh, Bd.state]; rfl
  have N0 := Fr.nil n0
  have hZ0 := hZ
  have ho0 := hown
  have hS0 : s.Since s.vm 0 := (State.WarmedH.refl s).since 0
  have hk0 : 0 ≤ h0.size := Nat.zero_le _
  have CR0 : CHr Z own_EL s.vm h0 s.vm h0 := CHr.refl hCH
  have own_at : ∀ d ∈ Bundle.stringAtoms, d.before a0 Z = true := fun d hd => hw d (own_atoms d hd)
  have own_ew : EW Z a0 own_EL := own_EWof hw
  have hwl : ∀ d ∈ StrChars.Road.wordsLen, d.before a0 Z = true := fun d hd => hw d (own_wordsLen d hd)
  have hwc : ∀ d ∈ StrChars.Road.wordsChN, d.before a0 Z = true := fun d hd => hw d (own_wordsChN d hd)
  have hwq : ∀ d ∈ StrChars.Road.wordsEq, d.before a0 Z = true := fun d hd => hw d (own_wordsEq d hd)
  have K0 : Keep h0 h0 [x] := Keep.refl _ _
  have pre0 : ∀ t, Steps p.tables e below (s₁.setTop (mkF m 0 #[.val (.ref x), .val (.ref b), .val (.int (0 : Int32)), .val (.int (0 : Int32)), .val .null, .unset] [])) t → Steps p.tables e below (s₁.setTop (entryFrame m #[(.ref x), (.ref b), (.int (0 : Int32)), (.int (0 : Int32)), .null] 6)) t := fun t k => castTop (ef_rm_siv0 m x b (0 : Int32) (0 : Int32)) k
  obtain ⟨T1, X1, e1, st1⟩ := initO X0 hx hZ0 ho0 (own_w hw 15 rfl) (own_w hw 16 rfl) (own_w hw 17 rfl) e0 (g := (mkF m 1 #[.val (.ref x), .val (.ref b), .val (.int (0 : Int32)), .val (.int (0 : Int32)), .val .null, .unset] [(.ref x)])) rfl (by rw [hml]; rfl) rfl (hb hby d3_1) (by decide) (W := 0) (by show 2 * 0 + _ ≤ _; exact Nat.le_of_eq rfl) (by decide)
  obtain ⟨x2, T2, h2, q2, y2, j2, X2, e2, E2, hS2, hk2, hZ2, ho2, fE2, fC2, fV2, fA2, la2, lb2, C2, -, ns2, st2⟩ := ldcCH X1 hx hZ0 ho0 (own_w hw 18 rfl) own_at e1 hS0 hk0 own_ew (by decide) CR0.1 (vs := []) (z := (0 : Int32)) ⟨by decide, by decide +kernel⟩ (by decide) rfl (g := (mkF m 9 #[.val (.ref x), .val (.ref b), .val (.int (0 : Int32)), .val (.int (0 : Int32)), .val .null, .unset] [(.ref x)])) rfl (hb hby d3_9) (n := 0) (by decide) (by decide) (by decide) (by decide)
  have sf3 := CHr.safe C2 (Exa.lt E_x) (hSf _ (List.mem_of_getElem? (i := 0) rfl))
  have O4 := O0.ext E2
  have K5 : Keep h0 h2 [x] := K0.ext E2
  have CR6 := CR0.trans C2
  obtain ⟨ne7, ne8⟩ := ns2 x sf3
  obtain ⟨T9, X9, e9, st9⟩ := getF X2 hx hZ2 ho2 (host := "") (Or.inl (own_w hw 24 rfl)) Via.refl e2 fV2 (g := (mkF m 11 #[.val (.ref x), .val (.ref b), .val (.int (0 : Int32)), .val (.int (0 : Int32)), .val .null, .unset] [(.ref x2), (.ref x)])) rfl rfl (hb hby d3_11)
  have f10 := (Fld.ext E2 V_x)
  have f11 := (Exa.ext E2 E_x)
  obtain ⟨T12, h12, X12, e12, W12, st12⟩ := putF X9 hx hZ2 ho2 (host := "") (Or.inl (own_w hw 24 rfl)) Via.refl e9 f10 f11 (Or.inr ⟨(own_w hw 20 rfl), rfl, hnm⟩) (own_w hw 6 rfl) (ty := (.array .byte)) (by decide) rfl rfl (g := (mkF m 14 #[.val (.ref x), .val (.ref b), .val (.int (0 : Int32)), .val (.int (0 : Int32)), .val .null, .unset] [(.ref y2), (.ref x)])) rfl rfl (hb hby d3_14)
  have CR13 := CR6.trans (CHr.wr W12 sf3 CR6.1)
  have hk14 := Nat.le_trans hk2 (Keep.of_wr W12).1
  have sf15 := Safe.wr W12 sf3 CR6.1 sf3
  have O16 := O4.wr W12 g_x
  have K17 : Keep h0 h12 [x] := K5.wr W12 (Or.inl (List.mem_of_getElem? (i := 0) rfl))
  have N18 := Fr.snoc X12 N0 g_x
  have F12 : Fld Z h12 x "java/lang/String" "value" "[B" (.ref y2) := Fld.same W12 f10
  obtain ⟨x19, T19, h19, q19, y19, j19, X19, e19, E19, hS19, hk19, hZ19, ho19, fE19, fC19, fV19, fA19, la19, lb19, C19, -, ns19, st19⟩ := ldcCH X12 hx hZ2 ho2 (own_w hw 18 rfl) own_at e12 hS2 hk14 own_ew (by decide) CR13.1 (vs := []) (z := (0 : Int32)) ⟨by decide, by decide +kernel⟩ (by decide) rfl (g := (mkF m 18 #[.val (.ref x), .val (.ref b), .val (.int (0 : Int32)), .val (.int (0 : Int32)), .val .null, .unset] [(.ref x)])) rfl (hb hby d3_18) (n := 0) (by decide) (by decide) (by decide) (by decide)
  have f20 := (Exa.wr W12 fE2)
  have f21 := (Exa.wr W12 f11)
  have f22 := (Arv.other fA2 W12 (Ne.symm ne8))
  have sf23 := CHr.safe C19 (Exa.lt f21) sf15
  have O24 := O16.ext E19
  have K25 : Keep h0 h19 [x] := K17.ext E19
  have CR26 := CR13.trans C19
  obtain ⟨ne27, ne28⟩ := ns19 x sf23
  obtain ⟨T29, X29, e29, st29⟩ := getF X19 hx hZ19 ho19 (host := "") (Or.inl (own_w hw 25 rfl)) Via.refl e19 fC19 (g := (mkF m 20 #[.val (.ref x), .val (.ref b), .val (.int (0 : Int32)), .val (.int (0 : Int32)), .val .null, .unset] [(.ref x19), (.ref x)])) rfl rfl (hb hby d3_20)
  have f30 := (Fld.ext E19 (Fld.other W12 (Fld.ext E2 C_x) (Or.inr (slot_ne (Or.inr (own_w hw 21 rfl)) (Or.inr (own_w hw 20 rfl)) (by decide) (t := .byte) (t' := (.array .byte)) (by decide) (by decide)))))
  have f31 := (Exa.ext E19 f21)
  obtain ⟨T32, h32, X32, e32, W32, st32⟩ := putFN X29 hx hZ19 ho19 (own_w hw 25 rfl) Via.refl e29 f30 f31 (Or.inr ⟨(own_w hw 21 rfl), rfl, hnm⟩) (own_w hw 6 rfl) (ty := .byte) (v' := (.int (0 : Int32))) (by decide) rfl rfl (g := (mkF m 23 #[.val (.ref x), .val (.ref b), .val (.int (0 : Int32)), .val (.int (0 : Int32)), .val .null, .unset] [(.int (0 : Int32)), (.ref x)])) rfl rfl (hb hby d3_23)
  have CR33 := CR26.trans (CHr.wr W32 sf23 CR26.1)
  have hk34 := Nat.le_trans hk19 (Keep.of_wr W32).1
  have sf35 := Safe.wr W32 sf23 CR26.1 sf23
  have O36 := O24.wr W32 g_x
  have K37 : Keep h0 h32 [x] := K25.wr W32 (Or.inl (List.mem_of_getElem? (i := 0) rfl))
  have N38 := Fr.snoc X32 N18 g_x
  have F32 : Fld Z h32 x "java/lang/String" "coder" "B" (.int (0 : Int32)) := Fld.same W32 f30
  have S39 : ∀ t, Steps p.tables e below (T32.setTop (mkF m 26 #[.val (.ref x), .val (.ref b), .val (.int (0 : Int32)), .val (.int (0 : Int32)), .val .null, .unset] [])) t → Steps p.tables e below (s₁.setTop (mkF m 0 #[.val (.ref x), .val (.ref b), .val (.int (0 : Int32)), .val (.int (0 : Int32)), .val .null, .unset] [])) t := by
    intro t kt
    refine XS.aloadN X0.here hx rfl (hb hby d3_0) rfl rfl ?_
    show Steps p.tables e below (s₁.setTop (mkF m 1 #[.val (.ref x), .val (.ref b), .val (.int (0 : Int32)), .val (.int (0 : Int32)), .val .null, .unset] [(.ref x)])) _
    refine st1 _ ?_
    refine XS.iloadN X1.here hx rfl (hb hby d3_4) rfl ?_
    refine XS.ifNo X1.here hx rfl (hb hby d3_5) rfl ((if0 _ _).trans (teq ((by decide) : (0 : Int32) = (0 : Int32))).2) ?_
    refine XS.aloadN X1.here hx rfl (hb hby d3_8) rfl rfl ?_
    show Steps p.tables e below (T1.setTop (mkF m 9 #[.val (.ref x), .val (.ref b), .val (.int (0 : Int32)), .val (.int (0 : Int32)), .val .null, .unset] [(.ref x)])) _
    refine st2 _ ?_
    show Steps p.tables e below (T2.setTop (mkF m 11 #[.val (.ref x), .val (.ref b), .val (.int (0 : Int32)), .val (.int (0 : Int32)), .val .null, .unset] [(.ref x2), (.ref x)])) _
    refine st9 _ ?_
    show Steps p.tables e below (T9.setTop (mkF m 14 #[.val (.ref x), .val (.ref b), .val (.int (0 : Int32)), .val (.int (0 : Int32)), .val .null, .unset] [(.ref y2), (.ref x)])) _
    refine st12 _ ?_
    refine XS.aloadN X12.here hx rfl (hb hby d3_17) rfl rfl ?_
    show Steps p.tables e below (T12.setTop (mkF m 18 #[.val (.ref x), .val (.ref b), .val (.int (0 : Int32)), .val (.int (0 : Int32)), .val .null, .unset] [(.ref x)])) _
    refine st19 _ ?_
    show Steps p.tables e below (T19.setTop (mkF m 20 #[.val (.ref x), .val (.ref b), .val (.int (0 : Int32)), .val (.int (0 : Int32)), .val .null, .unset] [(.ref x19), (.ref x)])) _
    refine st29 _ ?_
    show Steps p.tables e below (T29.setTop (mkF m 23 #[.val (.ref x), .val (.ref b), .val (.int (0 : Int32)), .val (.int (0 : Int32)), .val .null, .unset] [(.int (0 : Int32)), (.ref x)])) _
    refine st32 _ ?_
    exact kt
  obtain ⟨fs, hr, hrun, hended, hRW⟩ := X32.leaveW hS19 (by rw [e32]; exact hk34) (v := none) (fun _ => rfl)
  have f40 := (Exa.wr W32 f31)
  have f41 := (Fld.other W32 (Fld.ext E19 F12) (Or.inr (slot_ne (Or.inr (own_w hw 20 rfl)) (Or.inr (own_w hw 21 rfl)) (by decide) (t := (.array .byte)) (t' := .byte) (by decide) (by decide))))
  have f42 := (Fld.other W32 (Fld.ext E19 (Fld.other W12 (Fld.ext E2 H_x) (Or.inr (slot_ne (Or.inl (own_w hw 45 rfl)) (Or.inr (own_w hw 20 rfl)) (by decide) (t := .int) (t' := (.array .byte)) (by decide) (by decide))))) (Or.inr (slot_ne (Or.inl (own_w hw 45 rfl)) (Or.inr (own_w hw 21 rfl)) (by decide) (t := .int) (t' := .byte) (by decide) (by decide))))
  have f43 := (Fld.other W32 (Fld.ext E19 (Fld.other W12 (Fld.ext E2 Z_x) (Or.inr (slot_ne (Or.inl (own_w hw 47 rfl)) (Or.inr (own_w hw 20 rfl)) (by decide) (t := .boolean) (t' := (.array .byte)) (by decide) (by decide))))) (Or.inr (slot_ne (Or.inl (own_w hw 47 rfl)) (Or.inr (own_w hw 21 rfl)) (by decide) (t := .boolean) (t' := .byte) (by decide) (by decide))))
  have f44 := (Arv.other (Arv.ext f22 E19) W32 (Ne.symm ne8))
  refine ⟨_, _, pre0 _ (S39 _ ?_), hrun, hended, _, _, rfl, ?_, ?_, hRW.1, hRW.2.1, hRW.2.2.1, hRW.2.2.2.mono (by decide) (by decide)⟩
  · exact X32.returnOut hx Bd.returns (hb hby d3_26) hr
  · show Q_rm_siv0 Z x b h0 n0 _ T32.heap _
    rw [e32]
    exact ⟨y2, j2, rfl, N38, K37, f40, f41, F32, f42, f43, f44⟩
  · show CHr Z own_EL s.vm s.heap T32.vm T32.heap
    rw [hh, e32]
    exact CR33.trans (CHv.at X32 hZ19 own_ew CR33.1)
theorem d4_0 : decode jdk_42_method_3_code 0 = .ok (.aload_n 0, 1) := by decide +kernel
theorem d4_1 : decode jdk_42_method_3_code 1 = .ok (.aload_n 1, 1) := by decide +kernel
theorem d4_2 : decode jdk_42_method_3_code 2 = .ok (.iconst 0, 1) := by decide +kernel
theorem d4_3 : decode jdk_42_method_3_code 3 = .ok (.aload_n 1, 1) := by decide +kernel
theorem d4_4 : decode jdk_42_method_3_code 4 = .ok (.arraylength, 1) := by decide +kernel
theorem d4_5 : decode jdk_42_method_3_code 5 = .ok (.aconst_null, 1) := by decide +kernel
theorem d4_6 : decode jdk_42_method_3_code 6 = .ok (.invokespecial 27, 3) := by decide +kernel
theorem pd_1 : parseMethodDescriptor "([CIILjava/lang/Void;)V" = some ⟨[(.array .char), .int, .int, (.object "java/lang/Void")], none⟩ := by decide +kernel
theorem d4_9 : decode jdk_42_method_3_code 9 = .ok (.return_, 1) := by decide +kernel
theorem ef_rm_sin0 (m : MethodId) (x0 : Addr) (x1 : Addr) : entryFrame m #[(.ref x0), (.ref x1)] 2 = mkF m 0 #[.val (.ref x0), .val (.ref x1)] [] := by first | (simp [entryFrame, mkF, argsToLocals, Value.category]; done) | rfl
def Q_rm_sin0 (Z : State) (x : Addr) (b : Addr) (kb : ClassId) (h0 : Heap) (n0 : Nat) (v : Option Value) (h : Heap) (L : List Loc) : Prop := (∃ (tb : Addr) (kt : ClassId), (v = none) ∧ (Fr n0 L) ∧ (Keep h0 h [x]) ∧ (Exa Z h x "java/lang/String") ∧ (Fld Z h x "java/lang/String" "value" "[B" (.ref tb)) ∧ (Fld Z h x "java/lang/String" "coder" "B" (.int (0 : Int32))) ∧ (Fld Z h x "java/lang/String" "hash" "I" (.int (0 : Int32))) ∧ (Fld Z h x "java/lang/String" "hashIsZero" "Z" (.int (0 : Int32))) ∧ (Arv Z h tb kt .byte (0 : Int32) [] (.int (0 : Int32))))
set_option maxRecDepth 65536 in
set_option maxHeartbeats 40000000 in
theorem rm_sin0 (l : Launch) (Z : State) (a0 : Array Value) (hw : ∀ d ∈ tables_1, d.before a0 Z = true) (ws : List Jvm.Cond) (x : Addr) (b : Addr) (kb : ClassId) (h0 : Heap) (n0 : Nat) (O0 : Old Z n0 h0) (E_x : Exa Z h0 x "java/lang/String") (V_x : Fld Z h0 x "java/lang/String" "value" "[B" .null) (C_x : Fld Z h0 x "java/lang/String" "coder" "B" (.int (0 : Int32))) (H_x : Fld Z h0 x "java/lang/String" "hash" "I" (.int (0 : Int32))) (Z_x : Fld Z h0 x "java/lang/String" "hashIsZero" "Z" (.int (0 : Int32))) (g_x : n0 ≤ x) (A_b : Arv Z h0 b kb .char (0 : Int32) [] (.int (0 : Int32))) :
    MetFree l (⟨"java/lang/String", "<init>", "([C)V"⟩ : MethodName) (head1 (Jvm.Cond.code (⟨"java/lang/String", "<init>", "([C)V"⟩ : MethodName) jdk_42_method_3_code 2 none :: ws) ({ frames := 2, cells := 4, slots := 8, locals := 29 } : Room)) (fun a U => a = #[(.ref x), (.ref b)] ∧ Z.Warmed39 U.vm ∧ U.heap = h0 ∧ CHv Z own_EL U.vm h0 ∧ ∀ own_y ∈ ([x] : List Addr), Safe Z own_EL U.vm h0 own_y) (fun _ _ _ _ _ => True) (fun _ U o U' => ∃ v L, o = .returned v ∧ Q_rm_sin0 Z x b kb h0 n0 v U'.heap L ∧ CHr Z own_EL U.vm U.heap U'.vm U'.heap ∧ ReturnedEndW U o U' L ({ frames := 2, cells := 4, slots := 8, locals := 29 } : Room).cells ({ frames := 2, cells := 4, slots := 8, locals := 29 } : Room).slots) := by
  refine MetFree.of_bodySF (plainFor_of_name pn_1) hisR ?_
  intro p e s m args below meth c s₁ Bd hml0 hP hK
  obtain ⟨rfl, hZ, hh, hCH, hSf⟩ := hP
  have hx := Bd.exec
  have hby := Bd.bytes
  have hml : c.maxLocals = 2 := hml0
  have hown : s.vm.findClass "java/lang/String" = some m.cls := findClass_of_methodNamed Bd.named
  have hnm := (name_of_methodNamed Bd.named Bd.method).1
  have X0 : Stand p l e ({ frames := 2, cells := 4, slots := 8, locals := 29 } : Room) (s.setVm s.vm) m #[(.ref x), (.ref b)] below meth c s₁ [] 0 0 := Stand.of_body Bd
  have e0 : s₁.heap = h0 := by rw [← hh, Bd.state]; rfl
  have N0 := Fr.nil n0
  have hZ0 := hZ
  have ho0 := hown
  have hS0 : s.Since s.vm 0 := (State.WarmedH.refl s).since 0
  have hk0 : 0 ≤ h0.size := Nat.zero_le _
  have CR0 : CHr Z own_EL s.vm h0 s.vm h0 := CHr.refl hCH
  have own_at : ∀ d ∈ Bundle.stringAtoms, d.before a0 Z = true := fun d hd => hw d (own_atoms d hd)
  have own_ew : EW Z a0 own_EL := own_EWof hw
  have hwl : ∀ d ∈ StrChars.Road.wordsLen, d.before a0 Z = true := fun d hd => hw d (own_wordsLen d hd)
  have hwc : ∀ d ∈ StrChars.Road.wordsChN, d.before a0 Z = true := fun d hd => hw d (own_wordsChN d hd)
  have hwq : ∀ d ∈ StrChars.Road.wordsEq, d.before a0 Z = true := fun d hd => hw d (own_wordsEq d hd)
  have K0 : Keep h0 h0 [x] := Keep.refl _ _
  have pre0 : ∀ t, Steps p.tables e below (s₁.setTop (mkF m 0 #[.val (.ref x), .val (.ref b)] [])) t → Steps p.tables e below (s₁.setTop (entryFrame m #[(.ref x), (.ref b)] 2)) t := fun t k => castTop (ef_rm_sin0 m x b) k
  obtain ⟨cl1, Ar1, -, Sz1, Nn1, -, -⟩ := id A_b
  obtain ⟨_, _, ⟨T2, L2, k2, n2⟩, -, Xq2, hSq2, hgq2, ⟨Lc2, hQ2, l2, y2, z2, C2⟩, st2⟩ := X0.specialBackS hx (y := (⟨"java/lang/String", "<init>", "([CIILjava/lang/Void;)V"⟩ : MethodName)) rfl ho0 (mvT hZ0 (own_w hw 11 rfl)) (mvT hZ0 (own_w hw 12 rfl)) (mvT hZ0 (own_w hw 14 rfl)) (by decide) (own_backS (W := 0) (rm := ({ frames := 1, cells := 4, slots := 8, locals := 12 } : Room)) (xs := [x]) (rm_siv0 l Z a0 hw [] x b h0 n0 O0 E_x V_x C_x H_x Z_x g_x) hZ0 (own_w hw 14 rfl) (own_w hw 7 rfl) (by decide) (by decide) own_ew CR0.1 (allS (P := fun x => x < h0.size ∧ Safe Z own_EL s.vm h0 x) ⟨(Exa.lt E_x), (hSf _ (List.mem_of_getElem? (i := 0) rfl))⟩ all0)) (g := (mkF m 6 #[.val (.ref x), .val (.ref b)] [.null, (.int (0 : Int32)), (.int (0 : Int32)), (.ref b), (.ref x)])) rfl (by rw [hml]; rfl) (Steps.refl _) (a := x) (argsL := [(.ref b), (.int (0 : Int32)), (.int (0 : Int32)), .null]) (rest := []) (lenOf pd_1 rfl) rfl (by show 2 * 0 + _ ≤ _; exact Nat.le_of_eq rfl) (hb hby d4_6) (fun _ _ => ⟨rfl, e0, (by decide : 0 + 4 ≤ _), (by decide : 0 + 8 ≤ _)⟩)
  dsimp only [Pt.U, Pt.locs, Pt.cells, Pt.slots] at Xq2 hSq2 hgq2 l2 y2 z2 st2 hQ2 C2
  obtain ⟨X2, hS2, hZ2, ho2⟩ := rebS hS0 (by rw [e0]; exact hk0) Xq2 hSq2 hgq2 hZ0 ho0
  subst l2 y2 z2
  obtain ⟨x3, x4, rfl, N5, k6, f7, f8, f9, f10, f11, f12⟩ := hQ2
  have N13 := Fr.app N0 N5
  have sf14 := CHr.safe C2 (Exa.lt E_x) (hSf _ (List.mem_of_getElem? (i := 0) rfl))
  have CR15 := CR0.trans C2
  have hk16 : T2.heap.size ≤ T2.heap.size := Nat.le_refl _
  have O17 := O0.keep k6 (allS g_x all0)
  have K18 : Keep h0 T2.heap [x] := K0.trans k6 (allS (Or.inl (List.mem_of_getElem? (i := 0) rfl)) all0)
  have S19 : ∀ t, Steps p.tables e below (T2.setTop (mkF m 9 #[.val (.ref x), .val (.ref b)] [])) t → Steps p.tables e below (s₁.setTop (mkF m 0 #[.val (.ref x), .val (.ref b)] [])) t := by
    intro t kt
    refine XS.aloadN X0.here hx rfl (hb hby d4_0) rfl rfl ?_
    refine XS.aloadN X0.here hx rfl (hb hby d4_1) rfl rfl ?_
    refine XS.iconst X0.here hx rfl (hb hby d4_2) ?_
    refine XS.aloadN X0.here hx rfl (hb hby d4_3) rfl rfl ?_
    show Steps p.tables e below (s₁.setTop (mkF m 4 #[.val (.ref x), .val (.ref b)] [(.ref b), (.int (0 : Int32)), (.ref b), (.ref x)])) _
    refine X0.arraylength hx (by rw [e0]; exact Ar1.1) (State.isArrayOf_alike hZ0.alike Ar1.2.1) (g := (mkF m 4 #[.val (.ref x), .val (.ref b)] [(.ref b), (.int (0 : Int32)), (.ref b), (.ref x)])) rfl rfl (hb hby d4_4) _ ?_
    rw [len_of Sz1 Nn1]
    refine XS.aconstNull X0.here hx rfl (hb hby d4_5) ?_
    show Steps p.tables e below (s₁.setTop (mkF m 6 #[.val (.ref x), .val (.ref b)] [.null, (.int (0 : Int32)), (.int (0 : Int32)), (.ref b), (.ref x)])) _
    refine st2.trans ?_
    exact kt
  obtain ⟨fs, hr, hrun, hended, hRW⟩ := X2.leaveW hS2 (by exact hk16) (v := none) (fun _ => rfl)
  refine ⟨_, _, pre0 _ (S19 _ ?_), hrun, hended, _, _, rfl, ?_, ?_, hRW.1, hRW.2.1, hRW.2.2.1, hRW.2.2.2.mono (by decide) (by decide)⟩
  · exact X2.returnOut hx Bd.returns (hb hby d4_9) hr
  · show Q_rm_sin0 Z x b kb h0 n0 _ T2.heap _
    exact ⟨x3, x4, rfl, N13, K18, f7, f8, f9, f10, f11, f12⟩
  · show CHr Z own_EL s.vm s.heap T2.vm T2.heap
    rw [hh]
    exact CR15.trans (CHv.at X2 hZ2 own_ew CR15.1)
theorem d3_27 : decode jdk_42_method_149_code 27 = .ok (.getstatic 38, 3) := by decide +kernel
theorem d3_30 : decode jdk_42_method_149_code 30 = .ok (.ifCond .eq 28, 3) := by decide +kernel
theorem d3_33 : decode jdk_42_method_149_code 33 = .ok (.aload_n 1, 1) := by decide +kernel
theorem d3_34 : decode jdk_42_method_149_code 34 = .ok (.iload_n 2, 1) := by decide +kernel
theorem d3_35 : decode jdk_42_method_149_code 35 = .ok (.iload_n 3, 1) := by decide +kernel
theorem d3_36 : decode jdk_42_method_149_code 36 = .ok (.invokestatic 177, 3) := by decide +kernel
theorem pd_2 : parseMethodDescriptor "([CII)[B" = some ⟨[(.array .char), .int, .int], some (.array .byte)⟩ := by decide +kernel
theorem d3_39 : decode jdk_42_method_149_code 39 = .ok (.astore 5, 2) := by decide +kernel
theorem d3_41 : decode jdk_42_method_149_code 41 = .ok (.aload_n 0, 1) := by decide +kernel
theorem d3_42 : decode jdk_42_method_149_code 42 = .ok (.aload 5, 2) := by decide +kernel
theorem d3_44 : decode jdk_42_method_149_code 44 = .ok (.iload_n 3, 1) := by decide +kernel
theorem d3_45 : decode jdk_42_method_149_code 45 = .ok (.invokestatic 47, 3) := by decide +kernel
theorem pd_3 : parseMethodDescriptor "([BI)B" = some ⟨[(.array .byte), .int], some .byte⟩ := by decide +kernel
theorem d3_48 : decode jdk_42_method_149_code 48 = .ok (.putfield 15, 3) := by decide +kernel
theorem d3_51 : decode jdk_42_method_149_code 51 = .ok (.aload_n 0, 1) := by decide +kernel
theorem d3_52 : decode jdk_42_method_149_code 52 = .ok (.aload 5, 2) := by decide +kernel
theorem d3_54 : decode jdk_42_method_149_code 54 = .ok (.putfield 9, 3) := by decide +kernel
theorem d3_57 : decode jdk_42_method_149_code 57 = .ok (.return_, 1) := by decide +kernel
theorem ef_rm_siv1 (m : MethodId) (x0 : Addr) (x1 : Addr) (x2 : Int32) (x3 : Int32) : entryFrame m #[(.ref x0), (.ref x1), (.int x2), (.int x3), .null] 6 = mkF m 0 #[.val (.ref x0), .val (.ref x1), .val (.int x2), .val (.int x3), .val .null, .unset] [] := by first | (simp [entryFrame, mkF, argsToLocals, Value.category]; done) | rfl
def Q_rm_siv1 (Z : State) (x : Addr) (b : Addr) (kb : ClassId) (c0 : Int32) (zc : Int32) (h0 : Heap) (n0 : Nat) (v : Option Value) (h : Heap) (L : List Loc) : Prop := (∃ (tb : Addr) (kt : ClassId), (v = none) ∧ (Fr n0 L) ∧ (Keep h0 h [x]) ∧ (Exa Z h x "java/lang/String") ∧ (Fld Z h x "java/lang/String" "value" "[B" (.ref tb)) ∧ (Fld Z h x "java/lang/String" "coder" "B" (.int (0 : Int32))) ∧ (Fld Z h x "java/lang/String" "hash" "I" (.int (0 : Int32))) ∧ (Fld Z h x "java/lang/String" "hashIsZero" "Z" (.int (0 : Int32))) ∧ (Exa Z h tb "[B") ∧ (Arv Z h tb kt .byte (1 : Int32) [(.int c0.toInt8.toInt32)] (.int (0 : Int32))))
set_option maxRecDepth 65536 in
set_option maxHeartbeats 40000000 in
theorem rm_siv1 (l : Launch) (Z : State) (a0 : Array Value) (hw : ∀ d ∈ tables_1, d.before a0 Z = true) (ws : List Jvm.Cond) (x : Addr) (b : Addr) (kb : ClassId) (c0 : Int32) (zc : Int32) (h0 : Heap) (n0 : Nat) (O0 : Old Z n0 h0) (E_x : Exa Z h0 x "java/lang/String") (V_x : Fld Z h0 x "java/lang/String" "value" "[B" .null) (C_x : Fld Z h0 x "java/lang/String" "coder" "B" (.int (0 : Int32))) (H_x : Fld Z h0 x "java/lang/String" "hash" "I" (.int (0 : Int32))) (Z_x : Fld Z h0 x "java/lang/String" "hashIsZero" "Z" (.int (0 : Int32))) (g_x : n0 ≤ x) (A_b : Arv Z h0 b kb .char (1 : Int32) [(.int c0)] (.int (0 : Int32))) (la_c0 : ¬ (c0 < (0 : Int32)) ∧ ¬ ((255 : Int32) < c0)) (S_C : Sta Z Z.heap "java/lang/String" "COMPACT_STRINGS" "Z" (.int zc)) (hzc : ¬ (zc = (0 : Int32))) :
    MetFree l (⟨"java/lang/String", "<init>", "([CIILjava/lang/Void;)V"⟩ : MethodName) (head1 (Jvm.Cond.code (⟨"java/lang/String", "<init>", "([CIILjava/lang/Void;)V"⟩ : MethodName) jdk_42_method_149_code 6 none :: ws) ({ frames := 2, cells := 1, slots := 1, locals := 35 } : Room)) (fun a U => a = #[(.ref x), (.ref b), (.int (0 : Int32)), (.int (1 : Int32)), .null] ∧ Z.Warmed39 U.vm ∧ U.heap = h0) (fun _ _ _ _ _ => True) (fun _ U o U' => ∃ v L, o = .returned v ∧ Q_rm_siv1 Z x b kb c0 zc h0 n0 v U'.heap L ∧ FrameEnd U o U' L ({ frames := 2, cells := 1, slots := 1, locals := 35 } : Room).cells ({ frames := 2, cells := 1, slots := 1, locals := 35 } : Room).slots) := by
  refine MetFree.of_bodySF (plainFor_of_name pn_1) hisR ?_
  intro p e s m args below meth c s₁ Bd hml0 hP hK
  obtain ⟨rfl, hZ, hh⟩ := hP
  have hx := Bd.exec
  have hby := Bd.bytes
  have hml : c.maxLocals = 6 := hml0
  have hown : s.vm.findClass "java/lang/String" = some m.cls := findClass_of_methodNamed Bd.named
  have hnm := (name_of_methodNamed Bd.named Bd.method).1
  have X0 : Stand p l e ({ frames := 2, cells := 1, slots := 1, locals := 35 } : Room) s m #[(.ref x), (.ref b), (.int (0 : Int32)), (.int (1 : Int32)), .null] below meth c s₁ [] 0 0 := Stand.of_body Bd
  have e0 : s₁.heap = h0 := by rw [← hh, Bd.state]; rfl
  have N0 := Fr.nil n0
  have hwl : ∀ d ∈ StrChars.Road.wordsLen, d.before a0 Z = true := fun d hd => hw d (own_wordsLen d hd)
  have hwc : ∀ d ∈ StrChars.Road.wordsChN, d.before a0 Z = true := fun d hd => hw d (own_wordsChN d hd)
  have hwq : ∀ d ∈ StrChars.Road.wordsEq, d.before a0 Z = true := fun d hd => hw d (own_wordsEq d hd)
  have K0 : Keep h0 h0 [x] := Keep.refl _ _
  have pre0 : ∀ t, Steps p.tables e below (s₁.setTop (mkF m 0 #[.val (.ref x), .val (.ref b), .val (.int (0 : Int32)), .val (.int (1 : Int32)), .val .null, .unset] [])) t → Steps p.tables e below (s₁.setTop (entryFrame m #[(.ref x), (.ref b), (.int (0 : Int32)), (.int (1 : Int32)), .null] 6)) t := fun t k => castTop (ef_rm_siv1 m x b (0 : Int32) (1 : Int32)) k
  obtain ⟨T1, X1, e1, st1⟩ := initO X0 hx hZ hown (own_w hw 15 rfl) (own_w hw 16 rfl) (own_w hw 17 rfl) e0 (g := (mkF m 1 #[.val (.ref x), .val (.ref b), .val (.int (0 : Int32)), .val (.int (1 : Int32)), .val .null, .unset] [(.ref x)])) rfl (by rw [hml]; rfl) rfl (hb hby d3_1) (by decide) (W := 0) (by show 2 * 0 + _ ≤ _; exact Nat.le_of_eq rfl) (by decide)
  obtain ⟨T2, X2, e2, st2⟩ := getS2 X1 hx hZ hown (host := "") (Or.inl (own_w hw 53 rfl)) Via.refl e1 (S_C.ext O0.2) (g := (mkF m 27 #[.val (.ref x), .val (.ref b), .val (.int (0 : Int32)), .val (.int (1 : Int32)), .val .null, .unset] [])) rfl (hb hby d3_27)
  obtain ⟨_, _, ⟨T3, L3, k3, n3⟩, -, X3, ⟨Lc3, hQ3, l3, y3, z3⟩, st3⟩ := Jvm.LawKit.callS X2 hx (y := (⟨"java/lang/StringUTF16", "compress", "([CII)[B"⟩ : MethodName)) hown (mvT hZ (own_w hw 89 rfl)) (mvT hZ (own_w hw 90 rfl)) (mvT hZ (own_w hw 91 rfl)) (mvT hZ (own_w hw 92 rfl)) (by decide) (backOf (W := 0) (rm_cp1 l Z a0 hw [] b kb c0 h0 n0 O0 A_b la_c0) hZ (own_w hw 92 rfl) (own_w hw 91 rfl) (by decide) (by decide)) (g := (mkF m 36 #[.val (.ref x), .val (.ref b), .val (.int (0 : Int32)), .val (.int (1 : Int32)), .val .null, .unset] [(.int (1 : Int32)), (.int (0 : Int32)), (.ref b)])) rfl (by rw [hml]; rfl) (argsL := [(.ref b), (.int (0 : Int32)), (.int (1 : Int32))]) (rest := []) (lenOf pd_2 rfl) rfl (by show 2 * 0 + _ ≤ _; exact Nat.le_of_eq rfl) (hb hby d3_36) (fun _ _ => ⟨rfl, e2, (by decide : 0 + 1 ≤ _), (by decide : 0 + 1 ≤ _)⟩)
  dsimp only [Pt.U, Pt.locs, Pt.cells, Pt.slots] at X3 l3 y3 z3 st3 hQ3
  subst l3 y3 z3
  obtain ⟨x4, x5, rfl, N6, k7, f8, f9, f10⟩ := hQ3
  have N11 := Fr.app N0 N6
  have ge12 : n0 ≤ x4 := by rw [← O0.1]; exact Nat.le_trans O0.2.1 f8
  have sz12 : h0.size ≤ x4 := Nat.le_trans K0.1 f8
  have ne13 : x ≠ x4 := Nat.ne_of_lt (Nat.lt_of_lt_of_le (Exa.lt E_x) f8)
  have ne14 : b ≠ x4 := Nat.ne_of_lt (Nat.lt_of_lt_of_le (Arv.lt A_b) f8)
  have O15 := O0.keep k7 all0
  have K16 : Keep h0 T3.heap [x] := K0.trans k7 all0
  obtain ⟨_, _, ⟨T17, L17, k17, n17⟩, -, X17, ⟨Lc17, hQ17, l17, y17, z17⟩, st17⟩ := Jvm.LawKit.callS X3 hx (y := (⟨"java/lang/StringUTF16", "coderFromArrayLen", "([BI)B"⟩ : MethodName)) hown (mvT hZ (own_w hw 96 rfl)) (mvT hZ (own_w hw 97 rfl)) (mvT hZ (own_w hw 91 rfl)) (mvT hZ (own_w hw 98 rfl)) (by decide) (backOf (W := 1) (rm_cf1 l Z a0 hw [] x4 x5 c0 T3.heap n0 O15 f10) hZ (own_w hw 98 rfl) (own_w hw 91 rfl) (by decide) (by decide)) (g := (mkF m 45 #[.val (.ref x), .val (.ref b), .val (.int (0 : Int32)), .val (.int (1 : Int32)), .val .null, .val (.ref x4)] [(.int (1 : Int32)), (.ref x4), (.ref x)])) rfl (by rw [hml]; rfl) (argsL := [(.ref x4), (.int (1 : Int32))]) (rest := [(.ref x)]) (lenOf pd_3 rfl) rfl (by show 2 * 0 + _ ≤ _; exact Nat.le_of_eq rfl) (hb hby d3_45) (fun _ _ => ⟨rfl, rfl, (by decide : 1 + 0 ≤ _), (by decide : 1 + 0 ≤ _)⟩)
  dsimp only [Pt.U, Pt.locs, Pt.cells, Pt.slots] at X17 l17 y17 z17 st17 hQ17
  subst l17 y17 z17
  obtain ⟨rfl, N18, k19⟩ := hQ17
  have N20 := Fr.app N11 N18
  have f21 := (Fld.keep C_x k7 nin0)
  have f22 := (Exa.keep E_x k7)
  obtain ⟨T23, h23, X23, e23, W23, st23⟩ := putFN X17 hx hZ hown (own_w hw 25 rfl) Via.refl k19 f21 f22 (Or.inr ⟨(own_w hw 21 rfl), rfl, hnm⟩) (own_w hw 6 rfl) (ty := .byte) (v' := (.int (0 : Int32))) (by decide) rfl rfl (g := (mkF m 48 #[.val (.ref x), .val (.ref b), .val (.int (0 : Int32)), .val (.int (1 : Int32)), .val .null, .val (.ref x4)] [(.int (0 : Int32)), (.ref x)])) rfl rfl (hb hby d3_48)
  have O24 := O15.wr W23 g_x
  have K25 : Keep h0 h23 [x] := K16.wr W23 (Or.inl (List.mem_of_getElem? (i := 0) rfl))
  have N26 := Fr.snoc X23 N20 g_x
  have F23 : Fld Z h23 x "java/lang/String" "coder" "B" (.int (0 : Int32)) := Fld.same W23 f21
  have f27 := (Fld.other W23 (Fld.keep V_x k7 nin0) (Or.inr (slot_ne (Or.inr (own_w hw 20 rfl)) (Or.inr (own_w hw 21 rfl)) (by decide) (t := (.array .byte)) (t' := .byte) (by decide) (by decide))))
  have f28 := (Exa.wr W23 f22)
  obtain ⟨T29, h29, X29, e29, W29, st29⟩ := putF X23 hx hZ hown (host := "") (Or.inl (own_w hw 24 rfl)) Via.refl e23 f27 f28 (Or.inr ⟨(own_w hw 20 rfl), rfl, hnm⟩) (own_w hw 6 rfl) (ty := (.array .byte)) (by decide) rfl rfl (g := (mkF m 54 #[.val (.ref x), .val (.ref b), .val (.int (0 : Int32)), .val (.int (1 : Int32)), .val .null, .val (.ref x4)] [(.ref x4), (.ref x)])) rfl rfl (hb hby d3_54)
  have O30 := O24.wr W29 g_x
  have K31 : Keep h0 h29 [x] := K25.wr W29 (Or.inl (List.mem_of_getElem? (i := 0) rfl))
  have N32 := Fr.snoc X29 N26 g_x
  have F29 : Fld Z h29 x "java/lang/String" "value" "[B" (.ref x4) := Fld.same W29 f27
  have S33 : ∀ t, Steps p.tables e below (T29.setTop (mkF m 57 #[.val (.ref x), .val (.ref b), .val (.int (0 : Int32)), .val (.int (1 : Int32)), .val .null, .val (.ref x4)] [])) t → Steps p.tables e below (s₁.setTop (mkF m 0 #[.val (.ref x), .val (.ref b), .val (.int (0 : Int32)), .val (.int (1 : Int32)), .val .null, .unset] [])) t := by
    intro t kt
    refine XS.aloadN X0.here hx rfl (hb hby d3_0) rfl rfl ?_
    show Steps p.tables e below (s₁.setTop (mkF m 1 #[.val (.ref x), .val (.ref b), .val (.int (0 : Int32)), .val (.int (1 : Int32)), .val .null, .unset] [(.ref x)])) _
    refine st1 _ ?_
    refine XS.iloadN X1.here hx rfl (hb hby d3_4) rfl ?_
    refine XS.ifYes X1.here hx rfl (pc0 := 5) (pc' := 27) rfl (hb hby d3_5) rfl ((if0 _ _).trans (feq ((by decide) : ¬ ((1 : Int32) = (0 : Int32)))).2) (by decide) (by decide) ?_
    show Steps p.tables e below (T1.setTop (mkF m 27 #[.val (.ref x), .val (.ref b), .val (.int (0 : Int32)), .val (.int (1 : Int32)), .val .null, .unset] [])) _
    refine st2 _ ?_
    refine XS.ifNo X2.here hx rfl (hb hby d3_30) rfl ((if0 _ _).trans (feq (hzc : ¬ (zc = (0 : Int32)))).1) ?_
    refine XS.aloadN X2.here hx rfl (hb hby d3_33) rfl rfl ?_
    refine XS.iloadN X2.here hx rfl (hb hby d3_34) rfl ?_
    refine XS.iloadN X2.here hx rfl (hb hby d3_35) rfl ?_
    show Steps p.tables e below (T2.setTop (mkF m 36 #[.val (.ref x), .val (.ref b), .val (.int (0 : Int32)), .val (.int (1 : Int32)), .val .null, .unset] [(.int (1 : Int32)), (.int (0 : Int32)), (.ref b)])) _
    refine st3 _ ?_
    refine XS.astore X3.here hx rfl (hb hby d3_39) rfl rfl (l' := #[.val (.ref x), .val (.ref b), .val (.int (0 : Int32)), .val (.int (1 : Int32)), .val .null, .val (.ref x4)]) rfl ?_
    refine XS.aloadN X3.here hx rfl (hb hby d3_41) rfl rfl ?_
    refine XS.aload X3.here hx rfl (hb hby d3_42) rfl rfl ?_
    refine XS.iloadN X3.here hx rfl (hb hby d3_44) rfl ?_
    show Steps p.tables e below (T3.setTop (mkF m 45 #[.val (.ref x), .val (.ref b), .val (.int (0 : Int32)), .val (.int (1 : Int32)), .val .null, .val (.ref x4)] [(.int (1 : Int32)), (.ref x4), (.ref x)])) _
    refine st17 _ ?_
    show Steps p.tables e below (T17.setTop (mkF m 48 #[.val (.ref x), .val (.ref b), .val (.int (0 : Int32)), .val (.int (1 : Int32)), .val .null, .val (.ref x4)] [(.int (0 : Int32)), (.ref x)])) _
    refine st23 _ ?_
    refine XS.aloadN X23.here hx rfl (hb hby d3_51) rfl rfl ?_
    refine XS.aload X23.here hx rfl (hb hby d3_52) rfl rfl ?_
    show Steps p.tables e below (T23.setTop (mkF m 54 #[.val (.ref x), .val (.ref b), .val (.int (0 : Int32)), .val (.int (1 : Int32)), .val .null, .val (.ref x4)] [(.ref x4), (.ref x)])) _
    refine st29 _ ?_
    exact kt
  obtain ⟨fs, hr, hrun, hended, hW, hsame⟩ := X29.leave (v := none) (fun _ => rfl)
  have f34 := (Exa.wr W29 f28)
  have f35 := (Fld.other W29 F23 (Or.inr (slot_ne (Or.inr (own_w hw 21 rfl)) (Or.inr (own_w hw 20 rfl)) (by decide) (t := .byte) (t' := (.array .byte)) (by decide) (by decide))))
  have f36 := (Fld.other W29 (Fld.other W23 (Fld.keep H_x k7 nin0) (Or.inr (slot_ne (Or.inl (own_w hw 45 rfl)) (Or.inr (own_w hw 21 rfl)) (by decide) (t := .int) (t' := .byte) (by decide) (by decide)))) (Or.inr (slot_ne (Or.inl (own_w hw 45 rfl)) (Or.inr (own_w hw 20 rfl)) (by decide) (t := .int) (t' := (.array .byte)) (by decide) (by decide))))
  have f37 := (Fld.other W29 (Fld.other W23 (Fld.keep Z_x k7 nin0) (Or.inr (slot_ne (Or.inl (own_w hw 47 rfl)) (Or.inr (own_w hw 21 rfl)) (by decide) (t := .boolean) (t' := .byte) (by decide) (by decide)))) (Or.inr (slot_ne (Or.inl (own_w hw 47 rfl)) (Or.inr (own_w hw 20 rfl)) (by decide) (t := .boolean) (t' := (.array .byte)) (by decide) (by decide))))
  have f38 := (Exa.wr W29 (Exa.wr W23 f9))
  have f39 := (Arv.other (Arv.other f10 W23 (Ne.symm ne13)) W29 (Ne.symm ne13))
  refine ⟨_, _, pre0 _ (S33 _ ?_), hrun, hended, _, _, rfl, ?_, ⟨_, rfl⟩, hW, hsame.mono (by decide) (by decide)⟩
  · exact X29.returnOut hx Bd.returns (hb hby d3_57) hr
  · show Q_rm_siv1 Z x b kb c0 zc h0 n0 _ T29.heap _
    rw [e29]
    exact ⟨x4, x5, rfl, N32, K31, f34, F29, f35, f36, f37, f38, f39⟩
theorem ef_rm_sin1 (m : MethodId) (x0 : Addr) (x1 : Addr) : entryFrame m #[(.ref x0), (.ref x1)] 2 = mkF m 0 #[.val (.ref x0), .val (.ref x1)] [] := by first | (simp [entryFrame, mkF, argsToLocals, Value.category]; done) | rfl
def Q_rm_sin1 (Z : State) (x : Addr) (b : Addr) (kb : ClassId) (c0 : Int32) (zc : Int32) (h0 : Heap) (n0 : Nat) (v : Option Value) (h : Heap) (L : List Loc) : Prop := (∃ (tb : Addr) (kt : ClassId), (v = none) ∧ (Fr n0 L) ∧ (Keep h0 h [x]) ∧ (Exa Z h x "java/lang/String") ∧ (Fld Z h x "java/lang/String" "value" "[B" (.ref tb)) ∧ (Fld Z h x "java/lang/String" "coder" "B" (.int (0 : Int32))) ∧ (Fld Z h x "java/lang/String" "hash" "I" (.int (0 : Int32))) ∧ (Fld Z h x "java/lang/String" "hashIsZero" "Z" (.int (0 : Int32))) ∧ (Exa Z h tb "[B") ∧ (Arv Z h tb kt .byte (1 : Int32) [(.int c0.toInt8.toInt32)] (.int (0 : Int32))))
set_option maxRecDepth 65536 in
set_option maxHeartbeats 40000000 in
theorem rm_sin1 (l : Launch) (Z : State) (a0 : Array Value) (hw : ∀ d ∈ tables_1, d.before a0 Z = true) (ws : List Jvm.Cond) (x : Addr) (b : Addr) (kb : ClassId) (c0 : Int32) (zc : Int32) (h0 : Heap) (n0 : Nat) (O0 : Old Z n0 h0) (E_x : Exa Z h0 x "java/lang/String") (V_x : Fld Z h0 x "java/lang/String" "value" "[B" .null) (C_x : Fld Z h0 x "java/lang/String" "coder" "B" (.int (0 : Int32))) (H_x : Fld Z h0 x "java/lang/String" "hash" "I" (.int (0 : Int32))) (Z_x : Fld Z h0 x "java/lang/String" "hashIsZero" "Z" (.int (0 : Int32))) (g_x : n0 ≤ x) (A_b : Arv Z h0 b kb .char (1 : Int32) [(.int c0)] (.int (0 : Int32))) (la_c0 : ¬ (c0 < (0 : Int32)) ∧ ¬ ((255 : Int32) < c0)) (S_C : Sta Z Z.heap "java/lang/String" "COMPACT_STRINGS" "Z" (.int zc)) (hzc : ¬ (zc = (0 : Int32))) :
    MetFree l (⟨"java/lang/String", "<init>", "([C)V"⟩ : MethodName) (head1 (Jvm.Cond.code (⟨"java/lang/String", "<init>", "([C)V"⟩ : MethodName) jdk_42_method_3_code 2 none :: ws) ({ frames := 3, cells := 1, slots := 1, locals := 52 } : Room)) (fun a U => a = #[(.ref x), (.ref b)] ∧ Z.Warmed39 U.vm ∧ U.heap = h0) (fun _ _ _ _ _ => True) (fun _ U o U' => ∃ v L, o = .returned v ∧ Q_rm_sin1 Z x b kb c0 zc h0 n0 v U'.heap L ∧ FrameEnd U o U' L ({ frames := 3, cells := 1, slots := 1, locals := 52 } : Room).cells ({ frames := 3, cells := 1, slots := 1, locals := 52 } : Room).slots) := by
  refine MetFree.of_bodySF (plainFor_of_name pn_1) hisR ?_
  intro p e s m args below meth c s₁ Bd hml0 hP hK
  obtain ⟨rfl, hZ, hh⟩ := hP
  have hx := Bd.exec
  have hby := Bd.bytes
  have hml : c.maxLocals = 2 := hml0
  have hown : s.vm.findClass "java/lang/String" = some m.cls := findClass_of_methodNamed Bd.named
  have hnm := (name_of_methodNamed Bd.named Bd.method).1
  have X0 : Stand p l e ({ frames := 3, cells := 1, slots := 1, locals := 52 } : Room) s m #[(.ref x), (.ref b)] below meth c s₁ [] 0 0 := Stand.of_body Bd
  have e0 : s₁.heap = h0 := by rw [← hh, Bd.state]; rfl
  have N0 := Fr.nil n0
  have hwl : ∀ d ∈ StrChars.Road.wordsLen, d.before a0 Z = true := fun d hd => hw d (own_wordsLen d hd)
  have hwc : ∀ d ∈ StrChars.Road.wordsChN, d.before a0 Z = true := fun d hd => hw d (own_wordsChN d hd)
  have hwq : ∀ d ∈ StrChars.Road.wordsEq, d.before a0 Z = true := fun d hd => hw d (own_wordsEq d hd)
  have K0 : Keep h0 h0 [x] := Keep.refl _ _
  have pre0 : ∀ t, Steps p.tables e below (s₁.setTop (mkF m 0 #[.val (.ref x), .val (.ref b)] [])) t → Steps p.tables e below (s₁.setTop (entryFrame m #[(.ref x), (.ref b)] 2)) t := fun t k => castTop (ef_rm_sin1 m x b) k
  obtain ⟨cl1, Ar1, -, Sz1, Nn1, -, -⟩ := id A_b
  obtain ⟨_, _, ⟨T2, L2, k2, n2⟩, -, X2, ⟨Lc2, hQ2, l2, y2, z2⟩, st2⟩ := X0.specialBack hx (y := (⟨"java/lang/String", "<init>", "([CIILjava/lang/Void;)V"⟩ : MethodName)) rfl hown (mvT hZ (own_w hw 11 rfl)) (mvT hZ (own_w hw 12 rfl)) (mvT hZ (own_w hw 14 rfl)) (by decide) (backOf (W := 0) (rm_siv1 l Z a0 hw [] x b kb c0 zc h0 n0 O0 E_x V_x C_x H_x Z_x g_x A_b la_c0 S_C hzc) hZ (own_w hw 14 rfl) (own_w hw 7 rfl) (by decide) (by decide)) (g := (mkF m 6 #[.val (.ref x), .val (.ref b)] [.null, (.int (1 : Int32)), (.int (0 : Int32)), (.ref b), (.ref x)])) rfl (by rw [hml]; rfl) (Steps.refl _) (a := x) (argsL := [(.ref b), (.int (0 : Int32)), (.int (1 : Int32)), .null]) (rest := []) (lenOf pd_1 rfl) rfl (by show 2 * 0 + _ ≤ _; exact Nat.le_of_eq rfl) (hb hby d4_6) (fun _ _ => ⟨rfl, e0, (by decide : 0 + 1 ≤ _), (by decide : 0 + 1 ≤ _)⟩)
  dsimp only [Pt.U, Pt.locs, Pt.cells, Pt.slots] at X2 l2 y2 z2 st2 hQ2
  subst l2 y2 z2
  obtain ⟨x3, x4, rfl, N5, k6, f7, f8, f9, f10, f11, f12, f13⟩ := hQ2
  have N14 := Fr.app N0 N5
  have O15 := O0.keep k6 (allS g_x all0)
  have K16 : Keep h0 T2.heap [x] := K0.trans k6 (allS (Or.inl (List.mem_of_getElem? (i := 0) rfl)) all0)
  have S17 : ∀ t, Steps p.tables e below (T2.setTop (mkF m 9 #[.val (.ref x), .val (.ref b)] [])) t → Steps p.tables e below (s₁.setTop (mkF m 0 #[.val (.ref x), .val (.ref b)] [])) t := by
    intro t kt
    refine XS.aloadN X0.here hx rfl (hb hby d4_0) rfl rfl ?_
    refine XS.aloadN X0.here hx rfl (hb hby d4_1) rfl rfl ?_
    refine XS.iconst X0.here hx rfl (hb hby d4_2) ?_
    refine XS.aloadN X0.here hx rfl (hb hby d4_3) rfl rfl ?_
    show Steps p.tables e below (s₁.setTop (mkF m 4 #[.val (.ref x), .val (.ref b)] [(.ref b), (.int (0 : Int32)), (.ref b), (.ref x)])) _
    refine X0.arraylength hx (by rw [e0]; exact Ar1.1) (State.isArrayOf_alike hZ.alike Ar1.2.1) (g := (mkF m 4 #[.val (.ref x), .val (.ref b)] [(.ref b), (.int (0 : Int32)), (.ref b), (.ref x)])) rfl rfl (hb hby d4_4) _ ?_
    rw [len_of Sz1 Nn1]
    refine XS.aconstNull X0.here hx rfl (hb hby d4_5) ?_
    show Steps p.tables e below (s₁.setTop (mkF m 6 #[.val (.ref x), .val (.ref b)] [.null, (.int (1 : Int32)), (.int (0 : Int32)), (.ref b), (.ref x)])) _
    refine st2.trans ?_
    exact kt
  obtain ⟨fs, hr, hrun, hended, hW, hsame⟩ := X2.leave (v := none) (fun _ => rfl)
  refine ⟨_, _, pre0 _ (S17 _ ?_), hrun, hended, _, _, rfl, ?_, ⟨_, rfl⟩, hW, hsame.mono (by decide) (by decide)⟩
  · exact X2.returnOut hx Bd.returns (hb hby d4_9) hr
  · show Q_rm_sin1 Z x b kb c0 zc h0 n0 _ T2.heap _
    exact ⟨x3, x4, rfl, N14, K16, f7, f8, f9, f10, f11, f12, f13⟩
theorem ef_rm_siv2 (m : MethodId) (x0 : Addr) (x1 : Addr) (x2 : Int32) (x3 : Int32) : entryFrame m #[(.ref x0), (.ref x1), (.int x2), (.int x3), .null] 6 = mkF m 0 #[.val (.ref x0), .val (.ref x1), .val (.int x2), .val (.int x3), .val .null, .unset] [] := by first | (simp [entryFrame, mkF, argsToLocals, Value.category]; done) | rfl
def Q_rm_siv2 (Z : State) (x : Addr) (b : Addr) (kb : ClassId) (c0 : Int32) (c1 : Int32) (zc : Int32) (h0 : Heap) (n0 : Nat) (v : Option Value) (h : Heap) (L : List Loc) : Prop := (∃ (tb : Addr) (kt : ClassId), (v = none) ∧ (Fr n0 L) ∧ (Keep h0 h [x]) ∧ (Exa Z h x "java/lang/String") ∧ (Fld Z h x "java/lang/String" "value" "[B" (.ref tb)) ∧ (Fld Z h x "java/lang/String" "coder" "B" (.int (0 : Int32))) ∧ (Fld Z h x "java/lang/String" "hash" "I" (.int (0 : Int32))) ∧ (Fld Z h x "java/lang/String" "hashIsZero" "Z" (.int (0 : Int32))) ∧ (Exa Z h tb "[B") ∧ (Arv Z h tb kt .byte (2 : Int32) [(.int c0.toInt8.toInt32), (.int c1.toInt8.toInt32)] (.int (0 : Int32))))
set_option maxRecDepth 65536 in
set_option maxHeartbeats 40000000 in
theorem rm_siv2 (l : Launch) (Z : State) (a0 : Array Value) (hw : ∀ d ∈ tables_1, d.before a0 Z = true) (ws : List Jvm.Cond) (x : Addr) (b : Addr) (kb : ClassId) (c0 : Int32) (c1 : Int32) (zc : Int32) (h0 : Heap) (n0 : Nat) (O0 : Old Z n0 h0) (E_x : Exa Z h0 x "java/lang/String") (V_x : Fld Z h0 x "java/lang/String" "value" "[B" .null) (C_x : Fld Z h0 x "java/lang/String" "coder" "B" (.int (0 : Int32))) (H_x : Fld Z h0 x "java/lang/String" "hash" "I" (.int (0 : Int32))) (Z_x : Fld Z h0 x "java/lang/String" "hashIsZero" "Z" (.int (0 : Int32))) (g_x : n0 ≤ x) (A_b : Arv Z h0 b kb .char (2 : Int32) [(.int c0), (.int c1)] (.int (0 : Int32))) (la_c0 : ¬ (c0 < (0 : Int32)) ∧ ¬ ((255 : Int32) < c0)) (la_c1 : ¬ (c1 < (0 : Int32)) ∧ ¬ ((255 : Int32) < c1)) (S_C : Sta Z Z.heap "java/lang/String" "COMPACT_STRINGS" "Z" (.int zc)) (hzc : ¬ (zc = (0 : Int32))) :
    MetFree l (⟨"java/lang/String", "<init>", "([CIILjava/lang/Void;)V"⟩ : MethodName) (head1 (Jvm.Cond.code (⟨"java/lang/String", "<init>", "([CIILjava/lang/Void;)V"⟩ : MethodName) jdk_42_method_149_code 6 none :: ws) ({ frames := 2, cells := 1, slots := 2, locals := 35 } : Room)) (fun a U => a = #[(.ref x), (.ref b), (.int (0 : Int32)), (.int (2 : Int32)), .null] ∧ Z.Warmed39 U.vm ∧ U.heap = h0) (fun _ _ _ _ _ => True) (fun _ U o U' => ∃ v L, o = .returned v ∧ Q_rm_siv2 Z x b kb c0 c1 zc h0 n0 v U'.heap L ∧ FrameEnd U o U' L ({ frames := 2, cells := 1, slots := 2, locals := 35 } : Room).cells ({ frames := 2, cells := 1, slots := 2, locals := 35 } : Room).slots) := by
  refine MetFree.of_bodySF (plainFor_of_name pn_1) hisR ?_
  intro p e s m args below meth c s₁ Bd hml0 hP hK
  obtain ⟨rfl, hZ, hh⟩ := hP
  have hx := Bd.exec
  have hby := Bd.bytes
  have hml : c.maxLocals = 6 := hml0
  have hown : s.vm.findClass "java/lang/String" = some m.cls := findClass_of_methodNamed Bd.named
  have hnm := (name_of_methodNamed Bd.named Bd.method).1
  have X0 : Stand p l e ({ frames := 2, cells := 1, slots := 2, locals := 35 } : Room) s m #[(.ref x), (.ref b), (.int (0 : Int32)), (.int (2 : Int32)), .null] below meth c s₁ [] 0 0 := Stand.of_body Bd
  have e0 : s₁.heap = h0 := by rw [← hh, Bd.state]; rfl
  have N0 := Fr.nil n0
  have hwl : ∀ d ∈ StrChars.Road.wordsLen, d.before a0 Z = true := fun d hd => hw d (own_wordsLen d hd)
  have hwc : ∀ d ∈ StrChars.Road.wordsChN, d.before a0 Z = true := fun d hd => hw d (own_wordsChN d hd)
  have hwq : ∀ d ∈ StrChars.Road.wordsEq, d.before a0 Z = true := fun d hd => hw d (own_wordsEq d hd)
  have K0 : Keep h0 h0 [x] := Keep.refl _ _
  have pre0 : ∀ t, Steps p.tables e below (s₁.setTop (mkF m 0 #[.val (.ref x), .val (.ref b), .val (.int (0 : Int32)), .val (.int (2 : Int32)), .val .null, .unset] [])) t → Steps p.tables e below (s₁.setTop (entryFrame m #[(.ref x), (.ref b), (.int (0 : Int32)), (.int (2 : Int32)), .null] 6)) t := fun t k => castTop (ef_rm_siv2 m x b (0 : Int32) (2 : Int32)) k
  obtain ⟨T1, X1, e1, st1⟩ := initO X0 hx hZ hown (own_w hw 15 rfl) (own_w hw 16 rfl) (own_w hw 17 rfl) e0 (g := (mkF m 1 #[.val (.ref x), .val (.ref b), .val (.int (0 : Int32)), .val (.int (2 : Int32)), .val .null, .unset] [(.ref x)])) rfl (by rw [hml]; rfl) rfl (hb hby d3_1) (by decide) (W := 0) (by show 2 * 0 + _ ≤ _; exact Nat.le_of_eq rfl) (by decide)
  obtain ⟨T2, X2, e2, st2⟩ := getS2 X1 hx hZ hown (host := "") (Or.inl (own_w hw 53 rfl)) Via.refl e1 (S_C.ext O0.2) (g := (mkF m 27 #[.val (.ref x), .val (.ref b), .val (.int (0 : Int32)), .val (.int (2 : Int32)), .val .null, .unset] [])) rfl (hb hby d3_27)
  obtain ⟨_, _, ⟨T3, L3, k3, n3⟩, -, X3, ⟨Lc3, hQ3, l3, y3, z3⟩, st3⟩ := Jvm.LawKit.callS X2 hx (y := (⟨"java/lang/StringUTF16", "compress", "([CII)[B"⟩ : MethodName)) hown (mvT hZ (own_w hw 89 rfl)) (mvT hZ (own_w hw 90 rfl)) (mvT hZ (own_w hw 91 rfl)) (mvT hZ (own_w hw 92 rfl)) (by decide) (backOf (W := 0) (rm_cp2 l Z a0 hw [] b kb c0 c1 h0 n0 O0 A_b la_c0 la_c1) hZ (own_w hw 92 rfl) (own_w hw 91 rfl) (by decide) (by decide)) (g := (mkF m 36 #[.val (.ref x), .val (.ref b), .val (.int (0 : Int32)), .val (.int (2 : Int32)), .val .null, .unset] [(.int (2 : Int32)), (.int (0 : Int32)), (.ref b)])) rfl (by rw [hml]; rfl) (argsL := [(.ref b), (.int (0 : Int32)), (.int (2 : Int32))]) (rest := []) (lenOf pd_2 rfl) rfl (by show 2 * 0 + _ ≤ _; exact Nat.le_of_eq rfl) (hb hby d3_36) (fun _ _ => ⟨rfl, e2, (by decide : 0 + 1 ≤ _), (by decide : 0 + 2 ≤ _)⟩)
  dsimp only [Pt.U, Pt.locs, Pt.cells, Pt.slots] at X3 l3 y3 z3 st3 hQ3
  subst l3 y3 z3
  obtain ⟨x4, x5, rfl, N6, k7, f8, f9, f10⟩ := hQ3
  have N11 := Fr.app N0 N6
  have ge12 : n0 ≤ x4 := by rw [← O0.1]; exact Nat.le_trans O0.2.1 f8
  have sz12 : h0.size ≤ x4 := Nat.le_trans K0.1 f8
  have ne13 : x ≠ x4 := Nat.ne_of_lt (Nat.lt_of_lt_of_le (Exa.lt E_x) f8)
  have ne14 : b ≠ x4 := Nat.ne_of_lt (Nat.lt_of_lt_of_le (Arv.lt A_b) f8)
  have O15 := O0.keep k7 all0
  have K16 : Keep h0 T3.heap [x] := K0.trans k7 all0
  obtain ⟨_, _, ⟨T17, L17, k17, n17⟩, -, X17, ⟨Lc17, hQ17, l17, y17, z17⟩, st17⟩ := Jvm.LawKit.callS X3 hx (y := (⟨"java/lang/StringUTF16", "coderFromArrayLen", "([BI)B"⟩ : MethodName)) hown (mvT hZ (own_w hw 96 rfl)) (mvT hZ (own_w hw 97 rfl)) (mvT hZ (own_w hw 91 rfl)) (mvT hZ (own_w hw 98 rfl)) (by decide) (backOf (W := 1) (rm_cf2 l Z a0 hw [] x4 x5 c0 c1 T3.heap n0 O15 f10) hZ (own_w hw 98 rfl) (own_w hw 91 rfl) (by decide) (by decide)) (g := (mkF m 45 #[.val (.ref x), .val (.ref b), .val (.int (0 : Int32)), .val (.int (2 : Int32)), .val .null, .val (.ref x4)] [(.int (2 : Int32)), (.ref x4), (.ref x)])) rfl (by rw [hml]; rfl) (argsL := [(.ref x4), (.int (2 : Int32))]) (rest := [(.ref x)]) (lenOf pd_3 rfl) rfl (by show 2 * 0 + _ ≤ _; exact Nat.le_of_eq rfl) (hb hby d3_45) (fun _ _ => ⟨rfl, rfl, (by decide : 1 + 0 ≤ _), (by decide : 2 + 0 ≤ _)⟩)
  dsimp only [Pt.U, Pt.locs, Pt.cells, Pt.slots] at X17 l17 y17 z17 st17 hQ17
  subst l17 y17 z17
  obtain ⟨rfl, N18, k19⟩ := hQ17
  have N20 := Fr.app N11 N18
  have f21 := (Fld.keep C_x k7 nin0)
  have f22 := (Exa.keep E_x k7)
  obtain ⟨T23, h23, X23, e23, W23, st23⟩ := putFN X17 hx hZ hown (own_w hw 25 rfl) Via.refl k19 f21 f22 (Or.inr ⟨(own_w hw 21 rfl), rfl, hnm⟩) (own_w hw 6 rfl) (ty := .byte) (v' := (.int (0 : Int32))) (by decide) rfl rfl (g := (mkF m 48 #[.val (.ref x), .val (.ref b), .val (.int (0 : Int32)), .val (.int (2 : Int32)), .val .null, .val (.ref x4)] [(.int (0 : Int32)), (.ref x)])) rfl rfl (hb hby d3_48)
  have O24 := O15.wr W23 g_x
  have K25 : Keep h0 h23 [x] := K16.wr W23 (Or.inl (List.mem_of_getElem? (i := 0) rfl))
  have N26 := Fr.snoc X23 N20 g_x
  have F23 : Fld Z h23 x "java/lang/String" "coder" "B" (.int (0 : Int32)) := Fld.same W23 f21
  have f27 := (Fld.other W23 (Fld.keep V_x k7 nin0) (Or.inr (slot_ne (Or.inr (own_w hw 20 rfl)) (Or.inr (own_w hw 21 rfl)) (by decide) (t := (.array .byte)) (t' := .byte) (by decide) (by decide))))
  have f28 := (Exa.wr W23 f22)
  obtain ⟨T29, h29, X29, e29, W29, st29⟩ := putF X23 hx hZ hown (host := "") (Or.inl (own_w hw 24 rfl)) Via.refl e23 f27 f28 (Or.inr ⟨(own_w hw 20 rfl), rfl, hnm⟩) (own_w hw 6 rfl) (ty := (.array .byte)) (by decide) rfl rfl (g := (mkF m 54 #[.val (.ref x), .val (.ref b), .val (.int (0 : Int32)), .val (.int (2 : Int32)), .val .null, .val (.ref x4)] [(.ref x4), (.ref x)])) rfl rfl (hb hby d3_54)
  have O30 := O24.wr W29 g_x
  have K31 : Keep h0 h29 [x] := K25.wr W29 (Or.inl (List.mem_of_getElem? (i := 0) rfl))
  have N32 := Fr.snoc X29 N26 g_x
  have F29 : Fld Z h29 x "java/lang/String" "value" "[B" (.ref x4) := Fld.same W29 f27
  have S33 : ∀ t, Steps p.tables e below (T29.setTop (mkF m 57 #[.val (.ref x), .val (.ref b), .val (.int (0 : Int32)), .val (.int (2 : Int32)), .val .null, .val (.ref x4)] [])) t → Steps p.tables e below (s₁.setTop (mkF m 0 #[.val (.ref x), .val (.ref b), .val (.int (0 : Int32)), .val (.int (2 : Int32)), .val .null, .unset] [])) t := by
    intro t kt
    refine XS.aloadN X0.here hx rfl (hb hby d3_0) rfl rfl ?_
    show Steps p.tables e below (s₁.setTop (mkF m 1 #[.val (.ref x), .val (.ref b), .val (.int (0 : Int32)), .val (.int (2 : Int32)), .val .null, .unset] [(.ref x)])) _
    refine st1 _ ?_
    refine XS.iloadN X1.here hx rfl (hb hby d3_4) rfl ?_
    refine XS.ifYes X1.here hx rfl (pc0 := 5) (pc' := 27) rfl (hb hby d3_5) rfl ((if0 _ _).trans (feq ((by decide) : ¬ ((2 : Int32) = (0 : Int32)))).2) (by decide) (by decide) ?_
    show Steps p.tables e below (T1.setTop (mkF m 27 #[.val (.ref x), .val (.ref b), .val (.int (0 : Int32)), .val (.int (2 : Int32)), .val .null, .unset] [])) _
    refine st2 _ ?_
    refine XS.ifNo X2.here hx rfl (hb hby d3_30) rfl ((if0 _ _).trans (feq (hzc : ¬ (zc = (0 : Int32)))).1) ?_
    refine XS.aloadN X2.here hx rfl (hb hby d3_33) rfl rfl ?_
    refine XS.iloadN X2.here hx rfl (hb hby d3_34) rfl ?_
    refine XS.iloadN X2.here hx rfl (hb hby d3_35) rfl ?_
    show Steps p.tables e below (T2.setTop (mkF m 36 #[.val (.ref x), .val (.ref b), .val (.int (0 : Int32)), .val (.int (2 : Int32)), .val .null, .unset] [(.int (2 : Int32)), (.int (0 : Int32)), (.ref b)])) _
    refine st3 _ ?_
    refine XS.astore X3.here hx rfl (hb hby d3_39) rfl rfl (l' := #[.val (.ref x), .val (.ref b), .val (.int (0 : Int32)), .val (.int (2 : Int32)), .val .null, .val (.ref x4)]) rfl ?_
    refine XS.aloadN X3.here hx rfl (hb hby d3_41) rfl rfl ?_
    refine XS.aload X3.here hx rfl (hb hby d3_42) rfl rfl ?_
    refine XS.iloadN X3.here hx rfl (hb hby d3_44) rfl ?_
    show Steps p.tables e below (T3.setTop (mkF m 45 #[.val (.ref x), .val (.ref b), .val (.int (0 : Int32)), .val (.int (2 : Int32)), .val .null, .val (.ref x4)] [(.int (2 : Int32)), (.ref x4), (.ref x)])) _
    refine st17 _ ?_
    show Steps p.tables e below (T17.setTop (mkF m 48 #[.val (.ref x), .val (.ref b), .val (.int (0 : Int32)), .val (.int (2 : Int32)), .val .null, .val (.ref x4)] [(.int (0 : Int32)), (.ref x)])) _
    refine st23 _ ?_
    refine XS.aloadN X23.here hx rfl (hb hby d3_51) rfl rfl ?_
    refine XS.aload X23.here hx rfl (hb hby d3_52) rfl rfl ?_
    show Steps p.tables e below (T23.setTop (mkF m 54 #[.val (.ref x), .val (.ref b), .val (.int (0 : Int32)), .val (.int (2 : Int32)), .val .null, .val (.ref x4)] [(.ref x4), (.ref x)])) _
    refine st29 _ ?_
    exact kt
  obtain ⟨fs, hr, hrun, hended, hW, hsame⟩ := X29.leave (v := none) (fun _ => rfl)
  have f34 := (Exa.wr W29 f28)
  have f35 := (Fld.other W29 F23 (Or.inr (slot_ne (Or.inr (own_w hw 21 rfl)) (Or.inr (own_w hw 20 rfl)) (by decide) (t := .byte) (t' := (.array .byte)) (by decide) (by decide))))
  have f36 := (Fld.other W29 (Fld.other W23 (Fld.keep H_x k7 nin0) (Or.inr (slot_ne (Or.inl (own_w hw 45 rfl)) (Or.inr (own_w hw 21 rfl)) (by decide) (t := .int) (t' := .byte) (by decide) (by decide)))) (Or.inr (slot_ne (Or.inl (own_w hw 45 rfl)) (Or.inr (own_w hw 20 rfl)) (by decide) (t := .int) (t' := (.array .byte)) (by decide) (by decide))))
  have f37 := (Fld.other W29 (Fld.other W23 (Fld.keep Z_x k7 nin0) (Or.inr (slot_ne (Or.inl (own_w hw 47 rfl)) (Or.inr (own_w hw 21 rfl)) (by decide) (t := .boolean) (t' := .byte) (by decide) (by decide)))) (Or.inr (slot_ne (Or.inl (own_w hw 47 rfl)) (Or.inr (own_w hw 20 rfl)) (by decide) (t := .boolean) (t' := (.array .byte)) (by decide) (by decide))))
  have f38 := (Exa.wr W29 (Exa.wr W23 f9))
  have f39 := (Arv.other (Arv.other f10 W23 (Ne.symm ne13)) W29 (Ne.symm ne13))
  refine ⟨_, _, pre0 _ (S33 _ ?_), hrun, hended, _, _, rfl, ?_, ⟨_, rfl⟩, hW, hsame.mono (by decide) (by decide)⟩
  · exact X29.returnOut hx Bd.returns (hb hby d3_57) hr
  · show Q_rm_siv2 Z x b kb c0 c1 zc h0 n0 _ T29.heap _
    rw [e29]
    exact ⟨x4, x5, rfl, N32, K31, f34, F29, f35, f36, f37, f38, f39⟩
theorem ef_rm_sin2 (m : MethodId) (x0 : Addr) (x1 : Addr) : entryFrame m #[(.ref x0), (.ref x1)] 2 = mkF m 0 #[.val (.ref x0), .val (.ref x1)] [] := by first | (simp [entryFrame, mkF, argsToLocals, Value.category]; done) | rfl
def Q_rm_sin2 (Z : State) (x : Addr) (b : Addr) (kb : ClassId) (c0 : Int32) (c1 : Int32) (zc : Int32) (h0 : Heap) (n0 : Nat) (v : Option Value) (h : Heap) (L : List Loc) : Prop := (∃ (tb : Addr) (kt : ClassId), (v = none) ∧ (Fr n0 L) ∧ (Keep h0 h [x]) ∧ (Exa Z h x "java/lang/String") ∧ (Fld Z h x "java/lang/String" "value" "[B" (.ref tb)) ∧ (Fld Z h x "java/lang/String" "coder" "B" (.int (0 : Int32))) ∧ (Fld Z h x "java/lang/String" "hash" "I" (.int (0 : Int32))) ∧ (Fld Z h x "java/lang/String" "hashIsZero" "Z" (.int (0 : Int32))) ∧ (Exa Z h tb "[B") ∧ (Arv Z h tb kt .byte (2 : Int32) [(.int c0.toInt8.toInt32), (.int c1.toInt8.toInt32)] (.int (0 : Int32))))
set_option maxRecDepth 65536 in
set_option maxHeartbeats 40000000 in
theorem rm_sin2 (l : Launch) (Z : State) (a0 : Array Value) (hw : ∀ d ∈ tables_1, d.before a0 Z = true) (ws : List Jvm.Cond) (x : Addr) (b : Addr) (kb : ClassId) (c0 : Int32) (c1 : Int32) (zc : Int32) (h0 : Heap) (n0 : Nat) (O0 : Old Z n0 h0) (E_x : Exa Z h0 x "java/lang/String") (V_x : Fld Z h0 x "java/lang/String" "value" "[B" .null) (C_x : Fld Z h0 x "java/lang/String" "coder" "B" (.int (0 : Int32))) (H_x : Fld Z h0 x "java/lang/String" "hash" "I" (.int (0 : Int32))) (Z_x : Fld Z h0 x "java/lang/String" "hashIsZero" "Z" (.int (0 : Int32))) (g_x : n0 ≤ x) (A_b : Arv Z h0 b kb .char (2 : Int32) [(.int c0), (.int c1)] (.int (0 : Int32))) (la_c0 : ¬ (c0 < (0 : Int32)) ∧ ¬ ((255 : Int32) < c0)) (la_c1 : ¬ (c1 < (0 : Int32)) ∧ ¬ ((255 : Int32) < c1)) (S_C : Sta Z Z.heap "java/lang/String" "COMPACT_STRINGS" "Z" (.int zc)) (hzc : ¬ (zc = (0 : Int32))) :
    MetFree l (⟨"java/lang/String", "<init>", "([C)V"⟩ : MethodName) (head1 (Jvm.Cond.code (⟨"java/lang/String", "<init>", "([C)V"⟩ : MethodName) jdk_42_method_3_code 2 none :: ws) ({ frames := 3, cells := 1, slots := 2, locals := 52 } : Room)) (fun a U => a = #[(.ref x), (.ref b)] ∧ Z.Warmed39 U.vm ∧ U.heap = h0) (fun _ _ _ _ _ => True) (fun _ U o U' => ∃ v L, o = .returned v ∧ Q_rm_sin2 Z x b kb c0 c1 zc h0 n0 v U'.heap L ∧ FrameEnd U o U' L ({ frames := 3, cells := 1, slots := 2, locals := 52 } : Room).cells ({ frames := 3, cells := 1, slots := 2, locals := 52 } : Room).slots) := by
  refine MetFree.of_bodySF (plainFor_of_name pn_1) hisR ?_
  intro p e s m args below meth c s₁ Bd hml0 hP hK
  obtain ⟨rfl, hZ, hh⟩ := hP
  have hx := Bd.exec
  have hby := Bd.bytes
  have hml : c.maxLocals = 2 := hml0
  have hown : s.vm.findClass "java/lang/String" = some m.cls := findClass_of_methodNamed Bd.named
  have hnm := (name_of_methodNamed Bd.named Bd.method).1
  have X0 : Stand p l e ({ frames := 3, cells := 1, slots := 2, locals := 52 } : Room) s m #[(.ref x), (.ref b)] below meth c s₁ [] 0 0 := Stand.of_body Bd
  have e0 : s₁.heap = h0 := by rw [← hh, Bd.state]; rfl
  have N0 := Fr.nil n0
  have hwl : ∀ d ∈ StrChars.Road.wordsLen, d.before a0 Z = true := fun d hd => hw d (own_wordsLen d hd)
  have hwc : ∀ d ∈ StrChars.Road.wordsChN, d.before a0 Z = true := fun d hd => hw d (own_wordsChN d hd)
  have hwq : ∀ d ∈ StrChars.Road.wordsEq, d.before a0 Z = true := fun d hd => hw d (own_wordsEq d hd)
  have K0 : Keep h0 h0 [x] := Keep.refl _ _
  have pre0 : ∀ t, Steps p.tables e below (s₁.setTop (mkF m 0 #[.val (.ref x), .val (.ref b)] [])) t → Steps p.tables e below (s₁.setTop (entryFrame m #[(.ref x), (.ref b)] 2)) t := fun t k => castTop (ef_rm_sin2 m x b) k
  obtain ⟨cl1, Ar1, -, Sz1, Nn1, -, -⟩ := id A_b
  obtain ⟨_, _, ⟨T2, L2, k2, n2⟩, -, X2, ⟨Lc2, hQ2, l2, y2, z2⟩, st2⟩ := X0.specialBack hx (y := (⟨"java/lang/String", "<init>", "([CIILjava/lang/Void;)V"⟩ : MethodName)) rfl hown (mvT hZ (own_w hw 11 rfl)) (mvT hZ (own_w hw 12 rfl)) (mvT hZ (own_w hw 14 rfl)) (by decide) (backOf (W := 0) (rm_siv2 l Z a0 hw [] x b kb c0 c1 zc h0 n0 O0 E_x V_x C_x H_x Z_x g_x A_b la_c0 la_c1 S_C hzc) hZ (own_w hw 14 rfl) (own_w hw 7 rfl) (by decide) (by decide)) (g := (mkF m 6 #[.val (.ref x), .val (.ref b)] [.null, (.int (2 : Int32)), (.int (0 : Int32)), (.ref b), (.ref x)])) rfl (by rw [hml]; rfl) (Steps.refl _) (a := x) (argsL := [(.ref b), (.int (0 : Int32)), (.int (2 : Int32)), .null]) (rest := []) (lenOf pd_1 rfl) rfl (by show 2 * 0 + _ ≤ _; exact Nat.le_of_eq rfl) (hb hby d4_6) (fun _ _ => ⟨rfl, e0, (by decide : 0 + 1 ≤ _), (by decide : 0 + 2 ≤ _)⟩)
  dsimp only [Pt.U, Pt.locs, Pt.cells, Pt.slots] at X2 l2 y2 z2 st2 hQ2
  subst l2 y2 z2
  obtain ⟨x3, x4, rfl, N5, k6, f7, f8, f9, f10, f11, f12, f13⟩ := hQ2
  have N14 := Fr.app N0 N5
  have O15 := O0.keep k6 (allS g_x all0)
  have K16 : Keep h0 T2.heap [x] := K0.trans k6 (allS (Or.inl (List.mem_of_getElem? (i := 0) rfl)) all0)
  have S17 : ∀ t, Steps p.tables e below (T2.setTop (mkF m 9 #[.val (.ref x), .val (.ref b)] [])) t → Steps p.tables e below (s₁.setTop (mkF m 0 #[.val (.ref x), .val (.ref b)] [])) t := by
    intro t kt
    refine XS.aloadN X0.here hx rfl (hb hby d4_0) rfl rfl ?_
    refine XS.aloadN X0.here hx rfl (hb hby d4_1) rfl rfl ?_
    refine XS.iconst X0.here hx rfl (hb hby d4_2) ?_
    refine XS.aloadN X0.here hx rfl (hb hby d4_3) rfl rfl ?_
    show Steps p.tables e below (s₁.setTop (mkF m 4 #[.val (.ref x), .val (.ref b)] [(.ref b), (.int (0 : Int32)), (.ref b), (.ref x)])) _
    refine X0.arraylength hx (by rw [e0]; exact Ar1.1) (State.isArrayOf_alike hZ.alike Ar1.2.1) (g := (mkF m 4 #[.val (.ref x), .val (.ref b)] [(.ref b), (.int (0 : Int32)), (.ref b), (.ref x)])) rfl rfl (hb hby d4_4) _ ?_
    rw [len_of Sz1 Nn1]
    refine XS.aconstNull X0.here hx rfl (hb hby d4_5) ?_
    show Steps p.tables e below (s₁.setTop (mkF m 6 #[.val (.ref x), .val (.ref b)] [.null, (.int (2 : Int32)), (.int (0 : Int32)), (.ref b), (.ref x)])) _
    refine st2.trans ?_
    exact kt
  obtain ⟨fs, hr, hrun, hended, hW, hsame⟩ := X2.leave (v := none) (fun _ => rfl)
  refine ⟨_, _, pre0 _ (S17 _ ?_), hrun, hended, _, _, rfl, ?_, ⟨_, rfl⟩, hW, hsame.mono (by decide) (by decide)⟩
  · exact X2.returnOut hx Bd.returns (hb hby d4_9) hr
  · show Q_rm_sin2 Z x b kb c0 c1 zc h0 n0 _ T2.heap _
    exact ⟨x3, x4, rfl, N14, K16, f7, f8, f9, f10, f11, f12, f13⟩
theorem own_m3 (x jv : Int32) (h : jv = ((x &&& (3 : Int32)) % (3 : Int32))) : jv = (0 : Int32) ∨ jv = (1 : Int32) ∨ jv = (2 : Int32) := by
  have a1 := c_and x 3 (by decide)
  have e3 : (3 : Int32).toInt = 3 := by decide
  have a2 := (c_iremV (x &&& (3 : Int32)) (3 : Int32)).1 a1.1 (by decide)
  rw [← h, e3] at a2
  have b1 : 0 ≤ jv.toInt := a2.1
  have b2 : jv.toInt < 3 := a2.2.1
  have key : ∀ n : Nat, n < 3 → jv.toInt = (n : Int) → jv = Int32.ofNat n := by
    intro n hn hi
    apply Int32.toInt_inj.mp
    rw [hi, Int32.toInt_ofNat_of_lt (by omega)]
  obtain ⟨n, hn⟩ := Int.eq_ofNat_of_zero_le b1
  have hlt : n < 3 := by omega
  have hk := key n hlt hn
  clear key hn b1 b2 h
  match n, hlt with
  | 0, _ => exact Or.inl hk
  | 1, _ => exact Or.inr (Or.inl hk)
  | 2, _ => exact Or.inr (Or.inr hk)
theorem own_cs0 (x : Int32) (h : (0 : Int32) = ((x &&& (3 : Int32)) % (3 : Int32))) : own_cs x = [] := by unfold own_cs; rw [if_pos h.symm]
theorem own_cs1 (x : Int32) (h : (1 : Int32) = ((x &&& (3 : Int32)) % (3 : Int32))) : own_cs x = [(((x.toUInt32 >>> ((8 : Int32) &&& 31).toUInt32).toInt32) &&& (255 : Int32))] := by unfold own_cs; rw [← h, if_neg (by decide), if_pos rfl]
theorem own_cs2 (x : Int32) (h : (2 : Int32) = ((x &&& (3 : Int32)) % (3 : Int32))) : own_cs x = [(((x.toUInt32 >>> ((8 : Int32) &&& 31).toUInt32).toInt32) &&& (255 : Int32)), (((x.toUInt32 >>> ((16 : Int32) &&& 31).toUInt32).toInt32) &&& (255 : Int32))] := by unfold own_cs; rw [← h, if_neg (by decide), if_neg (by decide)]
theorem d5_0 : decode method_2_code 0 = .ok (.iload_n 0, 1) := by decide +kernel
theorem d5_1 : decode method_2_code 1 = .ok (.iconst 3, 1) := by decide +kernel
theorem d5_2 : decode method_2_code 2 = .ok (.iand, 1) := by decide +kernel
theorem d5_3 : decode method_2_code 3 = .ok (.iconst 3, 1) := by decide +kernel
theorem d5_4 : decode method_2_code 4 = .ok (.irem, 1) := by decide +kernel
theorem d5_5 : decode method_2_code 5 = .ok (.istore_n 1, 1) := by decide +kernel
theorem d5_6 : decode method_2_code 6 = .ok (.iload_n 1, 1) := by decide +kernel
theorem d5_7 : decode method_2_code 7 = .ok (.newarray .char, 2) := by decide +kernel
theorem d5_9 : decode method_2_code 9 = .ok (.astore_n 2, 1) := by decide +kernel
theorem d5_10 : decode method_2_code 10 = .ok (.iload_n 1, 1) := by decide +kernel
theorem d5_11 : decode method_2_code 11 = .ok (.iconst 1, 1) := by decide +kernel
theorem d5_12 : decode method_2_code 12 = .ok (.if_icmp .lt 15, 3) := by decide +kernel
theorem d5_27 : decode method_2_code 27 = .ok (.iload_n 1, 1) := by decide +kernel
theorem d5_28 : decode method_2_code 28 = .ok (.iconst 2, 1) := by decide +kernel
theorem d5_29 : decode method_2_code 29 = .ok (.if_icmp .lt 15, 3) := by decide +kernel
theorem d5_44 : decode method_2_code 44 = .ok (.new 7, 3) := by decide +kernel
theorem d5_47 : decode method_2_code 47 = .ok (.dup, 1) := by decide +kernel
theorem d5_48 : decode method_2_code 48 = .ok (.aload_n 2, 1) := by decide +kernel
theorem d5_49 : decode method_2_code 49 = .ok (.invokespecial 9, 3) := by decide +kernel
theorem pd_4 : parseMethodDescriptor "([C)V" = some ⟨[(.array .char)], none⟩ := by decide +kernel
theorem d5_52 : decode method_2_code 52 = .ok (.areturn, 1) := by decide +kernel
theorem d5_15 : decode method_2_code 15 = .ok (.aload_n 2, 1) := by decide +kernel
theorem d5_16 : decode method_2_code 16 = .ok (.iconst 0, 1) := by decide +kernel
theorem d5_17 : decode method_2_code 17 = .ok (.iload_n 0, 1) := by decide +kernel
theorem d5_18 : decode method_2_code 18 = .ok (.bipush 8, 2) := by decide +kernel
theorem d5_20 : decode method_2_code 20 = .ok (.iushr, 1) := by decide +kernel
theorem d5_21 : decode method_2_code 21 = .ok (.sipush 255, 3) := by decide +kernel
theorem d5_24 : decode method_2_code 24 = .ok (.iand, 1) := by decide +kernel
theorem d5_25 : decode method_2_code 25 = .ok (.i2c, 1) := by decide +kernel
theorem d5_26 : decode method_2_code 26 = .ok (.castore, 1) := by decide +kernel
theorem d5_32 : decode method_2_code 32 = .ok (.aload_n 2, 1) := by decide +kernel
theorem d5_33 : decode method_2_code 33 = .ok (.iconst 1, 1) := by decide +kernel
theorem d5_34 : decode method_2_code 34 = .ok (.iload_n 0, 1) := by decide +kernel
theorem d5_35 : decode method_2_code 35 = .ok (.bipush 16, 2) := by decide +kernel
theorem d5_37 : decode method_2_code 37 = .ok (.iushr, 1) := by decide +kernel
theorem d5_38 : decode method_2_code 38 = .ok (.sipush 255, 3) := by decide +kernel
theorem d5_41 : decode method_2_code 41 = .ok (.iand, 1) := by decide +kernel
theorem d5_42 : decode method_2_code 42 = .ok (.i2c, 1) := by decide +kernel
theorem d5_43 : decode method_2_code 43 = .ok (.castore, 1) := by decide +kernel
theorem pn_2 : plainName "com/example/typecheck/typecheck/model/QNameEqualsPinLaw" = true := by first | (simp [plainName, overriddenIn]; done) | decide +kernel
theorem ef_rm_str (m : MethodId) (x0 : Int32) : entryFrame m #[(.int x0)] 3 = mkF m 0 #[.val (.int x0), .unset, .unset] [] := by first | (simp [entryFrame, mkF, argsToLocals, Value.category]; done) | rfl
def Q_rm_str (Z : State) (pp : Int32) (zc : Int32) (h0 : Heap) (n0 : Nat) (v : Option Value) (h : Heap) (L : List Loc) : Prop := (∃ (x : Addr) (tx : Addr) (kx : ClassId), (v = some (.ref x)) ∧ (Fr n0 L) ∧ (Keep h0 h []) ∧ (h0.size ≤ x) ∧ (Exa Z h x "java/lang/String") ∧ (Fld Z h x "java/lang/String" "value" "[B" (.ref tx)) ∧ (Fld Z h x "java/lang/String" "coder" "B" (.int (0 : Int32))) ∧ (((own_cs pp)).length = 2 → Exa Z h tx "[B") ∧ (Arv Z h tx kx .byte (own_len (own_cs pp)) (own_vs (own_cs pp)) (.int (0 : Int32))) ∧ (Fld Z h x "java/lang/String" "hash" "I" (.int (0 : Int32))) ∧ (Fld Z h x "java/lang/String" "hashIsZero" "Z" (.int (0 : Int32))))
set_option maxRecDepth 65536 in
set_option maxHeartbeats 40000000 in
theorem rm_str (l : Launch) (Z : State) (a0 : Array Value) (hw : ∀ d ∈ tables_1, d.before a0 Z = true) (ws : List Jvm.Cond) (pp : Int32) (zc : Int32) (h0 : Heap) (n0 : Nat) (O0 : Old Z n0 h0) (S_C : Sta Z Z.heap "java/lang/String" "COMPACT_STRINGS" "Z" (.int zc)) (hzc : ¬ (zc = (0 : Int32))) :
    MetFree l (⟨"com/example/typecheck/typecheck/model/QNameEqualsPinLaw", "str", "(I)Ljava/lang/String;"⟩ : MethodName) (head1 (Jvm.Cond.code (⟨"com/example/typecheck/typecheck/model/QNameEqualsPinLaw", "str", "(I)Ljava/lang/String;"⟩ : MethodName) method_2_code 3 (some (.object "java/lang/String")) :: ws) ({ frames := 4, cells := 6, slots := 12, locals := 66 } : Room)) (fun a U => a = #[(.int pp)] ∧ Z.Warmed39 U.vm ∧ U.heap = h0 ∧ CHv Z own_EL U.vm h0 ∧ ∀ own_y ∈ ([] : List Addr), Safe Z own_EL U.vm h0 own_y) (fun _ _ _ _ _ => True) (fun _ U o U' => ∃ v L, o = .returned v ∧ Q_rm_str Z pp zc h0 n0 v U'.heap L ∧ CHr Z own_EL U.vm U.heap U'.vm U'.heap ∧ ReturnedEndW U o U' L ({ frames := 4, cells := 6, slots := 12, locals := 66 } : Room).cells ({ frames := 4, cells := 6, slots := 12, locals := 66 } : Room).slots) := by
  refine MetFree.of_bodySF (plainFor_of_name pn_2) hisR ?_
  intro p e s m args below meth c s₁ Bd hml0 hP hK
  obtain ⟨rfl, hZ, hh, hCH, hSf⟩ := hP
  have hx := Bd.exec
  have hby := Bd.bytes
  have hml : c.maxLocals = 3 := hml0
  have hown : s.vm.findClass "com/example/typecheck/typecheck/model/QNameEqualsPinLaw" = some m.cls := findClass_of_methodNamed Bd.named
  have hnm := (name_of_methodNamed Bd.named Bd.method).1
  have X0 : Stand p l e ({ frames := 4, cells := 6, slots := 12, locals := 66 } : Room) (s.setVm s.vm) m #[(.int pp)] below meth c s₁ [] 0 0 := Stand.of_body Bd
  have e0 : s₁.heap = h0 := by rw [← hh, Bd.state]; rfl
  have N0 := Fr.nil n0
  have hZ0 := hZ
  have ho0 := hown
  have hS0 : s.Since s.vm 0 := (State.WarmedH.refl s).since 0
  have hk0 : 0 ≤ h0.size := Nat.zero_le _
  have CR0 : CHr Z own_EL s.vm h0 s.vm h0 := CHr.refl hCH
  have own_at : ∀ d ∈ Bundle.stringAtoms, d.before a0 Z = true := fun d hd => hw d (own_atoms d hd)
  have own_ew : EW Z a0 own_EL := own_EWof hw
  have hwl : ∀ d ∈ StrChars.Road.wordsLen, d.before a0 Z = true := fun d hd => hw d (own_wordsLen d hd)
  have hwc : ∀ d ∈ StrChars.Road.wordsChN, d.before a0 Z = true := fun d hd => hw d (own_wordsChN d hd)
  have hwq : ∀ d ∈ StrChars.Road.wordsEq, d.before a0 Z = true := fun d hd => hw d (own_wordsEq d hd)
  have K0 : Keep h0 h0 [] := Keep.refl _ _
  have pre0 : ∀ t, Steps p.tables e below (s₁.setTop (mkF m 0 #[.val (.int pp), .unset, .unset] [])) t → Steps p.tables e below (s₁.setTop (entryFrame m #[(.int pp)] 3)) t := fun t k => castTop (ef_rm_str m pp) k
  have S1 : ∀ t, Steps p.tables e below (s₁.setTop (mkF m 5 #[.val (.int pp), .unset, .unset] [(.int ((pp &&& (3 : Int32)) % (3 : Int32)))])) t → Steps p.tables e below (s₁.setTop (mkF m 0 #[.val (.int pp), .unset, .unset] [])) t := by
    intro t kt
    refine XS.iloadN X0.here hx rfl (hb hby d5_0) rfl ?_
    refine XS.iconst X0.here hx rfl (hb hby d5_1) ?_
    refine XS.iand X0.here hx rfl (hb hby d5_2) rfl ?_
    refine XS.iconst X0.here hx rfl (hb hby d5_3) ?_
    show Steps p.tables e below (s₁.setTop (mkF m 4 #[.val (.int pp), .unset, .unset] [(.int (3 : Int32)), (.int (pp &&& (3 : Int32)))])) _
    refine Jvm.RoadKit.iremM (g := (mkF m 4 #[.val (.int pp), .unset, .unset] [(.int (3 : Int32)), (.int (pp &&& (3 : Int32)))])) X0 hx rfl (hb hby d5_4) rfl (by decide) ?_
    exact kt
  obtain ⟨jv, h_jv⟩ : ∃ z, z = ((pp &&& (3 : Int32)) % (3 : Int32)) := ⟨_, rfl⟩
  have S2 : ∀ t, Steps p.tables e below (s₁.setTop (mkF m 5 #[.val (.int pp), .unset, .unset] [(.int jv)])) t → Steps p.tables e below (s₁.setTop (mkF m 0 #[.val (.int pp), .unset, .unset] [])) t := by rw [h_jv]; exact S1
  rcases own_m3 pp jv h_jv with rfl | rfl | rfl
  · obtain ⟨T3, h3, k3, X3, e3, E3, A3, B3, st3⟩ := newPE X0 hx hZ0 (own_w hw 4 rfl) e0 (g := (mkF m 7 #[.val (.int pp), .val (.int (0 : Int32)), .unset] [(.int (0 : Int32))])) rfl (hb hby d5_7) rfl (by decide) (cap := 0) (by decide) (by decide) (by decide) (by decide) (ad := "[C") (by first | rfl | decide)
    obtain ⟨b3, g3⟩ : ∃ z, z = h0.size := ⟨_, rfl⟩
    have ge_b3 : n0 ≤ b3 := by rw [g3, ← O0.1]; exact O0.2.1
    have sz_b3 : h0.size ≤ b3 := by rw [g3]; exact K0.1
    rw [← g3] at A3 B3 st3
    have CR4 := CR0.trans (CHr.ext E3 CR0.1)
    have hk5 := Nat.le_trans hk0 E3.1
    have O6 := O0.ext E3
    have K7 : Keep h0 h3 [] := K0.ext E3
    have F3 : Arv Z h3 b3 k3 .char (0 : Int32) [] (.int (0 : Int32)) := (Arv.new A3 (by decide)).pad (pad_rep [] (.int (0 : Int32)) 0)
    obtain ⟨T8, h8, X8, e8, E8, A8, D8, -, st8⟩ := newO X3 hx hZ0 ho0 (own_w hw 5 rfl) (own_w hw 6 rfl) (own_w hw 7 rfl) e3 (g := (mkF m 44 #[.val (.int pp), .val (.int (0 : Int32)), .val (.ref b3)] [])) rfl (hb hby d5_44) (by decide) (by decide)
    obtain ⟨b8, g8⟩ : ∃ z, z = h3.size := ⟨_, rfl⟩
    have ge_b8 : n0 ≤ b8 := by rw [g8, ← O6.1]; exact O6.2.1
    have sz_b8 : h0.size ≤ b8 := by rw [g8]; exact K7.1
    have ne9 : b3 ≠ b8 := Nat.ne_of_lt (Nat.lt_of_lt_of_le (Exa.lt B3) (Nat.le_of_eq g8.symm))
    have sf10 : Safe Z own_EL s.vm h3 b8 := Safe.new (Nat.le_of_eq g8.symm)
    rw [← g8] at A8 D8 st8
    have CR11 := CR4.trans (CHr.ext E8 CR4.1)
    have hk12 := Nat.le_trans hk5 E8.1
    have sf13 := Safe.ext E8 CR4.1 sf10
    have O14 := O6.ext E8
    have K15 : Keep h0 h8 [] := K7.ext E8
    have F16 : Fld Z h8 b8 "java/lang/String" "value" "[B" .null := D8 (Or.inr (own_w hw 20 rfl)) (ty := (.array .byte)) (by decide)
    have F17 : Fld Z h8 b8 "java/lang/String" "coder" "B" (.int (0 : Int32)) := D8 (Or.inr (own_w hw 21 rfl)) (ty := .byte) (by decide)
    have F18 : Fld Z h8 b8 "java/lang/String" "hash" "I" (.int (0 : Int32)) := D8 (Or.inl (own_w hw 45 rfl)) (ty := .int) (by decide)
    have F19 : Fld Z h8 b8 "java/lang/String" "hashIsZero" "Z" (.int (0 : Int32)) := D8 (Or.inl (own_w hw 47 rfl)) (ty := .boolean) (by decide)
    have f21 := (Arv.ext F3 E8)
    obtain ⟨_, _, ⟨T20, L20, k20, n20⟩, -, Xq20, hSq20, hgq20, ⟨Lc20, hQ20, l20, y20, z20, C20⟩, st20⟩ := X8.specialBackS hx (y := (⟨"java/lang/String", "<init>", "([C)V"⟩ : MethodName)) rfl ho0 (mvT hZ0 (own_w hw 8 rfl)) (mvT hZ0 (own_w hw 9 rfl)) (mvT hZ0 (own_w hw 10 rfl)) (by decide) (own_backS (W := 1) (rm := ({ frames := 2, cells := 4, slots := 8, locals := 29 } : Room)) (xs := [b8]) (rm_sin0 l Z a0 hw [] b8 b3 k3 h8 n0 O14 A8 F16 F17 F18 F19 ge_b8 f21) hZ0 (own_w hw 10 rfl) (own_w hw 7 rfl) (by decide) (by decide) own_ew CR11.1 (allS (P := fun x => x < h8.size ∧ Safe Z own_EL s.vm h8 x) ⟨(Exa.lt A8), sf13⟩ all0)) (g := (mkF m 49 #[.val (.int pp), .val (.int (0 : Int32)), .val (.ref b3)] [(.ref b3), (.ref b8), (.ref b8)])) rfl (by rw [hml]; rfl) (Steps.refl _) (a := b8) (argsL := [(.ref b3)]) (rest := [(.ref b8)]) (lenOf pd_4 rfl) rfl (by show 2 * 0 + _ ≤ _; exact Nat.le_of_eq rfl) (hb hby d5_49) (fun _ _ => ⟨rfl, e8, (by decide : 2 + 4 ≤ _), (by decide : 4 + 8 ≤ _)⟩)
    dsimp only [Pt.U, Pt.locs, Pt.cells, Pt.slots] at Xq20 hSq20 hgq20 l20 y20 z20 st20 hQ20 C20
    obtain ⟨X20, hS20, hZ20, ho20⟩ := rebS hS0 (by rw [e8]; exact hk12) Xq20 hSq20 hgq20 hZ0 ho0
    subst l20 y20 z20
    obtain ⟨x22, x23, rfl, N24, k25, f26, f27, f28, f29, f30, f31⟩ := hQ20
    have N32 := Fr.app N0 N24
    have sf33 := CHr.safe C20 (Exa.lt A8) sf13
    have CR34 := CR11.trans C20
    have hk35 : T20.heap.size ≤ T20.heap.size := Nat.le_refl _
    have O36 := O14.keep k25 (allS ge_b8 all0)
    have K37 : Keep h0 T20.heap [] := K15.trans k25 (allS (Or.inr sz_b8) all0)
    have S38 : ∀ t, Steps p.tables e below (T20.setTop (mkF m 52 #[.val (.int pp), .val (.int (0 : Int32)), .val (.ref b3)] [(.ref b8)])) t → Steps p.tables e below (s₁.setTop (mkF m 0 #[.val (.int pp), .unset, .unset] [])) t := by
      intro t kt
      refine S2 t ?_
      refine XS.istoreN X0.here hx rfl (hb hby d5_5) rfl (l' := #[.val (.int pp), .val (.int (0 : Int32)), .unset]) rfl ?_
      refine XS.iloadN X0.here hx rfl (hb hby d5_6) rfl ?_
      show Steps p.tables e below (s₁.setTop (mkF m 7 #[.val (.int pp), .val (.int (0 : Int32)), .unset] [(.int (0 : Int32))])) _
      refine st3 _ ?_
      refine XS.astoreN X3.here hx rfl (hb hby d5_9) rfl rfl (l' := #[.val (.int pp), .val (.int (0 : Int32)), .val (.ref b3)]) rfl ?_
      refine XS.iloadN X3.here hx rfl (hb hby d5_10) rfl ?_
      refine XS.iconst X3.here hx rfl (hb hby d5_11) ?_
      refine XS.icmpYes X3.here hx rfl (pc0 := 12) (pc' := 27) rfl (hb hby d5_12) rfl (tlt ((by decide) : (0 : Int32) < (1 : Int32))).1 (by decide) (by decide) ?_
      refine XS.iloadN X3.here hx rfl (hb hby d5_27) rfl ?_
      refine XS.iconst X3.here hx rfl (hb hby d5_28) ?_
      refine XS.icmpYes X3.here hx rfl (pc0 := 29) (pc' := 44) rfl (hb hby d5_29) rfl (tlt ((by decide) : (0 : Int32) < (2 : Int32))).1 (by decide) (by decide) ?_
      show Steps p.tables e below (T3.setTop (mkF m 44 #[.val (.int pp), .val (.int (0 : Int32)), .val (.ref b3)] [])) _
      refine st8 _ ?_
      refine XS.dup X8.here hx rfl (hb hby d5_47) rfl rfl ?_
      refine XS.aloadN X8.here hx rfl (hb hby d5_48) rfl rfl ?_
      show Steps p.tables e below (T8.setTop (mkF m 49 #[.val (.int pp), .val (.int (0 : Int32)), .val (.ref b3)] [(.ref b3), (.ref b8), (.ref b8)])) _
      refine st20.trans ?_
      exact kt
    have K39 : Arv Z T20.heap x22 x23 .byte (own_len (own_cs pp)) (own_vs (own_cs pp)) (.int (0 : Int32)) := by rw [own_cs0 pp h_jv]; exact f31
    have T40 : ((own_cs pp)).length = 2 → Exa Z T20.heap x22 "[B" := fun q => absurd q (by rw [own_cs0 pp h_jv]; decide)
    obtain ⟨fs, hr, hrun, hended, hRW⟩ := X20.leaveW hS20 (by exact hk35) (v := some (.ref b8)) (fun h => by rw [Bd.returns] at h; cases h)
    refine ⟨_, _, pre0 _ (S38 _ ?_), hrun, hended, _, _, rfl, ?_, ?_, hRW.1, hRW.2.1, hRW.2.2.1, hRW.2.2.2.mono (by decide) (by decide)⟩
    · exact retOut X20 hx Bd.returns rfl (Or.inr (Or.inr (Or.inr (Or.inr ⟨rfl, rfl, rfl⟩)))) (hb hby d5_52) hr
    · show Q_rm_str Z pp zc h0 n0 _ T20.heap _
      exact ⟨b8, x22, x23, rfl, N32, K37, sz_b8, f26, f27, f28, T40, K39, f29, f30⟩
    · show CHr Z own_EL s.vm s.heap T20.vm T20.heap
      rw [hh]
      exact CR34.trans (CHv.at X20 hZ20 own_ew CR34.1)
  · obtain ⟨T41, h41, k41, X41, e41, E41, A41, B41, st41⟩ := newPE X0 hx hZ0 (own_w hw 4 rfl) e0 (g := (mkF m 7 #[.val (.int pp), .val (.int (1 : Int32)), .unset] [(.int (1 : Int32))])) rfl (hb hby d5_7) rfl (by decide) (cap := 1) (by decide) (by decide) (by decide) (by decide) (ad := "[C") (by first | rfl | decide)
    obtain ⟨b41, g41⟩ : ∃ z, z = h0.size := ⟨_, rfl⟩
    have ge_b41 : n0 ≤ b41 := by rw [g41, ← O0.1]; exact O0.2.1
    have sz_b41 : h0.size ≤ b41 := by rw [g41]; exact K0.1
    rw [← g41] at A41 B41 st41
    have CR42 := CR0.trans (CHr.ext E41 CR0.1)
    have hk43 := Nat.le_trans hk0 E41.1
    have O44 := O0.ext E41
    have K45 : Keep h0 h41 [] := K0.ext E41
    have F41 : Arv Z h41 b41 k41 .char (1 : Int32) [(.int (0 : Int32))] (.int (0 : Int32)) := (Arv.new A41 (by decide)).pad (pad_rep [] (.int (0 : Int32)) 1)
    obtain ⟨cl46, Ar46, q46, Sz46, Nn46, Hh46, Gg46⟩ := id F41
    have in46 : ¬ ((0 : Int32) < 0 ∨ cl46.slots.size ≤ ((0 : Int32)).toNatClampNeg) := inb_of Sz46 ⟨by decide, by decide⟩
    obtain ⟨T46, h46, X46, e46, W46, st46⟩ := stC X41 hx hZ0 e41 Ar46 (j := (0 : Int32)) in46 (g := (mkF m 26 #[.val (.int pp), .val (.int (1 : Int32)), .val (.ref b41)] [(.int (((pp.toUInt32 >>> ((8 : Int32) &&& 31).toUInt32).toInt32) &&& (255 : Int32))), (.int (0 : Int32)), (.ref b41)])) rfl rfl (hb hby d5_26)
    rw [show nar .char (((pp.toUInt32 >>> ((8 : Int32) &&& 31).toUInt32).toInt32) &&& (255 : Int32)) = (((pp.toUInt32 >>> ((8 : Int32) &&& 31).toUInt32).toInt32) &&& (255 : Int32)) from i2c_mask _] at W46
    have CR47 := CR42.trans (CHr.wr W46 (Safe.exa hZ0.alike B41 (by decide) (by decide)) CR42.1)
    have hk48 := Nat.le_trans hk43 (Keep.of_wr W46).1
    have O49 := O44.wr W46 ge_b41
    have K50 : Keep h0 h46 [] := K45.wr W46 (Or.inr sz_b41)
    have N51 := Fr.snoc X46 N0 ge_b41
    have F46 : Arv Z h46 b41 k41 .char (1 : Int32) [(.int (((pp.toUInt32 >>> ((8 : Int32) &&& 31).toUInt32).toInt32) &&& (255 : Int32)))] (.int (0 : Int32)) := Arv.set Ar46 q46 Sz46 Nn46 Hh46 Gg46 (by rw [← (i2c_mask _ : nar .char (((pp.toUInt32 >>> ((8 : Int32) &&& 31).toUInt32).toInt32) &&& (255 : Int32)) = (((pp.toUInt32 >>> ((8 : Int32) &&& 31).toUInt32).toInt32) &&& (255 : Int32)))]; exact fits_nar_char _) W46 0 rfl (Nat.le_of_ble_eq_true rfl)
    obtain ⟨T52, h52, X52, e52, E52, A52, D52, -, st52⟩ := newO X46 hx hZ0 ho0 (own_w hw 5 rfl) (own_w hw 6 rfl) (own_w hw 7 rfl) e46 (g := (mkF m 44 #[.val (.int pp), .val (.int (1 : Int32)), .val (.ref b41)] [])) rfl (hb hby d5_44) (by decide) (by decide)
    obtain ⟨b52, g52⟩ : ∃ z, z = h46.size := ⟨_, rfl⟩
    have ge_b52 : n0 ≤ b52 := by rw [g52, ← O49.1]; exact O49.2.1
    have sz_b52 : h0.size ≤ b52 := by rw [g52]; exact K50.1
    have f53 := (Exa.wr W46 B41)
    have ne54 : b41 ≠ b52 := Nat.ne_of_lt (Nat.lt_of_lt_of_le (Exa.lt f53) (Nat.le_of_eq g52.symm))
    have sf55 : Safe Z own_EL s.vm h46 b52 := Safe.new (Nat.le_of_eq g52.symm)
    rw [← g52] at A52 D52 st52
    have CR56 := CR47.trans (CHr.ext E52 CR47.1)
    have hk57 := Nat.le_trans hk48 E52.1
    have sf58 := Safe.ext E52 CR47.1 sf55
    have O59 := O49.ext E52
    have K60 : Keep h0 h52 [] := K50.ext E52
    have F61 : Fld Z h52 b52 "java/lang/String" "value" "[B" .null := D52 (Or.inr (own_w hw 20 rfl)) (ty := (.array .byte)) (by decide)
    have F62 : Fld Z h52 b52 "java/lang/String" "coder" "B" (.int (0 : Int32)) := D52 (Or.inr (own_w hw 21 rfl)) (ty := .byte) (by decide)
    have F63 : Fld Z h52 b52 "java/lang/String" "hash" "I" (.int (0 : Int32)) := D52 (Or.inl (own_w hw 45 rfl)) (ty := .int) (by decide)
    have F64 : Fld Z h52 b52 "java/lang/String" "hashIsZero" "Z" (.int (0 : Int32)) := D52 (Or.inl (own_w hw 47 rfl)) (ty := .boolean) (by decide)
    have f66 := (Arv.ext F46 E52)
    obtain ⟨_, _, ⟨T65, L65, k65, n65⟩, -, X65, ⟨Lc65, hQ65, l65, y65, z65⟩, st65⟩ := X52.specialBack hx (y := (⟨"java/lang/String", "<init>", "([C)V"⟩ : MethodName)) rfl ho0 (mvT hZ0 (own_w hw 8 rfl)) (mvT hZ0 (own_w hw 9 rfl)) (mvT hZ0 (own_w hw 10 rfl)) (by decide) (backOf (W := 1) (rm_sin1 l Z a0 hw [] b52 b41 k41 (((pp.toUInt32 >>> ((8 : Int32) &&& 31).toUInt32).toInt32) &&& (255 : Int32)) zc h52 n0 O59 A52 F61 F62 F63 F64 ge_b52 f66 (own_lat _) S_C hzc) hZ0 (own_w hw 10 rfl) (own_w hw 7 rfl) (by decide) (by decide)) (g := (mkF m 49 #[.val (.int pp), .val (.int (1 : Int32)), .val (.ref b41)] [(.ref b41), (.ref b52), (.ref b52)])) rfl (by rw [hml]; rfl) (Steps.refl _) (a := b52) (argsL := [(.ref b41)]) (rest := [(.ref b52)]) (lenOf pd_4 rfl) rfl (by show 2 * 0 + _ ≤ _; exact Nat.le_of_eq rfl) (hb hby d5_49) (fun _ _ => ⟨rfl, e52, (by decide : 2 + 1 ≤ _), (by decide : 5 + 1 ≤ _)⟩)
    dsimp only [Pt.U, Pt.locs, Pt.cells, Pt.slots] at X65 l65 y65 z65 st65 hQ65
    subst l65 y65 z65
    obtain ⟨x67, x68, rfl, N69, k70, f71, f72, f73, f74, f75, f76, f77⟩ := hQ65
    have N78 := Fr.app N51 N69
    have CR79 := CR56.trans (CHr.keep k70 (sfS sf58 sf0) CR56.1)
    have hk80 := Nat.le_trans hk57 k70.1
    have sf81 := Safe.keep k70 (sfS sf58 sf0) CR56.1 sf58
    have O82 := O59.keep k70 (allS ge_b52 all0)
    have K83 : Keep h0 T65.heap [] := K60.trans k70 (allS (Or.inr sz_b52) all0)
    have S84 : ∀ t, Steps p.tables e below (T65.setTop (mkF m 52 #[.val (.int pp), .val (.int (1 : Int32)), .val (.ref b41)] [(.ref b52)])) t → Steps p.tables e below (s₁.setTop (mkF m 0 #[.val (.int pp), .unset, .unset] [])) t := by
      intro t kt
      refine S2 t ?_
      refine XS.istoreN X0.here hx rfl (hb hby d5_5) rfl (l' := #[.val (.int pp), .val (.int (1 : Int32)), .unset]) rfl ?_
      refine XS.iloadN X0.here hx rfl (hb hby d5_6) rfl ?_
      show Steps p.tables e below (s₁.setTop (mkF m 7 #[.val (.int pp), .val (.int (1 : Int32)), .unset] [(.int (1 : Int32))])) _
      refine st41 _ ?_
      refine XS.astoreN X41.here hx rfl (hb hby d5_9) rfl rfl (l' := #[.val (.int pp), .val (.int (1 : Int32)), .val (.ref b41)]) rfl ?_
      refine XS.iloadN X41.here hx rfl (hb hby d5_10) rfl ?_
      refine XS.iconst X41.here hx rfl (hb hby d5_11) ?_
      refine XS.icmpNo X41.here hx rfl (hb hby d5_12) rfl (flt ((by decide) : ¬ ((1 : Int32) < (1 : Int32)))).1 ?_
      refine XS.aloadN X41.here hx rfl (hb hby d5_15) rfl rfl ?_
      refine XS.iconst X41.here hx rfl (hb hby d5_16) ?_
      refine XS.iloadN X41.here hx rfl (hb hby d5_17) rfl ?_
      refine XS.bipush X41.here hx rfl (hb hby d5_18) ?_
      show Steps p.tables e below (T41.setTop (mkF m 20 #[.val (.int pp), .val (.int (1 : Int32)), .val (.ref b41)] [(.int (8 : Int32)), (.int pp), (.int (0 : Int32)), (.ref b41)])) _
      refine XS.iushr X41.here hx rfl (hb hby d5_20) rfl ?_
      refine XS.sipush X41.here hx rfl (hb hby d5_21) ?_
      refine XS.iand X41.here hx rfl (hb hby d5_24) rfl ?_
      refine XS.i2c X41.here hx rfl (hb hby d5_25) rfl ?_
      change Steps p.tables e below (T41.setTop (mkF m 26 #[.val (.int pp), .val (.int (1 : Int32)), .val (.ref b41)] [(.int ((((pp.toUInt32 >>> ((8 : Int32) &&& 31).toUInt32).toInt32) &&& (255 : Int32)).toUInt32.toUInt16.toUInt32.toInt32)), (.int (0 : Int32)), (.ref b41)])) _
      rw [i2c_mask]
      show Steps p.tables e below (T41.setTop (mkF m 26 #[.val (.int pp), .val (.int (1 : Int32)), .val (.ref b41)] [(.int (((pp.toUInt32 >>> ((8 : Int32) &&& 31).toUInt32).toInt32) &&& (255 : Int32))), (.int (0 : Int32)), (.ref b41)])) _
      refine st46 _ ?_
      refine XS.iloadN X46.here hx rfl (hb hby d5_27) rfl ?_
      refine XS.iconst X46.here hx rfl (hb hby d5_28) ?_
      refine XS.icmpYes X46.here hx rfl (pc0 := 29) (pc' := 44) rfl (hb hby d5_29) rfl (tlt ((by decide) : (1 : Int32) < (2 : Int32))).1 (by decide) (by decide) ?_
      show Steps p.tables e below (T46.setTop (mkF m 44 #[.val (.int pp), .val (.int (1 : Int32)), .val (.ref b41)] [])) _
      refine st52 _ ?_
      refine XS.dup X52.here hx rfl (hb hby d5_47) rfl rfl ?_
      refine XS.aloadN X52.here hx rfl (hb hby d5_48) rfl rfl ?_
      show Steps p.tables e below (T52.setTop (mkF m 49 #[.val (.int pp), .val (.int (1 : Int32)), .val (.ref b41)] [(.ref b41), (.ref b52), (.ref b52)])) _
      refine st65.trans ?_
      exact kt
    have K85 : Arv Z T65.heap x67 x68 .byte (own_len (own_cs pp)) (own_vs (own_cs pp)) (.int (0 : Int32)) := by rw [own_cs1 pp h_jv]; exact f77
    have T86 : ((own_cs pp)).length = 2 → Exa Z T65.heap x67 "[B" := fun q => absurd q (by rw [own_cs1 pp h_jv]; exact (by decide : ¬ (1 = 2)))
    obtain ⟨fs, hr, hrun, hended, hRW⟩ := X65.leaveW hS0 (by exact hk80) (v := some (.ref b52)) (fun h => by rw [Bd.returns] at h; cases h)
    refine ⟨_, _, pre0 _ (S84 _ ?_), hrun, hended, _, _, rfl, ?_, ?_, hRW.1, hRW.2.1, hRW.2.2.1, hRW.2.2.2.mono (by decide) (by decide)⟩
    · exact retOut X65 hx Bd.returns rfl (Or.inr (Or.inr (Or.inr (Or.inr ⟨rfl, rfl, rfl⟩)))) (hb hby d5_52) hr
    · show Q_rm_str Z pp zc h0 n0 _ T65.heap _
      exact ⟨b52, x67, x68, rfl, N78, K83, sz_b52, f71, f72, f73, T86, K85, f74, f75⟩
    · show CHr Z own_EL s.vm s.heap T65.vm T65.heap
      rw [hh]
      exact CR79.trans (CHv.at X65 hZ0 own_ew CR79.1)
  · obtain ⟨T87, h87, k87, X87, e87, E87, A87, B87, st87⟩ := newPE X0 hx hZ0 (own_w hw 4 rfl) e0 (g := (mkF m 7 #[.val (.int pp), .val (.int (2 : Int32)), .unset] [(.int (2 : Int32))])) rfl (hb hby d5_7) rfl (by decide) (cap := 2) (by decide) (by decide) (by decide) (by decide) (ad := "[C") (by first | rfl | decide)
    obtain ⟨b87, g87⟩ : ∃ z, z = h0.size := ⟨_, rfl⟩
    have ge_b87 : n0 ≤ b87 := by rw [g87, ← O0.1]; exact O0.2.1
    have sz_b87 : h0.size ≤ b87 := by rw [g87]; exact K0.1
    rw [← g87] at A87 B87 st87
    have CR88 := CR0.trans (CHr.ext E87 CR0.1)
    have hk89 := Nat.le_trans hk0 E87.1
    have O90 := O0.ext E87
    have K91 : Keep h0 h87 [] := K0.ext E87
    have F87 : Arv Z h87 b87 k87 .char (2 : Int32) [(.int (0 : Int32)), (.int (0 : Int32))] (.int (0 : Int32)) := (Arv.new A87 (by decide)).pad (pad_rep [] (.int (0 : Int32)) 2)
    obtain ⟨cl92, Ar92, q92, Sz92, Nn92, Hh92, Gg92⟩ := id F87
    have in92 : ¬ ((0 : Int32) < 0 ∨ cl92.slots.size ≤ ((0 : Int32)).toNatClampNeg) := inb_of Sz92 ⟨by decide, by decide⟩
    obtain ⟨T92, h92, X92, e92, W92, st92⟩ := stC X87 hx hZ0 e87 Ar92 (j := (0 : Int32)) in92 (g := (mkF m 26 #[.val (.int pp), .val (.int (2 : Int32)), .val (.ref b87)] [(.int (((pp.toUInt32 >>> ((8 : Int32) &&& 31).toUInt32).toInt32) &&& (255 : Int32))), (.int (0 : Int32)), (.ref b87)])) rfl rfl (hb hby d5_26)
    rw [show nar .char (((pp.toUInt32 >>> ((8 : Int32) &&& 31).toUInt32).toInt32) &&& (255 : Int32)) = (((pp.toUInt32 >>> ((8 : Int32) &&& 31).toUInt32).toInt32) &&& (255 : Int32)) from i2c_mask _] at W92
    have CR93 := CR88.trans (CHr.wr W92 (Safe.exa hZ0.alike B87 (by decide) (by decide)) CR88.1)
    have hk94 := Nat.le_trans hk89 (Keep.of_wr W92).1
    have O95 := O90.wr W92 ge_b87
    have K96 : Keep h0 h92 [] := K91.wr W92 (Or.inr sz_b87)
    have N97 := Fr.snoc X92 N0 ge_b87
    have F92 : Arv Z h92 b87 k87 .char (2 : Int32) [(.int (((pp.toUInt32 >>> ((8 : Int32) &&& 31).toUInt32).toInt32) &&& (255 : Int32))), (.int (0 : Int32))] (.int (0 : Int32)) := Arv.set Ar92 q92 Sz92 Nn92 Hh92 Gg92 (by rw [← (i2c_mask _ : nar .char (((pp.toUInt32 >>> ((8 : Int32) &&& 31).toUInt32).toInt32) &&& (255 : Int32)) = (((pp.toUInt32 >>> ((8 : Int32) &&& 31).toUInt32).toInt32) &&& (255 : Int32)))]; exact fits_nar_char _) W92 0 rfl (Nat.le_of_ble_eq_true rfl)
    obtain ⟨cl98, Ar98, q98, Sz98, Nn98, Hh98, Gg98⟩ := id F92
    have in98 : ¬ ((1 : Int32) < 0 ∨ cl98.slots.size ≤ ((1 : Int32)).toNatClampNeg) := inb_of Sz98 ⟨by decide, by decide⟩
    obtain ⟨T98, h98, X98, e98, W98, st98⟩ := stC X92 hx hZ0 e92 Ar98 (j := (1 : Int32)) in98 (g := (mkF m 43 #[.val (.int pp), .val (.int (2 : Int32)), .val (.ref b87)] [(.int (((pp.toUInt32 >>> ((16 : Int32) &&& 31).toUInt32).toInt32) &&& (255 : Int32))), (.int (1 : Int32)), (.ref b87)])) rfl rfl (hb hby d5_43)
    rw [show nar .char (((pp.toUInt32 >>> ((16 : Int32) &&& 31).toUInt32).toInt32) &&& (255 : Int32)) = (((pp.toUInt32 >>> ((16 : Int32) &&& 31).toUInt32).toInt32) &&& (255 : Int32)) from i2c_mask _] at W98
    have f99 := (Exa.wr W92 B87)
    have CR100 := CR93.trans (CHr.wr W98 (Safe.exa hZ0.alike f99 (by decide) (by decide)) CR93.1)
    have hk101 := Nat.le_trans hk94 (Keep.of_wr W98).1
    have O102 := O95.wr W98 ge_b87
    have K103 : Keep h0 h98 [] := K96.wr W98 (Or.inr sz_b87)
    have N104 := Fr.snoc X98 N97 ge_b87
    have F98 : Arv Z h98 b87 k87 .char (2 : Int32) [(.int (((pp.toUInt32 >>> ((8 : Int32) &&& 31).toUInt32).toInt32) &&& (255 : Int32))), (.int (((pp.toUInt32 >>> ((16 : Int32) &&& 31).toUInt32).toInt32) &&& (255 : Int32)))] (.int (0 : Int32)) := Arv.set Ar98 q98 Sz98 Nn98 Hh98 Gg98 (by rw [← (i2c_mask _ : nar .char (((pp.toUInt32 >>> ((16 : Int32) &&& 31).toUInt32).toInt32) &&& (255 : Int32)) = (((pp.toUInt32 >>> ((16 : Int32) &&& 31).toUInt32).toInt32) &&& (255 : Int32)))]; exact fits_nar_char _) W98 1 rfl (Nat.le_of_ble_eq_true rfl)
    obtain ⟨T105, h105, X105, e105, E105, A105, D105, -, st105⟩ := newO X98 hx hZ0 ho0 (own_w hw 5 rfl) (own_w hw 6 rfl) (own_w hw 7 rfl) e98 (g := (mkF m 44 #[.val (.int pp), .val (.int (2 : Int32)), .val (.ref b87)] [])) rfl (hb hby d5_44) (by decide) (by decide)
    obtain ⟨b105, g105⟩ : ∃ z, z = h98.size := ⟨_, rfl⟩
    have ge_b105 : n0 ≤ b105 := by rw [g105, ← O102.1]; exact O102.2.1
    have sz_b105 : h0.size ≤ b105 := by rw [g105]; exact K103.1
    have f106 := (Exa.wr W98 f99)
    have ne107 : b87 ≠ b105 := Nat.ne_of_lt (Nat.lt_of_lt_of_le (Exa.lt f106) (Nat.le_of_eq g105.symm))
    have sf108 : Safe Z own_EL s.vm h98 b105 := Safe.new (Nat.le_of_eq g105.symm)
    rw [← g105] at A105 D105 st105
    have CR109 := CR100.trans (CHr.ext E105 CR100.1)
    have hk110 := Nat.le_trans hk101 E105.1
    have sf111 := Safe.ext E105 CR100.1 sf108
    have O112 := O102.ext E105
    have K113 : Keep h0 h105 [] := K103.ext E105
    have F114 : Fld Z h105 b105 "java/lang/String" "value" "[B" .null := D105 (Or.inr (own_w hw 20 rfl)) (ty := (.array .byte)) (by decide)
    have F115 : Fld Z h105 b105 "java/lang/String" "coder" "B" (.int (0 : Int32)) := D105 (Or.inr (own_w hw 21 rfl)) (ty := .byte) (by decide)
    have F116 : Fld Z h105 b105 "java/lang/String" "hash" "I" (.int (0 : Int32)) := D105 (Or.inl (own_w hw 45 rfl)) (ty := .int) (by decide)
    have F117 : Fld Z h105 b105 "java/lang/String" "hashIsZero" "Z" (.int (0 : Int32)) := D105 (Or.inl (own_w hw 47 rfl)) (ty := .boolean) (by decide)
    have f119 := (Arv.ext F98 E105)
    obtain ⟨_, _, ⟨T118, L118, k118, n118⟩, -, X118, ⟨Lc118, hQ118, l118, y118, z118⟩, st118⟩ := X105.specialBack hx (y := (⟨"java/lang/String", "<init>", "([C)V"⟩ : MethodName)) rfl ho0 (mvT hZ0 (own_w hw 8 rfl)) (mvT hZ0 (own_w hw 9 rfl)) (mvT hZ0 (own_w hw 10 rfl)) (by decide) (backOf (W := 1) (rm_sin2 l Z a0 hw [] b105 b87 k87 (((pp.toUInt32 >>> ((8 : Int32) &&& 31).toUInt32).toInt32) &&& (255 : Int32)) (((pp.toUInt32 >>> ((16 : Int32) &&& 31).toUInt32).toInt32) &&& (255 : Int32)) zc h105 n0 O112 A105 F114 F115 F116 F117 ge_b105 f119 (own_lat _) (own_lat _) S_C hzc) hZ0 (own_w hw 10 rfl) (own_w hw 7 rfl) (by decide) (by decide)) (g := (mkF m 49 #[.val (.int pp), .val (.int (2 : Int32)), .val (.ref b87)] [(.ref b87), (.ref b105), (.ref b105)])) rfl (by rw [hml]; rfl) (Steps.refl _) (a := b105) (argsL := [(.ref b87)]) (rest := [(.ref b105)]) (lenOf pd_4 rfl) rfl (by show 2 * 0 + _ ≤ _; exact Nat.le_of_eq rfl) (hb hby d5_49) (fun _ _ => ⟨rfl, e105, (by decide : 2 + 1 ≤ _), (by decide : 6 + 2 ≤ _)⟩)
    dsimp only [Pt.U, Pt.locs, Pt.cells, Pt.slots] at X118 l118 y118 z118 st118 hQ118
    subst l118 y118 z118
    obtain ⟨x120, x121, rfl, N122, k123, f124, f125, f126, f127, f128, f129, f130⟩ := hQ118
    have N131 := Fr.app N104 N122
    have CR132 := CR109.trans (CHr.keep k123 (sfS sf111 sf0) CR109.1)
    have hk133 := Nat.le_trans hk110 k123.1
    have sf134 := Safe.keep k123 (sfS sf111 sf0) CR109.1 sf111
    have O135 := O112.keep k123 (allS ge_b105 all0)
    have K136 : Keep h0 T118.heap [] := K113.trans k123 (allS (Or.inr sz_b105) all0)
    have S137 : ∀ t, Steps p.tables e below (T118.setTop (mkF m 52 #[.val (.int pp), .val (.int (2 : Int32)), .val (.ref b87)] [(.ref b105)])) t → Steps p.tables e below (s₁.setTop (mkF m 0 #[.val (.int pp), .unset, .unset] [])) t := by
      intro t kt
      refine S2 t ?_
      refine XS.istoreN X0.here hx rfl (hb hby d5_5) rfl (l' := #[.val (.int pp), .val (.int (2 : Int32)), .unset]) rfl ?_
      refine XS.iloadN X0.here hx rfl (hb hby d5_6) rfl ?_
      show Steps p.tables e below (s₁.setTop (mkF m 7 #[.val (.int pp), .val (.int (2 : Int32)), .unset] [(.int (2 : Int32))])) _
      refine st87 _ ?_
      refine XS.astoreN X87.here hx rfl (hb hby d5_9) rfl rfl (l' := #[.val (.int pp), .val (.int (2 : Int32)), .val (.ref b87)]) rfl ?_
      refine XS.iloadN X87.here hx rfl (hb hby d5_10) rfl ?_
      refine XS.iconst X87.here hx rfl (hb hby d5_11) ?_
      refine XS.icmpNo X87.here hx rfl (hb hby d5_12) rfl (flt ((by decide) : ¬ ((2 : Int32) < (1 : Int32)))).1 ?_
      refine XS.aloadN X87.here hx rfl (hb hby d5_15) rfl rfl ?_
      refine XS.iconst X87.here hx rfl (hb hby d5_16) ?_
      refine XS.iloadN X87.here hx rfl (hb hby d5_17) rfl ?_
      refine XS.bipush X87.here hx rfl (hb hby d5_18) ?_
      show Steps p.tables e below (T87.setTop (mkF m 20 #[.val (.int pp), .val (.int (2 : Int32)), .val (.ref b87)] [(.int (8 : Int32)), (.int pp), (.int (0 : Int32)), (.ref b87)])) _
      refine XS.iushr X87.here hx rfl (hb hby d5_20) rfl ?_
      refine XS.sipush X87.here hx rfl (hb hby d5_21) ?_
      refine XS.iand X87.here hx rfl (hb hby d5_24) rfl ?_
      refine XS.i2c X87.here hx rfl (hb hby d5_25) rfl ?_
      change Steps p.tables e below (T87.setTop (mkF m 26 #[.val (.int pp), .val (.int (2 : Int32)), .val (.ref b87)] [(.int ((((pp.toUInt32 >>> ((8 : Int32) &&& 31).toUInt32).toInt32) &&& (255 : Int32)).toUInt32.toUInt16.toUInt32.toInt32)), (.int (0 : Int32)), (.ref b87)])) _
      rw [i2c_mask]
      show Steps p.tables e below (T87.setTop (mkF m 26 #[.val (.int pp), .val (.int (2 : Int32)), .val (.ref b87)] [(.int (((pp.toUInt32 >>> ((8 : Int32) &&& 31).toUInt32).toInt32) &&& (255 : Int32))), (.int (0 : Int32)), (.ref b87)])) _
      refine st92 _ ?_
      refine XS.iloadN X92.here hx rfl (hb hby d5_27) rfl ?_
      refine XS.iconst X92.here hx rfl (hb hby d5_28) ?_
      refine XS.icmpNo X92.here hx rfl (hb hby d5_29) rfl (flt ((by decide) : ¬ ((2 : Int32) < (2 : Int32)))).1 ?_
      refine XS.aloadN X92.here hx rfl (hb hby d5_32) rfl rfl ?_
      refine XS.iconst X92.here hx rfl (hb hby d5_33) ?_
      refine XS.iloadN X92.here hx rfl (hb hby d5_34) rfl ?_
      refine XS.bipush X92.here hx rfl (hb hby d5_35) ?_
      refine XS.iushr X92.here hx rfl (hb hby d5_37) rfl ?_
      show Steps p.tables e below (T92.setTop (mkF m 38 #[.val (.int pp), .val (.int (2 : Int32)), .val (.ref b87)] [(.int ((pp.toUInt32 >>> ((16 : Int32) &&& 31).toUInt32).toInt32)), (.int (1 : Int32)), (.ref b87)])) _
      refine XS.sipush X92.here hx rfl (hb hby d5_38) ?_
      refine XS.iand X92.here hx rfl (hb hby d5_41) rfl ?_
      refine XS.i2c X92.here hx rfl (hb hby d5_42) rfl ?_
      change Steps p.tables e below (T92.setTop (mkF m 43 #[.val (.int pp), .val (.int (2 : Int32)), .val (.ref b87)] [(.int ((((pp.toUInt32 >>> ((16 : Int32) &&& 31).toUInt32).toInt32) &&& (255 : Int32)).toUInt32.toUInt16.toUInt32.toInt32)), (.int (1 : Int32)), (.ref b87)])) _
      rw [i2c_mask]
      show Steps p.tables e below (T92.setTop (mkF m 43 #[.val (.int pp), .val (.int (2 : Int32)), .val (.ref b87)] [(.int (((pp.toUInt32 >>> ((16 : Int32) &&& 31).toUInt32).toInt32) &&& (255 : Int32))), (.int (1 : Int32)), (.ref b87)])) _
      refine st98 _ ?_
      show Steps p.tables e below (T98.setTop (mkF m 44 #[.val (.int pp), .val (.int (2 : Int32)), .val (.ref b87)] [])) _
      refine st105 _ ?_
      refine XS.dup X105.here hx rfl (hb hby d5_47) rfl rfl ?_
      refine XS.aloadN X105.here hx rfl (hb hby d5_48) rfl rfl ?_
      show Steps p.tables e below (T105.setTop (mkF m 49 #[.val (.int pp), .val (.int (2 : Int32)), .val (.ref b87)] [(.ref b87), (.ref b105), (.ref b105)])) _
      refine st118.trans ?_
      exact kt
    have K138 : Arv Z T118.heap x120 x121 .byte (own_len (own_cs pp)) (own_vs (own_cs pp)) (.int (0 : Int32)) := by rw [own_cs2 pp h_jv]; exact f130
    have T139 : ((own_cs pp)).length = 2 → Exa Z T118.heap x120 "[B" := fun _ => f129
    obtain ⟨fs, hr, hrun, hended, hRW⟩ := X118.leaveW hS0 (by exact hk133) (v := some (.ref b105)) (fun h => by rw [Bd.returns] at h; cases h)
    refine ⟨_, _, pre0 _ (S137 _ ?_), hrun, hended, _, _, rfl, ?_, ?_, hRW.1, hRW.2.1, hRW.2.2.1, hRW.2.2.2.mono (by decide) (by decide)⟩
    · exact retOut X118 hx Bd.returns rfl (Or.inr (Or.inr (Or.inr (Or.inr ⟨rfl, rfl, rfl⟩)))) (hb hby d5_52) hr
    · show Q_rm_str Z pp zc h0 n0 _ T118.heap _
      exact ⟨b105, x120, x121, rfl, N131, K136, sz_b105, f124, f125, f126, T139, K138, f127, f128⟩
    · show CHr Z own_EL s.vm s.heap T118.vm T118.heap
      rw [hh]
      exact CR132.trans (CHv.at X118 hZ0 own_ew CR132.1)
theorem d6_0 : decode jdk_42_method_154_code 0 = .ok (.getstatic 38, 3) := by decide +kernel
theorem d6_3 : decode jdk_42_method_154_code 3 = .ok (.ifCond .eq 14, 3) := by decide +kernel
theorem d6_6 : decode jdk_42_method_154_code 6 = .ok (.aload_n 0, 1) := by decide +kernel
theorem d6_7 : decode jdk_42_method_154_code 7 = .ok (.getfield 15, 3) := by decide +kernel
theorem d6_10 : decode jdk_42_method_154_code 10 = .ok (.ifCond .ne 7, 3) := by decide +kernel
theorem d6_13 : decode jdk_42_method_154_code 13 = .ok (.iconst 1, 1) := by decide +kernel
theorem d6_14 : decode jdk_42_method_154_code 14 = .ok (.goto 4, 3) := by decide +kernel
theorem d6_18 : decode jdk_42_method_154_code 18 = .ok (.ireturn, 1) := by decide +kernel
theorem ef_rm_isl (m : MethodId) (x0 : Addr) : entryFrame m #[(.ref x0)] 1 = mkF m 0 #[.val (.ref x0)] [] := by first | (simp [entryFrame, mkF, argsToLocals, Value.category]; done) | rfl
def Q_rm_isl (Z : State) (x : Addr) (zc : Int32) (h0 : Heap) (n0 : Nat) (v : Option Value) (h : Heap) (L : List Loc) : Prop := ((v = some (.int (1 : Int32))) ∧ (Fr n0 L) ∧ (h = h0))
set_option maxRecDepth 65536 in
set_option maxHeartbeats 40000000 in
theorem rm_isl (l : Launch) (Z : State) (a0 : Array Value) (hw : ∀ d ∈ tables_1, d.before a0 Z = true) (ws : List Jvm.Cond) (x : Addr) (zc : Int32) (h0 : Heap) (n0 : Nat) (O0 : Old Z n0 h0) (C_x : Fld Z h0 x "java/lang/String" "coder" "B" (.int (0 : Int32))) (S_C : Sta Z Z.heap "java/lang/String" "COMPACT_STRINGS" "Z" (.int zc)) (hzc : ¬ (zc = (0 : Int32))) :
    MetFree l (⟨"java/lang/String", "isLatin1", "()Z"⟩ : MethodName) (head1 (Jvm.Cond.code (⟨"java/lang/String", "isLatin1", "()Z"⟩ : MethodName) jdk_42_method_154_code 1 (some .boolean) :: ws) ({ frames := 0, cells := 0, slots := 0, locals := 0 } : Room)) (fun a U => a = #[(.ref x)] ∧ Z.Warmed39 U.vm ∧ U.heap = h0) (fun _ _ _ _ _ => True) (fun _ U o U' => ∃ v L, o = .returned v ∧ Q_rm_isl Z x zc h0 n0 v U'.heap L ∧ FrameEnd U o U' L ({ frames := 0, cells := 0, slots := 0, locals := 0 } : Room).cells ({ frames := 0, cells := 0, slots := 0, locals := 0 } : Room).slots) := by
  refine MetFree.of_bodySF (plainFor_of_name pn_1) hisR ?_
  intro p e s m args below meth c s₁ Bd hml0 hP hK
  obtain ⟨rfl, hZ, hh⟩ := hP
  have hx := Bd.exec
  have hby := Bd.bytes
  have hml : c.maxLocals = 1 := hml0
  have hown : s.vm.findClass "java/lang/String" = some m.cls := findClass_of_methodNamed Bd.named
  have hnm := (name_of_methodNamed Bd.named Bd.method).1
  have X0 : Stand p l e ({ frames := 0, cells := 0, slots := 0, locals := 0 } : Room) s m #[(.ref x)] below meth c s₁ [] 0 0 := Stand.of_body Bd
  have e0 : s₁.heap = h0 := by rw [← hh, Bd.state]; rfl
  have N0 := Fr.nil n0
  have hwl : ∀ d ∈ StrChars.Road.wordsLen, d.before a0 Z = true := fun d hd => hw d (own_wordsLen d hd)
  have hwc : ∀ d ∈ StrChars.Road.wordsChN, d.before a0 Z = true := fun d hd => hw d (own_wordsChN d hd)
  have hwq : ∀ d ∈ StrChars.Road.wordsEq, d.before a0 Z = true := fun d hd => hw d (own_wordsEq d hd)
  have pre0 : ∀ t, Steps p.tables e below (s₁.setTop (mkF m 0 #[.val (.ref x)] [])) t → Steps p.tables e below (s₁.setTop (entryFrame m #[(.ref x)] 1)) t := fun t k => castTop (ef_rm_isl m x) k
  obtain ⟨T1, X1, e1, st1⟩ := getS2 X0 hx hZ hown (host := "") (Or.inl (own_w hw 53 rfl)) Via.refl e0 (S_C.ext O0.2) (g := (mkF m 0 #[.val (.ref x)] [])) rfl (hb hby d6_0)
  obtain ⟨T2, X2, e2, st2⟩ := getF X1 hx hZ hown (host := "") (Or.inl (own_w hw 25 rfl)) Via.refl e1 C_x (g := (mkF m 7 #[.val (.ref x)] [(.ref x)])) rfl rfl (hb hby d6_7)
  have S3 : ∀ t, Steps p.tables e below (T2.setTop (mkF m 18 #[.val (.ref x)] [(.int (1 : Int32))])) t → Steps p.tables e below (s₁.setTop (mkF m 0 #[.val (.ref x)] [])) t := by
    intro t kt
    refine st1 _ ?_
    refine XS.ifNo X1.here hx rfl (hb hby d6_3) rfl ((if0 _ _).trans (feq (hzc : ¬ (zc = (0 : Int32)))).1) ?_
    refine XS.aloadN X1.here hx rfl (hb hby d6_6) rfl rfl ?_
    show Steps p.tables e below (T1.setTop (mkF m 7 #[.val (.ref x)] [(.ref x)])) _
    refine st2 _ ?_
    refine XS.ifNo X2.here hx rfl (hb hby d6_10) rfl ((if0 _ _).trans (teq ((by decide) : (0 : Int32) = (0 : Int32))).2) ?_
    refine XS.iconst X2.here hx rfl (hb hby d6_13) ?_
    refine XS.goto X2.here hx rfl (pc0 := 14) (pc' := 18) rfl (hb hby d6_14) (by decide) (by decide) ?_
    exact kt
  obtain ⟨fs, hr, hrun, hended, hW, hsame⟩ := X2.leave (v := some (.int (1 : Int32))) (fun h => by rw [Bd.returns] at h; cases h)
  refine ⟨_, _, pre0 _ (S3 _ ?_), hrun, hended, _, _, rfl, ?_, ⟨_, rfl⟩, hW, hsame.mono (by decide) (by decide)⟩
  · exact retN X2 hx (t := .boolean) Bd.returns (by simp) (hb hby d6_18) hr
  · show Q_rm_isl Z x zc h0 n0 _ T2.heap _
    rw [e2]
    exact ⟨rfl, N0, rfl⟩
theorem d7_0 : decode jdk_48_method_5_code 0 = .ok (.iload_n 2, 1) := by decide +kernel
theorem d7_1 : decode jdk_48_method_5_code 1 = .ok (.iload_n 3, 1) := by decide +kernel
theorem d7_2 : decode jdk_48_method_5_code 2 = .ok (.iadd, 1) := by decide +kernel
theorem d7_3 : decode jdk_48_method_5_code 3 = .ok (.istore 4, 2) := by decide +kernel
theorem d7_5 : decode jdk_48_method_5_code 5 = .ok (.iload_n 2, 1) := by decide +kernel
theorem d7_6 : decode jdk_48_method_5_code 6 = .ok (.istore 5, 2) := by decide +kernel
theorem d7_8 : decode jdk_48_method_5_code 8 = .ok (.iload 5, 2) := by decide +kernel
theorem d7_10 : decode jdk_48_method_5_code 10 = .ok (.iload 4, 2) := by decide +kernel
theorem d7_12 : decode jdk_48_method_5_code 12 = .ok (.if_icmp .ge 23, 3) := by decide +kernel
theorem d7_15 : decode jdk_48_method_5_code 15 = .ok (.bipush 31, 2) := by decide +kernel
theorem d7_17 : decode jdk_48_method_5_code 17 = .ok (.iload_n 0, 1) := by decide +kernel
theorem d7_18 : decode jdk_48_method_5_code 18 = .ok (.imul, 1) := by decide +kernel
theorem d7_19 : decode jdk_48_method_5_code 19 = .ok (.aload_n 1, 1) := by decide +kernel
theorem d7_20 : decode jdk_48_method_5_code 20 = .ok (.iload 5, 2) := by decide +kernel
theorem d7_22 : decode jdk_48_method_5_code 22 = .ok (.baload, 1) := by decide +kernel
theorem d7_23 : decode jdk_48_method_5_code 23 = .ok (.sipush 255, 3) := by decide +kernel
theorem d7_26 : decode jdk_48_method_5_code 26 = .ok (.iand, 1) := by decide +kernel
theorem d7_27 : decode jdk_48_method_5_code 27 = .ok (.iadd, 1) := by decide +kernel
theorem d7_28 : decode jdk_48_method_5_code 28 = .ok (.istore_n 0, 1) := by decide +kernel
theorem d7_29 : decode jdk_48_method_5_code 29 = .ok (.iinc 5 1, 3) := by decide +kernel
theorem d7_32 : decode jdk_48_method_5_code 32 = .ok (.goto (-24), 3) := by decide +kernel
theorem d7_35 : decode jdk_48_method_5_code 35 = .ok (.iload_n 0, 1) := by decide +kernel
theorem d7_36 : decode jdk_48_method_5_code 36 = .ok (.ireturn, 1) := by decide +kernel
theorem pn_3 : plainName "jdk/internal/util/ArraysSupport" = true := by first | (simp [plainName, overriddenIn]; done) | decide +kernel
theorem ef_rm_sgh (m : MethodId) (x0 : Int32) (x1 : Addr) (x2 : Int32) (x3 : Int32) : entryFrame m #[(.int x0), (.ref x1), (.int x2), (.int x3)] 6 = mkF m 0 #[.val (.int x0), .val (.ref x1), .val (.int x2), .val (.int x3), .unset, .unset] [] := by first | (simp [entryFrame, mkF, argsToLocals, Value.category]; done) | rfl
def Q_rm_sgh (Z : State) (d : Addr) (kd : ClassId) (c0 : Int32) (c1 : Int32) (h0 : Heap) (n0 : Nat) (v : Option Value) (h : Heap) (L : List Loc) : Prop := ((v = some (.int (own_H [c0, c1]))) ∧ (Fr n0 L) ∧ (h = h0))
set_option maxRecDepth 65536 in
set_option maxHeartbeats 40000000 in
theorem rm_sgh (l : Launch) (Z : State) (a0 : Array Value) (hw : ∀ d ∈ tables_1, d.before a0 Z = true) (ws : List Jvm.Cond) (d : Addr) (kd : ClassId) (c0 : Int32) (c1 : Int32) (h0 : Heap) (n0 : Nat) (O0 : Old Z n0 h0) (A_d : Arv Z h0 d kd .byte (2 : Int32) [(.int c0.toInt8.toInt32), (.int c1.toInt8.toInt32)] (.int (0 : Int32))) :
    MetFree l (⟨"jdk/internal/util/ArraysSupport", "signedHashCode", "(I[BII)I"⟩ : MethodName) (head1 (Jvm.Cond.code (⟨"jdk/internal/util/ArraysSupport", "signedHashCode", "(I[BII)I"⟩ : MethodName) jdk_48_method_5_code 6 (some .int) :: ws) ({ frames := 0, cells := 0, slots := 0, locals := 0 } : Room)) (fun a U => a = #[(.int (0 : Int32)), (.ref d), (.int (0 : Int32)), (.int (2 : Int32))] ∧ Z.Warmed39 U.vm ∧ U.heap = h0) (fun _ _ _ _ _ => True) (fun _ U o U' => ∃ v L, o = .returned v ∧ Q_rm_sgh Z d kd c0 c1 h0 n0 v U'.heap L ∧ FrameEnd U o U' L ({ frames := 0, cells := 0, slots := 0, locals := 0 } : Room).cells ({ frames := 0, cells := 0, slots := 0, locals := 0 } : Room).slots) := by
  refine MetFree.of_bodySF (plainFor_of_name pn_3) hisR ?_
  intro p e s m args below meth c s₁ Bd hml0 hP hK
  obtain ⟨rfl, hZ, hh⟩ := hP
  have hx := Bd.exec
  have hby := Bd.bytes
  have hml : c.maxLocals = 6 := hml0
  have hown : s.vm.findClass "jdk/internal/util/ArraysSupport" = some m.cls := findClass_of_methodNamed Bd.named
  have hnm := (name_of_methodNamed Bd.named Bd.method).1
  have X0 : Stand p l e ({ frames := 0, cells := 0, slots := 0, locals := 0 } : Room) s m #[(.int (0 : Int32)), (.ref d), (.int (0 : Int32)), (.int (2 : Int32))] below meth c s₁ [] 0 0 := Stand.of_body Bd
  have e0 : s₁.heap = h0 := by rw [← hh, Bd.state]; rfl
  have N0 := Fr.nil n0
  have hwl : ∀ d ∈ StrChars.Road.wordsLen, d.before a0 Z = true := fun d hd => hw d (own_wordsLen d hd)
  have hwc : ∀ d ∈ StrChars.Road.wordsChN, d.before a0 Z = true := fun d hd => hw d (own_wordsChN d hd)
  have hwq : ∀ d ∈ StrChars.Road.wordsEq, d.before a0 Z = true := fun d hd => hw d (own_wordsEq d hd)
  have pre0 : ∀ t, Steps p.tables e below (s₁.setTop (mkF m 0 #[.val (.int (0 : Int32)), .val (.ref d), .val (.int (0 : Int32)), .val (.int (2 : Int32)), .unset, .unset] [])) t → Steps p.tables e below (s₁.setTop (entryFrame m #[(.int (0 : Int32)), (.ref d), (.int (0 : Int32)), (.int (2 : Int32))] 6)) t := fun t k => castTop (ef_rm_sgh m (0 : Int32) d (0 : Int32) (2 : Int32)) k
  obtain ⟨cl1, Ar1, q1, Sz1, Nn1, Hh1, Gg1⟩ := id A_d
  have in1 : ¬ ((0 : Int32) < 0 ∨ cl1.slots.size ≤ ((0 : Int32)).toNatClampNeg) := by exact inb_of Sz1 ⟨by decide, by decide⟩
  have at1 : cl1.slots[((0 : Int32)).toNatClampNeg]? = some (.int c0.toInt8.toInt32) := by
    refine Has.at Hh1 in1 ?_
    rfl
  obtain ⟨cl2, Ar2, q2, Sz2, Nn2, Hh2, Gg2⟩ := id A_d
  have in2 : ¬ ((1 : Int32) < 0 ∨ cl2.slots.size ≤ ((1 : Int32)).toNatClampNeg) := by exact inb_of Sz2 ⟨by decide, by decide⟩
  have at2 : cl2.slots[((1 : Int32)).toNatClampNeg]? = some (.int c1.toInt8.toInt32) := by
    refine Has.at Hh2 in2 ?_
    rfl
  have S3 : ∀ t, Steps p.tables e below (s₁.setTop (mkF m 36 #[.val (.int (((31 : Int32) * ((0 : Int32) + (c0.toInt8.toInt32 &&& (255 : Int32)))) + (c1.toInt8.toInt32 &&& (255 : Int32)))), .val (.ref d), .val (.int (0 : Int32)), .val (.int (2 : Int32)), .val (.int (2 : Int32)), .val (.int (2 : Int32))] [(.int (((31 : Int32) * ((0 : Int32) + (c0.toInt8.toInt32 &&& (255 : Int32)))) + (c1.toInt8.toInt32 &&& (255 : Int32))))])) t → Steps p.tables e below (s₁.setTop (mkF m 0 #[.val (.int (0 : Int32)), .val (.ref d), .val (.int (0 : Int32)), .val (.int (2 : Int32)), .unset, .unset] [])) t := by
    intro t kt
    refine XS.iloadN X0.here hx rfl (hb hby d7_0) rfl ?_
    refine XS.iloadN X0.here hx rfl (hb hby d7_1) rfl ?_
    refine XS.iadd X0.here hx rfl (hb hby d7_2) rfl ?_
    refine XS.istore X0.here hx rfl (hb hby d7_3) rfl (l' := #[.val (.int (0 : Int32)), .val (.ref d), .val (.int (0 : Int32)), .val (.int (2 : Int32)), .val (.int (2 : Int32)), .unset]) rfl ?_
    refine XS.iloadN X0.here hx rfl (hb hby d7_5) rfl ?_
    refine XS.istore X0.here hx rfl (hb hby d7_6) rfl (l' := #[.val (.int (0 : Int32)), .val (.ref d), .val (.int (0 : Int32)), .val (.int (2 : Int32)), .val (.int (2 : Int32)), .val (.int (0 : Int32))]) rfl ?_
    refine XS.iload X0.here hx rfl (hb hby d7_8) rfl ?_
    refine XS.iload X0.here hx rfl (hb hby d7_10) rfl ?_
    refine XS.icmpNo X0.here hx rfl (hb hby d7_12) rfl (tlt ((by decide) : (0 : Int32) < (2 : Int32))).2.1 ?_
    show Steps p.tables e below (s₁.setTop (mkF m 15 #[.val (.int (0 : Int32)), .val (.ref d), .val (.int (0 : Int32)), .val (.int (2 : Int32)), .val (.int (2 : Int32)), .val (.int (0 : Int32))] [])) _
    refine XS.bipush X0.here hx rfl (hb hby d7_15) ?_
    refine XS.iloadN X0.here hx rfl (hb hby d7_17) rfl ?_
    refine XS.imul X0.here hx rfl (hb hby d7_18) rfl ?_
    refine XS.aloadN X0.here hx rfl (hb hby d7_19) rfl rfl ?_
    refine XS.iload X0.here hx rfl (hb hby d7_20) rfl ?_
    show Steps p.tables e below (s₁.setTop (mkF m 22 #[.val (.int (0 : Int32)), .val (.ref d), .val (.int (0 : Int32)), .val (.int (2 : Int32)), .val (.int (2 : Int32)), .val (.int (0 : Int32))] [(.int (0 : Int32)), (.ref d), (.int (0 : Int32))])) _
    refine X0.baloadBytes hx (j := (0 : Int32)) (v := (.int c0.toInt8.toInt32)) (by rw [e0]; exact Ar1.1) (State.isArrayOf_alike hZ.alike Ar1.2.1) Ar1.2.2 in1 at1 (g := (mkF m 22 #[.val (.int (0 : Int32)), .val (.ref d), .val (.int (0 : Int32)), .val (.int (2 : Int32)), .val (.int (2 : Int32)), .val (.int (0 : Int32))] [(.int (0 : Int32)), (.ref d), (.int (0 : Int32))])) rfl rfl (hb hby d7_22) _ ?_
    refine XS.sipush X0.here hx rfl (hb hby d7_23) ?_
    refine XS.iand X0.here hx rfl (hb hby d7_26) rfl ?_
    refine XS.iadd X0.here hx rfl (hb hby d7_27) rfl ?_
    refine XS.istoreN X0.here hx rfl (hb hby d7_28) rfl (l' := #[.val (.int ((0 : Int32) + (c0.toInt8.toInt32 &&& (255 : Int32)))), .val (.ref d), .val (.int (0 : Int32)), .val (.int (2 : Int32)), .val (.int (2 : Int32)), .val (.int (0 : Int32))]) rfl ?_
    refine XS.iinc X0.here hx rfl (hb hby d7_29) rfl (l' := #[.val (.int ((0 : Int32) + (c0.toInt8.toInt32 &&& (255 : Int32)))), .val (.ref d), .val (.int (0 : Int32)), .val (.int (2 : Int32)), .val (.int (2 : Int32)), .val (.int (1 : Int32))]) rfl ?_
    refine XS.goto X0.here hx rfl (pc0 := 32) (pc' := 8) rfl (hb hby d7_32) (by decide) (by decide) ?_
    refine XS.iload X0.here hx rfl (hb hby d7_8) rfl ?_
    refine XS.iload X0.here hx rfl (hb hby d7_10) rfl ?_
    show Steps p.tables e below (s₁.setTop (mkF m 12 #[.val (.int ((0 : Int32) + (c0.toInt8.toInt32 &&& (255 : Int32)))), .val (.ref d), .val (.int (0 : Int32)), .val (.int (2 : Int32)), .val (.int (2 : Int32)), .val (.int (1 : Int32))] [(.int (2 : Int32)), (.int (1 : Int32))])) _
    refine XS.icmpNo X0.here hx rfl (hb hby d7_12) rfl (tlt ((by decide) : (1 : Int32) < (2 : Int32))).2.1 ?_
    refine XS.bipush X0.here hx rfl (hb hby d7_15) ?_
    refine XS.iloadN X0.here hx rfl (hb hby d7_17) rfl ?_
    refine XS.imul X0.here hx rfl (hb hby d7_18) rfl ?_
    refine XS.aloadN X0.here hx rfl (hb hby d7_19) rfl rfl ?_
    refine XS.iload X0.here hx rfl (hb hby d7_20) rfl ?_
    show Steps p.tables e below (s₁.setTop (mkF m 22 #[.val (.int ((0 : Int32) + (c0.toInt8.toInt32 &&& (255 : Int32)))), .val (.ref d), .val (.int (0 : Int32)), .val (.int (2 : Int32)), .val (.int (2 : Int32)), .val (.int (1 : Int32))] [(.int (1 : Int32)), (.ref d), (.int ((31 : Int32) * ((0 : Int32) + (c0.toInt8.toInt32 &&& (255 : Int32)))))])) _
    refine X0.baloadBytes hx (j := (1 : Int32)) (v := (.int c1.toInt8.toInt32)) (by rw [e0]; exact Ar2.1) (State.isArrayOf_alike hZ.alike Ar2.2.1) Ar2.2.2 in2 at2 (g := (mkF m 22 #[.val (.int ((0 : Int32) + (c0.toInt8.toInt32 &&& (255 : Int32)))), .val (.ref d), .val (.int (0 : Int32)), .val (.int (2 : Int32)), .val (.int (2 : Int32)), .val (.int (1 : Int32))] [(.int (1 : Int32)), (.ref d), (.int ((31 : Int32) * ((0 : Int32) + (c0.toInt8.toInt32 &&& (255 : Int32)))))])) rfl rfl (hb hby d7_22) _ ?_
    refine XS.sipush X0.here hx rfl (hb hby d7_23) ?_
    refine XS.iand X0.here hx rfl (hb hby d7_26) rfl ?_
    refine XS.iadd X0.here hx rfl (hb hby d7_27) rfl ?_
    refine XS.istoreN X0.here hx rfl (hb hby d7_28) rfl (l' := #[.val (.int (((31 : Int32) * ((0 : Int32) + (c0.toInt8.toInt32 &&& (255 : Int32)))) + (c1.toInt8.toInt32 &&& (255 : Int32)))), .val (.ref d), .val (.int (0 : Int32)), .val (.int (2 : Int32)), .val (.int (2 : Int32)), .val (.int (1 : Int32))]) rfl ?_
    refine XS.iinc X0.here hx rfl (hb hby d7_29) rfl (l' := #[.val (.int (((31 : Int32) * ((0 : Int32) + (c0.toInt8.toInt32 &&& (255 : Int32)))) + (c1.toInt8.toInt32 &&& (255 : Int32)))), .val (.ref d), .val (.int (0 : Int32)), .val (.int (2 : Int32)), .val (.int (2 : Int32)), .val (.int (2 : Int32))]) rfl ?_
    refine XS.goto X0.here hx rfl (pc0 := 32) (pc' := 8) rfl (hb hby d7_32) (by decide) (by decide) ?_
    refine XS.iload X0.here hx rfl (hb hby d7_8) rfl ?_
    refine XS.iload X0.here hx rfl (hb hby d7_10) rfl ?_
    show Steps p.tables e below (s₁.setTop (mkF m 12 #[.val (.int (((31 : Int32) * ((0 : Int32) + (c0.toInt8.toInt32 &&& (255 : Int32)))) + (c1.toInt8.toInt32 &&& (255 : Int32)))), .val (.ref d), .val (.int (0 : Int32)), .val (.int (2 : Int32)), .val (.int (2 : Int32)), .val (.int (2 : Int32))] [(.int (2 : Int32)), (.int (2 : Int32))])) _
    refine XS.icmpYes X0.here hx rfl (pc0 := 12) (pc' := 35) rfl (hb hby d7_12) rfl (flt ((by decide) : ¬ ((2 : Int32) < (2 : Int32)))).2.1 (by decide) (by decide) ?_
    refine XS.iloadN X0.here hx rfl (hb hby d7_35) rfl ?_
    exact kt
  obtain ⟨fs, hr, hrun, hended, hW, hsame⟩ := X0.leave (v := some (.int (((31 : Int32) * ((0 : Int32) + (c0.toInt8.toInt32 &&& (255 : Int32)))) + (c1.toInt8.toInt32 &&& (255 : Int32))))) (fun h => by rw [Bd.returns] at h; cases h)
  refine ⟨_, _, pre0 _ (S3 _ ?_), hrun, hended, _, _, rfl, ?_, ⟨_, rfl⟩, hW, hsame.mono (by decide) (by decide)⟩
  · exact retOut X0 hx Bd.returns rfl (Or.inl ⟨rfl, Or.inl rfl, _, rfl⟩) (hb hby d7_36) hr
  · show Q_rm_sgh Z d kd c0 c1 h0 n0 _ s₁.heap _
    rw [e0]
    exact ⟨rfl, N0, rfl⟩
theorem d8_0 : decode jdk_48_method_4_code 0 = .ok (.iload 4, 2) := by decide +kernel
theorem d8_2 : decode jdk_48_method_4_code 2 = .ok (.tableswitch 127 4 10 #[42, 55, 127, 127, 88, 101, 114], 42) := by decide +kernel
theorem d8_44 : decode jdk_48_method_4_code 44 = .ok (.iload_n 3, 1) := by decide +kernel
theorem d8_45 : decode jdk_48_method_4_code 45 = .ok (.aload_n 0, 1) := by decide +kernel
theorem d8_46 : decode jdk_48_method_4_code 46 = .ok (.checkcast 60, 3) := by decide +kernel
theorem d8_49 : decode jdk_48_method_4_code 49 = .ok (.iload_n 1, 1) := by decide +kernel
theorem d8_50 : decode jdk_48_method_4_code 50 = .ok (.iload_n 2, 1) := by decide +kernel
theorem d8_51 : decode jdk_48_method_4_code 51 = .ok (.invokestatic 62, 3) := by decide +kernel
theorem pd_5 : parseMethodDescriptor "(I[BII)I" = some ⟨[.int, (.array .byte), .int, .int], some .int⟩ := by decide +kernel
theorem d8_54 : decode jdk_48_method_4_code 54 = .ok (.goto 103, 3) := by decide +kernel
theorem d8_157 : decode jdk_48_method_4_code 157 = .ok (.ireturn, 1) := by decide +kernel
theorem ef_rm_vhc (m : MethodId) (x0 : Addr) (x1 : Int32) (x2 : Int32) (x3 : Int32) (x4 : Int32) : entryFrame m #[(.ref x0), (.int x1), (.int x2), (.int x3), (.int x4)] 5 = mkF m 0 #[.val (.ref x0), .val (.int x1), .val (.int x2), .val (.int x3), .val (.int x4)] [] := by first | (simp [entryFrame, mkF, argsToLocals, Value.category]; done) | rfl
def Q_rm_vhc (Z : State) (d : Addr) (kd : ClassId) (c0 : Int32) (c1 : Int32) (h0 : Heap) (n0 : Nat) (v : Option Value) (h : Heap) (L : List Loc) : Prop := ((v = some (.int (own_H [c0, c1]))) ∧ (Fr n0 L) ∧ (h = h0))
set_option maxRecDepth 65536 in
set_option maxHeartbeats 40000000 in
theorem rm_vhc (l : Launch) (Z : State) (a0 : Array Value) (hw : ∀ d ∈ tables_1, d.before a0 Z = true) (ws : List Jvm.Cond) (d : Addr) (kd : ClassId) (c0 : Int32) (c1 : Int32) (h0 : Heap) (n0 : Nat) (O0 : Old Z n0 h0) (E_d : Exa Z h0 d "[B") (A_d : Arv Z h0 d kd .byte (2 : Int32) [(.int c0.toInt8.toInt32), (.int c1.toInt8.toInt32)] (.int (0 : Int32))) :
    MetFree l (⟨"jdk/internal/util/ArraysSupport", "vectorizedHashCode", "(Ljava/lang/Object;IIII)I"⟩ : MethodName) (head1 (Jvm.Cond.code (⟨"jdk/internal/util/ArraysSupport", "vectorizedHashCode", "(Ljava/lang/Object;IIII)I"⟩ : MethodName) jdk_48_method_4_code 5 (some .int) :: ws) ({ frames := 1, cells := 0, slots := 0, locals := 17 } : Room)) (fun a U => a = #[(.ref d), (.int (0 : Int32)), (.int (2 : Int32)), (.int (0 : Int32)), (.int (4 : Int32))] ∧ Z.Warmed39 U.vm ∧ U.heap = h0) (fun _ _ _ _ _ => True) (fun _ U o U' => ∃ v L, o = .returned v ∧ Q_rm_vhc Z d kd c0 c1 h0 n0 v U'.heap L ∧ FrameEnd U o U' L ({ frames := 1, cells := 0, slots := 0, locals := 17 } : Room).cells ({ frames := 1, cells := 0, slots := 0, locals := 17 } : Room).slots) := by
  refine MetFree.of_bodySF (plainFor_of_name pn_3) hisR ?_
  intro p e s m args below meth c s₁ Bd hml0 hP hK
  obtain ⟨rfl, hZ, hh⟩ := hP
  have hx := Bd.exec
  have hby := Bd.bytes
  have hml : c.maxLocals = 5 := hml0
  have hown : s.vm.findClass "jdk/internal/util/ArraysSupport" = some m.cls := findClass_of_methodNamed Bd.named
  have hnm := (name_of_methodNamed Bd.named Bd.method).1
  have X0 : Stand p l e ({ frames := 1, cells := 0, slots := 0, locals := 17 } : Room) s m #[(.ref d), (.int (0 : Int32)), (.int (2 : Int32)), (.int (0 : Int32)), (.int (4 : Int32))] below meth c s₁ [] 0 0 := Stand.of_body Bd
  have e0 : s₁.heap = h0 := by rw [← hh, Bd.state]; rfl
  have N0 := Fr.nil n0
  have hwl : ∀ d ∈ StrChars.Road.wordsLen, d.before a0 Z = true := fun d hd => hw d (own_wordsLen d hd)
  have hwc : ∀ d ∈ StrChars.Road.wordsChN, d.before a0 Z = true := fun d hd => hw d (own_wordsChN d hd)
  have hwq : ∀ d ∈ StrChars.Road.wordsEq, d.before a0 Z = true := fun d hd => hw d (own_wordsEq d hd)
  have pre0 : ∀ t, Steps p.tables e below (s₁.setTop (mkF m 0 #[.val (.ref d), .val (.int (0 : Int32)), .val (.int (2 : Int32)), .val (.int (0 : Int32)), .val (.int (4 : Int32))] [])) t → Steps p.tables e below (s₁.setTop (entryFrame m #[(.ref d), (.int (0 : Int32)), (.int (2 : Int32)), (.int (0 : Int32)), (.int (4 : Int32))] 5)) t := fun t k => castTop (ef_rm_vhc m d (0 : Int32) (2 : Int32) (0 : Int32) (4 : Int32)) k
  obtain ⟨T1, X1, e1, st1⟩ := castY X0 hx hZ hown (own_w hw 103 rfl) e0 (Ins.self E_d) (g := (mkF m 46 #[.val (.ref d), .val (.int (0 : Int32)), .val (.int (2 : Int32)), .val (.int (0 : Int32)), .val (.int (4 : Int32))] [(.ref d), (.int (0 : Int32))])) rfl rfl (hb hby d8_46)
  obtain ⟨_, _, ⟨T2, L2, k2, n2⟩, -, X2, ⟨Lc2, hQ2, l2, y2, z2⟩, st2⟩ := Jvm.LawKit.callS X1 hx (y := (⟨"jdk/internal/util/ArraysSupport", "signedHashCode", "(I[BII)I"⟩ : MethodName)) hown (mvT hZ (own_w hw 105 rfl)) (mvT hZ (own_w hw 106 rfl)) (mvT hZ (own_w hw 101 rfl)) (mvT hZ (own_w hw 107 rfl)) (by decide) (backOf (W := 0) (rm_sgh l Z a0 hw [] d kd c0 c1 h0 n0 O0 A_d) hZ (own_w hw 107 rfl) (own_w hw 101 rfl) (by decide) (by decide)) (g := (mkF m 51 #[.val (.ref d), .val (.int (0 : Int32)), .val (.int (2 : Int32)), .val (.int (0 : Int32)), .val (.int (4 : Int32))] [(.int (2 : Int32)), (.int (0 : Int32)), (.ref d), (.int (0 : Int32))])) rfl (by rw [hml]; rfl) (argsL := [(.int (0 : Int32)), (.ref d), (.int (0 : Int32)), (.int (2 : Int32))]) (rest := []) (lenOf pd_5 rfl) rfl (by show 2 * 0 + _ ≤ _; exact Nat.le_of_eq rfl) (hb hby d8_51) (fun _ _ => ⟨rfl, e1, (by decide : 0 + 0 ≤ _), (by decide : 0 + 0 ≤ _)⟩)
  dsimp only [Pt.U, Pt.locs, Pt.cells, Pt.slots] at X2 l2 y2 z2 st2 hQ2
  subst l2 y2 z2
  obtain ⟨rfl, N3, k4⟩ := hQ2
  have N5 := Fr.app N0 N3
  have S6 : ∀ t, Steps p.tables e below (T2.setTop (mkF m 157 #[.val (.ref d), .val (.int (0 : Int32)), .val (.int (2 : Int32)), .val (.int (0 : Int32)), .val (.int (4 : Int32))] [(.int (own_H [c0, c1]))])) t → Steps p.tables e below (s₁.setTop (mkF m 0 #[.val (.ref d), .val (.int (0 : Int32)), .val (.int (2 : Int32)), .val (.int (0 : Int32)), .val (.int (4 : Int32))] [])) t := by
    intro t kt
    refine XS.iload X0.here hx rfl (hb hby d8_0) rfl ?_
    refine XS.tswIn X0.here hx rfl (pc0 := 2) (pc' := 44) rfl (hb hby d8_2) rfl (by decide) (o := 42) (by decide) (by decide) (by decide) ?_
    refine XS.iloadN X0.here hx rfl (hb hby d8_44) rfl ?_
    refine XS.aloadN X0.here hx rfl (hb hby d8_45) rfl rfl ?_
    show Steps p.tables e below (s₁.setTop (mkF m 46 #[.val (.ref d), .val (.int (0 : Int32)), .val (.int (2 : Int32)), .val (.int (0 : Int32)), .val (.int (4 : Int32))] [(.ref d), (.int (0 : Int32))])) _
    refine st1 _ ?_
    refine XS.iloadN X1.here hx rfl (hb hby d8_49) rfl ?_
    refine XS.iloadN X1.here hx rfl (hb hby d8_50) rfl ?_
    show Steps p.tables e below (T1.setTop (mkF m 51 #[.val (.ref d), .val (.int (0 : Int32)), .val (.int (2 : Int32)), .val (.int (0 : Int32)), .val (.int (4 : Int32))] [(.int (2 : Int32)), (.int (0 : Int32)), (.ref d), (.int (0 : Int32))])) _
    refine st2 _ ?_
    refine XS.goto X2.here hx rfl (pc0 := 54) (pc' := 157) rfl (hb hby d8_54) (by decide) (by decide) ?_
    exact kt
  obtain ⟨fs, hr, hrun, hended, hW, hsame⟩ := X2.leave (v := some (.int (own_H [c0, c1]))) (fun h => by rw [Bd.returns] at h; cases h)
  refine ⟨_, _, pre0 _ (S6 _ ?_), hrun, hended, _, _, rfl, ?_, ⟨_, rfl⟩, hW, hsame.mono (by decide) (by decide)⟩
  · exact retOut X2 hx Bd.returns rfl (Or.inl ⟨rfl, Or.inl rfl, _, rfl⟩) (hb hby d8_157) hr
  · show Q_rm_vhc Z d kd c0 c1 h0 n0 _ T2.heap _
    rw [k4]
    exact ⟨rfl, N5, rfl⟩
theorem d9_0 : decode jdk_43_method_21_code 0 = .ok (.aload_n 0, 1) := by decide +kernel
theorem d9_1 : decode jdk_43_method_21_code 1 = .ok (.arraylength, 1) := by decide +kernel
theorem d9_2 : decode jdk_43_method_21_code 2 = .ok (.lookupswitch 40 #[(0, 26), (1, 30)], 26) := by decide +kernel
theorem d9_28 : decode jdk_43_method_21_code 28 = .ok (.iconst 0, 1) := by decide +kernel
theorem d9_29 : decode jdk_43_method_21_code 29 = .ok (.goto 22, 3) := by decide +kernel
theorem d9_51 : decode jdk_43_method_21_code 51 = .ok (.ireturn, 1) := by decide +kernel
theorem pn_4 : plainName "java/lang/StringLatin1" = true := by first | (simp [plainName, overriddenIn]; done) | decide +kernel
theorem ef_rm_slh0 (m : MethodId) (x0 : Addr) : entryFrame m #[(.ref x0)] 1 = mkF m 0 #[.val (.ref x0)] [] := by first | (simp [entryFrame, mkF, argsToLocals, Value.category]; done) | rfl
def Q_rm_slh0 (Z : State) (d : Addr) (kd : ClassId) (h0 : Heap) (n0 : Nat) (v : Option Value) (h : Heap) (L : List Loc) : Prop := ((v = some (.int (0 : Int32))) ∧ (Fr n0 L) ∧ (h = h0))
set_option maxRecDepth 65536 in
set_option maxHeartbeats 40000000 in
theorem rm_slh0 (l : Launch) (Z : State) (a0 : Array Value) (hw : ∀ d ∈ tables_1, d.before a0 Z = true) (ws : List Jvm.Cond) (d : Addr) (kd : ClassId) (h0 : Heap) (n0 : Nat) (O0 : Old Z n0 h0) (A_d : Arv Z h0 d kd .byte (0 : Int32) [] (.int (0 : Int32))) :
    MetFree l (⟨"java/lang/StringLatin1", "hashCode", "([B)I"⟩ : MethodName) (head1 (Jvm.Cond.code (⟨"java/lang/StringLatin1", "hashCode", "([B)I"⟩ : MethodName) jdk_43_method_21_code 1 (some .int) :: ws) ({ frames := 0, cells := 0, slots := 0, locals := 0 } : Room)) (fun a U => a = #[(.ref d)] ∧ Z.Warmed39 U.vm ∧ U.heap = h0) (fun _ _ _ _ _ => True) (fun _ U o U' => ∃ v L, o = .returned v ∧ Q_rm_slh0 Z d kd h0 n0 v U'.heap L ∧ FrameEnd U o U' L ({ frames := 0, cells := 0, slots := 0, locals := 0 } : Room).cells ({ frames := 0, cells := 0, slots := 0, locals := 0 } : Room).slots) := by
  refine MetFree.of_bodySF (plainFor_of_name pn_4) hisR ?_
  intro p e s m args below meth c s₁ Bd hml0 hP hK
  obtain ⟨rfl, hZ, hh⟩ := hP
  have hx := Bd.exec
  have hby := Bd.bytes
  have hml : c.maxLocals = 1 := hml0
  have hown : s.vm.findClass "java/lang/StringLatin1" = some m.cls := findClass_of_methodNamed Bd.named
  have hnm := (name_of_methodNamed Bd.named Bd.method).1
  have X0 : Stand p l e ({ frames := 0, cells := 0, slots := 0, locals := 0 } : Room) s m #[(.ref d)] below meth c s₁ [] 0 0 := Stand.of_body Bd
  have e0 : s₁.heap = h0 := by rw [← hh, Bd.state]; rfl
  have N0 := Fr.nil n0
  have hwl : ∀ d ∈ StrChars.Road.wordsLen, d.before a0 Z = true := fun d hd => hw d (own_wordsLen d hd)
  have hwc : ∀ d ∈ StrChars.Road.wordsChN, d.before a0 Z = true := fun d hd => hw d (own_wordsChN d hd)
  have hwq : ∀ d ∈ StrChars.Road.wordsEq, d.before a0 Z = true := fun d hd => hw d (own_wordsEq d hd)
  have pre0 : ∀ t, Steps p.tables e below (s₁.setTop (mkF m 0 #[.val (.ref d)] [])) t → Steps p.tables e below (s₁.setTop (entryFrame m #[(.ref d)] 1)) t := fun t k => castTop (ef_rm_slh0 m d) k
  obtain ⟨cl1, Ar1, -, Sz1, Nn1, -, -⟩ := id A_d
  have S2 : ∀ t, Steps p.tables e below (s₁.setTop (mkF m 51 #[.val (.ref d)] [(.int (0 : Int32))])) t → Steps p.tables e below (s₁.setTop (mkF m 0 #[.val (.ref d)] [])) t := by
    intro t kt
    refine XS.aloadN X0.here hx rfl (hb hby d9_0) rfl rfl ?_
    show Steps p.tables e below (s₁.setTop (mkF m 1 #[.val (.ref d)] [(.ref d)])) _
    refine X0.arraylength hx (by rw [e0]; exact Ar1.1) (State.isArrayOf_alike hZ.alike Ar1.2.1) (g := (mkF m 1 #[.val (.ref d)] [(.ref d)])) rfl rfl (hb hby d9_1) _ ?_
    rw [len_of Sz1 Nn1]
    show Steps p.tables e below (s₁.setTop (mkF m 2 #[.val (.ref d)] [(.int (0 : Int32))])) _
    refine X0.lookupswitchHit hx (g := (mkF m 2 #[.val (.ref d)] [(.int (0 : Int32))])) rfl rfl (hb hby d9_2) (by decide) (a := 0) (off := 26) (by decide) (by show (0 : Int) ≤ ((2 : Nat) : Int) + 26; decide) _ ?_
    refine XS.iconst X0.here hx rfl (hb hby d9_28) ?_
    refine XS.goto X0.here hx rfl (pc0 := 29) (pc' := 51) rfl (hb hby d9_29) (by decide) (by decide) ?_
    exact kt
  obtain ⟨fs, hr, hrun, hended, hW, hsame⟩ := X0.leave (v := some (.int (0 : Int32))) (fun h => by rw [Bd.returns] at h; cases h)
  refine ⟨_, _, pre0 _ (S2 _ ?_), hrun, hended, _, _, rfl, ?_, ⟨_, rfl⟩, hW, hsame.mono (by decide) (by decide)⟩
  · exact retOut X0 hx Bd.returns rfl (Or.inl ⟨rfl, Or.inl rfl, _, rfl⟩) (hb hby d9_51) hr
  · show Q_rm_slh0 Z d kd h0 n0 _ s₁.heap _
    rw [e0]
    exact ⟨rfl, N0, rfl⟩
theorem d9_32 : decode jdk_43_method_21_code 32 = .ok (.aload_n 0, 1) := by decide +kernel
theorem d9_33 : decode jdk_43_method_21_code 33 = .ok (.iconst 0, 1) := by decide +kernel
theorem d9_34 : decode jdk_43_method_21_code 34 = .ok (.baload, 1) := by decide +kernel
theorem d9_35 : decode jdk_43_method_21_code 35 = .ok (.sipush 255, 3) := by decide +kernel
theorem d9_38 : decode jdk_43_method_21_code 38 = .ok (.iand, 1) := by decide +kernel
theorem d9_39 : decode jdk_43_method_21_code 39 = .ok (.goto 12, 3) := by decide +kernel
theorem ef_rm_slh1 (m : MethodId) (x0 : Addr) : entryFrame m #[(.ref x0)] 1 = mkF m 0 #[.val (.ref x0)] [] := by first | (simp [entryFrame, mkF, argsToLocals, Value.category]; done) | rfl
def Q_rm_slh1 (Z : State) (d : Addr) (kd : ClassId) (c0 : Int32) (h0 : Heap) (n0 : Nat) (v : Option Value) (h : Heap) (L : List Loc) : Prop := ((v = some (.int (own_H [c0]))) ∧ (Fr n0 L) ∧ (h = h0))
set_option maxRecDepth 65536 in
set_option maxHeartbeats 40000000 in
theorem rm_slh1 (l : Launch) (Z : State) (a0 : Array Value) (hw : ∀ d ∈ tables_1, d.before a0 Z = true) (ws : List Jvm.Cond) (d : Addr) (kd : ClassId) (c0 : Int32) (h0 : Heap) (n0 : Nat) (O0 : Old Z n0 h0) (A_d : Arv Z h0 d kd .byte (1 : Int32) [(.int c0.toInt8.toInt32)] (.int (0 : Int32))) :
    MetFree l (⟨"java/lang/StringLatin1", "hashCode", "([B)I"⟩ : MethodName) (head1 (Jvm.Cond.code (⟨"java/lang/StringLatin1", "hashCode", "([B)I"⟩ : MethodName) jdk_43_method_21_code 1 (some .int) :: ws) ({ frames := 0, cells := 0, slots := 0, locals := 0 } : Room)) (fun a U => a = #[(.ref d)] ∧ Z.Warmed39 U.vm ∧ U.heap = h0) (fun _ _ _ _ _ => True) (fun _ U o U' => ∃ v L, o = .returned v ∧ Q_rm_slh1 Z d kd c0 h0 n0 v U'.heap L ∧ FrameEnd U o U' L ({ frames := 0, cells := 0, slots := 0, locals := 0 } : Room).cells ({ frames := 0, cells := 0, slots := 0, locals := 0 } : Room).slots) := by
  refine MetFree.of_bodySF (plainFor_of_name pn_4) hisR ?_
  intro p e s m args below meth c s₁ Bd hml0 hP hK
  obtain ⟨rfl, hZ, hh⟩ := hP
  have hx := Bd.exec
  have hby := Bd.bytes
  have hml : c.maxLocals = 1 := hml0
  have hown : s.vm.findClass "java/lang/StringLatin1" = some m.cls := findClass_of_methodNamed Bd.named
  have hnm := (name_of_methodNamed Bd.named Bd.method).1
  have X0 : Stand p l e ({ frames := 0, cells := 0, slots := 0, locals := 0 } : Room) s m #[(.ref d)] below meth c s₁ [] 0 0 := Stand.of_body Bd
  have e0 : s₁.heap = h0 := by rw [← hh, Bd.state]; rfl
  have N0 := Fr.nil n0
  have hwl : ∀ d ∈ StrChars.Road.wordsLen, d.before a0 Z = true := fun d hd => hw d (own_wordsLen d hd)
  have hwc : ∀ d ∈ StrChars.Road.wordsChN, d.before a0 Z = true := fun d hd => hw d (own_wordsChN d hd)
  have hwq : ∀ d ∈ StrChars.Road.wordsEq, d.before a0 Z = true := fun d hd => hw d (own_wordsEq d hd)
  have pre0 : ∀ t, Steps p.tables e below (s₁.setTop (mkF m 0 #[.val (.ref d)] [])) t → Steps p.tables e below (s₁.setTop (entryFrame m #[(.ref d)] 1)) t := fun t k => castTop (ef_rm_slh1 m d) k
  obtain ⟨cl1, Ar1, -, Sz1, Nn1, -, -⟩ := id A_d
  obtain ⟨cl2, Ar2, q2, Sz2, Nn2, Hh2, Gg2⟩ := id A_d
  have in2 : ¬ ((0 : Int32) < 0 ∨ cl2.slots.size ≤ ((0 : Int32)).toNatClampNeg) := by exact inb_of Sz2 ⟨by decide, by decide⟩
  have at2 : cl2.slots[((0 : Int32)).toNatClampNeg]? = some (.int c0.toInt8.toInt32) := by
    refine Has.at Hh2 in2 ?_
    rfl
  have S3 : ∀ t, Steps p.tables e below (s₁.setTop (mkF m 51 #[.val (.ref d)] [(.int (c0.toInt8.toInt32 &&& (255 : Int32)))])) t → Steps p.tables e below (s₁.setTop (mkF m 0 #[.val (.ref d)] [])) t := by
    intro t kt
    refine XS.aloadN X0.here hx rfl (hb hby d9_0) rfl rfl ?_
    show Steps p.tables e below (s₁.setTop (mkF m 1 #[.val (.ref d)] [(.ref d)])) _
    refine X0.arraylength hx (by rw [e0]; exact Ar1.1) (State.isArrayOf_alike hZ.alike Ar1.2.1) (g := (mkF m 1 #[.val (.ref d)] [(.ref d)])) rfl rfl (hb hby d9_1) _ ?_
    rw [len_of Sz1 Nn1]
    show Steps p.tables e below (s₁.setTop (mkF m 2 #[.val (.ref d)] [(.int (1 : Int32))])) _
    refine X0.lookupswitchHit hx (g := (mkF m 2 #[.val (.ref d)] [(.int (1 : Int32))])) rfl rfl (hb hby d9_2) (by decide) (a := 1) (off := 30) (by decide) (by show (0 : Int) ≤ ((2 : Nat) : Int) + 30; decide) _ ?_
    refine XS.aloadN X0.here hx rfl (hb hby d9_32) rfl rfl ?_
    refine XS.iconst X0.here hx rfl (hb hby d9_33) ?_
    show Steps p.tables e below (s₁.setTop (mkF m 34 #[.val (.ref d)] [(.int (0 : Int32)), (.ref d)])) _
    refine X0.baloadBytes hx (j := (0 : Int32)) (v := (.int c0.toInt8.toInt32)) (by rw [e0]; exact Ar2.1) (State.isArrayOf_alike hZ.alike Ar2.2.1) Ar2.2.2 in2 at2 (g := (mkF m 34 #[.val (.ref d)] [(.int (0 : Int32)), (.ref d)])) rfl rfl (hb hby d9_34) _ ?_
    refine XS.sipush X0.here hx rfl (hb hby d9_35) ?_
    refine XS.iand X0.here hx rfl (hb hby d9_38) rfl ?_
    refine XS.goto X0.here hx rfl (pc0 := 39) (pc' := 51) rfl (hb hby d9_39) (by decide) (by decide) ?_
    exact kt
  obtain ⟨fs, hr, hrun, hended, hW, hsame⟩ := X0.leave (v := some (.int (c0.toInt8.toInt32 &&& (255 : Int32)))) (fun h => by rw [Bd.returns] at h; cases h)
  refine ⟨_, _, pre0 _ (S3 _ ?_), hrun, hended, _, _, rfl, ?_, ⟨_, rfl⟩, hW, hsame.mono (by decide) (by decide)⟩
  · exact retOut X0 hx Bd.returns rfl (Or.inl ⟨rfl, Or.inl rfl, _, rfl⟩) (hb hby d9_51) hr
  · show Q_rm_slh1 Z d kd c0 h0 n0 _ s₁.heap _
    rw [e0]
    exact ⟨rfl, N0, rfl⟩
theorem d9_42 : decode jdk_43_method_21_code 42 = .ok (.aload_n 0, 1) := by decide +kernel
theorem d9_43 : decode jdk_43_method_21_code 43 = .ok (.iconst 0, 1) := by decide +kernel
theorem d9_44 : decode jdk_43_method_21_code 44 = .ok (.aload_n 0, 1) := by decide +kernel
theorem d9_45 : decode jdk_43_method_21_code 45 = .ok (.arraylength, 1) := by decide +kernel
theorem d9_46 : decode jdk_43_method_21_code 46 = .ok (.iconst 0, 1) := by decide +kernel
theorem d9_47 : decode jdk_43_method_21_code 47 = .ok (.iconst 4, 1) := by decide +kernel
theorem d9_48 : decode jdk_43_method_21_code 48 = .ok (.invokestatic 84, 3) := by decide +kernel
theorem pd_6 : parseMethodDescriptor "(Ljava/lang/Object;IIII)I" = some ⟨[(.object "java/lang/Object"), .int, .int, .int, .int], some .int⟩ := by decide +kernel
theorem ef_rm_slh2 (m : MethodId) (x0 : Addr) : entryFrame m #[(.ref x0)] 1 = mkF m 0 #[.val (.ref x0)] [] := by first | (simp [entryFrame, mkF, argsToLocals, Value.category]; done) | rfl
def Q_rm_slh2 (Z : State) (d : Addr) (kd : ClassId) (c0 : Int32) (c1 : Int32) (h0 : Heap) (n0 : Nat) (v : Option Value) (h : Heap) (L : List Loc) : Prop := ((v = some (.int (own_H [c0, c1]))) ∧ (Fr n0 L) ∧ (h = h0))
set_option maxRecDepth 65536 in
set_option maxHeartbeats 40000000 in
theorem rm_slh2 (l : Launch) (Z : State) (a0 : Array Value) (hw : ∀ d ∈ tables_1, d.before a0 Z = true) (ws : List Jvm.Cond) (d : Addr) (kd : ClassId) (c0 : Int32) (c1 : Int32) (h0 : Heap) (n0 : Nat) (O0 : Old Z n0 h0) (E_d : Exa Z h0 d "[B") (A_d : Arv Z h0 d kd .byte (2 : Int32) [(.int c0.toInt8.toInt32), (.int c1.toInt8.toInt32)] (.int (0 : Int32))) :
    MetFree l (⟨"java/lang/StringLatin1", "hashCode", "([B)I"⟩ : MethodName) (head1 (Jvm.Cond.code (⟨"java/lang/StringLatin1", "hashCode", "([B)I"⟩ : MethodName) jdk_43_method_21_code 1 (some .int) :: ws) ({ frames := 2, cells := 0, slots := 0, locals := 33 } : Room)) (fun a U => a = #[(.ref d)] ∧ Z.Warmed39 U.vm ∧ U.heap = h0) (fun _ _ _ _ _ => True) (fun _ U o U' => ∃ v L, o = .returned v ∧ Q_rm_slh2 Z d kd c0 c1 h0 n0 v U'.heap L ∧ FrameEnd U o U' L ({ frames := 2, cells := 0, slots := 0, locals := 33 } : Room).cells ({ frames := 2, cells := 0, slots := 0, locals := 33 } : Room).slots) := by
  refine MetFree.of_bodySF (plainFor_of_name pn_4) hisR ?_
  intro p e s m args below meth c s₁ Bd hml0 hP hK
  obtain ⟨rfl, hZ, hh⟩ := hP
  have hx := Bd.exec
  have hby := Bd.bytes
  have hml : c.maxLocals = 1 := hml0
  have hown : s.vm.findClass "java/lang/StringLatin1" = some m.cls := findClass_of_methodNamed Bd.named
  have hnm := (name_of_methodNamed Bd.named Bd.method).1
  have X0 : Stand p l e ({ frames := 2, cells := 0, slots := 0, locals := 33 } : Room) s m #[(.ref d)] below meth c s₁ [] 0 0 := Stand.of_body Bd
  have e0 : s₁.heap = h0 := by rw [← hh, Bd.state]; rfl
  have N0 := Fr.nil n0
  have hwl : ∀ d ∈ StrChars.Road.wordsLen, d.before a0 Z = true := fun d hd => hw d (own_wordsLen d hd)
  have hwc : ∀ d ∈ StrChars.Road.wordsChN, d.before a0 Z = true := fun d hd => hw d (own_wordsChN d hd)
  have hwq : ∀ d ∈ StrChars.Road.wordsEq, d.before a0 Z = true := fun d hd => hw d (own_wordsEq d hd)
  have pre0 : ∀ t, Steps p.tables e below (s₁.setTop (mkF m 0 #[.val (.ref d)] [])) t → Steps p.tables e below (s₁.setTop (entryFrame m #[(.ref d)] 1)) t := fun t k => castTop (ef_rm_slh2 m d) k
  obtain ⟨cl1, Ar1, -, Sz1, Nn1, -, -⟩ := id A_d
  obtain ⟨cl2, Ar2, -, Sz2, Nn2, -, -⟩ := id A_d
  obtain ⟨_, _, ⟨T3, L3, k3, n3⟩, -, X3, ⟨Lc3, hQ3, l3, y3, z3⟩, st3⟩ := Jvm.LawKit.callS X0 hx (y := (⟨"jdk/internal/util/ArraysSupport", "vectorizedHashCode", "(Ljava/lang/Object;IIII)I"⟩ : MethodName)) hown (mvT hZ (own_w hw 99 rfl)) (mvT hZ (own_w hw 100 rfl)) (mvT hZ (own_w hw 101 rfl)) (mvT hZ (own_w hw 102 rfl)) (by decide) (backOf (W := 0) (rm_vhc l Z a0 hw [] d kd c0 c1 h0 n0 O0 E_d A_d) hZ (own_w hw 102 rfl) (own_w hw 101 rfl) (by decide) (by decide)) (g := (mkF m 48 #[.val (.ref d)] [(.int (4 : Int32)), (.int (0 : Int32)), (.int (2 : Int32)), (.int (0 : Int32)), (.ref d)])) rfl (by rw [hml]; rfl) (argsL := [(.ref d), (.int (0 : Int32)), (.int (2 : Int32)), (.int (0 : Int32)), (.int (4 : Int32))]) (rest := []) (lenOf pd_6 rfl) rfl (by show 2 * 0 + _ ≤ _; exact Nat.le_of_eq rfl) (hb hby d9_48) (fun _ _ => ⟨rfl, e0, (by decide : 0 + 0 ≤ _), (by decide : 0 + 0 ≤ _)⟩)
  dsimp only [Pt.U, Pt.locs, Pt.cells, Pt.slots] at X3 l3 y3 z3 st3 hQ3
  subst l3 y3 z3
  obtain ⟨rfl, N4, k5⟩ := hQ3
  have N6 := Fr.app N0 N4
  have S7 : ∀ t, Steps p.tables e below (T3.setTop (mkF m 51 #[.val (.ref d)] [(.int (own_H [c0, c1]))])) t → Steps p.tables e below (s₁.setTop (mkF m 0 #[.val (.ref d)] [])) t := by
    intro t kt
    refine XS.aloadN X0.here hx rfl (hb hby d9_0) rfl rfl ?_
    show Steps p.tables e below (s₁.setTop (mkF m 1 #[.val (.ref d)] [(.ref d)])) _
    refine X0.arraylength hx (by rw [e0]; exact Ar1.1) (State.isArrayOf_alike hZ.alike Ar1.2.1) (g := (mkF m 1 #[.val (.ref d)] [(.ref d)])) rfl rfl (hb hby d9_1) _ ?_
    rw [len_of Sz1 Nn1]
    show Steps p.tables e below (s₁.setTop (mkF m 2 #[.val (.ref d)] [(.int (2 : Int32))])) _
    refine X0.lookupswitchMiss hx (g := (mkF m 2 #[.val (.ref d)] [(.int (2 : Int32))])) rfl rfl (hb hby d9_2) (by decide) (by decide) (by show (0 : Int) ≤ ((2 : Nat) : Int) + 40; decide) _ ?_
    refine XS.aloadN X0.here hx rfl (hb hby d9_42) rfl rfl ?_
    refine XS.iconst X0.here hx rfl (hb hby d9_43) ?_
    refine XS.aloadN X0.here hx rfl (hb hby d9_44) rfl rfl ?_
    show Steps p.tables e below (s₁.setTop (mkF m 45 #[.val (.ref d)] [(.ref d), (.int (0 : Int32)), (.ref d)])) _
    refine X0.arraylength hx (by rw [e0]; exact Ar2.1) (State.isArrayOf_alike hZ.alike Ar2.2.1) (g := (mkF m 45 #[.val (.ref d)] [(.ref d), (.int (0 : Int32)), (.ref d)])) rfl rfl (hb hby d9_45) _ ?_
    rw [len_of Sz2 Nn2]
    refine XS.iconst X0.here hx rfl (hb hby d9_46) ?_
    refine XS.iconst X0.here hx rfl (hb hby d9_47) ?_
    show Steps p.tables e below (s₁.setTop (mkF m 48 #[.val (.ref d)] [(.int (4 : Int32)), (.int (0 : Int32)), (.int (2 : Int32)), (.int (0 : Int32)), (.ref d)])) _
    refine st3 _ ?_
    exact kt
  obtain ⟨fs, hr, hrun, hended, hW, hsame⟩ := X3.leave (v := some (.int (own_H [c0, c1]))) (fun h => by rw [Bd.returns] at h; cases h)
  refine ⟨_, _, pre0 _ (S7 _ ?_), hrun, hended, _, _, rfl, ?_, ⟨_, rfl⟩, hW, hsame.mono (by decide) (by decide)⟩
  · exact retOut X3 hx Bd.returns rfl (Or.inl ⟨rfl, Or.inl rfl, _, rfl⟩) (hb hby d9_51) hr
  · show Q_rm_slh2 Z d kd c0 c1 h0 n0 _ T3.heap _
    rw [k5]
    exact ⟨rfl, N6, rfl⟩
theorem d10_0 : decode jdk_42_method_78_code 0 = .ok (.aload_n 0, 1) := by decide +kernel
theorem d10_1 : decode jdk_42_method_78_code 1 = .ok (.getfield 19, 3) := by decide +kernel
theorem d10_4 : decode jdk_42_method_78_code 4 = .ok (.istore_n 1, 1) := by decide +kernel
theorem d10_5 : decode jdk_42_method_78_code 5 = .ok (.iload_n 1, 1) := by decide +kernel
theorem d10_6 : decode jdk_42_method_78_code 6 = .ok (.ifCond .ne 52, 3) := by decide +kernel
theorem d10_9 : decode jdk_42_method_78_code 9 = .ok (.aload_n 0, 1) := by decide +kernel
theorem d10_10 : decode jdk_42_method_78_code 10 = .ok (.getfield 23, 3) := by decide +kernel
theorem d10_13 : decode jdk_42_method_78_code 13 = .ok (.ifCond .ne 45, 3) := by decide +kernel
theorem d10_16 : decode jdk_42_method_78_code 16 = .ok (.aload_n 0, 1) := by decide +kernel
theorem d10_17 : decode jdk_42_method_78_code 17 = .ok (.invokevirtual 492, 3) := by decide +kernel
theorem pd_7 : parseMethodDescriptor "()Z" = some ⟨[], some .boolean⟩ := by decide +kernel
theorem d10_20 : decode jdk_42_method_78_code 20 = .ok (.ifCond .eq 13, 3) := by decide +kernel
theorem d10_23 : decode jdk_42_method_78_code 23 = .ok (.aload_n 0, 1) := by decide +kernel
theorem d10_24 : decode jdk_42_method_78_code 24 = .ok (.getfield 9, 3) := by decide +kernel
theorem d10_27 : decode jdk_42_method_78_code 27 = .ok (.invokestatic 628, 3) := by decide +kernel
theorem pd_8 : parseMethodDescriptor "([B)I" = some ⟨[(.array .byte)], some .int⟩ := by decide +kernel
theorem d10_30 : decode jdk_42_method_78_code 30 = .ok (.goto 10, 3) := by decide +kernel
theorem d10_40 : decode jdk_42_method_78_code 40 = .ok (.istore_n 1, 1) := by decide +kernel
theorem d10_41 : decode jdk_42_method_78_code 41 = .ok (.iload_n 1, 1) := by decide +kernel
theorem d10_42 : decode jdk_42_method_78_code 42 = .ok (.ifCond .ne 11, 3) := by decide +kernel
theorem d10_45 : decode jdk_42_method_78_code 45 = .ok (.aload_n 0, 1) := by decide +kernel
theorem d10_46 : decode jdk_42_method_78_code 46 = .ok (.iconst 1, 1) := by decide +kernel
theorem d10_47 : decode jdk_42_method_78_code 47 = .ok (.putfield 23, 3) := by decide +kernel
theorem d10_50 : decode jdk_42_method_78_code 50 = .ok (.goto 8, 3) := by decide +kernel
theorem d10_58 : decode jdk_42_method_78_code 58 = .ok (.iload_n 1, 1) := by decide +kernel
theorem d10_59 : decode jdk_42_method_78_code 59 = .ok (.ireturn, 1) := by decide +kernel
theorem ef_rm_hash0 (m : MethodId) (x0 : Addr) : entryFrame m #[(.ref x0)] 2 = mkF m 0 #[.val (.ref x0), .unset] [] := by first | (simp [entryFrame, mkF, argsToLocals, Value.category]; done) | rfl
def Q_rm_hash0 (Z : State) (x : Addr) (tx : Addr) (kx : ClassId) (zc : Int32) (h0 : Heap) (n0 : Nat) (v : Option Value) (h : Heap) (L : List Loc) : Prop := ((v = some (.int (own_H ([] : List Int32)))) ∧ (Fr n0 L) ∧ (Keep h0 h [x]) ∧ (Exa Z h x "java/lang/String") ∧ (Fld Z h x "java/lang/String" "value" "[B" (.ref tx)) ∧ (Fld Z h x "java/lang/String" "coder" "B" (.int (0 : Int32))))
set_option maxRecDepth 65536 in
set_option maxHeartbeats 40000000 in
theorem rm_hash0 (l : Launch) (Z : State) (a0 : Array Value) (hw : ∀ d ∈ tables_1, d.before a0 Z = true) (ws : List Jvm.Cond) (x : Addr) (tx : Addr) (kx : ClassId) (zc : Int32) (h0 : Heap) (n0 : Nat) (O0 : Old Z n0 h0) (E_x : Exa Z h0 x "java/lang/String") (V_x : Fld Z h0 x "java/lang/String" "value" "[B" (.ref tx)) (C_x : Fld Z h0 x "java/lang/String" "coder" "B" (.int (0 : Int32))) (K_x : Arv Z h0 tx kx .byte (0 : Int32) [] (.int (0 : Int32))) (H_x : Fld Z h0 x "java/lang/String" "hash" "I" (.int (0 : Int32))) (Z_x : Fld Z h0 x "java/lang/String" "hashIsZero" "Z" (.int (0 : Int32))) (g_x : n0 ≤ x) (S_C : Sta Z Z.heap "java/lang/String" "COMPACT_STRINGS" "Z" (.int zc)) (hzc : ¬ (zc = (0 : Int32))) :
    MetFree l (⟨"java/lang/String", "hashCode", "()I"⟩ : MethodName) (head1 (Jvm.Cond.code (⟨"java/lang/String", "hashCode", "()I"⟩ : MethodName) jdk_42_method_78_code 2 (some .int) :: ws) ({ frames := 3, cells := 0, slots := 0, locals := 45 } : Room)) (fun a U => a = #[(.ref x)] ∧ Z.Warmed39 U.vm ∧ U.heap = h0) (fun _ _ _ _ _ => True) (fun _ U o U' => ∃ v L, o = .returned v ∧ Q_rm_hash0 Z x tx kx zc h0 n0 v U'.heap L ∧ FrameEnd U o U' L ({ frames := 3, cells := 0, slots := 0, locals := 45 } : Room).cells ({ frames := 3, cells := 0, slots := 0, locals := 45 } : Room).slots) := by
  refine MetFree.of_bodySF (plainFor_of_name pn_1) hisR ?_
  intro p e s m args below meth c s₁ Bd hml0 hP hK
  obtain ⟨rfl, hZ, hh⟩ := hP
  have hx := Bd.exec
  have hby := Bd.bytes
  have hml : c.maxLocals = 2 := hml0
  have hown : s.vm.findClass "java/lang/String" = some m.cls := findClass_of_methodNamed Bd.named
  have hnm := (name_of_methodNamed Bd.named Bd.method).1
  have X0 : Stand p l e ({ frames := 3, cells := 0, slots := 0, locals := 45 } : Room) s m #[(.ref x)] below meth c s₁ [] 0 0 := Stand.of_body Bd
  have e0 : s₁.heap = h0 := by rw [← hh, Bd.state]; rfl
  have N0 := Fr.nil n0
  have hwl : ∀ d ∈ StrChars.Road.wordsLen, d.before a0 Z = true := fun d hd => hw d (own_wordsLen d hd)
  have hwc : ∀ d ∈ StrChars.Road.wordsChN, d.before a0 Z = true := fun d hd => hw d (own_wordsChN d hd)
  have hwq : ∀ d ∈ StrChars.Road.wordsEq, d.before a0 Z = true := fun d hd => hw d (own_wordsEq d hd)
  have K0 : Keep h0 h0 [x] := Keep.refl _ _
  have pre0 : ∀ t, Steps p.tables e below (s₁.setTop (mkF m 0 #[.val (.ref x), .unset] [])) t → Steps p.tables e below (s₁.setTop (entryFrame m #[(.ref x)] 2)) t := fun t k => castTop (ef_rm_hash0 m x) k
  have ne1 : x ≠ tx := own_arvne (own_w hw 6 rfl) E_x K_x
  obtain ⟨T2, X2, e2, st2⟩ := getF X0 hx hZ hown (host := "") (Or.inl (own_w hw 44 rfl)) Via.refl e0 H_x (g := (mkF m 1 #[.val (.ref x), .unset] [(.ref x)])) rfl rfl (hb hby d10_1)
  obtain ⟨T3, X3, e3, st3⟩ := getF X2 hx hZ hown (host := "") (Or.inl (own_w hw 46 rfl)) Via.refl e2 Z_x (g := (mkF m 10 #[.val (.ref x), .val (.int (0 : Int32))] [(.ref x)])) rfl rfl (hb hby d10_10)
  obtain ⟨cq4, kq4, q4a, q4b, q4c⟩ := isOf hZ e3 E_x
  obtain ⟨_, _, ⟨T4, L4, k4, n4⟩, -, X4, ⟨Lc4, hQ4, l4, y4, z4⟩, st4⟩ := X3.virtualBack hx (y := (⟨"java/lang/String", "isLatin1", "()Z"⟩ : MethodName)) (z := (⟨"java/lang/String", "isLatin1", "()Z"⟩ : MethodName)) hown (mvT hZ (own_w hw 48 rfl)) (mvT hZ (own_w hw 49 rfl)) (notFace_of_selects (args := #[]) (mvT hZ (own_w hw 51 rfl))) (mvT hZ (own_w hw 51 rfl)) (mvT hZ (own_w hw 50 rfl)) (by decide) (backOf (W := 0) (rm_isl l Z a0 hw [] x zc h0 n0 O0 C_x S_C hzc) hZ (own_w hw 52 rfl) (own_w hw 7 rfl) (by decide) (by decide)) q4a q4c (g := (mkF m 17 #[.val (.ref x), .val (.int (0 : Int32))] [(.ref x)])) rfl (by rw [hml]; rfl) (Steps.refl _) (argsL := []) (rest := []) (lenOf pd_7 rfl) rfl (by show 2 * 0 + _ ≤ _; exact Nat.le_of_eq rfl) (hb hby d10_17) (fun _ _ => ⟨rfl, e3, (by decide : 0 + 0 ≤ _), (by decide : 0 + 0 ≤ _)⟩)
  dsimp only [Pt.U, Pt.locs, Pt.cells, Pt.slots] at X4 l4 y4 z4 st4 hQ4
  subst l4 y4 z4
  obtain ⟨rfl, N5, k6⟩ := hQ4
  have N7 := Fr.app N0 N5
  obtain ⟨T8, X8, e8, st8⟩ := getF X4 hx hZ hown (host := "") (Or.inl (own_w hw 24 rfl)) Via.refl k6 V_x (g := (mkF m 24 #[.val (.ref x), .val (.int (0 : Int32))] [(.ref x)])) rfl rfl (hb hby d10_24)
  obtain ⟨_, _, ⟨T9, L9, k9, n9⟩, -, X9, ⟨Lc9, hQ9, l9, y9, z9⟩, st9⟩ := Jvm.LawKit.callS X8 hx (y := (⟨"java/lang/StringLatin1", "hashCode", "([B)I"⟩ : MethodName)) hown (mvT hZ (own_w hw 54 rfl)) (mvT hZ (own_w hw 55 rfl)) (mvT hZ (own_w hw 56 rfl)) (mvT hZ (own_w hw 57 rfl)) (by decide) (backOf (W := 0) (rm_slh0 l Z a0 hw [] tx kx h0 n0 O0 K_x) hZ (own_w hw 57 rfl) (own_w hw 56 rfl) (by decide) (by decide)) (g := (mkF m 27 #[.val (.ref x), .val (.int (0 : Int32))] [(.ref tx)])) rfl (by rw [hml]; rfl) (argsL := [(.ref tx)]) (rest := []) (lenOf pd_8 rfl) rfl (by show 2 * 0 + _ ≤ _; exact Nat.le_of_eq rfl) (hb hby d10_27) (fun _ _ => ⟨rfl, e8, (by decide : 0 + 0 ≤ _), (by decide : 0 + 0 ≤ _)⟩)
  dsimp only [Pt.U, Pt.locs, Pt.cells, Pt.slots] at X9 l9 y9 z9 st9 hQ9
  subst l9 y9 z9
  obtain ⟨rfl, N10, k11⟩ := hQ9
  have N12 := Fr.app N7 N10
  obtain ⟨T13, h13, X13, e13, W13, st13⟩ := putFN X9 hx hZ hown (own_w hw 46 rfl) Via.refl k11 Z_x E_x (Or.inl (own_w hw 47 rfl)) (own_w hw 6 rfl) (ty := .boolean) (v' := (.int (1 : Int32))) (by decide) rfl rfl (g := (mkF m 47 #[.val (.ref x), .val (.int (0 : Int32))] [(.int (1 : Int32)), (.ref x)])) rfl rfl (hb hby d10_47)
  have O14 := O0.wr W13 g_x
  have K15 : Keep h0 h13 [x] := K0.wr W13 (Or.inl (List.mem_of_getElem? (i := 0) rfl))
  have N16 := Fr.snoc X13 N12 g_x
  have F13 : Fld Z h13 x "java/lang/String" "hashIsZero" "Z" (.int (1 : Int32)) := Fld.same W13 Z_x
  have S17 : ∀ t, Steps p.tables e below (T13.setTop (mkF m 59 #[.val (.ref x), .val (.int (0 : Int32))] [(.int (0 : Int32))])) t → Steps p.tables e below (s₁.setTop (mkF m 0 #[.val (.ref x), .unset] [])) t := by
    intro t kt
    refine XS.aloadN X0.here hx rfl (hb hby d10_0) rfl rfl ?_
    show Steps p.tables e below (s₁.setTop (mkF m 1 #[.val (.ref x), .unset] [(.ref x)])) _
    refine st2 _ ?_
    refine XS.istoreN X2.here hx rfl (hb hby d10_4) rfl (l' := #[.val (.ref x), .val (.int (0 : Int32))]) rfl ?_
    refine XS.iloadN X2.here hx rfl (hb hby d10_5) rfl ?_
    refine XS.ifNo X2.here hx rfl (hb hby d10_6) rfl ((if0 _ _).trans (teq ((by decide) : (0 : Int32) = (0 : Int32))).2) ?_
    refine XS.aloadN X2.here hx rfl (hb hby d10_9) rfl rfl ?_
    show Steps p.tables e below (T2.setTop (mkF m 10 #[.val (.ref x), .val (.int (0 : Int32))] [(.ref x)])) _
    refine st3 _ ?_
    refine XS.ifNo X3.here hx rfl (hb hby d10_13) rfl ((if0 _ _).trans (teq ((by decide) : (0 : Int32) = (0 : Int32))).2) ?_
    refine XS.aloadN X3.here hx rfl (hb hby d10_16) rfl rfl ?_
    show Steps p.tables e below (T3.setTop (mkF m 17 #[.val (.ref x), .val (.int (0 : Int32))] [(.ref x)])) _
    refine st4.trans ?_
    refine XS.ifNo X4.here hx rfl (hb hby d10_20) rfl ((if0 _ _).trans (feq ((by decide) : ¬ ((1 : Int32) = (0 : Int32)))).1) ?_
    refine XS.aloadN X4.here hx rfl (hb hby d10_23) rfl rfl ?_
    show Steps p.tables e below (T4.setTop (mkF m 24 #[.val (.ref x), .val (.int (0 : Int32))] [(.ref x)])) _
    refine st8 _ ?_
    show Steps p.tables e below (T8.setTop (mkF m 27 #[.val (.ref x), .val (.int (0 : Int32))] [(.ref tx)])) _
    refine st9 _ ?_
    refine XS.goto X9.here hx rfl (pc0 := 30) (pc' := 40) rfl (hb hby d10_30) (by decide) (by decide) ?_
    refine XS.istoreN X9.here hx rfl (hb hby d10_40) rfl (l' := #[.val (.ref x), .val (.int (0 : Int32))]) rfl ?_
    refine XS.iloadN X9.here hx rfl (hb hby d10_41) rfl ?_
    refine XS.ifNo X9.here hx rfl (hb hby d10_42) rfl ((if0 _ _).trans (teq ((by decide) : (0 : Int32) = (0 : Int32))).2) ?_
    refine XS.aloadN X9.here hx rfl (hb hby d10_45) rfl rfl ?_
    refine XS.iconst X9.here hx rfl (hb hby d10_46) ?_
    show Steps p.tables e below (T9.setTop (mkF m 47 #[.val (.ref x), .val (.int (0 : Int32))] [(.int (1 : Int32)), (.ref x)])) _
    refine st13 _ ?_
    refine XS.goto X13.here hx rfl (pc0 := 50) (pc' := 58) rfl (hb hby d10_50) (by decide) (by decide) ?_
    refine XS.iloadN X13.here hx rfl (hb hby d10_58) rfl ?_
    exact kt
  obtain ⟨fs, hr, hrun, hended, hW, hsame⟩ := X13.leave (v := some (.int (0 : Int32))) (fun h => by rw [Bd.returns] at h; cases h)
  have f18 := (Exa.wr W13 E_x)
  have f19 := (Fld.other W13 V_x (Or.inr (slot_ne (Or.inr (own_w hw 20 rfl)) (Or.inl (own_w hw 47 rfl)) (by decide) (t := (.array .byte)) (t' := .boolean) (by decide) (by decide))))
  have f20 := (Fld.other W13 C_x (Or.inr (slot_ne (Or.inr (own_w hw 21 rfl)) (Or.inl (own_w hw 47 rfl)) (by decide) (t := .byte) (t' := .boolean) (by decide) (by decide))))
  refine ⟨_, _, pre0 _ (S17 _ ?_), hrun, hended, _, _, rfl, ?_, ⟨_, rfl⟩, hW, hsame.mono (by decide) (by decide)⟩
  · exact retOut X13 hx Bd.returns rfl (Or.inl ⟨rfl, Or.inl rfl, _, rfl⟩) (hb hby d10_59) hr
  · show Q_rm_hash0 Z x tx kx zc h0 n0 _ T13.heap _
    rw [e13]
    exact ⟨rfl, N16, K15, f18, f19, f20⟩
theorem d10_53 : decode jdk_42_method_78_code 53 = .ok (.aload_n 0, 1) := by decide +kernel
theorem d10_54 : decode jdk_42_method_78_code 54 = .ok (.iload_n 1, 1) := by decide +kernel
theorem d10_55 : decode jdk_42_method_78_code 55 = .ok (.putfield 19, 3) := by decide +kernel
theorem ef_rm_hash1 (m : MethodId) (x0 : Addr) : entryFrame m #[(.ref x0)] 2 = mkF m 0 #[.val (.ref x0), .unset] [] := by first | (simp [entryFrame, mkF, argsToLocals, Value.category]; done) | rfl
def Q_rm_hash1 (Z : State) (x : Addr) (tx : Addr) (kx : ClassId) (c0 : Int32) (zc : Int32) (h0 : Heap) (n0 : Nat) (v : Option Value) (h : Heap) (L : List Loc) : Prop := ((v = some (.int (own_H ([c0] : List Int32)))) ∧ (Fr n0 L) ∧ (Keep h0 h [x]) ∧ (Exa Z h x "java/lang/String") ∧ (Fld Z h x "java/lang/String" "value" "[B" (.ref tx)) ∧ (Fld Z h x "java/lang/String" "coder" "B" (.int (0 : Int32))))
set_option maxRecDepth 65536 in
set_option maxHeartbeats 40000000 in
theorem rm_hash1 (l : Launch) (Z : State) (a0 : Array Value) (hw : ∀ d ∈ tables_1, d.before a0 Z = true) (ws : List Jvm.Cond) (x : Addr) (tx : Addr) (kx : ClassId) (c0 : Int32) (zc : Int32) (h0 : Heap) (n0 : Nat) (O0 : Old Z n0 h0) (E_x : Exa Z h0 x "java/lang/String") (V_x : Fld Z h0 x "java/lang/String" "value" "[B" (.ref tx)) (C_x : Fld Z h0 x "java/lang/String" "coder" "B" (.int (0 : Int32))) (K_x : Arv Z h0 tx kx .byte (1 : Int32) [(.int c0.toInt8.toInt32)] (.int (0 : Int32))) (H_x : Fld Z h0 x "java/lang/String" "hash" "I" (.int (0 : Int32))) (Z_x : Fld Z h0 x "java/lang/String" "hashIsZero" "Z" (.int (0 : Int32))) (g_x : n0 ≤ x) (S_C : Sta Z Z.heap "java/lang/String" "COMPACT_STRINGS" "Z" (.int zc)) (hzc : ¬ (zc = (0 : Int32))) :
    MetFree l (⟨"java/lang/String", "hashCode", "()I"⟩ : MethodName) (head1 (Jvm.Cond.code (⟨"java/lang/String", "hashCode", "()I"⟩ : MethodName) jdk_42_method_78_code 2 (some .int) :: ws) ({ frames := 3, cells := 0, slots := 0, locals := 45 } : Room)) (fun a U => a = #[(.ref x)] ∧ Z.Warmed39 U.vm ∧ U.heap = h0) (fun _ _ _ _ _ => True) (fun _ U o U' => ∃ v L, o = .returned v ∧ Q_rm_hash1 Z x tx kx c0 zc h0 n0 v U'.heap L ∧ FrameEnd U o U' L ({ frames := 3, cells := 0, slots := 0, locals := 45 } : Room).cells ({ frames := 3, cells := 0, slots := 0, locals := 45 } : Room).slots) := by
  refine MetFree.of_bodySF (plainFor_of_name pn_1) hisR ?_
  intro p e s m args below meth c s₁ Bd hml0 hP hK
  obtain ⟨rfl, hZ, hh⟩ := hP
  have hx := Bd.exec
  have hby := Bd.bytes
  have hml : c.maxLocals = 2 := hml0
  have hown : s.vm.findClass "java/lang/String" = some m.cls := findClass_of_methodNamed Bd.named
  have hnm := (name_of_methodNamed Bd.named Bd.method).1
  have X0 : Stand p l e ({ frames := 3, cells := 0, slots := 0, locals := 45 } : Room) s m #[(.ref x)] below meth c s₁ [] 0 0 := Stand.of_body Bd
  have e0 : s₁.heap = h0 := by rw [← hh, Bd.state]; rfl
  have N0 := Fr.nil n0
  have hwl : ∀ d ∈ StrChars.Road.wordsLen, d.before a0 Z = true := fun d hd => hw d (own_wordsLen d hd)
  have hwc : ∀ d ∈ StrChars.Road.wordsChN, d.before a0 Z = true := fun d hd => hw d (own_wordsChN d hd)
  have hwq : ∀ d ∈ StrChars.Road.wordsEq, d.before a0 Z = true := fun d hd => hw d (own_wordsEq d hd)
  have K0 : Keep h0 h0 [x] := Keep.refl _ _
  have pre0 : ∀ t, Steps p.tables e below (s₁.setTop (mkF m 0 #[.val (.ref x), .unset] [])) t → Steps p.tables e below (s₁.setTop (entryFrame m #[(.ref x)] 2)) t := fun t k => castTop (ef_rm_hash1 m x) k
  have ne1 : x ≠ tx := own_arvne (own_w hw 6 rfl) E_x K_x
  obtain ⟨T2, X2, e2, st2⟩ := getF X0 hx hZ hown (host := "") (Or.inl (own_w hw 44 rfl)) Via.refl e0 H_x (g := (mkF m 1 #[.val (.ref x), .unset] [(.ref x)])) rfl rfl (hb hby d10_1)
  obtain ⟨T3, X3, e3, st3⟩ := getF X2 hx hZ hown (host := "") (Or.inl (own_w hw 46 rfl)) Via.refl e2 Z_x (g := (mkF m 10 #[.val (.ref x), .val (.int (0 : Int32))] [(.ref x)])) rfl rfl (hb hby d10_10)
  obtain ⟨cq4, kq4, q4a, q4b, q4c⟩ := isOf hZ e3 E_x
  obtain ⟨_, _, ⟨T4, L4, k4, n4⟩, -, X4, ⟨Lc4, hQ4, l4, y4, z4⟩, st4⟩ := X3.virtualBack hx (y := (⟨"java/lang/String", "isLatin1", "()Z"⟩ : MethodName)) (z := (⟨"java/lang/String", "isLatin1", "()Z"⟩ : MethodName)) hown (mvT hZ (own_w hw 48 rfl)) (mvT hZ (own_w hw 49 rfl)) (notFace_of_selects (args := #[]) (mvT hZ (own_w hw 51 rfl))) (mvT hZ (own_w hw 51 rfl)) (mvT hZ (own_w hw 50 rfl)) (by decide) (backOf (W := 0) (rm_isl l Z a0 hw [] x zc h0 n0 O0 C_x S_C hzc) hZ (own_w hw 52 rfl) (own_w hw 7 rfl) (by decide) (by decide)) q4a q4c (g := (mkF m 17 #[.val (.ref x), .val (.int (0 : Int32))] [(.ref x)])) rfl (by rw [hml]; rfl) (Steps.refl _) (argsL := []) (rest := []) (lenOf pd_7 rfl) rfl (by show 2 * 0 + _ ≤ _; exact Nat.le_of_eq rfl) (hb hby d10_17) (fun _ _ => ⟨rfl, e3, (by decide : 0 + 0 ≤ _), (by decide : 0 + 0 ≤ _)⟩)
  dsimp only [Pt.U, Pt.locs, Pt.cells, Pt.slots] at X4 l4 y4 z4 st4 hQ4
  subst l4 y4 z4
  obtain ⟨rfl, N5, k6⟩ := hQ4
  have N7 := Fr.app N0 N5
  obtain ⟨T8, X8, e8, st8⟩ := getF X4 hx hZ hown (host := "") (Or.inl (own_w hw 24 rfl)) Via.refl k6 V_x (g := (mkF m 24 #[.val (.ref x), .val (.int (0 : Int32))] [(.ref x)])) rfl rfl (hb hby d10_24)
  obtain ⟨_, _, ⟨T9, L9, k9, n9⟩, -, X9, ⟨Lc9, hQ9, l9, y9, z9⟩, st9⟩ := Jvm.LawKit.callS X8 hx (y := (⟨"java/lang/StringLatin1", "hashCode", "([B)I"⟩ : MethodName)) hown (mvT hZ (own_w hw 54 rfl)) (mvT hZ (own_w hw 55 rfl)) (mvT hZ (own_w hw 56 rfl)) (mvT hZ (own_w hw 57 rfl)) (by decide) (backOf (W := 0) (rm_slh1 l Z a0 hw [] tx kx c0 h0 n0 O0 K_x) hZ (own_w hw 57 rfl) (own_w hw 56 rfl) (by decide) (by decide)) (g := (mkF m 27 #[.val (.ref x), .val (.int (0 : Int32))] [(.ref tx)])) rfl (by rw [hml]; rfl) (argsL := [(.ref tx)]) (rest := []) (lenOf pd_8 rfl) rfl (by show 2 * 0 + _ ≤ _; exact Nat.le_of_eq rfl) (hb hby d10_27) (fun _ _ => ⟨rfl, e8, (by decide : 0 + 0 ≤ _), (by decide : 0 + 0 ≤ _)⟩)
  dsimp only [Pt.U, Pt.locs, Pt.cells, Pt.slots] at X9 l9 y9 z9 st9 hQ9
  subst l9 y9 z9
  obtain ⟨rfl, N10, k11⟩ := hQ9
  have N12 := Fr.app N7 N10
  have S13 : ∀ t, Steps p.tables e below (T9.setTop (mkF m 42 #[.val (.ref x), .val (.int (own_H [c0]))] [(.int (own_H [c0]))])) t → Steps p.tables e below (s₁.setTop (mkF m 0 #[.val (.ref x), .unset] [])) t := by
    intro t kt
    refine XS.aloadN X0.here hx rfl (hb hby d10_0) rfl rfl ?_
    show Steps p.tables e below (s₁.setTop (mkF m 1 #[.val (.ref x), .unset] [(.ref x)])) _
    refine st2 _ ?_
    refine XS.istoreN X2.here hx rfl (hb hby d10_4) rfl (l' := #[.val (.ref x), .val (.int (0 : Int32))]) rfl ?_
    refine XS.iloadN X2.here hx rfl (hb hby d10_5) rfl ?_
    refine XS.ifNo X2.here hx rfl (hb hby d10_6) rfl ((if0 _ _).trans (teq ((by decide) : (0 : Int32) = (0 : Int32))).2) ?_
    refine XS.aloadN X2.here hx rfl (hb hby d10_9) rfl rfl ?_
    show Steps p.tables e below (T2.setTop (mkF m 10 #[.val (.ref x), .val (.int (0 : Int32))] [(.ref x)])) _
    refine st3 _ ?_
    refine XS.ifNo X3.here hx rfl (hb hby d10_13) rfl ((if0 _ _).trans (teq ((by decide) : (0 : Int32) = (0 : Int32))).2) ?_
    refine XS.aloadN X3.here hx rfl (hb hby d10_16) rfl rfl ?_
    show Steps p.tables e below (T3.setTop (mkF m 17 #[.val (.ref x), .val (.int (0 : Int32))] [(.ref x)])) _
    refine st4.trans ?_
    refine XS.ifNo X4.here hx rfl (hb hby d10_20) rfl ((if0 _ _).trans (feq ((by decide) : ¬ ((1 : Int32) = (0 : Int32)))).1) ?_
    refine XS.aloadN X4.here hx rfl (hb hby d10_23) rfl rfl ?_
    show Steps p.tables e below (T4.setTop (mkF m 24 #[.val (.ref x), .val (.int (0 : Int32))] [(.ref x)])) _
    refine st8 _ ?_
    show Steps p.tables e below (T8.setTop (mkF m 27 #[.val (.ref x), .val (.int (0 : Int32))] [(.ref tx)])) _
    refine st9 _ ?_
    refine XS.goto X9.here hx rfl (pc0 := 30) (pc' := 40) rfl (hb hby d10_30) (by decide) (by decide) ?_
    refine XS.istoreN X9.here hx rfl (hb hby d10_40) rfl (l' := #[.val (.ref x), .val (.int (own_H [c0]))]) rfl ?_
    refine XS.iloadN X9.here hx rfl (hb hby d10_41) rfl ?_
    exact kt
  rcases Decidable.em ((own_H [c0]) = (0 : Int32)) with c14 | c14
  · obtain ⟨T15, h15, X15, e15, W15, st15⟩ := putFN X9 hx hZ hown (own_w hw 46 rfl) Via.refl k11 Z_x E_x (Or.inl (own_w hw 47 rfl)) (own_w hw 6 rfl) (ty := .boolean) (v' := (.int (1 : Int32))) (by decide) rfl rfl (g := (mkF m 47 #[.val (.ref x), .val (.int (own_H [c0]))] [(.int (1 : Int32)), (.ref x)])) rfl rfl (hb hby d10_47)
    have O16 := O0.wr W15 g_x
    have K17 : Keep h0 h15 [x] := K0.wr W15 (Or.inl (List.mem_of_getElem? (i := 0) rfl))
    have N18 := Fr.snoc X15 N12 g_x
    have F15 : Fld Z h15 x "java/lang/String" "hashIsZero" "Z" (.int (1 : Int32)) := Fld.same W15 Z_x
    have S19 : ∀ t, Steps p.tables e below (T15.setTop (mkF m 59 #[.val (.ref x), .val (.int (own_H [c0]))] [(.int (own_H [c0]))])) t → Steps p.tables e below (s₁.setTop (mkF m 0 #[.val (.ref x), .unset] [])) t := by
      intro t kt
      refine S13 t ?_
      refine XS.ifNo X9.here hx rfl (hb hby d10_42) rfl ((if0 _ _).trans (teq (c14 : (own_H [c0]) = (0 : Int32))).2) ?_
      refine XS.aloadN X9.here hx rfl (hb hby d10_45) rfl rfl ?_
      refine XS.iconst X9.here hx rfl (hb hby d10_46) ?_
      show Steps p.tables e below (T9.setTop (mkF m 47 #[.val (.ref x), .val (.int (own_H [c0]))] [(.int (1 : Int32)), (.ref x)])) _
      refine st15 _ ?_
      refine XS.goto X15.here hx rfl (pc0 := 50) (pc' := 58) rfl (hb hby d10_50) (by decide) (by decide) ?_
      refine XS.iloadN X15.here hx rfl (hb hby d10_58) rfl ?_
      exact kt
    obtain ⟨fs, hr, hrun, hended, hW, hsame⟩ := X15.leave (v := some (.int (own_H [c0]))) (fun h => by rw [Bd.returns] at h; cases h)
    have f20 := (Exa.wr W15 E_x)
    have f21 := (Fld.other W15 V_x (Or.inr (slot_ne (Or.inr (own_w hw 20 rfl)) (Or.inl (own_w hw 47 rfl)) (by decide) (t := (.array .byte)) (t' := .boolean) (by decide) (by decide))))
    have f22 := (Fld.other W15 C_x (Or.inr (slot_ne (Or.inr (own_w hw 21 rfl)) (Or.inl (own_w hw 47 rfl)) (by decide) (t := .byte) (t' := .boolean) (by decide) (by decide))))
    refine ⟨_, _, pre0 _ (S19 _ ?_), hrun, hended, _, _, rfl, ?_, ⟨_, rfl⟩, hW, hsame.mono (by decide) (by decide)⟩
    · exact retOut X15 hx Bd.returns rfl (Or.inl ⟨rfl, Or.inl rfl, _, rfl⟩) (hb hby d10_59) hr
    · show Q_rm_hash1 Z x tx kx c0 zc h0 n0 _ T15.heap _
      rw [e15]
      exact ⟨rfl, N18, K17, f20, f21, f22⟩
  · obtain ⟨T23, h23, X23, e23, W23, st23⟩ := putF X9 hx hZ hown (host := "") (Or.inl (own_w hw 44 rfl)) Via.refl k11 H_x E_x (Or.inl (own_w hw 45 rfl)) (own_w hw 6 rfl) (ty := .int) (by decide) rfl rfl (g := (mkF m 55 #[.val (.ref x), .val (.int (own_H [c0]))] [(.int (own_H [c0])), (.ref x)])) rfl rfl (hb hby d10_55)
    have O24 := O0.wr W23 g_x
    have K25 : Keep h0 h23 [x] := K0.wr W23 (Or.inl (List.mem_of_getElem? (i := 0) rfl))
    have N26 := Fr.snoc X23 N12 g_x
    have F23 : Fld Z h23 x "java/lang/String" "hash" "I" (.int (own_H [c0])) := Fld.same W23 H_x
    have S27 : ∀ t, Steps p.tables e below (T23.setTop (mkF m 59 #[.val (.ref x), .val (.int (own_H [c0]))] [(.int (own_H [c0]))])) t → Steps p.tables e below (s₁.setTop (mkF m 0 #[.val (.ref x), .unset] [])) t := by
      intro t kt
      refine S13 t ?_
      refine XS.ifYes X9.here hx rfl (pc0 := 42) (pc' := 53) rfl (hb hby d10_42) rfl ((if0 _ _).trans (feq (c14 : ¬ ((own_H [c0]) = (0 : Int32)))).2) (by decide) (by decide) ?_
      refine XS.aloadN X9.here hx rfl (hb hby d10_53) rfl rfl ?_
      refine XS.iloadN X9.here hx rfl (hb hby d10_54) rfl ?_
      show Steps p.tables e below (T9.setTop (mkF m 55 #[.val (.ref x), .val (.int (own_H [c0]))] [(.int (own_H [c0])), (.ref x)])) _
      refine st23 _ ?_
      refine XS.iloadN X23.here hx rfl (hb hby d10_58) rfl ?_
      exact kt
    obtain ⟨fs, hr, hrun, hended, hW, hsame⟩ := X23.leave (v := some (.int (own_H [c0]))) (fun h => by rw [Bd.returns] at h; cases h)
    have f28 := (Exa.wr W23 E_x)
    have f29 := (Fld.other W23 V_x (Or.inr (slot_ne (Or.inr (own_w hw 20 rfl)) (Or.inl (own_w hw 45 rfl)) (by decide) (t := (.array .byte)) (t' := .int) (by decide) (by decide))))
    have f30 := (Fld.other W23 C_x (Or.inr (slot_ne (Or.inr (own_w hw 21 rfl)) (Or.inl (own_w hw 45 rfl)) (by decide) (t := .byte) (t' := .int) (by decide) (by decide))))
    refine ⟨_, _, pre0 _ (S27 _ ?_), hrun, hended, _, _, rfl, ?_, ⟨_, rfl⟩, hW, hsame.mono (by decide) (by decide)⟩
    · exact retOut X23 hx Bd.returns rfl (Or.inl ⟨rfl, Or.inl rfl, _, rfl⟩) (hb hby d10_59) hr
    · show Q_rm_hash1 Z x tx kx c0 zc h0 n0 _ T23.heap _
      rw [e23]
      exact ⟨rfl, N26, K25, f28, f29, f30⟩
theorem ef_rm_hash2 (m : MethodId) (x0 : Addr) : entryFrame m #[(.ref x0)] 2 = mkF m 0 #[.val (.ref x0), .unset] [] := by first | (simp [entryFrame, mkF, argsToLocals, Value.category]; done) | rfl
def Q_rm_hash2 (Z : State) (x : Addr) (tx : Addr) (kx : ClassId) (c0 : Int32) (c1 : Int32) (zc : Int32) (h0 : Heap) (n0 : Nat) (v : Option Value) (h : Heap) (L : List Loc) : Prop := ((v = some (.int (own_H ([c0, c1] : List Int32)))) ∧ (Fr n0 L) ∧ (Keep h0 h [x]) ∧ (Exa Z h x "java/lang/String") ∧ (Fld Z h x "java/lang/String" "value" "[B" (.ref tx)) ∧ (Fld Z h x "java/lang/String" "coder" "B" (.int (0 : Int32))))
set_option maxRecDepth 65536 in
set_option maxHeartbeats 40000000 in
theorem rm_hash2 (l : Launch) (Z : State) (a0 : Array Value) (hw : ∀ d ∈ tables_1, d.before a0 Z = true) (ws : List Jvm.Cond) (x : Addr) (tx : Addr) (kx : ClassId) (c0 : Int32) (c1 : Int32) (zc : Int32) (h0 : Heap) (n0 : Nat) (O0 : Old Z n0 h0) (E_x : Exa Z h0 x "java/lang/String") (V_x : Fld Z h0 x "java/lang/String" "value" "[B" (.ref tx)) (C_x : Fld Z h0 x "java/lang/String" "coder" "B" (.int (0 : Int32))) (T_x : Exa Z h0 tx "[B") (K_x : Arv Z h0 tx kx .byte (2 : Int32) [(.int c0.toInt8.toInt32), (.int c1.toInt8.toInt32)] (.int (0 : Int32))) (H_x : Fld Z h0 x "java/lang/String" "hash" "I" (.int (0 : Int32))) (Z_x : Fld Z h0 x "java/lang/String" "hashIsZero" "Z" (.int (0 : Int32))) (g_x : n0 ≤ x) (S_C : Sta Z Z.heap "java/lang/String" "COMPACT_STRINGS" "Z" (.int zc)) (hzc : ¬ (zc = (0 : Int32))) :
    MetFree l (⟨"java/lang/String", "hashCode", "()I"⟩ : MethodName) (head1 (Jvm.Cond.code (⟨"java/lang/String", "hashCode", "()I"⟩ : MethodName) jdk_42_method_78_code 2 (some .int) :: ws) ({ frames := 3, cells := 0, slots := 0, locals := 45 } : Room)) (fun a U => a = #[(.ref x)] ∧ Z.Warmed39 U.vm ∧ U.heap = h0) (fun _ _ _ _ _ => True) (fun _ U o U' => ∃ v L, o = .returned v ∧ Q_rm_hash2 Z x tx kx c0 c1 zc h0 n0 v U'.heap L ∧ FrameEnd U o U' L ({ frames := 3, cells := 0, slots := 0, locals := 45 } : Room).cells ({ frames := 3, cells := 0, slots := 0, locals := 45 } : Room).slots) := by
  refine MetFree.of_bodySF (plainFor_of_name pn_1) hisR ?_
  intro p e s m args below meth c s₁ Bd hml0 hP hK
  obtain ⟨rfl, hZ, hh⟩ := hP
  have hx := Bd.exec
  have hby := Bd.bytes
  have hml : c.maxLocals = 2 := hml0
  have hown : s.vm.findClass "java/lang/String" = some m.cls := findClass_of_methodNamed Bd.named
  have hnm := (name_of_methodNamed Bd.named Bd.method).1
  have X0 : Stand p l e ({ frames := 3, cells := 0, slots := 0, locals := 45 } : Room) s m #[(.ref x)] below meth c s₁ [] 0 0 := Stand.of_body Bd
  have e0 : s₁.heap = h0 := by rw [← hh, Bd.state]; rfl
  have N0 := Fr.nil n0
  have hwl : ∀ d ∈ StrChars.Road.wordsLen, d.before a0 Z = true := fun d hd => hw d (own_wordsLen d hd)
  have hwc : ∀ d ∈ StrChars.Road.wordsChN, d.before a0 Z = true := fun d hd => hw d (own_wordsChN d hd)
  have hwq : ∀ d ∈ StrChars.Road.wordsEq, d.before a0 Z = true := fun d hd => hw d (own_wordsEq d hd)
  have K0 : Keep h0 h0 [x] := Keep.refl _ _
  have pre0 : ∀ t, Steps p.tables e below (s₁.setTop (mkF m 0 #[.val (.ref x), .unset] [])) t → Steps p.tables e below (s₁.setTop (entryFrame m #[(.ref x)] 2)) t := fun t k => castTop (ef_rm_hash2 m x) k
  have ne1 : x ≠ tx := own_arvne (own_w hw 6 rfl) E_x K_x
  obtain ⟨T2, X2, e2, st2⟩ := getF X0 hx hZ hown (host := "") (Or.inl (own_w hw 44 rfl)) Via.refl e0 H_x (g := (mkF m 1 #[.val (.ref x), .unset] [(.ref x)])) rfl rfl (hb hby d10_1)
  obtain ⟨T3, X3, e3, st3⟩ := getF X2 hx hZ hown (host := "") (Or.inl (own_w hw 46 rfl)) Via.refl e2 Z_x (g := (mkF m 10 #[.val (.ref x), .val (.int (0 : Int32))] [(.ref x)])) rfl rfl (hb hby d10_10)
  obtain ⟨cq4, kq4, q4a, q4b, q4c⟩ := isOf hZ e3 E_x
  obtain ⟨_, _, ⟨T4, L4, k4, n4⟩, -, X4, ⟨Lc4, hQ4, l4, y4, z4⟩, st4⟩ := X3.virtualBack hx (y := (⟨"java/lang/String", "isLatin1", "()Z"⟩ : MethodName)) (z := (⟨"java/lang/String", "isLatin1", "()Z"⟩ : MethodName)) hown (mvT hZ (own_w hw 48 rfl)) (mvT hZ (own_w hw 49 rfl)) (notFace_of_selects (args := #[]) (mvT hZ (own_w hw 51 rfl))) (mvT hZ (own_w hw 51 rfl)) (mvT hZ (own_w hw 50 rfl)) (by decide) (backOf (W := 0) (rm_isl l Z a0 hw [] x zc h0 n0 O0 C_x S_C hzc) hZ (own_w hw 52 rfl) (own_w hw 7 rfl) (by decide) (by decide)) q4a q4c (g := (mkF m 17 #[.val (.ref x), .val (.int (0 : Int32))] [(.ref x)])) rfl (by rw [hml]; rfl) (Steps.refl _) (argsL := []) (rest := []) (lenOf pd_7 rfl) rfl (by show 2 * 0 + _ ≤ _; exact Nat.le_of_eq rfl) (hb hby d10_17) (fun _ _ => ⟨rfl, e3, (by decide : 0 + 0 ≤ _), (by decide : 0 + 0 ≤ _)⟩)
  dsimp only [Pt.U, Pt.locs, Pt.cells, Pt.slots] at X4 l4 y4 z4 st4 hQ4
  subst l4 y4 z4
  obtain ⟨rfl, N5, k6⟩ := hQ4
  have N7 := Fr.app N0 N5
  obtain ⟨T8, X8, e8, st8⟩ := getF X4 hx hZ hown (host := "") (Or.inl (own_w hw 24 rfl)) Via.refl k6 V_x (g := (mkF m 24 #[.val (.ref x), .val (.int (0 : Int32))] [(.ref x)])) rfl rfl (hb hby d10_24)
  obtain ⟨_, _, ⟨T9, L9, k9, n9⟩, -, X9, ⟨Lc9, hQ9, l9, y9, z9⟩, st9⟩ := Jvm.LawKit.callS X8 hx (y := (⟨"java/lang/StringLatin1", "hashCode", "([B)I"⟩ : MethodName)) hown (mvT hZ (own_w hw 54 rfl)) (mvT hZ (own_w hw 55 rfl)) (mvT hZ (own_w hw 56 rfl)) (mvT hZ (own_w hw 57 rfl)) (by decide) (backOf (W := 0) (rm_slh2 l Z a0 hw [] tx kx c0 c1 h0 n0 O0 T_x K_x) hZ (own_w hw 57 rfl) (own_w hw 56 rfl) (by decide) (by decide)) (g := (mkF m 27 #[.val (.ref x), .val (.int (0 : Int32))] [(.ref tx)])) rfl (by rw [hml]; rfl) (argsL := [(.ref tx)]) (rest := []) (lenOf pd_8 rfl) rfl (by show 2 * 0 + _ ≤ _; exact Nat.le_of_eq rfl) (hb hby d10_27) (fun _ _ => ⟨rfl, e8, (by decide : 0 + 0 ≤ _), (by decide : 0 + 0 ≤ _)⟩)
  dsimp only [Pt.U, Pt.locs, Pt.cells, Pt.slots] at X9 l9 y9 z9 st9 hQ9
  subst l9 y9 z9
  obtain ⟨rfl, N10, k11⟩ := hQ9
  have N12 := Fr.app N7 N10
  have S13 : ∀ t, Steps p.tables e below (T9.setTop (mkF m 42 #[.val (.ref x), .val (.int (own_H [c0, c1]))] [(.int (own_H [c0, c1]))])) t → Steps p.tables e below (s₁.setTop (mkF m 0 #[.val (.ref x), .unset] [])) t := by
    intro t kt
    refine XS.aloadN X0.here hx rfl (hb hby d10_0) rfl rfl ?_
    show Steps p.tables e below (s₁.setTop (mkF m 1 #[.val (.ref x), .unset] [(.ref x)])) _
    refine st2 _ ?_
    refine XS.istoreN X2.here hx rfl (hb hby d10_4) rfl (l' := #[.val (.ref x), .val (.int (0 : Int32))]) rfl ?_
    refine XS.iloadN X2.here hx rfl (hb hby d10_5) rfl ?_
    refine XS.ifNo X2.here hx rfl (hb hby d10_6) rfl ((if0 _ _).trans (teq ((by decide) : (0 : Int32) = (0 : Int32))).2) ?_
    refine XS.aloadN X2.here hx rfl (hb hby d10_9) rfl rfl ?_
    show Steps p.tables e below (T2.setTop (mkF m 10 #[.val (.ref x), .val (.int (0 : Int32))] [(.ref x)])) _
    refine st3 _ ?_
    refine XS.ifNo X3.here hx rfl (hb hby d10_13) rfl ((if0 _ _).trans (teq ((by decide) : (0 : Int32) = (0 : Int32))).2) ?_
    refine XS.aloadN X3.here hx rfl (hb hby d10_16) rfl rfl ?_
    show Steps p.tables e below (T3.setTop (mkF m 17 #[.val (.ref x), .val (.int (0 : Int32))] [(.ref x)])) _
    refine st4.trans ?_
    refine XS.ifNo X4.here hx rfl (hb hby d10_20) rfl ((if0 _ _).trans (feq ((by decide) : ¬ ((1 : Int32) = (0 : Int32)))).1) ?_
    refine XS.aloadN X4.here hx rfl (hb hby d10_23) rfl rfl ?_
    show Steps p.tables e below (T4.setTop (mkF m 24 #[.val (.ref x), .val (.int (0 : Int32))] [(.ref x)])) _
    refine st8 _ ?_
    show Steps p.tables e below (T8.setTop (mkF m 27 #[.val (.ref x), .val (.int (0 : Int32))] [(.ref tx)])) _
    refine st9 _ ?_
    refine XS.goto X9.here hx rfl (pc0 := 30) (pc' := 40) rfl (hb hby d10_30) (by decide) (by decide) ?_
    refine XS.istoreN X9.here hx rfl (hb hby d10_40) rfl (l' := #[.val (.ref x), .val (.int (own_H [c0, c1]))]) rfl ?_
    refine XS.iloadN X9.here hx rfl (hb hby d10_41) rfl ?_
    exact kt
  rcases Decidable.em ((own_H [c0, c1]) = (0 : Int32)) with c14 | c14
  · obtain ⟨T15, h15, X15, e15, W15, st15⟩ := putFN X9 hx hZ hown (own_w hw 46 rfl) Via.refl k11 Z_x E_x (Or.inl (own_w hw 47 rfl)) (own_w hw 6 rfl) (ty := .boolean) (v' := (.int (1 : Int32))) (by decide) rfl rfl (g := (mkF m 47 #[.val (.ref x), .val (.int (own_H [c0, c1]))] [(.int (1 : Int32)), (.ref x)])) rfl rfl (hb hby d10_47)
    have O16 := O0.wr W15 g_x
    have K17 : Keep h0 h15 [x] := K0.wr W15 (Or.inl (List.mem_of_getElem? (i := 0) rfl))
    have N18 := Fr.snoc X15 N12 g_x
    have F15 : Fld Z h15 x "java/lang/String" "hashIsZero" "Z" (.int (1 : Int32)) := Fld.same W15 Z_x
    have S19 : ∀ t, Steps p.tables e below (T15.setTop (mkF m 59 #[.val (.ref x), .val (.int (own_H [c0, c1]))] [(.int (own_H [c0, c1]))])) t → Steps p.tables e below (s₁.setTop (mkF m 0 #[.val (.ref x), .unset] [])) t := by
      intro t kt
      refine S13 t ?_
      refine XS.ifNo X9.here hx rfl (hb hby d10_42) rfl ((if0 _ _).trans (teq (c14 : (own_H [c0, c1]) = (0 : Int32))).2) ?_
      refine XS.aloadN X9.here hx rfl (hb hby d10_45) rfl rfl ?_
      refine XS.iconst X9.here hx rfl (hb hby d10_46) ?_
      show Steps p.tables e below (T9.setTop (mkF m 47 #[.val (.ref x), .val (.int (own_H [c0, c1]))] [(.int (1 : Int32)), (.ref x)])) _
      refine st15 _ ?_
      refine XS.goto X15.here hx rfl (pc0 := 50) (pc' := 58) rfl (hb hby d10_50) (by decide) (by decide) ?_
      refine XS.iloadN X15.here hx rfl (hb hby d10_58) rfl ?_
      exact kt
    obtain ⟨fs, hr, hrun, hended, hW, hsame⟩ := X15.leave (v := some (.int (own_H [c0, c1]))) (fun h => by rw [Bd.returns] at h; cases h)
    have f20 := (Exa.wr W15 E_x)
    have f21 := (Fld.other W15 V_x (Or.inr (slot_ne (Or.inr (own_w hw 20 rfl)) (Or.inl (own_w hw 47 rfl)) (by decide) (t := (.array .byte)) (t' := .boolean) (by decide) (by decide))))
    have f22 := (Fld.other W15 C_x (Or.inr (slot_ne (Or.inr (own_w hw 21 rfl)) (Or.inl (own_w hw 47 rfl)) (by decide) (t := .byte) (t' := .boolean) (by decide) (by decide))))
    refine ⟨_, _, pre0 _ (S19 _ ?_), hrun, hended, _, _, rfl, ?_, ⟨_, rfl⟩, hW, hsame.mono (by decide) (by decide)⟩
    · exact retOut X15 hx Bd.returns rfl (Or.inl ⟨rfl, Or.inl rfl, _, rfl⟩) (hb hby d10_59) hr
    · show Q_rm_hash2 Z x tx kx c0 c1 zc h0 n0 _ T15.heap _
      rw [e15]
      exact ⟨rfl, N18, K17, f20, f21, f22⟩
  · obtain ⟨T23, h23, X23, e23, W23, st23⟩ := putF X9 hx hZ hown (host := "") (Or.inl (own_w hw 44 rfl)) Via.refl k11 H_x E_x (Or.inl (own_w hw 45 rfl)) (own_w hw 6 rfl) (ty := .int) (by decide) rfl rfl (g := (mkF m 55 #[.val (.ref x), .val (.int (own_H [c0, c1]))] [(.int (own_H [c0, c1])), (.ref x)])) rfl rfl (hb hby d10_55)
    have O24 := O0.wr W23 g_x
    have K25 : Keep h0 h23 [x] := K0.wr W23 (Or.inl (List.mem_of_getElem? (i := 0) rfl))
    have N26 := Fr.snoc X23 N12 g_x
    have F23 : Fld Z h23 x "java/lang/String" "hash" "I" (.int (own_H [c0, c1])) := Fld.same W23 H_x
    have S27 : ∀ t, Steps p.tables e below (T23.setTop (mkF m 59 #[.val (.ref x), .val (.int (own_H [c0, c1]))] [(.int (own_H [c0, c1]))])) t → Steps p.tables e below (s₁.setTop (mkF m 0 #[.val (.ref x), .unset] [])) t := by
      intro t kt
      refine S13 t ?_
      refine XS.ifYes X9.here hx rfl (pc0 := 42) (pc' := 53) rfl (hb hby d10_42) rfl ((if0 _ _).trans (feq (c14 : ¬ ((own_H [c0, c1]) = (0 : Int32)))).2) (by decide) (by decide) ?_
      refine XS.aloadN X9.here hx rfl (hb hby d10_53) rfl rfl ?_
      refine XS.iloadN X9.here hx rfl (hb hby d10_54) rfl ?_
      show Steps p.tables e below (T9.setTop (mkF m 55 #[.val (.ref x), .val (.int (own_H [c0, c1]))] [(.int (own_H [c0, c1])), (.ref x)])) _
      refine st23 _ ?_
      refine XS.iloadN X23.here hx rfl (hb hby d10_58) rfl ?_
      exact kt
    obtain ⟨fs, hr, hrun, hended, hW, hsame⟩ := X23.leave (v := some (.int (own_H [c0, c1]))) (fun h => by rw [Bd.returns] at h; cases h)
    have f28 := (Exa.wr W23 E_x)
    have f29 := (Fld.other W23 V_x (Or.inr (slot_ne (Or.inr (own_w hw 20 rfl)) (Or.inl (own_w hw 45 rfl)) (by decide) (t := (.array .byte)) (t' := .int) (by decide) (by decide))))
    have f30 := (Fld.other W23 C_x (Or.inr (slot_ne (Or.inr (own_w hw 21 rfl)) (Or.inl (own_w hw 45 rfl)) (by decide) (t := .byte) (t' := .int) (by decide) (by decide))))
    refine ⟨_, _, pre0 _ (S27 _ ?_), hrun, hended, _, _, rfl, ?_, ⟨_, rfl⟩, hW, hsame.mono (by decide) (by decide)⟩
    · exact retOut X23 hx Bd.returns rfl (Or.inl ⟨rfl, Or.inl rfl, _, rfl⟩) (hb hby d10_59) hr
    · show Q_rm_hash2 Z x tx kx c0 c1 zc h0 n0 _ T23.heap _
      rw [e23]
      exact ⟨rfl, N26, K25, f28, f29, f30⟩
def Q_rm_hash (Z : State) (x : Addr) (tx : Addr) (kx : ClassId) (cs : List Int32) (zc : Int32) (h0 : Heap) (n0 : Nat) (v : Option Value) (h : Heap) (L : List Loc) : Prop := ((v = some (.int (own_H cs))) ∧ (Fr n0 L) ∧ (Keep h0 h [x]) ∧ (Exa Z h x "java/lang/String") ∧ (Fld Z h x "java/lang/String" "value" "[B" (.ref tx)) ∧ (Fld Z h x "java/lang/String" "coder" "B" (.int (0 : Int32))))
set_option maxRecDepth 65536 in
set_option maxHeartbeats 40000000 in
theorem rm_hash (l : Launch) (Z : State) (a0 : Array Value) (hw : ∀ d ∈ tables_1, d.before a0 Z = true) (ws : List Jvm.Cond) (x : Addr) (tx : Addr) (kx : ClassId) (cs : List Int32) (zc : Int32) (h0 : Heap) (n0 : Nat) (O0 : Old Z n0 h0) (E_x : Exa Z h0 x "java/lang/String") (V_x : Fld Z h0 x "java/lang/String" "value" "[B" (.ref tx)) (C_x : Fld Z h0 x "java/lang/String" "coder" "B" (.int (0 : Int32))) (T_x : (cs).length = 2 → Exa Z h0 tx "[B") (K_x : Arv Z h0 tx kx .byte (own_len cs) (own_vs cs) (.int (0 : Int32))) (H_x : Fld Z h0 x "java/lang/String" "hash" "I" (.int (0 : Int32))) (Z_x : Fld Z h0 x "java/lang/String" "hashIsZero" "Z" (.int (0 : Int32))) (g_x : n0 ≤ x) (ok : own_ok cs) (S_C : Sta Z Z.heap "java/lang/String" "COMPACT_STRINGS" "Z" (.int zc)) (hzc : ¬ (zc = (0 : Int32))) :
    MetFree l (⟨"java/lang/String", "hashCode", "()I"⟩ : MethodName) (head1 (Jvm.Cond.code (⟨"java/lang/String", "hashCode", "()I"⟩ : MethodName) jdk_42_method_78_code 2 (some .int) :: ws) ({ frames := 3, cells := 0, slots := 0, locals := 45 } : Room)) (fun a U => a = #[(.ref x)] ∧ Z.Warmed39 U.vm ∧ U.heap = h0) (fun _ _ _ _ _ => True) (fun _ U o U' => ∃ v L, o = .returned v ∧ Q_rm_hash Z x tx kx cs zc h0 n0 v U'.heap L ∧ FrameEnd U o U' L ({ frames := 3, cells := 0, slots := 0, locals := 45 } : Room).cells ({ frames := 3, cells := 0, slots := 0, locals := 45 } : Room).slots) := by
  rcases own_split ok with rfl | ⟨c0, rfl⟩ | ⟨c0, c1, rfl⟩
  · exact rm_hash0 l Z a0 hw ws x tx kx  zc h0 n0 O0 E_x V_x C_x K_x H_x Z_x g_x S_C hzc
  · exact rm_hash1 l Z a0 hw ws x tx kx c0 zc h0 n0 O0 E_x V_x C_x K_x H_x Z_x g_x S_C hzc
  · exact rm_hash2 l Z a0 hw ws x tx kx c0 c1 zc h0 n0 O0 E_x V_x C_x (T_x rfl) K_x H_x Z_x g_x S_C hzc
theorem d11_0 : decode method_3_code 0 = .ok (.aload_n 0, 1) := by decide +kernel
theorem d11_1 : decode method_3_code 1 = .ok (.invokevirtual 12, 3) := by decide +kernel
theorem pd_9 : parseMethodDescriptor "()I" = some ⟨[], some .int⟩ := by decide +kernel
theorem d11_4 : decode method_3_code 4 = .ok (.aload_n 1, 1) := by decide +kernel
theorem d11_5 : decode method_3_code 5 = .ok (.invokevirtual 12, 3) := by decide +kernel
theorem d11_8 : decode method_3_code 8 = .ok (.if_icmp .eq 5, 3) := by decide +kernel
theorem d11_13 : decode method_3_code 13 = .ok (.aload_n 0, 1) := by decide +kernel
theorem d11_14 : decode method_3_code 14 = .ok (.invokevirtual 12, 3) := by decide +kernel
theorem d11_17 : decode method_3_code 17 = .ok (.iconst 1, 1) := by decide +kernel
theorem d11_18 : decode method_3_code 18 = .ok (.if_icmp .lt 18, 3) := by decide +kernel
theorem d11_36 : decode method_3_code 36 = .ok (.aload_n 0, 1) := by decide +kernel
theorem d11_37 : decode method_3_code 37 = .ok (.invokevirtual 12, 3) := by decide +kernel
theorem d11_40 : decode method_3_code 40 = .ok (.iconst 2, 1) := by decide +kernel
theorem d11_41 : decode method_3_code 41 = .ok (.if_icmp .lt 18, 3) := by decide +kernel
theorem d11_59 : decode method_3_code 59 = .ok (.iconst 1, 1) := by decide +kernel
theorem d11_60 : decode method_3_code 60 = .ok (.ireturn, 1) := by decide +kernel
theorem ef_rm_same00 (m : MethodId) (x0 : Addr) (x1 : Addr) : entryFrame m #[(.ref x0), (.ref x1)] 2 = mkF m 0 #[.val (.ref x0), .val (.ref x1)] [] := by first | (simp [entryFrame, mkF, argsToLocals, Value.category]; done) | rfl
def Q_rm_same00 (Z : State) (x : Addr) (tx : Addr) (kx : ClassId) (y : Addr) (ty : Addr) (ky : ClassId) (zc : Int32) (fm : Value) (h0 : Heap) (n0 : Nat) (v : Option Value) (h : Heap) (L : List Loc) : Prop := ((v = some (.int (own_eqI ([] : List Int32) []))) ∧ (Fr n0 L) ∧ (h = h0))
set_option maxRecDepth 65536 in
set_option maxHeartbeats 40000000 in
theorem rm_same00 (l : Launch) (Z : State) (a0 : Array Value) (hw : ∀ d ∈ tables_1, d.before a0 Z = true) (ws : List Jvm.Cond) (x : Addr) (tx : Addr) (kx : ClassId) (y : Addr) (ty : Addr) (ky : ClassId) (zc : Int32) (fm : Value) (h0 : Heap) (n0 : Nat) (O0 : Old Z n0 h0) (E_x : Exa Z h0 x "java/lang/String") (V_x : Fld Z h0 x "java/lang/String" "value" "[B" (.ref tx)) (C_x : Fld Z h0 x "java/lang/String" "coder" "B" (.int (0 : Int32))) (K_x : Arv Z h0 tx kx .byte (0 : Int32) [] (.int (0 : Int32))) (E_y : Exa Z h0 y "java/lang/String") (V_y : Fld Z h0 y "java/lang/String" "value" "[B" (.ref ty)) (C_y : Fld Z h0 y "java/lang/String" "coder" "B" (.int (0 : Int32))) (K_y : Arv Z h0 ty ky .byte (0 : Int32) [] (.int (0 : Int32))) (S_C : Sta Z Z.heap "java/lang/String" "COMPACT_STRINGS" "Z" (.int zc)) (hzc : ¬ (zc = (0 : Int32))) (S_F : Sta Z Z.heap "jdk/internal/util/Preconditions" "SIOOBE_FORMATTER" "Ljava/util/function/BiFunction;" fm) (hfm : fm.isRef = true) :
    MetFree l (⟨"com/example/typecheck/typecheck/model/QNameEqualsPinLaw", "same", "(Ljava/lang/String;Ljava/lang/String;)Z"⟩ : MethodName) (head1 (Jvm.Cond.code (⟨"com/example/typecheck/typecheck/model/QNameEqualsPinLaw", "same", "(Ljava/lang/String;Ljava/lang/String;)Z"⟩ : MethodName) method_3_code 2 (some .boolean) :: ws) ({ frames := 5, cells := 0, slots := 0, locals := 70 } : Room)) (fun a U => a = #[(.ref x), (.ref y)] ∧ Z.Warmed39 U.vm ∧ U.heap = h0) (fun _ _ _ _ _ => True) (fun _ U o U' => ∃ v L, o = .returned v ∧ Q_rm_same00 Z x tx kx y ty ky zc fm h0 n0 v U'.heap L ∧ FrameEnd U o U' L ({ frames := 5, cells := 0, slots := 0, locals := 70 } : Room).cells ({ frames := 5, cells := 0, slots := 0, locals := 70 } : Room).slots) := by
  refine MetFree.of_bodySF (plainFor_of_name pn_2) hisR ?_
  intro p e s m args below meth c s₁ Bd hml0 hP hK
  obtain ⟨rfl, hZ, hh⟩ := hP
  have hx := Bd.exec
  have hby := Bd.bytes
  have hml : c.maxLocals = 2 := hml0
  have hown : s.vm.findClass "com/example/typecheck/typecheck/model/QNameEqualsPinLaw" = some m.cls := findClass_of_methodNamed Bd.named
  have hnm := (name_of_methodNamed Bd.named Bd.method).1
  have X0 : Stand p l e ({ frames := 5, cells := 0, slots := 0, locals := 70 } : Room) s m #[(.ref x), (.ref y)] below meth c s₁ [] 0 0 := Stand.of_body Bd
  have e0 : s₁.heap = h0 := by rw [← hh, Bd.state]; rfl
  have N0 := Fr.nil n0
  have hwl : ∀ d ∈ StrChars.Road.wordsLen, d.before a0 Z = true := fun d hd => hw d (own_wordsLen d hd)
  have hwc : ∀ d ∈ StrChars.Road.wordsChN, d.before a0 Z = true := fun d hd => hw d (own_wordsChN d hd)
  have hwq : ∀ d ∈ StrChars.Road.wordsEq, d.before a0 Z = true := fun d hd => hw d (own_wordsEq d hd)
  have pre0 : ∀ t, Steps p.tables e below (s₁.setTop (mkF m 0 #[.val (.ref x), .val (.ref y)] [])) t → Steps p.tables e below (s₁.setTop (entryFrame m #[(.ref x), (.ref y)] 2)) t := fun t k => castTop (ef_rm_same00 m x y) k
  have la2 : ∀ c ∈ ([] : List Int32), ¬ c < 0 ∧ ¬ (255 : Int32) < c := fun c hc => nomatch hc
  have cd2 : StrChars.Road.CodA ([] : List Int32) 0 (0 : Int32) [] := StrChars.Road.codOf (n := 0) rfl (fun x hx => (la2 x hx).2)
  have bd2 := own_up la2
  obtain ⟨cq1, kq1, q1a, q1b, q1c⟩ := isOf hZ e0 E_x
  obtain ⟨_, _, ⟨T1, L1, k1, n1⟩, -, X1, ⟨Lc1, hQ1, l1, y1, z1⟩, st1⟩ := X0.virtualBack hx (y := (⟨"java/lang/String", "length", "()I"⟩ : MethodName)) (z := (⟨"java/lang/String", "length", "()I"⟩ : MethodName)) hown (mvT hZ (own_w hw 63 rfl)) (mvT hZ (own_w hw 64 rfl)) (notFace_of_selects (args := #[]) (mvT hZ (own_w hw 66 rfl))) (mvT hZ (own_w hw 66 rfl)) (mvT hZ (own_w hw 65 rfl)) (by decide) (StrChars.Road.lenW (W := 0) hZ hwl (kI := 4) (own_w hw 6 rfl) (cs := []) E_x V_x C_x K_x cd2 bd2 (S_C.ext O0.2) hzc (by show 0 ≤ 4000; decide) (by decide) (by decide)) q1a q1c (g := (mkF m 1 #[.val (.ref x), .val (.ref y)] [(.ref x)])) rfl (by rw [hml]; rfl) (Steps.refl _) (argsL := []) (rest := []) (lenOf pd_9 rfl) rfl (by show 2 * 0 + _ ≤ _; exact Nat.le_of_eq rfl) (hb hby d11_1) (fun _ _ => ⟨rfl, e0, (by decide : 0 + 0 ≤ _), (by decide : 0 + 0 ≤ _)⟩)
  dsimp only [Pt.U, Pt.locs, Pt.cells, Pt.slots] at X1 l1 y1 z1 st1 hQ1
  subst l1 y1 z1
  obtain ⟨rfl, rfl, k3⟩ := hQ1
  have N4 := Fr.app N0 (Fr.nil n0)
  obtain ⟨cq5, kq5, q5a, q5b, q5c⟩ := isOf hZ k3 E_y
  obtain ⟨_, _, ⟨T5, L5, k5, n5⟩, -, X5, ⟨Lc5, hQ5, l5, y5, z5⟩, st5⟩ := X1.virtualBack hx (y := (⟨"java/lang/String", "length", "()I"⟩ : MethodName)) (z := (⟨"java/lang/String", "length", "()I"⟩ : MethodName)) hown (mvT hZ (own_w hw 63 rfl)) (mvT hZ (own_w hw 64 rfl)) (notFace_of_selects (args := #[]) (mvT hZ (own_w hw 66 rfl))) (mvT hZ (own_w hw 66 rfl)) (mvT hZ (own_w hw 65 rfl)) (by decide) (StrChars.Road.lenW (W := 1) hZ hwl (kI := 4) (own_w hw 6 rfl) (cs := []) E_y V_y C_y K_y cd2 bd2 (S_C.ext O0.2) hzc (by show 0 ≤ 4000; decide) (by decide) (by decide)) q5a q5c (g := (mkF m 5 #[.val (.ref x), .val (.ref y)] [(.ref y), (.int (0 : Int32))])) rfl (by rw [hml]; rfl) (Steps.refl _) (argsL := []) (rest := [(.int (0 : Int32))]) (lenOf pd_9 rfl) rfl (by show 2 * 0 + _ ≤ _; exact Nat.le_of_eq rfl) (hb hby d11_5) (fun _ _ => ⟨rfl, k3, (by decide : 0 + 0 ≤ _), (by decide : 0 + 0 ≤ _)⟩)
  dsimp only [Pt.U, Pt.locs, Pt.cells, Pt.slots] at X5 l5 y5 z5 st5 hQ5
  subst l5 y5 z5
  obtain ⟨rfl, rfl, k6⟩ := hQ5
  have N7 := Fr.app N4 (Fr.nil n0)
  obtain ⟨cq8, kq8, q8a, q8b, q8c⟩ := isOf hZ k6 E_x
  obtain ⟨_, _, ⟨T8, L8, k8, n8⟩, -, X8, ⟨Lc8, hQ8, l8, y8, z8⟩, st8⟩ := X5.virtualBack hx (y := (⟨"java/lang/String", "length", "()I"⟩ : MethodName)) (z := (⟨"java/lang/String", "length", "()I"⟩ : MethodName)) hown (mvT hZ (own_w hw 63 rfl)) (mvT hZ (own_w hw 64 rfl)) (notFace_of_selects (args := #[]) (mvT hZ (own_w hw 66 rfl))) (mvT hZ (own_w hw 66 rfl)) (mvT hZ (own_w hw 65 rfl)) (by decide) (StrChars.Road.lenW (W := 0) hZ hwl (kI := 4) (own_w hw 6 rfl) (cs := []) E_x V_x C_x K_x cd2 bd2 (S_C.ext O0.2) hzc (by show 0 ≤ 4000; decide) (by decide) (by decide)) q8a q8c (g := (mkF m 14 #[.val (.ref x), .val (.ref y)] [(.ref x)])) rfl (by rw [hml]; rfl) (Steps.refl _) (argsL := []) (rest := []) (lenOf pd_9 rfl) rfl (by show 2 * 0 + _ ≤ _; exact Nat.le_of_eq rfl) (hb hby d11_14) (fun _ _ => ⟨rfl, k6, (by decide : 0 + 0 ≤ _), (by decide : 0 + 0 ≤ _)⟩)
  dsimp only [Pt.U, Pt.locs, Pt.cells, Pt.slots] at X8 l8 y8 z8 st8 hQ8
  subst l8 y8 z8
  obtain ⟨rfl, rfl, k9⟩ := hQ8
  have N10 := Fr.app N7 (Fr.nil n0)
  obtain ⟨cq11, kq11, q11a, q11b, q11c⟩ := isOf hZ k9 E_x
  obtain ⟨_, _, ⟨T11, L11, k11, n11⟩, -, X11, ⟨Lc11, hQ11, l11, y11, z11⟩, st11⟩ := X8.virtualBack hx (y := (⟨"java/lang/String", "length", "()I"⟩ : MethodName)) (z := (⟨"java/lang/String", "length", "()I"⟩ : MethodName)) hown (mvT hZ (own_w hw 63 rfl)) (mvT hZ (own_w hw 64 rfl)) (notFace_of_selects (args := #[]) (mvT hZ (own_w hw 66 rfl))) (mvT hZ (own_w hw 66 rfl)) (mvT hZ (own_w hw 65 rfl)) (by decide) (StrChars.Road.lenW (W := 0) hZ hwl (kI := 4) (own_w hw 6 rfl) (cs := []) E_x V_x C_x K_x cd2 bd2 (S_C.ext O0.2) hzc (by show 0 ≤ 4000; decide) (by decide) (by decide)) q11a q11c (g := (mkF m 37 #[.val (.ref x), .val (.ref y)] [(.ref x)])) rfl (by rw [hml]; rfl) (Steps.refl _) (argsL := []) (rest := []) (lenOf pd_9 rfl) rfl (by show 2 * 0 + _ ≤ _; exact Nat.le_of_eq rfl) (hb hby d11_37) (fun _ _ => ⟨rfl, k9, (by decide : 0 + 0 ≤ _), (by decide : 0 + 0 ≤ _)⟩)
  dsimp only [Pt.U, Pt.locs, Pt.cells, Pt.slots] at X11 l11 y11 z11 st11 hQ11
  subst l11 y11 z11
  obtain ⟨rfl, rfl, k12⟩ := hQ11
  have N13 := Fr.app N10 (Fr.nil n0)
  have S14 : ∀ t, Steps p.tables e below (T11.setTop (mkF m 60 #[.val (.ref x), .val (.ref y)] [(.int (1 : Int32))])) t → Steps p.tables e below (s₁.setTop (mkF m 0 #[.val (.ref x), .val (.ref y)] [])) t := by
    intro t kt
    refine XS.aloadN X0.here hx rfl (hb hby d11_0) rfl rfl ?_
    show Steps p.tables e below (s₁.setTop (mkF m 1 #[.val (.ref x), .val (.ref y)] [(.ref x)])) _
    refine st1.trans ?_
    refine XS.aloadN X1.here hx rfl (hb hby d11_4) rfl rfl ?_
    show Steps p.tables e below (T1.setTop (mkF m 5 #[.val (.ref x), .val (.ref y)] [(.ref y), (.int (0 : Int32))])) _
    refine st5.trans ?_
    refine XS.icmpYes X5.here hx rfl (pc0 := 8) (pc' := 13) rfl (hb hby d11_8) rfl (teq ((by decide) : (0 : Int32) = (0 : Int32))).1 (by decide) (by decide) ?_
    refine XS.aloadN X5.here hx rfl (hb hby d11_13) rfl rfl ?_
    show Steps p.tables e below (T5.setTop (mkF m 14 #[.val (.ref x), .val (.ref y)] [(.ref x)])) _
    refine st8.trans ?_
    refine XS.iconst X8.here hx rfl (hb hby d11_17) ?_
    refine XS.icmpYes X8.here hx rfl (pc0 := 18) (pc' := 36) rfl (hb hby d11_18) rfl (tlt ((by decide) : (0 : Int32) < (1 : Int32))).1 (by decide) (by decide) ?_
    refine XS.aloadN X8.here hx rfl (hb hby d11_36) rfl rfl ?_
    show Steps p.tables e below (T8.setTop (mkF m 37 #[.val (.ref x), .val (.ref y)] [(.ref x)])) _
    refine st11.trans ?_
    refine XS.iconst X11.here hx rfl (hb hby d11_40) ?_
    refine XS.icmpYes X11.here hx rfl (pc0 := 41) (pc' := 59) rfl (hb hby d11_41) rfl (tlt ((by decide) : (0 : Int32) < (2 : Int32))).1 (by decide) (by decide) ?_
    refine XS.iconst X11.here hx rfl (hb hby d11_59) ?_
    exact kt
  obtain ⟨fs, hr, hrun, hended, hW, hsame⟩ := X11.leave (v := some (.int (1 : Int32))) (fun h => by rw [Bd.returns] at h; cases h)
  refine ⟨_, _, pre0 _ (S14 _ ?_), hrun, hended, _, _, rfl, ?_, ⟨_, rfl⟩, hW, hsame.mono (by decide) (by decide)⟩
  · exact retN X11 hx (t := .boolean) Bd.returns (by simp) (hb hby d11_60) hr
  · show Q_rm_same00 Z x tx kx y ty ky zc fm h0 n0 _ T11.heap _
    rw [k12]
    exact ⟨(congrArg (fun z => some (Value.int z)) (if_pos rfl).symm), N13, rfl⟩
theorem d11_11 : decode method_3_code 11 = .ok (.iconst 0, 1) := by decide +kernel
theorem d11_12 : decode method_3_code 12 = .ok (.ireturn, 1) := by decide +kernel
theorem ef_rm_same01 (m : MethodId) (x0 : Addr) (x1 : Addr) : entryFrame m #[(.ref x0), (.ref x1)] 2 = mkF m 0 #[.val (.ref x0), .val (.ref x1)] [] := by first | (simp [entryFrame, mkF, argsToLocals, Value.category]; done) | rfl
def Q_rm_same01 (Z : State) (x : Addr) (tx : Addr) (kx : ClassId) (y : Addr) (ty : Addr) (ky : ClassId) (d0 : Int32) (zc : Int32) (fm : Value) (h0 : Heap) (n0 : Nat) (v : Option Value) (h : Heap) (L : List Loc) : Prop := ((v = some (.int (own_eqI ([] : List Int32) [d0]))) ∧ (Fr n0 L) ∧ (h = h0))
set_option maxRecDepth 65536 in
set_option maxHeartbeats 40000000 in
theorem rm_same01 (l : Launch) (Z : State) (a0 : Array Value) (hw : ∀ d ∈ tables_1, d.before a0 Z = true) (ws : List Jvm.Cond) (x : Addr) (tx : Addr) (kx : ClassId) (y : Addr) (ty : Addr) (ky : ClassId) (d0 : Int32) (zc : Int32) (fm : Value) (h0 : Heap) (n0 : Nat) (O0 : Old Z n0 h0) (E_x : Exa Z h0 x "java/lang/String") (V_x : Fld Z h0 x "java/lang/String" "value" "[B" (.ref tx)) (C_x : Fld Z h0 x "java/lang/String" "coder" "B" (.int (0 : Int32))) (K_x : Arv Z h0 tx kx .byte (0 : Int32) [] (.int (0 : Int32))) (E_y : Exa Z h0 y "java/lang/String") (V_y : Fld Z h0 y "java/lang/String" "value" "[B" (.ref ty)) (C_y : Fld Z h0 y "java/lang/String" "coder" "B" (.int (0 : Int32))) (K_y : Arv Z h0 ty ky .byte (1 : Int32) [(.int d0.toInt8.toInt32)] (.int (0 : Int32))) (la_d0 : ¬ (d0 < (0 : Int32)) ∧ ¬ ((255 : Int32) < d0)) (S_C : Sta Z Z.heap "java/lang/String" "COMPACT_STRINGS" "Z" (.int zc)) (hzc : ¬ (zc = (0 : Int32))) (S_F : Sta Z Z.heap "jdk/internal/util/Preconditions" "SIOOBE_FORMATTER" "Ljava/util/function/BiFunction;" fm) (hfm : fm.isRef = true) :
    MetFree l (⟨"com/example/typecheck/typecheck/model/QNameEqualsPinLaw", "same", "(Ljava/lang/String;Ljava/lang/String;)Z"⟩ : MethodName) (head1 (Jvm.Cond.code (⟨"com/example/typecheck/typecheck/model/QNameEqualsPinLaw", "same", "(Ljava/lang/String;Ljava/lang/String;)Z"⟩ : MethodName) method_3_code 2 (some .boolean) :: ws) ({ frames := 5, cells := 0, slots := 0, locals := 70 } : Room)) (fun a U => a = #[(.ref x), (.ref y)] ∧ Z.Warmed39 U.vm ∧ U.heap = h0) (fun _ _ _ _ _ => True) (fun _ U o U' => ∃ v L, o = .returned v ∧ Q_rm_same01 Z x tx kx y ty ky d0 zc fm h0 n0 v U'.heap L ∧ FrameEnd U o U' L ({ frames := 5, cells := 0, slots := 0, locals := 70 } : Room).cells ({ frames := 5, cells := 0, slots := 0, locals := 70 } : Room).slots) := by
  refine MetFree.of_bodySF (plainFor_of_name pn_2) hisR ?_
  intro p e s m args below meth c s₁ Bd hml0 hP hK
  obtain ⟨rfl, hZ, hh⟩ := hP
  have hx := Bd.exec
  have hby := Bd.bytes
  have hml : c.maxLocals = 2 := hml0
  have hown : s.vm.findClass "com/example/typecheck/typecheck/model/QNameEqualsPinLaw" = some m.cls := findClass_of_methodNamed Bd.named
  have hnm := (name_of_methodNamed Bd.named Bd.method).1
  have X0 : Stand p l e ({ frames := 5, cells := 0, slots := 0, locals := 70 } : Room) s m #[(.ref x), (.ref y)] below meth c s₁ [] 0 0 := Stand.of_body Bd
  have e0 : s₁.heap = h0 := by rw [← hh, Bd.state]; rfl
  have N0 := Fr.nil n0
  have hwl : ∀ d ∈ StrChars.Road.wordsLen, d.before a0 Z = true := fun d hd => hw d (own_wordsLen d hd)
  have hwc : ∀ d ∈ StrChars.Road.wordsChN, d.before a0 Z = true := fun d hd => hw d (own_wordsChN d hd)
  have hwq : ∀ d ∈ StrChars.Road.wordsEq, d.before a0 Z = true := fun d hd => hw d (own_wordsEq d hd)
  have pre0 : ∀ t, Steps p.tables e below (s₁.setTop (mkF m 0 #[.val (.ref x), .val (.ref y)] [])) t → Steps p.tables e below (s₁.setTop (entryFrame m #[(.ref x), (.ref y)] 2)) t := fun t k => castTop (ef_rm_same01 m x y) k
  have la2 : ∀ c ∈ ([] : List Int32), ¬ c < 0 ∧ ¬ (255 : Int32) < c := fun c hc => nomatch hc
  have cd2 : StrChars.Road.CodA ([] : List Int32) 0 (0 : Int32) [] := StrChars.Road.codOf (n := 0) rfl (fun x hx => (la2 x hx).2)
  have bd2 := own_up la2
  obtain ⟨cq1, kq1, q1a, q1b, q1c⟩ := isOf hZ e0 E_x
  obtain ⟨_, _, ⟨T1, L1, k1, n1⟩, -, X1, ⟨Lc1, hQ1, l1, y1, z1⟩, st1⟩ := X0.virtualBack hx (y := (⟨"java/lang/String", "length", "()I"⟩ : MethodName)) (z := (⟨"java/lang/String", "length", "()I"⟩ : MethodName)) hown (mvT hZ (own_w hw 63 rfl)) (mvT hZ (own_w hw 64 rfl)) (notFace_of_selects (args := #[]) (mvT hZ (own_w hw 66 rfl))) (mvT hZ (own_w hw 66 rfl)) (mvT hZ (own_w hw 65 rfl)) (by decide) (StrChars.Road.lenW (W := 0) hZ hwl (kI := 4) (own_w hw 6 rfl) (cs := []) E_x V_x C_x K_x cd2 bd2 (S_C.ext O0.2) hzc (by show 0 ≤ 4000; decide) (by decide) (by decide)) q1a q1c (g := (mkF m 1 #[.val (.ref x), .val (.ref y)] [(.ref x)])) rfl (by rw [hml]; rfl) (Steps.refl _) (argsL := []) (rest := []) (lenOf pd_9 rfl) rfl (by show 2 * 0 + _ ≤ _; exact Nat.le_of_eq rfl) (hb hby d11_1) (fun _ _ => ⟨rfl, e0, (by decide : 0 + 0 ≤ _), (by decide : 0 + 0 ≤ _)⟩)
  dsimp only [Pt.U, Pt.locs, Pt.cells, Pt.slots] at X1 l1 y1 z1 st1 hQ1
  subst l1 y1 z1
  obtain ⟨rfl, rfl, k3⟩ := hQ1
  have N4 := Fr.app N0 (Fr.nil n0)
  have la6 : ∀ c ∈ ([d0] : List Int32), ¬ c < 0 ∧ ¬ (255 : Int32) < c := by
    intro c hc
    simp only [List.mem_cons, List.not_mem_nil, or_false] at hc
    rcases hc with rfl
    · exact la_d0
  have cd6 : StrChars.Road.CodA ([d0] : List Int32) 0 (1 : Int32) [(.int d0.toInt8.toInt32)] := StrChars.Road.codOf (n := 1) rfl (fun x hx => (la6 x hx).2)
  have bd6 := own_up la6
  obtain ⟨cq5, kq5, q5a, q5b, q5c⟩ := isOf hZ k3 E_y
  obtain ⟨_, _, ⟨T5, L5, k5, n5⟩, -, X5, ⟨Lc5, hQ5, l5, y5, z5⟩, st5⟩ := X1.virtualBack hx (y := (⟨"java/lang/String", "length", "()I"⟩ : MethodName)) (z := (⟨"java/lang/String", "length", "()I"⟩ : MethodName)) hown (mvT hZ (own_w hw 63 rfl)) (mvT hZ (own_w hw 64 rfl)) (notFace_of_selects (args := #[]) (mvT hZ (own_w hw 66 rfl))) (mvT hZ (own_w hw 66 rfl)) (mvT hZ (own_w hw 65 rfl)) (by decide) (StrChars.Road.lenW (W := 1) hZ hwl (kI := 4) (own_w hw 6 rfl) (cs := [d0]) E_y V_y C_y K_y cd6 bd6 (S_C.ext O0.2) hzc (by show 1 ≤ 4000; decide) (by decide) (by decide)) q5a q5c (g := (mkF m 5 #[.val (.ref x), .val (.ref y)] [(.ref y), (.int (0 : Int32))])) rfl (by rw [hml]; rfl) (Steps.refl _) (argsL := []) (rest := [(.int (0 : Int32))]) (lenOf pd_9 rfl) rfl (by show 2 * 0 + _ ≤ _; exact Nat.le_of_eq rfl) (hb hby d11_5) (fun _ _ => ⟨rfl, k3, (by decide : 0 + 0 ≤ _), (by decide : 0 + 0 ≤ _)⟩)
  dsimp only [Pt.U, Pt.locs, Pt.cells, Pt.slots] at X5 l5 y5 z5 st5 hQ5
  subst l5 y5 z5
  obtain ⟨rfl, rfl, k7⟩ := hQ5
  have N8 := Fr.app N4 (Fr.nil n0)
  have S9 : ∀ t, Steps p.tables e below (T5.setTop (mkF m 12 #[.val (.ref x), .val (.ref y)] [(.int (0 : Int32))])) t → Steps p.tables e below (s₁.setTop (mkF m 0 #[.val (.ref x), .val (.ref y)] [])) t := by
    intro t kt
    refine XS.aloadN X0.here hx rfl (hb hby d11_0) rfl rfl ?_
    show Steps p.tables e below (s₁.setTop (mkF m 1 #[.val (.ref x), .val (.ref y)] [(.ref x)])) _
    refine st1.trans ?_
    refine XS.aloadN X1.here hx rfl (hb hby d11_4) rfl rfl ?_
    show Steps p.tables e below (T1.setTop (mkF m 5 #[.val (.ref x), .val (.ref y)] [(.ref y), (.int (0 : Int32))])) _
    refine st5.trans ?_
    refine XS.icmpNo X5.here hx rfl (hb hby d11_8) rfl (feq ((by decide) : ¬ ((0 : Int32) = (1 : Int32)))).1 ?_
    refine XS.iconst X5.here hx rfl (hb hby d11_11) ?_
    exact kt
  obtain ⟨fs, hr, hrun, hended, hW, hsame⟩ := X5.leave (v := some (.int (0 : Int32))) (fun h => by rw [Bd.returns] at h; cases h)
  refine ⟨_, _, pre0 _ (S9 _ ?_), hrun, hended, _, _, rfl, ?_, ⟨_, rfl⟩, hW, hsame.mono (by decide) (by decide)⟩
  · exact retN X5 hx (t := .boolean) Bd.returns (by simp) (hb hby d11_12) hr
  · show Q_rm_same01 Z x tx kx y ty ky d0 zc fm h0 n0 _ T5.heap _
    rw [k7]
    exact ⟨(congrArg (fun z => some (Value.int z)) (if_neg (fun q => by have := congrArg List.length q; simp at this)).symm), N8, rfl⟩
theorem ef_rm_same02 (m : MethodId) (x0 : Addr) (x1 : Addr) : entryFrame m #[(.ref x0), (.ref x1)] 2 = mkF m 0 #[.val (.ref x0), .val (.ref x1)] [] := by first | (simp [entryFrame, mkF, argsToLocals, Value.category]; done) | rfl
def Q_rm_same02 (Z : State) (x : Addr) (tx : Addr) (kx : ClassId) (y : Addr) (ty : Addr) (ky : ClassId) (d0 : Int32) (d1 : Int32) (zc : Int32) (fm : Value) (h0 : Heap) (n0 : Nat) (v : Option Value) (h : Heap) (L : List Loc) : Prop := ((v = some (.int (own_eqI ([] : List Int32) [d0, d1]))) ∧ (Fr n0 L) ∧ (h = h0))
set_option maxRecDepth 65536 in
set_option maxHeartbeats 40000000 in
theorem rm_same02 (l : Launch) (Z : State) (a0 : Array Value) (hw : ∀ d ∈ tables_1, d.before a0 Z = true) (ws : List Jvm.Cond) (x : Addr) (tx : Addr) (kx : ClassId) (y : Addr) (ty : Addr) (ky : ClassId) (d0 : Int32) (d1 : Int32) (zc : Int32) (fm : Value) (h0 : Heap) (n0 : Nat) (O0 : Old Z n0 h0) (E_x : Exa Z h0 x "java/lang/String") (V_x : Fld Z h0 x "java/lang/String" "value" "[B" (.ref tx)) (C_x : Fld Z h0 x "java/lang/String" "coder" "B" (.int (0 : Int32))) (K_x : Arv Z h0 tx kx .byte (0 : Int32) [] (.int (0 : Int32))) (E_y : Exa Z h0 y "java/lang/String") (V_y : Fld Z h0 y "java/lang/String" "value" "[B" (.ref ty)) (C_y : Fld Z h0 y "java/lang/String" "coder" "B" (.int (0 : Int32))) (K_y : Arv Z h0 ty ky .byte (2 : Int32) [(.int d0.toInt8.toInt32), (.int d1.toInt8.toInt32)] (.int (0 : Int32))) (la_d0 : ¬ (d0 < (0 : Int32)) ∧ ¬ ((255 : Int32) < d0)) (la_d1 : ¬ (d1 < (0 : Int32)) ∧ ¬ ((255 : Int32) < d1)) (S_C : Sta Z Z.heap "java/lang/String" "COMPACT_STRINGS" "Z" (.int zc)) (hzc : ¬ (zc = (0 : Int32))) (S_F : Sta Z Z.heap "jdk/internal/util/Preconditions" "SIOOBE_FORMATTER" "Ljava/util/function/BiFunction;" fm) (hfm : fm.isRef = true) :
    MetFree l (⟨"com/example/typecheck/typecheck/model/QNameEqualsPinLaw", "same", "(Ljava/lang/String;Ljava/lang/String;)Z"⟩ : MethodName) (head1 (Jvm.Cond.code (⟨"com/example/typecheck/typecheck/model/QNameEqualsPinLaw", "same", "(Ljava/lang/String;Ljava/lang/String;)Z"⟩ : MethodName) method_3_code 2 (some .boolean) :: ws) ({ frames := 5, cells := 0, slots := 0, locals := 70 } : Room)) (fun a U => a = #[(.ref x), (.ref y)] ∧ Z.Warmed39 U.vm ∧ U.heap = h0) (fun _ _ _ _ _ => True) (fun _ U o U' => ∃ v L, o = .returned v ∧ Q_rm_same02 Z x tx kx y ty ky d0 d1 zc fm h0 n0 v U'.heap L ∧ FrameEnd U o U' L ({ frames := 5, cells := 0, slots := 0, locals := 70 } : Room).cells ({ frames := 5, cells := 0, slots := 0, locals := 70 } : Room).slots) := by
  refine MetFree.of_bodySF (plainFor_of_name pn_2) hisR ?_
  intro p e s m args below meth c s₁ Bd hml0 hP hK
  obtain ⟨rfl, hZ, hh⟩ := hP
  have hx := Bd.exec
  have hby := Bd.bytes
  have hml : c.maxLocals = 2 := hml0
  have hown : s.vm.findClass "com/example/typecheck/typecheck/model/QNameEqualsPinLaw" = some m.cls := findClass_of_methodNamed Bd.named
  have hnm := (name_of_methodNamed Bd.named Bd.method).1
  have X0 : Stand p l e ({ frames := 5, cells := 0, slots := 0, locals := 70 } : Room) s m #[(.ref x), (.ref y)] below meth c s₁ [] 0 0 := Stand.of_body Bd
  have e0 : s₁.heap = h0 := by rw [← hh, Bd.state]; rfl
  have N0 := Fr.nil n0
  have hwl : ∀ d ∈ StrChars.Road.wordsLen, d.before a0 Z = true := fun d hd => hw d (own_wordsLen d hd)
  have hwc : ∀ d ∈ StrChars.Road.wordsChN, d.before a0 Z = true := fun d hd => hw d (own_wordsChN d hd)
  have hwq : ∀ d ∈ StrChars.Road.wordsEq, d.before a0 Z = true := fun d hd => hw d (own_wordsEq d hd)
  have pre0 : ∀ t, Steps p.tables e below (s₁.setTop (mkF m 0 #[.val (.ref x), .val (.ref y)] [])) t → Steps p.tables e below (s₁.setTop (entryFrame m #[(.ref x), (.ref y)] 2)) t := fun t k => castTop (ef_rm_same02 m x y) k
  have la2 : ∀ c ∈ ([] : List Int32), ¬ c < 0 ∧ ¬ (255 : Int32) < c := fun c hc => nomatch hc
  have cd2 : StrChars.Road.CodA ([] : List Int32) 0 (0 : Int32) [] := StrChars.Road.codOf (n := 0) rfl (fun x hx => (la2 x hx).2)
  have bd2 := own_up la2
  obtain ⟨cq1, kq1, q1a, q1b, q1c⟩ := isOf hZ e0 E_x
  obtain ⟨_, _, ⟨T1, L1, k1, n1⟩, -, X1, ⟨Lc1, hQ1, l1, y1, z1⟩, st1⟩ := X0.virtualBack hx (y := (⟨"java/lang/String", "length", "()I"⟩ : MethodName)) (z := (⟨"java/lang/String", "length", "()I"⟩ : MethodName)) hown (mvT hZ (own_w hw 63 rfl)) (mvT hZ (own_w hw 64 rfl)) (notFace_of_selects (args := #[]) (mvT hZ (own_w hw 66 rfl))) (mvT hZ (own_w hw 66 rfl)) (mvT hZ (own_w hw 65 rfl)) (by decide) (StrChars.Road.lenW (W := 0) hZ hwl (kI := 4) (own_w hw 6 rfl) (cs := []) E_x V_x C_x K_x cd2 bd2 (S_C.ext O0.2) hzc (by show 0 ≤ 4000; decide) (by decide) (by decide)) q1a q1c (g := (mkF m 1 #[.val (.ref x), .val (.ref y)] [(.ref x)])) rfl (by rw [hml]; rfl) (Steps.refl _) (argsL := []) (rest := []) (lenOf pd_9 rfl) rfl (by show 2 * 0 + _ ≤ _; exact Nat.le_of_eq rfl) (hb hby d11_1) (fun _ _ => ⟨rfl, e0, (by decide : 0 + 0 ≤ _), (by decide : 0 + 0 ≤ _)⟩)
  dsimp only [Pt.U, Pt.locs, Pt.cells, Pt.slots] at X1 l1 y1 z1 st1 hQ1
  subst l1 y1 z1
  obtain ⟨rfl, rfl, k3⟩ := hQ1
  have N4 := Fr.app N0 (Fr.nil n0)
  have la6 : ∀ c ∈ ([d0, d1] : List Int32), ¬ c < 0 ∧ ¬ (255 : Int32) < c := by
    intro c hc
    simp only [List.mem_cons, List.not_mem_nil, or_false] at hc
    rcases hc with rfl | rfl
    · exact la_d0
    · exact la_d1
  have cd6 : StrChars.Road.CodA ([d0, d1] : List Int32) 0 (2 : Int32) [(.int d0.toInt8.toInt32), (.int d1.toInt8.toInt32)] := StrChars.Road.codOf (n := 2) rfl (fun x hx => (la6 x hx).2)
  have bd6 := own_up la6
  obtain ⟨cq5, kq5, q5a, q5b, q5c⟩ := isOf hZ k3 E_y
  obtain ⟨_, _, ⟨T5, L5, k5, n5⟩, -, X5, ⟨Lc5, hQ5, l5, y5, z5⟩, st5⟩ := X1.virtualBack hx (y := (⟨"java/lang/String", "length", "()I"⟩ : MethodName)) (z := (⟨"java/lang/String", "length", "()I"⟩ : MethodName)) hown (mvT hZ (own_w hw 63 rfl)) (mvT hZ (own_w hw 64 rfl)) (notFace_of_selects (args := #[]) (mvT hZ (own_w hw 66 rfl))) (mvT hZ (own_w hw 66 rfl)) (mvT hZ (own_w hw 65 rfl)) (by decide) (StrChars.Road.lenW (W := 1) hZ hwl (kI := 4) (own_w hw 6 rfl) (cs := [d0, d1]) E_y V_y C_y K_y cd6 bd6 (S_C.ext O0.2) hzc (by show 2 ≤ 4000; decide) (by decide) (by decide)) q5a q5c (g := (mkF m 5 #[.val (.ref x), .val (.ref y)] [(.ref y), (.int (0 : Int32))])) rfl (by rw [hml]; rfl) (Steps.refl _) (argsL := []) (rest := [(.int (0 : Int32))]) (lenOf pd_9 rfl) rfl (by show 2 * 0 + _ ≤ _; exact Nat.le_of_eq rfl) (hb hby d11_5) (fun _ _ => ⟨rfl, k3, (by decide : 0 + 0 ≤ _), (by decide : 0 + 0 ≤ _)⟩)
  dsimp only [Pt.U, Pt.locs, Pt.cells, Pt.slots] at X5 l5 y5 z5 st5 hQ5
  subst l5 y5 z5
  obtain ⟨rfl, rfl, k7⟩ := hQ5
  have N8 := Fr.app N4 (Fr.nil n0)
  have S9 : ∀ t, Steps p.tables e below (T5.setTop (mkF m 12 #[.val (.ref x), .val (.ref y)] [(.int (0 : Int32))])) t → Steps p.tables e below (s₁.setTop (mkF m 0 #[.val (.ref x), .val (.ref y)] [])) t := by
    intro t kt
    refine XS.aloadN X0.here hx rfl (hb hby d11_0) rfl rfl ?_
    show Steps p.tables e below (s₁.setTop (mkF m 1 #[.val (.ref x), .val (.ref y)] [(.ref x)])) _
    refine st1.trans ?_
    refine XS.aloadN X1.here hx rfl (hb hby d11_4) rfl rfl ?_
    show Steps p.tables e below (T1.setTop (mkF m 5 #[.val (.ref x), .val (.ref y)] [(.ref y), (.int (0 : Int32))])) _
    refine st5.trans ?_
    refine XS.icmpNo X5.here hx rfl (hb hby d11_8) rfl (feq ((by decide) : ¬ ((0 : Int32) = (2 : Int32)))).1 ?_
    refine XS.iconst X5.here hx rfl (hb hby d11_11) ?_
    exact kt
  obtain ⟨fs, hr, hrun, hended, hW, hsame⟩ := X5.leave (v := some (.int (0 : Int32))) (fun h => by rw [Bd.returns] at h; cases h)
  refine ⟨_, _, pre0 _ (S9 _ ?_), hrun, hended, _, _, rfl, ?_, ⟨_, rfl⟩, hW, hsame.mono (by decide) (by decide)⟩
  · exact retN X5 hx (t := .boolean) Bd.returns (by simp) (hb hby d11_12) hr
  · show Q_rm_same02 Z x tx kx y ty ky d0 d1 zc fm h0 n0 _ T5.heap _
    rw [k7]
    exact ⟨(congrArg (fun z => some (Value.int z)) (if_neg (fun q => by have := congrArg List.length q; simp at this)).symm), N8, rfl⟩
theorem ef_rm_same10 (m : MethodId) (x0 : Addr) (x1 : Addr) : entryFrame m #[(.ref x0), (.ref x1)] 2 = mkF m 0 #[.val (.ref x0), .val (.ref x1)] [] := by first | (simp [entryFrame, mkF, argsToLocals, Value.category]; done) | rfl
def Q_rm_same10 (Z : State) (x : Addr) (tx : Addr) (kx : ClassId) (y : Addr) (ty : Addr) (ky : ClassId) (c0 : Int32) (zc : Int32) (fm : Value) (h0 : Heap) (n0 : Nat) (v : Option Value) (h : Heap) (L : List Loc) : Prop := ((v = some (.int (own_eqI ([c0] : List Int32) []))) ∧ (Fr n0 L) ∧ (h = h0))
set_option maxRecDepth 65536 in
set_option maxHeartbeats 40000000 in
theorem rm_same10 (l : Launch) (Z : State) (a0 : Array Value) (hw : ∀ d ∈ tables_1, d.before a0 Z = true) (ws : List Jvm.Cond) (x : Addr) (tx : Addr) (kx : ClassId) (y : Addr) (ty : Addr) (ky : ClassId) (c0 : Int32) (zc : Int32) (fm : Value) (h0 : Heap) (n0 : Nat) (O0 : Old Z n0 h0) (E_x : Exa Z h0 x "java/lang/String") (V_x : Fld Z h0 x "java/lang/String" "value" "[B" (.ref tx)) (C_x : Fld Z h0 x "java/lang/String" "coder" "B" (.int (0 : Int32))) (K_x : Arv Z h0 tx kx .byte (1 : Int32) [(.int c0.toInt8.toInt32)] (.int (0 : Int32))) (E_y : Exa Z h0 y "java/lang/String") (V_y : Fld Z h0 y "java/lang/String" "value" "[B" (.ref ty)) (C_y : Fld Z h0 y "java/lang/String" "coder" "B" (.int (0 : Int32))) (K_y : Arv Z h0 ty ky .byte (0 : Int32) [] (.int (0 : Int32))) (la_c0 : ¬ (c0 < (0 : Int32)) ∧ ¬ ((255 : Int32) < c0)) (S_C : Sta Z Z.heap "java/lang/String" "COMPACT_STRINGS" "Z" (.int zc)) (hzc : ¬ (zc = (0 : Int32))) (S_F : Sta Z Z.heap "jdk/internal/util/Preconditions" "SIOOBE_FORMATTER" "Ljava/util/function/BiFunction;" fm) (hfm : fm.isRef = true) :
    MetFree l (⟨"com/example/typecheck/typecheck/model/QNameEqualsPinLaw", "same", "(Ljava/lang/String;Ljava/lang/String;)Z"⟩ : MethodName) (head1 (Jvm.Cond.code (⟨"com/example/typecheck/typecheck/model/QNameEqualsPinLaw", "same", "(Ljava/lang/String;Ljava/lang/String;)Z"⟩ : MethodName) method_3_code 2 (some .boolean) :: ws) ({ frames := 5, cells := 0, slots := 0, locals := 70 } : Room)) (fun a U => a = #[(.ref x), (.ref y)] ∧ Z.Warmed39 U.vm ∧ U.heap = h0) (fun _ _ _ _ _ => True) (fun _ U o U' => ∃ v L, o = .returned v ∧ Q_rm_same10 Z x tx kx y ty ky c0 zc fm h0 n0 v U'.heap L ∧ FrameEnd U o U' L ({ frames := 5, cells := 0, slots := 0, locals := 70 } : Room).cells ({ frames := 5, cells := 0, slots := 0, locals := 70 } : Room).slots) := by
  refine MetFree.of_bodySF (plainFor_of_name pn_2) hisR ?_
  intro p e s m args below meth c s₁ Bd hml0 hP hK
  obtain ⟨rfl, hZ, hh⟩ := hP
  have hx := Bd.exec
  have hby := Bd.bytes
  have hml : c.maxLocals = 2 := hml0
  have hown : s.vm.findClass "com/example/typecheck/typecheck/model/QNameEqualsPinLaw" = some m.cls := findClass_of_methodNamed Bd.named
  have hnm := (name_of_methodNamed Bd.named Bd.method).1
  have X0 : Stand p l e ({ frames := 5, cells := 0, slots := 0, locals := 70 } : Room) s m #[(.ref x), (.ref y)] below meth c s₁ [] 0 0 := Stand.of_body Bd
  have e0 : s₁.heap = h0 := by rw [← hh, Bd.state]; rfl
  have N0 := Fr.nil n0
  have hwl : ∀ d ∈ StrChars.Road.wordsLen, d.before a0 Z = true := fun d hd => hw d (own_wordsLen d hd)
  have hwc : ∀ d ∈ StrChars.Road.wordsChN, d.before a0 Z = true := fun d hd => hw d (own_wordsChN d hd)
  have hwq : ∀ d ∈ StrChars.Road.wordsEq, d.before a0 Z = true := fun d hd => hw d (own_wordsEq d hd)
  have pre0 : ∀ t, Steps p.tables e below (s₁.setTop (mkF m 0 #[.val (.ref x), .val (.ref y)] [])) t → Steps p.tables e below (s₁.setTop (entryFrame m #[(.ref x), (.ref y)] 2)) t := fun t k => castTop (ef_rm_same10 m x y) k
  have la2 : ∀ c ∈ ([c0] : List Int32), ¬ c < 0 ∧ ¬ (255 : Int32) < c := by
    intro c hc
    simp only [List.mem_cons, List.not_mem_nil, or_false] at hc
    rcases hc with rfl
    · exact la_c0
  have cd2 : StrChars.Road.CodA ([c0] : List Int32) 0 (1 : Int32) [(.int c0.toInt8.toInt32)] := StrChars.Road.codOf (n := 1) rfl (fun x hx => (la2 x hx).2)
  have bd2 := own_up la2
  obtain ⟨cq1, kq1, q1a, q1b, q1c⟩ := isOf hZ e0 E_x
  obtain ⟨_, _, ⟨T1, L1, k1, n1⟩, -, X1, ⟨Lc1, hQ1, l1, y1, z1⟩, st1⟩ := X0.virtualBack hx (y := (⟨"java/lang/String", "length", "()I"⟩ : MethodName)) (z := (⟨"java/lang/String", "length", "()I"⟩ : MethodName)) hown (mvT hZ (own_w hw 63 rfl)) (mvT hZ (own_w hw 64 rfl)) (notFace_of_selects (args := #[]) (mvT hZ (own_w hw 66 rfl))) (mvT hZ (own_w hw 66 rfl)) (mvT hZ (own_w hw 65 rfl)) (by decide) (StrChars.Road.lenW (W := 0) hZ hwl (kI := 4) (own_w hw 6 rfl) (cs := [c0]) E_x V_x C_x K_x cd2 bd2 (S_C.ext O0.2) hzc (by show 1 ≤ 4000; decide) (by decide) (by decide)) q1a q1c (g := (mkF m 1 #[.val (.ref x), .val (.ref y)] [(.ref x)])) rfl (by rw [hml]; rfl) (Steps.refl _) (argsL := []) (rest := []) (lenOf pd_9 rfl) rfl (by show 2 * 0 + _ ≤ _; exact Nat.le_of_eq rfl) (hb hby d11_1) (fun _ _ => ⟨rfl, e0, (by decide : 0 + 0 ≤ _), (by decide : 0 + 0 ≤ _)⟩)
  dsimp only [Pt.U, Pt.locs, Pt.cells, Pt.slots] at X1 l1 y1 z1 st1 hQ1
  subst l1 y1 z1
  obtain ⟨rfl, rfl, k3⟩ := hQ1
  have N4 := Fr.app N0 (Fr.nil n0)
  have la6 : ∀ c ∈ ([] : List Int32), ¬ c < 0 ∧ ¬ (255 : Int32) < c := fun c hc => nomatch hc
  have cd6 : StrChars.Road.CodA ([] : List Int32) 0 (0 : Int32) [] := StrChars.Road.codOf (n := 0) rfl (fun x hx => (la6 x hx).2)
  have bd6 := own_up la6
  obtain ⟨cq5, kq5, q5a, q5b, q5c⟩ := isOf hZ k3 E_y
  obtain ⟨_, _, ⟨T5, L5, k5, n5⟩, -, X5, ⟨Lc5, hQ5, l5, y5, z5⟩, st5⟩ := X1.virtualBack hx (y := (⟨"java/lang/String", "length", "()I"⟩ : MethodName)) (z := (⟨"java/lang/String", "length", "()I"⟩ : MethodName)) hown (mvT hZ (own_w hw 63 rfl)) (mvT hZ (own_w hw 64 rfl)) (notFace_of_selects (args := #[]) (mvT hZ (own_w hw 66 rfl))) (mvT hZ (own_w hw 66 rfl)) (mvT hZ (own_w hw 65 rfl)) (by decide) (StrChars.Road.lenW (W := 1) hZ hwl (kI := 4) (own_w hw 6 rfl) (cs := []) E_y V_y C_y K_y cd6 bd6 (S_C.ext O0.2) hzc (by show 0 ≤ 4000; decide) (by decide) (by decide)) q5a q5c (g := (mkF m 5 #[.val (.ref x), .val (.ref y)] [(.ref y), (.int (1 : Int32))])) rfl (by rw [hml]; rfl) (Steps.refl _) (argsL := []) (rest := [(.int (1 : Int32))]) (lenOf pd_9 rfl) rfl (by show 2 * 0 + _ ≤ _; exact Nat.le_of_eq rfl) (hb hby d11_5) (fun _ _ => ⟨rfl, k3, (by decide : 0 + 0 ≤ _), (by decide : 0 + 0 ≤ _)⟩)
  dsimp only [Pt.U, Pt.locs, Pt.cells, Pt.slots] at X5 l5 y5 z5 st5 hQ5
  subst l5 y5 z5
  obtain ⟨rfl, rfl, k7⟩ := hQ5
  have N8 := Fr.app N4 (Fr.nil n0)
  have S9 : ∀ t, Steps p.tables e below (T5.setTop (mkF m 12 #[.val (.ref x), .val (.ref y)] [(.int (0 : Int32))])) t → Steps p.tables e below (s₁.setTop (mkF m 0 #[.val (.ref x), .val (.ref y)] [])) t := by
    intro t kt
    refine XS.aloadN X0.here hx rfl (hb hby d11_0) rfl rfl ?_
    show Steps p.tables e below (s₁.setTop (mkF m 1 #[.val (.ref x), .val (.ref y)] [(.ref x)])) _
    refine st1.trans ?_
    refine XS.aloadN X1.here hx rfl (hb hby d11_4) rfl rfl ?_
    show Steps p.tables e below (T1.setTop (mkF m 5 #[.val (.ref x), .val (.ref y)] [(.ref y), (.int (1 : Int32))])) _
    refine st5.trans ?_
    refine XS.icmpNo X5.here hx rfl (hb hby d11_8) rfl (feq ((by decide) : ¬ ((1 : Int32) = (0 : Int32)))).1 ?_
    refine XS.iconst X5.here hx rfl (hb hby d11_11) ?_
    exact kt
  obtain ⟨fs, hr, hrun, hended, hW, hsame⟩ := X5.leave (v := some (.int (0 : Int32))) (fun h => by rw [Bd.returns] at h; cases h)
  refine ⟨_, _, pre0 _ (S9 _ ?_), hrun, hended, _, _, rfl, ?_, ⟨_, rfl⟩, hW, hsame.mono (by decide) (by decide)⟩
  · exact retN X5 hx (t := .boolean) Bd.returns (by simp) (hb hby d11_12) hr
  · show Q_rm_same10 Z x tx kx y ty ky c0 zc fm h0 n0 _ T5.heap _
    rw [k7]
    exact ⟨(congrArg (fun z => some (Value.int z)) (if_neg (fun q => by have := congrArg List.length q; simp at this)).symm), N8, rfl⟩
theorem d11_21 : decode method_3_code 21 = .ok (.aload_n 0, 1) := by decide +kernel
theorem d11_22 : decode method_3_code 22 = .ok (.iconst 0, 1) := by decide +kernel
theorem d11_23 : decode method_3_code 23 = .ok (.invokevirtual 16, 3) := by decide +kernel
theorem pd_10 : parseMethodDescriptor "(I)C" = some ⟨[.int], some .char⟩ := by decide +kernel
theorem d11_26 : decode method_3_code 26 = .ok (.aload_n 1, 1) := by decide +kernel
theorem d11_27 : decode method_3_code 27 = .ok (.iconst 0, 1) := by decide +kernel
theorem d11_28 : decode method_3_code 28 = .ok (.invokevirtual 16, 3) := by decide +kernel
theorem d11_31 : decode method_3_code 31 = .ok (.if_icmp .eq 5, 3) := by decide +kernel
theorem d11_34 : decode method_3_code 34 = .ok (.iconst 0, 1) := by decide +kernel
theorem d11_35 : decode method_3_code 35 = .ok (.ireturn, 1) := by decide +kernel
theorem ef_rm_same11 (m : MethodId) (x0 : Addr) (x1 : Addr) : entryFrame m #[(.ref x0), (.ref x1)] 2 = mkF m 0 #[.val (.ref x0), .val (.ref x1)] [] := by first | (simp [entryFrame, mkF, argsToLocals, Value.category]; done) | rfl
def Q_rm_same11 (Z : State) (x : Addr) (tx : Addr) (kx : ClassId) (y : Addr) (ty : Addr) (ky : ClassId) (c0 : Int32) (d0 : Int32) (zc : Int32) (fm : Value) (h0 : Heap) (n0 : Nat) (v : Option Value) (h : Heap) (L : List Loc) : Prop := ((v = some (.int (own_eqI ([c0] : List Int32) [d0]))) ∧ (Fr n0 L) ∧ (h = h0))
set_option maxRecDepth 65536 in
set_option maxHeartbeats 40000000 in
theorem rm_same11 (l : Launch) (Z : State) (a0 : Array Value) (hw : ∀ d ∈ tables_1, d.before a0 Z = true) (ws : List Jvm.Cond) (x : Addr) (tx : Addr) (kx : ClassId) (y : Addr) (ty : Addr) (ky : ClassId) (c0 : Int32) (d0 : Int32) (zc : Int32) (fm : Value) (h0 : Heap) (n0 : Nat) (O0 : Old Z n0 h0) (E_x : Exa Z h0 x "java/lang/String") (V_x : Fld Z h0 x "java/lang/String" "value" "[B" (.ref tx)) (C_x : Fld Z h0 x "java/lang/String" "coder" "B" (.int (0 : Int32))) (K_x : Arv Z h0 tx kx .byte (1 : Int32) [(.int c0.toInt8.toInt32)] (.int (0 : Int32))) (E_y : Exa Z h0 y "java/lang/String") (V_y : Fld Z h0 y "java/lang/String" "value" "[B" (.ref ty)) (C_y : Fld Z h0 y "java/lang/String" "coder" "B" (.int (0 : Int32))) (K_y : Arv Z h0 ty ky .byte (1 : Int32) [(.int d0.toInt8.toInt32)] (.int (0 : Int32))) (la_c0 : ¬ (c0 < (0 : Int32)) ∧ ¬ ((255 : Int32) < c0)) (la_d0 : ¬ (d0 < (0 : Int32)) ∧ ¬ ((255 : Int32) < d0)) (S_C : Sta Z Z.heap "java/lang/String" "COMPACT_STRINGS" "Z" (.int zc)) (hzc : ¬ (zc = (0 : Int32))) (S_F : Sta Z Z.heap "jdk/internal/util/Preconditions" "SIOOBE_FORMATTER" "Ljava/util/function/BiFunction;" fm) (hfm : fm.isRef = true) :
    MetFree l (⟨"com/example/typecheck/typecheck/model/QNameEqualsPinLaw", "same", "(Ljava/lang/String;Ljava/lang/String;)Z"⟩ : MethodName) (head1 (Jvm.Cond.code (⟨"com/example/typecheck/typecheck/model/QNameEqualsPinLaw", "same", "(Ljava/lang/String;Ljava/lang/String;)Z"⟩ : MethodName) method_3_code 2 (some .boolean) :: ws) ({ frames := 5, cells := 0, slots := 0, locals := 70 } : Room)) (fun a U => a = #[(.ref x), (.ref y)] ∧ Z.Warmed39 U.vm ∧ U.heap = h0) (fun _ _ _ _ _ => True) (fun _ U o U' => ∃ v L, o = .returned v ∧ Q_rm_same11 Z x tx kx y ty ky c0 d0 zc fm h0 n0 v U'.heap L ∧ FrameEnd U o U' L ({ frames := 5, cells := 0, slots := 0, locals := 70 } : Room).cells ({ frames := 5, cells := 0, slots := 0, locals := 70 } : Room).slots) := by
  refine MetFree.of_bodySF (plainFor_of_name pn_2) hisR ?_
  intro p e s m args below meth c s₁ Bd hml0 hP hK
  obtain ⟨rfl, hZ, hh⟩ := hP
  have hx := Bd.exec
  have hby := Bd.bytes
  have hml : c.maxLocals = 2 := hml0
  have hown : s.vm.findClass "com/example/typecheck/typecheck/model/QNameEqualsPinLaw" = some m.cls := findClass_of_methodNamed Bd.named
  have hnm := (name_of_methodNamed Bd.named Bd.method).1
  have X0 : Stand p l e ({ frames := 5, cells := 0, slots := 0, locals := 70 } : Room) s m #[(.ref x), (.ref y)] below meth c s₁ [] 0 0 := Stand.of_body Bd
  have e0 : s₁.heap = h0 := by rw [← hh, Bd.state]; rfl
  have N0 := Fr.nil n0
  have hwl : ∀ d ∈ StrChars.Road.wordsLen, d.before a0 Z = true := fun d hd => hw d (own_wordsLen d hd)
  have hwc : ∀ d ∈ StrChars.Road.wordsChN, d.before a0 Z = true := fun d hd => hw d (own_wordsChN d hd)
  have hwq : ∀ d ∈ StrChars.Road.wordsEq, d.before a0 Z = true := fun d hd => hw d (own_wordsEq d hd)
  have pre0 : ∀ t, Steps p.tables e below (s₁.setTop (mkF m 0 #[.val (.ref x), .val (.ref y)] [])) t → Steps p.tables e below (s₁.setTop (entryFrame m #[(.ref x), (.ref y)] 2)) t := fun t k => castTop (ef_rm_same11 m x y) k
  have la2 : ∀ c ∈ ([c0] : List Int32), ¬ c < 0 ∧ ¬ (255 : Int32) < c := by
    intro c hc
    simp only [List.mem_cons, List.not_mem_nil, or_false] at hc
    rcases hc with rfl
    · exact la_c0
  have cd2 : StrChars.Road.CodA ([c0] : List Int32) 0 (1 : Int32) [(.int c0.toInt8.toInt32)] := StrChars.Road.codOf (n := 1) rfl (fun x hx => (la2 x hx).2)
  have bd2 := own_up la2
  obtain ⟨cq1, kq1, q1a, q1b, q1c⟩ := isOf hZ e0 E_x
  obtain ⟨_, _, ⟨T1, L1, k1, n1⟩, -, X1, ⟨Lc1, hQ1, l1, y1, z1⟩, st1⟩ := X0.virtualBack hx (y := (⟨"java/lang/String", "length", "()I"⟩ : MethodName)) (z := (⟨"java/lang/String", "length", "()I"⟩ : MethodName)) hown (mvT hZ (own_w hw 63 rfl)) (mvT hZ (own_w hw 64 rfl)) (notFace_of_selects (args := #[]) (mvT hZ (own_w hw 66 rfl))) (mvT hZ (own_w hw 66 rfl)) (mvT hZ (own_w hw 65 rfl)) (by decide) (StrChars.Road.lenW (W := 0) hZ hwl (kI := 4) (own_w hw 6 rfl) (cs := [c0]) E_x V_x C_x K_x cd2 bd2 (S_C.ext O0.2) hzc (by show 1 ≤ 4000; decide) (by decide) (by decide)) q1a q1c (g := (mkF m 1 #[.val (.ref x), .val (.ref y)] [(.ref x)])) rfl (by rw [hml]; rfl) (Steps.refl _) (argsL := []) (rest := []) (lenOf pd_9 rfl) rfl (by show 2 * 0 + _ ≤ _; exact Nat.le_of_eq rfl) (hb hby d11_1) (fun _ _ => ⟨rfl, e0, (by decide : 0 + 0 ≤ _), (by decide : 0 + 0 ≤ _)⟩)
  dsimp only [Pt.U, Pt.locs, Pt.cells, Pt.slots] at X1 l1 y1 z1 st1 hQ1
  subst l1 y1 z1
  obtain ⟨rfl, rfl, k3⟩ := hQ1
  have N4 := Fr.app N0 (Fr.nil n0)
  have la6 : ∀ c ∈ ([d0] : List Int32), ¬ c < 0 ∧ ¬ (255 : Int32) < c := by
    intro c hc
    simp only [List.mem_cons, List.not_mem_nil, or_false] at hc
    rcases hc with rfl
    · exact la_d0
  have cd6 : StrChars.Road.CodA ([d0] : List Int32) 0 (1 : Int32) [(.int d0.toInt8.toInt32)] := StrChars.Road.codOf (n := 1) rfl (fun x hx => (la6 x hx).2)
  have bd6 := own_up la6
  obtain ⟨cq5, kq5, q5a, q5b, q5c⟩ := isOf hZ k3 E_y
  obtain ⟨_, _, ⟨T5, L5, k5, n5⟩, -, X5, ⟨Lc5, hQ5, l5, y5, z5⟩, st5⟩ := X1.virtualBack hx (y := (⟨"java/lang/String", "length", "()I"⟩ : MethodName)) (z := (⟨"java/lang/String", "length", "()I"⟩ : MethodName)) hown (mvT hZ (own_w hw 63 rfl)) (mvT hZ (own_w hw 64 rfl)) (notFace_of_selects (args := #[]) (mvT hZ (own_w hw 66 rfl))) (mvT hZ (own_w hw 66 rfl)) (mvT hZ (own_w hw 65 rfl)) (by decide) (StrChars.Road.lenW (W := 1) hZ hwl (kI := 4) (own_w hw 6 rfl) (cs := [d0]) E_y V_y C_y K_y cd6 bd6 (S_C.ext O0.2) hzc (by show 1 ≤ 4000; decide) (by decide) (by decide)) q5a q5c (g := (mkF m 5 #[.val (.ref x), .val (.ref y)] [(.ref y), (.int (1 : Int32))])) rfl (by rw [hml]; rfl) (Steps.refl _) (argsL := []) (rest := [(.int (1 : Int32))]) (lenOf pd_9 rfl) rfl (by show 2 * 0 + _ ≤ _; exact Nat.le_of_eq rfl) (hb hby d11_5) (fun _ _ => ⟨rfl, k3, (by decide : 0 + 0 ≤ _), (by decide : 0 + 0 ≤ _)⟩)
  dsimp only [Pt.U, Pt.locs, Pt.cells, Pt.slots] at X5 l5 y5 z5 st5 hQ5
  subst l5 y5 z5
  obtain ⟨rfl, rfl, k7⟩ := hQ5
  have N8 := Fr.app N4 (Fr.nil n0)
  obtain ⟨cq9, kq9, q9a, q9b, q9c⟩ := isOf hZ k7 E_x
  obtain ⟨_, _, ⟨T9, L9, k9, n9⟩, -, X9, ⟨Lc9, hQ9, l9, y9, z9⟩, st9⟩ := X5.virtualBack hx (y := (⟨"java/lang/String", "length", "()I"⟩ : MethodName)) (z := (⟨"java/lang/String", "length", "()I"⟩ : MethodName)) hown (mvT hZ (own_w hw 63 rfl)) (mvT hZ (own_w hw 64 rfl)) (notFace_of_selects (args := #[]) (mvT hZ (own_w hw 66 rfl))) (mvT hZ (own_w hw 66 rfl)) (mvT hZ (own_w hw 65 rfl)) (by decide) (StrChars.Road.lenW (W := 0) hZ hwl (kI := 4) (own_w hw 6 rfl) (cs := [c0]) E_x V_x C_x K_x cd2 bd2 (S_C.ext O0.2) hzc (by show 1 ≤ 4000; decide) (by decide) (by decide)) q9a q9c (g := (mkF m 14 #[.val (.ref x), .val (.ref y)] [(.ref x)])) rfl (by rw [hml]; rfl) (Steps.refl _) (argsL := []) (rest := []) (lenOf pd_9 rfl) rfl (by show 2 * 0 + _ ≤ _; exact Nat.le_of_eq rfl) (hb hby d11_14) (fun _ _ => ⟨rfl, k7, (by decide : 0 + 0 ≤ _), (by decide : 0 + 0 ≤ _)⟩)
  dsimp only [Pt.U, Pt.locs, Pt.cells, Pt.slots] at X9 l9 y9 z9 st9 hQ9
  subst l9 y9 z9
  obtain ⟨rfl, rfl, k10⟩ := hQ9
  have N11 := Fr.app N8 (Fr.nil n0)
  obtain ⟨cq12, kq12, q12a, q12b, q12c⟩ := isOf hZ k10 E_x
  obtain ⟨_, _, ⟨T12, L12, k12, n12⟩, -, X12, ⟨Lc12, hQ12, l12, y12, z12⟩, st12⟩ := X9.virtualBack hx (y := (⟨"java/lang/String", "charAt", "(I)C"⟩ : MethodName)) (z := (⟨"java/lang/String", "charAt", "(I)C"⟩ : MethodName)) hown (mvT hZ (own_w hw 108 rfl)) (mvT hZ (own_w hw 109 rfl)) (notFace_of_selects (args := #[]) (mvT hZ (own_w hw 111 rfl))) (mvT hZ (own_w hw 111 rfl)) (mvT hZ (own_w hw 110 rfl)) (by decide) (StrChars.Road.chN (W := 0) hZ hwc (kI := 4) (own_w hw 6 rfl) (cs := [c0]) (i := 0) (j := (0 : Int32)) E_x V_x C_x K_x cd2 bd2 (S_C.ext O0.2) hzc (S_F.ext O0.2) hfm (by show 1 ≤ 4000; decide) (by show 0 < 1; decide) rfl (by decide) (by decide)) q12a q12c (g := (mkF m 23 #[.val (.ref x), .val (.ref y)] [(.int (0 : Int32)), (.ref x)])) rfl (by rw [hml]; rfl) (Steps.refl _) (argsL := [(.int (0 : Int32))]) (rest := []) (lenOf pd_10 rfl) rfl (by show 2 * 0 + _ ≤ _; exact Nat.le_of_eq rfl) (hb hby d11_23) (fun _ _ => ⟨rfl, k10, (by decide : 0 + 0 ≤ _), (by decide : 0 + 0 ≤ _)⟩)
  dsimp only [Pt.U, Pt.locs, Pt.cells, Pt.slots] at X12 l12 y12 z12 st12 hQ12
  subst l12 y12 z12
  obtain ⟨rfl, rfl, k13⟩ := hQ12
  have N14 := Fr.app N11 (Fr.nil n0)
  obtain ⟨cq15, kq15, q15a, q15b, q15c⟩ := isOf hZ k13 E_y
  obtain ⟨_, _, ⟨T15, L15, k15, n15⟩, -, X15, ⟨Lc15, hQ15, l15, y15, z15⟩, st15⟩ := X12.virtualBack hx (y := (⟨"java/lang/String", "charAt", "(I)C"⟩ : MethodName)) (z := (⟨"java/lang/String", "charAt", "(I)C"⟩ : MethodName)) hown (mvT hZ (own_w hw 108 rfl)) (mvT hZ (own_w hw 109 rfl)) (notFace_of_selects (args := #[]) (mvT hZ (own_w hw 111 rfl))) (mvT hZ (own_w hw 111 rfl)) (mvT hZ (own_w hw 110 rfl)) (by decide) (StrChars.Road.chN (W := 1) hZ hwc (kI := 4) (own_w hw 6 rfl) (cs := [d0]) (i := 0) (j := (0 : Int32)) E_y V_y C_y K_y cd6 bd6 (S_C.ext O0.2) hzc (S_F.ext O0.2) hfm (by show 1 ≤ 4000; decide) (by show 0 < 1; decide) rfl (by decide) (by decide)) q15a q15c (g := (mkF m 28 #[.val (.ref x), .val (.ref y)] [(.int (0 : Int32)), (.ref y), (.int c0)])) rfl (by rw [hml]; rfl) (Steps.refl _) (argsL := [(.int (0 : Int32))]) (rest := [(.int c0)]) (lenOf pd_10 rfl) rfl (by show 2 * 0 + _ ≤ _; exact Nat.le_of_eq rfl) (hb hby d11_28) (fun _ _ => ⟨rfl, k13, (by decide : 0 + 0 ≤ _), (by decide : 0 + 0 ≤ _)⟩)
  dsimp only [Pt.U, Pt.locs, Pt.cells, Pt.slots] at X15 l15 y15 z15 st15 hQ15
  subst l15 y15 z15
  obtain ⟨rfl, rfl, k16⟩ := hQ15
  have N17 := Fr.app N14 (Fr.nil n0)
  have S18 : ∀ t, Steps p.tables e below (T15.setTop (mkF m 31 #[.val (.ref x), .val (.ref y)] [(.int d0), (.int c0)])) t → Steps p.tables e below (s₁.setTop (mkF m 0 #[.val (.ref x), .val (.ref y)] [])) t := by
    intro t kt
    refine XS.aloadN X0.here hx rfl (hb hby d11_0) rfl rfl ?_
    show Steps p.tables e below (s₁.setTop (mkF m 1 #[.val (.ref x), .val (.ref y)] [(.ref x)])) _
    refine st1.trans ?_
    refine XS.aloadN X1.here hx rfl (hb hby d11_4) rfl rfl ?_
    show Steps p.tables e below (T1.setTop (mkF m 5 #[.val (.ref x), .val (.ref y)] [(.ref y), (.int (1 : Int32))])) _
    refine st5.trans ?_
    refine XS.icmpYes X5.here hx rfl (pc0 := 8) (pc' := 13) rfl (hb hby d11_8) rfl (teq ((by decide) : (1 : Int32) = (1 : Int32))).1 (by decide) (by decide) ?_
    refine XS.aloadN X5.here hx rfl (hb hby d11_13) rfl rfl ?_
    show Steps p.tables e below (T5.setTop (mkF m 14 #[.val (.ref x), .val (.ref y)] [(.ref x)])) _
    refine st9.trans ?_
    refine XS.iconst X9.here hx rfl (hb hby d11_17) ?_
    refine XS.icmpNo X9.here hx rfl (hb hby d11_18) rfl (flt ((by decide) : ¬ ((1 : Int32) < (1 : Int32)))).1 ?_
    refine XS.aloadN X9.here hx rfl (hb hby d11_21) rfl rfl ?_
    refine XS.iconst X9.here hx rfl (hb hby d11_22) ?_
    show Steps p.tables e below (T9.setTop (mkF m 23 #[.val (.ref x), .val (.ref y)] [(.int (0 : Int32)), (.ref x)])) _
    refine st12.trans ?_
    refine XS.aloadN X12.here hx rfl (hb hby d11_26) rfl rfl ?_
    refine XS.iconst X12.here hx rfl (hb hby d11_27) ?_
    show Steps p.tables e below (T12.setTop (mkF m 28 #[.val (.ref x), .val (.ref y)] [(.int (0 : Int32)), (.ref y), (.int c0)])) _
    refine st15.trans ?_
    exact kt
  rcases Decidable.em (c0 = d0) with c19 | c19
  · obtain ⟨cq20, kq20, q20a, q20b, q20c⟩ := isOf hZ k16 E_x
    obtain ⟨_, _, ⟨T20, L20, k20, n20⟩, -, X20, ⟨Lc20, hQ20, l20, y20, z20⟩, st20⟩ := X15.virtualBack hx (y := (⟨"java/lang/String", "length", "()I"⟩ : MethodName)) (z := (⟨"java/lang/String", "length", "()I"⟩ : MethodName)) hown (mvT hZ (own_w hw 63 rfl)) (mvT hZ (own_w hw 64 rfl)) (notFace_of_selects (args := #[]) (mvT hZ (own_w hw 66 rfl))) (mvT hZ (own_w hw 66 rfl)) (mvT hZ (own_w hw 65 rfl)) (by decide) (StrChars.Road.lenW (W := 0) hZ hwl (kI := 4) (own_w hw 6 rfl) (cs := [c0]) E_x V_x C_x K_x cd2 bd2 (S_C.ext O0.2) hzc (by show 1 ≤ 4000; decide) (by decide) (by decide)) q20a q20c (g := (mkF m 37 #[.val (.ref x), .val (.ref y)] [(.ref x)])) rfl (by rw [hml]; rfl) (Steps.refl _) (argsL := []) (rest := []) (lenOf pd_9 rfl) rfl (by show 2 * 0 + _ ≤ _; exact Nat.le_of_eq rfl) (hb hby d11_37) (fun _ _ => ⟨rfl, k16, (by decide : 0 + 0 ≤ _), (by decide : 0 + 0 ≤ _)⟩)
    dsimp only [Pt.U, Pt.locs, Pt.cells, Pt.slots] at X20 l20 y20 z20 st20 hQ20
    subst l20 y20 z20
    obtain ⟨rfl, rfl, k21⟩ := hQ20
    have N22 := Fr.app N17 (Fr.nil n0)
    have S23 : ∀ t, Steps p.tables e below (T20.setTop (mkF m 60 #[.val (.ref x), .val (.ref y)] [(.int (1 : Int32))])) t → Steps p.tables e below (s₁.setTop (mkF m 0 #[.val (.ref x), .val (.ref y)] [])) t := by
      intro t kt
      refine S18 t ?_
      refine XS.icmpYes X15.here hx rfl (pc0 := 31) (pc' := 36) rfl (hb hby d11_31) rfl (teq (c19 : c0 = d0)).1 (by decide) (by decide) ?_
      refine XS.aloadN X15.here hx rfl (hb hby d11_36) rfl rfl ?_
      show Steps p.tables e below (T15.setTop (mkF m 37 #[.val (.ref x), .val (.ref y)] [(.ref x)])) _
      refine st20.trans ?_
      refine XS.iconst X20.here hx rfl (hb hby d11_40) ?_
      refine XS.icmpYes X20.here hx rfl (pc0 := 41) (pc' := 59) rfl (hb hby d11_41) rfl (tlt ((by decide) : (1 : Int32) < (2 : Int32))).1 (by decide) (by decide) ?_
      refine XS.iconst X20.here hx rfl (hb hby d11_59) ?_
      exact kt
    obtain ⟨fs, hr, hrun, hended, hW, hsame⟩ := X20.leave (v := some (.int (1 : Int32))) (fun h => by rw [Bd.returns] at h; cases h)
    refine ⟨_, _, pre0 _ (S23 _ ?_), hrun, hended, _, _, rfl, ?_, ⟨_, rfl⟩, hW, hsame.mono (by decide) (by decide)⟩
    · exact retN X20 hx (t := .boolean) Bd.returns (by simp) (hb hby d11_60) hr
    · show Q_rm_same11 Z x tx kx y ty ky c0 d0 zc fm h0 n0 _ T20.heap _
      rw [k21]
      exact ⟨(congrArg (fun z => some (Value.int z)) (if_pos (by rw [(c19 : c0 = d0)])).symm), N22, rfl⟩
  · have S24 : ∀ t, Steps p.tables e below (T15.setTop (mkF m 35 #[.val (.ref x), .val (.ref y)] [(.int (0 : Int32))])) t → Steps p.tables e below (s₁.setTop (mkF m 0 #[.val (.ref x), .val (.ref y)] [])) t := by
      intro t kt
      refine S18 t ?_
      refine XS.icmpNo X15.here hx rfl (hb hby d11_31) rfl (feq (c19 : ¬ (c0 = d0))).1 ?_
      refine XS.iconst X15.here hx rfl (hb hby d11_34) ?_
      exact kt
    obtain ⟨fs, hr, hrun, hended, hW, hsame⟩ := X15.leave (v := some (.int (0 : Int32))) (fun h => by rw [Bd.returns] at h; cases h)
    refine ⟨_, _, pre0 _ (S24 _ ?_), hrun, hended, _, _, rfl, ?_, ⟨_, rfl⟩, hW, hsame.mono (by decide) (by decide)⟩
    · exact retN X15 hx (t := .boolean) Bd.returns (by simp) (hb hby d11_35) hr
    · show Q_rm_same11 Z x tx kx y ty ky c0 d0 zc fm h0 n0 _ T15.heap _
      rw [k16]
      exact ⟨(congrArg (fun z => some (Value.int z)) (if_neg (fun q => (c19 : ¬ (c0 = d0)) (congrArg (fun l => l.getD 0 0) q))).symm), N17, rfl⟩
theorem ef_rm_same12 (m : MethodId) (x0 : Addr) (x1 : Addr) : entryFrame m #[(.ref x0), (.ref x1)] 2 = mkF m 0 #[.val (.ref x0), .val (.ref x1)] [] := by first | (simp [entryFrame, mkF, argsToLocals, Value.category]; done) | rfl
def Q_rm_same12 (Z : State) (x : Addr) (tx : Addr) (kx : ClassId) (y : Addr) (ty : Addr) (ky : ClassId) (c0 : Int32) (d0 : Int32) (d1 : Int32) (zc : Int32) (fm : Value) (h0 : Heap) (n0 : Nat) (v : Option Value) (h : Heap) (L : List Loc) : Prop := ((v = some (.int (own_eqI ([c0] : List Int32) [d0, d1]))) ∧ (Fr n0 L) ∧ (h = h0))
set_option maxRecDepth 65536 in
set_option maxHeartbeats 40000000 in
theorem rm_same12 (l : Launch) (Z : State) (a0 : Array Value) (hw : ∀ d ∈ tables_1, d.before a0 Z = true) (ws : List Jvm.Cond) (x : Addr) (tx : Addr) (kx : ClassId) (y : Addr) (ty : Addr) (ky : ClassId) (c0 : Int32) (d0 : Int32) (d1 : Int32) (zc : Int32) (fm : Value) (h0 : Heap) (n0 : Nat) (O0 : Old Z n0 h0) (E_x : Exa Z h0 x "java/lang/String") (V_x : Fld Z h0 x "java/lang/String" "value" "[B" (.ref tx)) (C_x : Fld Z h0 x "java/lang/String" "coder" "B" (.int (0 : Int32))) (K_x : Arv Z h0 tx kx .byte (1 : Int32) [(.int c0.toInt8.toInt32)] (.int (0 : Int32))) (E_y : Exa Z h0 y "java/lang/String") (V_y : Fld Z h0 y "java/lang/String" "value" "[B" (.ref ty)) (C_y : Fld Z h0 y "java/lang/String" "coder" "B" (.int (0 : Int32))) (K_y : Arv Z h0 ty ky .byte (2 : Int32) [(.int d0.toInt8.toInt32), (.int d1.toInt8.toInt32)] (.int (0 : Int32))) (la_c0 : ¬ (c0 < (0 : Int32)) ∧ ¬ ((255 : Int32) < c0)) (la_d0 : ¬ (d0 < (0 : Int32)) ∧ ¬ ((255 : Int32) < d0)) (la_d1 : ¬ (d1 < (0 : Int32)) ∧ ¬ ((255 : Int32) < d1)) (S_C : Sta Z Z.heap "java/lang/String" "COMPACT_STRINGS" "Z" (.int zc)) (hzc : ¬ (zc = (0 : Int32))) (S_F : Sta Z Z.heap "jdk/internal/util/Preconditions" "SIOOBE_FORMATTER" "Ljava/util/function/BiFunction;" fm) (hfm : fm.isRef = true) :
    MetFree l (⟨"com/example/typecheck/typecheck/model/QNameEqualsPinLaw", "same", "(Ljava/lang/String;Ljava/lang/String;)Z"⟩ : MethodName) (head1 (Jvm.Cond.code (⟨"com/example/typecheck/typecheck/model/QNameEqualsPinLaw", "same", "(Ljava/lang/String;Ljava/lang/String;)Z"⟩ : MethodName) method_3_code 2 (some .boolean) :: ws) ({ frames := 5, cells := 0, slots := 0, locals := 70 } : Room)) (fun a U => a = #[(.ref x), (.ref y)] ∧ Z.Warmed39 U.vm ∧ U.heap = h0) (fun _ _ _ _ _ => True) (fun _ U o U' => ∃ v L, o = .returned v ∧ Q_rm_same12 Z x tx kx y ty ky c0 d0 d1 zc fm h0 n0 v U'.heap L ∧ FrameEnd U o U' L ({ frames := 5, cells := 0, slots := 0, locals := 70 } : Room).cells ({ frames := 5, cells := 0, slots := 0, locals := 70 } : Room).slots) := by
  refine MetFree.of_bodySF (plainFor_of_name pn_2) hisR ?_
  intro p e s m args below meth c s₁ Bd hml0 hP hK
  obtain ⟨rfl, hZ, hh⟩ := hP
  have hx := Bd.exec
  have hby := Bd.bytes
  have hml : c.maxLocals = 2 := hml0
  have hown : s.vm.findClass "com/example/typecheck/typecheck/model/QNameEqualsPinLaw" = some m.cls := findClass_of_methodNamed Bd.named
  have hnm := (name_of_methodNamed Bd.named Bd.method).1
  have X0 : Stand p l e ({ frames := 5, cells := 0, slots := 0, locals := 70 } : Room) s m #[(.ref x), (.ref y)] below meth c s₁ [] 0 0 := Stand.of_body Bd
  have e0 : s₁.heap = h0 := by rw [← hh, Bd.state]; rfl
  have N0 := Fr.nil n0
  have hwl : ∀ d ∈ StrChars.Road.wordsLen, d.before a0 Z = true := fun d hd => hw d (own_wordsLen d hd)
  have hwc : ∀ d ∈ StrChars.Road.wordsChN, d.before a0 Z = true := fun d hd => hw d (own_wordsChN d hd)
  have hwq : ∀ d ∈ StrChars.Road.wordsEq, d.before a0 Z = true := fun d hd => hw d (own_wordsEq d hd)
  have pre0 : ∀ t, Steps p.tables e below (s₁.setTop (mkF m 0 #[.val (.ref x), .val (.ref y)] [])) t → Steps p.tables e below (s₁.setTop (entryFrame m #[(.ref x), (.ref y)] 2)) t := fun t k => castTop (ef_rm_same12 m x y) k
  have la2 : ∀ c ∈ ([c0] : List Int32), ¬ c < 0 ∧ ¬ (255 : Int32) < c := by
    intro c hc
    simp only [List.mem_cons, List.not_mem_nil, or_false] at hc
    rcases hc with rfl
    · exact la_c0
  have cd2 : StrChars.Road.CodA ([c0] : List Int32) 0 (1 : Int32) [(.int c0.toInt8.toInt32)] := StrChars.Road.codOf (n := 1) rfl (fun x hx => (la2 x hx).2)
  have bd2 := own_up la2
  obtain ⟨cq1, kq1, q1a, q1b, q1c⟩ := isOf hZ e0 E_x
  obtain ⟨_, _, ⟨T1, L1, k1, n1⟩, -, X1, ⟨Lc1, hQ1, l1, y1, z1⟩, st1⟩ := X0.virtualBack hx (y := (⟨"java/lang/String", "length", "()I"⟩ : MethodName)) (z := (⟨"java/lang/String", "length", "()I"⟩ : MethodName)) hown (mvT hZ (own_w hw 63 rfl)) (mvT hZ (own_w hw 64 rfl)) (notFace_of_selects (args := #[]) (mvT hZ (own_w hw 66 rfl))) (mvT hZ (own_w hw 66 rfl)) (mvT hZ (own_w hw 65 rfl)) (by decide) (StrChars.Road.lenW (W := 0) hZ hwl (kI := 4) (own_w hw 6 rfl) (cs := [c0]) E_x V_x C_x K_x cd2 bd2 (S_C.ext O0.2) hzc (by show 1 ≤ 4000; decide) (by decide) (by decide)) q1a q1c (g := (mkF m 1 #[.val (.ref x), .val (.ref y)] [(.ref x)])) rfl (by rw [hml]; rfl) (Steps.refl _) (argsL := []) (rest := []) (lenOf pd_9 rfl) rfl (by show 2 * 0 + _ ≤ _; exact Nat.le_of_eq rfl) (hb hby d11_1) (fun _ _ => ⟨rfl, e0, (by decide : 0 + 0 ≤ _), (by decide : 0 + 0 ≤ _)⟩)
  dsimp only [Pt.U, Pt.locs, Pt.cells, Pt.slots] at X1 l1 y1 z1 st1 hQ1
  subst l1 y1 z1
  obtain ⟨rfl, rfl, k3⟩ := hQ1
  have N4 := Fr.app N0 (Fr.nil n0)
  have la6 : ∀ c ∈ ([d0, d1] : List Int32), ¬ c < 0 ∧ ¬ (255 : Int32) < c := by
    intro c hc
    simp only [List.mem_cons, List.not_mem_nil, or_false] at hc
    rcases hc with rfl | rfl
    · exact la_d0
    · exact la_d1
  have cd6 : StrChars.Road.CodA ([d0, d1] : List Int32) 0 (2 : Int32) [(.int d0.toInt8.toInt32), (.int d1.toInt8.toInt32)] := StrChars.Road.codOf (n := 2) rfl (fun x hx => (la6 x hx).2)
  have bd6 := own_up la6
  obtain ⟨cq5, kq5, q5a, q5b, q5c⟩ := isOf hZ k3 E_y
  obtain ⟨_, _, ⟨T5, L5, k5, n5⟩, -, X5, ⟨Lc5, hQ5, l5, y5, z5⟩, st5⟩ := X1.virtualBack hx (y := (⟨"java/lang/String", "length", "()I"⟩ : MethodName)) (z := (⟨"java/lang/String", "length", "()I"⟩ : MethodName)) hown (mvT hZ (own_w hw 63 rfl)) (mvT hZ (own_w hw 64 rfl)) (notFace_of_selects (args := #[]) (mvT hZ (own_w hw 66 rfl))) (mvT hZ (own_w hw 66 rfl)) (mvT hZ (own_w hw 65 rfl)) (by decide) (StrChars.Road.lenW (W := 1) hZ hwl (kI := 4) (own_w hw 6 rfl) (cs := [d0, d1]) E_y V_y C_y K_y cd6 bd6 (S_C.ext O0.2) hzc (by show 2 ≤ 4000; decide) (by decide) (by decide)) q5a q5c (g := (mkF m 5 #[.val (.ref x), .val (.ref y)] [(.ref y), (.int (1 : Int32))])) rfl (by rw [hml]; rfl) (Steps.refl _) (argsL := []) (rest := [(.int (1 : Int32))]) (lenOf pd_9 rfl) rfl (by show 2 * 0 + _ ≤ _; exact Nat.le_of_eq rfl) (hb hby d11_5) (fun _ _ => ⟨rfl, k3, (by decide : 0 + 0 ≤ _), (by decide : 0 + 0 ≤ _)⟩)
  dsimp only [Pt.U, Pt.locs, Pt.cells, Pt.slots] at X5 l5 y5 z5 st5 hQ5
  subst l5 y5 z5
  obtain ⟨rfl, rfl, k7⟩ := hQ5
  have N8 := Fr.app N4 (Fr.nil n0)
  have S9 : ∀ t, Steps p.tables e below (T5.setTop (mkF m 12 #[.val (.ref x), .val (.ref y)] [(.int (0 : Int32))])) t → Steps p.tables e below (s₁.setTop (mkF m 0 #[.val (.ref x), .val (.ref y)] [])) t := by
    intro t kt
    refine XS.aloadN X0.here hx rfl (hb hby d11_0) rfl rfl ?_
    show Steps p.tables e below (s₁.setTop (mkF m 1 #[.val (.ref x), .val (.ref y)] [(.ref x)])) _
    refine st1.trans ?_
    refine XS.aloadN X1.here hx rfl (hb hby d11_4) rfl rfl ?_
    show Steps p.tables e below (T1.setTop (mkF m 5 #[.val (.ref x), .val (.ref y)] [(.ref y), (.int (1 : Int32))])) _
    refine st5.trans ?_
    refine XS.icmpNo X5.here hx rfl (hb hby d11_8) rfl (feq ((by decide) : ¬ ((1 : Int32) = (2 : Int32)))).1 ?_
    refine XS.iconst X5.here hx rfl (hb hby d11_11) ?_
    exact kt
  obtain ⟨fs, hr, hrun, hended, hW, hsame⟩ := X5.leave (v := some (.int (0 : Int32))) (fun h => by rw [Bd.returns] at h; cases h)
  refine ⟨_, _, pre0 _ (S9 _ ?_), hrun, hended, _, _, rfl, ?_, ⟨_, rfl⟩, hW, hsame.mono (by decide) (by decide)⟩
  · exact retN X5 hx (t := .boolean) Bd.returns (by simp) (hb hby d11_12) hr
  · show Q_rm_same12 Z x tx kx y ty ky c0 d0 d1 zc fm h0 n0 _ T5.heap _
    rw [k7]
    exact ⟨(congrArg (fun z => some (Value.int z)) (if_neg (fun q => by have := congrArg List.length q; simp at this)).symm), N8, rfl⟩
theorem ef_rm_same20 (m : MethodId) (x0 : Addr) (x1 : Addr) : entryFrame m #[(.ref x0), (.ref x1)] 2 = mkF m 0 #[.val (.ref x0), .val (.ref x1)] [] := by first | (simp [entryFrame, mkF, argsToLocals, Value.category]; done) | rfl
def Q_rm_same20 (Z : State) (x : Addr) (tx : Addr) (kx : ClassId) (y : Addr) (ty : Addr) (ky : ClassId) (c0 : Int32) (c1 : Int32) (zc : Int32) (fm : Value) (h0 : Heap) (n0 : Nat) (v : Option Value) (h : Heap) (L : List Loc) : Prop := ((v = some (.int (own_eqI ([c0, c1] : List Int32) []))) ∧ (Fr n0 L) ∧ (h = h0))
set_option maxRecDepth 65536 in
set_option maxHeartbeats 40000000 in
theorem rm_same20 (l : Launch) (Z : State) (a0 : Array Value) (hw : ∀ d ∈ tables_1, d.before a0 Z = true) (ws : List Jvm.Cond) (x : Addr) (tx : Addr) (kx : ClassId) (y : Addr) (ty : Addr) (ky : ClassId) (c0 : Int32) (c1 : Int32) (zc : Int32) (fm : Value) (h0 : Heap) (n0 : Nat) (O0 : Old Z n0 h0) (E_x : Exa Z h0 x "java/lang/String") (V_x : Fld Z h0 x "java/lang/String" "value" "[B" (.ref tx)) (C_x : Fld Z h0 x "java/lang/String" "coder" "B" (.int (0 : Int32))) (K_x : Arv Z h0 tx kx .byte (2 : Int32) [(.int c0.toInt8.toInt32), (.int c1.toInt8.toInt32)] (.int (0 : Int32))) (E_y : Exa Z h0 y "java/lang/String") (V_y : Fld Z h0 y "java/lang/String" "value" "[B" (.ref ty)) (C_y : Fld Z h0 y "java/lang/String" "coder" "B" (.int (0 : Int32))) (K_y : Arv Z h0 ty ky .byte (0 : Int32) [] (.int (0 : Int32))) (la_c0 : ¬ (c0 < (0 : Int32)) ∧ ¬ ((255 : Int32) < c0)) (la_c1 : ¬ (c1 < (0 : Int32)) ∧ ¬ ((255 : Int32) < c1)) (S_C : Sta Z Z.heap "java/lang/String" "COMPACT_STRINGS" "Z" (.int zc)) (hzc : ¬ (zc = (0 : Int32))) (S_F : Sta Z Z.heap "jdk/internal/util/Preconditions" "SIOOBE_FORMATTER" "Ljava/util/function/BiFunction;" fm) (hfm : fm.isRef = true) :
    MetFree l (⟨"com/example/typecheck/typecheck/model/QNameEqualsPinLaw", "same", "(Ljava/lang/String;Ljava/lang/String;)Z"⟩ : MethodName) (head1 (Jvm.Cond.code (⟨"com/example/typecheck/typecheck/model/QNameEqualsPinLaw", "same", "(Ljava/lang/String;Ljava/lang/String;)Z"⟩ : MethodName) method_3_code 2 (some .boolean) :: ws) ({ frames := 5, cells := 0, slots := 0, locals := 70 } : Room)) (fun a U => a = #[(.ref x), (.ref y)] ∧ Z.Warmed39 U.vm ∧ U.heap = h0) (fun _ _ _ _ _ => True) (fun _ U o U' => ∃ v L, o = .returned v ∧ Q_rm_same20 Z x tx kx y ty ky c0 c1 zc fm h0 n0 v U'.heap L ∧ FrameEnd U o U' L ({ frames := 5, cells := 0, slots := 0, locals := 70 } : Room).cells ({ frames := 5, cells := 0, slots := 0, locals := 70 } : Room).slots) := by
  refine MetFree.of_bodySF (plainFor_of_name pn_2) hisR ?_
  intro p e s m args below meth c s₁ Bd hml0 hP hK
  obtain ⟨rfl, hZ, hh⟩ := hP
  have hx := Bd.exec
  have hby := Bd.bytes
  have hml : c.maxLocals = 2 := hml0
  have hown : s.vm.findClass "com/example/typecheck/typecheck/model/QNameEqualsPinLaw" = some m.cls := findClass_of_methodNamed Bd.named
  have hnm := (name_of_methodNamed Bd.named Bd.method).1
  have X0 : Stand p l e ({ frames := 5, cells := 0, slots := 0, locals := 70 } : Room) s m #[(.ref x), (.ref y)] below meth c s₁ [] 0 0 := Stand.of_body Bd
  have e0 : s₁.heap = h0 := by rw [← hh, Bd.state]; rfl
  have N0 := Fr.nil n0
  have hwl : ∀ d ∈ StrChars.Road.wordsLen, d.before a0 Z = true := fun d hd => hw d (own_wordsLen d hd)
  have hwc : ∀ d ∈ StrChars.Road.wordsChN, d.before a0 Z = true := fun d hd => hw d (own_wordsChN d hd)
  have hwq : ∀ d ∈ StrChars.Road.wordsEq, d.before a0 Z = true := fun d hd => hw d (own_wordsEq d hd)
  have pre0 : ∀ t, Steps p.tables e below (s₁.setTop (mkF m 0 #[.val (.ref x), .val (.ref y)] [])) t → Steps p.tables e below (s₁.setTop (entryFrame m #[(.ref x), (.ref y)] 2)) t := fun t k => castTop (ef_rm_same20 m x y) k
  have la2 : ∀ c ∈ ([c0, c1] : List Int32), ¬ c < 0 ∧ ¬ (255 : Int32) < c := by
    intro c hc
    simp only [List.mem_cons, List.not_mem_nil, or_false] at hc
    rcases hc with rfl | rfl
    · exact la_c0
    · exact la_c1
  have cd2 : StrChars.Road.CodA ([c0, c1] : List Int32) 0 (2 : Int32) [(.int c0.toInt8.toInt32), (.int c1.toInt8.toInt32)] := StrChars.Road.codOf (n := 2) rfl (fun x hx => (la2 x hx).2)
  have bd2 := own_up la2
  obtain ⟨cq1, kq1, q1a, q1b, q1c⟩ := isOf hZ e0 E_x
  obtain ⟨_, _, ⟨T1, L1, k1, n1⟩, -, X1, ⟨Lc1, hQ1, l1, y1, z1⟩, st1⟩ := X0.virtualBack hx (y := (⟨"java/lang/String", "length", "()I"⟩ : MethodName)) (z := (⟨"java/lang/String", "length", "()I"⟩ : MethodName)) hown (mvT hZ (own_w hw 63 rfl)) (mvT hZ (own_w hw 64 rfl)) (notFace_of_selects (args := #[]) (mvT hZ (own_w hw 66 rfl))) (mvT hZ (own_w hw 66 rfl)) (mvT hZ (own_w hw 65 rfl)) (by decide) (StrChars.Road.lenW (W := 0) hZ hwl (kI := 4) (own_w hw 6 rfl) (cs := [c0, c1]) E_x V_x C_x K_x cd2 bd2 (S_C.ext O0.2) hzc (by show 2 ≤ 4000; decide) (by decide) (by decide)) q1a q1c (g := (mkF m 1 #[.val (.ref x), .val (.ref y)] [(.ref x)])) rfl (by rw [hml]; rfl) (Steps.refl _) (argsL := []) (rest := []) (lenOf pd_9 rfl) rfl (by show 2 * 0 + _ ≤ _; exact Nat.le_of_eq rfl) (hb hby d11_1) (fun _ _ => ⟨rfl, e0, (by decide : 0 + 0 ≤ _), (by decide : 0 + 0 ≤ _)⟩)
  dsimp only [Pt.U, Pt.locs, Pt.cells, Pt.slots] at X1 l1 y1 z1 st1 hQ1
  subst l1 y1 z1
  obtain ⟨rfl, rfl, k3⟩ := hQ1
  have N4 := Fr.app N0 (Fr.nil n0)
  have la6 : ∀ c ∈ ([] : List Int32), ¬ c < 0 ∧ ¬ (255 : Int32) < c := fun c hc => nomatch hc
  have cd6 : StrChars.Road.CodA ([] : List Int32) 0 (0 : Int32) [] := StrChars.Road.codOf (n := 0) rfl (fun x hx => (la6 x hx).2)
  have bd6 := own_up la6
  obtain ⟨cq5, kq5, q5a, q5b, q5c⟩ := isOf hZ k3 E_y
  obtain ⟨_, _, ⟨T5, L5, k5, n5⟩, -, X5, ⟨Lc5, hQ5, l5, y5, z5⟩, st5⟩ := X1.virtualBack hx (y := (⟨"java/lang/String", "length", "()I"⟩ : MethodName)) (z := (⟨"java/lang/String", "length", "()I"⟩ : MethodName)) hown (mvT hZ (own_w hw 63 rfl)) (mvT hZ (own_w hw 64 rfl)) (notFace_of_selects (args := #[]) (mvT hZ (own_w hw 66 rfl))) (mvT hZ (own_w hw 66 rfl)) (mvT hZ (own_w hw 65 rfl)) (by decide) (StrChars.Road.lenW (W := 1) hZ hwl (kI := 4) (own_w hw 6 rfl) (cs := []) E_y V_y C_y K_y cd6 bd6 (S_C.ext O0.2) hzc (by show 0 ≤ 4000; decide) (by decide) (by decide)) q5a q5c (g := (mkF m 5 #[.val (.ref x), .val (.ref y)] [(.ref y), (.int (2 : Int32))])) rfl (by rw [hml]; rfl) (Steps.refl _) (argsL := []) (rest := [(.int (2 : Int32))]) (lenOf pd_9 rfl) rfl (by show 2 * 0 + _ ≤ _; exact Nat.le_of_eq rfl) (hb hby d11_5) (fun _ _ => ⟨rfl, k3, (by decide : 0 + 0 ≤ _), (by decide : 0 + 0 ≤ _)⟩)
  dsimp only [Pt.U, Pt.locs, Pt.cells, Pt.slots] at X5 l5 y5 z5 st5 hQ5
  subst l5 y5 z5
  obtain ⟨rfl, rfl, k7⟩ := hQ5
  have N8 := Fr.app N4 (Fr.nil n0)
  have S9 : ∀ t, Steps p.tables e below (T5.setTop (mkF m 12 #[.val (.ref x), .val (.ref y)] [(.int (0 : Int32))])) t → Steps p.tables e below (s₁.setTop (mkF m 0 #[.val (.ref x), .val (.ref y)] [])) t := by
    intro t kt
    refine XS.aloadN X0.here hx rfl (hb hby d11_0) rfl rfl ?_
    show Steps p.tables e below (s₁.setTop (mkF m 1 #[.val (.ref x), .val (.ref y)] [(.ref x)])) _
    refine st1.trans ?_
    refine XS.aloadN X1.here hx rfl (hb hby d11_4) rfl rfl ?_
    show Steps p.tables e below (T1.setTop (mkF m 5 #[.val (.ref x), .val (.ref y)] [(.ref y), (.int (2 : Int32))])) _
    refine st5.trans ?_
    refine XS.icmpNo X5.here hx rfl (hb hby d11_8) rfl (feq ((by decide) : ¬ ((2 : Int32) = (0 : Int32)))).1 ?_
    refine XS.iconst X5.here hx rfl (hb hby d11_11) ?_
    exact kt
  obtain ⟨fs, hr, hrun, hended, hW, hsame⟩ := X5.leave (v := some (.int (0 : Int32))) (fun h => by rw [Bd.returns] at h; cases h)
  refine ⟨_, _, pre0 _ (S9 _ ?_), hrun, hended, _, _, rfl, ?_, ⟨_, rfl⟩, hW, hsame.mono (by decide) (by decide)⟩
  · exact retN X5 hx (t := .boolean) Bd.returns (by simp) (hb hby d11_12) hr
  · show Q_rm_same20 Z x tx kx y ty ky c0 c1 zc fm h0 n0 _ T5.heap _
    rw [k7]
    exact ⟨(congrArg (fun z => some (Value.int z)) (if_neg (fun q => by have := congrArg List.length q; simp at this)).symm), N8, rfl⟩
theorem ef_rm_same21 (m : MethodId) (x0 : Addr) (x1 : Addr) : entryFrame m #[(.ref x0), (.ref x1)] 2 = mkF m 0 #[.val (.ref x0), .val (.ref x1)] [] := by first | (simp [entryFrame, mkF, argsToLocals, Value.category]; done) | rfl
def Q_rm_same21 (Z : State) (x : Addr) (tx : Addr) (kx : ClassId) (y : Addr) (ty : Addr) (ky : ClassId) (c0 : Int32) (c1 : Int32) (d0 : Int32) (zc : Int32) (fm : Value) (h0 : Heap) (n0 : Nat) (v : Option Value) (h : Heap) (L : List Loc) : Prop := ((v = some (.int (own_eqI ([c0, c1] : List Int32) [d0]))) ∧ (Fr n0 L) ∧ (h = h0))
set_option maxRecDepth 65536 in
set_option maxHeartbeats 40000000 in
theorem rm_same21 (l : Launch) (Z : State) (a0 : Array Value) (hw : ∀ d ∈ tables_1, d.before a0 Z = true) (ws : List Jvm.Cond) (x : Addr) (tx : Addr) (kx : ClassId) (y : Addr) (ty : Addr) (ky : ClassId) (c0 : Int32) (c1 : Int32) (d0 : Int32) (zc : Int32) (fm : Value) (h0 : Heap) (n0 : Nat) (O0 : Old Z n0 h0) (E_x : Exa Z h0 x "java/lang/String") (V_x : Fld Z h0 x "java/lang/String" "value" "[B" (.ref tx)) (C_x : Fld Z h0 x "java/lang/String" "coder" "B" (.int (0 : Int32))) (K_x : Arv Z h0 tx kx .byte (2 : Int32) [(.int c0.toInt8.toInt32), (.int c1.toInt8.toInt32)] (.int (0 : Int32))) (E_y : Exa Z h0 y "java/lang/String") (V_y : Fld Z h0 y "java/lang/String" "value" "[B" (.ref ty)) (C_y : Fld Z h0 y "java/lang/String" "coder" "B" (.int (0 : Int32))) (K_y : Arv Z h0 ty ky .byte (1 : Int32) [(.int d0.toInt8.toInt32)] (.int (0 : Int32))) (la_c0 : ¬ (c0 < (0 : Int32)) ∧ ¬ ((255 : Int32) < c0)) (la_c1 : ¬ (c1 < (0 : Int32)) ∧ ¬ ((255 : Int32) < c1)) (la_d0 : ¬ (d0 < (0 : Int32)) ∧ ¬ ((255 : Int32) < d0)) (S_C : Sta Z Z.heap "java/lang/String" "COMPACT_STRINGS" "Z" (.int zc)) (hzc : ¬ (zc = (0 : Int32))) (S_F : Sta Z Z.heap "jdk/internal/util/Preconditions" "SIOOBE_FORMATTER" "Ljava/util/function/BiFunction;" fm) (hfm : fm.isRef = true) :
    MetFree l (⟨"com/example/typecheck/typecheck/model/QNameEqualsPinLaw", "same", "(Ljava/lang/String;Ljava/lang/String;)Z"⟩ : MethodName) (head1 (Jvm.Cond.code (⟨"com/example/typecheck/typecheck/model/QNameEqualsPinLaw", "same", "(Ljava/lang/String;Ljava/lang/String;)Z"⟩ : MethodName) method_3_code 2 (some .boolean) :: ws) ({ frames := 5, cells := 0, slots := 0, locals := 70 } : Room)) (fun a U => a = #[(.ref x), (.ref y)] ∧ Z.Warmed39 U.vm ∧ U.heap = h0) (fun _ _ _ _ _ => True) (fun _ U o U' => ∃ v L, o = .returned v ∧ Q_rm_same21 Z x tx kx y ty ky c0 c1 d0 zc fm h0 n0 v U'.heap L ∧ FrameEnd U o U' L ({ frames := 5, cells := 0, slots := 0, locals := 70 } : Room).cells ({ frames := 5, cells := 0, slots := 0, locals := 70 } : Room).slots) := by
  refine MetFree.of_bodySF (plainFor_of_name pn_2) hisR ?_
  intro p e s m args below meth c s₁ Bd hml0 hP hK
  obtain ⟨rfl, hZ, hh⟩ := hP
  have hx := Bd.exec
  have hby := Bd.bytes
  have hml : c.maxLocals = 2 := hml0
  have hown : s.vm.findClass "com/example/typecheck/typecheck/model/QNameEqualsPinLaw" = some m.cls := findClass_of_methodNamed Bd.named
  have hnm := (name_of_methodNamed Bd.named Bd.method).1
  have X0 : Stand p l e ({ frames := 5, cells := 0, slots := 0, locals := 70 } : Room) s m #[(.ref x), (.ref y)] below meth c s₁ [] 0 0 := Stand.of_body Bd
  have e0 : s₁.heap = h0 := by rw [← hh, Bd.state]; rfl
  have N0 := Fr.nil n0
  have hwl : ∀ d ∈ StrChars.Road.wordsLen, d.before a0 Z = true := fun d hd => hw d (own_wordsLen d hd)
  have hwc : ∀ d ∈ StrChars.Road.wordsChN, d.before a0 Z = true := fun d hd => hw d (own_wordsChN d hd)
  have hwq : ∀ d ∈ StrChars.Road.wordsEq, d.before a0 Z = true := fun d hd => hw d (own_wordsEq d hd)
  have pre0 : ∀ t, Steps p.tables e below (s₁.setTop (mkF m 0 #[.val (.ref x), .val (.ref y)] [])) t → Steps p.tables e below (s₁.setTop (entryFrame m #[(.ref x), (.ref y)] 2)) t := fun t k => castTop (ef_rm_same21 m x y) k
  have la2 : ∀ c ∈ ([c0, c1] : List Int32), ¬ c < 0 ∧ ¬ (255 : Int32) < c := by
    intro c hc
    simp only [List.mem_cons, List.not_mem_nil, or_false] at hc
    rcases hc with rfl | rfl
    · exact la_c0
    · exact la_c1
  have cd2 : StrChars.Road.CodA ([c0, c1] : List Int32) 0 (2 : Int32) [(.int c0.toInt8.toInt32), (.int c1.toInt8.toInt32)] := StrChars.Road.codOf (n := 2) rfl (fun x hx => (la2 x hx).2)
  have bd2 := own_up la2
  obtain ⟨cq1, kq1, q1a, q1b, q1c⟩ := isOf hZ e0 E_x
  obtain ⟨_, _, ⟨T1, L1, k1, n1⟩, -, X1, ⟨Lc1, hQ1, l1, y1, z1⟩, st1⟩ := X0.virtualBack hx (y := (⟨"java/lang/String", "length", "()I"⟩ : MethodName)) (z := (⟨"java/lang/String", "length", "()I"⟩ : MethodName)) hown (mvT hZ (own_w hw 63 rfl)) (mvT hZ (own_w hw 64 rfl)) (notFace_of_selects (args := #[]) (mvT hZ (own_w hw 66 rfl))) (mvT hZ (own_w hw 66 rfl)) (mvT hZ (own_w hw 65 rfl)) (by decide) (StrChars.Road.lenW (W := 0) hZ hwl (kI := 4) (own_w hw 6 rfl) (cs := [c0, c1]) E_x V_x C_x K_x cd2 bd2 (S_C.ext O0.2) hzc (by show 2 ≤ 4000; decide) (by decide) (by decide)) q1a q1c (g := (mkF m 1 #[.val (.ref x), .val (.ref y)] [(.ref x)])) rfl (by rw [hml]; rfl) (Steps.refl _) (argsL := []) (rest := []) (lenOf pd_9 rfl) rfl (by show 2 * 0 + _ ≤ _; exact Nat.le_of_eq rfl) (hb hby d11_1) (fun _ _ => ⟨rfl, e0, (by decide : 0 + 0 ≤ _), (by decide : 0 + 0 ≤ _)⟩)
  dsimp only [Pt.U, Pt.locs, Pt.cells, Pt.slots] at X1 l1 y1 z1 st1 hQ1
  subst l1 y1 z1
  obtain ⟨rfl, rfl, k3⟩ := hQ1
  have N4 := Fr.app N0 (Fr.nil n0)
  have la6 : ∀ c ∈ ([d0] : List Int32), ¬ c < 0 ∧ ¬ (255 : Int32) < c := by
    intro c hc
    simp only [List.mem_cons, List.not_mem_nil, or_false] at hc
    rcases hc with rfl
    · exact la_d0
  have cd6 : StrChars.Road.CodA ([d0] : List Int32) 0 (1 : Int32) [(.int d0.toInt8.toInt32)] := StrChars.Road.codOf (n := 1) rfl (fun x hx => (la6 x hx).2)
  have bd6 := own_up la6
  obtain ⟨cq5, kq5, q5a, q5b, q5c⟩ := isOf hZ k3 E_y
  obtain ⟨_, _, ⟨T5, L5, k5, n5⟩, -, X5, ⟨Lc5, hQ5, l5, y5, z5⟩, st5⟩ := X1.virtualBack hx (y := (⟨"java/lang/String", "length", "()I"⟩ : MethodName)) (z := (⟨"java/lang/String", "length", "()I"⟩ : MethodName)) hown (mvT hZ (own_w hw 63 rfl)) (mvT hZ (own_w hw 64 rfl)) (notFace_of_selects (args := #[]) (mvT hZ (own_w hw 66 rfl))) (mvT hZ (own_w hw 66 rfl)) (mvT hZ (own_w hw 65 rfl)) (by decide) (StrChars.Road.lenW (W := 1) hZ hwl (kI := 4) (own_w hw 6 rfl) (cs := [d0]) E_y V_y C_y K_y cd6 bd6 (S_C.ext O0.2) hzc (by show 1 ≤ 4000; decide) (by decide) (by decide)) q5a q5c (g := (mkF m 5 #[.val (.ref x), .val (.ref y)] [(.ref y), (.int (2 : Int32))])) rfl (by rw [hml]; rfl) (Steps.refl _) (argsL := []) (rest := [(.int (2 : Int32))]) (lenOf pd_9 rfl) rfl (by show 2 * 0 + _ ≤ _; exact Nat.le_of_eq rfl) (hb hby d11_5) (fun _ _ => ⟨rfl, k3, (by decide : 0 + 0 ≤ _), (by decide : 0 + 0 ≤ _)⟩)
  dsimp only [Pt.U, Pt.locs, Pt.cells, Pt.slots] at X5 l5 y5 z5 st5 hQ5
  subst l5 y5 z5
  obtain ⟨rfl, rfl, k7⟩ := hQ5
  have N8 := Fr.app N4 (Fr.nil n0)
  have S9 : ∀ t, Steps p.tables e below (T5.setTop (mkF m 12 #[.val (.ref x), .val (.ref y)] [(.int (0 : Int32))])) t → Steps p.tables e below (s₁.setTop (mkF m 0 #[.val (.ref x), .val (.ref y)] [])) t := by
    intro t kt
    refine XS.aloadN X0.here hx rfl (hb hby d11_0) rfl rfl ?_
    show Steps p.tables e below (s₁.setTop (mkF m 1 #[.val (.ref x), .val (.ref y)] [(.ref x)])) _
    refine st1.trans ?_
    refine XS.aloadN X1.here hx rfl (hb hby d11_4) rfl rfl ?_
    show Steps p.tables e below (T1.setTop (mkF m 5 #[.val (.ref x), .val (.ref y)] [(.ref y), (.int (2 : Int32))])) _
    refine st5.trans ?_
    refine XS.icmpNo X5.here hx rfl (hb hby d11_8) rfl (feq ((by decide) : ¬ ((2 : Int32) = (1 : Int32)))).1 ?_
    refine XS.iconst X5.here hx rfl (hb hby d11_11) ?_
    exact kt
  obtain ⟨fs, hr, hrun, hended, hW, hsame⟩ := X5.leave (v := some (.int (0 : Int32))) (fun h => by rw [Bd.returns] at h; cases h)
  refine ⟨_, _, pre0 _ (S9 _ ?_), hrun, hended, _, _, rfl, ?_, ⟨_, rfl⟩, hW, hsame.mono (by decide) (by decide)⟩
  · exact retN X5 hx (t := .boolean) Bd.returns (by simp) (hb hby d11_12) hr
  · show Q_rm_same21 Z x tx kx y ty ky c0 c1 d0 zc fm h0 n0 _ T5.heap _
    rw [k7]
    exact ⟨(congrArg (fun z => some (Value.int z)) (if_neg (fun q => by have := congrArg List.length q; simp at this)).symm), N8, rfl⟩
theorem d11_44 : decode method_3_code 44 = .ok (.aload_n 0, 1) := by decide +kernel
theorem d11_45 : decode method_3_code 45 = .ok (.iconst 1, 1) := by decide +kernel
theorem d11_46 : decode method_3_code 46 = .ok (.invokevirtual 16, 3) := by decide +kernel
theorem d11_49 : decode method_3_code 49 = .ok (.aload_n 1, 1) := by decide +kernel
theorem d11_50 : decode method_3_code 50 = .ok (.iconst 1, 1) := by decide +kernel
theorem d11_51 : decode method_3_code 51 = .ok (.invokevirtual 16, 3) := by decide +kernel
theorem d11_54 : decode method_3_code 54 = .ok (.if_icmp .eq 5, 3) := by decide +kernel
theorem d11_57 : decode method_3_code 57 = .ok (.iconst 0, 1) := by decide +kernel
theorem d11_58 : decode method_3_code 58 = .ok (.ireturn, 1) := by decide +kernel
theorem ef_rm_same22 (m : MethodId) (x0 : Addr) (x1 : Addr) : entryFrame m #[(.ref x0), (.ref x1)] 2 = mkF m 0 #[.val (.ref x0), .val (.ref x1)] [] := by first | (simp [entryFrame, mkF, argsToLocals, Value.category]; done) | rfl
def Q_rm_same22 (Z : State) (x : Addr) (tx : Addr) (kx : ClassId) (y : Addr) (ty : Addr) (ky : ClassId) (c0 : Int32) (c1 : Int32) (d0 : Int32) (d1 : Int32) (zc : Int32) (fm : Value) (h0 : Heap) (n0 : Nat) (v : Option Value) (h : Heap) (L : List Loc) : Prop := ((v = some (.int (own_eqI ([c0, c1] : List Int32) [d0, d1]))) ∧ (Fr n0 L) ∧ (h = h0))
set_option maxRecDepth 65536 in
set_option maxHeartbeats 40000000 in
theorem rm_same22 (l : Launch) (Z : State) (a0 : Array Value) (hw : ∀ d ∈ tables_1, d.before a0 Z = true) (ws : List Jvm.Cond) (x : Addr) (tx : Addr) (kx : ClassId) (y : Addr) (ty : Addr) (ky : ClassId) (c0 : Int32) (c1 : Int32) (d0 : Int32) (d1 : Int32) (zc : Int32) (fm : Value) (h0 : Heap) (n0 : Nat) (O0 : Old Z n0 h0) (E_x : Exa Z h0 x "java/lang/String") (V_x : Fld Z h0 x "java/lang/String" "value" "[B" (.ref tx)) (C_x : Fld Z h0 x "java/lang/String" "coder" "B" (.int (0 : Int32))) (K_x : Arv Z h0 tx kx .byte (2 : Int32) [(.int c0.toInt8.toInt32), (.int c1.toInt8.toInt32)] (.int (0 : Int32))) (E_y : Exa Z h0 y "java/lang/String") (V_y : Fld Z h0 y "java/lang/String" "value" "[B" (.ref ty)) (C_y : Fld Z h0 y "java/lang/String" "coder" "B" (.int (0 : Int32))) (K_y : Arv Z h0 ty ky .byte (2 : Int32) [(.int d0.toInt8.toInt32), (.int d1.toInt8.toInt32)] (.int (0 : Int32))) (la_c0 : ¬ (c0 < (0 : Int32)) ∧ ¬ ((255 : Int32) < c0)) (la_c1 : ¬ (c1 < (0 : Int32)) ∧ ¬ ((255 : Int32) < c1)) (la_d0 : ¬ (d0 < (0 : Int32)) ∧ ¬ ((255 : Int32) < d0)) (la_d1 : ¬ (d1 < (0 : Int32)) ∧ ¬ ((255 : Int32) < d1)) (S_C : Sta Z Z.heap "java/lang/String" "COMPACT_STRINGS" "Z" (.int zc)) (hzc : ¬ (zc = (0 : Int32))) (S_F : Sta Z Z.heap "jdk/internal/util/Preconditions" "SIOOBE_FORMATTER" "Ljava/util/function/BiFunction;" fm) (hfm : fm.isRef = true) :
    MetFree l (⟨"com/example/typecheck/typecheck/model/QNameEqualsPinLaw", "same", "(Ljava/lang/String;Ljava/lang/String;)Z"⟩ : MethodName) (head1 (Jvm.Cond.code (⟨"com/example/typecheck/typecheck/model/QNameEqualsPinLaw", "same", "(Ljava/lang/String;Ljava/lang/String;)Z"⟩ : MethodName) method_3_code 2 (some .boolean) :: ws) ({ frames := 5, cells := 0, slots := 0, locals := 70 } : Room)) (fun a U => a = #[(.ref x), (.ref y)] ∧ Z.Warmed39 U.vm ∧ U.heap = h0) (fun _ _ _ _ _ => True) (fun _ U o U' => ∃ v L, o = .returned v ∧ Q_rm_same22 Z x tx kx y ty ky c0 c1 d0 d1 zc fm h0 n0 v U'.heap L ∧ FrameEnd U o U' L ({ frames := 5, cells := 0, slots := 0, locals := 70 } : Room).cells ({ frames := 5, cells := 0, slots := 0, locals := 70 } : Room).slots) := by
  refine MetFree.of_bodySF (plainFor_of_name pn_2) hisR ?_
  intro p e s m args below meth c s₁ Bd hml0 hP hK
  obtain ⟨rfl, hZ, hh⟩ := hP
  have hx := Bd.exec
  have hby := Bd.bytes
  have hml : c.maxLocals = 2 := hml0
  have hown : s.vm.findClass "com/example/typecheck/typecheck/model/QNameEqualsPinLaw" = some m.cls := findClass_of_methodNamed Bd.named
  have hnm := (name_of_methodNamed Bd.named Bd.method).1
  have X0 : Stand p l e ({ frames := 5, cells := 0, slots := 0, locals := 70 } : Room) s m #[(.ref x), (.ref y)] below meth c s₁ [] 0 0 := Stand.of_body Bd
  have e0 : s₁.heap = h0 := by rw [← hh, Bd.state]; rfl
  have N0 := Fr.nil n0
  have hwl : ∀ d ∈ StrChars.Road.wordsLen, d.before a0 Z = true := fun d hd => hw d (own_wordsLen d hd)
  have hwc : ∀ d ∈ StrChars.Road.wordsChN, d.before a0 Z = true := fun d hd => hw d (own_wordsChN d hd)
  have hwq : ∀ d ∈ StrChars.Road.wordsEq, d.before a0 Z = true := fun d hd => hw d (own_wordsEq d hd)
  have pre0 : ∀ t, Steps p.tables e below (s₁.setTop (mkF m 0 #[.val (.ref x), .val (.ref y)] [])) t → Steps p.tables e below (s₁.setTop (entryFrame m #[(.ref x), (.ref y)] 2)) t := fun t k => castTop (ef_rm_same22 m x y) k
  have la2 : ∀ c ∈ ([c0, c1] : List Int32), ¬ c < 0 ∧ ¬ (255 : Int32) < c := by
    intro c hc
    simp only [List.mem_cons, List.not_mem_nil, or_false] at hc
    rcases hc with rfl | rfl
    · exact la_c0
    · exact la_c1
  have cd2 : StrChars.Road.CodA ([c0, c1] : List Int32) 0 (2 : Int32) [(.int c0.toInt8.toInt32), (.int c1.toInt8.toInt32)] := StrChars.Road.codOf (n := 2) rfl (fun x hx => (la2 x hx).2)
  have bd2 := own_up la2
  obtain ⟨cq1, kq1, q1a, q1b, q1c⟩ := isOf hZ e0 E_x
  obtain ⟨_, _, ⟨T1, L1, k1, n1⟩, -, X1, ⟨Lc1, hQ1, l1, y1, z1⟩, st1⟩ := X0.virtualBack hx (y := (⟨"java/lang/String", "length", "()I"⟩ : MethodName)) (z := (⟨"java/lang/String", "length", "()I"⟩ : MethodName)) hown (mvT hZ (own_w hw 63 rfl)) (mvT hZ (own_w hw 64 rfl)) (notFace_of_selects (args := #[]) (mvT hZ (own_w hw 66 rfl))) (mvT hZ (own_w hw 66 rfl)) (mvT hZ (own_w hw 65 rfl)) (by decide) (StrChars.Road.lenW (W := 0) hZ hwl (kI := 4) (own_w hw 6 rfl) (cs := [c0, c1]) E_x V_x C_x K_x cd2 bd2 (S_C.ext O0.2) hzc (by show 2 ≤ 4000; decide) (by decide) (by decide)) q1a q1c (g := (mkF m 1 #[.val (.ref x), .val (.ref y)] [(.ref x)])) rfl (by rw [hml]; rfl) (Steps.refl _) (argsL := []) (rest := []) (lenOf pd_9 rfl) rfl (by show 2 * 0 + _ ≤ _; exact Nat.le_of_eq rfl) (hb hby d11_1) (fun _ _ => ⟨rfl, e0, (by decide : 0 + 0 ≤ _), (by decide : 0 + 0 ≤ _)⟩)
  dsimp only [Pt.U, Pt.locs, Pt.cells, Pt.slots] at X1 l1 y1 z1 st1 hQ1
  subst l1 y1 z1
  obtain ⟨rfl, rfl, k3⟩ := hQ1
  have N4 := Fr.app N0 (Fr.nil n0)
  have la6 : ∀ c ∈ ([d0, d1] : List Int32), ¬ c < 0 ∧ ¬ (255 : Int32) < c := by
    intro c hc
    simp only [List.mem_cons, List.not_mem_nil, or_false] at hc
    rcases hc with rfl | rfl
    · exact la_d0
    · exact la_d1
  have cd6 : StrChars.Road.CodA ([d0, d1] : List Int32) 0 (2 : Int32) [(.int d0.toInt8.toInt32), (.int d1.toInt8.toInt32)] := StrChars.Road.codOf (n := 2) rfl (fun x hx => (la6 x hx).2)
  have bd6 := own_up la6
  obtain ⟨cq5, kq5, q5a, q5b, q5c⟩ := isOf hZ k3 E_y
  obtain ⟨_, _, ⟨T5, L5, k5, n5⟩, -, X5, ⟨Lc5, hQ5, l5, y5, z5⟩, st5⟩ := X1.virtualBack hx (y := (⟨"java/lang/String", "length", "()I"⟩ : MethodName)) (z := (⟨"java/lang/String", "length", "()I"⟩ : MethodName)) hown (mvT hZ (own_w hw 63 rfl)) (mvT hZ (own_w hw 64 rfl)) (notFace_of_selects (args := #[]) (mvT hZ (own_w hw 66 rfl))) (mvT hZ (own_w hw 66 rfl)) (mvT hZ (own_w hw 65 rfl)) (by decide) (StrChars.Road.lenW (W := 1) hZ hwl (kI := 4) (own_w hw 6 rfl) (cs := [d0, d1]) E_y V_y C_y K_y cd6 bd6 (S_C.ext O0.2) hzc (by show 2 ≤ 4000; decide) (by decide) (by decide)) q5a q5c (g := (mkF m 5 #[.val (.ref x), .val (.ref y)] [(.ref y), (.int (2 : Int32))])) rfl (by rw [hml]; rfl) (Steps.refl _) (argsL := []) (rest := [(.int (2 : Int32))]) (lenOf pd_9 rfl) rfl (by show 2 * 0 + _ ≤ _; exact Nat.le_of_eq rfl) (hb hby d11_5) (fun _ _ => ⟨rfl, k3, (by decide : 0 + 0 ≤ _), (by decide : 0 + 0 ≤ _)⟩)
  dsimp only [Pt.U, Pt.locs, Pt.cells, Pt.slots] at X5 l5 y5 z5 st5 hQ5
  subst l5 y5 z5
  obtain ⟨rfl, rfl, k7⟩ := hQ5
  have N8 := Fr.app N4 (Fr.nil n0)
  obtain ⟨cq9, kq9, q9a, q9b, q9c⟩ := isOf hZ k7 E_x
  obtain ⟨_, _, ⟨T9, L9, k9, n9⟩, -, X9, ⟨Lc9, hQ9, l9, y9, z9⟩, st9⟩ := X5.virtualBack hx (y := (⟨"java/lang/String", "length", "()I"⟩ : MethodName)) (z := (⟨"java/lang/String", "length", "()I"⟩ : MethodName)) hown (mvT hZ (own_w hw 63 rfl)) (mvT hZ (own_w hw 64 rfl)) (notFace_of_selects (args := #[]) (mvT hZ (own_w hw 66 rfl))) (mvT hZ (own_w hw 66 rfl)) (mvT hZ (own_w hw 65 rfl)) (by decide) (StrChars.Road.lenW (W := 0) hZ hwl (kI := 4) (own_w hw 6 rfl) (cs := [c0, c1]) E_x V_x C_x K_x cd2 bd2 (S_C.ext O0.2) hzc (by show 2 ≤ 4000; decide) (by decide) (by decide)) q9a q9c (g := (mkF m 14 #[.val (.ref x), .val (.ref y)] [(.ref x)])) rfl (by rw [hml]; rfl) (Steps.refl _) (argsL := []) (rest := []) (lenOf pd_9 rfl) rfl (by show 2 * 0 + _ ≤ _; exact Nat.le_of_eq rfl) (hb hby d11_14) (fun _ _ => ⟨rfl, k7, (by decide : 0 + 0 ≤ _), (by decide : 0 + 0 ≤ _)⟩)
  dsimp only [Pt.U, Pt.locs, Pt.cells, Pt.slots] at X9 l9 y9 z9 st9 hQ9
  subst l9 y9 z9
  obtain ⟨rfl, rfl, k10⟩ := hQ9
  have N11 := Fr.app N8 (Fr.nil n0)
  obtain ⟨cq12, kq12, q12a, q12b, q12c⟩ := isOf hZ k10 E_x
  obtain ⟨_, _, ⟨T12, L12, k12, n12⟩, -, X12, ⟨Lc12, hQ12, l12, y12, z12⟩, st12⟩ := X9.virtualBack hx (y := (⟨"java/lang/String", "charAt", "(I)C"⟩ : MethodName)) (z := (⟨"java/lang/String", "charAt", "(I)C"⟩ : MethodName)) hown (mvT hZ (own_w hw 108 rfl)) (mvT hZ (own_w hw 109 rfl)) (notFace_of_selects (args := #[]) (mvT hZ (own_w hw 111 rfl))) (mvT hZ (own_w hw 111 rfl)) (mvT hZ (own_w hw 110 rfl)) (by decide) (StrChars.Road.chN (W := 0) hZ hwc (kI := 4) (own_w hw 6 rfl) (cs := [c0, c1]) (i := 0) (j := (0 : Int32)) E_x V_x C_x K_x cd2 bd2 (S_C.ext O0.2) hzc (S_F.ext O0.2) hfm (by show 2 ≤ 4000; decide) (by show 0 < 2; decide) rfl (by decide) (by decide)) q12a q12c (g := (mkF m 23 #[.val (.ref x), .val (.ref y)] [(.int (0 : Int32)), (.ref x)])) rfl (by rw [hml]; rfl) (Steps.refl _) (argsL := [(.int (0 : Int32))]) (rest := []) (lenOf pd_10 rfl) rfl (by show 2 * 0 + _ ≤ _; exact Nat.le_of_eq rfl) (hb hby d11_23) (fun _ _ => ⟨rfl, k10, (by decide : 0 + 0 ≤ _), (by decide : 0 + 0 ≤ _)⟩)
  dsimp only [Pt.U, Pt.locs, Pt.cells, Pt.slots] at X12 l12 y12 z12 st12 hQ12
  subst l12 y12 z12
  obtain ⟨rfl, rfl, k13⟩ := hQ12
  have N14 := Fr.app N11 (Fr.nil n0)
  obtain ⟨cq15, kq15, q15a, q15b, q15c⟩ := isOf hZ k13 E_y
  obtain ⟨_, _, ⟨T15, L15, k15, n15⟩, -, X15, ⟨Lc15, hQ15, l15, y15, z15⟩, st15⟩ := X12.virtualBack hx (y := (⟨"java/lang/String", "charAt", "(I)C"⟩ : MethodName)) (z := (⟨"java/lang/String", "charAt", "(I)C"⟩ : MethodName)) hown (mvT hZ (own_w hw 108 rfl)) (mvT hZ (own_w hw 109 rfl)) (notFace_of_selects (args := #[]) (mvT hZ (own_w hw 111 rfl))) (mvT hZ (own_w hw 111 rfl)) (mvT hZ (own_w hw 110 rfl)) (by decide) (StrChars.Road.chN (W := 1) hZ hwc (kI := 4) (own_w hw 6 rfl) (cs := [d0, d1]) (i := 0) (j := (0 : Int32)) E_y V_y C_y K_y cd6 bd6 (S_C.ext O0.2) hzc (S_F.ext O0.2) hfm (by show 2 ≤ 4000; decide) (by show 0 < 2; decide) rfl (by decide) (by decide)) q15a q15c (g := (mkF m 28 #[.val (.ref x), .val (.ref y)] [(.int (0 : Int32)), (.ref y), (.int c0)])) rfl (by rw [hml]; rfl) (Steps.refl _) (argsL := [(.int (0 : Int32))]) (rest := [(.int c0)]) (lenOf pd_10 rfl) rfl (by show 2 * 0 + _ ≤ _; exact Nat.le_of_eq rfl) (hb hby d11_28) (fun _ _ => ⟨rfl, k13, (by decide : 0 + 0 ≤ _), (by decide : 0 + 0 ≤ _)⟩)
  dsimp only [Pt.U, Pt.locs, Pt.cells, Pt.slots] at X15 l15 y15 z15 st15 hQ15
  subst l15 y15 z15
  obtain ⟨rfl, rfl, k16⟩ := hQ15
  have N17 := Fr.app N14 (Fr.nil n0)
  have S18 : ∀ t, Steps p.tables e below (T15.setTop (mkF m 31 #[.val (.ref x), .val (.ref y)] [(.int d0), (.int c0)])) t → Steps p.tables e below (s₁.setTop (mkF m 0 #[.val (.ref x), .val (.ref y)] [])) t := by
    intro t kt
    refine XS.aloadN X0.here hx rfl (hb hby d11_0) rfl rfl ?_
    show Steps p.tables e below (s₁.setTop (mkF m 1 #[.val (.ref x), .val (.ref y)] [(.ref x)])) _
    refine st1.trans ?_
    refine XS.aloadN X1.here hx rfl (hb hby d11_4) rfl rfl ?_
    show Steps p.tables e below (T1.setTop (mkF m 5 #[.val (.ref x), .val (.ref y)] [(.ref y), (.int (2 : Int32))])) _
    refine st5.trans ?_
    refine XS.icmpYes X5.here hx rfl (pc0 := 8) (pc' := 13) rfl (hb hby d11_8) rfl (teq ((by decide) : (2 : Int32) = (2 : Int32))).1 (by decide) (by decide) ?_
    refine XS.aloadN X5.here hx rfl (hb hby d11_13) rfl rfl ?_
    show Steps p.tables e below (T5.setTop (mkF m 14 #[.val (.ref x), .val (.ref y)] [(.ref x)])) _
    refine st9.trans ?_
    refine XS.iconst X9.here hx rfl (hb hby d11_17) ?_
    refine XS.icmpNo X9.here hx rfl (hb hby d11_18) rfl (flt ((by decide) : ¬ ((2 : Int32) < (1 : Int32)))).1 ?_
    refine XS.aloadN X9.here hx rfl (hb hby d11_21) rfl rfl ?_
    refine XS.iconst X9.here hx rfl (hb hby d11_22) ?_
    show Steps p.tables e below (T9.setTop (mkF m 23 #[.val (.ref x), .val (.ref y)] [(.int (0 : Int32)), (.ref x)])) _
    refine st12.trans ?_
    refine XS.aloadN X12.here hx rfl (hb hby d11_26) rfl rfl ?_
    refine XS.iconst X12.here hx rfl (hb hby d11_27) ?_
    show Steps p.tables e below (T12.setTop (mkF m 28 #[.val (.ref x), .val (.ref y)] [(.int (0 : Int32)), (.ref y), (.int c0)])) _
    refine st15.trans ?_
    exact kt
  rcases Decidable.em (c0 = d0) with c19 | c19
  · obtain ⟨cq20, kq20, q20a, q20b, q20c⟩ := isOf hZ k16 E_x
    obtain ⟨_, _, ⟨T20, L20, k20, n20⟩, -, X20, ⟨Lc20, hQ20, l20, y20, z20⟩, st20⟩ := X15.virtualBack hx (y := (⟨"java/lang/String", "length", "()I"⟩ : MethodName)) (z := (⟨"java/lang/String", "length", "()I"⟩ : MethodName)) hown (mvT hZ (own_w hw 63 rfl)) (mvT hZ (own_w hw 64 rfl)) (notFace_of_selects (args := #[]) (mvT hZ (own_w hw 66 rfl))) (mvT hZ (own_w hw 66 rfl)) (mvT hZ (own_w hw 65 rfl)) (by decide) (StrChars.Road.lenW (W := 0) hZ hwl (kI := 4) (own_w hw 6 rfl) (cs := [c0, c1]) E_x V_x C_x K_x cd2 bd2 (S_C.ext O0.2) hzc (by show 2 ≤ 4000; decide) (by decide) (by decide)) q20a q20c (g := (mkF m 37 #[.val (.ref x), .val (.ref y)] [(.ref x)])) rfl (by rw [hml]; rfl) (Steps.refl _) (argsL := []) (rest := []) (lenOf pd_9 rfl) rfl (by show 2 * 0 + _ ≤ _; exact Nat.le_of_eq rfl) (hb hby d11_37) (fun _ _ => ⟨rfl, k16, (by decide : 0 + 0 ≤ _), (by decide : 0 + 0 ≤ _)⟩)
    dsimp only [Pt.U, Pt.locs, Pt.cells, Pt.slots] at X20 l20 y20 z20 st20 hQ20
    subst l20 y20 z20
    obtain ⟨rfl, rfl, k21⟩ := hQ20
    have N22 := Fr.app N17 (Fr.nil n0)
    obtain ⟨cq23, kq23, q23a, q23b, q23c⟩ := isOf hZ k21 E_x
    obtain ⟨_, _, ⟨T23, L23, k23, n23⟩, -, X23, ⟨Lc23, hQ23, l23, y23, z23⟩, st23⟩ := X20.virtualBack hx (y := (⟨"java/lang/String", "charAt", "(I)C"⟩ : MethodName)) (z := (⟨"java/lang/String", "charAt", "(I)C"⟩ : MethodName)) hown (mvT hZ (own_w hw 108 rfl)) (mvT hZ (own_w hw 109 rfl)) (notFace_of_selects (args := #[]) (mvT hZ (own_w hw 111 rfl))) (mvT hZ (own_w hw 111 rfl)) (mvT hZ (own_w hw 110 rfl)) (by decide) (StrChars.Road.chN (W := 0) hZ hwc (kI := 4) (own_w hw 6 rfl) (cs := [c0, c1]) (i := 1) (j := (1 : Int32)) E_x V_x C_x K_x cd2 bd2 (S_C.ext O0.2) hzc (S_F.ext O0.2) hfm (by show 2 ≤ 4000; decide) (by show 1 < 2; decide) rfl (by decide) (by decide)) q23a q23c (g := (mkF m 46 #[.val (.ref x), .val (.ref y)] [(.int (1 : Int32)), (.ref x)])) rfl (by rw [hml]; rfl) (Steps.refl _) (argsL := [(.int (1 : Int32))]) (rest := []) (lenOf pd_10 rfl) rfl (by show 2 * 0 + _ ≤ _; exact Nat.le_of_eq rfl) (hb hby d11_46) (fun _ _ => ⟨rfl, k21, (by decide : 0 + 0 ≤ _), (by decide : 0 + 0 ≤ _)⟩)
    dsimp only [Pt.U, Pt.locs, Pt.cells, Pt.slots] at X23 l23 y23 z23 st23 hQ23
    subst l23 y23 z23
    obtain ⟨rfl, rfl, k24⟩ := hQ23
    have N25 := Fr.app N22 (Fr.nil n0)
    obtain ⟨cq26, kq26, q26a, q26b, q26c⟩ := isOf hZ k24 E_y
    obtain ⟨_, _, ⟨T26, L26, k26, n26⟩, -, X26, ⟨Lc26, hQ26, l26, y26, z26⟩, st26⟩ := X23.virtualBack hx (y := (⟨"java/lang/String", "charAt", "(I)C"⟩ : MethodName)) (z := (⟨"java/lang/String", "charAt", "(I)C"⟩ : MethodName)) hown (mvT hZ (own_w hw 108 rfl)) (mvT hZ (own_w hw 109 rfl)) (notFace_of_selects (args := #[]) (mvT hZ (own_w hw 111 rfl))) (mvT hZ (own_w hw 111 rfl)) (mvT hZ (own_w hw 110 rfl)) (by decide) (StrChars.Road.chN (W := 1) hZ hwc (kI := 4) (own_w hw 6 rfl) (cs := [d0, d1]) (i := 1) (j := (1 : Int32)) E_y V_y C_y K_y cd6 bd6 (S_C.ext O0.2) hzc (S_F.ext O0.2) hfm (by show 2 ≤ 4000; decide) (by show 1 < 2; decide) rfl (by decide) (by decide)) q26a q26c (g := (mkF m 51 #[.val (.ref x), .val (.ref y)] [(.int (1 : Int32)), (.ref y), (.int c1)])) rfl (by rw [hml]; rfl) (Steps.refl _) (argsL := [(.int (1 : Int32))]) (rest := [(.int c1)]) (lenOf pd_10 rfl) rfl (by show 2 * 0 + _ ≤ _; exact Nat.le_of_eq rfl) (hb hby d11_51) (fun _ _ => ⟨rfl, k24, (by decide : 0 + 0 ≤ _), (by decide : 0 + 0 ≤ _)⟩)
    dsimp only [Pt.U, Pt.locs, Pt.cells, Pt.slots] at X26 l26 y26 z26 st26 hQ26
    subst l26 y26 z26
    obtain ⟨rfl, rfl, k27⟩ := hQ26
    have N28 := Fr.app N25 (Fr.nil n0)
    have S29 : ∀ t, Steps p.tables e below (T26.setTop (mkF m 54 #[.val (.ref x), .val (.ref y)] [(.int d1), (.int c1)])) t → Steps p.tables e below (s₁.setTop (mkF m 0 #[.val (.ref x), .val (.ref y)] [])) t := by
      intro t kt
      refine S18 t ?_
      refine XS.icmpYes X15.here hx rfl (pc0 := 31) (pc' := 36) rfl (hb hby d11_31) rfl (teq (c19 : c0 = d0)).1 (by decide) (by decide) ?_
      refine XS.aloadN X15.here hx rfl (hb hby d11_36) rfl rfl ?_
      show Steps p.tables e below (T15.setTop (mkF m 37 #[.val (.ref x), .val (.ref y)] [(.ref x)])) _
      refine st20.trans ?_
      refine XS.iconst X20.here hx rfl (hb hby d11_40) ?_
      refine XS.icmpNo X20.here hx rfl (hb hby d11_41) rfl (flt ((by decide) : ¬ ((2 : Int32) < (2 : Int32)))).1 ?_
      refine XS.aloadN X20.here hx rfl (hb hby d11_44) rfl rfl ?_
      refine XS.iconst X20.here hx rfl (hb hby d11_45) ?_
      show Steps p.tables e below (T20.setTop (mkF m 46 #[.val (.ref x), .val (.ref y)] [(.int (1 : Int32)), (.ref x)])) _
      refine st23.trans ?_
      refine XS.aloadN X23.here hx rfl (hb hby d11_49) rfl rfl ?_
      refine XS.iconst X23.here hx rfl (hb hby d11_50) ?_
      show Steps p.tables e below (T23.setTop (mkF m 51 #[.val (.ref x), .val (.ref y)] [(.int (1 : Int32)), (.ref y), (.int c1)])) _
      refine st26.trans ?_
      exact kt
    rcases Decidable.em (c1 = d1) with c30 | c30
    · have S31 : ∀ t, Steps p.tables e below (T26.setTop (mkF m 60 #[.val (.ref x), .val (.ref y)] [(.int (1 : Int32))])) t → Steps p.tables e below (s₁.setTop (mkF m 0 #[.val (.ref x), .val (.ref y)] [])) t := by
        intro t kt
        refine S29 t ?_
        refine XS.icmpYes X26.here hx rfl (pc0 := 54) (pc' := 59) rfl (hb hby d11_54) rfl (teq (c30 : c1 = d1)).1 (by decide) (by decide) ?_
        refine XS.iconst X26.here hx rfl (hb hby d11_59) ?_
        exact kt
      obtain ⟨fs, hr, hrun, hended, hW, hsame⟩ := X26.leave (v := some (.int (1 : Int32))) (fun h => by rw [Bd.returns] at h; cases h)
      refine ⟨_, _, pre0 _ (S31 _ ?_), hrun, hended, _, _, rfl, ?_, ⟨_, rfl⟩, hW, hsame.mono (by decide) (by decide)⟩
      · exact retN X26 hx (t := .boolean) Bd.returns (by simp) (hb hby d11_60) hr
      · show Q_rm_same22 Z x tx kx y ty ky c0 c1 d0 d1 zc fm h0 n0 _ T26.heap _
        rw [k27]
        exact ⟨(congrArg (fun z => some (Value.int z)) (if_pos (by rw [(c19 : c0 = d0), (c30 : c1 = d1)])).symm), N28, rfl⟩
    · have S32 : ∀ t, Steps p.tables e below (T26.setTop (mkF m 58 #[.val (.ref x), .val (.ref y)] [(.int (0 : Int32))])) t → Steps p.tables e below (s₁.setTop (mkF m 0 #[.val (.ref x), .val (.ref y)] [])) t := by
        intro t kt
        refine S29 t ?_
        refine XS.icmpNo X26.here hx rfl (hb hby d11_54) rfl (feq (c30 : ¬ (c1 = d1))).1 ?_
        refine XS.iconst X26.here hx rfl (hb hby d11_57) ?_
        exact kt
      obtain ⟨fs, hr, hrun, hended, hW, hsame⟩ := X26.leave (v := some (.int (0 : Int32))) (fun h => by rw [Bd.returns] at h; cases h)
      refine ⟨_, _, pre0 _ (S32 _ ?_), hrun, hended, _, _, rfl, ?_, ⟨_, rfl⟩, hW, hsame.mono (by decide) (by decide)⟩
      · exact retN X26 hx (t := .boolean) Bd.returns (by simp) (hb hby d11_58) hr
      · show Q_rm_same22 Z x tx kx y ty ky c0 c1 d0 d1 zc fm h0 n0 _ T26.heap _
        rw [k27]
        exact ⟨(congrArg (fun z => some (Value.int z)) (if_neg (fun q => (c30 : ¬ (c1 = d1)) (congrArg (fun l => l.getD 1 0) q))).symm), N28, rfl⟩
  · have S33 : ∀ t, Steps p.tables e below (T15.setTop (mkF m 35 #[.val (.ref x), .val (.ref y)] [(.int (0 : Int32))])) t → Steps p.tables e below (s₁.setTop (mkF m 0 #[.val (.ref x), .val (.ref y)] [])) t := by
      intro t kt
      refine S18 t ?_
      refine XS.icmpNo X15.here hx rfl (hb hby d11_31) rfl (feq (c19 : ¬ (c0 = d0))).1 ?_
      refine XS.iconst X15.here hx rfl (hb hby d11_34) ?_
      exact kt
    obtain ⟨fs, hr, hrun, hended, hW, hsame⟩ := X15.leave (v := some (.int (0 : Int32))) (fun h => by rw [Bd.returns] at h; cases h)
    refine ⟨_, _, pre0 _ (S33 _ ?_), hrun, hended, _, _, rfl, ?_, ⟨_, rfl⟩, hW, hsame.mono (by decide) (by decide)⟩
    · exact retN X15 hx (t := .boolean) Bd.returns (by simp) (hb hby d11_35) hr
    · show Q_rm_same22 Z x tx kx y ty ky c0 c1 d0 d1 zc fm h0 n0 _ T15.heap _
      rw [k16]
      exact ⟨(congrArg (fun z => some (Value.int z)) (if_neg (fun q => (c19 : ¬ (c0 = d0)) (congrArg (fun l => l.getD 0 0) q))).symm), N17, rfl⟩
def Q_rm_same (Z : State) (x : Addr) (tx : Addr) (kx : ClassId) (cs : List Int32) (y : Addr) (ty : Addr) (ky : ClassId) (ds : List Int32) (zc : Int32) (fm : Value) (h0 : Heap) (n0 : Nat) (v : Option Value) (h : Heap) (L : List Loc) : Prop := ((v = some (.int (own_eqI cs ds))) ∧ (Fr n0 L) ∧ (h = h0))
set_option maxRecDepth 65536 in
set_option maxHeartbeats 40000000 in
theorem rm_same (l : Launch) (Z : State) (a0 : Array Value) (hw : ∀ d ∈ tables_1, d.before a0 Z = true) (ws : List Jvm.Cond) (x : Addr) (tx : Addr) (kx : ClassId) (cs : List Int32) (y : Addr) (ty : Addr) (ky : ClassId) (ds : List Int32) (zc : Int32) (fm : Value) (h0 : Heap) (n0 : Nat) (O0 : Old Z n0 h0) (E_x : Exa Z h0 x "java/lang/String") (V_x : Fld Z h0 x "java/lang/String" "value" "[B" (.ref tx)) (C_x : Fld Z h0 x "java/lang/String" "coder" "B" (.int (0 : Int32))) (T_x : (cs).length = 2 → Exa Z h0 tx "[B") (K_x : Arv Z h0 tx kx .byte (own_len cs) (own_vs cs) (.int (0 : Int32))) (E_y : Exa Z h0 y "java/lang/String") (V_y : Fld Z h0 y "java/lang/String" "value" "[B" (.ref ty)) (C_y : Fld Z h0 y "java/lang/String" "coder" "B" (.int (0 : Int32))) (T_y : (ds).length = 2 → Exa Z h0 ty "[B") (K_y : Arv Z h0 ty ky .byte (own_len ds) (own_vs ds) (.int (0 : Int32))) (okx : own_ok cs) (oky : own_ok ds) (S_C : Sta Z Z.heap "java/lang/String" "COMPACT_STRINGS" "Z" (.int zc)) (hzc : ¬ (zc = (0 : Int32))) (S_F : Sta Z Z.heap "jdk/internal/util/Preconditions" "SIOOBE_FORMATTER" "Ljava/util/function/BiFunction;" fm) (hfm : fm.isRef = true) :
    MetFree l (⟨"com/example/typecheck/typecheck/model/QNameEqualsPinLaw", "same", "(Ljava/lang/String;Ljava/lang/String;)Z"⟩ : MethodName) (head1 (Jvm.Cond.code (⟨"com/example/typecheck/typecheck/model/QNameEqualsPinLaw", "same", "(Ljava/lang/String;Ljava/lang/String;)Z"⟩ : MethodName) method_3_code 2 (some .boolean) :: ws) ({ frames := 5, cells := 0, slots := 0, locals := 70 } : Room)) (fun a U => a = #[(.ref x), (.ref y)] ∧ Z.Warmed39 U.vm ∧ U.heap = h0) (fun _ _ _ _ _ => True) (fun _ U o U' => ∃ v L, o = .returned v ∧ Q_rm_same Z x tx kx cs y ty ky ds zc fm h0 n0 v U'.heap L ∧ FrameEnd U o U' L ({ frames := 5, cells := 0, slots := 0, locals := 70 } : Room).cells ({ frames := 5, cells := 0, slots := 0, locals := 70 } : Room).slots) := by
  rcases own_split okx with rfl | ⟨c0, rfl⟩ | ⟨c0, c1, rfl⟩
  · rcases own_split oky with rfl | ⟨d0, rfl⟩ | ⟨d0, d1, rfl⟩
    · exact rm_same00 l Z a0 hw ws x tx kx y ty ky  zc fm h0 n0 O0 E_x V_x C_x K_x E_y V_y C_y K_y  S_C hzc S_F hfm
    · exact rm_same01 l Z a0 hw ws x tx kx y ty ky d0 zc fm h0 n0 O0 E_x V_x C_x K_x E_y V_y C_y K_y (oky.2 d0 (by simp)) S_C hzc S_F hfm
    · exact rm_same02 l Z a0 hw ws x tx kx y ty ky d0 d1 zc fm h0 n0 O0 E_x V_x C_x K_x E_y V_y C_y K_y (oky.2 d0 (by simp)) (oky.2 d1 (by simp)) S_C hzc S_F hfm
  · rcases own_split oky with rfl | ⟨d0, rfl⟩ | ⟨d0, d1, rfl⟩
    · exact rm_same10 l Z a0 hw ws x tx kx y ty ky c0 zc fm h0 n0 O0 E_x V_x C_x K_x E_y V_y C_y K_y (okx.2 c0 (by simp)) S_C hzc S_F hfm
    · exact rm_same11 l Z a0 hw ws x tx kx y ty ky c0 d0 zc fm h0 n0 O0 E_x V_x C_x K_x E_y V_y C_y K_y (okx.2 c0 (by simp)) (oky.2 d0 (by simp)) S_C hzc S_F hfm
    · exact rm_same12 l Z a0 hw ws x tx kx y ty ky c0 d0 d1 zc fm h0 n0 O0 E_x V_x C_x K_x E_y V_y C_y K_y (okx.2 c0 (by simp)) (oky.2 d0 (by simp)) (oky.2 d1 (by simp)) S_C hzc S_F hfm
  · rcases own_split oky with rfl | ⟨d0, rfl⟩ | ⟨d0, d1, rfl⟩
    · exact rm_same20 l Z a0 hw ws x tx kx y ty ky c0 c1 zc fm h0 n0 O0 E_x V_x C_x K_x E_y V_y C_y K_y (okx.2 c0 (by simp)) (okx.2 c1 (by simp)) S_C hzc S_F hfm
    · exact rm_same21 l Z a0 hw ws x tx kx y ty ky c0 c1 d0 zc fm h0 n0 O0 E_x V_x C_x K_x E_y V_y C_y K_y (okx.2 c0 (by simp)) (okx.2 c1 (by simp)) (oky.2 d0 (by simp)) S_C hzc S_F hfm
    · exact rm_same22 l Z a0 hw ws x tx kx y ty ky c0 c1 d0 d1 zc fm h0 n0 O0 E_x V_x C_x K_x E_y V_y C_y K_y (okx.2 c0 (by simp)) (okx.2 c1 (by simp)) (oky.2 d0 (by simp)) (oky.2 d1 (by simp)) S_C hzc S_F hfm
theorem d12_0 : decode prog_176_method_1_code 0 = .ok (.aload_n 0, 1) := by decide +kernel
theorem d12_1 : decode prog_176_method_1_code 1 = .ok (.invokespecial 1, 3) := by decide +kernel
theorem d12_4 : decode prog_176_method_1_code 4 = .ok (.aload_n 0, 1) := by decide +kernel
theorem d12_5 : decode prog_176_method_1_code 5 = .ok (.aload_n 1, 1) := by decide +kernel
theorem d12_6 : decode prog_176_method_1_code 6 = .ok (.putfield 7, 3) := by decide +kernel
theorem d12_9 : decode prog_176_method_1_code 9 = .ok (.aload_n 0, 1) := by decide +kernel
theorem d12_10 : decode prog_176_method_1_code 10 = .ok (.aload_n 2, 1) := by decide +kernel
theorem d12_11 : decode prog_176_method_1_code 11 = .ok (.putfield 13, 3) := by decide +kernel
theorem d12_14 : decode prog_176_method_1_code 14 = .ok (.aload_n 0, 1) := by decide +kernel
theorem d12_15 : decode prog_176_method_1_code 15 = .ok (.aload_n 3, 1) := by decide +kernel
theorem d12_16 : decode prog_176_method_1_code 16 = .ok (.putfield 16, 3) := by decide +kernel
theorem d12_19 : decode prog_176_method_1_code 19 = .ok (.aload_n 0, 1) := by decide +kernel
theorem d12_20 : decode prog_176_method_1_code 20 = .ok (.bipush 31, 2) := by decide +kernel
theorem d12_22 : decode prog_176_method_1_code 22 = .ok (.aload_n 2, 1) := by decide +kernel
theorem d12_23 : decode prog_176_method_1_code 23 = .ok (.invokevirtual 19, 3) := by decide +kernel
theorem d12_26 : decode prog_176_method_1_code 26 = .ok (.imul, 1) := by decide +kernel
theorem d12_27 : decode prog_176_method_1_code 27 = .ok (.aload_n 3, 1) := by decide +kernel
theorem d12_28 : decode prog_176_method_1_code 28 = .ok (.invokevirtual 19, 3) := by decide +kernel
theorem d12_31 : decode prog_176_method_1_code 31 = .ok (.iadd, 1) := by decide +kernel
theorem d12_32 : decode prog_176_method_1_code 32 = .ok (.putfield 25, 3) := by decide +kernel
theorem d12_35 : decode prog_176_method_1_code 35 = .ok (.return_, 1) := by decide +kernel
theorem pn_5 : plainName "com/example/typecheck/typecheck/model/QName" = true := by first | (simp [plainName, overriddenIn]; done) | decide +kernel
theorem ef_rm_qini (m : MethodId) (x0 : Addr) (x1 : Addr) (x2 : Addr) (x3 : Addr) : entryFrame m #[(.ref x0), (.ref x1), (.ref x2), (.ref x3)] 4 = mkF m 0 #[.val (.ref x0), .val (.ref x1), .val (.ref x2), .val (.ref x3)] [] := by first | (simp [entryFrame, mkF, argsToLocals, Value.category]; done) | rfl
def Q_rm_qini (Z : State) (q : Addr) (pf : Addr) (x : Addr) (tx : Addr) (kx : ClassId) (cs : List Int32) (y : Addr) (ty : Addr) (ky : ClassId) (ds : List Int32) (zc : Int32) (h0 : Heap) (n0 : Nat) (v : Option Value) (h : Heap) (L : List Loc) : Prop := ((v = none) ∧ (Fr n0 L) ∧ (Keep h0 h [q, x, y]) ∧ (Exa Z h q "com/example/typecheck/typecheck/model/QName") ∧ (Fld Z h q "com/example/typecheck/typecheck/model/QName" "namespace" "Ljava/lang/String;" (.ref x)) ∧ (Fld Z h q "com/example/typecheck/typecheck/model/QName" "localName" "Ljava/lang/String;" (.ref y)) ∧ (Fld Z h q "com/example/typecheck/typecheck/model/QName" "hash" "I" (.int (((31 : Int32) * (own_H cs)) + (own_H ds)))) ∧ (Exa Z h x "java/lang/String") ∧ (Fld Z h x "java/lang/String" "value" "[B" (.ref tx)) ∧ (Fld Z h x "java/lang/String" "coder" "B" (.int (0 : Int32))) ∧ (Exa Z h y "java/lang/String") ∧ (Fld Z h y "java/lang/String" "value" "[B" (.ref ty)) ∧ (Fld Z h y "java/lang/String" "coder" "B" (.int (0 : Int32))))
set_option maxRecDepth 65536 in
set_option maxHeartbeats 40000000 in
theorem rm_qini (l : Launch) (Z : State) (a0 : Array Value) (hw : ∀ d ∈ tables_1, d.before a0 Z = true) (ws : List Jvm.Cond) (q : Addr) (pf : Addr) (x : Addr) (tx : Addr) (kx : ClassId) (cs : List Int32) (y : Addr) (ty : Addr) (ky : ClassId) (ds : List Int32) (zc : Int32) (h0 : Heap) (n0 : Nat) (O0 : Old Z n0 h0) (E_q : Exa Z h0 q "com/example/typecheck/typecheck/model/QName") (g_q : n0 ≤ q) (F_prefix : Fld Z h0 q "com/example/typecheck/typecheck/model/QName" "prefix" "Ljava/lang/String;" .null) (F_namespace : Fld Z h0 q "com/example/typecheck/typecheck/model/QName" "namespace" "Ljava/lang/String;" .null) (F_localName : Fld Z h0 q "com/example/typecheck/typecheck/model/QName" "localName" "Ljava/lang/String;" .null) (F_hash : Fld Z h0 q "com/example/typecheck/typecheck/model/QName" "hash" "I" (.int (0 : Int32))) (E_x : Exa Z h0 x "java/lang/String") (V_x : Fld Z h0 x "java/lang/String" "value" "[B" (.ref tx)) (C_x : Fld Z h0 x "java/lang/String" "coder" "B" (.int (0 : Int32))) (T_x : (cs).length = 2 → Exa Z h0 tx "[B") (K_x : Arv Z h0 tx kx .byte (own_len cs) (own_vs cs) (.int (0 : Int32))) (H_x : Fld Z h0 x "java/lang/String" "hash" "I" (.int (0 : Int32))) (Z_x : Fld Z h0 x "java/lang/String" "hashIsZero" "Z" (.int (0 : Int32))) (g_x : n0 ≤ x) (E_y : Exa Z h0 y "java/lang/String") (V_y : Fld Z h0 y "java/lang/String" "value" "[B" (.ref ty)) (C_y : Fld Z h0 y "java/lang/String" "coder" "B" (.int (0 : Int32))) (T_y : (ds).length = 2 → Exa Z h0 ty "[B") (K_y : Arv Z h0 ty ky .byte (own_len ds) (own_vs ds) (.int (0 : Int32))) (H_y : Fld Z h0 y "java/lang/String" "hash" "I" (.int (0 : Int32))) (Z_y : Fld Z h0 y "java/lang/String" "hashIsZero" "Z" (.int (0 : Int32))) (g_y : n0 ≤ y) (ne_xy : x ≠ y) (okx : own_ok cs) (oky : own_ok ds) (S_C : Sta Z Z.heap "java/lang/String" "COMPACT_STRINGS" "Z" (.int zc)) (hzc : ¬ (zc = (0 : Int32))) :
    MetFree l (⟨"com/example/typecheck/typecheck/model/QName", "<init>", "(Ljava/lang/String;Ljava/lang/String;Ljava/lang/String;)V"⟩ : MethodName) (head1 (Jvm.Cond.code (⟨"com/example/typecheck/typecheck/model/QName", "<init>", "(Ljava/lang/String;Ljava/lang/String;Ljava/lang/String;)V"⟩ : MethodName) prog_176_method_1_code 4 none :: ws) ({ frames := 4, cells := 0, slots := 0, locals := 60 } : Room)) (fun a U => a = #[(.ref q), (.ref pf), (.ref x), (.ref y)] ∧ Z.Warmed39 U.vm ∧ U.heap = h0) (fun _ _ _ _ _ => True) (fun _ U o U' => ∃ v L, o = .returned v ∧ Q_rm_qini Z q pf x tx kx cs y ty ky ds zc h0 n0 v U'.heap L ∧ FrameEnd U o U' L ({ frames := 4, cells := 0, slots := 0, locals := 60 } : Room).cells ({ frames := 4, cells := 0, slots := 0, locals := 60 } : Room).slots) := by
  refine MetFree.of_bodySF (plainFor_of_name pn_5) hisR ?_
  intro p e s m args below meth c s₁ Bd hml0 hP hK
  obtain ⟨rfl, hZ, hh⟩ := hP
  have hx := Bd.exec
  have hby := Bd.bytes
  have hml : c.maxLocals = 4 := hml0
  have hown : s.vm.findClass "com/example/typecheck/typecheck/model/QName" = some m.cls := findClass_of_methodNamed Bd.named
  have hnm := (name_of_methodNamed Bd.named Bd.method).1
  have X0 : Stand p l e ({ frames := 4, cells := 0, slots := 0, locals := 60 } : Room) s m #[(.ref q), (.ref pf), (.ref x), (.ref y)] below meth c s₁ [] 0 0 := Stand.of_body Bd
  have e0 : s₁.heap = h0 := by rw [← hh, Bd.state]; rfl
  have N0 := Fr.nil n0
  have hwl : ∀ d ∈ StrChars.Road.wordsLen, d.before a0 Z = true := fun d hd => hw d (own_wordsLen d hd)
  have hwc : ∀ d ∈ StrChars.Road.wordsChN, d.before a0 Z = true := fun d hd => hw d (own_wordsChN d hd)
  have hwq : ∀ d ∈ StrChars.Road.wordsEq, d.before a0 Z = true := fun d hd => hw d (own_wordsEq d hd)
  have K0 : Keep h0 h0 [q, x, y] := Keep.refl _ _
  have pre0 : ∀ t, Steps p.tables e below (s₁.setTop (mkF m 0 #[.val (.ref q), .val (.ref pf), .val (.ref x), .val (.ref y)] [])) t → Steps p.tables e below (s₁.setTop (entryFrame m #[(.ref q), (.ref pf), (.ref x), (.ref y)] 4)) t := fun t k => castTop (ef_rm_qini m q pf x y) k
  have ne1 : q ≠ tx := own_arvne (own_w hw 27 rfl) E_q K_x
  have ne2 : q ≠ ty := own_arvne (own_w hw 27 rfl) E_q K_y
  have ne3 : x ≠ tx := own_arvne (own_w hw 6 rfl) E_x K_x
  have ne4 : x ≠ ty := own_arvne (own_w hw 6 rfl) E_x K_y
  have ne5 : y ≠ tx := own_arvne (own_w hw 6 rfl) E_y K_x
  have ne6 : y ≠ ty := own_arvne (own_w hw 6 rfl) E_y K_y
  obtain ⟨T7, X7, e7, st7⟩ := initO X0 hx hZ hown (own_w hw 32 rfl) (own_w hw 16 rfl) (own_w hw 17 rfl) e0 (g := (mkF m 1 #[.val (.ref q), .val (.ref pf), .val (.ref x), .val (.ref y)] [(.ref q)])) rfl (by rw [hml]; rfl) rfl (hb hby d12_1) (by decide) (W := 0) (by show 2 * 0 + _ ≤ _; exact Nat.le_of_eq rfl) (by decide)
  obtain ⟨T8, h8, X8, e8, W8, st8⟩ := putF X7 hx hZ hown (host := "") (Or.inl (own_w hw 33 rfl)) Via.refl e7 F_prefix E_q (Or.inr ⟨(own_w hw 34 rfl), rfl, hnm⟩) (own_w hw 27 rfl) (ty := (.object "java/lang/String")) (by decide) rfl rfl (g := (mkF m 6 #[.val (.ref q), .val (.ref pf), .val (.ref x), .val (.ref y)] [(.ref pf), (.ref q)])) rfl rfl (hb hby d12_6)
  have O9 := O0.wr W8 g_q
  have K10 : Keep h0 h8 [q, x, y] := K0.wr W8 (Or.inl (List.mem_of_getElem? (i := 0) rfl))
  have N11 := Fr.snoc X8 N0 g_q
  have F8 : Fld Z h8 q "com/example/typecheck/typecheck/model/QName" "prefix" "Ljava/lang/String;" (.ref pf) := Fld.same W8 F_prefix
  have f12 := (Fld.other W8 F_namespace (Or.inr (slot_ne (Or.inr (own_w hw 36 rfl)) (Or.inr (own_w hw 34 rfl)) (by decide) (t := (.object "java/lang/String")) (t' := (.object "java/lang/String")) (by decide) (by decide))))
  have f13 := (Exa.wr W8 E_q)
  obtain ⟨T14, h14, X14, e14, W14, st14⟩ := putF X8 hx hZ hown (host := "") (Or.inl (own_w hw 35 rfl)) Via.refl e8 f12 f13 (Or.inr ⟨(own_w hw 36 rfl), rfl, hnm⟩) (own_w hw 27 rfl) (ty := (.object "java/lang/String")) (by decide) rfl rfl (g := (mkF m 11 #[.val (.ref q), .val (.ref pf), .val (.ref x), .val (.ref y)] [(.ref x), (.ref q)])) rfl rfl (hb hby d12_11)
  have O15 := O9.wr W14 g_q
  have K16 : Keep h0 h14 [q, x, y] := K10.wr W14 (Or.inl (List.mem_of_getElem? (i := 0) rfl))
  have N17 := Fr.snoc X14 N11 g_q
  have F14 : Fld Z h14 q "com/example/typecheck/typecheck/model/QName" "namespace" "Ljava/lang/String;" (.ref x) := Fld.same W14 f12
  have f18 := (Fld.other W14 (Fld.other W8 F_localName (Or.inr (slot_ne (Or.inr (own_w hw 38 rfl)) (Or.inr (own_w hw 34 rfl)) (by decide) (t := (.object "java/lang/String")) (t' := (.object "java/lang/String")) (by decide) (by decide)))) (Or.inr (slot_ne (Or.inr (own_w hw 38 rfl)) (Or.inr (own_w hw 36 rfl)) (by decide) (t := (.object "java/lang/String")) (t' := (.object "java/lang/String")) (by decide) (by decide))))
  have f19 := (Exa.wr W14 f13)
  obtain ⟨T20, h20, X20, e20, W20, st20⟩ := putF X14 hx hZ hown (host := "") (Or.inl (own_w hw 37 rfl)) Via.refl e14 f18 f19 (Or.inr ⟨(own_w hw 38 rfl), rfl, hnm⟩) (own_w hw 27 rfl) (ty := (.object "java/lang/String")) (by decide) rfl rfl (g := (mkF m 16 #[.val (.ref q), .val (.ref pf), .val (.ref x), .val (.ref y)] [(.ref y), (.ref q)])) rfl rfl (hb hby d12_16)
  have O21 := O15.wr W20 g_q
  have K22 : Keep h0 h20 [q, x, y] := K16.wr W20 (Or.inl (List.mem_of_getElem? (i := 0) rfl))
  have N23 := Fr.snoc X20 N17 g_q
  have F20 : Fld Z h20 q "com/example/typecheck/typecheck/model/QName" "localName" "Ljava/lang/String;" (.ref y) := Fld.same W20 f18
  have f25 := (Exa.wr W20 (Exa.wr W14 (Exa.wr W8 E_x)))
  have f26 := (Exa.wr W20 f19)
  have f27 := (Fld.other W20 (Fld.other W14 (Fld.other W8 V_x (Or.inl (own_exane f25 f26 (by decide)))) (Or.inl (own_exane f25 f26 (by decide)))) (Or.inl (own_exane f25 f26 (by decide))))
  have f28 := (Fld.other W20 (Fld.other W14 (Fld.other W8 C_x (Or.inl (own_exane f25 f26 (by decide)))) (Or.inl (own_exane f25 f26 (by decide)))) (Or.inl (own_exane f25 f26 (by decide))))
  have f29 := (fun q => Exa.wr W20 ((fun q => Exa.wr W14 ((fun q => Exa.wr W8 (T_x q)) q)) q))
  have f30 := (Arv.other (Arv.other (Arv.other K_x W8 (Ne.symm ne1)) W14 (Ne.symm ne1)) W20 (Ne.symm ne1))
  have f31 := (Fld.other W20 (Fld.other W14 (Fld.other W8 H_x (Or.inl (own_exane f25 f26 (by decide)))) (Or.inl (own_exane f25 f26 (by decide)))) (Or.inl (own_exane f25 f26 (by decide))))
  have f32 := (Fld.other W20 (Fld.other W14 (Fld.other W8 Z_x (Or.inl (own_exane f25 f26 (by decide)))) (Or.inl (own_exane f25 f26 (by decide)))) (Or.inl (own_exane f25 f26 (by decide))))
  obtain ⟨cq24, kq24, q24a, q24b, q24c⟩ := isOf hZ e20 f25
  obtain ⟨_, _, ⟨T24, L24, k24, n24⟩, -, X24, ⟨Lc24, hQ24, l24, y24, z24⟩, st24⟩ := X20.virtualBack hx (y := (⟨"java/lang/String", "hashCode", "()I"⟩ : MethodName)) (z := (⟨"java/lang/String", "hashCode", "()I"⟩ : MethodName)) hown (mvT hZ (own_w hw 39 rfl)) (mvT hZ (own_w hw 40 rfl)) (notFace_of_selects (args := #[]) (mvT hZ (own_w hw 42 rfl))) (mvT hZ (own_w hw 42 rfl)) (mvT hZ (own_w hw 41 rfl)) (by decide) (backOf (W := 2) (rm_hash l Z a0 hw [] x tx kx cs zc h20 n0 O21 f25 f27 f28 f29 f30 f31 f32 g_x okx S_C hzc) hZ (own_w hw 43 rfl) (own_w hw 7 rfl) (by decide) (by decide)) q24a q24c (g := (mkF m 23 #[.val (.ref q), .val (.ref pf), .val (.ref x), .val (.ref y)] [(.ref x), (.int (31 : Int32)), (.ref q)])) rfl (by rw [hml]; rfl) (Steps.refl _) (argsL := []) (rest := [(.int (31 : Int32)), (.ref q)]) (lenOf pd_9 rfl) rfl (by show 2 * 0 + _ ≤ _; exact Nat.le_of_eq rfl) (hb hby d12_23) (fun _ _ => ⟨rfl, e20, (by decide : 0 + 0 ≤ _), (by decide : 0 + 0 ≤ _)⟩)
  dsimp only [Pt.U, Pt.locs, Pt.cells, Pt.slots] at X24 l24 y24 z24 st24 hQ24
  subst l24 y24 z24
  obtain ⟨rfl, N33, k34, f35, f36, f37⟩ := hQ24
  have N38 := Fr.app N23 N33
  have O39 := O21.keep k34 (allS g_x all0)
  have K40 : Keep h0 T24.heap [q, x, y] := K22.trans k34 (allS (Or.inl (List.mem_of_getElem? (i := 1) rfl)) all0)
  have f42 := (Exa.keep (Exa.wr W20 (Exa.wr W14 (Exa.wr W8 E_y))) k34)
  have f43 := (Exa.keep f26 k34)
  have f44 := (Fld.keep (Fld.other W20 (Fld.other W14 (Fld.other W8 V_y (Or.inl (own_exane f42 f43 (by decide)))) (Or.inl (own_exane f42 f43 (by decide)))) (Or.inl (own_exane f42 f43 (by decide)))) k34 (ninS (Ne.symm ne_xy) nin0))
  have f45 := (Fld.keep (Fld.other W20 (Fld.other W14 (Fld.other W8 C_y (Or.inl (own_exane f42 f43 (by decide)))) (Or.inl (own_exane f42 f43 (by decide)))) (Or.inl (own_exane f42 f43 (by decide)))) k34 (ninS (Ne.symm ne_xy) nin0))
  have f46 := (fun q => Exa.keep ((fun q => Exa.wr W20 ((fun q => Exa.wr W14 ((fun q => Exa.wr W8 (T_y q)) q)) q)) q) k34)
  have f47 := (Arv.keep (Arv.other (Arv.other (Arv.other K_y W8 (Ne.symm ne2)) W14 (Ne.symm ne2)) W20 (Ne.symm ne2)) k34 (ninS (Ne.symm ne4) nin0))
  have f48 := (Fld.keep (Fld.other W20 (Fld.other W14 (Fld.other W8 H_y (Or.inl (own_exane f42 f43 (by decide)))) (Or.inl (own_exane f42 f43 (by decide)))) (Or.inl (own_exane f42 f43 (by decide)))) k34 (ninS (Ne.symm ne_xy) nin0))
  have f49 := (Fld.keep (Fld.other W20 (Fld.other W14 (Fld.other W8 Z_y (Or.inl (own_exane f42 f43 (by decide)))) (Or.inl (own_exane f42 f43 (by decide)))) (Or.inl (own_exane f42 f43 (by decide)))) k34 (ninS (Ne.symm ne_xy) nin0))
  obtain ⟨cq41, kq41, q41a, q41b, q41c⟩ := isOf hZ rfl f42
  obtain ⟨_, _, ⟨T41, L41, k41, n41⟩, -, X41, ⟨Lc41, hQ41, l41, y41, z41⟩, st41⟩ := X24.virtualBack hx (y := (⟨"java/lang/String", "hashCode", "()I"⟩ : MethodName)) (z := (⟨"java/lang/String", "hashCode", "()I"⟩ : MethodName)) hown (mvT hZ (own_w hw 39 rfl)) (mvT hZ (own_w hw 40 rfl)) (notFace_of_selects (args := #[]) (mvT hZ (own_w hw 42 rfl))) (mvT hZ (own_w hw 42 rfl)) (mvT hZ (own_w hw 41 rfl)) (by decide) (backOf (W := 2) (rm_hash l Z a0 hw [] y ty ky ds zc T24.heap n0 O39 f42 f44 f45 f46 f47 f48 f49 g_y oky S_C hzc) hZ (own_w hw 43 rfl) (own_w hw 7 rfl) (by decide) (by decide)) q41a q41c (g := (mkF m 28 #[.val (.ref q), .val (.ref pf), .val (.ref x), .val (.ref y)] [(.ref y), (.int ((31 : Int32) * (own_H cs))), (.ref q)])) rfl (by rw [hml]; rfl) (Steps.refl _) (argsL := []) (rest := [(.int ((31 : Int32) * (own_H cs))), (.ref q)]) (lenOf pd_9 rfl) rfl (by show 2 * 0 + _ ≤ _; exact Nat.le_of_eq rfl) (hb hby d12_28) (fun _ _ => ⟨rfl, rfl, (by decide : 0 + 0 ≤ _), (by decide : 0 + 0 ≤ _)⟩)
  dsimp only [Pt.U, Pt.locs, Pt.cells, Pt.slots] at X41 l41 y41 z41 st41 hQ41
  subst l41 y41 z41
  obtain ⟨rfl, N50, k51, f52, f53, f54⟩ := hQ41
  have N55 := Fr.app N38 N50
  have O56 := O39.keep k51 (allS g_y all0)
  have K57 : Keep h0 T41.heap [q, x, y] := K40.trans k51 (allS (Or.inl (List.mem_of_getElem? (i := 2) rfl)) all0)
  have f58 := (Exa.keep f43 k51)
  have f59 := (Exa.keep f35 k51)
  have f60 := (Fld.keep (Fld.keep (Fld.other W20 (Fld.other W14 (Fld.other W8 F_hash (Or.inr (slot_ne (Or.inr (own_w hw 59 rfl)) (Or.inr (own_w hw 34 rfl)) (by decide) (t := .int) (t' := (.object "java/lang/String")) (by decide) (by decide)))) (Or.inr (slot_ne (Or.inr (own_w hw 59 rfl)) (Or.inr (own_w hw 36 rfl)) (by decide) (t := .int) (t' := (.object "java/lang/String")) (by decide) (by decide)))) (Or.inr (slot_ne (Or.inr (own_w hw 59 rfl)) (Or.inr (own_w hw 38 rfl)) (by decide) (t := .int) (t' := (.object "java/lang/String")) (by decide) (by decide)))) k34 (ninS (own_exane f58 f59 (by decide)) nin0)) k51 (ninS (own_exane f58 f52 (by decide)) nin0))
  obtain ⟨T61, h61, X61, e61, W61, st61⟩ := putF X41 hx hZ hown (host := "") (Or.inl (own_w hw 58 rfl)) Via.refl rfl f60 f58 (Or.inr ⟨(own_w hw 59 rfl), rfl, hnm⟩) (own_w hw 27 rfl) (ty := .int) (by decide) rfl rfl (g := (mkF m 32 #[.val (.ref q), .val (.ref pf), .val (.ref x), .val (.ref y)] [(.int (((31 : Int32) * (own_H cs)) + (own_H ds))), (.ref q)])) rfl rfl (hb hby d12_32)
  have O62 := O56.wr W61 g_q
  have K63 : Keep h0 h61 [q, x, y] := K57.wr W61 (Or.inl (List.mem_of_getElem? (i := 0) rfl))
  have N64 := Fr.snoc X61 N55 g_q
  have F61 : Fld Z h61 q "com/example/typecheck/typecheck/model/QName" "hash" "I" (.int (((31 : Int32) * (own_H cs)) + (own_H ds))) := Fld.same W61 f60
  have S65 : ∀ t, Steps p.tables e below (T61.setTop (mkF m 35 #[.val (.ref q), .val (.ref pf), .val (.ref x), .val (.ref y)] [])) t → Steps p.tables e below (s₁.setTop (mkF m 0 #[.val (.ref q), .val (.ref pf), .val (.ref x), .val (.ref y)] [])) t := by
    intro t kt
    refine XS.aloadN X0.here hx rfl (hb hby d12_0) rfl rfl ?_
    show Steps p.tables e below (s₁.setTop (mkF m 1 #[.val (.ref q), .val (.ref pf), .val (.ref x), .val (.ref y)] [(.ref q)])) _
    refine st7 _ ?_
    refine XS.aloadN X7.here hx rfl (hb hby d12_4) rfl rfl ?_
    refine XS.aloadN X7.here hx rfl (hb hby d12_5) rfl rfl ?_
    show Steps p.tables e below (T7.setTop (mkF m 6 #[.val (.ref q), .val (.ref pf), .val (.ref x), .val (.ref y)] [(.ref pf), (.ref q)])) _
    refine st8 _ ?_
    refine XS.aloadN X8.here hx rfl (hb hby d12_9) rfl rfl ?_
    refine XS.aloadN X8.here hx rfl (hb hby d12_10) rfl rfl ?_
    show Steps p.tables e below (T8.setTop (mkF m 11 #[.val (.ref q), .val (.ref pf), .val (.ref x), .val (.ref y)] [(.ref x), (.ref q)])) _
    refine st14 _ ?_
    refine XS.aloadN X14.here hx rfl (hb hby d12_14) rfl rfl ?_
    refine XS.aloadN X14.here hx rfl (hb hby d12_15) rfl rfl ?_
    show Steps p.tables e below (T14.setTop (mkF m 16 #[.val (.ref q), .val (.ref pf), .val (.ref x), .val (.ref y)] [(.ref y), (.ref q)])) _
    refine st20 _ ?_
    refine XS.aloadN X20.here hx rfl (hb hby d12_19) rfl rfl ?_
    refine XS.bipush X20.here hx rfl (hb hby d12_20) ?_
    refine XS.aloadN X20.here hx rfl (hb hby d12_22) rfl rfl ?_
    show Steps p.tables e below (T20.setTop (mkF m 23 #[.val (.ref q), .val (.ref pf), .val (.ref x), .val (.ref y)] [(.ref x), (.int (31 : Int32)), (.ref q)])) _
    refine st24.trans ?_
    refine XS.imul X24.here hx rfl (hb hby d12_26) rfl ?_
    refine XS.aloadN X24.here hx rfl (hb hby d12_27) rfl rfl ?_
    show Steps p.tables e below (T24.setTop (mkF m 28 #[.val (.ref q), .val (.ref pf), .val (.ref x), .val (.ref y)] [(.ref y), (.int ((31 : Int32) * (own_H cs))), (.ref q)])) _
    refine st41.trans ?_
    refine XS.iadd X41.here hx rfl (hb hby d12_31) rfl ?_
    show Steps p.tables e below (T41.setTop (mkF m 32 #[.val (.ref q), .val (.ref pf), .val (.ref x), .val (.ref y)] [(.int (((31 : Int32) * (own_H cs)) + (own_H ds))), (.ref q)])) _
    refine st61 _ ?_
    exact kt
  obtain ⟨fs, hr, hrun, hended, hW, hsame⟩ := X61.leave (v := none) (fun _ => rfl)
  have f66 := (Exa.wr W61 f58)
  have f67 := (Exa.wr W61 f59)
  have f68 := (Exa.wr W61 f52)
  have f69 := (Fld.other W61 (Fld.keep (Fld.keep (Fld.other W20 F14 (Or.inr (slot_ne (Or.inr (own_w hw 36 rfl)) (Or.inr (own_w hw 38 rfl)) (by decide) (t := (.object "java/lang/String")) (t' := (.object "java/lang/String")) (by decide) (by decide)))) k34 (ninS (own_exane f66 f67 (by decide)) nin0)) k51 (ninS (own_exane f66 f68 (by decide)) nin0)) (Or.inr (slot_ne (Or.inr (own_w hw 36 rfl)) (Or.inr (own_w hw 59 rfl)) (by decide) (t := (.object "java/lang/String")) (t' := .int) (by decide) (by decide))))
  have f70 := (Fld.other W61 (Fld.keep (Fld.keep F20 k34 (ninS (own_exane f66 f67 (by decide)) nin0)) k51 (ninS (own_exane f66 f68 (by decide)) nin0)) (Or.inr (slot_ne (Or.inr (own_w hw 38 rfl)) (Or.inr (own_w hw 59 rfl)) (by decide) (t := (.object "java/lang/String")) (t' := .int) (by decide) (by decide))))
  have f71 := (Fld.other W61 (Fld.keep f36 k51 (ninS ne_xy nin0)) (Or.inl (own_exane f67 f66 (by decide))))
  have f72 := (Fld.other W61 (Fld.keep f37 k51 (ninS ne_xy nin0)) (Or.inl (own_exane f67 f66 (by decide))))
  have f73 := (Fld.other W61 f53 (Or.inl (own_exane f68 f66 (by decide))))
  have f74 := (Fld.other W61 f54 (Or.inl (own_exane f68 f66 (by decide))))
  refine ⟨_, _, pre0 _ (S65 _ ?_), hrun, hended, _, _, rfl, ?_, ⟨_, rfl⟩, hW, hsame.mono (by decide) (by decide)⟩
  · exact X61.returnOut hx Bd.returns (hb hby d12_35) hr
  · show Q_rm_qini Z q pf x tx kx cs y ty ky ds zc h0 n0 _ T61.heap _
    rw [e61]
    exact ⟨rfl, N64, K63, f66, f69, f70, F61, f67, f71, f72, f68, f73, f74⟩
theorem d13_0 : decode prog_176_method_10_code 0 = .ok (.aload_n 1, 1) := by decide +kernel
theorem d13_1 : decode prog_176_method_10_code 1 = .ok (.aload_n 0, 1) := by decide +kernel
theorem d13_2 : decode prog_176_method_10_code 2 = .ok (.if_acmp .eq 54, 3) := by decide +kernel
theorem d13_56 : decode prog_176_method_10_code 56 = .ok (.iconst 1, 1) := by decide +kernel
theorem d13_57 : decode prog_176_method_10_code 57 = .ok (.goto 4, 3) := by decide +kernel
theorem d13_61 : decode prog_176_method_10_code 61 = .ok (.ireturn, 1) := by decide +kernel
theorem ef_rm_qeqs (m : MethodId) (x0 : Addr) (x1 : Addr) : entryFrame m #[(.ref x0), (.ref x1)] 3 = mkF m 0 #[.val (.ref x0), .val (.ref x1), .unset] [] := by first | (simp [entryFrame, mkF, argsToLocals, Value.category]; done) | rfl
def Q_rm_qeqs (Z : State) (q : Addr) (h0 : Heap) (n0 : Nat) (v : Option Value) (h : Heap) (L : List Loc) : Prop := ((v = some (.int (1 : Int32))) ∧ (Fr n0 L) ∧ (h = h0))
set_option maxRecDepth 65536 in
set_option maxHeartbeats 40000000 in
theorem rm_qeqs (l : Launch) (Z : State) (a0 : Array Value) (hw : ∀ d ∈ tables_1, d.before a0 Z = true) (ws : List Jvm.Cond) (q : Addr) (h0 : Heap) (n0 : Nat) (O0 : Old Z n0 h0) :
    MetFree l (⟨"com/example/typecheck/typecheck/model/QName", "equals", "(Ljava/lang/Object;)Z"⟩ : MethodName) (head1 (Jvm.Cond.code (⟨"com/example/typecheck/typecheck/model/QName", "equals", "(Ljava/lang/Object;)Z"⟩ : MethodName) prog_176_method_10_code 3 (some .boolean) :: ws) ({ frames := 0, cells := 0, slots := 0, locals := 0 } : Room)) (fun a U => a = #[(.ref q), (.ref q)] ∧ Z.Warmed39 U.vm ∧ U.heap = h0) (fun _ _ _ _ _ => True) (fun _ U o U' => ∃ v L, o = .returned v ∧ Q_rm_qeqs Z q h0 n0 v U'.heap L ∧ FrameEnd U o U' L ({ frames := 0, cells := 0, slots := 0, locals := 0 } : Room).cells ({ frames := 0, cells := 0, slots := 0, locals := 0 } : Room).slots) := by
  refine MetFree.of_bodySF (plainFor_of_name pn_5) hisR ?_
  intro p e s m args below meth c s₁ Bd hml0 hP hK
  obtain ⟨rfl, hZ, hh⟩ := hP
  have hx := Bd.exec
  have hby := Bd.bytes
  have hml : c.maxLocals = 3 := hml0
  have hown : s.vm.findClass "com/example/typecheck/typecheck/model/QName" = some m.cls := findClass_of_methodNamed Bd.named
  have hnm := (name_of_methodNamed Bd.named Bd.method).1
  have X0 : Stand p l e ({ frames := 0, cells := 0, slots := 0, locals := 0 } : Room) s m #[(.ref q), (.ref q)] below meth c s₁ [] 0 0 := Stand.of_body Bd
  have e0 : s₁.heap = h0 := by rw [← hh, Bd.state]; rfl
  have N0 := Fr.nil n0
  have hwl : ∀ d ∈ StrChars.Road.wordsLen, d.before a0 Z = true := fun d hd => hw d (own_wordsLen d hd)
  have hwc : ∀ d ∈ StrChars.Road.wordsChN, d.before a0 Z = true := fun d hd => hw d (own_wordsChN d hd)
  have hwq : ∀ d ∈ StrChars.Road.wordsEq, d.before a0 Z = true := fun d hd => hw d (own_wordsEq d hd)
  have pre0 : ∀ t, Steps p.tables e below (s₁.setTop (mkF m 0 #[.val (.ref q), .val (.ref q), .unset] [])) t → Steps p.tables e below (s₁.setTop (entryFrame m #[(.ref q), (.ref q)] 3)) t := fun t k => castTop (ef_rm_qeqs m q q) k
  have S1 : ∀ t, Steps p.tables e below (s₁.setTop (mkF m 61 #[.val (.ref q), .val (.ref q), .unset] [(.int (1 : Int32))])) t → Steps p.tables e below (s₁.setTop (mkF m 0 #[.val (.ref q), .val (.ref q), .unset] [])) t := by
    intro t kt
    refine XS.aloadN X0.here hx rfl (hb hby d13_0) rfl rfl ?_
    refine XS.aloadN X0.here hx rfl (hb hby d13_1) rfl rfl ?_
    show Steps p.tables e below (s₁.setTop (mkF m 2 #[.val (.ref q), .val (.ref q), .unset] [(.ref q), (.ref q)])) _
    refine Jvm.RoadKit.acmp (g := (mkF m 2 #[.val (.ref q), .val (.ref q), .unset] [(.ref q), (.ref q)])) X0 hx rfl rfl rfl (pc0 := 2) (pc' := 56) (same := true) rfl (hb hby d13_2) rfl (decide_eq_true rfl) (by decide) (by decide) ?_
    refine XS.iconst X0.here hx rfl (hb hby d13_56) ?_
    refine XS.goto X0.here hx rfl (pc0 := 57) (pc' := 61) rfl (hb hby d13_57) (by decide) (by decide) ?_
    exact kt
  obtain ⟨fs, hr, hrun, hended, hW, hsame⟩ := X0.leave (v := some (.int (1 : Int32))) (fun h => by rw [Bd.returns] at h; cases h)
  refine ⟨_, _, pre0 _ (S1 _ ?_), hrun, hended, _, _, rfl, ?_, ⟨_, rfl⟩, hW, hsame.mono (by decide) (by decide)⟩
  · exact retN X0 hx (t := .boolean) Bd.returns (by simp) (hb hby d13_61) hr
  · show Q_rm_qeqs Z q h0 n0 _ s₁.heap _
    rw [e0]
    exact ⟨rfl, N0, rfl⟩
theorem d13_5 : decode prog_176_method_10_code 5 = .ok (.aload_n 1, 1) := by decide +kernel
theorem d13_6 : decode prog_176_method_10_code 6 = .ok (.instanceof 8, 3) := by decide +kernel
theorem d13_9 : decode prog_176_method_10_code 9 = .ok (.ifCond .eq 51, 3) := by decide +kernel
theorem d13_60 : decode prog_176_method_10_code 60 = .ok (.iconst 0, 1) := by decide +kernel
theorem ef_rm_qeqn (m : MethodId) (x0 : Addr) : entryFrame m #[(.ref x0), .null] 3 = mkF m 0 #[.val (.ref x0), .val .null, .unset] [] := by first | (simp [entryFrame, mkF, argsToLocals, Value.category]; done) | rfl
def Q_rm_qeqn (Z : State) (q : Addr) (h0 : Heap) (n0 : Nat) (v : Option Value) (h : Heap) (L : List Loc) : Prop := ((v = some (.int (0 : Int32))) ∧ (Fr n0 L) ∧ (h = h0))
set_option maxRecDepth 65536 in
set_option maxHeartbeats 40000000 in
theorem rm_qeqn (l : Launch) (Z : State) (a0 : Array Value) (hw : ∀ d ∈ tables_1, d.before a0 Z = true) (ws : List Jvm.Cond) (q : Addr) (h0 : Heap) (n0 : Nat) (O0 : Old Z n0 h0) :
    MetFree l (⟨"com/example/typecheck/typecheck/model/QName", "equals", "(Ljava/lang/Object;)Z"⟩ : MethodName) (head1 (Jvm.Cond.code (⟨"com/example/typecheck/typecheck/model/QName", "equals", "(Ljava/lang/Object;)Z"⟩ : MethodName) prog_176_method_10_code 3 (some .boolean) :: ws) ({ frames := 0, cells := 0, slots := 0, locals := 0 } : Room)) (fun a U => a = #[(.ref q), .null] ∧ Z.Warmed39 U.vm ∧ U.heap = h0) (fun _ _ _ _ _ => True) (fun _ U o U' => ∃ v L, o = .returned v ∧ Q_rm_qeqn Z q h0 n0 v U'.heap L ∧ FrameEnd U o U' L ({ frames := 0, cells := 0, slots := 0, locals := 0 } : Room).cells ({ frames := 0, cells := 0, slots := 0, locals := 0 } : Room).slots) := by
  refine MetFree.of_bodySF (plainFor_of_name pn_5) hisR ?_
  intro p e s m args below meth c s₁ Bd hml0 hP hK
  obtain ⟨rfl, hZ, hh⟩ := hP
  have hx := Bd.exec
  have hby := Bd.bytes
  have hml : c.maxLocals = 3 := hml0
  have hown : s.vm.findClass "com/example/typecheck/typecheck/model/QName" = some m.cls := findClass_of_methodNamed Bd.named
  have hnm := (name_of_methodNamed Bd.named Bd.method).1
  have X0 : Stand p l e ({ frames := 0, cells := 0, slots := 0, locals := 0 } : Room) s m #[(.ref q), .null] below meth c s₁ [] 0 0 := Stand.of_body Bd
  have e0 : s₁.heap = h0 := by rw [← hh, Bd.state]; rfl
  have N0 := Fr.nil n0
  have hwl : ∀ d ∈ StrChars.Road.wordsLen, d.before a0 Z = true := fun d hd => hw d (own_wordsLen d hd)
  have hwc : ∀ d ∈ StrChars.Road.wordsChN, d.before a0 Z = true := fun d hd => hw d (own_wordsChN d hd)
  have hwq : ∀ d ∈ StrChars.Road.wordsEq, d.before a0 Z = true := fun d hd => hw d (own_wordsEq d hd)
  have pre0 : ∀ t, Steps p.tables e below (s₁.setTop (mkF m 0 #[.val (.ref q), .val .null, .unset] [])) t → Steps p.tables e below (s₁.setTop (entryFrame m #[(.ref q), .null] 3)) t := fun t k => castTop (ef_rm_qeqn m q) k
  have S1 : ∀ t, Steps p.tables e below (s₁.setTop (mkF m 61 #[.val (.ref q), .val .null, .unset] [(.int (0 : Int32))])) t → Steps p.tables e below (s₁.setTop (mkF m 0 #[.val (.ref q), .val .null, .unset] [])) t := by
    intro t kt
    refine XS.aloadN X0.here hx rfl (hb hby d13_0) rfl rfl ?_
    refine XS.aloadN X0.here hx rfl (hb hby d13_1) rfl rfl ?_
    show Steps p.tables e below (s₁.setTop (mkF m 2 #[.val (.ref q), .val .null, .unset] [(.ref q), .null])) _
    refine Jvm.RoadKit.acmp (g := (mkF m 2 #[.val (.ref q), .val .null, .unset] [(.ref q), .null])) X0 hx rfl rfl rfl (pc0 := 2) (pc' := 5) (same := false) rfl (hb hby d13_2) rfl (decide_eq_false nofun) (by decide) (by decide) ?_
    refine XS.aloadN X0.here hx rfl (hb hby d13_5) rfl rfl ?_
    show Steps p.tables e below (s₁.setTop (mkF m 6 #[.val (.ref q), .val .null, .unset] [.null])) _
    refine X0.instanceofNull hx (g := (mkF m 6 #[.val (.ref q), .val .null, .unset] [.null])) rfl rfl (hb hby d13_6) _ ?_
    refine XS.ifYes X0.here hx rfl (pc0 := 9) (pc' := 60) rfl (hb hby d13_9) rfl ((if0 _ _).trans (teq ((by decide) : (0 : Int32) = (0 : Int32))).1) (by decide) (by decide) ?_
    refine XS.iconst X0.here hx rfl (hb hby d13_60) ?_
    exact kt
  obtain ⟨fs, hr, hrun, hended, hW, hsame⟩ := X0.leave (v := some (.int (0 : Int32))) (fun h => by rw [Bd.returns] at h; cases h)
  refine ⟨_, _, pre0 _ (S1 _ ?_), hrun, hended, _, _, rfl, ?_, ⟨_, rfl⟩, hW, hsame.mono (by decide) (by decide)⟩
  · exact retN X0 hx (t := .boolean) Bd.returns (by simp) (hb hby d13_61) hr
  · show Q_rm_qeqn Z q h0 n0 _ s₁.heap _
    rw [e0]
    exact ⟨rfl, N0, rfl⟩
theorem own_ns {Z : State} {a0 : Array Value} (hw : ∀ d ∈ tables_1, d.before a0 Z = true) : ∃ c t, Z.vm.findClass "java/lang/String" = some c ∧ Z.vm.findClass "com/example/typecheck/typecheck/model/QName" = some t ∧ Z.vm.assignable c t = false := by
  obtain ⟨t, kt, g0, g2, g5, g7, -⟩ := Cond.instantiable_spec ((own_w hw 27 rfl) : (Jvm.Cond.instantiable "com/example/typecheck/typecheck/model/QName" 4).before a0 Z = true)
  have g7' : kt.isInterface = false := by simp only [Bool.or_eq_false_iff] at g7; exact g7.1
  obtain ⟨o, ko, o1, o2, o3, -, -⟩ := Cond.noSuperclass_spec ((own_w hw 125 rfl) : (Jvm.Cond.noSuperclass "java/lang/Object").before a0 Z = true)
  have w : (Jvm.Cond.superclass "java/lang/String" "java/lang/Object").before a0 Z = true := (own_w hw 124 rfl)
  obtain ⟨c, h0⟩ := found_sup w
  obtain ⟨p, k, kp, h1, h2, h3, h4, h5, -, h7⟩ := Cond.superclass_spec h0 w
  cases o1.symm.trans h1
  have ne1 := ids_ne o1 g0 (by decide)
  have ne2 := ids_ne h0 g0 (by decide)
  have n3 : ∀ fuel, Z.vm.isSubclassAux fuel c t = false := fun fuel => by
    cases fuel with
    | zero => rfl
    | succ f =>
      cases f with
      | zero => simp [Vm.isSubclassAux, ne2, h2, h4]
      | succ f => simp [Vm.isSubclassAux, ne2, h2, h4, ne1, o2, o3]
  refine ⟨c, t, h0, g0, ?_⟩
  show Z.vm.assignableAux (255 + 1) c t = false
  simp [Vm.assignableAux, ne2, h2, g2, h5, g5, g7', Vm.isSubclass, n3]
theorem ef_rm_qeqt (m : MethodId) (x0 : Addr) (x1 : Addr) : entryFrame m #[(.ref x0), (.ref x1)] 3 = mkF m 0 #[.val (.ref x0), .val (.ref x1), .unset] [] := by first | (simp [entryFrame, mkF, argsToLocals, Value.category]; done) | rfl
def Q_rm_qeqt (Z : State) (q : Addr) (x : Addr) (h0 : Heap) (n0 : Nat) (v : Option Value) (h : Heap) (L : List Loc) : Prop := ((v = some (.int (0 : Int32))) ∧ (Fr n0 L) ∧ (h = h0))
set_option maxRecDepth 65536 in
set_option maxHeartbeats 40000000 in
theorem rm_qeqt (l : Launch) (Z : State) (a0 : Array Value) (hw : ∀ d ∈ tables_1, d.before a0 Z = true) (ws : List Jvm.Cond) (q : Addr) (x : Addr) (h0 : Heap) (n0 : Nat) (O0 : Old Z n0 h0) (E_q : Exa Z h0 q "com/example/typecheck/typecheck/model/QName") (E_x : Exa Z h0 x "java/lang/String") :
    MetFree l (⟨"com/example/typecheck/typecheck/model/QName", "equals", "(Ljava/lang/Object;)Z"⟩ : MethodName) (head1 (Jvm.Cond.code (⟨"com/example/typecheck/typecheck/model/QName", "equals", "(Ljava/lang/Object;)Z"⟩ : MethodName) prog_176_method_10_code 3 (some .boolean) :: ws) ({ frames := 0, cells := 0, slots := 0, locals := 0 } : Room)) (fun a U => a = #[(.ref q), (.ref x)] ∧ Z.Warmed39 U.vm ∧ U.heap = h0) (fun _ _ _ _ _ => True) (fun _ U o U' => ∃ v L, o = .returned v ∧ Q_rm_qeqt Z q x h0 n0 v U'.heap L ∧ FrameEnd U o U' L ({ frames := 0, cells := 0, slots := 0, locals := 0 } : Room).cells ({ frames := 0, cells := 0, slots := 0, locals := 0 } : Room).slots) := by
  refine MetFree.of_bodySF (plainFor_of_name pn_5) hisR ?_
  intro p e s m args below meth c s₁ Bd hml0 hP hK
  obtain ⟨rfl, hZ, hh⟩ := hP
  have hx := Bd.exec
  have hby := Bd.bytes
  have hml : c.maxLocals = 3 := hml0
  have hown : s.vm.findClass "com/example/typecheck/typecheck/model/QName" = some m.cls := findClass_of_methodNamed Bd.named
  have hnm := (name_of_methodNamed Bd.named Bd.method).1
  have X0 : Stand p l e ({ frames := 0, cells := 0, slots := 0, locals := 0 } : Room) s m #[(.ref q), (.ref x)] below meth c s₁ [] 0 0 := Stand.of_body Bd
  have e0 : s₁.heap = h0 := by rw [← hh, Bd.state]; rfl
  have N0 := Fr.nil n0
  have hwl : ∀ d ∈ StrChars.Road.wordsLen, d.before a0 Z = true := fun d hd => hw d (own_wordsLen d hd)
  have hwc : ∀ d ∈ StrChars.Road.wordsChN, d.before a0 Z = true := fun d hd => hw d (own_wordsChN d hd)
  have hwq : ∀ d ∈ StrChars.Road.wordsEq, d.before a0 Z = true := fun d hd => hw d (own_wordsEq d hd)
  have pre0 : ∀ t, Steps p.tables e below (s₁.setTop (mkF m 0 #[.val (.ref q), .val (.ref x), .unset] [])) t → Steps p.tables e below (s₁.setTop (entryFrame m #[(.ref q), (.ref x)] 3)) t := fun t k => castTop (ef_rm_qeqt m q x) k
  obtain ⟨T1, X1, e1, st1⟩ := instNo X0 hx hZ hown (own_w hw 78 rfl) e0 E_x (own_ns hw) (g := (mkF m 6 #[.val (.ref q), .val (.ref x), .unset] [(.ref x)])) rfl rfl (hb hby d13_6)
  have S2 : ∀ t, Steps p.tables e below (T1.setTop (mkF m 61 #[.val (.ref q), .val (.ref x), .unset] [(.int (0 : Int32))])) t → Steps p.tables e below (s₁.setTop (mkF m 0 #[.val (.ref q), .val (.ref x), .unset] [])) t := by
    intro t kt
    refine XS.aloadN X0.here hx rfl (hb hby d13_0) rfl rfl ?_
    refine XS.aloadN X0.here hx rfl (hb hby d13_1) rfl rfl ?_
    show Steps p.tables e below (s₁.setTop (mkF m 2 #[.val (.ref q), .val (.ref x), .unset] [(.ref q), (.ref x)])) _
    refine Jvm.RoadKit.acmp (g := (mkF m 2 #[.val (.ref q), .val (.ref x), .unset] [(.ref q), (.ref x)])) X0 hx rfl rfl rfl (pc0 := 2) (pc' := 5) (same := false) rfl (hb hby d13_2) rfl (decide_eq_false fun q => (own_exane E_x E_q (by decide)) (Value.ref.inj q)) (by decide) (by decide) ?_
    refine XS.aloadN X0.here hx rfl (hb hby d13_5) rfl rfl ?_
    show Steps p.tables e below (s₁.setTop (mkF m 6 #[.val (.ref q), .val (.ref x), .unset] [(.ref x)])) _
    refine st1 _ ?_
    refine XS.ifYes X1.here hx rfl (pc0 := 9) (pc' := 60) rfl (hb hby d13_9) rfl ((if0 _ _).trans (teq ((by decide) : (0 : Int32) = (0 : Int32))).1) (by decide) (by decide) ?_
    refine XS.iconst X1.here hx rfl (hb hby d13_60) ?_
    exact kt
  obtain ⟨fs, hr, hrun, hended, hW, hsame⟩ := X1.leave (v := some (.int (0 : Int32))) (fun h => by rw [Bd.returns] at h; cases h)
  refine ⟨_, _, pre0 _ (S2 _ ?_), hrun, hended, _, _, rfl, ?_, ⟨_, rfl⟩, hW, hsame.mono (by decide) (by decide)⟩
  · exact retN X1 hx (t := .boolean) Bd.returns (by simp) (hb hby d13_61) hr
  · show Q_rm_qeqt Z q x h0 n0 _ T1.heap _
    rw [e1]
    exact ⟨rfl, N0, rfl⟩
theorem d13_12 : decode prog_176_method_10_code 12 = .ok (.aload_n 1, 1) := by decide +kernel
theorem d13_13 : decode prog_176_method_10_code 13 = .ok (.checkcast 8, 3) := by decide +kernel
theorem d13_16 : decode prog_176_method_10_code 16 = .ok (.astore_n 2, 1) := by decide +kernel
theorem d13_17 : decode prog_176_method_10_code 17 = .ok (.aload_n 0, 1) := by decide +kernel
theorem d13_18 : decode prog_176_method_10_code 18 = .ok (.getfield 25, 3) := by decide +kernel
theorem d13_21 : decode prog_176_method_10_code 21 = .ok (.aload_n 2, 1) := by decide +kernel
theorem d13_22 : decode prog_176_method_10_code 22 = .ok (.getfield 25, 3) := by decide +kernel
theorem d13_25 : decode prog_176_method_10_code 25 = .ok (.if_icmp .ne 35, 3) := by decide +kernel
theorem d13_28 : decode prog_176_method_10_code 28 = .ok (.aload_n 0, 1) := by decide +kernel
theorem d13_29 : decode prog_176_method_10_code 29 = .ok (.getfield 16, 3) := by decide +kernel
theorem d13_32 : decode prog_176_method_10_code 32 = .ok (.aload_n 2, 1) := by decide +kernel
theorem d13_33 : decode prog_176_method_10_code 33 = .ok (.getfield 16, 3) := by decide +kernel
theorem d13_36 : decode prog_176_method_10_code 36 = .ok (.invokevirtual 52, 3) := by decide +kernel
theorem pd_11 : parseMethodDescriptor "(Ljava/lang/Object;)Z" = some ⟨[(.object "java/lang/Object")], some .boolean⟩ := by decide +kernel
theorem d13_39 : decode prog_176_method_10_code 39 = .ok (.ifCond .eq 21, 3) := by decide +kernel
theorem d13_42 : decode prog_176_method_10_code 42 = .ok (.aload_n 0, 1) := by decide +kernel
theorem d13_43 : decode prog_176_method_10_code 43 = .ok (.getfield 13, 3) := by decide +kernel
theorem d13_46 : decode prog_176_method_10_code 46 = .ok (.aload_n 2, 1) := by decide +kernel
theorem d13_47 : decode prog_176_method_10_code 47 = .ok (.getfield 13, 3) := by decide +kernel
theorem d13_50 : decode prog_176_method_10_code 50 = .ok (.invokevirtual 52, 3) := by decide +kernel
theorem d13_53 : decode prog_176_method_10_code 53 = .ok (.ifCond .eq 7, 3) := by decide +kernel
theorem ef_rm_qeq (m : MethodId) (x0 : Addr) (x1 : Addr) : entryFrame m #[(.ref x0), (.ref x1)] 3 = mkF m 0 #[.val (.ref x0), .val (.ref x1), .unset] [] := by first | (simp [entryFrame, mkF, argsToLocals, Value.category]; done) | rfl
def Q_rm_qeq (Z : State) (q1 : Addr) (hh1 : Int32) (x1 : Addr) (tx1 : Addr) (kx1 : ClassId) (cs1 : List Int32) (y1 : Addr) (ty1 : Addr) (ky1 : ClassId) (ds1 : List Int32) (q2 : Addr) (hh2 : Int32) (x2 : Addr) (tx2 : Addr) (kx2 : ClassId) (cs2 : List Int32) (y2 : Addr) (ty2 : Addr) (ky2 : ClassId) (ds2 : List Int32) (zc : Int32) (h0 : Heap) (n0 : Nat) (v : Option Value) (h : Heap) (L : List Loc) : Prop := ((ds1 = ds2) ∧ (cs1 = cs2) ∧ (v = some (.int (1 : Int32))) ∧ (Fr n0 L) ∧ (h = h0)) ∨ ((¬ (hh1 = hh2)) ∧ (v = some (.int (0 : Int32))) ∧ (Fr n0 L) ∧ (h = h0)) ∨ ((¬ (ds1 = ds2)) ∧ (v = some (.int (0 : Int32))) ∧ (Fr n0 L) ∧ (h = h0)) ∨ ((¬ (cs1 = cs2)) ∧ (v = some (.int (0 : Int32))) ∧ (Fr n0 L) ∧ (h = h0))
set_option maxRecDepth 65536 in
set_option maxHeartbeats 40000000 in
theorem rm_qeq (l : Launch) (Z : State) (a0 : Array Value) (hw : ∀ d ∈ tables_1, d.before a0 Z = true) (ws : List Jvm.Cond) (q1 : Addr) (hh1 : Int32) (x1 : Addr) (tx1 : Addr) (kx1 : ClassId) (cs1 : List Int32) (y1 : Addr) (ty1 : Addr) (ky1 : ClassId) (ds1 : List Int32) (q2 : Addr) (hh2 : Int32) (x2 : Addr) (tx2 : Addr) (kx2 : ClassId) (cs2 : List Int32) (y2 : Addr) (ty2 : Addr) (ky2 : ClassId) (ds2 : List Int32) (zc : Int32) (h0 : Heap) (n0 : Nat) (O0 : Old Z n0 h0) (E_q1 : Exa Z h0 q1 "com/example/typecheck/typecheck/model/QName") (Fh1 : Fld Z h0 q1 "com/example/typecheck/typecheck/model/QName" "hash" "I" (.int hh1)) (Fn1 : Fld Z h0 q1 "com/example/typecheck/typecheck/model/QName" "namespace" "Ljava/lang/String;" (.ref x1)) (Fl1 : Fld Z h0 q1 "com/example/typecheck/typecheck/model/QName" "localName" "Ljava/lang/String;" (.ref y1)) (E_x1 : Exa Z h0 x1 "java/lang/String") (V_x1 : Fld Z h0 x1 "java/lang/String" "value" "[B" (.ref tx1)) (C_x1 : Fld Z h0 x1 "java/lang/String" "coder" "B" (.int (0 : Int32))) (T_x1 : (cs1).length = 2 → Exa Z h0 tx1 "[B") (K_x1 : Arv Z h0 tx1 kx1 .byte (own_len cs1) (own_vs cs1) (.int (0 : Int32))) (E_y1 : Exa Z h0 y1 "java/lang/String") (V_y1 : Fld Z h0 y1 "java/lang/String" "value" "[B" (.ref ty1)) (C_y1 : Fld Z h0 y1 "java/lang/String" "coder" "B" (.int (0 : Int32))) (T_y1 : (ds1).length = 2 → Exa Z h0 ty1 "[B") (K_y1 : Arv Z h0 ty1 ky1 .byte (own_len ds1) (own_vs ds1) (.int (0 : Int32))) (okx1 : own_ok cs1) (oky1 : own_ok ds1) (E_q2 : Exa Z h0 q2 "com/example/typecheck/typecheck/model/QName") (Fh2 : Fld Z h0 q2 "com/example/typecheck/typecheck/model/QName" "hash" "I" (.int hh2)) (Fn2 : Fld Z h0 q2 "com/example/typecheck/typecheck/model/QName" "namespace" "Ljava/lang/String;" (.ref x2)) (Fl2 : Fld Z h0 q2 "com/example/typecheck/typecheck/model/QName" "localName" "Ljava/lang/String;" (.ref y2)) (E_x2 : Exa Z h0 x2 "java/lang/String") (V_x2 : Fld Z h0 x2 "java/lang/String" "value" "[B" (.ref tx2)) (C_x2 : Fld Z h0 x2 "java/lang/String" "coder" "B" (.int (0 : Int32))) (T_x2 : (cs2).length = 2 → Exa Z h0 tx2 "[B") (K_x2 : Arv Z h0 tx2 kx2 .byte (own_len cs2) (own_vs cs2) (.int (0 : Int32))) (E_y2 : Exa Z h0 y2 "java/lang/String") (V_y2 : Fld Z h0 y2 "java/lang/String" "value" "[B" (.ref ty2)) (C_y2 : Fld Z h0 y2 "java/lang/String" "coder" "B" (.int (0 : Int32))) (T_y2 : (ds2).length = 2 → Exa Z h0 ty2 "[B") (K_y2 : Arv Z h0 ty2 ky2 .byte (own_len ds2) (own_vs ds2) (.int (0 : Int32))) (okx2 : own_ok cs2) (oky2 : own_ok ds2) (neq : q1 ≠ q2) (S_C : Sta Z Z.heap "java/lang/String" "COMPACT_STRINGS" "Z" (.int zc)) (hzc : ¬ (zc = (0 : Int32))) :
    MetFree l (⟨"com/example/typecheck/typecheck/model/QName", "equals", "(Ljava/lang/Object;)Z"⟩ : MethodName) (head1 (Jvm.Cond.code (⟨"com/example/typecheck/typecheck/model/QName", "equals", "(Ljava/lang/Object;)Z"⟩ : MethodName) prog_176_method_10_code 3 (some .boolean) :: ws) ({ frames := 2, cells := 0, slots := 0, locals := 28 } : Room)) (fun a U => a = #[(.ref q1), (.ref q2)] ∧ Z.Warmed39 U.vm ∧ U.heap = h0) (fun _ _ _ _ _ => True) (fun _ U o U' => ∃ v L, o = .returned v ∧ Q_rm_qeq Z q1 hh1 x1 tx1 kx1 cs1 y1 ty1 ky1 ds1 q2 hh2 x2 tx2 kx2 cs2 y2 ty2 ky2 ds2 zc h0 n0 v U'.heap L ∧ FrameEnd U o U' L ({ frames := 2, cells := 0, slots := 0, locals := 28 } : Room).cells ({ frames := 2, cells := 0, slots := 0, locals := 28 } : Room).slots) := by
  refine MetFree.of_bodySF (plainFor_of_name pn_5) hisR ?_
  intro p e s m args below meth c s₁ Bd hml0 hP hK
  obtain ⟨rfl, hZ, hh⟩ := hP
  have hx := Bd.exec
  have hby := Bd.bytes
  have hml : c.maxLocals = 3 := hml0
  have hown : s.vm.findClass "com/example/typecheck/typecheck/model/QName" = some m.cls := findClass_of_methodNamed Bd.named
  have hnm := (name_of_methodNamed Bd.named Bd.method).1
  have X0 : Stand p l e ({ frames := 2, cells := 0, slots := 0, locals := 28 } : Room) s m #[(.ref q1), (.ref q2)] below meth c s₁ [] 0 0 := Stand.of_body Bd
  have e0 : s₁.heap = h0 := by rw [← hh, Bd.state]; rfl
  have N0 := Fr.nil n0
  have hwl : ∀ d ∈ StrChars.Road.wordsLen, d.before a0 Z = true := fun d hd => hw d (own_wordsLen d hd)
  have hwc : ∀ d ∈ StrChars.Road.wordsChN, d.before a0 Z = true := fun d hd => hw d (own_wordsChN d hd)
  have hwq : ∀ d ∈ StrChars.Road.wordsEq, d.before a0 Z = true := fun d hd => hw d (own_wordsEq d hd)
  have pre0 : ∀ t, Steps p.tables e below (s₁.setTop (mkF m 0 #[.val (.ref q1), .val (.ref q2), .unset] [])) t → Steps p.tables e below (s₁.setTop (entryFrame m #[(.ref q1), (.ref q2)] 3)) t := fun t k => castTop (ef_rm_qeq m q1 q2) k
  obtain ⟨T1, X1, e1, st1⟩ := instY X0 hx hZ hown (own_w hw 78 rfl) e0 (Ins.self E_q2) (g := (mkF m 6 #[.val (.ref q1), .val (.ref q2), .unset] [(.ref q2)])) rfl rfl (hb hby d13_6)
  obtain ⟨T2, X2, e2, st2⟩ := castY X1 hx hZ hown (own_w hw 78 rfl) e1 (Ins.self E_q2) (g := (mkF m 13 #[.val (.ref q1), .val (.ref q2), .unset] [(.ref q2)])) rfl rfl (hb hby d13_13)
  obtain ⟨T3, X3, e3, st3⟩ := getF X2 hx hZ hown (host := "") (Or.inl (own_w hw 58 rfl)) Via.refl e2 Fh1 (g := (mkF m 18 #[.val (.ref q1), .val (.ref q2), .val (.ref q2)] [(.ref q1)])) rfl rfl (hb hby d13_18)
  obtain ⟨T4, X4, e4, st4⟩ := getF X3 hx hZ hown (host := "") (Or.inl (own_w hw 58 rfl)) Via.refl e3 Fh2 (g := (mkF m 22 #[.val (.ref q1), .val (.ref q2), .val (.ref q2)] [(.ref q2), (.int hh1)])) rfl rfl (hb hby d13_22)
  have S5 : ∀ t, Steps p.tables e below (T4.setTop (mkF m 25 #[.val (.ref q1), .val (.ref q2), .val (.ref q2)] [(.int hh2), (.int hh1)])) t → Steps p.tables e below (s₁.setTop (mkF m 0 #[.val (.ref q1), .val (.ref q2), .unset] [])) t := by
    intro t kt
    refine XS.aloadN X0.here hx rfl (hb hby d13_0) rfl rfl ?_
    refine XS.aloadN X0.here hx rfl (hb hby d13_1) rfl rfl ?_
    show Steps p.tables e below (s₁.setTop (mkF m 2 #[.val (.ref q1), .val (.ref q2), .unset] [(.ref q1), (.ref q2)])) _
    refine Jvm.RoadKit.acmp (g := (mkF m 2 #[.val (.ref q1), .val (.ref q2), .unset] [(.ref q1), (.ref q2)])) X0 hx rfl rfl rfl (pc0 := 2) (pc' := 5) (same := false) rfl (hb hby d13_2) rfl (decide_eq_false fun q => (Ne.symm neq) (Value.ref.inj q)) (by decide) (by decide) ?_
    refine XS.aloadN X0.here hx rfl (hb hby d13_5) rfl rfl ?_
    show Steps p.tables e below (s₁.setTop (mkF m 6 #[.val (.ref q1), .val (.ref q2), .unset] [(.ref q2)])) _
    refine st1 _ ?_
    refine XS.ifNo X1.here hx rfl (hb hby d13_9) rfl ((if0 _ _).trans (feq ((by decide) : ¬ ((1 : Int32) = (0 : Int32)))).1) ?_
    refine XS.aloadN X1.here hx rfl (hb hby d13_12) rfl rfl ?_
    show Steps p.tables e below (T1.setTop (mkF m 13 #[.val (.ref q1), .val (.ref q2), .unset] [(.ref q2)])) _
    refine st2 _ ?_
    refine XS.astoreN X2.here hx rfl (hb hby d13_16) rfl rfl (l' := #[.val (.ref q1), .val (.ref q2), .val (.ref q2)]) rfl ?_
    refine XS.aloadN X2.here hx rfl (hb hby d13_17) rfl rfl ?_
    show Steps p.tables e below (T2.setTop (mkF m 18 #[.val (.ref q1), .val (.ref q2), .val (.ref q2)] [(.ref q1)])) _
    refine st3 _ ?_
    refine XS.aloadN X3.here hx rfl (hb hby d13_21) rfl rfl ?_
    show Steps p.tables e below (T3.setTop (mkF m 22 #[.val (.ref q1), .val (.ref q2), .val (.ref q2)] [(.ref q2), (.int hh1)])) _
    refine st4 _ ?_
    exact kt
  rcases Decidable.em (hh1 = hh2) with c6 | c6
  · obtain ⟨T7, X7, e7, st7⟩ := getF X4 hx hZ hown (host := "") (Or.inl (own_w hw 37 rfl)) Via.refl e4 Fl1 (g := (mkF m 29 #[.val (.ref q1), .val (.ref q2), .val (.ref q2)] [(.ref q1)])) rfl rfl (hb hby d13_29)
    obtain ⟨T8, X8, e8, st8⟩ := getF X7 hx hZ hown (host := "") (Or.inl (own_w hw 37 rfl)) Via.refl e7 Fl2 (g := (mkF m 33 #[.val (.ref q1), .val (.ref q2), .val (.ref q2)] [(.ref q2), (.ref y1)])) rfl rfl (hb hby d13_33)
    obtain ⟨cq9, kq9, q9a, q9b, q9c⟩ := isOf hZ e8 E_y1
    obtain ⟨_, _, ⟨T9, L9, k9, n9⟩, -, X9, ⟨Lc9, hQ9, l9, y9, z9⟩, st9⟩ := X8.virtualBack hx (y := (⟨"java/lang/String", "equals", "(Ljava/lang/Object;)Z"⟩ : MethodName)) (z := (⟨"java/lang/String", "equals", "(Ljava/lang/Object;)Z"⟩ : MethodName)) hown (mvT hZ (own_w hw 80 rfl)) (mvT hZ (own_w hw 81 rfl)) (notFace_of_selects (args := #[]) (mvT hZ (own_w hw 83 rfl))) (mvT hZ (own_w hw 83 rfl)) (mvT hZ (own_w hw 82 rfl)) (by decide) (StrChars.Road.eqW (W := 0) hZ hwq (kI := 4) (own_w hw 6 rfl) (cs := ds1) E_y1 V_y1 C_y1 K_y1 (Or.inl ⟨rfl, rfl, rfl, fun c hc => (oky1.2 c hc).2⟩ : StrChars.Road.CodA ds1 0 (own_len ds1) (own_vs ds1)) (own_up oky1.2) (Nat.le_trans oky1.1 (by decide)) (ds := ds2) E_y2 V_y2 C_y2 K_y2 (Or.inl ⟨rfl, rfl, rfl, fun c hc => (oky2.2 c hc).2⟩ : StrChars.Road.CodA ds2 0 (own_len ds2) (own_vs ds2)) (own_up oky2.2) (Nat.le_trans oky2.1 (by decide)) (S_C.ext O0.2) hzc (by decide) (by decide)) q9a q9c (g := (mkF m 36 #[.val (.ref q1), .val (.ref q2), .val (.ref q2)] [(.ref y2), (.ref y1)])) rfl (by rw [hml]; rfl) (Steps.refl _) (argsL := [(.ref y2)]) (rest := []) (lenOf pd_11 rfl) rfl (by show 2 * 0 + _ ≤ _; exact Nat.le_of_eq rfl) (hb hby d13_36) (fun _ _ => ⟨rfl, e8, (by decide : 0 + 0 ≤ _), (by decide : 0 + 0 ≤ _)⟩)
    dsimp only [Pt.U, Pt.locs, Pt.cells, Pt.slots] at X9 l9 y9 z9 st9 hQ9
    subst l9 y9 z9
    obtain ⟨hQ9, rfl, k10⟩ := hQ9
    have N12 := Fr.app N0 (Fr.nil n0)
    rcases hQ9 with ⟨rfl, c11⟩ | ⟨rfl, c11⟩
    · obtain ⟨T13, X13, e13, st13⟩ := getF X9 hx hZ hown (host := "") (Or.inl (own_w hw 35 rfl)) Via.refl k10 Fn1 (g := (mkF m 43 #[.val (.ref q1), .val (.ref q2), .val (.ref q2)] [(.ref q1)])) rfl rfl (hb hby d13_43)
      obtain ⟨T14, X14, e14, st14⟩ := getF X13 hx hZ hown (host := "") (Or.inl (own_w hw 35 rfl)) Via.refl e13 Fn2 (g := (mkF m 47 #[.val (.ref q1), .val (.ref q2), .val (.ref q2)] [(.ref q2), (.ref x1)])) rfl rfl (hb hby d13_47)
      obtain ⟨cq15, kq15, q15a, q15b, q15c⟩ := isOf hZ e14 E_x1
      obtain ⟨_, _, ⟨T15, L15, k15, n15⟩, -, X15, ⟨Lc15, hQ15, l15, y15, z15⟩, st15⟩ := X14.virtualBack hx (y := (⟨"java/lang/String", "equals", "(Ljava/lang/Object;)Z"⟩ : MethodName)) (z := (⟨"java/lang/String", "equals", "(Ljava/lang/Object;)Z"⟩ : MethodName)) hown (mvT hZ (own_w hw 80 rfl)) (mvT hZ (own_w hw 81 rfl)) (notFace_of_selects (args := #[]) (mvT hZ (own_w hw 83 rfl))) (mvT hZ (own_w hw 83 rfl)) (mvT hZ (own_w hw 82 rfl)) (by decide) (StrChars.Road.eqW (W := 0) hZ hwq (kI := 4) (own_w hw 6 rfl) (cs := cs1) E_x1 V_x1 C_x1 K_x1 (Or.inl ⟨rfl, rfl, rfl, fun c hc => (okx1.2 c hc).2⟩ : StrChars.Road.CodA cs1 0 (own_len cs1) (own_vs cs1)) (own_up okx1.2) (Nat.le_trans okx1.1 (by decide)) (ds := cs2) E_x2 V_x2 C_x2 K_x2 (Or.inl ⟨rfl, rfl, rfl, fun c hc => (okx2.2 c hc).2⟩ : StrChars.Road.CodA cs2 0 (own_len cs2) (own_vs cs2)) (own_up okx2.2) (Nat.le_trans okx2.1 (by decide)) (S_C.ext O0.2) hzc (by decide) (by decide)) q15a q15c (g := (mkF m 50 #[.val (.ref q1), .val (.ref q2), .val (.ref q2)] [(.ref x2), (.ref x1)])) rfl (by rw [hml]; rfl) (Steps.refl _) (argsL := [(.ref x2)]) (rest := []) (lenOf pd_11 rfl) rfl (by show 2 * 0 + _ ≤ _; exact Nat.le_of_eq rfl) (hb hby d13_50) (fun _ _ => ⟨rfl, e14, (by decide : 0 + 0 ≤ _), (by decide : 0 + 0 ≤ _)⟩)
      dsimp only [Pt.U, Pt.locs, Pt.cells, Pt.slots] at X15 l15 y15 z15 st15 hQ15
      subst l15 y15 z15
      obtain ⟨hQ15, rfl, k16⟩ := hQ15
      have N18 := Fr.app N12 (Fr.nil n0)
      rcases hQ15 with ⟨rfl, c17⟩ | ⟨rfl, c17⟩
      · have S19 : ∀ t, Steps p.tables e below (T15.setTop (mkF m 61 #[.val (.ref q1), .val (.ref q2), .val (.ref q2)] [(.int (1 : Int32))])) t → Steps p.tables e below (s₁.setTop (mkF m 0 #[.val (.ref q1), .val (.ref q2), .unset] [])) t := by
          intro t kt
          refine S5 t ?_
          refine XS.icmpNo X4.here hx rfl (hb hby d13_25) rfl (teq (c6 : hh1 = hh2)).2 ?_
          refine XS.aloadN X4.here hx rfl (hb hby d13_28) rfl rfl ?_
          show Steps p.tables e below (T4.setTop (mkF m 29 #[.val (.ref q1), .val (.ref q2), .val (.ref q2)] [(.ref q1)])) _
          refine st7 _ ?_
          refine XS.aloadN X7.here hx rfl (hb hby d13_32) rfl rfl ?_
          show Steps p.tables e below (T7.setTop (mkF m 33 #[.val (.ref q1), .val (.ref q2), .val (.ref q2)] [(.ref q2), (.ref y1)])) _
          refine st8 _ ?_
          show Steps p.tables e below (T8.setTop (mkF m 36 #[.val (.ref q1), .val (.ref q2), .val (.ref q2)] [(.ref y2), (.ref y1)])) _
          refine st9.trans ?_
          refine XS.ifNo X9.here hx rfl (hb hby d13_39) rfl ((if0 _ _).trans (feq ((by decide) : ¬ ((1 : Int32) = (0 : Int32)))).1) ?_
          refine XS.aloadN X9.here hx rfl (hb hby d13_42) rfl rfl ?_
          show Steps p.tables e below (T9.setTop (mkF m 43 #[.val (.ref q1), .val (.ref q2), .val (.ref q2)] [(.ref q1)])) _
          refine st13 _ ?_
          refine XS.aloadN X13.here hx rfl (hb hby d13_46) rfl rfl ?_
          show Steps p.tables e below (T13.setTop (mkF m 47 #[.val (.ref q1), .val (.ref q2), .val (.ref q2)] [(.ref q2), (.ref x1)])) _
          refine st14 _ ?_
          show Steps p.tables e below (T14.setTop (mkF m 50 #[.val (.ref q1), .val (.ref q2), .val (.ref q2)] [(.ref x2), (.ref x1)])) _
          refine st15.trans ?_
          refine XS.ifNo X15.here hx rfl (hb hby d13_53) rfl ((if0 _ _).trans (feq ((by decide) : ¬ ((1 : Int32) = (0 : Int32)))).1) ?_
          refine XS.iconst X15.here hx rfl (hb hby d13_56) ?_
          refine XS.goto X15.here hx rfl (pc0 := 57) (pc' := 61) rfl (hb hby d13_57) (by decide) (by decide) ?_
          exact kt
        obtain ⟨fs, hr, hrun, hended, hW, hsame⟩ := X15.leave (v := some (.int (1 : Int32))) (fun h => by rw [Bd.returns] at h; cases h)
        refine ⟨_, _, pre0 _ (S19 _ ?_), hrun, hended, _, _, rfl, ?_, ⟨_, rfl⟩, hW, hsame.mono (by decide) (by decide)⟩
        · exact retN X15 hx (t := .boolean) Bd.returns (by simp) (hb hby d13_61) hr
        · show Q_rm_qeq Z q1 hh1 x1 tx1 kx1 cs1 y1 ty1 ky1 ds1 q2 hh2 x2 tx2 kx2 cs2 y2 ty2 ky2 ds2 zc h0 n0 _ T15.heap _
          rw [k16]
          exact Or.inl ⟨c11, c17, rfl, N18, rfl⟩
      · have S20 : ∀ t, Steps p.tables e below (T15.setTop (mkF m 61 #[.val (.ref q1), .val (.ref q2), .val (.ref q2)] [(.int (0 : Int32))])) t → Steps p.tables e below (s₁.setTop (mkF m 0 #[.val (.ref q1), .val (.ref q2), .unset] [])) t := by
          intro t kt
          refine S5 t ?_
          refine XS.icmpNo X4.here hx rfl (hb hby d13_25) rfl (teq (c6 : hh1 = hh2)).2 ?_
          refine XS.aloadN X4.here hx rfl (hb hby d13_28) rfl rfl ?_
          show Steps p.tables e below (T4.setTop (mkF m 29 #[.val (.ref q1), .val (.ref q2), .val (.ref q2)] [(.ref q1)])) _
          refine st7 _ ?_
          refine XS.aloadN X7.here hx rfl (hb hby d13_32) rfl rfl ?_
          show Steps p.tables e below (T7.setTop (mkF m 33 #[.val (.ref q1), .val (.ref q2), .val (.ref q2)] [(.ref q2), (.ref y1)])) _
          refine st8 _ ?_
          show Steps p.tables e below (T8.setTop (mkF m 36 #[.val (.ref q1), .val (.ref q2), .val (.ref q2)] [(.ref y2), (.ref y1)])) _
          refine st9.trans ?_
          refine XS.ifNo X9.here hx rfl (hb hby d13_39) rfl ((if0 _ _).trans (feq ((by decide) : ¬ ((1 : Int32) = (0 : Int32)))).1) ?_
          refine XS.aloadN X9.here hx rfl (hb hby d13_42) rfl rfl ?_
          show Steps p.tables e below (T9.setTop (mkF m 43 #[.val (.ref q1), .val (.ref q2), .val (.ref q2)] [(.ref q1)])) _
          refine st13 _ ?_
          refine XS.aloadN X13.here hx rfl (hb hby d13_46) rfl rfl ?_
          show Steps p.tables e below (T13.setTop (mkF m 47 #[.val (.ref q1), .val (.ref q2), .val (.ref q2)] [(.ref q2), (.ref x1)])) _
          refine st14 _ ?_
          show Steps p.tables e below (T14.setTop (mkF m 50 #[.val (.ref q1), .val (.ref q2), .val (.ref q2)] [(.ref x2), (.ref x1)])) _
          refine st15.trans ?_
          refine XS.ifYes X15.here hx rfl (pc0 := 53) (pc' := 60) rfl (hb hby d13_53) rfl ((if0 _ _).trans (teq ((by decide) : (0 : Int32) = (0 : Int32))).1) (by decide) (by decide) ?_
          refine XS.iconst X15.here hx rfl (hb hby d13_60) ?_
          exact kt
        obtain ⟨fs, hr, hrun, hended, hW, hsame⟩ := X15.leave (v := some (.int (0 : Int32))) (fun h => by rw [Bd.returns] at h; cases h)
        refine ⟨_, _, pre0 _ (S20 _ ?_), hrun, hended, _, _, rfl, ?_, ⟨_, rfl⟩, hW, hsame.mono (by decide) (by decide)⟩
        · exact retN X15 hx (t := .boolean) Bd.returns (by simp) (hb hby d13_61) hr
        · show Q_rm_qeq Z q1 hh1 x1 tx1 kx1 cs1 y1 ty1 ky1 ds1 q2 hh2 x2 tx2 kx2 cs2 y2 ty2 ky2 ds2 zc h0 n0 _ T15.heap _
          rw [k16]
          exact Or.inr (Or.inr (Or.inr (⟨c17, rfl, N18, rfl⟩)))
    · have S21 : ∀ t, Steps p.tables e below (T9.setTop (mkF m 61 #[.val (.ref q1), .val (.ref q2), .val (.ref q2)] [(.int (0 : Int32))])) t → Steps p.tables e below (s₁.setTop (mkF m 0 #[.val (.ref q1), .val (.ref q2), .unset] [])) t := by
        intro t kt
        refine S5 t ?_
        refine XS.icmpNo X4.here hx rfl (hb hby d13_25) rfl (teq (c6 : hh1 = hh2)).2 ?_
        refine XS.aloadN X4.here hx rfl (hb hby d13_28) rfl rfl ?_
        show Steps p.tables e below (T4.setTop (mkF m 29 #[.val (.ref q1), .val (.ref q2), .val (.ref q2)] [(.ref q1)])) _
        refine st7 _ ?_
        refine XS.aloadN X7.here hx rfl (hb hby d13_32) rfl rfl ?_
        show Steps p.tables e below (T7.setTop (mkF m 33 #[.val (.ref q1), .val (.ref q2), .val (.ref q2)] [(.ref q2), (.ref y1)])) _
        refine st8 _ ?_
        show Steps p.tables e below (T8.setTop (mkF m 36 #[.val (.ref q1), .val (.ref q2), .val (.ref q2)] [(.ref y2), (.ref y1)])) _
        refine st9.trans ?_
        refine XS.ifYes X9.here hx rfl (pc0 := 39) (pc' := 60) rfl (hb hby d13_39) rfl ((if0 _ _).trans (teq ((by decide) : (0 : Int32) = (0 : Int32))).1) (by decide) (by decide) ?_
        refine XS.iconst X9.here hx rfl (hb hby d13_60) ?_
        exact kt
      obtain ⟨fs, hr, hrun, hended, hW, hsame⟩ := X9.leave (v := some (.int (0 : Int32))) (fun h => by rw [Bd.returns] at h; cases h)
      refine ⟨_, _, pre0 _ (S21 _ ?_), hrun, hended, _, _, rfl, ?_, ⟨_, rfl⟩, hW, hsame.mono (by decide) (by decide)⟩
      · exact retN X9 hx (t := .boolean) Bd.returns (by simp) (hb hby d13_61) hr
      · show Q_rm_qeq Z q1 hh1 x1 tx1 kx1 cs1 y1 ty1 ky1 ds1 q2 hh2 x2 tx2 kx2 cs2 y2 ty2 ky2 ds2 zc h0 n0 _ T9.heap _
        rw [k10]
        exact Or.inr (Or.inr (Or.inl ⟨c11, rfl, N12, rfl⟩))
  · have S22 : ∀ t, Steps p.tables e below (T4.setTop (mkF m 61 #[.val (.ref q1), .val (.ref q2), .val (.ref q2)] [(.int (0 : Int32))])) t → Steps p.tables e below (s₁.setTop (mkF m 0 #[.val (.ref q1), .val (.ref q2), .unset] [])) t := by
      intro t kt
      refine S5 t ?_
      refine XS.icmpYes X4.here hx rfl (pc0 := 25) (pc' := 60) rfl (hb hby d13_25) rfl (feq (c6 : ¬ (hh1 = hh2))).2 (by decide) (by decide) ?_
      refine XS.iconst X4.here hx rfl (hb hby d13_60) ?_
      exact kt
    obtain ⟨fs, hr, hrun, hended, hW, hsame⟩ := X4.leave (v := some (.int (0 : Int32))) (fun h => by rw [Bd.returns] at h; cases h)
    refine ⟨_, _, pre0 _ (S22 _ ?_), hrun, hended, _, _, rfl, ?_, ⟨_, rfl⟩, hW, hsame.mono (by decide) (by decide)⟩
    · exact retN X4 hx (t := .boolean) Bd.returns (by simp) (hb hby d13_61) hr
    · show Q_rm_qeq Z q1 hh1 x1 tx1 kx1 cs1 y1 ty1 ky1 ds1 q2 hh2 x2 tx2 kx2 cs2 y2 ty2 ky2 ds2 zc h0 n0 _ T4.heap _
      rw [e4]
      exact Or.inr (Or.inl ⟨c6, rfl, N0, rfl⟩)
theorem own_eq1 {cs ds : List Int32} (h : cs = ds) : ¬ (own_eqI cs ds = (0 : Int32)) := by rw [own_eqI, if_pos h]; decide
theorem own_eq0 {cs ds : List Int32} (h : ¬ (cs = ds)) : own_eqI cs ds = (0 : Int32) := by rw [own_eqI, if_neg h]
theorem own_hq {a b c d : List Int32} (h : a = c) (k : b = d) : (((31 : Int32) * (own_H a)) + (own_H b)) = (((31 : Int32) * (own_H c)) + (own_H d)) := by rw [h, k]
theorem pd_12 : parseMethodDescriptor "(I)Ljava/lang/String;" = some ⟨[.int], some (.object "java/lang/String")⟩ := by decide +kernel
theorem pd_13 : parseMethodDescriptor "(Ljava/lang/String;Ljava/lang/String;Ljava/lang/String;)V" = some ⟨[(.object "java/lang/String"), (.object "java/lang/String"), (.object "java/lang/String")], none⟩ := by decide +kernel
theorem pd_14 : parseMethodDescriptor "(Ljava/lang/String;Ljava/lang/String;)Z" = some ⟨[(.object "java/lang/String"), (.object "java/lang/String")], some .boolean⟩ := by decide +kernel
theorem ef_rm_law (m : MethodId) (x0 : Int32) (x1 : Int32) (x2 : Int32) (x3 : Int32) (x4 : Int32) (x5 : Int32) : entryFrame m #[(.int x0), (.int x1), (.int x2), (.int x3), (.int x4), (.int x5)] maxLocals = mkF m 0 #[.val (.int x0), .val (.int x1), .val (.int x2), .val (.int x3), .val (.int x4), .val (.int x5), .unset, .unset, .unset, .unset, .unset, .unset, .unset, .unset, .unset, .unset] [] := by first | (simp [entryFrame, mkF, argsToLocals, Value.category, maxLocals]; done) | rfl
def Q_rm_law (Z : State) (p1 : Int32) (p2 : Int32) (p3 : Int32) (p4 : Int32) (p5 : Int32) (p6 : Int32) (zc : Int32) (fm : Value) (h0 : Heap) (n0 : Nat) (v : Option Value) (h : Heap) (L : List Loc) : Prop := ((v = some (.int (1 : Int32))) ∧ (Fr n0 L))
set_option maxRecDepth 65536 in
set_option maxHeartbeats 40000000 in
theorem rm_law (l : Launch) (Z : State) (a0 : Array Value) (hw : ∀ d ∈ tables_1, d.before a0 Z = true) (ws : List Jvm.Cond) (p1 : Int32) (p2 : Int32) (p3 : Int32) (p4 : Int32) (p5 : Int32) (p6 : Int32) (zc : Int32) (fm : Value) (h0 : Heap) (n0 : Nat) (O0 : Old Z n0 h0) (S_C : Sta Z Z.heap "java/lang/String" "COMPACT_STRINGS" "Z" (.int zc)) (hzc : ¬ (zc = (0 : Int32))) (S_F : Sta Z Z.heap "jdk/internal/util/Preconditions" "SIOOBE_FORMATTER" "Ljava/util/function/BiFunction;" fm) (hfm : fm.isRef = true) :
    MetFree l x (head1 (Jvm.Cond.code x code maxLocals ret :: ws) room_1) (fun a U => a = #[(.int p1), (.int p2), (.int p3), (.int p4), (.int p5), (.int p6)] ∧ Z.Warmed39 U.vm ∧ U.heap = h0 ∧ CHv Z own_EL U.vm h0 ∧ ∀ own_y ∈ ([] : List Addr), Safe Z own_EL U.vm h0 own_y) (fun _ _ _ _ _ => True) (fun _ U o U' => ∃ v L, o = .returned v ∧ Q_rm_law Z p1 p2 p3 p4 p5 p6 zc fm h0 n0 v U'.heap L ∧ ReturnedEndW U o U' L room_1.cells room_1.slots) := by
  refine MetFree.of_bodySF (plainFor_of_name pn_2) hisR ?_
  intro p e s m args below meth c s₁ Bd hml0 hP hK
  obtain ⟨rfl, hZ, hh, hCH, hSf⟩ := hP
  have hx := Bd.exec
  have hby := Bd.bytes
  have hml : c.maxLocals = 16 := hml0
  have hown : s.vm.findClass "com/example/typecheck/typecheck/model/QNameEqualsPinLaw" = some m.cls := findClass_of_methodNamed Bd.named
  have hnm := (name_of_methodNamed Bd.named Bd.method).1
  have X0 : Stand p l e room_1 (s.setVm s.vm) m #[(.int p1), (.int p2), (.int p3), (.int p4), (.int p5), (.int p6)] below meth c s₁ [] 0 0 := Stand.of_body Bd
  have e0 : s₁.heap = h0 := by rw [← hh, Bd.state]; rfl
  have N0 := Fr.nil n0
  have hZ0 := hZ
  have ho0 := hown
  have hS0 : s.Since s.vm 0 := (State.WarmedH.refl s).since 0
  have hk0 : 0 ≤ h0.size := Nat.zero_le _
  have CR0 : CHr Z own_EL s.vm h0 s.vm h0 := CHr.refl hCH
  have own_at : ∀ d ∈ Bundle.stringAtoms, d.before a0 Z = true := fun d hd => hw d (own_atoms d hd)
  have own_ew : EW Z a0 own_EL := own_EWof hw
  have hwl : ∀ d ∈ StrChars.Road.wordsLen, d.before a0 Z = true := fun d hd => hw d (own_wordsLen d hd)
  have hwc : ∀ d ∈ StrChars.Road.wordsChN, d.before a0 Z = true := fun d hd => hw d (own_wordsChN d hd)
  have hwq : ∀ d ∈ StrChars.Road.wordsEq, d.before a0 Z = true := fun d hd => hw d (own_wordsEq d hd)
  have pre0 : ∀ t, Steps p.tables e below (s₁.setTop (mkF m 0 #[.val (.int p1), .val (.int p2), .val (.int p3), .val (.int p4), .val (.int p5), .val (.int p6), .unset, .unset, .unset, .unset, .unset, .unset, .unset, .unset, .unset, .unset] [])) t → Steps p.tables e below (s₁.setTop (entryFrame m #[(.int p1), (.int p2), (.int p3), (.int p4), (.int p5), (.int p6)] maxLocals)) t := fun t k => castTop (ef_rm_law m p1 p2 p3 p4 p5 p6) k
  obtain ⟨_, _, ⟨T1, L1, k1, n1⟩, -, Xq1, hSq1, hgq1, ⟨Lc1, hQ1, l1, y1, z1, C1⟩, st1⟩ := callSS X0 hx (y := (⟨"com/example/typecheck/typecheck/model/QNameEqualsPinLaw", "str", "(I)Ljava/lang/String;"⟩ : MethodName)) ho0 (mvT hZ0 (own_w hw 0 rfl)) (mvT hZ0 (own_w hw 1 rfl)) (mvT hZ0 (own_w hw 2 rfl)) (mvT hZ0 (own_w hw 3 rfl)) (by decide) (own_backS (W := 0) (rm := ({ frames := 4, cells := 6, slots := 12, locals := 66 } : Room)) (xs := []) (rm_str l Z a0 hw [] p1 zc h0 n0 O0 S_C hzc) hZ0 (own_w hw 3 rfl) (own_w hw 2 rfl) (by decide) (by decide) own_ew CR0.1 all0) (g := (mkF m 1 #[.val (.int p1), .val (.int p2), .val (.int p3), .val (.int p4), .val (.int p5), .val (.int p6), .unset, .unset, .unset, .unset, .unset, .unset, .unset, .unset, .unset, .unset] [(.int p1)])) rfl (by rw [hml]; rfl) (argsL := [(.int p1)]) (rest := []) (lenOf pd_12 rfl) rfl (by show 2 * 0 + _ ≤ _; exact Nat.le_of_eq rfl) (hb hby at_1) (fun _ _ => ⟨rfl, e0, (by decide : 0 + 6 ≤ _), (by decide : 0 + 12 ≤ _)⟩)
  dsimp only [Pt.U, Pt.locs, Pt.cells, Pt.slots] at Xq1 hSq1 hgq1 l1 y1 z1 st1 hQ1 C1
  obtain ⟨X1, hS1, hZ1, ho1⟩ := rebS hS0 (by rw [e0]; exact hk0) Xq1 hSq1 hgq1 hZ0 ho0
  subst l1 y1 z1
  obtain ⟨x2, x3, x4, rfl, N5, k6, f7, f8, f9, f10, f11, f12, f13, f14⟩ := hQ1
  have N15 := Fr.app N0 N5
  have ge16 : n0 ≤ x2 := by rw [← O0.1]; exact Nat.le_trans O0.2.1 f7
  have CR17 := CR0.trans C1
  have hk18 : T1.heap.size ≤ T1.heap.size := Nat.le_refl _
  have O19 := O0.keep k6 all0
  obtain ⟨_, _, ⟨T20, L20, k20, n20⟩, -, Xq20, hSq20, hgq20, ⟨Lc20, hQ20, l20, y20, z20, C20⟩, st20⟩ := callSS X1 hx (y := (⟨"com/example/typecheck/typecheck/model/QNameEqualsPinLaw", "str", "(I)Ljava/lang/String;"⟩ : MethodName)) ho1 (mvT hZ1 (own_w hw 0 rfl)) (mvT hZ1 (own_w hw 1 rfl)) (mvT hZ1 (own_w hw 2 rfl)) (mvT hZ1 (own_w hw 3 rfl)) (by decide) (own_backS (W := 0) (rm := ({ frames := 4, cells := 6, slots := 12, locals := 66 } : Room)) (xs := []) (rm_str l Z a0 hw [] p2 zc T1.heap n0 O19 S_C hzc) hZ1 (own_w hw 3 rfl) (own_w hw 2 rfl) (by decide) (by decide) own_ew CR17.1 all0) (g := (mkF m 7 #[.val (.int p1), .val (.int p2), .val (.int p3), .val (.int p4), .val (.int p5), .val (.int p6), .val (.ref x2), .unset, .unset, .unset, .unset, .unset, .unset, .unset, .unset, .unset] [(.int p2)])) rfl (by rw [hml]; rfl) (argsL := [(.int p2)]) (rest := []) (lenOf pd_12 rfl) rfl (by show 2 * 0 + _ ≤ _; exact Nat.le_of_eq rfl) (hb hby at_7) (fun _ _ => ⟨rfl, rfl, (by decide : 6 + 6 ≤ _), (by decide : 12 + 12 ≤ _)⟩)
  dsimp only [Pt.U, Pt.locs, Pt.cells, Pt.slots] at Xq20 hSq20 hgq20 l20 y20 z20 st20 hQ20 C20
  obtain ⟨X20, hS20, hZ20, ho20⟩ := rebS hS1 (by exact hk18) Xq20 hSq20 hgq20 hZ1 ho1
  subst l20 y20 z20
  obtain ⟨x21, x22, x23, rfl, N24, k25, f26, f27, f28, f29, f30, f31, f32, f33⟩ := hQ20
  have N34 := Fr.app N15 N24
  have ge35 : n0 ≤ x21 := by rw [← O19.1]; exact Nat.le_trans O19.2.1 f26
  have ne36 : x2 ≠ x21 := Nat.ne_of_lt (Nat.lt_of_lt_of_le (Exa.lt f8) f26)
  have ne37 : x3 ≠ x21 := Nat.ne_of_lt (Nat.lt_of_lt_of_le (Arv.lt f12) f26)
  have CR38 := CR17.trans C20
  have hk39 : T20.heap.size ≤ T20.heap.size := Nat.le_refl _
  have O40 := O19.keep k25 all0
  have S41 : ∀ t, Steps p.tables e below (T20.setTop (mkF m 16 #[.val (.int p1), .val (.int p2), .val (.int p3), .val (.int p4), .val (.int p5), .val (.int p6), .val (.ref x2), .val (.ref x21), .unset, .unset, .unset, .unset, .unset, .unset, .unset, .unset] [(.int (p6 &&& (1 : Int32)))])) t → Steps p.tables e below (s₁.setTop (mkF m 0 #[.val (.int p1), .val (.int p2), .val (.int p3), .val (.int p4), .val (.int p5), .val (.int p6), .unset, .unset, .unset, .unset, .unset, .unset, .unset, .unset, .unset, .unset] [])) t := by
    intro t kt
    refine XS.iloadN X0.here hx rfl (hb hby at_0) rfl ?_
    show Steps p.tables e below (s₁.setTop (mkF m 1 #[.val (.int p1), .val (.int p2), .val (.int p3), .val (.int p4), .val (.int p5), .val (.int p6), .unset, .unset, .unset, .unset, .unset, .unset, .unset, .unset, .unset, .unset] [(.int p1)])) _
    refine st1.trans ?_
    refine XS.astore X1.here hx rfl (hb hby at_4) rfl rfl (l' := #[.val (.int p1), .val (.int p2), .val (.int p3), .val (.int p4), .val (.int p5), .val (.int p6), .val (.ref x2), .unset, .unset, .unset, .unset, .unset, .unset, .unset, .unset, .unset]) rfl ?_
    refine XS.iloadN X1.here hx rfl (hb hby at_6) rfl ?_
    show Steps p.tables e below (T1.setTop (mkF m 7 #[.val (.int p1), .val (.int p2), .val (.int p3), .val (.int p4), .val (.int p5), .val (.int p6), .val (.ref x2), .unset, .unset, .unset, .unset, .unset, .unset, .unset, .unset, .unset] [(.int p2)])) _
    refine st20.trans ?_
    refine XS.astore X20.here hx rfl (hb hby at_10) rfl rfl (l' := #[.val (.int p1), .val (.int p2), .val (.int p3), .val (.int p4), .val (.int p5), .val (.int p6), .val (.ref x2), .val (.ref x21), .unset, .unset, .unset, .unset, .unset, .unset, .unset, .unset]) rfl ?_
    refine XS.iload X20.here hx rfl (hb hby at_12) rfl ?_
    refine XS.iconst X20.here hx rfl (hb hby at_14) ?_
    refine XS.iand X20.here hx rfl (hb hby at_15) rfl ?_
    exact kt
  rcases Decidable.em ((p6 &&& (1 : Int32)) = (0 : Int32)) with c42 | c42
  · obtain ⟨_, _, ⟨T43, L43, k43, n43⟩, -, Xq43, hSq43, hgq43, ⟨Lc43, hQ43, l43, y43, z43, C43⟩, st43⟩ := callSS X20 hx (y := (⟨"com/example/typecheck/typecheck/model/QNameEqualsPinLaw", "str", "(I)Ljava/lang/String;"⟩ : MethodName)) ho20 (mvT hZ20 (own_w hw 0 rfl)) (mvT hZ20 (own_w hw 1 rfl)) (mvT hZ20 (own_w hw 2 rfl)) (mvT hZ20 (own_w hw 3 rfl)) (by decide) (own_backS (W := 0) (rm := ({ frames := 4, cells := 6, slots := 12, locals := 66 } : Room)) (xs := []) (rm_str l Z a0 hw [] p3 zc T20.heap n0 O40 S_C hzc) hZ20 (own_w hw 3 rfl) (own_w hw 2 rfl) (by decide) (by decide) own_ew CR38.1 all0) (g := (mkF m 27 #[.val (.int p1), .val (.int p2), .val (.int p3), .val (.int p4), .val (.int p5), .val (.int p6), .val (.ref x2), .val (.ref x21), .unset, .unset, .unset, .unset, .unset, .unset, .unset, .unset] [(.int p3)])) rfl (by rw [hml]; rfl) (argsL := [(.int p3)]) (rest := []) (lenOf pd_12 rfl) rfl (by show 2 * 0 + _ ≤ _; exact Nat.le_of_eq rfl) (hb hby at_27) (fun _ _ => ⟨rfl, rfl, (by decide : 12 + 6 ≤ _), (by decide : 24 + 12 ≤ _)⟩)
    dsimp only [Pt.U, Pt.locs, Pt.cells, Pt.slots] at Xq43 hSq43 hgq43 l43 y43 z43 st43 hQ43 C43
    obtain ⟨X43, hS43, hZ43, ho43⟩ := rebS hS20 (by exact hk39) Xq43 hSq43 hgq43 hZ20 ho20
    subst l43 y43 z43
    obtain ⟨x44, x45, x46, rfl, N47, k48, f49, f50, f51, f52, f53, f54, f55, f56⟩ := hQ43
    have N57 := Fr.app N34 N47
    have ge58 : n0 ≤ x44 := by rw [← O40.1]; exact Nat.le_trans O40.2.1 f49
    have f59 := (Exa.keep f8 k25)
    have ne60 : x2 ≠ x44 := Nat.ne_of_lt (Nat.lt_of_lt_of_le (Exa.lt f59) f49)
    have f61 := (Arv.keep f12 k25 nin0)
    have ne62 : x3 ≠ x44 := Nat.ne_of_lt (Nat.lt_of_lt_of_le (Arv.lt f61) f49)
    have ne63 : x21 ≠ x44 := Nat.ne_of_lt (Nat.lt_of_lt_of_le (Exa.lt f27) f49)
    have ne64 : x22 ≠ x44 := Nat.ne_of_lt (Nat.lt_of_lt_of_le (Arv.lt f31) f49)
    have CR65 := CR38.trans C43
    have hk66 : T43.heap.size ≤ T43.heap.size := Nat.le_refl _
    have O67 := O40.keep k48 all0
    have S68 : ∀ t, Steps p.tables e below (T43.setTop (mkF m 36 #[.val (.int p1), .val (.int p2), .val (.int p3), .val (.int p4), .val (.int p5), .val (.int p6), .val (.ref x2), .val (.ref x21), .val (.ref x44), .unset, .unset, .unset, .unset, .unset, .unset, .unset] [(.int (p6 &&& (2 : Int32)))])) t → Steps p.tables e below (s₁.setTop (mkF m 0 #[.val (.int p1), .val (.int p2), .val (.int p3), .val (.int p4), .val (.int p5), .val (.int p6), .unset, .unset, .unset, .unset, .unset, .unset, .unset, .unset, .unset, .unset] [])) t := by
      intro t kt
      refine S41 t ?_
      refine XS.ifYes X20.here hx rfl (pc0 := 16) (pc' := 26) rfl (hb hby at_16) rfl ((if0 _ _).trans (teq (c42 : (p6 &&& (1 : Int32)) = (0 : Int32))).1) (by decide) (by decide) ?_
      refine XS.iloadN X20.here hx rfl (hb hby at_26) rfl ?_
      show Steps p.tables e below (T20.setTop (mkF m 27 #[.val (.int p1), .val (.int p2), .val (.int p3), .val (.int p4), .val (.int p5), .val (.int p6), .val (.ref x2), .val (.ref x21), .unset, .unset, .unset, .unset, .unset, .unset, .unset, .unset] [(.int p3)])) _
      refine st43.trans ?_
      refine XS.astore X43.here hx rfl (hb hby at_30) rfl rfl (l' := #[.val (.int p1), .val (.int p2), .val (.int p3), .val (.int p4), .val (.int p5), .val (.int p6), .val (.ref x2), .val (.ref x21), .val (.ref x44), .unset, .unset, .unset, .unset, .unset, .unset, .unset]) rfl ?_
      refine XS.iload X43.here hx rfl (hb hby at_32) rfl ?_
      refine XS.iconst X43.here hx rfl (hb hby at_34) ?_
      refine XS.iand X43.here hx rfl (hb hby at_35) rfl ?_
      exact kt
    rcases Decidable.em ((p6 &&& (2 : Int32)) = (0 : Int32)) with c69 | c69
    · obtain ⟨_, _, ⟨T70, L70, k70, n70⟩, -, Xq70, hSq70, hgq70, ⟨Lc70, hQ70, l70, y70, z70, C70⟩, st70⟩ := callSS X43 hx (y := (⟨"com/example/typecheck/typecheck/model/QNameEqualsPinLaw", "str", "(I)Ljava/lang/String;"⟩ : MethodName)) ho43 (mvT hZ43 (own_w hw 0 rfl)) (mvT hZ43 (own_w hw 1 rfl)) (mvT hZ43 (own_w hw 2 rfl)) (mvT hZ43 (own_w hw 3 rfl)) (by decide) (own_backS (W := 0) (rm := ({ frames := 4, cells := 6, slots := 12, locals := 66 } : Room)) (xs := []) (rm_str l Z a0 hw [] p4 zc T43.heap n0 O67 S_C hzc) hZ43 (own_w hw 3 rfl) (own_w hw 2 rfl) (by decide) (by decide) own_ew CR65.1 all0) (g := (mkF m 47 #[.val (.int p1), .val (.int p2), .val (.int p3), .val (.int p4), .val (.int p5), .val (.int p6), .val (.ref x2), .val (.ref x21), .val (.ref x44), .unset, .unset, .unset, .unset, .unset, .unset, .unset] [(.int p4)])) rfl (by rw [hml]; rfl) (argsL := [(.int p4)]) (rest := []) (lenOf pd_12 rfl) rfl (by show 2 * 0 + _ ≤ _; exact Nat.le_of_eq rfl) (hb hby at_47) (fun _ _ => ⟨rfl, rfl, (by decide : 18 + 6 ≤ _), (by decide : 36 + 12 ≤ _)⟩)
      dsimp only [Pt.U, Pt.locs, Pt.cells, Pt.slots] at Xq70 hSq70 hgq70 l70 y70 z70 st70 hQ70 C70
      obtain ⟨X70, hS70, hZ70, ho70⟩ := rebS hS43 (by exact hk66) Xq70 hSq70 hgq70 hZ43 ho43
      subst l70 y70 z70
      obtain ⟨x71, x72, x73, rfl, N74, k75, f76, f77, f78, f79, f80, f81, f82, f83⟩ := hQ70
      have N84 := Fr.app N57 N74
      have ge85 : n0 ≤ x71 := by rw [← O67.1]; exact Nat.le_trans O67.2.1 f76
      have f86 := (Exa.keep f59 k48)
      have ne87 : x2 ≠ x71 := Nat.ne_of_lt (Nat.lt_of_lt_of_le (Exa.lt f86) f76)
      have f88 := (Arv.keep f61 k48 nin0)
      have ne89 : x3 ≠ x71 := Nat.ne_of_lt (Nat.lt_of_lt_of_le (Arv.lt f88) f76)
      have f90 := (Exa.keep f27 k48)
      have ne91 : x21 ≠ x71 := Nat.ne_of_lt (Nat.lt_of_lt_of_le (Exa.lt f90) f76)
      have f92 := (Arv.keep f31 k48 nin0)
      have ne93 : x22 ≠ x71 := Nat.ne_of_lt (Nat.lt_of_lt_of_le (Arv.lt f92) f76)
      have ne94 : x44 ≠ x71 := Nat.ne_of_lt (Nat.lt_of_lt_of_le (Exa.lt f50) f76)
      have ne95 : x45 ≠ x71 := Nat.ne_of_lt (Nat.lt_of_lt_of_le (Arv.lt f54) f76)
      have CR96 := CR65.trans C70
      have hk97 : T70.heap.size ≤ T70.heap.size := Nat.le_refl _
      have O98 := O67.keep k75 all0
      obtain ⟨_, _, ⟨T99, L99, k99, n99⟩, -, Xq99, hSq99, hgq99, ⟨Lc99, hQ99, l99, y99, z99, C99⟩, st99⟩ := callSS X70 hx (y := (⟨"com/example/typecheck/typecheck/model/QNameEqualsPinLaw", "str", "(I)Ljava/lang/String;"⟩ : MethodName)) ho70 (mvT hZ70 (own_w hw 0 rfl)) (mvT hZ70 (own_w hw 1 rfl)) (mvT hZ70 (own_w hw 2 rfl)) (mvT hZ70 (own_w hw 3 rfl)) (by decide) (own_backS (W := 0) (rm := ({ frames := 4, cells := 6, slots := 12, locals := 66 } : Room)) (xs := []) (rm_str l Z a0 hw [] p5 zc T70.heap n0 O98 S_C hzc) hZ70 (own_w hw 3 rfl) (own_w hw 2 rfl) (by decide) (by decide) own_ew CR96.1 all0) (g := (mkF m 54 #[.val (.int p1), .val (.int p2), .val (.int p3), .val (.int p4), .val (.int p5), .val (.int p6), .val (.ref x2), .val (.ref x21), .val (.ref x44), .val (.ref x71), .unset, .unset, .unset, .unset, .unset, .unset] [(.int p5)])) rfl (by rw [hml]; rfl) (argsL := [(.int p5)]) (rest := []) (lenOf pd_12 rfl) rfl (by show 2 * 0 + _ ≤ _; exact Nat.le_of_eq rfl) (hb hby at_54) (fun _ _ => ⟨rfl, rfl, (by decide : 24 + 6 ≤ _), (by decide : 48 + 12 ≤ _)⟩)
      dsimp only [Pt.U, Pt.locs, Pt.cells, Pt.slots] at Xq99 hSq99 hgq99 l99 y99 z99 st99 hQ99 C99
      obtain ⟨X99, hS99, hZ99, ho99⟩ := rebS hS70 (by exact hk97) Xq99 hSq99 hgq99 hZ70 ho70
      subst l99 y99 z99
      obtain ⟨x100, x101, x102, rfl, N103, k104, f105, f106, f107, f108, f109, f110, f111, f112⟩ := hQ99
      have N113 := Fr.app N84 N103
      have ge114 : n0 ≤ x100 := by rw [← O98.1]; exact Nat.le_trans O98.2.1 f105
      have f115 := (Exa.keep f86 k75)
      have ne116 : x2 ≠ x100 := Nat.ne_of_lt (Nat.lt_of_lt_of_le (Exa.lt f115) f105)
      have f117 := (Arv.keep f88 k75 nin0)
      have ne118 : x3 ≠ x100 := Nat.ne_of_lt (Nat.lt_of_lt_of_le (Arv.lt f117) f105)
      have f119 := (Exa.keep f90 k75)
      have ne120 : x21 ≠ x100 := Nat.ne_of_lt (Nat.lt_of_lt_of_le (Exa.lt f119) f105)
      have f121 := (Arv.keep f92 k75 nin0)
      have ne122 : x22 ≠ x100 := Nat.ne_of_lt (Nat.lt_of_lt_of_le (Arv.lt f121) f105)
      have f123 := (Exa.keep f50 k75)
      have ne124 : x44 ≠ x100 := Nat.ne_of_lt (Nat.lt_of_lt_of_le (Exa.lt f123) f105)
      have f125 := (Arv.keep f54 k75 nin0)
      have ne126 : x45 ≠ x100 := Nat.ne_of_lt (Nat.lt_of_lt_of_le (Arv.lt f125) f105)
      have ne127 : x71 ≠ x100 := Nat.ne_of_lt (Nat.lt_of_lt_of_le (Exa.lt f77) f105)
      have ne128 : x72 ≠ x100 := Nat.ne_of_lt (Nat.lt_of_lt_of_le (Arv.lt f81) f105)
      have CR129 := CR96.trans C99
      have hk130 : T99.heap.size ≤ T99.heap.size := Nat.le_refl _
      have O131 := O98.keep k104 all0
      obtain ⟨_, _, ⟨T132, L132, k132, n132⟩, -, Xq132, hSq132, hgq132, ⟨Lc132, hQ132, l132, y132, z132, C132⟩, st132⟩ := callSS X99 hx (y := (⟨"com/example/typecheck/typecheck/model/QNameEqualsPinLaw", "str", "(I)Ljava/lang/String;"⟩ : MethodName)) ho99 (mvT hZ99 (own_w hw 0 rfl)) (mvT hZ99 (own_w hw 1 rfl)) (mvT hZ99 (own_w hw 2 rfl)) (mvT hZ99 (own_w hw 3 rfl)) (by decide) (own_backS (W := 0) (rm := ({ frames := 4, cells := 6, slots := 12, locals := 66 } : Room)) (xs := []) (rm_str l Z a0 hw [] ((p6.toUInt32 >>> ((4 : Int32) &&& 31).toUInt32).toInt32) zc T99.heap n0 O131 S_C hzc) hZ99 (own_w hw 3 rfl) (own_w hw 2 rfl) (by decide) (by decide) own_ew CR129.1 all0) (g := (mkF m 63 #[.val (.int p1), .val (.int p2), .val (.int p3), .val (.int p4), .val (.int p5), .val (.int p6), .val (.ref x2), .val (.ref x21), .val (.ref x44), .val (.ref x71), .val (.ref x100), .unset, .unset, .unset, .unset, .unset] [(.int ((p6.toUInt32 >>> ((4 : Int32) &&& 31).toUInt32).toInt32))])) rfl (by rw [hml]; rfl) (argsL := [(.int ((p6.toUInt32 >>> ((4 : Int32) &&& 31).toUInt32).toInt32))]) (rest := []) (lenOf pd_12 rfl) rfl (by show 2 * 0 + _ ≤ _; exact Nat.le_of_eq rfl) (hb hby at_63) (fun _ _ => ⟨rfl, rfl, (by decide : 30 + 6 ≤ _), (by decide : 60 + 12 ≤ _)⟩)
      dsimp only [Pt.U, Pt.locs, Pt.cells, Pt.slots] at Xq132 hSq132 hgq132 l132 y132 z132 st132 hQ132 C132
      obtain ⟨X132, hS132, hZ132, ho132⟩ := rebS hS99 (by exact hk130) Xq132 hSq132 hgq132 hZ99 ho99
      subst l132 y132 z132
      obtain ⟨x133, x134, x135, rfl, N136, k137, f138, f139, f140, f141, f142, f143, f144, f145⟩ := hQ132
      have N146 := Fr.app N113 N136
      have ge147 : n0 ≤ x133 := by rw [← O131.1]; exact Nat.le_trans O131.2.1 f138
      have f148 := (Exa.keep f115 k104)
      have ne149 : x2 ≠ x133 := Nat.ne_of_lt (Nat.lt_of_lt_of_le (Exa.lt f148) f138)
      have f150 := (Arv.keep f117 k104 nin0)
      have ne151 : x3 ≠ x133 := Nat.ne_of_lt (Nat.lt_of_lt_of_le (Arv.lt f150) f138)
      have f152 := (Exa.keep f119 k104)
      have ne153 : x21 ≠ x133 := Nat.ne_of_lt (Nat.lt_of_lt_of_le (Exa.lt f152) f138)
      have f154 := (Arv.keep f121 k104 nin0)
      have ne155 : x22 ≠ x133 := Nat.ne_of_lt (Nat.lt_of_lt_of_le (Arv.lt f154) f138)
      have f156 := (Exa.keep f123 k104)
      have ne157 : x44 ≠ x133 := Nat.ne_of_lt (Nat.lt_of_lt_of_le (Exa.lt f156) f138)
      have f158 := (Arv.keep f125 k104 nin0)
      have ne159 : x45 ≠ x133 := Nat.ne_of_lt (Nat.lt_of_lt_of_le (Arv.lt f158) f138)
      have f160 := (Exa.keep f77 k104)
      have ne161 : x71 ≠ x133 := Nat.ne_of_lt (Nat.lt_of_lt_of_le (Exa.lt f160) f138)
      have f162 := (Arv.keep f81 k104 nin0)
      have ne163 : x72 ≠ x133 := Nat.ne_of_lt (Nat.lt_of_lt_of_le (Arv.lt f162) f138)
      have ne164 : x100 ≠ x133 := Nat.ne_of_lt (Nat.lt_of_lt_of_le (Exa.lt f106) f138)
      have ne165 : x101 ≠ x133 := Nat.ne_of_lt (Nat.lt_of_lt_of_le (Arv.lt f110) f138)
      have CR166 := CR129.trans C132
      have hk167 : T132.heap.size ≤ T132.heap.size := Nat.le_refl _
      have O168 := O131.keep k137 all0
      have S169 : ∀ t, Steps p.tables e below (T132.setTop (mkF m 68 #[.val (.int p1), .val (.int p2), .val (.int p3), .val (.int p4), .val (.int p5), .val (.int p6), .val (.ref x2), .val (.ref x21), .val (.ref x44), .val (.ref x71), .val (.ref x100), .val (.ref x133), .unset, .unset, .unset, .unset] [])) t → Steps p.tables e below (s₁.setTop (mkF m 0 #[.val (.int p1), .val (.int p2), .val (.int p3), .val (.int p4), .val (.int p5), .val (.int p6), .unset, .unset, .unset, .unset, .unset, .unset, .unset, .unset, .unset, .unset] [])) t := by
        intro t kt
        refine S68 t ?_
        refine XS.ifYes X43.here hx rfl (pc0 := 36) (pc' := 46) rfl (hb hby at_36) rfl ((if0 _ _).trans (teq (c69 : (p6 &&& (2 : Int32)) = (0 : Int32))).1) (by decide) (by decide) ?_
        refine XS.iloadN X43.here hx rfl (hb hby at_46) rfl ?_
        show Steps p.tables e below (T43.setTop (mkF m 47 #[.val (.int p1), .val (.int p2), .val (.int p3), .val (.int p4), .val (.int p5), .val (.int p6), .val (.ref x2), .val (.ref x21), .val (.ref x44), .unset, .unset, .unset, .unset, .unset, .unset, .unset] [(.int p4)])) _
        refine st70.trans ?_
        refine XS.astore X70.here hx rfl (hb hby at_50) rfl rfl (l' := #[.val (.int p1), .val (.int p2), .val (.int p3), .val (.int p4), .val (.int p5), .val (.int p6), .val (.ref x2), .val (.ref x21), .val (.ref x44), .val (.ref x71), .unset, .unset, .unset, .unset, .unset, .unset]) rfl ?_
        refine XS.iload X70.here hx rfl (hb hby at_52) rfl ?_
        show Steps p.tables e below (T70.setTop (mkF m 54 #[.val (.int p1), .val (.int p2), .val (.int p3), .val (.int p4), .val (.int p5), .val (.int p6), .val (.ref x2), .val (.ref x21), .val (.ref x44), .val (.ref x71), .unset, .unset, .unset, .unset, .unset, .unset] [(.int p5)])) _
        refine st99.trans ?_
        refine XS.astore X99.here hx rfl (hb hby at_57) rfl rfl (l' := #[.val (.int p1), .val (.int p2), .val (.int p3), .val (.int p4), .val (.int p5), .val (.int p6), .val (.ref x2), .val (.ref x21), .val (.ref x44), .val (.ref x71), .val (.ref x100), .unset, .unset, .unset, .unset, .unset]) rfl ?_
        refine XS.iload X99.here hx rfl (hb hby at_59) rfl ?_
        refine XS.iconst X99.here hx rfl (hb hby at_61) ?_
        refine XS.iushr X99.here hx rfl (hb hby at_62) rfl ?_
        show Steps p.tables e below (T99.setTop (mkF m 63 #[.val (.int p1), .val (.int p2), .val (.int p3), .val (.int p4), .val (.int p5), .val (.int p6), .val (.ref x2), .val (.ref x21), .val (.ref x44), .val (.ref x71), .val (.ref x100), .unset, .unset, .unset, .unset, .unset] [(.int ((p6.toUInt32 >>> ((4 : Int32) &&& 31).toUInt32).toInt32))])) _
        refine st132.trans ?_
        refine XS.astore X132.here hx rfl (hb hby at_66) rfl rfl (l' := #[.val (.int p1), .val (.int p2), .val (.int p3), .val (.int p4), .val (.int p5), .val (.int p6), .val (.ref x2), .val (.ref x21), .val (.ref x44), .val (.ref x71), .val (.ref x100), .val (.ref x133), .unset, .unset, .unset, .unset]) rfl ?_
        exact kt
      have f171 := (Exa.keep f148 k137)
      have f172 := (Arv.keep f150 k137 nin0)
      have ne170 : x2 ≠ x3 := own_arvne (own_w hw 6 rfl) f171 f172
      have f174 := (Arv.keep f154 k137 nin0)
      have ne173 : x2 ≠ x22 := own_arvne (own_w hw 6 rfl) f171 f174
      have f176 := (Arv.keep f158 k137 nin0)
      have ne175 : x2 ≠ x45 := own_arvne (own_w hw 6 rfl) f171 f176
      have f178 := (Arv.keep f162 k137 nin0)
      have ne177 : x2 ≠ x72 := own_arvne (own_w hw 6 rfl) f171 f178
      have f180 := (Exa.keep f152 k137)
      have ne179 : x21 ≠ x22 := own_arvne (own_w hw 6 rfl) f180 f174
      have ne181 : x21 ≠ x45 := own_arvne (own_w hw 6 rfl) f180 f176
      have ne182 : x21 ≠ x72 := own_arvne (own_w hw 6 rfl) f180 f178
      have f184 := (Exa.keep f156 k137)
      have ne183 : x44 ≠ x45 := own_arvne (own_w hw 6 rfl) f184 f176
      have ne185 : x44 ≠ x72 := own_arvne (own_w hw 6 rfl) f184 f178
      have f187 := (Exa.keep f160 k137)
      have ne186 : x71 ≠ x72 := own_arvne (own_w hw 6 rfl) f187 f178
      obtain ⟨T188, h188, X188, e188, E188, A188, D188, -, st188⟩ := newO X132 hx hZ132 ho132 (own_w hw 26 rfl) (own_w hw 27 rfl) (own_w hw 28 rfl) rfl (g := (mkF m 68 #[.val (.int p1), .val (.int p2), .val (.int p3), .val (.int p4), .val (.int p5), .val (.int p6), .val (.ref x2), .val (.ref x21), .val (.ref x44), .val (.ref x71), .val (.ref x100), .val (.ref x133), .unset, .unset, .unset, .unset] [])) rfl (hb hby at_68) (by decide) (by decide)
      obtain ⟨b188, g188⟩ : ∃ z, z = T132.heap.size := ⟨_, rfl⟩
      have ge_b188 : n0 ≤ b188 := by rw [g188, ← O168.1]; exact O168.2.1
      have ne189 : x2 ≠ b188 := Nat.ne_of_lt (Nat.lt_of_lt_of_le (Exa.lt f171) (Nat.le_of_eq g188.symm))
      have ne190 : x3 ≠ b188 := Nat.ne_of_lt (Nat.lt_of_lt_of_le (Arv.lt f172) (Nat.le_of_eq g188.symm))
      have ne191 : x21 ≠ b188 := Nat.ne_of_lt (Nat.lt_of_lt_of_le (Exa.lt f180) (Nat.le_of_eq g188.symm))
      have ne192 : x22 ≠ b188 := Nat.ne_of_lt (Nat.lt_of_lt_of_le (Arv.lt f174) (Nat.le_of_eq g188.symm))
      have ne193 : x44 ≠ b188 := Nat.ne_of_lt (Nat.lt_of_lt_of_le (Exa.lt f184) (Nat.le_of_eq g188.symm))
      have ne194 : x45 ≠ b188 := Nat.ne_of_lt (Nat.lt_of_lt_of_le (Arv.lt f176) (Nat.le_of_eq g188.symm))
      have ne195 : x71 ≠ b188 := Nat.ne_of_lt (Nat.lt_of_lt_of_le (Exa.lt f187) (Nat.le_of_eq g188.symm))
      have ne196 : x72 ≠ b188 := Nat.ne_of_lt (Nat.lt_of_lt_of_le (Arv.lt f178) (Nat.le_of_eq g188.symm))
      rw [← g188] at A188 D188 st188
      have hk197 := Nat.le_trans hk167 E188.1
      have O198 := O168.ext E188
      have F199 : Fld Z h188 b188 "com/example/typecheck/typecheck/model/QName" "prefix" "Ljava/lang/String;" .null := D188 (Or.inr (own_w hw 34 rfl)) (ty := (.object "java/lang/String")) (by decide)
      have F200 : Fld Z h188 b188 "com/example/typecheck/typecheck/model/QName" "namespace" "Ljava/lang/String;" .null := D188 (Or.inr (own_w hw 36 rfl)) (ty := (.object "java/lang/String")) (by decide)
      have F201 : Fld Z h188 b188 "com/example/typecheck/typecheck/model/QName" "localName" "Ljava/lang/String;" .null := D188 (Or.inr (own_w hw 38 rfl)) (ty := (.object "java/lang/String")) (by decide)
      have F202 : Fld Z h188 b188 "com/example/typecheck/typecheck/model/QName" "hash" "I" (.int (0 : Int32)) := D188 (Or.inr (own_w hw 59 rfl)) (ty := .int) (by decide)
      have f204 := (Exa.ext E188 f171)
      have f205 := (Fld.ext E188 (Fld.keep (Fld.keep (Fld.keep (Fld.keep (Fld.keep f9 k25 nin0) k48 nin0) k75 nin0) k104 nin0) k137 nin0))
      have f206 := (Fld.ext E188 (Fld.keep (Fld.keep (Fld.keep (Fld.keep (Fld.keep f10 k25 nin0) k48 nin0) k75 nin0) k104 nin0) k137 nin0))
      have f207 := (fun q => Exa.ext E188 ((fun q => Exa.keep ((fun q => Exa.keep ((fun q => Exa.keep ((fun q => Exa.keep ((fun q => Exa.keep (f11 q) k25) q) k48) q) k75) q) k104) q) k137) q))
      have f208 := (Arv.ext f172 E188)
      have f209 := (Fld.ext E188 (Fld.keep (Fld.keep (Fld.keep (Fld.keep (Fld.keep f13 k25 nin0) k48 nin0) k75 nin0) k104 nin0) k137 nin0))
      have f210 := (Fld.ext E188 (Fld.keep (Fld.keep (Fld.keep (Fld.keep (Fld.keep f14 k25 nin0) k48 nin0) k75 nin0) k104 nin0) k137 nin0))
      have f211 := (Exa.ext E188 f180)
      have f212 := (Fld.ext E188 (Fld.keep (Fld.keep (Fld.keep (Fld.keep f28 k48 nin0) k75 nin0) k104 nin0) k137 nin0))
      have f213 := (Fld.ext E188 (Fld.keep (Fld.keep (Fld.keep (Fld.keep f29 k48 nin0) k75 nin0) k104 nin0) k137 nin0))
      have f214 := (fun q => Exa.ext E188 ((fun q => Exa.keep ((fun q => Exa.keep ((fun q => Exa.keep ((fun q => Exa.keep (f30 q) k48) q) k75) q) k104) q) k137) q))
      have f215 := (Arv.ext f174 E188)
      have f216 := (Fld.ext E188 (Fld.keep (Fld.keep (Fld.keep (Fld.keep f32 k48 nin0) k75 nin0) k104 nin0) k137 nin0))
      have f217 := (Fld.ext E188 (Fld.keep (Fld.keep (Fld.keep (Fld.keep f33 k48 nin0) k75 nin0) k104 nin0) k137 nin0))
      obtain ⟨_, _, ⟨T203, L203, k203, n203⟩, -, X203, ⟨Lc203, hQ203, l203, y203, z203⟩, st203⟩ := X188.specialBack hx (y := (⟨"com/example/typecheck/typecheck/model/QName", "<init>", "(Ljava/lang/String;Ljava/lang/String;Ljava/lang/String;)V"⟩ : MethodName)) rfl ho132 (mvT hZ132 (own_w hw 29 rfl)) (mvT hZ132 (own_w hw 30 rfl)) (mvT hZ132 (own_w hw 31 rfl)) (by decide) (backOf (W := 1) (rm_qini l Z a0 hw [] b188 x100 x2 x3 x4 (own_cs p1) x21 x22 x23 (own_cs p2) zc h188 n0 O198 A188 ge_b188 F199 F200 F201 F202 f204 f205 f206 f207 f208 f209 f210 ge16 f211 f212 f213 f214 f215 f216 f217 ge35 ne36 (own_csok p1) (own_csok p2) S_C hzc) hZ132 (own_w hw 31 rfl) (own_w hw 28 rfl) (by decide) (by decide)) (g := (mkF m 78 #[.val (.int p1), .val (.int p2), .val (.int p3), .val (.int p4), .val (.int p5), .val (.int p6), .val (.ref x2), .val (.ref x21), .val (.ref x44), .val (.ref x71), .val (.ref x100), .val (.ref x133), .unset, .unset, .unset, .unset] [(.ref x21), (.ref x2), (.ref x100), (.ref b188), (.ref b188)])) rfl (by rw [hml]; rfl) (Steps.refl _) (a := b188) (argsL := [(.ref x100), (.ref x2), (.ref x21)]) (rest := [(.ref b188)]) (lenOf pd_13 rfl) rfl (by show 2 * 0 + _ ≤ _; exact Nat.le_of_eq rfl) (hb hby at_78) (fun _ _ => ⟨rfl, e188, (by decide : 37 + 0 ≤ _), (by decide : 76 + 0 ≤ _)⟩)
      dsimp only [Pt.U, Pt.locs, Pt.cells, Pt.slots] at X203 l203 y203 z203 st203 hQ203
      subst l203 y203 z203
      obtain ⟨rfl, N218, k219, f220, f221, f222, f223, f224, f225, f226, f227, f228, f229⟩ := hQ203
      have N230 := Fr.app N146 N218
      have hk231 := Nat.le_trans hk197 k219.1
      have O232 := O198.keep k219 (allS ge_b188 (allS ge16 (allS ge35 all0)))
      obtain ⟨T233, h233, X233, e233, E233, A233, D233, -, st233⟩ := newO X203 hx hZ132 ho132 (own_w hw 26 rfl) (own_w hw 27 rfl) (own_w hw 28 rfl) rfl (g := (mkF m 83 #[.val (.int p1), .val (.int p2), .val (.int p3), .val (.int p4), .val (.int p5), .val (.int p6), .val (.ref x2), .val (.ref x21), .val (.ref x44), .val (.ref x71), .val (.ref x100), .val (.ref x133), .val (.ref b188), .unset, .unset, .unset] [])) rfl (hb hby at_83) (by decide) (by decide)
      obtain ⟨b233, g233⟩ : ∃ z, z = T203.heap.size := ⟨_, rfl⟩
      have ge_b233 : n0 ≤ b233 := by rw [g233, ← O232.1]; exact O232.2.1
      have ne234 : x2 ≠ b233 := Nat.ne_of_lt (Nat.lt_of_lt_of_le (Exa.lt f224) (Nat.le_of_eq g233.symm))
      have f235 := (Arv.keep f208 k219 (ninS ne190 (ninS (Ne.symm ne170) (ninS ne37 nin0))))
      have ne236 : x3 ≠ b233 := Nat.ne_of_lt (Nat.lt_of_lt_of_le (Arv.lt f235) (Nat.le_of_eq g233.symm))
      have ne237 : x21 ≠ b233 := Nat.ne_of_lt (Nat.lt_of_lt_of_le (Exa.lt f227) (Nat.le_of_eq g233.symm))
      have f238 := (Arv.keep f215 k219 (ninS ne192 (ninS (Ne.symm ne173) (ninS (Ne.symm ne179) nin0))))
      have ne239 : x22 ≠ b233 := Nat.ne_of_lt (Nat.lt_of_lt_of_le (Arv.lt f238) (Nat.le_of_eq g233.symm))
      have f240 := (Exa.keep (Exa.ext E188 f184) k219)
      have ne241 : x44 ≠ b233 := Nat.ne_of_lt (Nat.lt_of_lt_of_le (Exa.lt f240) (Nat.le_of_eq g233.symm))
      have f242 := (Arv.keep (Arv.ext f176 E188) k219 (ninS ne194 (ninS (Ne.symm ne175) (ninS (Ne.symm ne181) nin0))))
      have ne243 : x45 ≠ b233 := Nat.ne_of_lt (Nat.lt_of_lt_of_le (Arv.lt f242) (Nat.le_of_eq g233.symm))
      have f244 := (Exa.keep (Exa.ext E188 f187) k219)
      have ne245 : x71 ≠ b233 := Nat.ne_of_lt (Nat.lt_of_lt_of_le (Exa.lt f244) (Nat.le_of_eq g233.symm))
      have f246 := (Arv.keep (Arv.ext f178 E188) k219 (ninS ne196 (ninS (Ne.symm ne177) (ninS (Ne.symm ne182) nin0))))
      have ne247 : x72 ≠ b233 := Nat.ne_of_lt (Nat.lt_of_lt_of_le (Arv.lt f246) (Nat.le_of_eq g233.symm))
      have ne248 : b188 ≠ b233 := Nat.ne_of_lt (Nat.lt_of_lt_of_le (Exa.lt f220) (Nat.le_of_eq g233.symm))
      rw [← g233] at A233 D233 st233
      have hk249 := Nat.le_trans hk231 E233.1
      have O250 := O232.ext E233
      have F251 : Fld Z h233 b233 "com/example/typecheck/typecheck/model/QName" "prefix" "Ljava/lang/String;" .null := D233 (Or.inr (own_w hw 34 rfl)) (ty := (.object "java/lang/String")) (by decide)
      have F252 : Fld Z h233 b233 "com/example/typecheck/typecheck/model/QName" "namespace" "Ljava/lang/String;" .null := D233 (Or.inr (own_w hw 36 rfl)) (ty := (.object "java/lang/String")) (by decide)
      have F253 : Fld Z h233 b233 "com/example/typecheck/typecheck/model/QName" "localName" "Ljava/lang/String;" .null := D233 (Or.inr (own_w hw 38 rfl)) (ty := (.object "java/lang/String")) (by decide)
      have F254 : Fld Z h233 b233 "com/example/typecheck/typecheck/model/QName" "hash" "I" (.int (0 : Int32)) := D233 (Or.inr (own_w hw 59 rfl)) (ty := .int) (by decide)
      have f256 := (Exa.ext E233 f240)
      have f257 := (Fld.ext E233 (Fld.keep (Fld.ext E188 (Fld.keep (Fld.keep (Fld.keep f51 k75 nin0) k104 nin0) k137 nin0)) k219 (ninS ne193 (ninS (Ne.symm ne60) (ninS (Ne.symm ne63) nin0)))))
      have f258 := (Fld.ext E233 (Fld.keep (Fld.ext E188 (Fld.keep (Fld.keep (Fld.keep f52 k75 nin0) k104 nin0) k137 nin0)) k219 (ninS ne193 (ninS (Ne.symm ne60) (ninS (Ne.symm ne63) nin0)))))
      have f259 := (fun q => Exa.ext E233 ((fun q => Exa.keep ((fun q => Exa.ext E188 ((fun q => Exa.keep ((fun q => Exa.keep ((fun q => Exa.keep (f53 q) k75) q) k104) q) k137) q)) q) k219) q))
      have f260 := (Arv.ext f242 E233)
      have f261 := (Fld.ext E233 (Fld.keep (Fld.ext E188 (Fld.keep (Fld.keep (Fld.keep f55 k75 nin0) k104 nin0) k137 nin0)) k219 (ninS ne193 (ninS (Ne.symm ne60) (ninS (Ne.symm ne63) nin0)))))
      have f262 := (Fld.ext E233 (Fld.keep (Fld.ext E188 (Fld.keep (Fld.keep (Fld.keep f56 k75 nin0) k104 nin0) k137 nin0)) k219 (ninS ne193 (ninS (Ne.symm ne60) (ninS (Ne.symm ne63) nin0)))))
      have f263 := (Exa.ext E233 f244)
      have f264 := (Fld.ext E233 (Fld.keep (Fld.ext E188 (Fld.keep (Fld.keep f78 k104 nin0) k137 nin0)) k219 (ninS ne195 (ninS (Ne.symm ne87) (ninS (Ne.symm ne91) nin0)))))
      have f265 := (Fld.ext E233 (Fld.keep (Fld.ext E188 (Fld.keep (Fld.keep f79 k104 nin0) k137 nin0)) k219 (ninS ne195 (ninS (Ne.symm ne87) (ninS (Ne.symm ne91) nin0)))))
      have f266 := (fun q => Exa.ext E233 ((fun q => Exa.keep ((fun q => Exa.ext E188 ((fun q => Exa.keep ((fun q => Exa.keep (f80 q) k104) q) k137) q)) q) k219) q))
      have f267 := (Arv.ext f246 E233)
      have f268 := (Fld.ext E233 (Fld.keep (Fld.ext E188 (Fld.keep (Fld.keep f82 k104 nin0) k137 nin0)) k219 (ninS ne195 (ninS (Ne.symm ne87) (ninS (Ne.symm ne91) nin0)))))
      have f269 := (Fld.ext E233 (Fld.keep (Fld.ext E188 (Fld.keep (Fld.keep f83 k104 nin0) k137 nin0)) k219 (ninS ne195 (ninS (Ne.symm ne87) (ninS (Ne.symm ne91) nin0)))))
      obtain ⟨_, _, ⟨T255, L255, k255, n255⟩, -, X255, ⟨Lc255, hQ255, l255, y255, z255⟩, st255⟩ := X233.specialBack hx (y := (⟨"com/example/typecheck/typecheck/model/QName", "<init>", "(Ljava/lang/String;Ljava/lang/String;Ljava/lang/String;)V"⟩ : MethodName)) rfl ho132 (mvT hZ132 (own_w hw 29 rfl)) (mvT hZ132 (own_w hw 30 rfl)) (mvT hZ132 (own_w hw 31 rfl)) (by decide) (backOf (W := 1) (rm_qini l Z a0 hw [] b233 x133 x44 x45 x46 (own_cs p3) x71 x72 x73 (own_cs p4) zc h233 n0 O250 A233 ge_b233 F251 F252 F253 F254 f256 f257 f258 f259 f260 f261 f262 ge58 f263 f264 f265 f266 f267 f268 f269 ge85 ne94 (own_csok p3) (own_csok p4) S_C hzc) hZ132 (own_w hw 31 rfl) (own_w hw 28 rfl) (by decide) (by decide)) (g := (mkF m 93 #[.val (.int p1), .val (.int p2), .val (.int p3), .val (.int p4), .val (.int p5), .val (.int p6), .val (.ref x2), .val (.ref x21), .val (.ref x44), .val (.ref x71), .val (.ref x100), .val (.ref x133), .val (.ref b188), .unset, .unset, .unset] [(.ref x71), (.ref x44), (.ref x133), (.ref b233), (.ref b233)])) rfl (by rw [hml]; rfl) (Steps.refl _) (a := b233) (argsL := [(.ref x133), (.ref x44), (.ref x71)]) (rest := [(.ref b233)]) (lenOf pd_13 rfl) rfl (by show 2 * 0 + _ ≤ _; exact Nat.le_of_eq rfl) (hb hby at_93) (fun _ _ => ⟨rfl, e233, (by decide : 38 + 0 ≤ _), (by decide : 80 + 0 ≤ _)⟩)
      dsimp only [Pt.U, Pt.locs, Pt.cells, Pt.slots] at X255 l255 y255 z255 st255 hQ255
      subst l255 y255 z255
      obtain ⟨rfl, N270, k271, f272, f273, f274, f275, f276, f277, f278, f279, f280, f281⟩ := hQ255
      have N282 := Fr.app N230 N270
      have hk283 := Nat.le_trans hk249 k271.1
      have O284 := O250.keep k271 (allS ge_b233 (allS ge58 (allS ge85 all0)))
      have S285 : ∀ t, Steps p.tables e below (T255.setTop (mkF m 108 #[.val (.int p1), .val (.int p2), .val (.int p3), .val (.int p4), .val (.int p5), .val (.int p6), .val (.ref x2), .val (.ref x21), .val (.ref x44), .val (.ref x71), .val (.ref x100), .val (.ref x133), .val (.ref b188), .val (.ref b233), .val (.int (((p6.toUInt32 >>> ((2 : Int32) &&& 31).toUInt32).toInt32) &&& (3 : Int32))), .unset] [(.int (((p6.toUInt32 >>> ((2 : Int32) &&& 31).toUInt32).toInt32) &&& (3 : Int32)))])) t → Steps p.tables e below (s₁.setTop (mkF m 0 #[.val (.int p1), .val (.int p2), .val (.int p3), .val (.int p4), .val (.int p5), .val (.int p6), .unset, .unset, .unset, .unset, .unset, .unset, .unset, .unset, .unset, .unset] [])) t := by
        intro t kt
        refine S169 t ?_
        refine st188 _ ?_
        refine XS.dup X188.here hx rfl (hb hby at_71) rfl rfl ?_
        refine XS.aload X188.here hx rfl (hb hby at_72) rfl rfl ?_
        refine XS.aload X188.here hx rfl (hb hby at_74) rfl rfl ?_
        refine XS.aload X188.here hx rfl (hb hby at_76) rfl rfl ?_
        show Steps p.tables e below (T188.setTop (mkF m 78 #[.val (.int p1), .val (.int p2), .val (.int p3), .val (.int p4), .val (.int p5), .val (.int p6), .val (.ref x2), .val (.ref x21), .val (.ref x44), .val (.ref x71), .val (.ref x100), .val (.ref x133), .unset, .unset, .unset, .unset] [(.ref x21), (.ref x2), (.ref x100), (.ref b188), (.ref b188)])) _
        refine st203.trans ?_
        refine XS.astore X203.here hx rfl (hb hby at_81) rfl rfl (l' := #[.val (.int p1), .val (.int p2), .val (.int p3), .val (.int p4), .val (.int p5), .val (.int p6), .val (.ref x2), .val (.ref x21), .val (.ref x44), .val (.ref x71), .val (.ref x100), .val (.ref x133), .val (.ref b188), .unset, .unset, .unset]) rfl ?_
        show Steps p.tables e below (T203.setTop (mkF m 83 #[.val (.int p1), .val (.int p2), .val (.int p3), .val (.int p4), .val (.int p5), .val (.int p6), .val (.ref x2), .val (.ref x21), .val (.ref x44), .val (.ref x71), .val (.ref x100), .val (.ref x133), .val (.ref b188), .unset, .unset, .unset] [])) _
        refine st233 _ ?_
        refine XS.dup X233.here hx rfl (hb hby at_86) rfl rfl ?_
        refine XS.aload X233.here hx rfl (hb hby at_87) rfl rfl ?_
        refine XS.aload X233.here hx rfl (hb hby at_89) rfl rfl ?_
        refine XS.aload X233.here hx rfl (hb hby at_91) rfl rfl ?_
        show Steps p.tables e below (T233.setTop (mkF m 93 #[.val (.int p1), .val (.int p2), .val (.int p3), .val (.int p4), .val (.int p5), .val (.int p6), .val (.ref x2), .val (.ref x21), .val (.ref x44), .val (.ref x71), .val (.ref x100), .val (.ref x133), .val (.ref b188), .unset, .unset, .unset] [(.ref x71), (.ref x44), (.ref x133), (.ref b233), (.ref b233)])) _
        refine st255.trans ?_
        refine XS.astore X255.here hx rfl (hb hby at_96) rfl rfl (l' := #[.val (.int p1), .val (.int p2), .val (.int p3), .val (.int p4), .val (.int p5), .val (.int p6), .val (.ref x2), .val (.ref x21), .val (.ref x44), .val (.ref x71), .val (.ref x100), .val (.ref x133), .val (.ref b188), .val (.ref b233), .unset, .unset]) rfl ?_
        refine XS.iload X255.here hx rfl (hb hby at_98) rfl ?_
        refine XS.iconst X255.here hx rfl (hb hby at_100) ?_
        refine XS.iushr X255.here hx rfl (hb hby at_101) rfl ?_
        refine XS.iconst X255.here hx rfl (hb hby at_102) ?_
        refine XS.iand X255.here hx rfl (hb hby at_103) rfl ?_
        refine XS.istore X255.here hx rfl (hb hby at_104) rfl (l' := #[.val (.int p1), .val (.int p2), .val (.int p3), .val (.int p4), .val (.int p5), .val (.int p6), .val (.ref x2), .val (.ref x21), .val (.ref x44), .val (.ref x71), .val (.ref x100), .val (.ref x133), .val (.ref b188), .val (.ref b233), .val (.int (((p6.toUInt32 >>> ((2 : Int32) &&& 31).toUInt32).toInt32) &&& (3 : Int32))), .unset]) rfl ?_
        refine XS.iload X255.here hx rfl (hb hby at_106) rfl ?_
        exact kt
      rcases Decidable.em ((((p6.toUInt32 >>> ((2 : Int32) &&& 31).toUInt32).toInt32) &&& (3 : Int32)) = (0 : Int32)) with c286 | c286
      · have f288 := (Exa.keep (Exa.ext E233 f224) k271)
        have f289 := (Fld.keep (Fld.ext E233 f225) k271 (ninS ne234 (ninS ne60 (ninS ne87 nin0))))
        have f290 := (Fld.keep (Fld.ext E233 f226) k271 (ninS ne234 (ninS ne60 (ninS ne87 nin0))))
        have f291 := (fun q => Exa.keep ((fun q => Exa.ext E233 ((fun q => Exa.keep (f207 q) k219) q)) q) k271)
        have f292 := (Arv.keep (Arv.ext f235 E233) k271 (ninS ne236 (ninS ne62 (ninS ne89 nin0))))
        have f293 := (fun q => Exa.keep (f259 q) k271)
        have f294 := (Arv.keep f260 k271 (ninS ne243 (ninS (Ne.symm ne183) (ninS ne95 nin0))))
        obtain ⟨_, _, ⟨T287, L287, k287, n287⟩, -, X287, ⟨Lc287, hQ287, l287, y287, z287⟩, st287⟩ := Jvm.LawKit.callS X255 hx (y := (⟨"com/example/typecheck/typecheck/model/QNameEqualsPinLaw", "same", "(Ljava/lang/String;Ljava/lang/String;)Z"⟩ : MethodName)) ho132 (mvT hZ132 (own_w hw 60 rfl)) (mvT hZ132 (own_w hw 61 rfl)) (mvT hZ132 (own_w hw 2 rfl)) (mvT hZ132 (own_w hw 62 rfl)) (by decide) (backOf (W := 0) (rm_same l Z a0 hw [] x2 x3 x4 (own_cs p1) x44 x45 x46 (own_cs p3) zc fm T255.heap n0 O284 f288 f289 f290 f291 f292 f276 f277 f278 f293 f294 (own_csok p1) (own_csok p3) S_C hzc S_F hfm) hZ132 (own_w hw 62 rfl) (own_w hw 2 rfl) (by decide) (by decide)) (g := (mkF m 115 #[.val (.int p1), .val (.int p2), .val (.int p3), .val (.int p4), .val (.int p5), .val (.int p6), .val (.ref x2), .val (.ref x21), .val (.ref x44), .val (.ref x71), .val (.ref x100), .val (.ref x133), .val (.ref b188), .val (.ref b233), .val (.int (((p6.toUInt32 >>> ((2 : Int32) &&& 31).toUInt32).toInt32) &&& (3 : Int32))), .unset] [(.ref x44), (.ref x2)])) rfl (by rw [hml]; rfl) (argsL := [(.ref x2), (.ref x44)]) (rest := []) (lenOf pd_14 rfl) rfl (by show 2 * 0 + _ ≤ _; exact Nat.le_of_eq rfl) (hb hby at_115) (fun _ _ => ⟨rfl, rfl, (by decide : 38 + 0 ≤ _), (by decide : 80 + 0 ≤ _)⟩)
        dsimp only [Pt.U, Pt.locs, Pt.cells, Pt.slots] at X287 l287 y287 z287 st287 hQ287
        subst l287 y287 z287
        obtain ⟨rfl, N295, k296⟩ := hQ287
        have N297 := Fr.app N282 N295
        have S298 : ∀ t, Steps p.tables e below (T287.setTop (mkF m 118 #[.val (.int p1), .val (.int p2), .val (.int p3), .val (.int p4), .val (.int p5), .val (.int p6), .val (.ref x2), .val (.ref x21), .val (.ref x44), .val (.ref x71), .val (.ref x100), .val (.ref x133), .val (.ref b188), .val (.ref b233), .val (.int (((p6.toUInt32 >>> ((2 : Int32) &&& 31).toUInt32).toInt32) &&& (3 : Int32))), .unset] [(.int (own_eqI (own_cs p1) (own_cs p3)))])) t → Steps p.tables e below (s₁.setTop (mkF m 0 #[.val (.int p1), .val (.int p2), .val (.int p3), .val (.int p4), .val (.int p5), .val (.int p6), .unset, .unset, .unset, .unset, .unset, .unset, .unset, .unset, .unset, .unset] [])) t := by
          intro t kt
          refine S285 t ?_
          refine XS.ifNo X255.here hx rfl (hb hby at_108) rfl ((if0 _ _).trans (teq (c286 : (((p6.toUInt32 >>> ((2 : Int32) &&& 31).toUInt32).toInt32) &&& (3 : Int32)) = (0 : Int32))).2) ?_
          refine XS.aload X255.here hx rfl (hb hby at_111) rfl rfl ?_
          refine XS.aload X255.here hx rfl (hb hby at_113) rfl rfl ?_
          show Steps p.tables e below (T255.setTop (mkF m 115 #[.val (.int p1), .val (.int p2), .val (.int p3), .val (.int p4), .val (.int p5), .val (.int p6), .val (.ref x2), .val (.ref x21), .val (.ref x44), .val (.ref x71), .val (.ref x100), .val (.ref x133), .val (.ref b188), .val (.ref b233), .val (.int (((p6.toUInt32 >>> ((2 : Int32) &&& 31).toUInt32).toInt32) &&& (3 : Int32))), .unset] [(.ref x44), (.ref x2)])) _
          refine st287 _ ?_
          exact kt
        rcases Decidable.em ((own_cs p1) = (own_cs p3)) with c299 | c299
        · have f301 := (Exa.keep (Exa.ext E233 f227) k271)
          have f302 := (Fld.keep (Fld.ext E233 f228) k271 (ninS ne237 (ninS ne63 (ninS ne91 nin0))))
          have f303 := (Fld.keep (Fld.ext E233 f229) k271 (ninS ne237 (ninS ne63 (ninS ne91 nin0))))
          have f304 := (fun q => Exa.keep ((fun q => Exa.ext E233 ((fun q => Exa.keep (f214 q) k219) q)) q) k271)
          have f305 := (Arv.keep (Arv.ext f238 E233) k271 (ninS ne239 (ninS ne64 (ninS ne93 nin0))))
          have f306 := (fun q => Exa.keep (f266 q) k271)
          have f307 := (Arv.keep f267 k271 (ninS ne247 (ninS (Ne.symm ne185) (ninS (Ne.symm ne186) nin0))))
          obtain ⟨_, _, ⟨T300, L300, k300, n300⟩, -, X300, ⟨Lc300, hQ300, l300, y300, z300⟩, st300⟩ := Jvm.LawKit.callS X287 hx (y := (⟨"com/example/typecheck/typecheck/model/QNameEqualsPinLaw", "same", "(Ljava/lang/String;Ljava/lang/String;)Z"⟩ : MethodName)) ho132 (mvT hZ132 (own_w hw 60 rfl)) (mvT hZ132 (own_w hw 61 rfl)) (mvT hZ132 (own_w hw 2 rfl)) (mvT hZ132 (own_w hw 62 rfl)) (by decide) (backOf (W := 0) (rm_same l Z a0 hw [] x21 x22 x23 (own_cs p2) x71 x72 x73 (own_cs p4) zc fm T255.heap n0 O284 f301 f302 f303 f304 f305 f279 f280 f281 f306 f307 (own_csok p2) (own_csok p4) S_C hzc S_F hfm) hZ132 (own_w hw 62 rfl) (own_w hw 2 rfl) (by decide) (by decide)) (g := (mkF m 125 #[.val (.int p1), .val (.int p2), .val (.int p3), .val (.int p4), .val (.int p5), .val (.int p6), .val (.ref x2), .val (.ref x21), .val (.ref x44), .val (.ref x71), .val (.ref x100), .val (.ref x133), .val (.ref b188), .val (.ref b233), .val (.int (((p6.toUInt32 >>> ((2 : Int32) &&& 31).toUInt32).toInt32) &&& (3 : Int32))), .unset] [(.ref x71), (.ref x21)])) rfl (by rw [hml]; rfl) (argsL := [(.ref x21), (.ref x71)]) (rest := []) (lenOf pd_14 rfl) rfl (by show 2 * 0 + _ ≤ _; exact Nat.le_of_eq rfl) (hb hby at_125) (fun _ _ => ⟨rfl, k296, (by decide : 38 + 0 ≤ _), (by decide : 80 + 0 ≤ _)⟩)
          dsimp only [Pt.U, Pt.locs, Pt.cells, Pt.slots] at X300 l300 y300 z300 st300 hQ300
          subst l300 y300 z300
          obtain ⟨rfl, N308, k309⟩ := hQ300
          have N310 := Fr.app N297 N308
          have S311 : ∀ t, Steps p.tables e below (T300.setTop (mkF m 128 #[.val (.int p1), .val (.int p2), .val (.int p3), .val (.int p4), .val (.int p5), .val (.int p6), .val (.ref x2), .val (.ref x21), .val (.ref x44), .val (.ref x71), .val (.ref x100), .val (.ref x133), .val (.ref b188), .val (.ref b233), .val (.int (((p6.toUInt32 >>> ((2 : Int32) &&& 31).toUInt32).toInt32) &&& (3 : Int32))), .unset] [(.int (own_eqI (own_cs p2) (own_cs p4)))])) t → Steps p.tables e below (s₁.setTop (mkF m 0 #[.val (.int p1), .val (.int p2), .val (.int p3), .val (.int p4), .val (.int p5), .val (.int p6), .unset, .unset, .unset, .unset, .unset, .unset, .unset, .unset, .unset, .unset] [])) t := by
            intro t kt
            refine S298 t ?_
            refine XS.ifNo X287.here hx rfl (hb hby at_118) rfl ((if0 _ _).trans (feq ((own_eq1 c299) : ¬ ((own_eqI (own_cs p1) (own_cs p3)) = (0 : Int32)))).1) ?_
            refine XS.aload X287.here hx rfl (hb hby at_121) rfl rfl ?_
            refine XS.aload X287.here hx rfl (hb hby at_123) rfl rfl ?_
            show Steps p.tables e below (T287.setTop (mkF m 125 #[.val (.int p1), .val (.int p2), .val (.int p3), .val (.int p4), .val (.int p5), .val (.int p6), .val (.ref x2), .val (.ref x21), .val (.ref x44), .val (.ref x71), .val (.ref x100), .val (.ref x133), .val (.ref b188), .val (.ref b233), .val (.int (((p6.toUInt32 >>> ((2 : Int32) &&& 31).toUInt32).toInt32) &&& (3 : Int32))), .unset] [(.ref x71), (.ref x21)])) _
            refine st300 _ ?_
            exact kt
          rcases Decidable.em ((own_cs p2) = (own_cs p4)) with c312 | c312
          · have f314 := (Exa.keep (Exa.ext E233 f220) k271)
            have f315 := (Fld.keep (Fld.ext E233 f223) k271 (ninS ne248 (ninS (Ne.symm ne193) (ninS (Ne.symm ne195) nin0))))
            have f316 := (Fld.keep (Fld.ext E233 f221) k271 (ninS ne248 (ninS (Ne.symm ne193) (ninS (Ne.symm ne195) nin0))))
            have f317 := (Fld.keep (Fld.ext E233 f222) k271 (ninS ne248 (ninS (Ne.symm ne193) (ninS (Ne.symm ne195) nin0))))
            obtain ⟨cq313, kq313, q313a, q313b, q313c⟩ := isOf hZ132 k309 f314
            obtain ⟨_, _, ⟨T313, L313, k313, n313⟩, -, X313, ⟨Lc313, hQ313, l313, y313, z313⟩, st313⟩ := X300.virtualBack hx (y := (⟨"com/example/typecheck/typecheck/model/QName", "equals", "(Ljava/lang/Object;)Z"⟩ : MethodName)) (z := (⟨"com/example/typecheck/typecheck/model/QName", "equals", "(Ljava/lang/Object;)Z"⟩ : MethodName)) ho132 (mvT hZ132 (own_w hw 73 rfl)) (mvT hZ132 (own_w hw 74 rfl)) (notFace_of_selects (args := #[]) (mvT hZ132 (own_w hw 76 rfl))) (mvT hZ132 (own_w hw 76 rfl)) (mvT hZ132 (own_w hw 75 rfl)) (by decide) (backOf (W := 0) (rm_qeq l Z a0 hw [] b188 (((31 : Int32) * (own_H (own_cs p1))) + (own_H (own_cs p2))) x2 x3 x4 (own_cs p1) x21 x22 x23 (own_cs p2) b233 (((31 : Int32) * (own_H (own_cs p3))) + (own_H (own_cs p4))) x44 x45 x46 (own_cs p3) x71 x72 x73 (own_cs p4) zc T255.heap n0 O284 f314 f315 f316 f317 f288 f289 f290 f291 f292 f301 f302 f303 f304 f305 (own_csok p1) (own_csok p2) f272 f275 f273 f274 f276 f277 f278 f293 f294 f279 f280 f281 f306 f307 (own_csok p3) (own_csok p4) ne248 S_C hzc) hZ132 (own_w hw 77 rfl) (own_w hw 28 rfl) (by decide) (by decide)) q313a q313c (g := (mkF m 142 #[.val (.int p1), .val (.int p2), .val (.int p3), .val (.int p4), .val (.int p5), .val (.int p6), .val (.ref x2), .val (.ref x21), .val (.ref x44), .val (.ref x71), .val (.ref x100), .val (.ref x133), .val (.ref b188), .val (.ref b233), .val (.int (((p6.toUInt32 >>> ((2 : Int32) &&& 31).toUInt32).toInt32) &&& (3 : Int32))), .val (.int (1 : Int32))] [(.ref b233), (.ref b188)])) rfl (by rw [hml]; rfl) (Steps.refl _) (argsL := [(.ref b233)]) (rest := []) (lenOf pd_11 rfl) rfl (by show 2 * 0 + _ ≤ _; exact Nat.le_of_eq rfl) (hb hby at_142) (fun _ _ => ⟨rfl, k309, (by decide : 38 + 0 ≤ _), (by decide : 80 + 0 ≤ _)⟩)
            dsimp only [Pt.U, Pt.locs, Pt.cells, Pt.slots] at X313 l313 y313 z313 st313 hQ313
            subst l313 y313 z313
            rcases hQ313 with ⟨c318, c319, rfl, N320, k321⟩ | ⟨c322, rfl, N323, k324⟩ | ⟨c325, rfl, N326, k327⟩ | ⟨c328, rfl, N329, k330⟩
            · have N331 := Fr.app N310 N320
              obtain ⟨cq332, kq332, q332a, q332b, q332c⟩ := isOf hZ132 k321 f272
              obtain ⟨_, _, ⟨T332, L332, k332, n332⟩, -, X332, ⟨Lc332, hQ332, l332, y332, z332⟩, st332⟩ := X313.virtualBack hx (y := (⟨"com/example/typecheck/typecheck/model/QName", "equals", "(Ljava/lang/Object;)Z"⟩ : MethodName)) (z := (⟨"com/example/typecheck/typecheck/model/QName", "equals", "(Ljava/lang/Object;)Z"⟩ : MethodName)) ho132 (mvT hZ132 (own_w hw 73 rfl)) (mvT hZ132 (own_w hw 74 rfl)) (notFace_of_selects (args := #[]) (mvT hZ132 (own_w hw 76 rfl))) (mvT hZ132 (own_w hw 76 rfl)) (mvT hZ132 (own_w hw 75 rfl)) (by decide) (backOf (W := 0) (rm_qeq l Z a0 hw [] b233 (((31 : Int32) * (own_H (own_cs p3))) + (own_H (own_cs p4))) x44 x45 x46 (own_cs p3) x71 x72 x73 (own_cs p4) b188 (((31 : Int32) * (own_H (own_cs p1))) + (own_H (own_cs p2))) x2 x3 x4 (own_cs p1) x21 x22 x23 (own_cs p2) zc T255.heap n0 O284 f272 f275 f273 f274 f276 f277 f278 f293 f294 f279 f280 f281 f306 f307 (own_csok p3) (own_csok p4) f314 f315 f316 f317 f288 f289 f290 f291 f292 f301 f302 f303 f304 f305 (own_csok p1) (own_csok p2) (Ne.symm ne248) S_C hzc) hZ132 (own_w hw 77 rfl) (own_w hw 28 rfl) (by decide) (by decide)) q332a q332c (g := (mkF m 154 #[.val (.int p1), .val (.int p2), .val (.int p3), .val (.int p4), .val (.int p5), .val (.int p6), .val (.ref x2), .val (.ref x21), .val (.ref x44), .val (.ref x71), .val (.ref x100), .val (.ref x133), .val (.ref b188), .val (.ref b233), .val (.int (((p6.toUInt32 >>> ((2 : Int32) &&& 31).toUInt32).toInt32) &&& (3 : Int32))), .val (.int (1 : Int32))] [(.ref b188), (.ref b233)])) rfl (by rw [hml]; rfl) (Steps.refl _) (argsL := [(.ref b188)]) (rest := []) (lenOf pd_11 rfl) rfl (by show 2 * 0 + _ ≤ _; exact Nat.le_of_eq rfl) (hb hby at_154) (fun _ _ => ⟨rfl, k321, (by decide : 38 + 0 ≤ _), (by decide : 80 + 0 ≤ _)⟩)
              dsimp only [Pt.U, Pt.locs, Pt.cells, Pt.slots] at X332 l332 y332 z332 st332 hQ332
              subst l332 y332 z332
              rcases hQ332 with ⟨c333, c334, rfl, N335, k336⟩ | ⟨c337, rfl, N338, k339⟩ | ⟨c340, rfl, N341, k342⟩ | ⟨c343, rfl, N344, k345⟩
              · have N346 := Fr.app N331 N335
                have S347 : ∀ t, Steps p.tables e below (T332.setTop (mkF m 167 #[.val (.int p1), .val (.int p2), .val (.int p3), .val (.int p4), .val (.int p5), .val (.int p6), .val (.ref x2), .val (.ref x21), .val (.ref x44), .val (.ref x71), .val (.ref x100), .val (.ref x133), .val (.ref b188), .val (.ref b233), .val (.int (((p6.toUInt32 >>> ((2 : Int32) &&& 31).toUInt32).toInt32) &&& (3 : Int32))), .val (.int (1 : Int32))] [(.int (1 : Int32))])) t → Steps p.tables e below (s₁.setTop (mkF m 0 #[.val (.int p1), .val (.int p2), .val (.int p3), .val (.int p4), .val (.int p5), .val (.int p6), .unset, .unset, .unset, .unset, .unset, .unset, .unset, .unset, .unset, .unset] [])) t := by
                  intro t kt
                  refine S311 t ?_
                  refine XS.ifNo X300.here hx rfl (hb hby at_128) rfl ((if0 _ _).trans (feq ((own_eq1 c312) : ¬ ((own_eqI (own_cs p2) (own_cs p4)) = (0 : Int32)))).1) ?_
                  refine XS.iconst X300.here hx rfl (hb hby at_131) ?_
                  refine XS.goto X300.here hx rfl (pc0 := 132) (pc' := 136) rfl (hb hby at_132) (by decide) (by decide) ?_
                  refine XS.istore X300.here hx rfl (hb hby at_136) rfl (l' := #[.val (.int p1), .val (.int p2), .val (.int p3), .val (.int p4), .val (.int p5), .val (.int p6), .val (.ref x2), .val (.ref x21), .val (.ref x44), .val (.ref x71), .val (.ref x100), .val (.ref x133), .val (.ref b188), .val (.ref b233), .val (.int (((p6.toUInt32 >>> ((2 : Int32) &&& 31).toUInt32).toInt32) &&& (3 : Int32))), .val (.int (1 : Int32))]) rfl ?_
                  refine XS.aload X300.here hx rfl (hb hby at_138) rfl rfl ?_
                  refine XS.aload X300.here hx rfl (hb hby at_140) rfl rfl ?_
                  show Steps p.tables e below (T300.setTop (mkF m 142 #[.val (.int p1), .val (.int p2), .val (.int p3), .val (.int p4), .val (.int p5), .val (.int p6), .val (.ref x2), .val (.ref x21), .val (.ref x44), .val (.ref x71), .val (.ref x100), .val (.ref x133), .val (.ref b188), .val (.ref b233), .val (.int (((p6.toUInt32 >>> ((2 : Int32) &&& 31).toUInt32).toInt32) &&& (3 : Int32))), .val (.int (1 : Int32))] [(.ref b233), (.ref b188)])) _
                  refine st313.trans ?_
                  refine XS.iload X313.here hx rfl (hb hby at_145) rfl ?_
                  refine XS.icmpNo X313.here hx rfl (hb hby at_147) rfl (teq ((by decide) : (1 : Int32) = (1 : Int32))).2 ?_
                  refine XS.aload X313.here hx rfl (hb hby at_150) rfl rfl ?_
                  refine XS.aload X313.here hx rfl (hb hby at_152) rfl rfl ?_
                  show Steps p.tables e below (T313.setTop (mkF m 154 #[.val (.int p1), .val (.int p2), .val (.int p3), .val (.int p4), .val (.int p5), .val (.int p6), .val (.ref x2), .val (.ref x21), .val (.ref x44), .val (.ref x71), .val (.ref x100), .val (.ref x133), .val (.ref b188), .val (.ref b233), .val (.int (((p6.toUInt32 >>> ((2 : Int32) &&& 31).toUInt32).toInt32) &&& (3 : Int32))), .val (.int (1 : Int32))] [(.ref b188), (.ref b233)])) _
                  refine st332.trans ?_
                  refine XS.iload X332.here hx rfl (hb hby at_157) rfl ?_
                  refine XS.icmpNo X332.here hx rfl (hb hby at_159) rfl (teq ((by decide) : (1 : Int32) = (1 : Int32))).2 ?_
                  refine XS.iconst X332.here hx rfl (hb hby at_162) ?_
                  refine XS.goto X332.here hx rfl (pc0 := 163) (pc' := 167) rfl (hb hby at_163) (by decide) (by decide) ?_
                  exact kt
                obtain ⟨fs, hr, hrun, hended, hRW⟩ := X332.leaveW hS132 (by rw [k336]; exact hk283) (v := some (.int (1 : Int32))) (fun h => by rw [Bd.returns] at h; cases h)
                refine ⟨_, _, pre0 _ (S347 _ ?_), hrun, hended, _, _, rfl, ?_, hRW.1, hRW.2.1, hRW.2.2.1, hRW.2.2.2.mono (by decide) (by decide)⟩
                · exact retN X332 hx (t := .boolean) Bd.returns (by simp) (hb hby at_167) hr
                · show Q_rm_law Z p1 p2 p3 p4 p5 p6 zc fm h0 n0 _ T332.heap _
                  rw [k336]
                  exact ⟨rfl, N346⟩
              · exact absurd ((Eq.symm (own_hq c299 c312)) : (((31 : Int32) * (own_H (own_cs p3))) + (own_H (own_cs p4))) = (((31 : Int32) * (own_H (own_cs p1))) + (own_H (own_cs p2)))) c337
              · exact absurd ((Eq.symm c312) : (own_cs p4) = (own_cs p2)) c340
              · exact absurd ((Eq.symm c299) : (own_cs p3) = (own_cs p1)) c343
            · exact absurd ((own_hq c299 c312) : (((31 : Int32) * (own_H (own_cs p1))) + (own_H (own_cs p2))) = (((31 : Int32) * (own_H (own_cs p3))) + (own_H (own_cs p4)))) c322
            · exact absurd (c312 : (own_cs p2) = (own_cs p4)) c325
            · exact absurd (c299 : (own_cs p1) = (own_cs p3)) c328
          · have f349 := (Exa.keep (Exa.ext E233 f220) k271)
            have f350 := (Fld.keep (Fld.ext E233 f223) k271 (ninS ne248 (ninS (Ne.symm ne193) (ninS (Ne.symm ne195) nin0))))
            have f351 := (Fld.keep (Fld.ext E233 f221) k271 (ninS ne248 (ninS (Ne.symm ne193) (ninS (Ne.symm ne195) nin0))))
            have f352 := (Fld.keep (Fld.ext E233 f222) k271 (ninS ne248 (ninS (Ne.symm ne193) (ninS (Ne.symm ne195) nin0))))
            obtain ⟨cq348, kq348, q348a, q348b, q348c⟩ := isOf hZ132 k309 f349
            obtain ⟨_, _, ⟨T348, L348, k348, n348⟩, -, X348, ⟨Lc348, hQ348, l348, y348, z348⟩, st348⟩ := X300.virtualBack hx (y := (⟨"com/example/typecheck/typecheck/model/QName", "equals", "(Ljava/lang/Object;)Z"⟩ : MethodName)) (z := (⟨"com/example/typecheck/typecheck/model/QName", "equals", "(Ljava/lang/Object;)Z"⟩ : MethodName)) ho132 (mvT hZ132 (own_w hw 73 rfl)) (mvT hZ132 (own_w hw 74 rfl)) (notFace_of_selects (args := #[]) (mvT hZ132 (own_w hw 76 rfl))) (mvT hZ132 (own_w hw 76 rfl)) (mvT hZ132 (own_w hw 75 rfl)) (by decide) (backOf (W := 0) (rm_qeq l Z a0 hw [] b188 (((31 : Int32) * (own_H (own_cs p1))) + (own_H (own_cs p2))) x2 x3 x4 (own_cs p1) x21 x22 x23 (own_cs p2) b233 (((31 : Int32) * (own_H (own_cs p3))) + (own_H (own_cs p4))) x44 x45 x46 (own_cs p3) x71 x72 x73 (own_cs p4) zc T255.heap n0 O284 f349 f350 f351 f352 f288 f289 f290 f291 f292 f301 f302 f303 f304 f305 (own_csok p1) (own_csok p2) f272 f275 f273 f274 f276 f277 f278 f293 f294 f279 f280 f281 f306 f307 (own_csok p3) (own_csok p4) ne248 S_C hzc) hZ132 (own_w hw 77 rfl) (own_w hw 28 rfl) (by decide) (by decide)) q348a q348c (g := (mkF m 142 #[.val (.int p1), .val (.int p2), .val (.int p3), .val (.int p4), .val (.int p5), .val (.int p6), .val (.ref x2), .val (.ref x21), .val (.ref x44), .val (.ref x71), .val (.ref x100), .val (.ref x133), .val (.ref b188), .val (.ref b233), .val (.int (((p6.toUInt32 >>> ((2 : Int32) &&& 31).toUInt32).toInt32) &&& (3 : Int32))), .val (.int (0 : Int32))] [(.ref b233), (.ref b188)])) rfl (by rw [hml]; rfl) (Steps.refl _) (argsL := [(.ref b233)]) (rest := []) (lenOf pd_11 rfl) rfl (by show 2 * 0 + _ ≤ _; exact Nat.le_of_eq rfl) (hb hby at_142) (fun _ _ => ⟨rfl, k309, (by decide : 38 + 0 ≤ _), (by decide : 80 + 0 ≤ _)⟩)
            dsimp only [Pt.U, Pt.locs, Pt.cells, Pt.slots] at X348 l348 y348 z348 st348 hQ348
            subst l348 y348 z348
            rcases hQ348 with ⟨c353, c354, rfl, N355, k356⟩ | ⟨c357, rfl, N358, k359⟩ | ⟨c360, rfl, N361, k362⟩ | ⟨c363, rfl, N364, k365⟩
            · exact absurd c353 (c312 : ¬ ((own_cs p2) = (own_cs p4)))
            · have N366 := Fr.app N310 N358
              obtain ⟨cq367, kq367, q367a, q367b, q367c⟩ := isOf hZ132 k359 f272
              obtain ⟨_, _, ⟨T367, L367, k367, n367⟩, -, X367, ⟨Lc367, hQ367, l367, y367, z367⟩, st367⟩ := X348.virtualBack hx (y := (⟨"com/example/typecheck/typecheck/model/QName", "equals", "(Ljava/lang/Object;)Z"⟩ : MethodName)) (z := (⟨"com/example/typecheck/typecheck/model/QName", "equals", "(Ljava/lang/Object;)Z"⟩ : MethodName)) ho132 (mvT hZ132 (own_w hw 73 rfl)) (mvT hZ132 (own_w hw 74 rfl)) (notFace_of_selects (args := #[]) (mvT hZ132 (own_w hw 76 rfl))) (mvT hZ132 (own_w hw 76 rfl)) (mvT hZ132 (own_w hw 75 rfl)) (by decide) (backOf (W := 0) (rm_qeq l Z a0 hw [] b233 (((31 : Int32) * (own_H (own_cs p3))) + (own_H (own_cs p4))) x44 x45 x46 (own_cs p3) x71 x72 x73 (own_cs p4) b188 (((31 : Int32) * (own_H (own_cs p1))) + (own_H (own_cs p2))) x2 x3 x4 (own_cs p1) x21 x22 x23 (own_cs p2) zc T255.heap n0 O284 f272 f275 f273 f274 f276 f277 f278 f293 f294 f279 f280 f281 f306 f307 (own_csok p3) (own_csok p4) f349 f350 f351 f352 f288 f289 f290 f291 f292 f301 f302 f303 f304 f305 (own_csok p1) (own_csok p2) (Ne.symm ne248) S_C hzc) hZ132 (own_w hw 77 rfl) (own_w hw 28 rfl) (by decide) (by decide)) q367a q367c (g := (mkF m 154 #[.val (.int p1), .val (.int p2), .val (.int p3), .val (.int p4), .val (.int p5), .val (.int p6), .val (.ref x2), .val (.ref x21), .val (.ref x44), .val (.ref x71), .val (.ref x100), .val (.ref x133), .val (.ref b188), .val (.ref b233), .val (.int (((p6.toUInt32 >>> ((2 : Int32) &&& 31).toUInt32).toInt32) &&& (3 : Int32))), .val (.int (0 : Int32))] [(.ref b188), (.ref b233)])) rfl (by rw [hml]; rfl) (Steps.refl _) (argsL := [(.ref b188)]) (rest := []) (lenOf pd_11 rfl) rfl (by show 2 * 0 + _ ≤ _; exact Nat.le_of_eq rfl) (hb hby at_154) (fun _ _ => ⟨rfl, k359, (by decide : 38 + 0 ≤ _), (by decide : 80 + 0 ≤ _)⟩)
              dsimp only [Pt.U, Pt.locs, Pt.cells, Pt.slots] at X367 l367 y367 z367 st367 hQ367
              subst l367 y367 z367
              rcases hQ367 with ⟨c368, c369, rfl, N370, k371⟩ | ⟨c372, rfl, N373, k374⟩ | ⟨c375, rfl, N376, k377⟩ | ⟨c378, rfl, N379, k380⟩
              · exact absurd c368 ((fun q => c312 q.symm) : ¬ ((own_cs p4) = (own_cs p2)))
              · have N381 := Fr.app N366 N373
                have S382 : ∀ t, Steps p.tables e below (T367.setTop (mkF m 167 #[.val (.int p1), .val (.int p2), .val (.int p3), .val (.int p4), .val (.int p5), .val (.int p6), .val (.ref x2), .val (.ref x21), .val (.ref x44), .val (.ref x71), .val (.ref x100), .val (.ref x133), .val (.ref b188), .val (.ref b233), .val (.int (((p6.toUInt32 >>> ((2 : Int32) &&& 31).toUInt32).toInt32) &&& (3 : Int32))), .val (.int (0 : Int32))] [(.int (1 : Int32))])) t → Steps p.tables e below (s₁.setTop (mkF m 0 #[.val (.int p1), .val (.int p2), .val (.int p3), .val (.int p4), .val (.int p5), .val (.int p6), .unset, .unset, .unset, .unset, .unset, .unset, .unset, .unset, .unset, .unset] [])) t := by
                  intro t kt
                  refine S311 t ?_
                  refine XS.ifYes X300.here hx rfl (pc0 := 128) (pc' := 135) rfl (hb hby at_128) rfl ((if0 _ _).trans (teq ((own_eq0 c312) : (own_eqI (own_cs p2) (own_cs p4)) = (0 : Int32))).1) (by decide) (by decide) ?_
                  refine XS.iconst X300.here hx rfl (hb hby at_135) ?_
                  refine XS.istore X300.here hx rfl (hb hby at_136) rfl (l' := #[.val (.int p1), .val (.int p2), .val (.int p3), .val (.int p4), .val (.int p5), .val (.int p6), .val (.ref x2), .val (.ref x21), .val (.ref x44), .val (.ref x71), .val (.ref x100), .val (.ref x133), .val (.ref b188), .val (.ref b233), .val (.int (((p6.toUInt32 >>> ((2 : Int32) &&& 31).toUInt32).toInt32) &&& (3 : Int32))), .val (.int (0 : Int32))]) rfl ?_
                  refine XS.aload X300.here hx rfl (hb hby at_138) rfl rfl ?_
                  refine XS.aload X300.here hx rfl (hb hby at_140) rfl rfl ?_
                  show Steps p.tables e below (T300.setTop (mkF m 142 #[.val (.int p1), .val (.int p2), .val (.int p3), .val (.int p4), .val (.int p5), .val (.int p6), .val (.ref x2), .val (.ref x21), .val (.ref x44), .val (.ref x71), .val (.ref x100), .val (.ref x133), .val (.ref b188), .val (.ref b233), .val (.int (((p6.toUInt32 >>> ((2 : Int32) &&& 31).toUInt32).toInt32) &&& (3 : Int32))), .val (.int (0 : Int32))] [(.ref b233), (.ref b188)])) _
                  refine st348.trans ?_
                  refine XS.iload X348.here hx rfl (hb hby at_145) rfl ?_
                  refine XS.icmpNo X348.here hx rfl (hb hby at_147) rfl (teq ((by decide) : (0 : Int32) = (0 : Int32))).2 ?_
                  refine XS.aload X348.here hx rfl (hb hby at_150) rfl rfl ?_
                  refine XS.aload X348.here hx rfl (hb hby at_152) rfl rfl ?_
                  show Steps p.tables e below (T348.setTop (mkF m 154 #[.val (.int p1), .val (.int p2), .val (.int p3), .val (.int p4), .val (.int p5), .val (.int p6), .val (.ref x2), .val (.ref x21), .val (.ref x44), .val (.ref x71), .val (.ref x100), .val (.ref x133), .val (.ref b188), .val (.ref b233), .val (.int (((p6.toUInt32 >>> ((2 : Int32) &&& 31).toUInt32).toInt32) &&& (3 : Int32))), .val (.int (0 : Int32))] [(.ref b188), (.ref b233)])) _
                  refine st367.trans ?_
                  refine XS.iload X367.here hx rfl (hb hby at_157) rfl ?_
                  refine XS.icmpNo X367.here hx rfl (hb hby at_159) rfl (teq ((by decide) : (0 : Int32) = (0 : Int32))).2 ?_
                  refine XS.iconst X367.here hx rfl (hb hby at_162) ?_
                  refine XS.goto X367.here hx rfl (pc0 := 163) (pc' := 167) rfl (hb hby at_163) (by decide) (by decide) ?_
                  exact kt
                obtain ⟨fs, hr, hrun, hended, hRW⟩ := X367.leaveW hS132 (by rw [k374]; exact hk283) (v := some (.int (1 : Int32))) (fun h => by rw [Bd.returns] at h; cases h)
                refine ⟨_, _, pre0 _ (S382 _ ?_), hrun, hended, _, _, rfl, ?_, hRW.1, hRW.2.1, hRW.2.2.1, hRW.2.2.2.mono (by decide) (by decide)⟩
                · exact retN X367 hx (t := .boolean) Bd.returns (by simp) (hb hby at_167) hr
                · show Q_rm_law Z p1 p2 p3 p4 p5 p6 zc fm h0 n0 _ T367.heap _
                  rw [k374]
                  exact ⟨rfl, N381⟩
              · have N383 := Fr.app N366 N376
                have S384 : ∀ t, Steps p.tables e below (T367.setTop (mkF m 167 #[.val (.int p1), .val (.int p2), .val (.int p3), .val (.int p4), .val (.int p5), .val (.int p6), .val (.ref x2), .val (.ref x21), .val (.ref x44), .val (.ref x71), .val (.ref x100), .val (.ref x133), .val (.ref b188), .val (.ref b233), .val (.int (((p6.toUInt32 >>> ((2 : Int32) &&& 31).toUInt32).toInt32) &&& (3 : Int32))), .val (.int (0 : Int32))] [(.int (1 : Int32))])) t → Steps p.tables e below (s₁.setTop (mkF m 0 #[.val (.int p1), .val (.int p2), .val (.int p3), .val (.int p4), .val (.int p5), .val (.int p6), .unset, .unset, .unset, .unset, .unset, .unset, .unset, .unset, .unset, .unset] [])) t := by
                  intro t kt
                  refine S311 t ?_
                  refine XS.ifYes X300.here hx rfl (pc0 := 128) (pc' := 135) rfl (hb hby at_128) rfl ((if0 _ _).trans (teq ((own_eq0 c312) : (own_eqI (own_cs p2) (own_cs p4)) = (0 : Int32))).1) (by decide) (by decide) ?_
                  refine XS.iconst X300.here hx rfl (hb hby at_135) ?_
                  refine XS.istore X300.here hx rfl (hb hby at_136) rfl (l' := #[.val (.int p1), .val (.int p2), .val (.int p3), .val (.int p4), .val (.int p5), .val (.int p6), .val (.ref x2), .val (.ref x21), .val (.ref x44), .val (.ref x71), .val (.ref x100), .val (.ref x133), .val (.ref b188), .val (.ref b233), .val (.int (((p6.toUInt32 >>> ((2 : Int32) &&& 31).toUInt32).toInt32) &&& (3 : Int32))), .val (.int (0 : Int32))]) rfl ?_
                  refine XS.aload X300.here hx rfl (hb hby at_138) rfl rfl ?_
                  refine XS.aload X300.here hx rfl (hb hby at_140) rfl rfl ?_
                  show Steps p.tables e below (T300.setTop (mkF m 142 #[.val (.int p1), .val (.int p2), .val (.int p3), .val (.int p4), .val (.int p5), .val (.int p6), .val (.ref x2), .val (.ref x21), .val (.ref x44), .val (.ref x71), .val (.ref x100), .val (.ref x133), .val (.ref b188), .val (.ref b233), .val (.int (((p6.toUInt32 >>> ((2 : Int32) &&& 31).toUInt32).toInt32) &&& (3 : Int32))), .val (.int (0 : Int32))] [(.ref b233), (.ref b188)])) _
                  refine st348.trans ?_
                  refine XS.iload X348.here hx rfl (hb hby at_145) rfl ?_
                  refine XS.icmpNo X348.here hx rfl (hb hby at_147) rfl (teq ((by decide) : (0 : Int32) = (0 : Int32))).2 ?_
                  refine XS.aload X348.here hx rfl (hb hby at_150) rfl rfl ?_
                  refine XS.aload X348.here hx rfl (hb hby at_152) rfl rfl ?_
                  show Steps p.tables e below (T348.setTop (mkF m 154 #[.val (.int p1), .val (.int p2), .val (.int p3), .val (.int p4), .val (.int p5), .val (.int p6), .val (.ref x2), .val (.ref x21), .val (.ref x44), .val (.ref x71), .val (.ref x100), .val (.ref x133), .val (.ref b188), .val (.ref b233), .val (.int (((p6.toUInt32 >>> ((2 : Int32) &&& 31).toUInt32).toInt32) &&& (3 : Int32))), .val (.int (0 : Int32))] [(.ref b188), (.ref b233)])) _
                  refine st367.trans ?_
                  refine XS.iload X367.here hx rfl (hb hby at_157) rfl ?_
                  refine XS.icmpNo X367.here hx rfl (hb hby at_159) rfl (teq ((by decide) : (0 : Int32) = (0 : Int32))).2 ?_
                  refine XS.iconst X367.here hx rfl (hb hby at_162) ?_
                  refine XS.goto X367.here hx rfl (pc0 := 163) (pc' := 167) rfl (hb hby at_163) (by decide) (by decide) ?_
                  exact kt
                obtain ⟨fs, hr, hrun, hended, hRW⟩ := X367.leaveW hS132 (by rw [k377]; exact hk283) (v := some (.int (1 : Int32))) (fun h => by rw [Bd.returns] at h; cases h)
                refine ⟨_, _, pre0 _ (S384 _ ?_), hrun, hended, _, _, rfl, ?_, hRW.1, hRW.2.1, hRW.2.2.1, hRW.2.2.2.mono (by decide) (by decide)⟩
                · exact retN X367 hx (t := .boolean) Bd.returns (by simp) (hb hby at_167) hr
                · show Q_rm_law Z p1 p2 p3 p4 p5 p6 zc fm h0 n0 _ T367.heap _
                  rw [k377]
                  exact ⟨rfl, N383⟩
              · exact absurd ((Eq.symm c299) : (own_cs p3) = (own_cs p1)) c378
            · have N385 := Fr.app N310 N361
              obtain ⟨cq386, kq386, q386a, q386b, q386c⟩ := isOf hZ132 k362 f272
              obtain ⟨_, _, ⟨T386, L386, k386, n386⟩, -, X386, ⟨Lc386, hQ386, l386, y386, z386⟩, st386⟩ := X348.virtualBack hx (y := (⟨"com/example/typecheck/typecheck/model/QName", "equals", "(Ljava/lang/Object;)Z"⟩ : MethodName)) (z := (⟨"com/example/typecheck/typecheck/model/QName", "equals", "(Ljava/lang/Object;)Z"⟩ : MethodName)) ho132 (mvT hZ132 (own_w hw 73 rfl)) (mvT hZ132 (own_w hw 74 rfl)) (notFace_of_selects (args := #[]) (mvT hZ132 (own_w hw 76 rfl))) (mvT hZ132 (own_w hw 76 rfl)) (mvT hZ132 (own_w hw 75 rfl)) (by decide) (backOf (W := 0) (rm_qeq l Z a0 hw [] b233 (((31 : Int32) * (own_H (own_cs p3))) + (own_H (own_cs p4))) x44 x45 x46 (own_cs p3) x71 x72 x73 (own_cs p4) b188 (((31 : Int32) * (own_H (own_cs p1))) + (own_H (own_cs p2))) x2 x3 x4 (own_cs p1) x21 x22 x23 (own_cs p2) zc T255.heap n0 O284 f272 f275 f273 f274 f276 f277 f278 f293 f294 f279 f280 f281 f306 f307 (own_csok p3) (own_csok p4) f349 f350 f351 f352 f288 f289 f290 f291 f292 f301 f302 f303 f304 f305 (own_csok p1) (own_csok p2) (Ne.symm ne248) S_C hzc) hZ132 (own_w hw 77 rfl) (own_w hw 28 rfl) (by decide) (by decide)) q386a q386c (g := (mkF m 154 #[.val (.int p1), .val (.int p2), .val (.int p3), .val (.int p4), .val (.int p5), .val (.int p6), .val (.ref x2), .val (.ref x21), .val (.ref x44), .val (.ref x71), .val (.ref x100), .val (.ref x133), .val (.ref b188), .val (.ref b233), .val (.int (((p6.toUInt32 >>> ((2 : Int32) &&& 31).toUInt32).toInt32) &&& (3 : Int32))), .val (.int (0 : Int32))] [(.ref b188), (.ref b233)])) rfl (by rw [hml]; rfl) (Steps.refl _) (argsL := [(.ref b188)]) (rest := []) (lenOf pd_11 rfl) rfl (by show 2 * 0 + _ ≤ _; exact Nat.le_of_eq rfl) (hb hby at_154) (fun _ _ => ⟨rfl, k362, (by decide : 38 + 0 ≤ _), (by decide : 80 + 0 ≤ _)⟩)
              dsimp only [Pt.U, Pt.locs, Pt.cells, Pt.slots] at X386 l386 y386 z386 st386 hQ386
              subst l386 y386 z386
              rcases hQ386 with ⟨c387, c388, rfl, N389, k390⟩ | ⟨c391, rfl, N392, k393⟩ | ⟨c394, rfl, N395, k396⟩ | ⟨c397, rfl, N398, k399⟩
              · exact absurd c387 ((fun q => c312 q.symm) : ¬ ((own_cs p4) = (own_cs p2)))
              · have N400 := Fr.app N385 N392
                have S401 : ∀ t, Steps p.tables e below (T386.setTop (mkF m 167 #[.val (.int p1), .val (.int p2), .val (.int p3), .val (.int p4), .val (.int p5), .val (.int p6), .val (.ref x2), .val (.ref x21), .val (.ref x44), .val (.ref x71), .val (.ref x100), .val (.ref x133), .val (.ref b188), .val (.ref b233), .val (.int (((p6.toUInt32 >>> ((2 : Int32) &&& 31).toUInt32).toInt32) &&& (3 : Int32))), .val (.int (0 : Int32))] [(.int (1 : Int32))])) t → Steps p.tables e below (s₁.setTop (mkF m 0 #[.val (.int p1), .val (.int p2), .val (.int p3), .val (.int p4), .val (.int p5), .val (.int p6), .unset, .unset, .unset, .unset, .unset, .unset, .unset, .unset, .unset, .unset] [])) t := by
                  intro t kt
                  refine S311 t ?_
                  refine XS.ifYes X300.here hx rfl (pc0 := 128) (pc' := 135) rfl (hb hby at_128) rfl ((if0 _ _).trans (teq ((own_eq0 c312) : (own_eqI (own_cs p2) (own_cs p4)) = (0 : Int32))).1) (by decide) (by decide) ?_
                  refine XS.iconst X300.here hx rfl (hb hby at_135) ?_
                  refine XS.istore X300.here hx rfl (hb hby at_136) rfl (l' := #[.val (.int p1), .val (.int p2), .val (.int p3), .val (.int p4), .val (.int p5), .val (.int p6), .val (.ref x2), .val (.ref x21), .val (.ref x44), .val (.ref x71), .val (.ref x100), .val (.ref x133), .val (.ref b188), .val (.ref b233), .val (.int (((p6.toUInt32 >>> ((2 : Int32) &&& 31).toUInt32).toInt32) &&& (3 : Int32))), .val (.int (0 : Int32))]) rfl ?_
                  refine XS.aload X300.here hx rfl (hb hby at_138) rfl rfl ?_
                  refine XS.aload X300.here hx rfl (hb hby at_140) rfl rfl ?_
                  show Steps p.tables e below (T300.setTop (mkF m 142 #[.val (.int p1), .val (.int p2), .val (.int p3), .val (.int p4), .val (.int p5), .val (.int p6), .val (.ref x2), .val (.ref x21), .val (.ref x44), .val (.ref x71), .val (.ref x100), .val (.ref x133), .val (.ref b188), .val (.ref b233), .val (.int (((p6.toUInt32 >>> ((2 : Int32) &&& 31).toUInt32).toInt32) &&& (3 : Int32))), .val (.int (0 : Int32))] [(.ref b233), (.ref b188)])) _
                  refine st348.trans ?_
                  refine XS.iload X348.here hx rfl (hb hby at_145) rfl ?_
                  refine XS.icmpNo X348.here hx rfl (hb hby at_147) rfl (teq ((by decide) : (0 : Int32) = (0 : Int32))).2 ?_
                  refine XS.aload X348.here hx rfl (hb hby at_150) rfl rfl ?_
                  refine XS.aload X348.here hx rfl (hb hby at_152) rfl rfl ?_
                  show Steps p.tables e below (T348.setTop (mkF m 154 #[.val (.int p1), .val (.int p2), .val (.int p3), .val (.int p4), .val (.int p5), .val (.int p6), .val (.ref x2), .val (.ref x21), .val (.ref x44), .val (.ref x71), .val (.ref x100), .val (.ref x133), .val (.ref b188), .val (.ref b233), .val (.int (((p6.toUInt32 >>> ((2 : Int32) &&& 31).toUInt32).toInt32) &&& (3 : Int32))), .val (.int (0 : Int32))] [(.ref b188), (.ref b233)])) _
                  refine st386.trans ?_
                  refine XS.iload X386.here hx rfl (hb hby at_157) rfl ?_
                  refine XS.icmpNo X386.here hx rfl (hb hby at_159) rfl (teq ((by decide) : (0 : Int32) = (0 : Int32))).2 ?_
                  refine XS.iconst X386.here hx rfl (hb hby at_162) ?_
                  refine XS.goto X386.here hx rfl (pc0 := 163) (pc' := 167) rfl (hb hby at_163) (by decide) (by decide) ?_
                  exact kt
                obtain ⟨fs, hr, hrun, hended, hRW⟩ := X386.leaveW hS132 (by rw [k393]; exact hk283) (v := some (.int (1 : Int32))) (fun h => by rw [Bd.returns] at h; cases h)
                refine ⟨_, _, pre0 _ (S401 _ ?_), hrun, hended, _, _, rfl, ?_, hRW.1, hRW.2.1, hRW.2.2.1, hRW.2.2.2.mono (by decide) (by decide)⟩
                · exact retN X386 hx (t := .boolean) Bd.returns (by simp) (hb hby at_167) hr
                · show Q_rm_law Z p1 p2 p3 p4 p5 p6 zc fm h0 n0 _ T386.heap _
                  rw [k393]
                  exact ⟨rfl, N400⟩
              · have N402 := Fr.app N385 N395
                have S403 : ∀ t, Steps p.tables e below (T386.setTop (mkF m 167 #[.val (.int p1), .val (.int p2), .val (.int p3), .val (.int p4), .val (.int p5), .val (.int p6), .val (.ref x2), .val (.ref x21), .val (.ref x44), .val (.ref x71), .val (.ref x100), .val (.ref x133), .val (.ref b188), .val (.ref b233), .val (.int (((p6.toUInt32 >>> ((2 : Int32) &&& 31).toUInt32).toInt32) &&& (3 : Int32))), .val (.int (0 : Int32))] [(.int (1 : Int32))])) t → Steps p.tables e below (s₁.setTop (mkF m 0 #[.val (.int p1), .val (.int p2), .val (.int p3), .val (.int p4), .val (.int p5), .val (.int p6), .unset, .unset, .unset, .unset, .unset, .unset, .unset, .unset, .unset, .unset] [])) t := by
                  intro t kt
                  refine S311 t ?_
                  refine XS.ifYes X300.here hx rfl (pc0 := 128) (pc' := 135) rfl (hb hby at_128) rfl ((if0 _ _).trans (teq ((own_eq0 c312) : (own_eqI (own_cs p2) (own_cs p4)) = (0 : Int32))).1) (by decide) (by decide) ?_
                  refine XS.iconst X300.here hx rfl (hb hby at_135) ?_
                  refine XS.istore X300.here hx rfl (hb hby at_136) rfl (l' := #[.val (.int p1), .val (.int p2), .val (.int p3), .val (.int p4), .val (.int p5), .val (.int p6), .val (.ref x2), .val (.ref x21), .val (.ref x44), .val (.ref x71), .val (.ref x100), .val (.ref x133), .val (.ref b188), .val (.ref b233), .val (.int (((p6.toUInt32 >>> ((2 : Int32) &&& 31).toUInt32).toInt32) &&& (3 : Int32))), .val (.int (0 : Int32))]) rfl ?_
                  refine XS.aload X300.here hx rfl (hb hby at_138) rfl rfl ?_
                  refine XS.aload X300.here hx rfl (hb hby at_140) rfl rfl ?_
                  show Steps p.tables e below (T300.setTop (mkF m 142 #[.val (.int p1), .val (.int p2), .val (.int p3), .val (.int p4), .val (.int p5), .val (.int p6), .val (.ref x2), .val (.ref x21), .val (.ref x44), .val (.ref x71), .val (.ref x100), .val (.ref x133), .val (.ref b188), .val (.ref b233), .val (.int (((p6.toUInt32 >>> ((2 : Int32) &&& 31).toUInt32).toInt32) &&& (3 : Int32))), .val (.int (0 : Int32))] [(.ref b233), (.ref b188)])) _
                  refine st348.trans ?_
                  refine XS.iload X348.here hx rfl (hb hby at_145) rfl ?_
                  refine XS.icmpNo X348.here hx rfl (hb hby at_147) rfl (teq ((by decide) : (0 : Int32) = (0 : Int32))).2 ?_
                  refine XS.aload X348.here hx rfl (hb hby at_150) rfl rfl ?_
                  refine XS.aload X348.here hx rfl (hb hby at_152) rfl rfl ?_
                  show Steps p.tables e below (T348.setTop (mkF m 154 #[.val (.int p1), .val (.int p2), .val (.int p3), .val (.int p4), .val (.int p5), .val (.int p6), .val (.ref x2), .val (.ref x21), .val (.ref x44), .val (.ref x71), .val (.ref x100), .val (.ref x133), .val (.ref b188), .val (.ref b233), .val (.int (((p6.toUInt32 >>> ((2 : Int32) &&& 31).toUInt32).toInt32) &&& (3 : Int32))), .val (.int (0 : Int32))] [(.ref b188), (.ref b233)])) _
                  refine st386.trans ?_
                  refine XS.iload X386.here hx rfl (hb hby at_157) rfl ?_
                  refine XS.icmpNo X386.here hx rfl (hb hby at_159) rfl (teq ((by decide) : (0 : Int32) = (0 : Int32))).2 ?_
                  refine XS.iconst X386.here hx rfl (hb hby at_162) ?_
                  refine XS.goto X386.here hx rfl (pc0 := 163) (pc' := 167) rfl (hb hby at_163) (by decide) (by decide) ?_
                  exact kt
                obtain ⟨fs, hr, hrun, hended, hRW⟩ := X386.leaveW hS132 (by rw [k396]; exact hk283) (v := some (.int (1 : Int32))) (fun h => by rw [Bd.returns] at h; cases h)
                refine ⟨_, _, pre0 _ (S403 _ ?_), hrun, hended, _, _, rfl, ?_, hRW.1, hRW.2.1, hRW.2.2.1, hRW.2.2.2.mono (by decide) (by decide)⟩
                · exact retN X386 hx (t := .boolean) Bd.returns (by simp) (hb hby at_167) hr
                · show Q_rm_law Z p1 p2 p3 p4 p5 p6 zc fm h0 n0 _ T386.heap _
                  rw [k396]
                  exact ⟨rfl, N402⟩
              · exact absurd ((Eq.symm c299) : (own_cs p3) = (own_cs p1)) c397
            · exact absurd (c299 : (own_cs p1) = (own_cs p3)) c363
        · have f405 := (Exa.keep (Exa.ext E233 f220) k271)
          have f406 := (Fld.keep (Fld.ext E233 f223) k271 (ninS ne248 (ninS (Ne.symm ne193) (ninS (Ne.symm ne195) nin0))))
          have f407 := (Fld.keep (Fld.ext E233 f221) k271 (ninS ne248 (ninS (Ne.symm ne193) (ninS (Ne.symm ne195) nin0))))
          have f408 := (Fld.keep (Fld.ext E233 f222) k271 (ninS ne248 (ninS (Ne.symm ne193) (ninS (Ne.symm ne195) nin0))))
          have f409 := (Exa.keep (Exa.ext E233 f227) k271)
          have f410 := (Fld.keep (Fld.ext E233 f228) k271 (ninS ne237 (ninS ne63 (ninS ne91 nin0))))
          have f411 := (Fld.keep (Fld.ext E233 f229) k271 (ninS ne237 (ninS ne63 (ninS ne91 nin0))))
          have f412 := (fun q => Exa.keep ((fun q => Exa.ext E233 ((fun q => Exa.keep (f214 q) k219) q)) q) k271)
          have f413 := (Arv.keep (Arv.ext f238 E233) k271 (ninS ne239 (ninS ne64 (ninS ne93 nin0))))
          have f414 := (fun q => Exa.keep (f266 q) k271)
          have f415 := (Arv.keep f267 k271 (ninS ne247 (ninS (Ne.symm ne185) (ninS (Ne.symm ne186) nin0))))
          obtain ⟨cq404, kq404, q404a, q404b, q404c⟩ := isOf hZ132 k296 f405
          obtain ⟨_, _, ⟨T404, L404, k404, n404⟩, -, X404, ⟨Lc404, hQ404, l404, y404, z404⟩, st404⟩ := X287.virtualBack hx (y := (⟨"com/example/typecheck/typecheck/model/QName", "equals", "(Ljava/lang/Object;)Z"⟩ : MethodName)) (z := (⟨"com/example/typecheck/typecheck/model/QName", "equals", "(Ljava/lang/Object;)Z"⟩ : MethodName)) ho132 (mvT hZ132 (own_w hw 73 rfl)) (mvT hZ132 (own_w hw 74 rfl)) (notFace_of_selects (args := #[]) (mvT hZ132 (own_w hw 76 rfl))) (mvT hZ132 (own_w hw 76 rfl)) (mvT hZ132 (own_w hw 75 rfl)) (by decide) (backOf (W := 0) (rm_qeq l Z a0 hw [] b188 (((31 : Int32) * (own_H (own_cs p1))) + (own_H (own_cs p2))) x2 x3 x4 (own_cs p1) x21 x22 x23 (own_cs p2) b233 (((31 : Int32) * (own_H (own_cs p3))) + (own_H (own_cs p4))) x44 x45 x46 (own_cs p3) x71 x72 x73 (own_cs p4) zc T255.heap n0 O284 f405 f406 f407 f408 f288 f289 f290 f291 f292 f409 f410 f411 f412 f413 (own_csok p1) (own_csok p2) f272 f275 f273 f274 f276 f277 f278 f293 f294 f279 f280 f281 f414 f415 (own_csok p3) (own_csok p4) ne248 S_C hzc) hZ132 (own_w hw 77 rfl) (own_w hw 28 rfl) (by decide) (by decide)) q404a q404c (g := (mkF m 142 #[.val (.int p1), .val (.int p2), .val (.int p3), .val (.int p4), .val (.int p5), .val (.int p6), .val (.ref x2), .val (.ref x21), .val (.ref x44), .val (.ref x71), .val (.ref x100), .val (.ref x133), .val (.ref b188), .val (.ref b233), .val (.int (((p6.toUInt32 >>> ((2 : Int32) &&& 31).toUInt32).toInt32) &&& (3 : Int32))), .val (.int (0 : Int32))] [(.ref b233), (.ref b188)])) rfl (by rw [hml]; rfl) (Steps.refl _) (argsL := [(.ref b233)]) (rest := []) (lenOf pd_11 rfl) rfl (by show 2 * 0 + _ ≤ _; exact Nat.le_of_eq rfl) (hb hby at_142) (fun _ _ => ⟨rfl, k296, (by decide : 38 + 0 ≤ _), (by decide : 80 + 0 ≤ _)⟩)
          dsimp only [Pt.U, Pt.locs, Pt.cells, Pt.slots] at X404 l404 y404 z404 st404 hQ404
          subst l404 y404 z404
          rcases hQ404 with ⟨c416, c417, rfl, N418, k419⟩ | ⟨c420, rfl, N421, k422⟩ | ⟨c423, rfl, N424, k425⟩ | ⟨c426, rfl, N427, k428⟩
          · exact absurd c417 (c299 : ¬ ((own_cs p1) = (own_cs p3)))
          · have N429 := Fr.app N297 N421
            obtain ⟨cq430, kq430, q430a, q430b, q430c⟩ := isOf hZ132 k422 f272
            obtain ⟨_, _, ⟨T430, L430, k430, n430⟩, -, X430, ⟨Lc430, hQ430, l430, y430, z430⟩, st430⟩ := X404.virtualBack hx (y := (⟨"com/example/typecheck/typecheck/model/QName", "equals", "(Ljava/lang/Object;)Z"⟩ : MethodName)) (z := (⟨"com/example/typecheck/typecheck/model/QName", "equals", "(Ljava/lang/Object;)Z"⟩ : MethodName)) ho132 (mvT hZ132 (own_w hw 73 rfl)) (mvT hZ132 (own_w hw 74 rfl)) (notFace_of_selects (args := #[]) (mvT hZ132 (own_w hw 76 rfl))) (mvT hZ132 (own_w hw 76 rfl)) (mvT hZ132 (own_w hw 75 rfl)) (by decide) (backOf (W := 0) (rm_qeq l Z a0 hw [] b233 (((31 : Int32) * (own_H (own_cs p3))) + (own_H (own_cs p4))) x44 x45 x46 (own_cs p3) x71 x72 x73 (own_cs p4) b188 (((31 : Int32) * (own_H (own_cs p1))) + (own_H (own_cs p2))) x2 x3 x4 (own_cs p1) x21 x22 x23 (own_cs p2) zc T255.heap n0 O284 f272 f275 f273 f274 f276 f277 f278 f293 f294 f279 f280 f281 f414 f415 (own_csok p3) (own_csok p4) f405 f406 f407 f408 f288 f289 f290 f291 f292 f409 f410 f411 f412 f413 (own_csok p1) (own_csok p2) (Ne.symm ne248) S_C hzc) hZ132 (own_w hw 77 rfl) (own_w hw 28 rfl) (by decide) (by decide)) q430a q430c (g := (mkF m 154 #[.val (.int p1), .val (.int p2), .val (.int p3), .val (.int p4), .val (.int p5), .val (.int p6), .val (.ref x2), .val (.ref x21), .val (.ref x44), .val (.ref x71), .val (.ref x100), .val (.ref x133), .val (.ref b188), .val (.ref b233), .val (.int (((p6.toUInt32 >>> ((2 : Int32) &&& 31).toUInt32).toInt32) &&& (3 : Int32))), .val (.int (0 : Int32))] [(.ref b188), (.ref b233)])) rfl (by rw [hml]; rfl) (Steps.refl _) (argsL := [(.ref b188)]) (rest := []) (lenOf pd_11 rfl) rfl (by show 2 * 0 + _ ≤ _; exact Nat.le_of_eq rfl) (hb hby at_154) (fun _ _ => ⟨rfl, k422, (by decide : 38 + 0 ≤ _), (by decide : 80 + 0 ≤ _)⟩)
            dsimp only [Pt.U, Pt.locs, Pt.cells, Pt.slots] at X430 l430 y430 z430 st430 hQ430
            subst l430 y430 z430
            rcases hQ430 with ⟨c431, c432, rfl, N433, k434⟩ | ⟨c435, rfl, N436, k437⟩ | ⟨c438, rfl, N439, k440⟩ | ⟨c441, rfl, N442, k443⟩
            · exact absurd c432 ((fun q => c299 q.symm) : ¬ ((own_cs p3) = (own_cs p1)))
            · have N444 := Fr.app N429 N436
              have S445 : ∀ t, Steps p.tables e below (T430.setTop (mkF m 167 #[.val (.int p1), .val (.int p2), .val (.int p3), .val (.int p4), .val (.int p5), .val (.int p6), .val (.ref x2), .val (.ref x21), .val (.ref x44), .val (.ref x71), .val (.ref x100), .val (.ref x133), .val (.ref b188), .val (.ref b233), .val (.int (((p6.toUInt32 >>> ((2 : Int32) &&& 31).toUInt32).toInt32) &&& (3 : Int32))), .val (.int (0 : Int32))] [(.int (1 : Int32))])) t → Steps p.tables e below (s₁.setTop (mkF m 0 #[.val (.int p1), .val (.int p2), .val (.int p3), .val (.int p4), .val (.int p5), .val (.int p6), .unset, .unset, .unset, .unset, .unset, .unset, .unset, .unset, .unset, .unset] [])) t := by
                intro t kt
                refine S298 t ?_
                refine XS.ifYes X287.here hx rfl (pc0 := 118) (pc' := 135) rfl (hb hby at_118) rfl ((if0 _ _).trans (teq ((own_eq0 c299) : (own_eqI (own_cs p1) (own_cs p3)) = (0 : Int32))).1) (by decide) (by decide) ?_
                refine XS.iconst X287.here hx rfl (hb hby at_135) ?_
                refine XS.istore X287.here hx rfl (hb hby at_136) rfl (l' := #[.val (.int p1), .val (.int p2), .val (.int p3), .val (.int p4), .val (.int p5), .val (.int p6), .val (.ref x2), .val (.ref x21), .val (.ref x44), .val (.ref x71), .val (.ref x100), .val (.ref x133), .val (.ref b188), .val (.ref b233), .val (.int (((p6.toUInt32 >>> ((2 : Int32) &&& 31).toUInt32).toInt32) &&& (3 : Int32))), .val (.int (0 : Int32))]) rfl ?_
                refine XS.aload X287.here hx rfl (hb hby at_138) rfl rfl ?_
                refine XS.aload X287.here hx rfl (hb hby at_140) rfl rfl ?_
                show Steps p.tables e below (T287.setTop (mkF m 142 #[.val (.int p1), .val (.int p2), .val (.int p3), .val (.int p4), .val (.int p5), .val (.int p6), .val (.ref x2), .val (.ref x21), .val (.ref x44), .val (.ref x71), .val (.ref x100), .val (.ref x133), .val (.ref b188), .val (.ref b233), .val (.int (((p6.toUInt32 >>> ((2 : Int32) &&& 31).toUInt32).toInt32) &&& (3 : Int32))), .val (.int (0 : Int32))] [(.ref b233), (.ref b188)])) _
                refine st404.trans ?_
                refine XS.iload X404.here hx rfl (hb hby at_145) rfl ?_
                refine XS.icmpNo X404.here hx rfl (hb hby at_147) rfl (teq ((by decide) : (0 : Int32) = (0 : Int32))).2 ?_
                refine XS.aload X404.here hx rfl (hb hby at_150) rfl rfl ?_
                refine XS.aload X404.here hx rfl (hb hby at_152) rfl rfl ?_
                show Steps p.tables e below (T404.setTop (mkF m 154 #[.val (.int p1), .val (.int p2), .val (.int p3), .val (.int p4), .val (.int p5), .val (.int p6), .val (.ref x2), .val (.ref x21), .val (.ref x44), .val (.ref x71), .val (.ref x100), .val (.ref x133), .val (.ref b188), .val (.ref b233), .val (.int (((p6.toUInt32 >>> ((2 : Int32) &&& 31).toUInt32).toInt32) &&& (3 : Int32))), .val (.int (0 : Int32))] [(.ref b188), (.ref b233)])) _
                refine st430.trans ?_
                refine XS.iload X430.here hx rfl (hb hby at_157) rfl ?_
                refine XS.icmpNo X430.here hx rfl (hb hby at_159) rfl (teq ((by decide) : (0 : Int32) = (0 : Int32))).2 ?_
                refine XS.iconst X430.here hx rfl (hb hby at_162) ?_
                refine XS.goto X430.here hx rfl (pc0 := 163) (pc' := 167) rfl (hb hby at_163) (by decide) (by decide) ?_
                exact kt
              obtain ⟨fs, hr, hrun, hended, hRW⟩ := X430.leaveW hS132 (by rw [k437]; exact hk283) (v := some (.int (1 : Int32))) (fun h => by rw [Bd.returns] at h; cases h)
              refine ⟨_, _, pre0 _ (S445 _ ?_), hrun, hended, _, _, rfl, ?_, hRW.1, hRW.2.1, hRW.2.2.1, hRW.2.2.2.mono (by decide) (by decide)⟩
              · exact retN X430 hx (t := .boolean) Bd.returns (by simp) (hb hby at_167) hr
              · show Q_rm_law Z p1 p2 p3 p4 p5 p6 zc fm h0 n0 _ T430.heap _
                rw [k437]
                exact ⟨rfl, N444⟩
            · have N446 := Fr.app N429 N439
              have S447 : ∀ t, Steps p.tables e below (T430.setTop (mkF m 167 #[.val (.int p1), .val (.int p2), .val (.int p3), .val (.int p4), .val (.int p5), .val (.int p6), .val (.ref x2), .val (.ref x21), .val (.ref x44), .val (.ref x71), .val (.ref x100), .val (.ref x133), .val (.ref b188), .val (.ref b233), .val (.int (((p6.toUInt32 >>> ((2 : Int32) &&& 31).toUInt32).toInt32) &&& (3 : Int32))), .val (.int (0 : Int32))] [(.int (1 : Int32))])) t → Steps p.tables e below (s₁.setTop (mkF m 0 #[.val (.int p1), .val (.int p2), .val (.int p3), .val (.int p4), .val (.int p5), .val (.int p6), .unset, .unset, .unset, .unset, .unset, .unset, .unset, .unset, .unset, .unset] [])) t := by
                intro t kt
                refine S298 t ?_
                refine XS.ifYes X287.here hx rfl (pc0 := 118) (pc' := 135) rfl (hb hby at_118) rfl ((if0 _ _).trans (teq ((own_eq0 c299) : (own_eqI (own_cs p1) (own_cs p3)) = (0 : Int32))).1) (by decide) (by decide) ?_
                refine XS.iconst X287.here hx rfl (hb hby at_135) ?_
                refine XS.istore X287.here hx rfl (hb hby at_136) rfl (l' := #[.val (.int p1), .val (.int p2), .val (.int p3), .val (.int p4), .val (.int p5), .val (.int p6), .val (.ref x2), .val (.ref x21), .val (.ref x44), .val (.ref x71), .val (.ref x100), .val (.ref x133), .val (.ref b188), .val (.ref b233), .val (.int (((p6.toUInt32 >>> ((2 : Int32) &&& 31).toUInt32).toInt32) &&& (3 : Int32))), .val (.int (0 : Int32))]) rfl ?_
                refine XS.aload X287.here hx rfl (hb hby at_138) rfl rfl ?_
                refine XS.aload X287.here hx rfl (hb hby at_140) rfl rfl ?_
                show Steps p.tables e below (T287.setTop (mkF m 142 #[.val (.int p1), .val (.int p2), .val (.int p3), .val (.int p4), .val (.int p5), .val (.int p6), .val (.ref x2), .val (.ref x21), .val (.ref x44), .val (.ref x71), .val (.ref x100), .val (.ref x133), .val (.ref b188), .val (.ref b233), .val (.int (((p6.toUInt32 >>> ((2 : Int32) &&& 31).toUInt32).toInt32) &&& (3 : Int32))), .val (.int (0 : Int32))] [(.ref b233), (.ref b188)])) _
                refine st404.trans ?_
                refine XS.iload X404.here hx rfl (hb hby at_145) rfl ?_
                refine XS.icmpNo X404.here hx rfl (hb hby at_147) rfl (teq ((by decide) : (0 : Int32) = (0 : Int32))).2 ?_
                refine XS.aload X404.here hx rfl (hb hby at_150) rfl rfl ?_
                refine XS.aload X404.here hx rfl (hb hby at_152) rfl rfl ?_
                show Steps p.tables e below (T404.setTop (mkF m 154 #[.val (.int p1), .val (.int p2), .val (.int p3), .val (.int p4), .val (.int p5), .val (.int p6), .val (.ref x2), .val (.ref x21), .val (.ref x44), .val (.ref x71), .val (.ref x100), .val (.ref x133), .val (.ref b188), .val (.ref b233), .val (.int (((p6.toUInt32 >>> ((2 : Int32) &&& 31).toUInt32).toInt32) &&& (3 : Int32))), .val (.int (0 : Int32))] [(.ref b188), (.ref b233)])) _
                refine st430.trans ?_
                refine XS.iload X430.here hx rfl (hb hby at_157) rfl ?_
                refine XS.icmpNo X430.here hx rfl (hb hby at_159) rfl (teq ((by decide) : (0 : Int32) = (0 : Int32))).2 ?_
                refine XS.iconst X430.here hx rfl (hb hby at_162) ?_
                refine XS.goto X430.here hx rfl (pc0 := 163) (pc' := 167) rfl (hb hby at_163) (by decide) (by decide) ?_
                exact kt
              obtain ⟨fs, hr, hrun, hended, hRW⟩ := X430.leaveW hS132 (by rw [k440]; exact hk283) (v := some (.int (1 : Int32))) (fun h => by rw [Bd.returns] at h; cases h)
              refine ⟨_, _, pre0 _ (S447 _ ?_), hrun, hended, _, _, rfl, ?_, hRW.1, hRW.2.1, hRW.2.2.1, hRW.2.2.2.mono (by decide) (by decide)⟩
              · exact retN X430 hx (t := .boolean) Bd.returns (by simp) (hb hby at_167) hr
              · show Q_rm_law Z p1 p2 p3 p4 p5 p6 zc fm h0 n0 _ T430.heap _
                rw [k440]
                exact ⟨rfl, N446⟩
            · have N448 := Fr.app N429 N442
              have S449 : ∀ t, Steps p.tables e below (T430.setTop (mkF m 167 #[.val (.int p1), .val (.int p2), .val (.int p3), .val (.int p4), .val (.int p5), .val (.int p6), .val (.ref x2), .val (.ref x21), .val (.ref x44), .val (.ref x71), .val (.ref x100), .val (.ref x133), .val (.ref b188), .val (.ref b233), .val (.int (((p6.toUInt32 >>> ((2 : Int32) &&& 31).toUInt32).toInt32) &&& (3 : Int32))), .val (.int (0 : Int32))] [(.int (1 : Int32))])) t → Steps p.tables e below (s₁.setTop (mkF m 0 #[.val (.int p1), .val (.int p2), .val (.int p3), .val (.int p4), .val (.int p5), .val (.int p6), .unset, .unset, .unset, .unset, .unset, .unset, .unset, .unset, .unset, .unset] [])) t := by
                intro t kt
                refine S298 t ?_
                refine XS.ifYes X287.here hx rfl (pc0 := 118) (pc' := 135) rfl (hb hby at_118) rfl ((if0 _ _).trans (teq ((own_eq0 c299) : (own_eqI (own_cs p1) (own_cs p3)) = (0 : Int32))).1) (by decide) (by decide) ?_
                refine XS.iconst X287.here hx rfl (hb hby at_135) ?_
                refine XS.istore X287.here hx rfl (hb hby at_136) rfl (l' := #[.val (.int p1), .val (.int p2), .val (.int p3), .val (.int p4), .val (.int p5), .val (.int p6), .val (.ref x2), .val (.ref x21), .val (.ref x44), .val (.ref x71), .val (.ref x100), .val (.ref x133), .val (.ref b188), .val (.ref b233), .val (.int (((p6.toUInt32 >>> ((2 : Int32) &&& 31).toUInt32).toInt32) &&& (3 : Int32))), .val (.int (0 : Int32))]) rfl ?_
                refine XS.aload X287.here hx rfl (hb hby at_138) rfl rfl ?_
                refine XS.aload X287.here hx rfl (hb hby at_140) rfl rfl ?_
                show Steps p.tables e below (T287.setTop (mkF m 142 #[.val (.int p1), .val (.int p2), .val (.int p3), .val (.int p4), .val (.int p5), .val (.int p6), .val (.ref x2), .val (.ref x21), .val (.ref x44), .val (.ref x71), .val (.ref x100), .val (.ref x133), .val (.ref b188), .val (.ref b233), .val (.int (((p6.toUInt32 >>> ((2 : Int32) &&& 31).toUInt32).toInt32) &&& (3 : Int32))), .val (.int (0 : Int32))] [(.ref b233), (.ref b188)])) _
                refine st404.trans ?_
                refine XS.iload X404.here hx rfl (hb hby at_145) rfl ?_
                refine XS.icmpNo X404.here hx rfl (hb hby at_147) rfl (teq ((by decide) : (0 : Int32) = (0 : Int32))).2 ?_
                refine XS.aload X404.here hx rfl (hb hby at_150) rfl rfl ?_
                refine XS.aload X404.here hx rfl (hb hby at_152) rfl rfl ?_
                show Steps p.tables e below (T404.setTop (mkF m 154 #[.val (.int p1), .val (.int p2), .val (.int p3), .val (.int p4), .val (.int p5), .val (.int p6), .val (.ref x2), .val (.ref x21), .val (.ref x44), .val (.ref x71), .val (.ref x100), .val (.ref x133), .val (.ref b188), .val (.ref b233), .val (.int (((p6.toUInt32 >>> ((2 : Int32) &&& 31).toUInt32).toInt32) &&& (3 : Int32))), .val (.int (0 : Int32))] [(.ref b188), (.ref b233)])) _
                refine st430.trans ?_
                refine XS.iload X430.here hx rfl (hb hby at_157) rfl ?_
                refine XS.icmpNo X430.here hx rfl (hb hby at_159) rfl (teq ((by decide) : (0 : Int32) = (0 : Int32))).2 ?_
                refine XS.iconst X430.here hx rfl (hb hby at_162) ?_
                refine XS.goto X430.here hx rfl (pc0 := 163) (pc' := 167) rfl (hb hby at_163) (by decide) (by decide) ?_
                exact kt
              obtain ⟨fs, hr, hrun, hended, hRW⟩ := X430.leaveW hS132 (by rw [k443]; exact hk283) (v := some (.int (1 : Int32))) (fun h => by rw [Bd.returns] at h; cases h)
              refine ⟨_, _, pre0 _ (S449 _ ?_), hrun, hended, _, _, rfl, ?_, hRW.1, hRW.2.1, hRW.2.2.1, hRW.2.2.2.mono (by decide) (by decide)⟩
              · exact retN X430 hx (t := .boolean) Bd.returns (by simp) (hb hby at_167) hr
              · show Q_rm_law Z p1 p2 p3 p4 p5 p6 zc fm h0 n0 _ T430.heap _
                rw [k443]
                exact ⟨rfl, N448⟩
          · have N450 := Fr.app N297 N424
            obtain ⟨cq451, kq451, q451a, q451b, q451c⟩ := isOf hZ132 k425 f272
            obtain ⟨_, _, ⟨T451, L451, k451, n451⟩, -, X451, ⟨Lc451, hQ451, l451, y451, z451⟩, st451⟩ := X404.virtualBack hx (y := (⟨"com/example/typecheck/typecheck/model/QName", "equals", "(Ljava/lang/Object;)Z"⟩ : MethodName)) (z := (⟨"com/example/typecheck/typecheck/model/QName", "equals", "(Ljava/lang/Object;)Z"⟩ : MethodName)) ho132 (mvT hZ132 (own_w hw 73 rfl)) (mvT hZ132 (own_w hw 74 rfl)) (notFace_of_selects (args := #[]) (mvT hZ132 (own_w hw 76 rfl))) (mvT hZ132 (own_w hw 76 rfl)) (mvT hZ132 (own_w hw 75 rfl)) (by decide) (backOf (W := 0) (rm_qeq l Z a0 hw [] b233 (((31 : Int32) * (own_H (own_cs p3))) + (own_H (own_cs p4))) x44 x45 x46 (own_cs p3) x71 x72 x73 (own_cs p4) b188 (((31 : Int32) * (own_H (own_cs p1))) + (own_H (own_cs p2))) x2 x3 x4 (own_cs p1) x21 x22 x23 (own_cs p2) zc T255.heap n0 O284 f272 f275 f273 f274 f276 f277 f278 f293 f294 f279 f280 f281 f414 f415 (own_csok p3) (own_csok p4) f405 f406 f407 f408 f288 f289 f290 f291 f292 f409 f410 f411 f412 f413 (own_csok p1) (own_csok p2) (Ne.symm ne248) S_C hzc) hZ132 (own_w hw 77 rfl) (own_w hw 28 rfl) (by decide) (by decide)) q451a q451c (g := (mkF m 154 #[.val (.int p1), .val (.int p2), .val (.int p3), .val (.int p4), .val (.int p5), .val (.int p6), .val (.ref x2), .val (.ref x21), .val (.ref x44), .val (.ref x71), .val (.ref x100), .val (.ref x133), .val (.ref b188), .val (.ref b233), .val (.int (((p6.toUInt32 >>> ((2 : Int32) &&& 31).toUInt32).toInt32) &&& (3 : Int32))), .val (.int (0 : Int32))] [(.ref b188), (.ref b233)])) rfl (by rw [hml]; rfl) (Steps.refl _) (argsL := [(.ref b188)]) (rest := []) (lenOf pd_11 rfl) rfl (by show 2 * 0 + _ ≤ _; exact Nat.le_of_eq rfl) (hb hby at_154) (fun _ _ => ⟨rfl, k425, (by decide : 38 + 0 ≤ _), (by decide : 80 + 0 ≤ _)⟩)
            dsimp only [Pt.U, Pt.locs, Pt.cells, Pt.slots] at X451 l451 y451 z451 st451 hQ451
            subst l451 y451 z451
            rcases hQ451 with ⟨c452, c453, rfl, N454, k455⟩ | ⟨c456, rfl, N457, k458⟩ | ⟨c459, rfl, N460, k461⟩ | ⟨c462, rfl, N463, k464⟩
            · exact absurd c453 ((fun q => c299 q.symm) : ¬ ((own_cs p3) = (own_cs p1)))
            · have N465 := Fr.app N450 N457
              have S466 : ∀ t, Steps p.tables e below (T451.setTop (mkF m 167 #[.val (.int p1), .val (.int p2), .val (.int p3), .val (.int p4), .val (.int p5), .val (.int p6), .val (.ref x2), .val (.ref x21), .val (.ref x44), .val (.ref x71), .val (.ref x100), .val (.ref x133), .val (.ref b188), .val (.ref b233), .val (.int (((p6.toUInt32 >>> ((2 : Int32) &&& 31).toUInt32).toInt32) &&& (3 : Int32))), .val (.int (0 : Int32))] [(.int (1 : Int32))])) t → Steps p.tables e below (s₁.setTop (mkF m 0 #[.val (.int p1), .val (.int p2), .val (.int p3), .val (.int p4), .val (.int p5), .val (.int p6), .unset, .unset, .unset, .unset, .unset, .unset, .unset, .unset, .unset, .unset] [])) t := by
                intro t kt
                refine S298 t ?_
                refine XS.ifYes X287.here hx rfl (pc0 := 118) (pc' := 135) rfl (hb hby at_118) rfl ((if0 _ _).trans (teq ((own_eq0 c299) : (own_eqI (own_cs p1) (own_cs p3)) = (0 : Int32))).1) (by decide) (by decide) ?_
                refine XS.iconst X287.here hx rfl (hb hby at_135) ?_
                refine XS.istore X287.here hx rfl (hb hby at_136) rfl (l' := #[.val (.int p1), .val (.int p2), .val (.int p3), .val (.int p4), .val (.int p5), .val (.int p6), .val (.ref x2), .val (.ref x21), .val (.ref x44), .val (.ref x71), .val (.ref x100), .val (.ref x133), .val (.ref b188), .val (.ref b233), .val (.int (((p6.toUInt32 >>> ((2 : Int32) &&& 31).toUInt32).toInt32) &&& (3 : Int32))), .val (.int (0 : Int32))]) rfl ?_
                refine XS.aload X287.here hx rfl (hb hby at_138) rfl rfl ?_
                refine XS.aload X287.here hx rfl (hb hby at_140) rfl rfl ?_
                show Steps p.tables e below (T287.setTop (mkF m 142 #[.val (.int p1), .val (.int p2), .val (.int p3), .val (.int p4), .val (.int p5), .val (.int p6), .val (.ref x2), .val (.ref x21), .val (.ref x44), .val (.ref x71), .val (.ref x100), .val (.ref x133), .val (.ref b188), .val (.ref b233), .val (.int (((p6.toUInt32 >>> ((2 : Int32) &&& 31).toUInt32).toInt32) &&& (3 : Int32))), .val (.int (0 : Int32))] [(.ref b233), (.ref b188)])) _
                refine st404.trans ?_
                refine XS.iload X404.here hx rfl (hb hby at_145) rfl ?_
                refine XS.icmpNo X404.here hx rfl (hb hby at_147) rfl (teq ((by decide) : (0 : Int32) = (0 : Int32))).2 ?_
                refine XS.aload X404.here hx rfl (hb hby at_150) rfl rfl ?_
                refine XS.aload X404.here hx rfl (hb hby at_152) rfl rfl ?_
                show Steps p.tables e below (T404.setTop (mkF m 154 #[.val (.int p1), .val (.int p2), .val (.int p3), .val (.int p4), .val (.int p5), .val (.int p6), .val (.ref x2), .val (.ref x21), .val (.ref x44), .val (.ref x71), .val (.ref x100), .val (.ref x133), .val (.ref b188), .val (.ref b233), .val (.int (((p6.toUInt32 >>> ((2 : Int32) &&& 31).toUInt32).toInt32) &&& (3 : Int32))), .val (.int (0 : Int32))] [(.ref b188), (.ref b233)])) _
                refine st451.trans ?_
                refine XS.iload X451.here hx rfl (hb hby at_157) rfl ?_
                refine XS.icmpNo X451.here hx rfl (hb hby at_159) rfl (teq ((by decide) : (0 : Int32) = (0 : Int32))).2 ?_
                refine XS.iconst X451.here hx rfl (hb hby at_162) ?_
                refine XS.goto X451.here hx rfl (pc0 := 163) (pc' := 167) rfl (hb hby at_163) (by decide) (by decide) ?_
                exact kt
              obtain ⟨fs, hr, hrun, hended, hRW⟩ := X451.leaveW hS132 (by rw [k458]; exact hk283) (v := some (.int (1 : Int32))) (fun h => by rw [Bd.returns] at h; cases h)
              refine ⟨_, _, pre0 _ (S466 _ ?_), hrun, hended, _, _, rfl, ?_, hRW.1, hRW.2.1, hRW.2.2.1, hRW.2.2.2.mono (by decide) (by decide)⟩
              · exact retN X451 hx (t := .boolean) Bd.returns (by simp) (hb hby at_167) hr
              · show Q_rm_law Z p1 p2 p3 p4 p5 p6 zc fm h0 n0 _ T451.heap _
                rw [k458]
                exact ⟨rfl, N465⟩
            · have N467 := Fr.app N450 N460
              have S468 : ∀ t, Steps p.tables e below (T451.setTop (mkF m 167 #[.val (.int p1), .val (.int p2), .val (.int p3), .val (.int p4), .val (.int p5), .val (.int p6), .val (.ref x2), .val (.ref x21), .val (.ref x44), .val (.ref x71), .val (.ref x100), .val (.ref x133), .val (.ref b188), .val (.ref b233), .val (.int (((p6.toUInt32 >>> ((2 : Int32) &&& 31).toUInt32).toInt32) &&& (3 : Int32))), .val (.int (0 : Int32))] [(.int (1 : Int32))])) t → Steps p.tables e below (s₁.setTop (mkF m 0 #[.val (.int p1), .val (.int p2), .val (.int p3), .val (.int p4), .val (.int p5), .val (.int p6), .unset, .unset, .unset, .unset, .unset, .unset, .unset, .unset, .unset, .unset] [])) t := by
                intro t kt
                refine S298 t ?_
                refine XS.ifYes X287.here hx rfl (pc0 := 118) (pc' := 135) rfl (hb hby at_118) rfl ((if0 _ _).trans (teq ((own_eq0 c299) : (own_eqI (own_cs p1) (own_cs p3)) = (0 : Int32))).1) (by decide) (by decide) ?_
                refine XS.iconst X287.here hx rfl (hb hby at_135) ?_
                refine XS.istore X287.here hx rfl (hb hby at_136) rfl (l' := #[.val (.int p1), .val (.int p2), .val (.int p3), .val (.int p4), .val (.int p5), .val (.int p6), .val (.ref x2), .val (.ref x21), .val (.ref x44), .val (.ref x71), .val (.ref x100), .val (.ref x133), .val (.ref b188), .val (.ref b233), .val (.int (((p6.toUInt32 >>> ((2 : Int32) &&& 31).toUInt32).toInt32) &&& (3 : Int32))), .val (.int (0 : Int32))]) rfl ?_
                refine XS.aload X287.here hx rfl (hb hby at_138) rfl rfl ?_
                refine XS.aload X287.here hx rfl (hb hby at_140) rfl rfl ?_
                show Steps p.tables e below (T287.setTop (mkF m 142 #[.val (.int p1), .val (.int p2), .val (.int p3), .val (.int p4), .val (.int p5), .val (.int p6), .val (.ref x2), .val (.ref x21), .val (.ref x44), .val (.ref x71), .val (.ref x100), .val (.ref x133), .val (.ref b188), .val (.ref b233), .val (.int (((p6.toUInt32 >>> ((2 : Int32) &&& 31).toUInt32).toInt32) &&& (3 : Int32))), .val (.int (0 : Int32))] [(.ref b233), (.ref b188)])) _
                refine st404.trans ?_
                refine XS.iload X404.here hx rfl (hb hby at_145) rfl ?_
                refine XS.icmpNo X404.here hx rfl (hb hby at_147) rfl (teq ((by decide) : (0 : Int32) = (0 : Int32))).2 ?_
                refine XS.aload X404.here hx rfl (hb hby at_150) rfl rfl ?_
                refine XS.aload X404.here hx rfl (hb hby at_152) rfl rfl ?_
                show Steps p.tables e below (T404.setTop (mkF m 154 #[.val (.int p1), .val (.int p2), .val (.int p3), .val (.int p4), .val (.int p5), .val (.int p6), .val (.ref x2), .val (.ref x21), .val (.ref x44), .val (.ref x71), .val (.ref x100), .val (.ref x133), .val (.ref b188), .val (.ref b233), .val (.int (((p6.toUInt32 >>> ((2 : Int32) &&& 31).toUInt32).toInt32) &&& (3 : Int32))), .val (.int (0 : Int32))] [(.ref b188), (.ref b233)])) _
                refine st451.trans ?_
                refine XS.iload X451.here hx rfl (hb hby at_157) rfl ?_
                refine XS.icmpNo X451.here hx rfl (hb hby at_159) rfl (teq ((by decide) : (0 : Int32) = (0 : Int32))).2 ?_
                refine XS.iconst X451.here hx rfl (hb hby at_162) ?_
                refine XS.goto X451.here hx rfl (pc0 := 163) (pc' := 167) rfl (hb hby at_163) (by decide) (by decide) ?_
                exact kt
              obtain ⟨fs, hr, hrun, hended, hRW⟩ := X451.leaveW hS132 (by rw [k461]; exact hk283) (v := some (.int (1 : Int32))) (fun h => by rw [Bd.returns] at h; cases h)
              refine ⟨_, _, pre0 _ (S468 _ ?_), hrun, hended, _, _, rfl, ?_, hRW.1, hRW.2.1, hRW.2.2.1, hRW.2.2.2.mono (by decide) (by decide)⟩
              · exact retN X451 hx (t := .boolean) Bd.returns (by simp) (hb hby at_167) hr
              · show Q_rm_law Z p1 p2 p3 p4 p5 p6 zc fm h0 n0 _ T451.heap _
                rw [k461]
                exact ⟨rfl, N467⟩
            · have N469 := Fr.app N450 N463
              have S470 : ∀ t, Steps p.tables e below (T451.setTop (mkF m 167 #[.val (.int p1), .val (.int p2), .val (.int p3), .val (.int p4), .val (.int p5), .val (.int p6), .val (.ref x2), .val (.ref x21), .val (.ref x44), .val (.ref x71), .val (.ref x100), .val (.ref x133), .val (.ref b188), .val (.ref b233), .val (.int (((p6.toUInt32 >>> ((2 : Int32) &&& 31).toUInt32).toInt32) &&& (3 : Int32))), .val (.int (0 : Int32))] [(.int (1 : Int32))])) t → Steps p.tables e below (s₁.setTop (mkF m 0 #[.val (.int p1), .val (.int p2), .val (.int p3), .val (.int p4), .val (.int p5), .val (.int p6), .unset, .unset, .unset, .unset, .unset, .unset, .unset, .unset, .unset, .unset] [])) t := by
                intro t kt
                refine S298 t ?_
                refine XS.ifYes X287.here hx rfl (pc0 := 118) (pc' := 135) rfl (hb hby at_118) rfl ((if0 _ _).trans (teq ((own_eq0 c299) : (own_eqI (own_cs p1) (own_cs p3)) = (0 : Int32))).1) (by decide) (by decide) ?_
                refine XS.iconst X287.here hx rfl (hb hby at_135) ?_
                refine XS.istore X287.here hx rfl (hb hby at_136) rfl (l' := #[.val (.int p1), .val (.int p2), .val (.int p3), .val (.int p4), .val (.int p5), .val (.int p6), .val (.ref x2), .val (.ref x21), .val (.ref x44), .val (.ref x71), .val (.ref x100), .val (.ref x133), .val (.ref b188), .val (.ref b233), .val (.int (((p6.toUInt32 >>> ((2 : Int32) &&& 31).toUInt32).toInt32) &&& (3 : Int32))), .val (.int (0 : Int32))]) rfl ?_
                refine XS.aload X287.here hx rfl (hb hby at_138) rfl rfl ?_
                refine XS.aload X287.here hx rfl (hb hby at_140) rfl rfl ?_
                show Steps p.tables e below (T287.setTop (mkF m 142 #[.val (.int p1), .val (.int p2), .val (.int p3), .val (.int p4), .val (.int p5), .val (.int p6), .val (.ref x2), .val (.ref x21), .val (.ref x44), .val (.ref x71), .val (.ref x100), .val (.ref x133), .val (.ref b188), .val (.ref b233), .val (.int (((p6.toUInt32 >>> ((2 : Int32) &&& 31).toUInt32).toInt32) &&& (3 : Int32))), .val (.int (0 : Int32))] [(.ref b233), (.ref b188)])) _
                refine st404.trans ?_
                refine XS.iload X404.here hx rfl (hb hby at_145) rfl ?_
                refine XS.icmpNo X404.here hx rfl (hb hby at_147) rfl (teq ((by decide) : (0 : Int32) = (0 : Int32))).2 ?_
                refine XS.aload X404.here hx rfl (hb hby at_150) rfl rfl ?_
                refine XS.aload X404.here hx rfl (hb hby at_152) rfl rfl ?_
                show Steps p.tables e below (T404.setTop (mkF m 154 #[.val (.int p1), .val (.int p2), .val (.int p3), .val (.int p4), .val (.int p5), .val (.int p6), .val (.ref x2), .val (.ref x21), .val (.ref x44), .val (.ref x71), .val (.ref x100), .val (.ref x133), .val (.ref b188), .val (.ref b233), .val (.int (((p6.toUInt32 >>> ((2 : Int32) &&& 31).toUInt32).toInt32) &&& (3 : Int32))), .val (.int (0 : Int32))] [(.ref b188), (.ref b233)])) _
                refine st451.trans ?_
                refine XS.iload X451.here hx rfl (hb hby at_157) rfl ?_
                refine XS.icmpNo X451.here hx rfl (hb hby at_159) rfl (teq ((by decide) : (0 : Int32) = (0 : Int32))).2 ?_
                refine XS.iconst X451.here hx rfl (hb hby at_162) ?_
                refine XS.goto X451.here hx rfl (pc0 := 163) (pc' := 167) rfl (hb hby at_163) (by decide) (by decide) ?_
                exact kt
              obtain ⟨fs, hr, hrun, hended, hRW⟩ := X451.leaveW hS132 (by rw [k464]; exact hk283) (v := some (.int (1 : Int32))) (fun h => by rw [Bd.returns] at h; cases h)
              refine ⟨_, _, pre0 _ (S470 _ ?_), hrun, hended, _, _, rfl, ?_, hRW.1, hRW.2.1, hRW.2.2.1, hRW.2.2.2.mono (by decide) (by decide)⟩
              · exact retN X451 hx (t := .boolean) Bd.returns (by simp) (hb hby at_167) hr
              · show Q_rm_law Z p1 p2 p3 p4 p5 p6 zc fm h0 n0 _ T451.heap _
                rw [k464]
                exact ⟨rfl, N469⟩
          · have N471 := Fr.app N297 N427
            obtain ⟨cq472, kq472, q472a, q472b, q472c⟩ := isOf hZ132 k428 f272
            obtain ⟨_, _, ⟨T472, L472, k472, n472⟩, -, X472, ⟨Lc472, hQ472, l472, y472, z472⟩, st472⟩ := X404.virtualBack hx (y := (⟨"com/example/typecheck/typecheck/model/QName", "equals", "(Ljava/lang/Object;)Z"⟩ : MethodName)) (z := (⟨"com/example/typecheck/typecheck/model/QName", "equals", "(Ljava/lang/Object;)Z"⟩ : MethodName)) ho132 (mvT hZ132 (own_w hw 73 rfl)) (mvT hZ132 (own_w hw 74 rfl)) (notFace_of_selects (args := #[]) (mvT hZ132 (own_w hw 76 rfl))) (mvT hZ132 (own_w hw 76 rfl)) (mvT hZ132 (own_w hw 75 rfl)) (by decide) (backOf (W := 0) (rm_qeq l Z a0 hw [] b233 (((31 : Int32) * (own_H (own_cs p3))) + (own_H (own_cs p4))) x44 x45 x46 (own_cs p3) x71 x72 x73 (own_cs p4) b188 (((31 : Int32) * (own_H (own_cs p1))) + (own_H (own_cs p2))) x2 x3 x4 (own_cs p1) x21 x22 x23 (own_cs p2) zc T255.heap n0 O284 f272 f275 f273 f274 f276 f277 f278 f293 f294 f279 f280 f281 f414 f415 (own_csok p3) (own_csok p4) f405 f406 f407 f408 f288 f289 f290 f291 f292 f409 f410 f411 f412 f413 (own_csok p1) (own_csok p2) (Ne.symm ne248) S_C hzc) hZ132 (own_w hw 77 rfl) (own_w hw 28 rfl) (by decide) (by decide)) q472a q472c (g := (mkF m 154 #[.val (.int p1), .val (.int p2), .val (.int p3), .val (.int p4), .val (.int p5), .val (.int p6), .val (.ref x2), .val (.ref x21), .val (.ref x44), .val (.ref x71), .val (.ref x100), .val (.ref x133), .val (.ref b188), .val (.ref b233), .val (.int (((p6.toUInt32 >>> ((2 : Int32) &&& 31).toUInt32).toInt32) &&& (3 : Int32))), .val (.int (0 : Int32))] [(.ref b188), (.ref b233)])) rfl (by rw [hml]; rfl) (Steps.refl _) (argsL := [(.ref b188)]) (rest := []) (lenOf pd_11 rfl) rfl (by show 2 * 0 + _ ≤ _; exact Nat.le_of_eq rfl) (hb hby at_154) (fun _ _ => ⟨rfl, k428, (by decide : 38 + 0 ≤ _), (by decide : 80 + 0 ≤ _)⟩)
            dsimp only [Pt.U, Pt.locs, Pt.cells, Pt.slots] at X472 l472 y472 z472 st472 hQ472
            subst l472 y472 z472
            rcases hQ472 with ⟨c473, c474, rfl, N475, k476⟩ | ⟨c477, rfl, N478, k479⟩ | ⟨c480, rfl, N481, k482⟩ | ⟨c483, rfl, N484, k485⟩
            · exact absurd c474 ((fun q => c299 q.symm) : ¬ ((own_cs p3) = (own_cs p1)))
            · have N486 := Fr.app N471 N478
              have S487 : ∀ t, Steps p.tables e below (T472.setTop (mkF m 167 #[.val (.int p1), .val (.int p2), .val (.int p3), .val (.int p4), .val (.int p5), .val (.int p6), .val (.ref x2), .val (.ref x21), .val (.ref x44), .val (.ref x71), .val (.ref x100), .val (.ref x133), .val (.ref b188), .val (.ref b233), .val (.int (((p6.toUInt32 >>> ((2 : Int32) &&& 31).toUInt32).toInt32) &&& (3 : Int32))), .val (.int (0 : Int32))] [(.int (1 : Int32))])) t → Steps p.tables e below (s₁.setTop (mkF m 0 #[.val (.int p1), .val (.int p2), .val (.int p3), .val (.int p4), .val (.int p5), .val (.int p6), .unset, .unset, .unset, .unset, .unset, .unset, .unset, .unset, .unset, .unset] [])) t := by
                intro t kt
                refine S298 t ?_
                refine XS.ifYes X287.here hx rfl (pc0 := 118) (pc' := 135) rfl (hb hby at_118) rfl ((if0 _ _).trans (teq ((own_eq0 c299) : (own_eqI (own_cs p1) (own_cs p3)) = (0 : Int32))).1) (by decide) (by decide) ?_
                refine XS.iconst X287.here hx rfl (hb hby at_135) ?_
                refine XS.istore X287.here hx rfl (hb hby at_136) rfl (l' := #[.val (.int p1), .val (.int p2), .val (.int p3), .val (.int p4), .val (.int p5), .val (.int p6), .val (.ref x2), .val (.ref x21), .val (.ref x44), .val (.ref x71), .val (.ref x100), .val (.ref x133), .val (.ref b188), .val (.ref b233), .val (.int (((p6.toUInt32 >>> ((2 : Int32) &&& 31).toUInt32).toInt32) &&& (3 : Int32))), .val (.int (0 : Int32))]) rfl ?_
                refine XS.aload X287.here hx rfl (hb hby at_138) rfl rfl ?_
                refine XS.aload X287.here hx rfl (hb hby at_140) rfl rfl ?_
                show Steps p.tables e below (T287.setTop (mkF m 142 #[.val (.int p1), .val (.int p2), .val (.int p3), .val (.int p4), .val (.int p5), .val (.int p6), .val (.ref x2), .val (.ref x21), .val (.ref x44), .val (.ref x71), .val (.ref x100), .val (.ref x133), .val (.ref b188), .val (.ref b233), .val (.int (((p6.toUInt32 >>> ((2 : Int32) &&& 31).toUInt32).toInt32) &&& (3 : Int32))), .val (.int (0 : Int32))] [(.ref b233), (.ref b188)])) _
                refine st404.trans ?_
                refine XS.iload X404.here hx rfl (hb hby at_145) rfl ?_
                refine XS.icmpNo X404.here hx rfl (hb hby at_147) rfl (teq ((by decide) : (0 : Int32) = (0 : Int32))).2 ?_
                refine XS.aload X404.here hx rfl (hb hby at_150) rfl rfl ?_
                refine XS.aload X404.here hx rfl (hb hby at_152) rfl rfl ?_
                show Steps p.tables e below (T404.setTop (mkF m 154 #[.val (.int p1), .val (.int p2), .val (.int p3), .val (.int p4), .val (.int p5), .val (.int p6), .val (.ref x2), .val (.ref x21), .val (.ref x44), .val (.ref x71), .val (.ref x100), .val (.ref x133), .val (.ref b188), .val (.ref b233), .val (.int (((p6.toUInt32 >>> ((2 : Int32) &&& 31).toUInt32).toInt32) &&& (3 : Int32))), .val (.int (0 : Int32))] [(.ref b188), (.ref b233)])) _
                refine st472.trans ?_
                refine XS.iload X472.here hx rfl (hb hby at_157) rfl ?_
                refine XS.icmpNo X472.here hx rfl (hb hby at_159) rfl (teq ((by decide) : (0 : Int32) = (0 : Int32))).2 ?_
                refine XS.iconst X472.here hx rfl (hb hby at_162) ?_
                refine XS.goto X472.here hx rfl (pc0 := 163) (pc' := 167) rfl (hb hby at_163) (by decide) (by decide) ?_
                exact kt
              obtain ⟨fs, hr, hrun, hended, hRW⟩ := X472.leaveW hS132 (by rw [k479]; exact hk283) (v := some (.int (1 : Int32))) (fun h => by rw [Bd.returns] at h; cases h)
              refine ⟨_, _, pre0 _ (S487 _ ?_), hrun, hended, _, _, rfl, ?_, hRW.1, hRW.2.1, hRW.2.2.1, hRW.2.2.2.mono (by decide) (by decide)⟩
              · exact retN X472 hx (t := .boolean) Bd.returns (by simp) (hb hby at_167) hr
              · show Q_rm_law Z p1 p2 p3 p4 p5 p6 zc fm h0 n0 _ T472.heap _
                rw [k479]
                exact ⟨rfl, N486⟩
            · have N488 := Fr.app N471 N481
              have S489 : ∀ t, Steps p.tables e below (T472.setTop (mkF m 167 #[.val (.int p1), .val (.int p2), .val (.int p3), .val (.int p4), .val (.int p5), .val (.int p6), .val (.ref x2), .val (.ref x21), .val (.ref x44), .val (.ref x71), .val (.ref x100), .val (.ref x133), .val (.ref b188), .val (.ref b233), .val (.int (((p6.toUInt32 >>> ((2 : Int32) &&& 31).toUInt32).toInt32) &&& (3 : Int32))), .val (.int (0 : Int32))] [(.int (1 : Int32))])) t → Steps p.tables e below (s₁.setTop (mkF m 0 #[.val (.int p1), .val (.int p2), .val (.int p3), .val (.int p4), .val (.int p5), .val (.int p6), .unset, .unset, .unset, .unset, .unset, .unset, .unset, .unset, .unset, .unset] [])) t := by
                intro t kt
                refine S298 t ?_
                refine XS.ifYes X287.here hx rfl (pc0 := 118) (pc' := 135) rfl (hb hby at_118) rfl ((if0 _ _).trans (teq ((own_eq0 c299) : (own_eqI (own_cs p1) (own_cs p3)) = (0 : Int32))).1) (by decide) (by decide) ?_
                refine XS.iconst X287.here hx rfl (hb hby at_135) ?_
                refine XS.istore X287.here hx rfl (hb hby at_136) rfl (l' := #[.val (.int p1), .val (.int p2), .val (.int p3), .val (.int p4), .val (.int p5), .val (.int p6), .val (.ref x2), .val (.ref x21), .val (.ref x44), .val (.ref x71), .val (.ref x100), .val (.ref x133), .val (.ref b188), .val (.ref b233), .val (.int (((p6.toUInt32 >>> ((2 : Int32) &&& 31).toUInt32).toInt32) &&& (3 : Int32))), .val (.int (0 : Int32))]) rfl ?_
                refine XS.aload X287.here hx rfl (hb hby at_138) rfl rfl ?_
                refine XS.aload X287.here hx rfl (hb hby at_140) rfl rfl ?_
                show Steps p.tables e below (T287.setTop (mkF m 142 #[.val (.int p1), .val (.int p2), .val (.int p3), .val (.int p4), .val (.int p5), .val (.int p6), .val (.ref x2), .val (.ref x21), .val (.ref x44), .val (.ref x71), .val (.ref x100), .val (.ref x133), .val (.ref b188), .val (.ref b233), .val (.int (((p6.toUInt32 >>> ((2 : Int32) &&& 31).toUInt32).toInt32) &&& (3 : Int32))), .val (.int (0 : Int32))] [(.ref b233), (.ref b188)])) _
                refine st404.trans ?_
                refine XS.iload X404.here hx rfl (hb hby at_145) rfl ?_
                refine XS.icmpNo X404.here hx rfl (hb hby at_147) rfl (teq ((by decide) : (0 : Int32) = (0 : Int32))).2 ?_
                refine XS.aload X404.here hx rfl (hb hby at_150) rfl rfl ?_
                refine XS.aload X404.here hx rfl (hb hby at_152) rfl rfl ?_
                show Steps p.tables e below (T404.setTop (mkF m 154 #[.val (.int p1), .val (.int p2), .val (.int p3), .val (.int p4), .val (.int p5), .val (.int p6), .val (.ref x2), .val (.ref x21), .val (.ref x44), .val (.ref x71), .val (.ref x100), .val (.ref x133), .val (.ref b188), .val (.ref b233), .val (.int (((p6.toUInt32 >>> ((2 : Int32) &&& 31).toUInt32).toInt32) &&& (3 : Int32))), .val (.int (0 : Int32))] [(.ref b188), (.ref b233)])) _
                refine st472.trans ?_
                refine XS.iload X472.here hx rfl (hb hby at_157) rfl ?_
                refine XS.icmpNo X472.here hx rfl (hb hby at_159) rfl (teq ((by decide) : (0 : Int32) = (0 : Int32))).2 ?_
                refine XS.iconst X472.here hx rfl (hb hby at_162) ?_
                refine XS.goto X472.here hx rfl (pc0 := 163) (pc' := 167) rfl (hb hby at_163) (by decide) (by decide) ?_
                exact kt
              obtain ⟨fs, hr, hrun, hended, hRW⟩ := X472.leaveW hS132 (by rw [k482]; exact hk283) (v := some (.int (1 : Int32))) (fun h => by rw [Bd.returns] at h; cases h)
              refine ⟨_, _, pre0 _ (S489 _ ?_), hrun, hended, _, _, rfl, ?_, hRW.1, hRW.2.1, hRW.2.2.1, hRW.2.2.2.mono (by decide) (by decide)⟩
              · exact retN X472 hx (t := .boolean) Bd.returns (by simp) (hb hby at_167) hr
              · show Q_rm_law Z p1 p2 p3 p4 p5 p6 zc fm h0 n0 _ T472.heap _
                rw [k482]
                exact ⟨rfl, N488⟩
            · have N490 := Fr.app N471 N484
              have S491 : ∀ t, Steps p.tables e below (T472.setTop (mkF m 167 #[.val (.int p1), .val (.int p2), .val (.int p3), .val (.int p4), .val (.int p5), .val (.int p6), .val (.ref x2), .val (.ref x21), .val (.ref x44), .val (.ref x71), .val (.ref x100), .val (.ref x133), .val (.ref b188), .val (.ref b233), .val (.int (((p6.toUInt32 >>> ((2 : Int32) &&& 31).toUInt32).toInt32) &&& (3 : Int32))), .val (.int (0 : Int32))] [(.int (1 : Int32))])) t → Steps p.tables e below (s₁.setTop (mkF m 0 #[.val (.int p1), .val (.int p2), .val (.int p3), .val (.int p4), .val (.int p5), .val (.int p6), .unset, .unset, .unset, .unset, .unset, .unset, .unset, .unset, .unset, .unset] [])) t := by
                intro t kt
                refine S298 t ?_
                refine XS.ifYes X287.here hx rfl (pc0 := 118) (pc' := 135) rfl (hb hby at_118) rfl ((if0 _ _).trans (teq ((own_eq0 c299) : (own_eqI (own_cs p1) (own_cs p3)) = (0 : Int32))).1) (by decide) (by decide) ?_
                refine XS.iconst X287.here hx rfl (hb hby at_135) ?_
                refine XS.istore X287.here hx rfl (hb hby at_136) rfl (l' := #[.val (.int p1), .val (.int p2), .val (.int p3), .val (.int p4), .val (.int p5), .val (.int p6), .val (.ref x2), .val (.ref x21), .val (.ref x44), .val (.ref x71), .val (.ref x100), .val (.ref x133), .val (.ref b188), .val (.ref b233), .val (.int (((p6.toUInt32 >>> ((2 : Int32) &&& 31).toUInt32).toInt32) &&& (3 : Int32))), .val (.int (0 : Int32))]) rfl ?_
                refine XS.aload X287.here hx rfl (hb hby at_138) rfl rfl ?_
                refine XS.aload X287.here hx rfl (hb hby at_140) rfl rfl ?_
                show Steps p.tables e below (T287.setTop (mkF m 142 #[.val (.int p1), .val (.int p2), .val (.int p3), .val (.int p4), .val (.int p5), .val (.int p6), .val (.ref x2), .val (.ref x21), .val (.ref x44), .val (.ref x71), .val (.ref x100), .val (.ref x133), .val (.ref b188), .val (.ref b233), .val (.int (((p6.toUInt32 >>> ((2 : Int32) &&& 31).toUInt32).toInt32) &&& (3 : Int32))), .val (.int (0 : Int32))] [(.ref b233), (.ref b188)])) _
                refine st404.trans ?_
                refine XS.iload X404.here hx rfl (hb hby at_145) rfl ?_
                refine XS.icmpNo X404.here hx rfl (hb hby at_147) rfl (teq ((by decide) : (0 : Int32) = (0 : Int32))).2 ?_
                refine XS.aload X404.here hx rfl (hb hby at_150) rfl rfl ?_
                refine XS.aload X404.here hx rfl (hb hby at_152) rfl rfl ?_
                show Steps p.tables e below (T404.setTop (mkF m 154 #[.val (.int p1), .val (.int p2), .val (.int p3), .val (.int p4), .val (.int p5), .val (.int p6), .val (.ref x2), .val (.ref x21), .val (.ref x44), .val (.ref x71), .val (.ref x100), .val (.ref x133), .val (.ref b188), .val (.ref b233), .val (.int (((p6.toUInt32 >>> ((2 : Int32) &&& 31).toUInt32).toInt32) &&& (3 : Int32))), .val (.int (0 : Int32))] [(.ref b188), (.ref b233)])) _
                refine st472.trans ?_
                refine XS.iload X472.here hx rfl (hb hby at_157) rfl ?_
                refine XS.icmpNo X472.here hx rfl (hb hby at_159) rfl (teq ((by decide) : (0 : Int32) = (0 : Int32))).2 ?_
                refine XS.iconst X472.here hx rfl (hb hby at_162) ?_
                refine XS.goto X472.here hx rfl (pc0 := 163) (pc' := 167) rfl (hb hby at_163) (by decide) (by decide) ?_
                exact kt
              obtain ⟨fs, hr, hrun, hended, hRW⟩ := X472.leaveW hS132 (by rw [k485]; exact hk283) (v := some (.int (1 : Int32))) (fun h => by rw [Bd.returns] at h; cases h)
              refine ⟨_, _, pre0 _ (S491 _ ?_), hrun, hended, _, _, rfl, ?_, hRW.1, hRW.2.1, hRW.2.2.1, hRW.2.2.2.mono (by decide) (by decide)⟩
              · exact retN X472 hx (t := .boolean) Bd.returns (by simp) (hb hby at_167) hr
              · show Q_rm_law Z p1 p2 p3 p4 p5 p6 zc fm h0 n0 _ T472.heap _
                rw [k485]
                exact ⟨rfl, N490⟩
      · have S492 : ∀ t, Steps p.tables e below (T255.setTop (mkF m 171 #[.val (.int p1), .val (.int p2), .val (.int p3), .val (.int p4), .val (.int p5), .val (.int p6), .val (.ref x2), .val (.ref x21), .val (.ref x44), .val (.ref x71), .val (.ref x100), .val (.ref x133), .val (.ref b188), .val (.ref b233), .val (.int (((p6.toUInt32 >>> ((2 : Int32) &&& 31).toUInt32).toInt32) &&& (3 : Int32))), .unset] [(.int (1 : Int32)), (.int (((p6.toUInt32 >>> ((2 : Int32) &&& 31).toUInt32).toInt32) &&& (3 : Int32)))])) t → Steps p.tables e below (s₁.setTop (mkF m 0 #[.val (.int p1), .val (.int p2), .val (.int p3), .val (.int p4), .val (.int p5), .val (.int p6), .unset, .unset, .unset, .unset, .unset, .unset, .unset, .unset, .unset, .unset] [])) t := by
          intro t kt
          refine S285 t ?_
          refine XS.ifYes X255.here hx rfl (pc0 := 108) (pc' := 168) rfl (hb hby at_108) rfl ((if0 _ _).trans (feq (c286 : ¬ ((((p6.toUInt32 >>> ((2 : Int32) &&& 31).toUInt32).toInt32) &&& (3 : Int32)) = (0 : Int32)))).2) (by decide) (by decide) ?_
          refine XS.iload X255.here hx rfl (hb hby at_168) rfl ?_
          refine XS.iconst X255.here hx rfl (hb hby at_170) ?_
          exact kt
        rcases Decidable.em ((((p6.toUInt32 >>> ((2 : Int32) &&& 31).toUInt32).toInt32) &&& (3 : Int32)) = (1 : Int32)) with c493 | c493
        · have f495 := (Exa.keep (Exa.ext E233 f220) k271)
          obtain ⟨cq494, kq494, q494a, q494b, q494c⟩ := isOf hZ132 rfl f495
          obtain ⟨_, _, ⟨T494, L494, k494, n494⟩, -, X494, ⟨Lc494, hQ494, l494, y494, z494⟩, st494⟩ := X255.virtualBack hx (y := (⟨"com/example/typecheck/typecheck/model/QName", "equals", "(Ljava/lang/Object;)Z"⟩ : MethodName)) (z := (⟨"com/example/typecheck/typecheck/model/QName", "equals", "(Ljava/lang/Object;)Z"⟩ : MethodName)) ho132 (mvT hZ132 (own_w hw 73 rfl)) (mvT hZ132 (own_w hw 74 rfl)) (notFace_of_selects (args := #[]) (mvT hZ132 (own_w hw 76 rfl))) (mvT hZ132 (own_w hw 76 rfl)) (mvT hZ132 (own_w hw 75 rfl)) (by decide) (backOf (W := 0) (rm_qeqs l Z a0 hw [] b188 T255.heap n0 O284 ) hZ132 (own_w hw 77 rfl) (own_w hw 28 rfl) (by decide) (by decide)) q494a q494c (g := (mkF m 178 #[.val (.int p1), .val (.int p2), .val (.int p3), .val (.int p4), .val (.int p5), .val (.int p6), .val (.ref x2), .val (.ref x21), .val (.ref x44), .val (.ref x71), .val (.ref x100), .val (.ref x133), .val (.ref b188), .val (.ref b233), .val (.int (((p6.toUInt32 >>> ((2 : Int32) &&& 31).toUInt32).toInt32) &&& (3 : Int32))), .unset] [(.ref b188), (.ref b188)])) rfl (by rw [hml]; rfl) (Steps.refl _) (argsL := [(.ref b188)]) (rest := []) (lenOf pd_11 rfl) rfl (by show 2 * 0 + _ ≤ _; exact Nat.le_of_eq rfl) (hb hby at_178) (fun _ _ => ⟨rfl, rfl, (by decide : 38 + 0 ≤ _), (by decide : 80 + 0 ≤ _)⟩)
          dsimp only [Pt.U, Pt.locs, Pt.cells, Pt.slots] at X494 l494 y494 z494 st494 hQ494
          subst l494 y494 z494
          obtain ⟨rfl, N496, k497⟩ := hQ494
          have N498 := Fr.app N282 N496
          have S499 : ∀ t, Steps p.tables e below (T494.setTop (mkF m 181 #[.val (.int p1), .val (.int p2), .val (.int p3), .val (.int p4), .val (.int p5), .val (.int p6), .val (.ref x2), .val (.ref x21), .val (.ref x44), .val (.ref x71), .val (.ref x100), .val (.ref x133), .val (.ref b188), .val (.ref b233), .val (.int (((p6.toUInt32 >>> ((2 : Int32) &&& 31).toUInt32).toInt32) &&& (3 : Int32))), .unset] [(.int (1 : Int32))])) t → Steps p.tables e below (s₁.setTop (mkF m 0 #[.val (.int p1), .val (.int p2), .val (.int p3), .val (.int p4), .val (.int p5), .val (.int p6), .unset, .unset, .unset, .unset, .unset, .unset, .unset, .unset, .unset, .unset] [])) t := by
            intro t kt
            refine S492 t ?_
            refine XS.icmpNo X255.here hx rfl (hb hby at_171) rfl (teq (c493 : (((p6.toUInt32 >>> ((2 : Int32) &&& 31).toUInt32).toInt32) &&& (3 : Int32)) = (1 : Int32))).2 ?_
            refine XS.aload X255.here hx rfl (hb hby at_174) rfl rfl ?_
            refine XS.aload X255.here hx rfl (hb hby at_176) rfl rfl ?_
            show Steps p.tables e below (T255.setTop (mkF m 178 #[.val (.int p1), .val (.int p2), .val (.int p3), .val (.int p4), .val (.int p5), .val (.int p6), .val (.ref x2), .val (.ref x21), .val (.ref x44), .val (.ref x71), .val (.ref x100), .val (.ref x133), .val (.ref b188), .val (.ref b233), .val (.int (((p6.toUInt32 >>> ((2 : Int32) &&& 31).toUInt32).toInt32) &&& (3 : Int32))), .unset] [(.ref b188), (.ref b188)])) _
            refine st494.trans ?_
            exact kt
          obtain ⟨fs, hr, hrun, hended, hRW⟩ := X494.leaveW hS132 (by rw [k497]; exact hk283) (v := some (.int (1 : Int32))) (fun h => by rw [Bd.returns] at h; cases h)
          refine ⟨_, _, pre0 _ (S499 _ ?_), hrun, hended, _, _, rfl, ?_, hRW.1, hRW.2.1, hRW.2.2.1, hRW.2.2.2.mono (by decide) (by decide)⟩
          · exact retN X494 hx (t := .boolean) Bd.returns (by simp) (hb hby at_181) hr
          · show Q_rm_law Z p1 p2 p3 p4 p5 p6 zc fm h0 n0 _ T494.heap _
            rw [k497]
            exact ⟨rfl, N498⟩
        · have S500 : ∀ t, Steps p.tables e below (T255.setTop (mkF m 185 #[.val (.int p1), .val (.int p2), .val (.int p3), .val (.int p4), .val (.int p5), .val (.int p6), .val (.ref x2), .val (.ref x21), .val (.ref x44), .val (.ref x71), .val (.ref x100), .val (.ref x133), .val (.ref b188), .val (.ref b233), .val (.int (((p6.toUInt32 >>> ((2 : Int32) &&& 31).toUInt32).toInt32) &&& (3 : Int32))), .unset] [(.int (2 : Int32)), (.int (((p6.toUInt32 >>> ((2 : Int32) &&& 31).toUInt32).toInt32) &&& (3 : Int32)))])) t → Steps p.tables e below (s₁.setTop (mkF m 0 #[.val (.int p1), .val (.int p2), .val (.int p3), .val (.int p4), .val (.int p5), .val (.int p6), .unset, .unset, .unset, .unset, .unset, .unset, .unset, .unset, .unset, .unset] [])) t := by
            intro t kt
            refine S492 t ?_
            refine XS.icmpYes X255.here hx rfl (pc0 := 171) (pc' := 182) rfl (hb hby at_171) rfl (feq (c493 : ¬ ((((p6.toUInt32 >>> ((2 : Int32) &&& 31).toUInt32).toInt32) &&& (3 : Int32)) = (1 : Int32)))).2 (by decide) (by decide) ?_
            refine XS.iload X255.here hx rfl (hb hby at_182) rfl ?_
            refine XS.iconst X255.here hx rfl (hb hby at_184) ?_
            exact kt
          rcases Decidable.em ((((p6.toUInt32 >>> ((2 : Int32) &&& 31).toUInt32).toInt32) &&& (3 : Int32)) = (2 : Int32)) with c501 | c501
          · have f503 := (Exa.keep (Exa.ext E233 f220) k271)
            obtain ⟨cq502, kq502, q502a, q502b, q502c⟩ := isOf hZ132 rfl f503
            obtain ⟨_, _, ⟨T502, L502, k502, n502⟩, -, X502, ⟨Lc502, hQ502, l502, y502, z502⟩, st502⟩ := X255.virtualBack hx (y := (⟨"com/example/typecheck/typecheck/model/QName", "equals", "(Ljava/lang/Object;)Z"⟩ : MethodName)) (z := (⟨"com/example/typecheck/typecheck/model/QName", "equals", "(Ljava/lang/Object;)Z"⟩ : MethodName)) ho132 (mvT hZ132 (own_w hw 73 rfl)) (mvT hZ132 (own_w hw 74 rfl)) (notFace_of_selects (args := #[]) (mvT hZ132 (own_w hw 76 rfl))) (mvT hZ132 (own_w hw 76 rfl)) (mvT hZ132 (own_w hw 75 rfl)) (by decide) (backOf (W := 0) (rm_qeqn l Z a0 hw [] b188 T255.heap n0 O284 ) hZ132 (own_w hw 77 rfl) (own_w hw 28 rfl) (by decide) (by decide)) q502a q502c (g := (mkF m 191 #[.val (.int p1), .val (.int p2), .val (.int p3), .val (.int p4), .val (.int p5), .val (.int p6), .val (.ref x2), .val (.ref x21), .val (.ref x44), .val (.ref x71), .val (.ref x100), .val (.ref x133), .val (.ref b188), .val (.ref b233), .val (.int (((p6.toUInt32 >>> ((2 : Int32) &&& 31).toUInt32).toInt32) &&& (3 : Int32))), .unset] [.null, (.ref b188)])) rfl (by rw [hml]; rfl) (Steps.refl _) (argsL := [.null]) (rest := []) (lenOf pd_11 rfl) rfl (by show 2 * 0 + _ ≤ _; exact Nat.le_of_eq rfl) (hb hby at_191) (fun _ _ => ⟨rfl, rfl, (by decide : 38 + 0 ≤ _), (by decide : 80 + 0 ≤ _)⟩)
            dsimp only [Pt.U, Pt.locs, Pt.cells, Pt.slots] at X502 l502 y502 z502 st502 hQ502
            subst l502 y502 z502
            obtain ⟨rfl, N504, k505⟩ := hQ502
            have N506 := Fr.app N282 N504
            have S507 : ∀ t, Steps p.tables e below (T502.setTop (mkF m 202 #[.val (.int p1), .val (.int p2), .val (.int p3), .val (.int p4), .val (.int p5), .val (.int p6), .val (.ref x2), .val (.ref x21), .val (.ref x44), .val (.ref x71), .val (.ref x100), .val (.ref x133), .val (.ref b188), .val (.ref b233), .val (.int (((p6.toUInt32 >>> ((2 : Int32) &&& 31).toUInt32).toInt32) &&& (3 : Int32))), .unset] [(.int (1 : Int32))])) t → Steps p.tables e below (s₁.setTop (mkF m 0 #[.val (.int p1), .val (.int p2), .val (.int p3), .val (.int p4), .val (.int p5), .val (.int p6), .unset, .unset, .unset, .unset, .unset, .unset, .unset, .unset, .unset, .unset] [])) t := by
              intro t kt
              refine S500 t ?_
              refine XS.icmpNo X255.here hx rfl (hb hby at_185) rfl (teq (c501 : (((p6.toUInt32 >>> ((2 : Int32) &&& 31).toUInt32).toInt32) &&& (3 : Int32)) = (2 : Int32))).2 ?_
              refine XS.aload X255.here hx rfl (hb hby at_188) rfl rfl ?_
              refine XS.aconstNull X255.here hx rfl (hb hby at_190) ?_
              show Steps p.tables e below (T255.setTop (mkF m 191 #[.val (.int p1), .val (.int p2), .val (.int p3), .val (.int p4), .val (.int p5), .val (.int p6), .val (.ref x2), .val (.ref x21), .val (.ref x44), .val (.ref x71), .val (.ref x100), .val (.ref x133), .val (.ref b188), .val (.ref b233), .val (.int (((p6.toUInt32 >>> ((2 : Int32) &&& 31).toUInt32).toInt32) &&& (3 : Int32))), .unset] [.null, (.ref b188)])) _
              refine st502.trans ?_
              refine XS.ifNo X502.here hx rfl (hb hby at_194) rfl ((if0 _ _).trans (teq ((by decide) : (0 : Int32) = (0 : Int32))).2) ?_
              refine XS.iconst X502.here hx rfl (hb hby at_197) ?_
              refine XS.goto X502.here hx rfl (pc0 := 198) (pc' := 202) rfl (hb hby at_198) (by decide) (by decide) ?_
              exact kt
            obtain ⟨fs, hr, hrun, hended, hRW⟩ := X502.leaveW hS132 (by rw [k505]; exact hk283) (v := some (.int (1 : Int32))) (fun h => by rw [Bd.returns] at h; cases h)
            refine ⟨_, _, pre0 _ (S507 _ ?_), hrun, hended, _, _, rfl, ?_, hRW.1, hRW.2.1, hRW.2.2.1, hRW.2.2.2.mono (by decide) (by decide)⟩
            · exact retN X502 hx (t := .boolean) Bd.returns (by simp) (hb hby at_202) hr
            · show Q_rm_law Z p1 p2 p3 p4 p5 p6 zc fm h0 n0 _ T502.heap _
              rw [k505]
              exact ⟨rfl, N506⟩
          · have f509 := (Exa.keep (Exa.ext E233 f220) k271)
            have f510 := (Exa.keep (Exa.ext E233 f227) k271)
            obtain ⟨cq508, kq508, q508a, q508b, q508c⟩ := isOf hZ132 rfl f509
            obtain ⟨_, _, ⟨T508, L508, k508, n508⟩, -, X508, ⟨Lc508, hQ508, l508, y508, z508⟩, st508⟩ := X255.virtualBack hx (y := (⟨"com/example/typecheck/typecheck/model/QName", "equals", "(Ljava/lang/Object;)Z"⟩ : MethodName)) (z := (⟨"com/example/typecheck/typecheck/model/QName", "equals", "(Ljava/lang/Object;)Z"⟩ : MethodName)) ho132 (mvT hZ132 (own_w hw 73 rfl)) (mvT hZ132 (own_w hw 74 rfl)) (notFace_of_selects (args := #[]) (mvT hZ132 (own_w hw 76 rfl))) (mvT hZ132 (own_w hw 76 rfl)) (mvT hZ132 (own_w hw 75 rfl)) (by decide) (backOf (W := 0) (rm_qeqt l Z a0 hw [] b188 x21 T255.heap n0 O284 f509 f510) hZ132 (own_w hw 77 rfl) (own_w hw 28 rfl) (by decide) (by decide)) q508a q508c (g := (mkF m 211 #[.val (.int p1), .val (.int p2), .val (.int p3), .val (.int p4), .val (.int p5), .val (.int p6), .val (.ref x2), .val (.ref x21), .val (.ref x44), .val (.ref x71), .val (.ref x100), .val (.ref x133), .val (.ref b188), .val (.ref b233), .val (.int (((p6.toUInt32 >>> ((2 : Int32) &&& 31).toUInt32).toInt32) &&& (3 : Int32))), .val (.ref x21)] [(.ref x21), (.ref b188)])) rfl (by rw [hml]; rfl) (Steps.refl _) (argsL := [(.ref x21)]) (rest := []) (lenOf pd_11 rfl) rfl (by show 2 * 0 + _ ≤ _; exact Nat.le_of_eq rfl) (hb hby at_211) (fun _ _ => ⟨rfl, rfl, (by decide : 38 + 0 ≤ _), (by decide : 80 + 0 ≤ _)⟩)
            dsimp only [Pt.U, Pt.locs, Pt.cells, Pt.slots] at X508 l508 y508 z508 st508 hQ508
            subst l508 y508 z508
            obtain ⟨rfl, N511, k512⟩ := hQ508
            have N513 := Fr.app N282 N511
            have S514 : ∀ t, Steps p.tables e below (T508.setTop (mkF m 222 #[.val (.int p1), .val (.int p2), .val (.int p3), .val (.int p4), .val (.int p5), .val (.int p6), .val (.ref x2), .val (.ref x21), .val (.ref x44), .val (.ref x71), .val (.ref x100), .val (.ref x133), .val (.ref b188), .val (.ref b233), .val (.int (((p6.toUInt32 >>> ((2 : Int32) &&& 31).toUInt32).toInt32) &&& (3 : Int32))), .val (.ref x21)] [(.int (1 : Int32))])) t → Steps p.tables e below (s₁.setTop (mkF m 0 #[.val (.int p1), .val (.int p2), .val (.int p3), .val (.int p4), .val (.int p5), .val (.int p6), .unset, .unset, .unset, .unset, .unset, .unset, .unset, .unset, .unset, .unset] [])) t := by
              intro t kt
              refine S500 t ?_
              refine XS.icmpYes X255.here hx rfl (pc0 := 185) (pc' := 203) rfl (hb hby at_185) rfl (feq (c501 : ¬ ((((p6.toUInt32 >>> ((2 : Int32) &&& 31).toUInt32).toInt32) &&& (3 : Int32)) = (2 : Int32)))).2 (by decide) (by decide) ?_
              refine XS.aload X255.here hx rfl (hb hby at_203) rfl rfl ?_
              refine XS.astore X255.here hx rfl (hb hby at_205) rfl rfl (l' := #[.val (.int p1), .val (.int p2), .val (.int p3), .val (.int p4), .val (.int p5), .val (.int p6), .val (.ref x2), .val (.ref x21), .val (.ref x44), .val (.ref x71), .val (.ref x100), .val (.ref x133), .val (.ref b188), .val (.ref b233), .val (.int (((p6.toUInt32 >>> ((2 : Int32) &&& 31).toUInt32).toInt32) &&& (3 : Int32))), .val (.ref x21)]) rfl ?_
              refine XS.aload X255.here hx rfl (hb hby at_207) rfl rfl ?_
              refine XS.aload X255.here hx rfl (hb hby at_209) rfl rfl ?_
              show Steps p.tables e below (T255.setTop (mkF m 211 #[.val (.int p1), .val (.int p2), .val (.int p3), .val (.int p4), .val (.int p5), .val (.int p6), .val (.ref x2), .val (.ref x21), .val (.ref x44), .val (.ref x71), .val (.ref x100), .val (.ref x133), .val (.ref b188), .val (.ref b233), .val (.int (((p6.toUInt32 >>> ((2 : Int32) &&& 31).toUInt32).toInt32) &&& (3 : Int32))), .val (.ref x21)] [(.ref x21), (.ref b188)])) _
              refine st508.trans ?_
              refine XS.ifNo X508.here hx rfl (hb hby at_214) rfl ((if0 _ _).trans (teq ((by decide) : (0 : Int32) = (0 : Int32))).2) ?_
              refine XS.iconst X508.here hx rfl (hb hby at_217) ?_
              refine XS.goto X508.here hx rfl (pc0 := 218) (pc' := 222) rfl (hb hby at_218) (by decide) (by decide) ?_
              exact kt
            obtain ⟨fs, hr, hrun, hended, hRW⟩ := X508.leaveW hS132 (by rw [k512]; exact hk283) (v := some (.int (1 : Int32))) (fun h => by rw [Bd.returns] at h; cases h)
            refine ⟨_, _, pre0 _ (S514 _ ?_), hrun, hended, _, _, rfl, ?_, hRW.1, hRW.2.1, hRW.2.2.1, hRW.2.2.2.mono (by decide) (by decide)⟩
            · exact retN X508 hx (t := .boolean) Bd.returns (by simp) (hb hby at_222) hr
            · show Q_rm_law Z p1 p2 p3 p4 p5 p6 zc fm h0 n0 _ T508.heap _
              rw [k512]
              exact ⟨rfl, N513⟩
    · obtain ⟨_, _, ⟨T515, L515, k515, n515⟩, -, Xq515, hSq515, hgq515, ⟨Lc515, hQ515, l515, y515, z515, C515⟩, st515⟩ := callSS X43 hx (y := (⟨"com/example/typecheck/typecheck/model/QNameEqualsPinLaw", "str", "(I)Ljava/lang/String;"⟩ : MethodName)) ho43 (mvT hZ43 (own_w hw 0 rfl)) (mvT hZ43 (own_w hw 1 rfl)) (mvT hZ43 (own_w hw 2 rfl)) (mvT hZ43 (own_w hw 3 rfl)) (by decide) (own_backS (W := 0) (rm := ({ frames := 4, cells := 6, slots := 12, locals := 66 } : Room)) (xs := []) (rm_str l Z a0 hw [] p2 zc T43.heap n0 O67 S_C hzc) hZ43 (own_w hw 3 rfl) (own_w hw 2 rfl) (by decide) (by decide) own_ew CR65.1 all0) (g := (mkF m 40 #[.val (.int p1), .val (.int p2), .val (.int p3), .val (.int p4), .val (.int p5), .val (.int p6), .val (.ref x2), .val (.ref x21), .val (.ref x44), .unset, .unset, .unset, .unset, .unset, .unset, .unset] [(.int p2)])) rfl (by rw [hml]; rfl) (argsL := [(.int p2)]) (rest := []) (lenOf pd_12 rfl) rfl (by show 2 * 0 + _ ≤ _; exact Nat.le_of_eq rfl) (hb hby at_40) (fun _ _ => ⟨rfl, rfl, (by decide : 18 + 6 ≤ _), (by decide : 36 + 12 ≤ _)⟩)
      dsimp only [Pt.U, Pt.locs, Pt.cells, Pt.slots] at Xq515 hSq515 hgq515 l515 y515 z515 st515 hQ515 C515
      obtain ⟨X515, hS515, hZ515, ho515⟩ := rebS hS43 (by exact hk66) Xq515 hSq515 hgq515 hZ43 ho43
      subst l515 y515 z515
      obtain ⟨x516, x517, x518, rfl, N519, k520, f521, f522, f523, f524, f525, f526, f527, f528⟩ := hQ515
      have N529 := Fr.app N57 N519
      have ge530 : n0 ≤ x516 := by rw [← O67.1]; exact Nat.le_trans O67.2.1 f521
      have f531 := (Exa.keep f59 k48)
      have ne532 : x2 ≠ x516 := Nat.ne_of_lt (Nat.lt_of_lt_of_le (Exa.lt f531) f521)
      have f533 := (Arv.keep f61 k48 nin0)
      have ne534 : x3 ≠ x516 := Nat.ne_of_lt (Nat.lt_of_lt_of_le (Arv.lt f533) f521)
      have f535 := (Exa.keep f27 k48)
      have ne536 : x21 ≠ x516 := Nat.ne_of_lt (Nat.lt_of_lt_of_le (Exa.lt f535) f521)
      have f537 := (Arv.keep f31 k48 nin0)
      have ne538 : x22 ≠ x516 := Nat.ne_of_lt (Nat.lt_of_lt_of_le (Arv.lt f537) f521)
      have ne539 : x44 ≠ x516 := Nat.ne_of_lt (Nat.lt_of_lt_of_le (Exa.lt f50) f521)
      have ne540 : x45 ≠ x516 := Nat.ne_of_lt (Nat.lt_of_lt_of_le (Arv.lt f54) f521)
      have CR541 := CR65.trans C515
      have hk542 : T515.heap.size ≤ T515.heap.size := Nat.le_refl _
      have O543 := O67.keep k520 all0
      obtain ⟨_, _, ⟨T544, L544, k544, n544⟩, -, Xq544, hSq544, hgq544, ⟨Lc544, hQ544, l544, y544, z544, C544⟩, st544⟩ := callSS X515 hx (y := (⟨"com/example/typecheck/typecheck/model/QNameEqualsPinLaw", "str", "(I)Ljava/lang/String;"⟩ : MethodName)) ho515 (mvT hZ515 (own_w hw 0 rfl)) (mvT hZ515 (own_w hw 1 rfl)) (mvT hZ515 (own_w hw 2 rfl)) (mvT hZ515 (own_w hw 3 rfl)) (by decide) (own_backS (W := 0) (rm := ({ frames := 4, cells := 6, slots := 12, locals := 66 } : Room)) (xs := []) (rm_str l Z a0 hw [] p5 zc T515.heap n0 O543 S_C hzc) hZ515 (own_w hw 3 rfl) (own_w hw 2 rfl) (by decide) (by decide) own_ew CR541.1 all0) (g := (mkF m 54 #[.val (.int p1), .val (.int p2), .val (.int p3), .val (.int p4), .val (.int p5), .val (.int p6), .val (.ref x2), .val (.ref x21), .val (.ref x44), .val (.ref x516), .unset, .unset, .unset, .unset, .unset, .unset] [(.int p5)])) rfl (by rw [hml]; rfl) (argsL := [(.int p5)]) (rest := []) (lenOf pd_12 rfl) rfl (by show 2 * 0 + _ ≤ _; exact Nat.le_of_eq rfl) (hb hby at_54) (fun _ _ => ⟨rfl, rfl, (by decide : 24 + 6 ≤ _), (by decide : 48 + 12 ≤ _)⟩)
      dsimp only [Pt.U, Pt.locs, Pt.cells, Pt.slots] at Xq544 hSq544 hgq544 l544 y544 z544 st544 hQ544 C544
      obtain ⟨X544, hS544, hZ544, ho544⟩ := rebS hS515 (by exact hk542) Xq544 hSq544 hgq544 hZ515 ho515
      subst l544 y544 z544
      obtain ⟨x545, x546, x547, rfl, N548, k549, f550, f551, f552, f553, f554, f555, f556, f557⟩ := hQ544
      have N558 := Fr.app N529 N548
      have ge559 : n0 ≤ x545 := by rw [← O543.1]; exact Nat.le_trans O543.2.1 f550
      have f560 := (Exa.keep f531 k520)
      have ne561 : x2 ≠ x545 := Nat.ne_of_lt (Nat.lt_of_lt_of_le (Exa.lt f560) f550)
      have f562 := (Arv.keep f533 k520 nin0)
      have ne563 : x3 ≠ x545 := Nat.ne_of_lt (Nat.lt_of_lt_of_le (Arv.lt f562) f550)
      have f564 := (Exa.keep f535 k520)
      have ne565 : x21 ≠ x545 := Nat.ne_of_lt (Nat.lt_of_lt_of_le (Exa.lt f564) f550)
      have f566 := (Arv.keep f537 k520 nin0)
      have ne567 : x22 ≠ x545 := Nat.ne_of_lt (Nat.lt_of_lt_of_le (Arv.lt f566) f550)
      have f568 := (Exa.keep f50 k520)
      have ne569 : x44 ≠ x545 := Nat.ne_of_lt (Nat.lt_of_lt_of_le (Exa.lt f568) f550)
      have f570 := (Arv.keep f54 k520 nin0)
      have ne571 : x45 ≠ x545 := Nat.ne_of_lt (Nat.lt_of_lt_of_le (Arv.lt f570) f550)
      have ne572 : x516 ≠ x545 := Nat.ne_of_lt (Nat.lt_of_lt_of_le (Exa.lt f522) f550)
      have ne573 : x517 ≠ x545 := Nat.ne_of_lt (Nat.lt_of_lt_of_le (Arv.lt f526) f550)
      have CR574 := CR541.trans C544
      have hk575 : T544.heap.size ≤ T544.heap.size := Nat.le_refl _
      have O576 := O543.keep k549 all0
      obtain ⟨_, _, ⟨T577, L577, k577, n577⟩, -, Xq577, hSq577, hgq577, ⟨Lc577, hQ577, l577, y577, z577, C577⟩, st577⟩ := callSS X544 hx (y := (⟨"com/example/typecheck/typecheck/model/QNameEqualsPinLaw", "str", "(I)Ljava/lang/String;"⟩ : MethodName)) ho544 (mvT hZ544 (own_w hw 0 rfl)) (mvT hZ544 (own_w hw 1 rfl)) (mvT hZ544 (own_w hw 2 rfl)) (mvT hZ544 (own_w hw 3 rfl)) (by decide) (own_backS (W := 0) (rm := ({ frames := 4, cells := 6, slots := 12, locals := 66 } : Room)) (xs := []) (rm_str l Z a0 hw [] ((p6.toUInt32 >>> ((4 : Int32) &&& 31).toUInt32).toInt32) zc T544.heap n0 O576 S_C hzc) hZ544 (own_w hw 3 rfl) (own_w hw 2 rfl) (by decide) (by decide) own_ew CR574.1 all0) (g := (mkF m 63 #[.val (.int p1), .val (.int p2), .val (.int p3), .val (.int p4), .val (.int p5), .val (.int p6), .val (.ref x2), .val (.ref x21), .val (.ref x44), .val (.ref x516), .val (.ref x545), .unset, .unset, .unset, .unset, .unset] [(.int ((p6.toUInt32 >>> ((4 : Int32) &&& 31).toUInt32).toInt32))])) rfl (by rw [hml]; rfl) (argsL := [(.int ((p6.toUInt32 >>> ((4 : Int32) &&& 31).toUInt32).toInt32))]) (rest := []) (lenOf pd_12 rfl) rfl (by show 2 * 0 + _ ≤ _; exact Nat.le_of_eq rfl) (hb hby at_63) (fun _ _ => ⟨rfl, rfl, (by decide : 30 + 6 ≤ _), (by decide : 60 + 12 ≤ _)⟩)
      dsimp only [Pt.U, Pt.locs, Pt.cells, Pt.slots] at Xq577 hSq577 hgq577 l577 y577 z577 st577 hQ577 C577
      obtain ⟨X577, hS577, hZ577, ho577⟩ := rebS hS544 (by exact hk575) Xq577 hSq577 hgq577 hZ544 ho544
      subst l577 y577 z577
      obtain ⟨x578, x579, x580, rfl, N581, k582, f583, f584, f585, f586, f587, f588, f589, f590⟩ := hQ577
      have N591 := Fr.app N558 N581
      have ge592 : n0 ≤ x578 := by rw [← O576.1]; exact Nat.le_trans O576.2.1 f583
      have f593 := (Exa.keep f560 k549)
      have ne594 : x2 ≠ x578 := Nat.ne_of_lt (Nat.lt_of_lt_of_le (Exa.lt f593) f583)
      have f595 := (Arv.keep f562 k549 nin0)
      have ne596 : x3 ≠ x578 := Nat.ne_of_lt (Nat.lt_of_lt_of_le (Arv.lt f595) f583)
      have f597 := (Exa.keep f564 k549)
      have ne598 : x21 ≠ x578 := Nat.ne_of_lt (Nat.lt_of_lt_of_le (Exa.lt f597) f583)
      have f599 := (Arv.keep f566 k549 nin0)
      have ne600 : x22 ≠ x578 := Nat.ne_of_lt (Nat.lt_of_lt_of_le (Arv.lt f599) f583)
      have f601 := (Exa.keep f568 k549)
      have ne602 : x44 ≠ x578 := Nat.ne_of_lt (Nat.lt_of_lt_of_le (Exa.lt f601) f583)
      have f603 := (Arv.keep f570 k549 nin0)
      have ne604 : x45 ≠ x578 := Nat.ne_of_lt (Nat.lt_of_lt_of_le (Arv.lt f603) f583)
      have f605 := (Exa.keep f522 k549)
      have ne606 : x516 ≠ x578 := Nat.ne_of_lt (Nat.lt_of_lt_of_le (Exa.lt f605) f583)
      have f607 := (Arv.keep f526 k549 nin0)
      have ne608 : x517 ≠ x578 := Nat.ne_of_lt (Nat.lt_of_lt_of_le (Arv.lt f607) f583)
      have ne609 : x545 ≠ x578 := Nat.ne_of_lt (Nat.lt_of_lt_of_le (Exa.lt f551) f583)
      have ne610 : x546 ≠ x578 := Nat.ne_of_lt (Nat.lt_of_lt_of_le (Arv.lt f555) f583)
      have CR611 := CR574.trans C577
      have hk612 : T577.heap.size ≤ T577.heap.size := Nat.le_refl _
      have O613 := O576.keep k582 all0
      have S614 : ∀ t, Steps p.tables e below (T577.setTop (mkF m 68 #[.val (.int p1), .val (.int p2), .val (.int p3), .val (.int p4), .val (.int p5), .val (.int p6), .val (.ref x2), .val (.ref x21), .val (.ref x44), .val (.ref x516), .val (.ref x545), .val (.ref x578), .unset, .unset, .unset, .unset] [])) t → Steps p.tables e below (s₁.setTop (mkF m 0 #[.val (.int p1), .val (.int p2), .val (.int p3), .val (.int p4), .val (.int p5), .val (.int p6), .unset, .unset, .unset, .unset, .unset, .unset, .unset, .unset, .unset, .unset] [])) t := by
        intro t kt
        refine S68 t ?_
        refine XS.ifNo X43.here hx rfl (hb hby at_36) rfl ((if0 _ _).trans (feq (c69 : ¬ ((p6 &&& (2 : Int32)) = (0 : Int32)))).1) ?_
        refine XS.iloadN X43.here hx rfl (hb hby at_39) rfl ?_
        show Steps p.tables e below (T43.setTop (mkF m 40 #[.val (.int p1), .val (.int p2), .val (.int p3), .val (.int p4), .val (.int p5), .val (.int p6), .val (.ref x2), .val (.ref x21), .val (.ref x44), .unset, .unset, .unset, .unset, .unset, .unset, .unset] [(.int p2)])) _
        refine st515.trans ?_
        refine XS.goto X515.here hx rfl (pc0 := 43) (pc' := 50) rfl (hb hby at_43) (by decide) (by decide) ?_
        refine XS.astore X515.here hx rfl (hb hby at_50) rfl rfl (l' := #[.val (.int p1), .val (.int p2), .val (.int p3), .val (.int p4), .val (.int p5), .val (.int p6), .val (.ref x2), .val (.ref x21), .val (.ref x44), .val (.ref x516), .unset, .unset, .unset, .unset, .unset, .unset]) rfl ?_
        refine XS.iload X515.here hx rfl (hb hby at_52) rfl ?_
        show Steps p.tables e below (T515.setTop (mkF m 54 #[.val (.int p1), .val (.int p2), .val (.int p3), .val (.int p4), .val (.int p5), .val (.int p6), .val (.ref x2), .val (.ref x21), .val (.ref x44), .val (.ref x516), .unset, .unset, .unset, .unset, .unset, .unset] [(.int p5)])) _
        refine st544.trans ?_
        refine XS.astore X544.here hx rfl (hb hby at_57) rfl rfl (l' := #[.val (.int p1), .val (.int p2), .val (.int p3), .val (.int p4), .val (.int p5), .val (.int p6), .val (.ref x2), .val (.ref x21), .val (.ref x44), .val (.ref x516), .val (.ref x545), .unset, .unset, .unset, .unset, .unset]) rfl ?_
        refine XS.iload X544.here hx rfl (hb hby at_59) rfl ?_
        refine XS.iconst X544.here hx rfl (hb hby at_61) ?_
        refine XS.iushr X544.here hx rfl (hb hby at_62) rfl ?_
        show Steps p.tables e below (T544.setTop (mkF m 63 #[.val (.int p1), .val (.int p2), .val (.int p3), .val (.int p4), .val (.int p5), .val (.int p6), .val (.ref x2), .val (.ref x21), .val (.ref x44), .val (.ref x516), .val (.ref x545), .unset, .unset, .unset, .unset, .unset] [(.int ((p6.toUInt32 >>> ((4 : Int32) &&& 31).toUInt32).toInt32))])) _
        refine st577.trans ?_
        refine XS.astore X577.here hx rfl (hb hby at_66) rfl rfl (l' := #[.val (.int p1), .val (.int p2), .val (.int p3), .val (.int p4), .val (.int p5), .val (.int p6), .val (.ref x2), .val (.ref x21), .val (.ref x44), .val (.ref x516), .val (.ref x545), .val (.ref x578), .unset, .unset, .unset, .unset]) rfl ?_
        exact kt
      have f616 := (Exa.keep f593 k582)
      have f617 := (Arv.keep f595 k582 nin0)
      have ne615 : x2 ≠ x3 := own_arvne (own_w hw 6 rfl) f616 f617
      have f619 := (Arv.keep f599 k582 nin0)
      have ne618 : x2 ≠ x22 := own_arvne (own_w hw 6 rfl) f616 f619
      have f621 := (Arv.keep f603 k582 nin0)
      have ne620 : x2 ≠ x45 := own_arvne (own_w hw 6 rfl) f616 f621
      have f623 := (Arv.keep f607 k582 nin0)
      have ne622 : x2 ≠ x517 := own_arvne (own_w hw 6 rfl) f616 f623
      have f625 := (Exa.keep f597 k582)
      have ne624 : x21 ≠ x22 := own_arvne (own_w hw 6 rfl) f625 f619
      have ne626 : x21 ≠ x45 := own_arvne (own_w hw 6 rfl) f625 f621
      have ne627 : x21 ≠ x517 := own_arvne (own_w hw 6 rfl) f625 f623
      have f629 := (Exa.keep f601 k582)
      have ne628 : x44 ≠ x45 := own_arvne (own_w hw 6 rfl) f629 f621
      have ne630 : x44 ≠ x517 := own_arvne (own_w hw 6 rfl) f629 f623
      have f632 := (Exa.keep f605 k582)
      have ne631 : x516 ≠ x517 := own_arvne (own_w hw 6 rfl) f632 f623
      obtain ⟨T633, h633, X633, e633, E633, A633, D633, -, st633⟩ := newO X577 hx hZ577 ho577 (own_w hw 26 rfl) (own_w hw 27 rfl) (own_w hw 28 rfl) rfl (g := (mkF m 68 #[.val (.int p1), .val (.int p2), .val (.int p3), .val (.int p4), .val (.int p5), .val (.int p6), .val (.ref x2), .val (.ref x21), .val (.ref x44), .val (.ref x516), .val (.ref x545), .val (.ref x578), .unset, .unset, .unset, .unset] [])) rfl (hb hby at_68) (by decide) (by decide)
      obtain ⟨b633, g633⟩ : ∃ z, z = T577.heap.size := ⟨_, rfl⟩
      have ge_b633 : n0 ≤ b633 := by rw [g633, ← O613.1]; exact O613.2.1
      have ne634 : x2 ≠ b633 := Nat.ne_of_lt (Nat.lt_of_lt_of_le (Exa.lt f616) (Nat.le_of_eq g633.symm))
      have ne635 : x3 ≠ b633 := Nat.ne_of_lt (Nat.lt_of_lt_of_le (Arv.lt f617) (Nat.le_of_eq g633.symm))
      have ne636 : x21 ≠ b633 := Nat.ne_of_lt (Nat.lt_of_lt_of_le (Exa.lt f625) (Nat.le_of_eq g633.symm))
      have ne637 : x22 ≠ b633 := Nat.ne_of_lt (Nat.lt_of_lt_of_le (Arv.lt f619) (Nat.le_of_eq g633.symm))
      have ne638 : x44 ≠ b633 := Nat.ne_of_lt (Nat.lt_of_lt_of_le (Exa.lt f629) (Nat.le_of_eq g633.symm))
      have ne639 : x45 ≠ b633 := Nat.ne_of_lt (Nat.lt_of_lt_of_le (Arv.lt f621) (Nat.le_of_eq g633.symm))
      have ne640 : x516 ≠ b633 := Nat.ne_of_lt (Nat.lt_of_lt_of_le (Exa.lt f632) (Nat.le_of_eq g633.symm))
      have ne641 : x517 ≠ b633 := Nat.ne_of_lt (Nat.lt_of_lt_of_le (Arv.lt f623) (Nat.le_of_eq g633.symm))
      rw [← g633] at A633 D633 st633
      have hk642 := Nat.le_trans hk612 E633.1
      have O643 := O613.ext E633
      have F644 : Fld Z h633 b633 "com/example/typecheck/typecheck/model/QName" "prefix" "Ljava/lang/String;" .null := D633 (Or.inr (own_w hw 34 rfl)) (ty := (.object "java/lang/String")) (by decide)
      have F645 : Fld Z h633 b633 "com/example/typecheck/typecheck/model/QName" "namespace" "Ljava/lang/String;" .null := D633 (Or.inr (own_w hw 36 rfl)) (ty := (.object "java/lang/String")) (by decide)
      have F646 : Fld Z h633 b633 "com/example/typecheck/typecheck/model/QName" "localName" "Ljava/lang/String;" .null := D633 (Or.inr (own_w hw 38 rfl)) (ty := (.object "java/lang/String")) (by decide)
      have F647 : Fld Z h633 b633 "com/example/typecheck/typecheck/model/QName" "hash" "I" (.int (0 : Int32)) := D633 (Or.inr (own_w hw 59 rfl)) (ty := .int) (by decide)
      have f649 := (Exa.ext E633 f616)
      have f650 := (Fld.ext E633 (Fld.keep (Fld.keep (Fld.keep (Fld.keep (Fld.keep f9 k25 nin0) k48 nin0) k520 nin0) k549 nin0) k582 nin0))
      have f651 := (Fld.ext E633 (Fld.keep (Fld.keep (Fld.keep (Fld.keep (Fld.keep f10 k25 nin0) k48 nin0) k520 nin0) k549 nin0) k582 nin0))
      have f652 := (fun q => Exa.ext E633 ((fun q => Exa.keep ((fun q => Exa.keep ((fun q => Exa.keep ((fun q => Exa.keep ((fun q => Exa.keep (f11 q) k25) q) k48) q) k520) q) k549) q) k582) q))
      have f653 := (Arv.ext f617 E633)
      have f654 := (Fld.ext E633 (Fld.keep (Fld.keep (Fld.keep (Fld.keep (Fld.keep f13 k25 nin0) k48 nin0) k520 nin0) k549 nin0) k582 nin0))
      have f655 := (Fld.ext E633 (Fld.keep (Fld.keep (Fld.keep (Fld.keep (Fld.keep f14 k25 nin0) k48 nin0) k520 nin0) k549 nin0) k582 nin0))
      have f656 := (Exa.ext E633 f625)
      have f657 := (Fld.ext E633 (Fld.keep (Fld.keep (Fld.keep (Fld.keep f28 k48 nin0) k520 nin0) k549 nin0) k582 nin0))
      have f658 := (Fld.ext E633 (Fld.keep (Fld.keep (Fld.keep (Fld.keep f29 k48 nin0) k520 nin0) k549 nin0) k582 nin0))
      have f659 := (fun q => Exa.ext E633 ((fun q => Exa.keep ((fun q => Exa.keep ((fun q => Exa.keep ((fun q => Exa.keep (f30 q) k48) q) k520) q) k549) q) k582) q))
      have f660 := (Arv.ext f619 E633)
      have f661 := (Fld.ext E633 (Fld.keep (Fld.keep (Fld.keep (Fld.keep f32 k48 nin0) k520 nin0) k549 nin0) k582 nin0))
      have f662 := (Fld.ext E633 (Fld.keep (Fld.keep (Fld.keep (Fld.keep f33 k48 nin0) k520 nin0) k549 nin0) k582 nin0))
      obtain ⟨_, _, ⟨T648, L648, k648, n648⟩, -, X648, ⟨Lc648, hQ648, l648, y648, z648⟩, st648⟩ := X633.specialBack hx (y := (⟨"com/example/typecheck/typecheck/model/QName", "<init>", "(Ljava/lang/String;Ljava/lang/String;Ljava/lang/String;)V"⟩ : MethodName)) rfl ho577 (mvT hZ577 (own_w hw 29 rfl)) (mvT hZ577 (own_w hw 30 rfl)) (mvT hZ577 (own_w hw 31 rfl)) (by decide) (backOf (W := 1) (rm_qini l Z a0 hw [] b633 x545 x2 x3 x4 (own_cs p1) x21 x22 x23 (own_cs p2) zc h633 n0 O643 A633 ge_b633 F644 F645 F646 F647 f649 f650 f651 f652 f653 f654 f655 ge16 f656 f657 f658 f659 f660 f661 f662 ge35 ne36 (own_csok p1) (own_csok p2) S_C hzc) hZ577 (own_w hw 31 rfl) (own_w hw 28 rfl) (by decide) (by decide)) (g := (mkF m 78 #[.val (.int p1), .val (.int p2), .val (.int p3), .val (.int p4), .val (.int p5), .val (.int p6), .val (.ref x2), .val (.ref x21), .val (.ref x44), .val (.ref x516), .val (.ref x545), .val (.ref x578), .unset, .unset, .unset, .unset] [(.ref x21), (.ref x2), (.ref x545), (.ref b633), (.ref b633)])) rfl (by rw [hml]; rfl) (Steps.refl _) (a := b633) (argsL := [(.ref x545), (.ref x2), (.ref x21)]) (rest := [(.ref b633)]) (lenOf pd_13 rfl) rfl (by show 2 * 0 + _ ≤ _; exact Nat.le_of_eq rfl) (hb hby at_78) (fun _ _ => ⟨rfl, e633, (by decide : 37 + 0 ≤ _), (by decide : 76 + 0 ≤ _)⟩)
      dsimp only [Pt.U, Pt.locs, Pt.cells, Pt.slots] at X648 l648 y648 z648 st648 hQ648
      subst l648 y648 z648
      obtain ⟨rfl, N663, k664, f665, f666, f667, f668, f669, f670, f671, f672, f673, f674⟩ := hQ648
      have N675 := Fr.app N591 N663
      have hk676 := Nat.le_trans hk642 k664.1
      have O677 := O643.keep k664 (allS ge_b633 (allS ge16 (allS ge35 all0)))
      obtain ⟨T678, h678, X678, e678, E678, A678, D678, -, st678⟩ := newO X648 hx hZ577 ho577 (own_w hw 26 rfl) (own_w hw 27 rfl) (own_w hw 28 rfl) rfl (g := (mkF m 83 #[.val (.int p1), .val (.int p2), .val (.int p3), .val (.int p4), .val (.int p5), .val (.int p6), .val (.ref x2), .val (.ref x21), .val (.ref x44), .val (.ref x516), .val (.ref x545), .val (.ref x578), .val (.ref b633), .unset, .unset, .unset] [])) rfl (hb hby at_83) (by decide) (by decide)
      obtain ⟨b678, g678⟩ : ∃ z, z = T648.heap.size := ⟨_, rfl⟩
      have ge_b678 : n0 ≤ b678 := by rw [g678, ← O677.1]; exact O677.2.1
      have ne679 : x2 ≠ b678 := Nat.ne_of_lt (Nat.lt_of_lt_of_le (Exa.lt f669) (Nat.le_of_eq g678.symm))
      have f680 := (Arv.keep f653 k664 (ninS ne635 (ninS (Ne.symm ne615) (ninS ne37 nin0))))
      have ne681 : x3 ≠ b678 := Nat.ne_of_lt (Nat.lt_of_lt_of_le (Arv.lt f680) (Nat.le_of_eq g678.symm))
      have ne682 : x21 ≠ b678 := Nat.ne_of_lt (Nat.lt_of_lt_of_le (Exa.lt f672) (Nat.le_of_eq g678.symm))
      have f683 := (Arv.keep f660 k664 (ninS ne637 (ninS (Ne.symm ne618) (ninS (Ne.symm ne624) nin0))))
      have ne684 : x22 ≠ b678 := Nat.ne_of_lt (Nat.lt_of_lt_of_le (Arv.lt f683) (Nat.le_of_eq g678.symm))
      have f685 := (Exa.keep (Exa.ext E633 f629) k664)
      have ne686 : x44 ≠ b678 := Nat.ne_of_lt (Nat.lt_of_lt_of_le (Exa.lt f685) (Nat.le_of_eq g678.symm))
      have f687 := (Arv.keep (Arv.ext f621 E633) k664 (ninS ne639 (ninS (Ne.symm ne620) (ninS (Ne.symm ne626) nin0))))
      have ne688 : x45 ≠ b678 := Nat.ne_of_lt (Nat.lt_of_lt_of_le (Arv.lt f687) (Nat.le_of_eq g678.symm))
      have f689 := (Exa.keep (Exa.ext E633 f632) k664)
      have ne690 : x516 ≠ b678 := Nat.ne_of_lt (Nat.lt_of_lt_of_le (Exa.lt f689) (Nat.le_of_eq g678.symm))
      have f691 := (Arv.keep (Arv.ext f623 E633) k664 (ninS ne641 (ninS (Ne.symm ne622) (ninS (Ne.symm ne627) nin0))))
      have ne692 : x517 ≠ b678 := Nat.ne_of_lt (Nat.lt_of_lt_of_le (Arv.lt f691) (Nat.le_of_eq g678.symm))
      have ne693 : b633 ≠ b678 := Nat.ne_of_lt (Nat.lt_of_lt_of_le (Exa.lt f665) (Nat.le_of_eq g678.symm))
      rw [← g678] at A678 D678 st678
      have hk694 := Nat.le_trans hk676 E678.1
      have O695 := O677.ext E678
      have F696 : Fld Z h678 b678 "com/example/typecheck/typecheck/model/QName" "prefix" "Ljava/lang/String;" .null := D678 (Or.inr (own_w hw 34 rfl)) (ty := (.object "java/lang/String")) (by decide)
      have F697 : Fld Z h678 b678 "com/example/typecheck/typecheck/model/QName" "namespace" "Ljava/lang/String;" .null := D678 (Or.inr (own_w hw 36 rfl)) (ty := (.object "java/lang/String")) (by decide)
      have F698 : Fld Z h678 b678 "com/example/typecheck/typecheck/model/QName" "localName" "Ljava/lang/String;" .null := D678 (Or.inr (own_w hw 38 rfl)) (ty := (.object "java/lang/String")) (by decide)
      have F699 : Fld Z h678 b678 "com/example/typecheck/typecheck/model/QName" "hash" "I" (.int (0 : Int32)) := D678 (Or.inr (own_w hw 59 rfl)) (ty := .int) (by decide)
      have f701 := (Exa.ext E678 f685)
      have f702 := (Fld.ext E678 (Fld.keep (Fld.ext E633 (Fld.keep (Fld.keep (Fld.keep f51 k520 nin0) k549 nin0) k582 nin0)) k664 (ninS ne638 (ninS (Ne.symm ne60) (ninS (Ne.symm ne63) nin0)))))
      have f703 := (Fld.ext E678 (Fld.keep (Fld.ext E633 (Fld.keep (Fld.keep (Fld.keep f52 k520 nin0) k549 nin0) k582 nin0)) k664 (ninS ne638 (ninS (Ne.symm ne60) (ninS (Ne.symm ne63) nin0)))))
      have f704 := (fun q => Exa.ext E678 ((fun q => Exa.keep ((fun q => Exa.ext E633 ((fun q => Exa.keep ((fun q => Exa.keep ((fun q => Exa.keep (f53 q) k520) q) k549) q) k582) q)) q) k664) q))
      have f705 := (Arv.ext f687 E678)
      have f706 := (Fld.ext E678 (Fld.keep (Fld.ext E633 (Fld.keep (Fld.keep (Fld.keep f55 k520 nin0) k549 nin0) k582 nin0)) k664 (ninS ne638 (ninS (Ne.symm ne60) (ninS (Ne.symm ne63) nin0)))))
      have f707 := (Fld.ext E678 (Fld.keep (Fld.ext E633 (Fld.keep (Fld.keep (Fld.keep f56 k520 nin0) k549 nin0) k582 nin0)) k664 (ninS ne638 (ninS (Ne.symm ne60) (ninS (Ne.symm ne63) nin0)))))
      have f708 := (Exa.ext E678 f689)
      have f709 := (Fld.ext E678 (Fld.keep (Fld.ext E633 (Fld.keep (Fld.keep f523 k549 nin0) k582 nin0)) k664 (ninS ne640 (ninS (Ne.symm ne532) (ninS (Ne.symm ne536) nin0)))))
      have f710 := (Fld.ext E678 (Fld.keep (Fld.ext E633 (Fld.keep (Fld.keep f524 k549 nin0) k582 nin0)) k664 (ninS ne640 (ninS (Ne.symm ne532) (ninS (Ne.symm ne536) nin0)))))
      have f711 := (fun q => Exa.ext E678 ((fun q => Exa.keep ((fun q => Exa.ext E633 ((fun q => Exa.keep ((fun q => Exa.keep (f525 q) k549) q) k582) q)) q) k664) q))
      have f712 := (Arv.ext f691 E678)
      have f713 := (Fld.ext E678 (Fld.keep (Fld.ext E633 (Fld.keep (Fld.keep f527 k549 nin0) k582 nin0)) k664 (ninS ne640 (ninS (Ne.symm ne532) (ninS (Ne.symm ne536) nin0)))))
      have f714 := (Fld.ext E678 (Fld.keep (Fld.ext E633 (Fld.keep (Fld.keep f528 k549 nin0) k582 nin0)) k664 (ninS ne640 (ninS (Ne.symm ne532) (ninS (Ne.symm ne536) nin0)))))
      obtain ⟨_, _, ⟨T700, L700, k700, n700⟩, -, X700, ⟨Lc700, hQ700, l700, y700, z700⟩, st700⟩ := X678.specialBack hx (y := (⟨"com/example/typecheck/typecheck/model/QName", "<init>", "(Ljava/lang/String;Ljava/lang/String;Ljava/lang/String;)V"⟩ : MethodName)) rfl ho577 (mvT hZ577 (own_w hw 29 rfl)) (mvT hZ577 (own_w hw 30 rfl)) (mvT hZ577 (own_w hw 31 rfl)) (by decide) (backOf (W := 1) (rm_qini l Z a0 hw [] b678 x578 x44 x45 x46 (own_cs p3) x516 x517 x518 (own_cs p2) zc h678 n0 O695 A678 ge_b678 F696 F697 F698 F699 f701 f702 f703 f704 f705 f706 f707 ge58 f708 f709 f710 f711 f712 f713 f714 ge530 ne539 (own_csok p3) (own_csok p2) S_C hzc) hZ577 (own_w hw 31 rfl) (own_w hw 28 rfl) (by decide) (by decide)) (g := (mkF m 93 #[.val (.int p1), .val (.int p2), .val (.int p3), .val (.int p4), .val (.int p5), .val (.int p6), .val (.ref x2), .val (.ref x21), .val (.ref x44), .val (.ref x516), .val (.ref x545), .val (.ref x578), .val (.ref b633), .unset, .unset, .unset] [(.ref x516), (.ref x44), (.ref x578), (.ref b678), (.ref b678)])) rfl (by rw [hml]; rfl) (Steps.refl _) (a := b678) (argsL := [(.ref x578), (.ref x44), (.ref x516)]) (rest := [(.ref b678)]) (lenOf pd_13 rfl) rfl (by show 2 * 0 + _ ≤ _; exact Nat.le_of_eq rfl) (hb hby at_93) (fun _ _ => ⟨rfl, e678, (by decide : 38 + 0 ≤ _), (by decide : 80 + 0 ≤ _)⟩)
      dsimp only [Pt.U, Pt.locs, Pt.cells, Pt.slots] at X700 l700 y700 z700 st700 hQ700
      subst l700 y700 z700
      obtain ⟨rfl, N715, k716, f717, f718, f719, f720, f721, f722, f723, f724, f725, f726⟩ := hQ700
      have N727 := Fr.app N675 N715
      have hk728 := Nat.le_trans hk694 k716.1
      have O729 := O695.keep k716 (allS ge_b678 (allS ge58 (allS ge530 all0)))
      have S730 : ∀ t, Steps p.tables e below (T700.setTop (mkF m 108 #[.val (.int p1), .val (.int p2), .val (.int p3), .val (.int p4), .val (.int p5), .val (.int p6), .val (.ref x2), .val (.ref x21), .val (.ref x44), .val (.ref x516), .val (.ref x545), .val (.ref x578), .val (.ref b633), .val (.ref b678), .val (.int (((p6.toUInt32 >>> ((2 : Int32) &&& 31).toUInt32).toInt32) &&& (3 : Int32))), .unset] [(.int (((p6.toUInt32 >>> ((2 : Int32) &&& 31).toUInt32).toInt32) &&& (3 : Int32)))])) t → Steps p.tables e below (s₁.setTop (mkF m 0 #[.val (.int p1), .val (.int p2), .val (.int p3), .val (.int p4), .val (.int p5), .val (.int p6), .unset, .unset, .unset, .unset, .unset, .unset, .unset, .unset, .unset, .unset] [])) t := by
        intro t kt
        refine S614 t ?_
        refine st633 _ ?_
        refine XS.dup X633.here hx rfl (hb hby at_71) rfl rfl ?_
        refine XS.aload X633.here hx rfl (hb hby at_72) rfl rfl ?_
        refine XS.aload X633.here hx rfl (hb hby at_74) rfl rfl ?_
        refine XS.aload X633.here hx rfl (hb hby at_76) rfl rfl ?_
        show Steps p.tables e below (T633.setTop (mkF m 78 #[.val (.int p1), .val (.int p2), .val (.int p3), .val (.int p4), .val (.int p5), .val (.int p6), .val (.ref x2), .val (.ref x21), .val (.ref x44), .val (.ref x516), .val (.ref x545), .val (.ref x578), .unset, .unset, .unset, .unset] [(.ref x21), (.ref x2), (.ref x545), (.ref b633), (.ref b633)])) _
        refine st648.trans ?_
        refine XS.astore X648.here hx rfl (hb hby at_81) rfl rfl (l' := #[.val (.int p1), .val (.int p2), .val (.int p3), .val (.int p4), .val (.int p5), .val (.int p6), .val (.ref x2), .val (.ref x21), .val (.ref x44), .val (.ref x516), .val (.ref x545), .val (.ref x578), .val (.ref b633), .unset, .unset, .unset]) rfl ?_
        show Steps p.tables e below (T648.setTop (mkF m 83 #[.val (.int p1), .val (.int p2), .val (.int p3), .val (.int p4), .val (.int p5), .val (.int p6), .val (.ref x2), .val (.ref x21), .val (.ref x44), .val (.ref x516), .val (.ref x545), .val (.ref x578), .val (.ref b633), .unset, .unset, .unset] [])) _
        refine st678 _ ?_
        refine XS.dup X678.here hx rfl (hb hby at_86) rfl rfl ?_
        refine XS.aload X678.here hx rfl (hb hby at_87) rfl rfl ?_
        refine XS.aload X678.here hx rfl (hb hby at_89) rfl rfl ?_
        refine XS.aload X678.here hx rfl (hb hby at_91) rfl rfl ?_
        show Steps p.tables e below (T678.setTop (mkF m 93 #[.val (.int p1), .val (.int p2), .val (.int p3), .val (.int p4), .val (.int p5), .val (.int p6), .val (.ref x2), .val (.ref x21), .val (.ref x44), .val (.ref x516), .val (.ref x545), .val (.ref x578), .val (.ref b633), .unset, .unset, .unset] [(.ref x516), (.ref x44), (.ref x578), (.ref b678), (.ref b678)])) _
        refine st700.trans ?_
        refine XS.astore X700.here hx rfl (hb hby at_96) rfl rfl (l' := #[.val (.int p1), .val (.int p2), .val (.int p3), .val (.int p4), .val (.int p5), .val (.int p6), .val (.ref x2), .val (.ref x21), .val (.ref x44), .val (.ref x516), .val (.ref x545), .val (.ref x578), .val (.ref b633), .val (.ref b678), .unset, .unset]) rfl ?_
        refine XS.iload X700.here hx rfl (hb hby at_98) rfl ?_
        refine XS.iconst X700.here hx rfl (hb hby at_100) ?_
        refine XS.iushr X700.here hx rfl (hb hby at_101) rfl ?_
        refine XS.iconst X700.here hx rfl (hb hby at_102) ?_
        refine XS.iand X700.here hx rfl (hb hby at_103) rfl ?_
        refine XS.istore X700.here hx rfl (hb hby at_104) rfl (l' := #[.val (.int p1), .val (.int p2), .val (.int p3), .val (.int p4), .val (.int p5), .val (.int p6), .val (.ref x2), .val (.ref x21), .val (.ref x44), .val (.ref x516), .val (.ref x545), .val (.ref x578), .val (.ref b633), .val (.ref b678), .val (.int (((p6.toUInt32 >>> ((2 : Int32) &&& 31).toUInt32).toInt32) &&& (3 : Int32))), .unset]) rfl ?_
        refine XS.iload X700.here hx rfl (hb hby at_106) rfl ?_
        exact kt
      rcases Decidable.em ((((p6.toUInt32 >>> ((2 : Int32) &&& 31).toUInt32).toInt32) &&& (3 : Int32)) = (0 : Int32)) with c731 | c731
      · have f733 := (Exa.keep (Exa.ext E678 f669) k716)
        have f734 := (Fld.keep (Fld.ext E678 f670) k716 (ninS ne679 (ninS ne60 (ninS ne532 nin0))))
        have f735 := (Fld.keep (Fld.ext E678 f671) k716 (ninS ne679 (ninS ne60 (ninS ne532 nin0))))
        have f736 := (fun q => Exa.keep ((fun q => Exa.ext E678 ((fun q => Exa.keep (f652 q) k664) q)) q) k716)
        have f737 := (Arv.keep (Arv.ext f680 E678) k716 (ninS ne681 (ninS ne62 (ninS ne534 nin0))))
        have f738 := (fun q => Exa.keep (f704 q) k716)
        have f739 := (Arv.keep f705 k716 (ninS ne688 (ninS (Ne.symm ne628) (ninS ne540 nin0))))
        obtain ⟨_, _, ⟨T732, L732, k732, n732⟩, -, X732, ⟨Lc732, hQ732, l732, y732, z732⟩, st732⟩ := Jvm.LawKit.callS X700 hx (y := (⟨"com/example/typecheck/typecheck/model/QNameEqualsPinLaw", "same", "(Ljava/lang/String;Ljava/lang/String;)Z"⟩ : MethodName)) ho577 (mvT hZ577 (own_w hw 60 rfl)) (mvT hZ577 (own_w hw 61 rfl)) (mvT hZ577 (own_w hw 2 rfl)) (mvT hZ577 (own_w hw 62 rfl)) (by decide) (backOf (W := 0) (rm_same l Z a0 hw [] x2 x3 x4 (own_cs p1) x44 x45 x46 (own_cs p3) zc fm T700.heap n0 O729 f733 f734 f735 f736 f737 f721 f722 f723 f738 f739 (own_csok p1) (own_csok p3) S_C hzc S_F hfm) hZ577 (own_w hw 62 rfl) (own_w hw 2 rfl) (by decide) (by decide)) (g := (mkF m 115 #[.val (.int p1), .val (.int p2), .val (.int p3), .val (.int p4), .val (.int p5), .val (.int p6), .val (.ref x2), .val (.ref x21), .val (.ref x44), .val (.ref x516), .val (.ref x545), .val (.ref x578), .val (.ref b633), .val (.ref b678), .val (.int (((p6.toUInt32 >>> ((2 : Int32) &&& 31).toUInt32).toInt32) &&& (3 : Int32))), .unset] [(.ref x44), (.ref x2)])) rfl (by rw [hml]; rfl) (argsL := [(.ref x2), (.ref x44)]) (rest := []) (lenOf pd_14 rfl) rfl (by show 2 * 0 + _ ≤ _; exact Nat.le_of_eq rfl) (hb hby at_115) (fun _ _ => ⟨rfl, rfl, (by decide : 38 + 0 ≤ _), (by decide : 80 + 0 ≤ _)⟩)
        dsimp only [Pt.U, Pt.locs, Pt.cells, Pt.slots] at X732 l732 y732 z732 st732 hQ732
        subst l732 y732 z732
        obtain ⟨rfl, N740, k741⟩ := hQ732
        have N742 := Fr.app N727 N740
        have S743 : ∀ t, Steps p.tables e below (T732.setTop (mkF m 118 #[.val (.int p1), .val (.int p2), .val (.int p3), .val (.int p4), .val (.int p5), .val (.int p6), .val (.ref x2), .val (.ref x21), .val (.ref x44), .val (.ref x516), .val (.ref x545), .val (.ref x578), .val (.ref b633), .val (.ref b678), .val (.int (((p6.toUInt32 >>> ((2 : Int32) &&& 31).toUInt32).toInt32) &&& (3 : Int32))), .unset] [(.int (own_eqI (own_cs p1) (own_cs p3)))])) t → Steps p.tables e below (s₁.setTop (mkF m 0 #[.val (.int p1), .val (.int p2), .val (.int p3), .val (.int p4), .val (.int p5), .val (.int p6), .unset, .unset, .unset, .unset, .unset, .unset, .unset, .unset, .unset, .unset] [])) t := by
          intro t kt
          refine S730 t ?_
          refine XS.ifNo X700.here hx rfl (hb hby at_108) rfl ((if0 _ _).trans (teq (c731 : (((p6.toUInt32 >>> ((2 : Int32) &&& 31).toUInt32).toInt32) &&& (3 : Int32)) = (0 : Int32))).2) ?_
          refine XS.aload X700.here hx rfl (hb hby at_111) rfl rfl ?_
          refine XS.aload X700.here hx rfl (hb hby at_113) rfl rfl ?_
          show Steps p.tables e below (T700.setTop (mkF m 115 #[.val (.int p1), .val (.int p2), .val (.int p3), .val (.int p4), .val (.int p5), .val (.int p6), .val (.ref x2), .val (.ref x21), .val (.ref x44), .val (.ref x516), .val (.ref x545), .val (.ref x578), .val (.ref b633), .val (.ref b678), .val (.int (((p6.toUInt32 >>> ((2 : Int32) &&& 31).toUInt32).toInt32) &&& (3 : Int32))), .unset] [(.ref x44), (.ref x2)])) _
          refine st732 _ ?_
          exact kt
        rcases Decidable.em ((own_cs p1) = (own_cs p3)) with c744 | c744
        · have f746 := (Exa.keep (Exa.ext E678 f672) k716)
          have f747 := (Fld.keep (Fld.ext E678 f673) k716 (ninS ne682 (ninS ne63 (ninS ne536 nin0))))
          have f748 := (Fld.keep (Fld.ext E678 f674) k716 (ninS ne682 (ninS ne63 (ninS ne536 nin0))))
          have f749 := (fun q => Exa.keep ((fun q => Exa.ext E678 ((fun q => Exa.keep (f659 q) k664) q)) q) k716)
          have f750 := (Arv.keep (Arv.ext f683 E678) k716 (ninS ne684 (ninS ne64 (ninS ne538 nin0))))
          have f751 := (fun q => Exa.keep (f711 q) k716)
          have f752 := (Arv.keep f712 k716 (ninS ne692 (ninS (Ne.symm ne630) (ninS (Ne.symm ne631) nin0))))
          obtain ⟨_, _, ⟨T745, L745, k745, n745⟩, -, X745, ⟨Lc745, hQ745, l745, y745, z745⟩, st745⟩ := Jvm.LawKit.callS X732 hx (y := (⟨"com/example/typecheck/typecheck/model/QNameEqualsPinLaw", "same", "(Ljava/lang/String;Ljava/lang/String;)Z"⟩ : MethodName)) ho577 (mvT hZ577 (own_w hw 60 rfl)) (mvT hZ577 (own_w hw 61 rfl)) (mvT hZ577 (own_w hw 2 rfl)) (mvT hZ577 (own_w hw 62 rfl)) (by decide) (backOf (W := 0) (rm_same l Z a0 hw [] x21 x22 x23 (own_cs p2) x516 x517 x518 (own_cs p2) zc fm T700.heap n0 O729 f746 f747 f748 f749 f750 f724 f725 f726 f751 f752 (own_csok p2) (own_csok p2) S_C hzc S_F hfm) hZ577 (own_w hw 62 rfl) (own_w hw 2 rfl) (by decide) (by decide)) (g := (mkF m 125 #[.val (.int p1), .val (.int p2), .val (.int p3), .val (.int p4), .val (.int p5), .val (.int p6), .val (.ref x2), .val (.ref x21), .val (.ref x44), .val (.ref x516), .val (.ref x545), .val (.ref x578), .val (.ref b633), .val (.ref b678), .val (.int (((p6.toUInt32 >>> ((2 : Int32) &&& 31).toUInt32).toInt32) &&& (3 : Int32))), .unset] [(.ref x516), (.ref x21)])) rfl (by rw [hml]; rfl) (argsL := [(.ref x21), (.ref x516)]) (rest := []) (lenOf pd_14 rfl) rfl (by show 2 * 0 + _ ≤ _; exact Nat.le_of_eq rfl) (hb hby at_125) (fun _ _ => ⟨rfl, k741, (by decide : 38 + 0 ≤ _), (by decide : 80 + 0 ≤ _)⟩)
          dsimp only [Pt.U, Pt.locs, Pt.cells, Pt.slots] at X745 l745 y745 z745 st745 hQ745
          subst l745 y745 z745
          obtain ⟨rfl, N753, k754⟩ := hQ745
          have N755 := Fr.app N742 N753
          have f757 := (Exa.keep (Exa.ext E678 f665) k716)
          have f758 := (Fld.keep (Fld.ext E678 f668) k716 (ninS ne693 (ninS (Ne.symm ne638) (ninS (Ne.symm ne640) nin0))))
          have f759 := (Fld.keep (Fld.ext E678 f666) k716 (ninS ne693 (ninS (Ne.symm ne638) (ninS (Ne.symm ne640) nin0))))
          have f760 := (Fld.keep (Fld.ext E678 f667) k716 (ninS ne693 (ninS (Ne.symm ne638) (ninS (Ne.symm ne640) nin0))))
          obtain ⟨cq756, kq756, q756a, q756b, q756c⟩ := isOf hZ577 k754 f757
          obtain ⟨_, _, ⟨T756, L756, k756, n756⟩, -, X756, ⟨Lc756, hQ756, l756, y756, z756⟩, st756⟩ := X745.virtualBack hx (y := (⟨"com/example/typecheck/typecheck/model/QName", "equals", "(Ljava/lang/Object;)Z"⟩ : MethodName)) (z := (⟨"com/example/typecheck/typecheck/model/QName", "equals", "(Ljava/lang/Object;)Z"⟩ : MethodName)) ho577 (mvT hZ577 (own_w hw 73 rfl)) (mvT hZ577 (own_w hw 74 rfl)) (notFace_of_selects (args := #[]) (mvT hZ577 (own_w hw 76 rfl))) (mvT hZ577 (own_w hw 76 rfl)) (mvT hZ577 (own_w hw 75 rfl)) (by decide) (backOf (W := 0) (rm_qeq l Z a0 hw [] b633 (((31 : Int32) * (own_H (own_cs p1))) + (own_H (own_cs p2))) x2 x3 x4 (own_cs p1) x21 x22 x23 (own_cs p2) b678 (((31 : Int32) * (own_H (own_cs p3))) + (own_H (own_cs p2))) x44 x45 x46 (own_cs p3) x516 x517 x518 (own_cs p2) zc T700.heap n0 O729 f757 f758 f759 f760 f733 f734 f735 f736 f737 f746 f747 f748 f749 f750 (own_csok p1) (own_csok p2) f717 f720 f718 f719 f721 f722 f723 f738 f739 f724 f725 f726 f751 f752 (own_csok p3) (own_csok p2) ne693 S_C hzc) hZ577 (own_w hw 77 rfl) (own_w hw 28 rfl) (by decide) (by decide)) q756a q756c (g := (mkF m 142 #[.val (.int p1), .val (.int p2), .val (.int p3), .val (.int p4), .val (.int p5), .val (.int p6), .val (.ref x2), .val (.ref x21), .val (.ref x44), .val (.ref x516), .val (.ref x545), .val (.ref x578), .val (.ref b633), .val (.ref b678), .val (.int (((p6.toUInt32 >>> ((2 : Int32) &&& 31).toUInt32).toInt32) &&& (3 : Int32))), .val (.int (1 : Int32))] [(.ref b678), (.ref b633)])) rfl (by rw [hml]; rfl) (Steps.refl _) (argsL := [(.ref b678)]) (rest := []) (lenOf pd_11 rfl) rfl (by show 2 * 0 + _ ≤ _; exact Nat.le_of_eq rfl) (hb hby at_142) (fun _ _ => ⟨rfl, k754, (by decide : 38 + 0 ≤ _), (by decide : 80 + 0 ≤ _)⟩)
          dsimp only [Pt.U, Pt.locs, Pt.cells, Pt.slots] at X756 l756 y756 z756 st756 hQ756
          subst l756 y756 z756
          rcases hQ756 with ⟨c761, c762, rfl, N763, k764⟩ | ⟨c765, rfl, N766, k767⟩ | ⟨c768, rfl, N769, k770⟩ | ⟨c771, rfl, N772, k773⟩
          · have N774 := Fr.app N755 N763
            obtain ⟨cq775, kq775, q775a, q775b, q775c⟩ := isOf hZ577 k764 f717
            obtain ⟨_, _, ⟨T775, L775, k775, n775⟩, -, X775, ⟨Lc775, hQ775, l775, y775, z775⟩, st775⟩ := X756.virtualBack hx (y := (⟨"com/example/typecheck/typecheck/model/QName", "equals", "(Ljava/lang/Object;)Z"⟩ : MethodName)) (z := (⟨"com/example/typecheck/typecheck/model/QName", "equals", "(Ljava/lang/Object;)Z"⟩ : MethodName)) ho577 (mvT hZ577 (own_w hw 73 rfl)) (mvT hZ577 (own_w hw 74 rfl)) (notFace_of_selects (args := #[]) (mvT hZ577 (own_w hw 76 rfl))) (mvT hZ577 (own_w hw 76 rfl)) (mvT hZ577 (own_w hw 75 rfl)) (by decide) (backOf (W := 0) (rm_qeq l Z a0 hw [] b678 (((31 : Int32) * (own_H (own_cs p3))) + (own_H (own_cs p2))) x44 x45 x46 (own_cs p3) x516 x517 x518 (own_cs p2) b633 (((31 : Int32) * (own_H (own_cs p1))) + (own_H (own_cs p2))) x2 x3 x4 (own_cs p1) x21 x22 x23 (own_cs p2) zc T700.heap n0 O729 f717 f720 f718 f719 f721 f722 f723 f738 f739 f724 f725 f726 f751 f752 (own_csok p3) (own_csok p2) f757 f758 f759 f760 f733 f734 f735 f736 f737 f746 f747 f748 f749 f750 (own_csok p1) (own_csok p2) (Ne.symm ne693) S_C hzc) hZ577 (own_w hw 77 rfl) (own_w hw 28 rfl) (by decide) (by decide)) q775a q775c (g := (mkF m 154 #[.val (.int p1), .val (.int p2), .val (.int p3), .val (.int p4), .val (.int p5), .val (.int p6), .val (.ref x2), .val (.ref x21), .val (.ref x44), .val (.ref x516), .val (.ref x545), .val (.ref x578), .val (.ref b633), .val (.ref b678), .val (.int (((p6.toUInt32 >>> ((2 : Int32) &&& 31).toUInt32).toInt32) &&& (3 : Int32))), .val (.int (1 : Int32))] [(.ref b633), (.ref b678)])) rfl (by rw [hml]; rfl) (Steps.refl _) (argsL := [(.ref b633)]) (rest := []) (lenOf pd_11 rfl) rfl (by show 2 * 0 + _ ≤ _; exact Nat.le_of_eq rfl) (hb hby at_154) (fun _ _ => ⟨rfl, k764, (by decide : 38 + 0 ≤ _), (by decide : 80 + 0 ≤ _)⟩)
            dsimp only [Pt.U, Pt.locs, Pt.cells, Pt.slots] at X775 l775 y775 z775 st775 hQ775
            subst l775 y775 z775
            rcases hQ775 with ⟨c776, c777, rfl, N778, k779⟩ | ⟨c780, rfl, N781, k782⟩ | ⟨c783, rfl, N784, k785⟩ | ⟨c786, rfl, N787, k788⟩
            · have N789 := Fr.app N774 N778
              have S790 : ∀ t, Steps p.tables e below (T775.setTop (mkF m 167 #[.val (.int p1), .val (.int p2), .val (.int p3), .val (.int p4), .val (.int p5), .val (.int p6), .val (.ref x2), .val (.ref x21), .val (.ref x44), .val (.ref x516), .val (.ref x545), .val (.ref x578), .val (.ref b633), .val (.ref b678), .val (.int (((p6.toUInt32 >>> ((2 : Int32) &&& 31).toUInt32).toInt32) &&& (3 : Int32))), .val (.int (1 : Int32))] [(.int (1 : Int32))])) t → Steps p.tables e below (s₁.setTop (mkF m 0 #[.val (.int p1), .val (.int p2), .val (.int p3), .val (.int p4), .val (.int p5), .val (.int p6), .unset, .unset, .unset, .unset, .unset, .unset, .unset, .unset, .unset, .unset] [])) t := by
                intro t kt
                refine S743 t ?_
                refine XS.ifNo X732.here hx rfl (hb hby at_118) rfl ((if0 _ _).trans (feq ((own_eq1 c744) : ¬ ((own_eqI (own_cs p1) (own_cs p3)) = (0 : Int32)))).1) ?_
                refine XS.aload X732.here hx rfl (hb hby at_121) rfl rfl ?_
                refine XS.aload X732.here hx rfl (hb hby at_123) rfl rfl ?_
                show Steps p.tables e below (T732.setTop (mkF m 125 #[.val (.int p1), .val (.int p2), .val (.int p3), .val (.int p4), .val (.int p5), .val (.int p6), .val (.ref x2), .val (.ref x21), .val (.ref x44), .val (.ref x516), .val (.ref x545), .val (.ref x578), .val (.ref b633), .val (.ref b678), .val (.int (((p6.toUInt32 >>> ((2 : Int32) &&& 31).toUInt32).toInt32) &&& (3 : Int32))), .unset] [(.ref x516), (.ref x21)])) _
                refine st745 _ ?_
                refine XS.ifNo X745.here hx rfl (hb hby at_128) rfl ((if0 _ _).trans (feq ((own_eq1 rfl) : ¬ ((own_eqI (own_cs p2) (own_cs p2)) = (0 : Int32)))).1) ?_
                refine XS.iconst X745.here hx rfl (hb hby at_131) ?_
                refine XS.goto X745.here hx rfl (pc0 := 132) (pc' := 136) rfl (hb hby at_132) (by decide) (by decide) ?_
                refine XS.istore X745.here hx rfl (hb hby at_136) rfl (l' := #[.val (.int p1), .val (.int p2), .val (.int p3), .val (.int p4), .val (.int p5), .val (.int p6), .val (.ref x2), .val (.ref x21), .val (.ref x44), .val (.ref x516), .val (.ref x545), .val (.ref x578), .val (.ref b633), .val (.ref b678), .val (.int (((p6.toUInt32 >>> ((2 : Int32) &&& 31).toUInt32).toInt32) &&& (3 : Int32))), .val (.int (1 : Int32))]) rfl ?_
                refine XS.aload X745.here hx rfl (hb hby at_138) rfl rfl ?_
                refine XS.aload X745.here hx rfl (hb hby at_140) rfl rfl ?_
                show Steps p.tables e below (T745.setTop (mkF m 142 #[.val (.int p1), .val (.int p2), .val (.int p3), .val (.int p4), .val (.int p5), .val (.int p6), .val (.ref x2), .val (.ref x21), .val (.ref x44), .val (.ref x516), .val (.ref x545), .val (.ref x578), .val (.ref b633), .val (.ref b678), .val (.int (((p6.toUInt32 >>> ((2 : Int32) &&& 31).toUInt32).toInt32) &&& (3 : Int32))), .val (.int (1 : Int32))] [(.ref b678), (.ref b633)])) _
                refine st756.trans ?_
                refine XS.iload X756.here hx rfl (hb hby at_145) rfl ?_
                refine XS.icmpNo X756.here hx rfl (hb hby at_147) rfl (teq ((by decide) : (1 : Int32) = (1 : Int32))).2 ?_
                refine XS.aload X756.here hx rfl (hb hby at_150) rfl rfl ?_
                refine XS.aload X756.here hx rfl (hb hby at_152) rfl rfl ?_
                show Steps p.tables e below (T756.setTop (mkF m 154 #[.val (.int p1), .val (.int p2), .val (.int p3), .val (.int p4), .val (.int p5), .val (.int p6), .val (.ref x2), .val (.ref x21), .val (.ref x44), .val (.ref x516), .val (.ref x545), .val (.ref x578), .val (.ref b633), .val (.ref b678), .val (.int (((p6.toUInt32 >>> ((2 : Int32) &&& 31).toUInt32).toInt32) &&& (3 : Int32))), .val (.int (1 : Int32))] [(.ref b633), (.ref b678)])) _
                refine st775.trans ?_
                refine XS.iload X775.here hx rfl (hb hby at_157) rfl ?_
                refine XS.icmpNo X775.here hx rfl (hb hby at_159) rfl (teq ((by decide) : (1 : Int32) = (1 : Int32))).2 ?_
                refine XS.iconst X775.here hx rfl (hb hby at_162) ?_
                refine XS.goto X775.here hx rfl (pc0 := 163) (pc' := 167) rfl (hb hby at_163) (by decide) (by decide) ?_
                exact kt
              obtain ⟨fs, hr, hrun, hended, hRW⟩ := X775.leaveW hS577 (by rw [k779]; exact hk728) (v := some (.int (1 : Int32))) (fun h => by rw [Bd.returns] at h; cases h)
              refine ⟨_, _, pre0 _ (S790 _ ?_), hrun, hended, _, _, rfl, ?_, hRW.1, hRW.2.1, hRW.2.2.1, hRW.2.2.2.mono (by decide) (by decide)⟩
              · exact retN X775 hx (t := .boolean) Bd.returns (by simp) (hb hby at_167) hr
              · show Q_rm_law Z p1 p2 p3 p4 p5 p6 zc fm h0 n0 _ T775.heap _
                rw [k779]
                exact ⟨rfl, N789⟩
            · exact absurd ((Eq.symm (own_hq c744 rfl)) : (((31 : Int32) * (own_H (own_cs p3))) + (own_H (own_cs p2))) = (((31 : Int32) * (own_H (own_cs p1))) + (own_H (own_cs p2)))) c780
            · exact absurd (c761 : (own_cs p2) = (own_cs p2)) c783
            · exact absurd ((Eq.symm c744) : (own_cs p3) = (own_cs p1)) c786
          · exact absurd ((own_hq c744 rfl) : (((31 : Int32) * (own_H (own_cs p1))) + (own_H (own_cs p2))) = (((31 : Int32) * (own_H (own_cs p3))) + (own_H (own_cs p2)))) c765
          · exact absurd ((Eq.symm rfl) : (own_cs p2) = (own_cs p2)) c768
          · exact absurd (c744 : (own_cs p1) = (own_cs p3)) c771
        · have f792 := (Exa.keep (Exa.ext E678 f665) k716)
          have f793 := (Fld.keep (Fld.ext E678 f668) k716 (ninS ne693 (ninS (Ne.symm ne638) (ninS (Ne.symm ne640) nin0))))
          have f794 := (Fld.keep (Fld.ext E678 f666) k716 (ninS ne693 (ninS (Ne.symm ne638) (ninS (Ne.symm ne640) nin0))))
          have f795 := (Fld.keep (Fld.ext E678 f667) k716 (ninS ne693 (ninS (Ne.symm ne638) (ninS (Ne.symm ne640) nin0))))
          have f796 := (Exa.keep (Exa.ext E678 f672) k716)
          have f797 := (Fld.keep (Fld.ext E678 f673) k716 (ninS ne682 (ninS ne63 (ninS ne536 nin0))))
          have f798 := (Fld.keep (Fld.ext E678 f674) k716 (ninS ne682 (ninS ne63 (ninS ne536 nin0))))
          have f799 := (fun q => Exa.keep ((fun q => Exa.ext E678 ((fun q => Exa.keep (f659 q) k664) q)) q) k716)
          have f800 := (Arv.keep (Arv.ext f683 E678) k716 (ninS ne684 (ninS ne64 (ninS ne538 nin0))))
          have f801 := (fun q => Exa.keep (f711 q) k716)
          have f802 := (Arv.keep f712 k716 (ninS ne692 (ninS (Ne.symm ne630) (ninS (Ne.symm ne631) nin0))))
          obtain ⟨cq791, kq791, q791a, q791b, q791c⟩ := isOf hZ577 k741 f792
          obtain ⟨_, _, ⟨T791, L791, k791, n791⟩, -, X791, ⟨Lc791, hQ791, l791, y791, z791⟩, st791⟩ := X732.virtualBack hx (y := (⟨"com/example/typecheck/typecheck/model/QName", "equals", "(Ljava/lang/Object;)Z"⟩ : MethodName)) (z := (⟨"com/example/typecheck/typecheck/model/QName", "equals", "(Ljava/lang/Object;)Z"⟩ : MethodName)) ho577 (mvT hZ577 (own_w hw 73 rfl)) (mvT hZ577 (own_w hw 74 rfl)) (notFace_of_selects (args := #[]) (mvT hZ577 (own_w hw 76 rfl))) (mvT hZ577 (own_w hw 76 rfl)) (mvT hZ577 (own_w hw 75 rfl)) (by decide) (backOf (W := 0) (rm_qeq l Z a0 hw [] b633 (((31 : Int32) * (own_H (own_cs p1))) + (own_H (own_cs p2))) x2 x3 x4 (own_cs p1) x21 x22 x23 (own_cs p2) b678 (((31 : Int32) * (own_H (own_cs p3))) + (own_H (own_cs p2))) x44 x45 x46 (own_cs p3) x516 x517 x518 (own_cs p2) zc T700.heap n0 O729 f792 f793 f794 f795 f733 f734 f735 f736 f737 f796 f797 f798 f799 f800 (own_csok p1) (own_csok p2) f717 f720 f718 f719 f721 f722 f723 f738 f739 f724 f725 f726 f801 f802 (own_csok p3) (own_csok p2) ne693 S_C hzc) hZ577 (own_w hw 77 rfl) (own_w hw 28 rfl) (by decide) (by decide)) q791a q791c (g := (mkF m 142 #[.val (.int p1), .val (.int p2), .val (.int p3), .val (.int p4), .val (.int p5), .val (.int p6), .val (.ref x2), .val (.ref x21), .val (.ref x44), .val (.ref x516), .val (.ref x545), .val (.ref x578), .val (.ref b633), .val (.ref b678), .val (.int (((p6.toUInt32 >>> ((2 : Int32) &&& 31).toUInt32).toInt32) &&& (3 : Int32))), .val (.int (0 : Int32))] [(.ref b678), (.ref b633)])) rfl (by rw [hml]; rfl) (Steps.refl _) (argsL := [(.ref b678)]) (rest := []) (lenOf pd_11 rfl) rfl (by show 2 * 0 + _ ≤ _; exact Nat.le_of_eq rfl) (hb hby at_142) (fun _ _ => ⟨rfl, k741, (by decide : 38 + 0 ≤ _), (by decide : 80 + 0 ≤ _)⟩)
          dsimp only [Pt.U, Pt.locs, Pt.cells, Pt.slots] at X791 l791 y791 z791 st791 hQ791
          subst l791 y791 z791
          rcases hQ791 with ⟨c803, c804, rfl, N805, k806⟩ | ⟨c807, rfl, N808, k809⟩ | ⟨c810, rfl, N811, k812⟩ | ⟨c813, rfl, N814, k815⟩
          · exact absurd c804 (c744 : ¬ ((own_cs p1) = (own_cs p3)))
          · have N816 := Fr.app N742 N808
            obtain ⟨cq817, kq817, q817a, q817b, q817c⟩ := isOf hZ577 k809 f717
            obtain ⟨_, _, ⟨T817, L817, k817, n817⟩, -, X817, ⟨Lc817, hQ817, l817, y817, z817⟩, st817⟩ := X791.virtualBack hx (y := (⟨"com/example/typecheck/typecheck/model/QName", "equals", "(Ljava/lang/Object;)Z"⟩ : MethodName)) (z := (⟨"com/example/typecheck/typecheck/model/QName", "equals", "(Ljava/lang/Object;)Z"⟩ : MethodName)) ho577 (mvT hZ577 (own_w hw 73 rfl)) (mvT hZ577 (own_w hw 74 rfl)) (notFace_of_selects (args := #[]) (mvT hZ577 (own_w hw 76 rfl))) (mvT hZ577 (own_w hw 76 rfl)) (mvT hZ577 (own_w hw 75 rfl)) (by decide) (backOf (W := 0) (rm_qeq l Z a0 hw [] b678 (((31 : Int32) * (own_H (own_cs p3))) + (own_H (own_cs p2))) x44 x45 x46 (own_cs p3) x516 x517 x518 (own_cs p2) b633 (((31 : Int32) * (own_H (own_cs p1))) + (own_H (own_cs p2))) x2 x3 x4 (own_cs p1) x21 x22 x23 (own_cs p2) zc T700.heap n0 O729 f717 f720 f718 f719 f721 f722 f723 f738 f739 f724 f725 f726 f801 f802 (own_csok p3) (own_csok p2) f792 f793 f794 f795 f733 f734 f735 f736 f737 f796 f797 f798 f799 f800 (own_csok p1) (own_csok p2) (Ne.symm ne693) S_C hzc) hZ577 (own_w hw 77 rfl) (own_w hw 28 rfl) (by decide) (by decide)) q817a q817c (g := (mkF m 154 #[.val (.int p1), .val (.int p2), .val (.int p3), .val (.int p4), .val (.int p5), .val (.int p6), .val (.ref x2), .val (.ref x21), .val (.ref x44), .val (.ref x516), .val (.ref x545), .val (.ref x578), .val (.ref b633), .val (.ref b678), .val (.int (((p6.toUInt32 >>> ((2 : Int32) &&& 31).toUInt32).toInt32) &&& (3 : Int32))), .val (.int (0 : Int32))] [(.ref b633), (.ref b678)])) rfl (by rw [hml]; rfl) (Steps.refl _) (argsL := [(.ref b633)]) (rest := []) (lenOf pd_11 rfl) rfl (by show 2 * 0 + _ ≤ _; exact Nat.le_of_eq rfl) (hb hby at_154) (fun _ _ => ⟨rfl, k809, (by decide : 38 + 0 ≤ _), (by decide : 80 + 0 ≤ _)⟩)
            dsimp only [Pt.U, Pt.locs, Pt.cells, Pt.slots] at X817 l817 y817 z817 st817 hQ817
            subst l817 y817 z817
            rcases hQ817 with ⟨c818, c819, rfl, N820, k821⟩ | ⟨c822, rfl, N823, k824⟩ | ⟨c825, rfl, N826, k827⟩ | ⟨c828, rfl, N829, k830⟩
            · exact absurd c819 ((fun q => c744 q.symm) : ¬ ((own_cs p3) = (own_cs p1)))
            · have N831 := Fr.app N816 N823
              have S832 : ∀ t, Steps p.tables e below (T817.setTop (mkF m 167 #[.val (.int p1), .val (.int p2), .val (.int p3), .val (.int p4), .val (.int p5), .val (.int p6), .val (.ref x2), .val (.ref x21), .val (.ref x44), .val (.ref x516), .val (.ref x545), .val (.ref x578), .val (.ref b633), .val (.ref b678), .val (.int (((p6.toUInt32 >>> ((2 : Int32) &&& 31).toUInt32).toInt32) &&& (3 : Int32))), .val (.int (0 : Int32))] [(.int (1 : Int32))])) t → Steps p.tables e below (s₁.setTop (mkF m 0 #[.val (.int p1), .val (.int p2), .val (.int p3), .val (.int p4), .val (.int p5), .val (.int p6), .unset, .unset, .unset, .unset, .unset, .unset, .unset, .unset, .unset, .unset] [])) t := by
                intro t kt
                refine S743 t ?_
                refine XS.ifYes X732.here hx rfl (pc0 := 118) (pc' := 135) rfl (hb hby at_118) rfl ((if0 _ _).trans (teq ((own_eq0 c744) : (own_eqI (own_cs p1) (own_cs p3)) = (0 : Int32))).1) (by decide) (by decide) ?_
                refine XS.iconst X732.here hx rfl (hb hby at_135) ?_
                refine XS.istore X732.here hx rfl (hb hby at_136) rfl (l' := #[.val (.int p1), .val (.int p2), .val (.int p3), .val (.int p4), .val (.int p5), .val (.int p6), .val (.ref x2), .val (.ref x21), .val (.ref x44), .val (.ref x516), .val (.ref x545), .val (.ref x578), .val (.ref b633), .val (.ref b678), .val (.int (((p6.toUInt32 >>> ((2 : Int32) &&& 31).toUInt32).toInt32) &&& (3 : Int32))), .val (.int (0 : Int32))]) rfl ?_
                refine XS.aload X732.here hx rfl (hb hby at_138) rfl rfl ?_
                refine XS.aload X732.here hx rfl (hb hby at_140) rfl rfl ?_
                show Steps p.tables e below (T732.setTop (mkF m 142 #[.val (.int p1), .val (.int p2), .val (.int p3), .val (.int p4), .val (.int p5), .val (.int p6), .val (.ref x2), .val (.ref x21), .val (.ref x44), .val (.ref x516), .val (.ref x545), .val (.ref x578), .val (.ref b633), .val (.ref b678), .val (.int (((p6.toUInt32 >>> ((2 : Int32) &&& 31).toUInt32).toInt32) &&& (3 : Int32))), .val (.int (0 : Int32))] [(.ref b678), (.ref b633)])) _
                refine st791.trans ?_
                refine XS.iload X791.here hx rfl (hb hby at_145) rfl ?_
                refine XS.icmpNo X791.here hx rfl (hb hby at_147) rfl (teq ((by decide) : (0 : Int32) = (0 : Int32))).2 ?_
                refine XS.aload X791.here hx rfl (hb hby at_150) rfl rfl ?_
                refine XS.aload X791.here hx rfl (hb hby at_152) rfl rfl ?_
                show Steps p.tables e below (T791.setTop (mkF m 154 #[.val (.int p1), .val (.int p2), .val (.int p3), .val (.int p4), .val (.int p5), .val (.int p6), .val (.ref x2), .val (.ref x21), .val (.ref x44), .val (.ref x516), .val (.ref x545), .val (.ref x578), .val (.ref b633), .val (.ref b678), .val (.int (((p6.toUInt32 >>> ((2 : Int32) &&& 31).toUInt32).toInt32) &&& (3 : Int32))), .val (.int (0 : Int32))] [(.ref b633), (.ref b678)])) _
                refine st817.trans ?_
                refine XS.iload X817.here hx rfl (hb hby at_157) rfl ?_
                refine XS.icmpNo X817.here hx rfl (hb hby at_159) rfl (teq ((by decide) : (0 : Int32) = (0 : Int32))).2 ?_
                refine XS.iconst X817.here hx rfl (hb hby at_162) ?_
                refine XS.goto X817.here hx rfl (pc0 := 163) (pc' := 167) rfl (hb hby at_163) (by decide) (by decide) ?_
                exact kt
              obtain ⟨fs, hr, hrun, hended, hRW⟩ := X817.leaveW hS577 (by rw [k824]; exact hk728) (v := some (.int (1 : Int32))) (fun h => by rw [Bd.returns] at h; cases h)
              refine ⟨_, _, pre0 _ (S832 _ ?_), hrun, hended, _, _, rfl, ?_, hRW.1, hRW.2.1, hRW.2.2.1, hRW.2.2.2.mono (by decide) (by decide)⟩
              · exact retN X817 hx (t := .boolean) Bd.returns (by simp) (hb hby at_167) hr
              · show Q_rm_law Z p1 p2 p3 p4 p5 p6 zc fm h0 n0 _ T817.heap _
                rw [k824]
                exact ⟨rfl, N831⟩
            · exact absurd (rfl : (own_cs p2) = (own_cs p2)) c825
            · have N833 := Fr.app N816 N829
              have S834 : ∀ t, Steps p.tables e below (T817.setTop (mkF m 167 #[.val (.int p1), .val (.int p2), .val (.int p3), .val (.int p4), .val (.int p5), .val (.int p6), .val (.ref x2), .val (.ref x21), .val (.ref x44), .val (.ref x516), .val (.ref x545), .val (.ref x578), .val (.ref b633), .val (.ref b678), .val (.int (((p6.toUInt32 >>> ((2 : Int32) &&& 31).toUInt32).toInt32) &&& (3 : Int32))), .val (.int (0 : Int32))] [(.int (1 : Int32))])) t → Steps p.tables e below (s₁.setTop (mkF m 0 #[.val (.int p1), .val (.int p2), .val (.int p3), .val (.int p4), .val (.int p5), .val (.int p6), .unset, .unset, .unset, .unset, .unset, .unset, .unset, .unset, .unset, .unset] [])) t := by
                intro t kt
                refine S743 t ?_
                refine XS.ifYes X732.here hx rfl (pc0 := 118) (pc' := 135) rfl (hb hby at_118) rfl ((if0 _ _).trans (teq ((own_eq0 c744) : (own_eqI (own_cs p1) (own_cs p3)) = (0 : Int32))).1) (by decide) (by decide) ?_
                refine XS.iconst X732.here hx rfl (hb hby at_135) ?_
                refine XS.istore X732.here hx rfl (hb hby at_136) rfl (l' := #[.val (.int p1), .val (.int p2), .val (.int p3), .val (.int p4), .val (.int p5), .val (.int p6), .val (.ref x2), .val (.ref x21), .val (.ref x44), .val (.ref x516), .val (.ref x545), .val (.ref x578), .val (.ref b633), .val (.ref b678), .val (.int (((p6.toUInt32 >>> ((2 : Int32) &&& 31).toUInt32).toInt32) &&& (3 : Int32))), .val (.int (0 : Int32))]) rfl ?_
                refine XS.aload X732.here hx rfl (hb hby at_138) rfl rfl ?_
                refine XS.aload X732.here hx rfl (hb hby at_140) rfl rfl ?_
                show Steps p.tables e below (T732.setTop (mkF m 142 #[.val (.int p1), .val (.int p2), .val (.int p3), .val (.int p4), .val (.int p5), .val (.int p6), .val (.ref x2), .val (.ref x21), .val (.ref x44), .val (.ref x516), .val (.ref x545), .val (.ref x578), .val (.ref b633), .val (.ref b678), .val (.int (((p6.toUInt32 >>> ((2 : Int32) &&& 31).toUInt32).toInt32) &&& (3 : Int32))), .val (.int (0 : Int32))] [(.ref b678), (.ref b633)])) _
                refine st791.trans ?_
                refine XS.iload X791.here hx rfl (hb hby at_145) rfl ?_
                refine XS.icmpNo X791.here hx rfl (hb hby at_147) rfl (teq ((by decide) : (0 : Int32) = (0 : Int32))).2 ?_
                refine XS.aload X791.here hx rfl (hb hby at_150) rfl rfl ?_
                refine XS.aload X791.here hx rfl (hb hby at_152) rfl rfl ?_
                show Steps p.tables e below (T791.setTop (mkF m 154 #[.val (.int p1), .val (.int p2), .val (.int p3), .val (.int p4), .val (.int p5), .val (.int p6), .val (.ref x2), .val (.ref x21), .val (.ref x44), .val (.ref x516), .val (.ref x545), .val (.ref x578), .val (.ref b633), .val (.ref b678), .val (.int (((p6.toUInt32 >>> ((2 : Int32) &&& 31).toUInt32).toInt32) &&& (3 : Int32))), .val (.int (0 : Int32))] [(.ref b633), (.ref b678)])) _
                refine st817.trans ?_
                refine XS.iload X817.here hx rfl (hb hby at_157) rfl ?_
                refine XS.icmpNo X817.here hx rfl (hb hby at_159) rfl (teq ((by decide) : (0 : Int32) = (0 : Int32))).2 ?_
                refine XS.iconst X817.here hx rfl (hb hby at_162) ?_
                refine XS.goto X817.here hx rfl (pc0 := 163) (pc' := 167) rfl (hb hby at_163) (by decide) (by decide) ?_
                exact kt
              obtain ⟨fs, hr, hrun, hended, hRW⟩ := X817.leaveW hS577 (by rw [k830]; exact hk728) (v := some (.int (1 : Int32))) (fun h => by rw [Bd.returns] at h; cases h)
              refine ⟨_, _, pre0 _ (S834 _ ?_), hrun, hended, _, _, rfl, ?_, hRW.1, hRW.2.1, hRW.2.2.1, hRW.2.2.2.mono (by decide) (by decide)⟩
              · exact retN X817 hx (t := .boolean) Bd.returns (by simp) (hb hby at_167) hr
              · show Q_rm_law Z p1 p2 p3 p4 p5 p6 zc fm h0 n0 _ T817.heap _
                rw [k830]
                exact ⟨rfl, N833⟩
          · exact absurd (rfl : (own_cs p2) = (own_cs p2)) c810
          · have N835 := Fr.app N742 N814
            obtain ⟨cq836, kq836, q836a, q836b, q836c⟩ := isOf hZ577 k815 f717
            obtain ⟨_, _, ⟨T836, L836, k836, n836⟩, -, X836, ⟨Lc836, hQ836, l836, y836, z836⟩, st836⟩ := X791.virtualBack hx (y := (⟨"com/example/typecheck/typecheck/model/QName", "equals", "(Ljava/lang/Object;)Z"⟩ : MethodName)) (z := (⟨"com/example/typecheck/typecheck/model/QName", "equals", "(Ljava/lang/Object;)Z"⟩ : MethodName)) ho577 (mvT hZ577 (own_w hw 73 rfl)) (mvT hZ577 (own_w hw 74 rfl)) (notFace_of_selects (args := #[]) (mvT hZ577 (own_w hw 76 rfl))) (mvT hZ577 (own_w hw 76 rfl)) (mvT hZ577 (own_w hw 75 rfl)) (by decide) (backOf (W := 0) (rm_qeq l Z a0 hw [] b678 (((31 : Int32) * (own_H (own_cs p3))) + (own_H (own_cs p2))) x44 x45 x46 (own_cs p3) x516 x517 x518 (own_cs p2) b633 (((31 : Int32) * (own_H (own_cs p1))) + (own_H (own_cs p2))) x2 x3 x4 (own_cs p1) x21 x22 x23 (own_cs p2) zc T700.heap n0 O729 f717 f720 f718 f719 f721 f722 f723 f738 f739 f724 f725 f726 f801 f802 (own_csok p3) (own_csok p2) f792 f793 f794 f795 f733 f734 f735 f736 f737 f796 f797 f798 f799 f800 (own_csok p1) (own_csok p2) (Ne.symm ne693) S_C hzc) hZ577 (own_w hw 77 rfl) (own_w hw 28 rfl) (by decide) (by decide)) q836a q836c (g := (mkF m 154 #[.val (.int p1), .val (.int p2), .val (.int p3), .val (.int p4), .val (.int p5), .val (.int p6), .val (.ref x2), .val (.ref x21), .val (.ref x44), .val (.ref x516), .val (.ref x545), .val (.ref x578), .val (.ref b633), .val (.ref b678), .val (.int (((p6.toUInt32 >>> ((2 : Int32) &&& 31).toUInt32).toInt32) &&& (3 : Int32))), .val (.int (0 : Int32))] [(.ref b633), (.ref b678)])) rfl (by rw [hml]; rfl) (Steps.refl _) (argsL := [(.ref b633)]) (rest := []) (lenOf pd_11 rfl) rfl (by show 2 * 0 + _ ≤ _; exact Nat.le_of_eq rfl) (hb hby at_154) (fun _ _ => ⟨rfl, k815, (by decide : 38 + 0 ≤ _), (by decide : 80 + 0 ≤ _)⟩)
            dsimp only [Pt.U, Pt.locs, Pt.cells, Pt.slots] at X836 l836 y836 z836 st836 hQ836
            subst l836 y836 z836
            rcases hQ836 with ⟨c837, c838, rfl, N839, k840⟩ | ⟨c841, rfl, N842, k843⟩ | ⟨c844, rfl, N845, k846⟩ | ⟨c847, rfl, N848, k849⟩
            · exact absurd c838 ((fun q => c744 q.symm) : ¬ ((own_cs p3) = (own_cs p1)))
            · have N850 := Fr.app N835 N842
              have S851 : ∀ t, Steps p.tables e below (T836.setTop (mkF m 167 #[.val (.int p1), .val (.int p2), .val (.int p3), .val (.int p4), .val (.int p5), .val (.int p6), .val (.ref x2), .val (.ref x21), .val (.ref x44), .val (.ref x516), .val (.ref x545), .val (.ref x578), .val (.ref b633), .val (.ref b678), .val (.int (((p6.toUInt32 >>> ((2 : Int32) &&& 31).toUInt32).toInt32) &&& (3 : Int32))), .val (.int (0 : Int32))] [(.int (1 : Int32))])) t → Steps p.tables e below (s₁.setTop (mkF m 0 #[.val (.int p1), .val (.int p2), .val (.int p3), .val (.int p4), .val (.int p5), .val (.int p6), .unset, .unset, .unset, .unset, .unset, .unset, .unset, .unset, .unset, .unset] [])) t := by
                intro t kt
                refine S743 t ?_
                refine XS.ifYes X732.here hx rfl (pc0 := 118) (pc' := 135) rfl (hb hby at_118) rfl ((if0 _ _).trans (teq ((own_eq0 c744) : (own_eqI (own_cs p1) (own_cs p3)) = (0 : Int32))).1) (by decide) (by decide) ?_
                refine XS.iconst X732.here hx rfl (hb hby at_135) ?_
                refine XS.istore X732.here hx rfl (hb hby at_136) rfl (l' := #[.val (.int p1), .val (.int p2), .val (.int p3), .val (.int p4), .val (.int p5), .val (.int p6), .val (.ref x2), .val (.ref x21), .val (.ref x44), .val (.ref x516), .val (.ref x545), .val (.ref x578), .val (.ref b633), .val (.ref b678), .val (.int (((p6.toUInt32 >>> ((2 : Int32) &&& 31).toUInt32).toInt32) &&& (3 : Int32))), .val (.int (0 : Int32))]) rfl ?_
                refine XS.aload X732.here hx rfl (hb hby at_138) rfl rfl ?_
                refine XS.aload X732.here hx rfl (hb hby at_140) rfl rfl ?_
                show Steps p.tables e below (T732.setTop (mkF m 142 #[.val (.int p1), .val (.int p2), .val (.int p3), .val (.int p4), .val (.int p5), .val (.int p6), .val (.ref x2), .val (.ref x21), .val (.ref x44), .val (.ref x516), .val (.ref x545), .val (.ref x578), .val (.ref b633), .val (.ref b678), .val (.int (((p6.toUInt32 >>> ((2 : Int32) &&& 31).toUInt32).toInt32) &&& (3 : Int32))), .val (.int (0 : Int32))] [(.ref b678), (.ref b633)])) _
                refine st791.trans ?_
                refine XS.iload X791.here hx rfl (hb hby at_145) rfl ?_
                refine XS.icmpNo X791.here hx rfl (hb hby at_147) rfl (teq ((by decide) : (0 : Int32) = (0 : Int32))).2 ?_
                refine XS.aload X791.here hx rfl (hb hby at_150) rfl rfl ?_
                refine XS.aload X791.here hx rfl (hb hby at_152) rfl rfl ?_
                show Steps p.tables e below (T791.setTop (mkF m 154 #[.val (.int p1), .val (.int p2), .val (.int p3), .val (.int p4), .val (.int p5), .val (.int p6), .val (.ref x2), .val (.ref x21), .val (.ref x44), .val (.ref x516), .val (.ref x545), .val (.ref x578), .val (.ref b633), .val (.ref b678), .val (.int (((p6.toUInt32 >>> ((2 : Int32) &&& 31).toUInt32).toInt32) &&& (3 : Int32))), .val (.int (0 : Int32))] [(.ref b633), (.ref b678)])) _
                refine st836.trans ?_
                refine XS.iload X836.here hx rfl (hb hby at_157) rfl ?_
                refine XS.icmpNo X836.here hx rfl (hb hby at_159) rfl (teq ((by decide) : (0 : Int32) = (0 : Int32))).2 ?_
                refine XS.iconst X836.here hx rfl (hb hby at_162) ?_
                refine XS.goto X836.here hx rfl (pc0 := 163) (pc' := 167) rfl (hb hby at_163) (by decide) (by decide) ?_
                exact kt
              obtain ⟨fs, hr, hrun, hended, hRW⟩ := X836.leaveW hS577 (by rw [k843]; exact hk728) (v := some (.int (1 : Int32))) (fun h => by rw [Bd.returns] at h; cases h)
              refine ⟨_, _, pre0 _ (S851 _ ?_), hrun, hended, _, _, rfl, ?_, hRW.1, hRW.2.1, hRW.2.2.1, hRW.2.2.2.mono (by decide) (by decide)⟩
              · exact retN X836 hx (t := .boolean) Bd.returns (by simp) (hb hby at_167) hr
              · show Q_rm_law Z p1 p2 p3 p4 p5 p6 zc fm h0 n0 _ T836.heap _
                rw [k843]
                exact ⟨rfl, N850⟩
            · exact absurd (rfl : (own_cs p2) = (own_cs p2)) c844
            · have N852 := Fr.app N835 N848
              have S853 : ∀ t, Steps p.tables e below (T836.setTop (mkF m 167 #[.val (.int p1), .val (.int p2), .val (.int p3), .val (.int p4), .val (.int p5), .val (.int p6), .val (.ref x2), .val (.ref x21), .val (.ref x44), .val (.ref x516), .val (.ref x545), .val (.ref x578), .val (.ref b633), .val (.ref b678), .val (.int (((p6.toUInt32 >>> ((2 : Int32) &&& 31).toUInt32).toInt32) &&& (3 : Int32))), .val (.int (0 : Int32))] [(.int (1 : Int32))])) t → Steps p.tables e below (s₁.setTop (mkF m 0 #[.val (.int p1), .val (.int p2), .val (.int p3), .val (.int p4), .val (.int p5), .val (.int p6), .unset, .unset, .unset, .unset, .unset, .unset, .unset, .unset, .unset, .unset] [])) t := by
                intro t kt
                refine S743 t ?_
                refine XS.ifYes X732.here hx rfl (pc0 := 118) (pc' := 135) rfl (hb hby at_118) rfl ((if0 _ _).trans (teq ((own_eq0 c744) : (own_eqI (own_cs p1) (own_cs p3)) = (0 : Int32))).1) (by decide) (by decide) ?_
                refine XS.iconst X732.here hx rfl (hb hby at_135) ?_
                refine XS.istore X732.here hx rfl (hb hby at_136) rfl (l' := #[.val (.int p1), .val (.int p2), .val (.int p3), .val (.int p4), .val (.int p5), .val (.int p6), .val (.ref x2), .val (.ref x21), .val (.ref x44), .val (.ref x516), .val (.ref x545), .val (.ref x578), .val (.ref b633), .val (.ref b678), .val (.int (((p6.toUInt32 >>> ((2 : Int32) &&& 31).toUInt32).toInt32) &&& (3 : Int32))), .val (.int (0 : Int32))]) rfl ?_
                refine XS.aload X732.here hx rfl (hb hby at_138) rfl rfl ?_
                refine XS.aload X732.here hx rfl (hb hby at_140) rfl rfl ?_
                show Steps p.tables e below (T732.setTop (mkF m 142 #[.val (.int p1), .val (.int p2), .val (.int p3), .val (.int p4), .val (.int p5), .val (.int p6), .val (.ref x2), .val (.ref x21), .val (.ref x44), .val (.ref x516), .val (.ref x545), .val (.ref x578), .val (.ref b633), .val (.ref b678), .val (.int (((p6.toUInt32 >>> ((2 : Int32) &&& 31).toUInt32).toInt32) &&& (3 : Int32))), .val (.int (0 : Int32))] [(.ref b678), (.ref b633)])) _
                refine st791.trans ?_
                refine XS.iload X791.here hx rfl (hb hby at_145) rfl ?_
                refine XS.icmpNo X791.here hx rfl (hb hby at_147) rfl (teq ((by decide) : (0 : Int32) = (0 : Int32))).2 ?_
                refine XS.aload X791.here hx rfl (hb hby at_150) rfl rfl ?_
                refine XS.aload X791.here hx rfl (hb hby at_152) rfl rfl ?_
                show Steps p.tables e below (T791.setTop (mkF m 154 #[.val (.int p1), .val (.int p2), .val (.int p3), .val (.int p4), .val (.int p5), .val (.int p6), .val (.ref x2), .val (.ref x21), .val (.ref x44), .val (.ref x516), .val (.ref x545), .val (.ref x578), .val (.ref b633), .val (.ref b678), .val (.int (((p6.toUInt32 >>> ((2 : Int32) &&& 31).toUInt32).toInt32) &&& (3 : Int32))), .val (.int (0 : Int32))] [(.ref b633), (.ref b678)])) _
                refine st836.trans ?_
                refine XS.iload X836.here hx rfl (hb hby at_157) rfl ?_
                refine XS.icmpNo X836.here hx rfl (hb hby at_159) rfl (teq ((by decide) : (0 : Int32) = (0 : Int32))).2 ?_
                refine XS.iconst X836.here hx rfl (hb hby at_162) ?_
                refine XS.goto X836.here hx rfl (pc0 := 163) (pc' := 167) rfl (hb hby at_163) (by decide) (by decide) ?_
                exact kt
              obtain ⟨fs, hr, hrun, hended, hRW⟩ := X836.leaveW hS577 (by rw [k849]; exact hk728) (v := some (.int (1 : Int32))) (fun h => by rw [Bd.returns] at h; cases h)
              refine ⟨_, _, pre0 _ (S853 _ ?_), hrun, hended, _, _, rfl, ?_, hRW.1, hRW.2.1, hRW.2.2.1, hRW.2.2.2.mono (by decide) (by decide)⟩
              · exact retN X836 hx (t := .boolean) Bd.returns (by simp) (hb hby at_167) hr
              · show Q_rm_law Z p1 p2 p3 p4 p5 p6 zc fm h0 n0 _ T836.heap _
                rw [k849]
                exact ⟨rfl, N852⟩
      · have S854 : ∀ t, Steps p.tables e below (T700.setTop (mkF m 171 #[.val (.int p1), .val (.int p2), .val (.int p3), .val (.int p4), .val (.int p5), .val (.int p6), .val (.ref x2), .val (.ref x21), .val (.ref x44), .val (.ref x516), .val (.ref x545), .val (.ref x578), .val (.ref b633), .val (.ref b678), .val (.int (((p6.toUInt32 >>> ((2 : Int32) &&& 31).toUInt32).toInt32) &&& (3 : Int32))), .unset] [(.int (1 : Int32)), (.int (((p6.toUInt32 >>> ((2 : Int32) &&& 31).toUInt32).toInt32) &&& (3 : Int32)))])) t → Steps p.tables e below (s₁.setTop (mkF m 0 #[.val (.int p1), .val (.int p2), .val (.int p3), .val (.int p4), .val (.int p5), .val (.int p6), .unset, .unset, .unset, .unset, .unset, .unset, .unset, .unset, .unset, .unset] [])) t := by
          intro t kt
          refine S730 t ?_
          refine XS.ifYes X700.here hx rfl (pc0 := 108) (pc' := 168) rfl (hb hby at_108) rfl ((if0 _ _).trans (feq (c731 : ¬ ((((p6.toUInt32 >>> ((2 : Int32) &&& 31).toUInt32).toInt32) &&& (3 : Int32)) = (0 : Int32)))).2) (by decide) (by decide) ?_
          refine XS.iload X700.here hx rfl (hb hby at_168) rfl ?_
          refine XS.iconst X700.here hx rfl (hb hby at_170) ?_
          exact kt
        rcases Decidable.em ((((p6.toUInt32 >>> ((2 : Int32) &&& 31).toUInt32).toInt32) &&& (3 : Int32)) = (1 : Int32)) with c855 | c855
        · have f857 := (Exa.keep (Exa.ext E678 f665) k716)
          obtain ⟨cq856, kq856, q856a, q856b, q856c⟩ := isOf hZ577 rfl f857
          obtain ⟨_, _, ⟨T856, L856, k856, n856⟩, -, X856, ⟨Lc856, hQ856, l856, y856, z856⟩, st856⟩ := X700.virtualBack hx (y := (⟨"com/example/typecheck/typecheck/model/QName", "equals", "(Ljava/lang/Object;)Z"⟩ : MethodName)) (z := (⟨"com/example/typecheck/typecheck/model/QName", "equals", "(Ljava/lang/Object;)Z"⟩ : MethodName)) ho577 (mvT hZ577 (own_w hw 73 rfl)) (mvT hZ577 (own_w hw 74 rfl)) (notFace_of_selects (args := #[]) (mvT hZ577 (own_w hw 76 rfl))) (mvT hZ577 (own_w hw 76 rfl)) (mvT hZ577 (own_w hw 75 rfl)) (by decide) (backOf (W := 0) (rm_qeqs l Z a0 hw [] b633 T700.heap n0 O729 ) hZ577 (own_w hw 77 rfl) (own_w hw 28 rfl) (by decide) (by decide)) q856a q856c (g := (mkF m 178 #[.val (.int p1), .val (.int p2), .val (.int p3), .val (.int p4), .val (.int p5), .val (.int p6), .val (.ref x2), .val (.ref x21), .val (.ref x44), .val (.ref x516), .val (.ref x545), .val (.ref x578), .val (.ref b633), .val (.ref b678), .val (.int (((p6.toUInt32 >>> ((2 : Int32) &&& 31).toUInt32).toInt32) &&& (3 : Int32))), .unset] [(.ref b633), (.ref b633)])) rfl (by rw [hml]; rfl) (Steps.refl _) (argsL := [(.ref b633)]) (rest := []) (lenOf pd_11 rfl) rfl (by show 2 * 0 + _ ≤ _; exact Nat.le_of_eq rfl) (hb hby at_178) (fun _ _ => ⟨rfl, rfl, (by decide : 38 + 0 ≤ _), (by decide : 80 + 0 ≤ _)⟩)
          dsimp only [Pt.U, Pt.locs, Pt.cells, Pt.slots] at X856 l856 y856 z856 st856 hQ856
          subst l856 y856 z856
          obtain ⟨rfl, N858, k859⟩ := hQ856
          have N860 := Fr.app N727 N858
          have S861 : ∀ t, Steps p.tables e below (T856.setTop (mkF m 181 #[.val (.int p1), .val (.int p2), .val (.int p3), .val (.int p4), .val (.int p5), .val (.int p6), .val (.ref x2), .val (.ref x21), .val (.ref x44), .val (.ref x516), .val (.ref x545), .val (.ref x578), .val (.ref b633), .val (.ref b678), .val (.int (((p6.toUInt32 >>> ((2 : Int32) &&& 31).toUInt32).toInt32) &&& (3 : Int32))), .unset] [(.int (1 : Int32))])) t → Steps p.tables e below (s₁.setTop (mkF m 0 #[.val (.int p1), .val (.int p2), .val (.int p3), .val (.int p4), .val (.int p5), .val (.int p6), .unset, .unset, .unset, .unset, .unset, .unset, .unset, .unset, .unset, .unset] [])) t := by
            intro t kt
            refine S854 t ?_
            refine XS.icmpNo X700.here hx rfl (hb hby at_171) rfl (teq (c855 : (((p6.toUInt32 >>> ((2 : Int32) &&& 31).toUInt32).toInt32) &&& (3 : Int32)) = (1 : Int32))).2 ?_
            refine XS.aload X700.here hx rfl (hb hby at_174) rfl rfl ?_
            refine XS.aload X700.here hx rfl (hb hby at_176) rfl rfl ?_
            show Steps p.tables e below (T700.setTop (mkF m 178 #[.val (.int p1), .val (.int p2), .val (.int p3), .val (.int p4), .val (.int p5), .val (.int p6), .val (.ref x2), .val (.ref x21), .val (.ref x44), .val (.ref x516), .val (.ref x545), .val (.ref x578), .val (.ref b633), .val (.ref b678), .val (.int (((p6.toUInt32 >>> ((2 : Int32) &&& 31).toUInt32).toInt32) &&& (3 : Int32))), .unset] [(.ref b633), (.ref b633)])) _
            refine st856.trans ?_
            exact kt
          obtain ⟨fs, hr, hrun, hended, hRW⟩ := X856.leaveW hS577 (by rw [k859]; exact hk728) (v := some (.int (1 : Int32))) (fun h => by rw [Bd.returns] at h; cases h)
          refine ⟨_, _, pre0 _ (S861 _ ?_), hrun, hended, _, _, rfl, ?_, hRW.1, hRW.2.1, hRW.2.2.1, hRW.2.2.2.mono (by decide) (by decide)⟩
          · exact retN X856 hx (t := .boolean) Bd.returns (by simp) (hb hby at_181) hr
          · show Q_rm_law Z p1 p2 p3 p4 p5 p6 zc fm h0 n0 _ T856.heap _
            rw [k859]
            exact ⟨rfl, N860⟩
        · have S862 : ∀ t, Steps p.tables e below (T700.setTop (mkF m 185 #[.val (.int p1), .val (.int p2), .val (.int p3), .val (.int p4), .val (.int p5), .val (.int p6), .val (.ref x2), .val (.ref x21), .val (.ref x44), .val (.ref x516), .val (.ref x545), .val (.ref x578), .val (.ref b633), .val (.ref b678), .val (.int (((p6.toUInt32 >>> ((2 : Int32) &&& 31).toUInt32).toInt32) &&& (3 : Int32))), .unset] [(.int (2 : Int32)), (.int (((p6.toUInt32 >>> ((2 : Int32) &&& 31).toUInt32).toInt32) &&& (3 : Int32)))])) t → Steps p.tables e below (s₁.setTop (mkF m 0 #[.val (.int p1), .val (.int p2), .val (.int p3), .val (.int p4), .val (.int p5), .val (.int p6), .unset, .unset, .unset, .unset, .unset, .unset, .unset, .unset, .unset, .unset] [])) t := by
            intro t kt
            refine S854 t ?_
            refine XS.icmpYes X700.here hx rfl (pc0 := 171) (pc' := 182) rfl (hb hby at_171) rfl (feq (c855 : ¬ ((((p6.toUInt32 >>> ((2 : Int32) &&& 31).toUInt32).toInt32) &&& (3 : Int32)) = (1 : Int32)))).2 (by decide) (by decide) ?_
            refine XS.iload X700.here hx rfl (hb hby at_182) rfl ?_
            refine XS.iconst X700.here hx rfl (hb hby at_184) ?_
            exact kt
          rcases Decidable.em ((((p6.toUInt32 >>> ((2 : Int32) &&& 31).toUInt32).toInt32) &&& (3 : Int32)) = (2 : Int32)) with c863 | c863
          · have f865 := (Exa.keep (Exa.ext E678 f665) k716)
            obtain ⟨cq864, kq864, q864a, q864b, q864c⟩ := isOf hZ577 rfl f865
            obtain ⟨_, _, ⟨T864, L864, k864, n864⟩, -, X864, ⟨Lc864, hQ864, l864, y864, z864⟩, st864⟩ := X700.virtualBack hx (y := (⟨"com/example/typecheck/typecheck/model/QName", "equals", "(Ljava/lang/Object;)Z"⟩ : MethodName)) (z := (⟨"com/example/typecheck/typecheck/model/QName", "equals", "(Ljava/lang/Object;)Z"⟩ : MethodName)) ho577 (mvT hZ577 (own_w hw 73 rfl)) (mvT hZ577 (own_w hw 74 rfl)) (notFace_of_selects (args := #[]) (mvT hZ577 (own_w hw 76 rfl))) (mvT hZ577 (own_w hw 76 rfl)) (mvT hZ577 (own_w hw 75 rfl)) (by decide) (backOf (W := 0) (rm_qeqn l Z a0 hw [] b633 T700.heap n0 O729 ) hZ577 (own_w hw 77 rfl) (own_w hw 28 rfl) (by decide) (by decide)) q864a q864c (g := (mkF m 191 #[.val (.int p1), .val (.int p2), .val (.int p3), .val (.int p4), .val (.int p5), .val (.int p6), .val (.ref x2), .val (.ref x21), .val (.ref x44), .val (.ref x516), .val (.ref x545), .val (.ref x578), .val (.ref b633), .val (.ref b678), .val (.int (((p6.toUInt32 >>> ((2 : Int32) &&& 31).toUInt32).toInt32) &&& (3 : Int32))), .unset] [.null, (.ref b633)])) rfl (by rw [hml]; rfl) (Steps.refl _) (argsL := [.null]) (rest := []) (lenOf pd_11 rfl) rfl (by show 2 * 0 + _ ≤ _; exact Nat.le_of_eq rfl) (hb hby at_191) (fun _ _ => ⟨rfl, rfl, (by decide : 38 + 0 ≤ _), (by decide : 80 + 0 ≤ _)⟩)
            dsimp only [Pt.U, Pt.locs, Pt.cells, Pt.slots] at X864 l864 y864 z864 st864 hQ864
            subst l864 y864 z864
            obtain ⟨rfl, N866, k867⟩ := hQ864
            have N868 := Fr.app N727 N866
            have S869 : ∀ t, Steps p.tables e below (T864.setTop (mkF m 202 #[.val (.int p1), .val (.int p2), .val (.int p3), .val (.int p4), .val (.int p5), .val (.int p6), .val (.ref x2), .val (.ref x21), .val (.ref x44), .val (.ref x516), .val (.ref x545), .val (.ref x578), .val (.ref b633), .val (.ref b678), .val (.int (((p6.toUInt32 >>> ((2 : Int32) &&& 31).toUInt32).toInt32) &&& (3 : Int32))), .unset] [(.int (1 : Int32))])) t → Steps p.tables e below (s₁.setTop (mkF m 0 #[.val (.int p1), .val (.int p2), .val (.int p3), .val (.int p4), .val (.int p5), .val (.int p6), .unset, .unset, .unset, .unset, .unset, .unset, .unset, .unset, .unset, .unset] [])) t := by
              intro t kt
              refine S862 t ?_
              refine XS.icmpNo X700.here hx rfl (hb hby at_185) rfl (teq (c863 : (((p6.toUInt32 >>> ((2 : Int32) &&& 31).toUInt32).toInt32) &&& (3 : Int32)) = (2 : Int32))).2 ?_
              refine XS.aload X700.here hx rfl (hb hby at_188) rfl rfl ?_
              refine XS.aconstNull X700.here hx rfl (hb hby at_190) ?_
              show Steps p.tables e below (T700.setTop (mkF m 191 #[.val (.int p1), .val (.int p2), .val (.int p3), .val (.int p4), .val (.int p5), .val (.int p6), .val (.ref x2), .val (.ref x21), .val (.ref x44), .val (.ref x516), .val (.ref x545), .val (.ref x578), .val (.ref b633), .val (.ref b678), .val (.int (((p6.toUInt32 >>> ((2 : Int32) &&& 31).toUInt32).toInt32) &&& (3 : Int32))), .unset] [.null, (.ref b633)])) _
              refine st864.trans ?_
              refine XS.ifNo X864.here hx rfl (hb hby at_194) rfl ((if0 _ _).trans (teq ((by decide) : (0 : Int32) = (0 : Int32))).2) ?_
              refine XS.iconst X864.here hx rfl (hb hby at_197) ?_
              refine XS.goto X864.here hx rfl (pc0 := 198) (pc' := 202) rfl (hb hby at_198) (by decide) (by decide) ?_
              exact kt
            obtain ⟨fs, hr, hrun, hended, hRW⟩ := X864.leaveW hS577 (by rw [k867]; exact hk728) (v := some (.int (1 : Int32))) (fun h => by rw [Bd.returns] at h; cases h)
            refine ⟨_, _, pre0 _ (S869 _ ?_), hrun, hended, _, _, rfl, ?_, hRW.1, hRW.2.1, hRW.2.2.1, hRW.2.2.2.mono (by decide) (by decide)⟩
            · exact retN X864 hx (t := .boolean) Bd.returns (by simp) (hb hby at_202) hr
            · show Q_rm_law Z p1 p2 p3 p4 p5 p6 zc fm h0 n0 _ T864.heap _
              rw [k867]
              exact ⟨rfl, N868⟩
          · have f871 := (Exa.keep (Exa.ext E678 f665) k716)
            have f872 := (Exa.keep (Exa.ext E678 f672) k716)
            obtain ⟨cq870, kq870, q870a, q870b, q870c⟩ := isOf hZ577 rfl f871
            obtain ⟨_, _, ⟨T870, L870, k870, n870⟩, -, X870, ⟨Lc870, hQ870, l870, y870, z870⟩, st870⟩ := X700.virtualBack hx (y := (⟨"com/example/typecheck/typecheck/model/QName", "equals", "(Ljava/lang/Object;)Z"⟩ : MethodName)) (z := (⟨"com/example/typecheck/typecheck/model/QName", "equals", "(Ljava/lang/Object;)Z"⟩ : MethodName)) ho577 (mvT hZ577 (own_w hw 73 rfl)) (mvT hZ577 (own_w hw 74 rfl)) (notFace_of_selects (args := #[]) (mvT hZ577 (own_w hw 76 rfl))) (mvT hZ577 (own_w hw 76 rfl)) (mvT hZ577 (own_w hw 75 rfl)) (by decide) (backOf (W := 0) (rm_qeqt l Z a0 hw [] b633 x21 T700.heap n0 O729 f871 f872) hZ577 (own_w hw 77 rfl) (own_w hw 28 rfl) (by decide) (by decide)) q870a q870c (g := (mkF m 211 #[.val (.int p1), .val (.int p2), .val (.int p3), .val (.int p4), .val (.int p5), .val (.int p6), .val (.ref x2), .val (.ref x21), .val (.ref x44), .val (.ref x516), .val (.ref x545), .val (.ref x578), .val (.ref b633), .val (.ref b678), .val (.int (((p6.toUInt32 >>> ((2 : Int32) &&& 31).toUInt32).toInt32) &&& (3 : Int32))), .val (.ref x21)] [(.ref x21), (.ref b633)])) rfl (by rw [hml]; rfl) (Steps.refl _) (argsL := [(.ref x21)]) (rest := []) (lenOf pd_11 rfl) rfl (by show 2 * 0 + _ ≤ _; exact Nat.le_of_eq rfl) (hb hby at_211) (fun _ _ => ⟨rfl, rfl, (by decide : 38 + 0 ≤ _), (by decide : 80 + 0 ≤ _)⟩)
            dsimp only [Pt.U, Pt.locs, Pt.cells, Pt.slots] at X870 l870 y870 z870 st870 hQ870
            subst l870 y870 z870
            obtain ⟨rfl, N873, k874⟩ := hQ870
            have N875 := Fr.app N727 N873
            have S876 : ∀ t, Steps p.tables e below (T870.setTop (mkF m 222 #[.val (.int p1), .val (.int p2), .val (.int p3), .val (.int p4), .val (.int p5), .val (.int p6), .val (.ref x2), .val (.ref x21), .val (.ref x44), .val (.ref x516), .val (.ref x545), .val (.ref x578), .val (.ref b633), .val (.ref b678), .val (.int (((p6.toUInt32 >>> ((2 : Int32) &&& 31).toUInt32).toInt32) &&& (3 : Int32))), .val (.ref x21)] [(.int (1 : Int32))])) t → Steps p.tables e below (s₁.setTop (mkF m 0 #[.val (.int p1), .val (.int p2), .val (.int p3), .val (.int p4), .val (.int p5), .val (.int p6), .unset, .unset, .unset, .unset, .unset, .unset, .unset, .unset, .unset, .unset] [])) t := by
              intro t kt
              refine S862 t ?_
              refine XS.icmpYes X700.here hx rfl (pc0 := 185) (pc' := 203) rfl (hb hby at_185) rfl (feq (c863 : ¬ ((((p6.toUInt32 >>> ((2 : Int32) &&& 31).toUInt32).toInt32) &&& (3 : Int32)) = (2 : Int32)))).2 (by decide) (by decide) ?_
              refine XS.aload X700.here hx rfl (hb hby at_203) rfl rfl ?_
              refine XS.astore X700.here hx rfl (hb hby at_205) rfl rfl (l' := #[.val (.int p1), .val (.int p2), .val (.int p3), .val (.int p4), .val (.int p5), .val (.int p6), .val (.ref x2), .val (.ref x21), .val (.ref x44), .val (.ref x516), .val (.ref x545), .val (.ref x578), .val (.ref b633), .val (.ref b678), .val (.int (((p6.toUInt32 >>> ((2 : Int32) &&& 31).toUInt32).toInt32) &&& (3 : Int32))), .val (.ref x21)]) rfl ?_
              refine XS.aload X700.here hx rfl (hb hby at_207) rfl rfl ?_
              refine XS.aload X700.here hx rfl (hb hby at_209) rfl rfl ?_
              show Steps p.tables e below (T700.setTop (mkF m 211 #[.val (.int p1), .val (.int p2), .val (.int p3), .val (.int p4), .val (.int p5), .val (.int p6), .val (.ref x2), .val (.ref x21), .val (.ref x44), .val (.ref x516), .val (.ref x545), .val (.ref x578), .val (.ref b633), .val (.ref b678), .val (.int (((p6.toUInt32 >>> ((2 : Int32) &&& 31).toUInt32).toInt32) &&& (3 : Int32))), .val (.ref x21)] [(.ref x21), (.ref b633)])) _
              refine st870.trans ?_
              refine XS.ifNo X870.here hx rfl (hb hby at_214) rfl ((if0 _ _).trans (teq ((by decide) : (0 : Int32) = (0 : Int32))).2) ?_
              refine XS.iconst X870.here hx rfl (hb hby at_217) ?_
              refine XS.goto X870.here hx rfl (pc0 := 218) (pc' := 222) rfl (hb hby at_218) (by decide) (by decide) ?_
              exact kt
            obtain ⟨fs, hr, hrun, hended, hRW⟩ := X870.leaveW hS577 (by rw [k874]; exact hk728) (v := some (.int (1 : Int32))) (fun h => by rw [Bd.returns] at h; cases h)
            refine ⟨_, _, pre0 _ (S876 _ ?_), hrun, hended, _, _, rfl, ?_, hRW.1, hRW.2.1, hRW.2.2.1, hRW.2.2.2.mono (by decide) (by decide)⟩
            · exact retN X870 hx (t := .boolean) Bd.returns (by simp) (hb hby at_222) hr
            · show Q_rm_law Z p1 p2 p3 p4 p5 p6 zc fm h0 n0 _ T870.heap _
              rw [k874]
              exact ⟨rfl, N875⟩
  · obtain ⟨_, _, ⟨T877, L877, k877, n877⟩, -, Xq877, hSq877, hgq877, ⟨Lc877, hQ877, l877, y877, z877, C877⟩, st877⟩ := callSS X20 hx (y := (⟨"com/example/typecheck/typecheck/model/QNameEqualsPinLaw", "str", "(I)Ljava/lang/String;"⟩ : MethodName)) ho20 (mvT hZ20 (own_w hw 0 rfl)) (mvT hZ20 (own_w hw 1 rfl)) (mvT hZ20 (own_w hw 2 rfl)) (mvT hZ20 (own_w hw 3 rfl)) (by decide) (own_backS (W := 0) (rm := ({ frames := 4, cells := 6, slots := 12, locals := 66 } : Room)) (xs := []) (rm_str l Z a0 hw [] p1 zc T20.heap n0 O40 S_C hzc) hZ20 (own_w hw 3 rfl) (own_w hw 2 rfl) (by decide) (by decide) own_ew CR38.1 all0) (g := (mkF m 20 #[.val (.int p1), .val (.int p2), .val (.int p3), .val (.int p4), .val (.int p5), .val (.int p6), .val (.ref x2), .val (.ref x21), .unset, .unset, .unset, .unset, .unset, .unset, .unset, .unset] [(.int p1)])) rfl (by rw [hml]; rfl) (argsL := [(.int p1)]) (rest := []) (lenOf pd_12 rfl) rfl (by show 2 * 0 + _ ≤ _; exact Nat.le_of_eq rfl) (hb hby at_20) (fun _ _ => ⟨rfl, rfl, (by decide : 12 + 6 ≤ _), (by decide : 24 + 12 ≤ _)⟩)
    dsimp only [Pt.U, Pt.locs, Pt.cells, Pt.slots] at Xq877 hSq877 hgq877 l877 y877 z877 st877 hQ877 C877
    obtain ⟨X877, hS877, hZ877, ho877⟩ := rebS hS20 (by exact hk39) Xq877 hSq877 hgq877 hZ20 ho20
    subst l877 y877 z877
    obtain ⟨x878, x879, x880, rfl, N881, k882, f883, f884, f885, f886, f887, f888, f889, f890⟩ := hQ877
    have N891 := Fr.app N34 N881
    have ge892 : n0 ≤ x878 := by rw [← O40.1]; exact Nat.le_trans O40.2.1 f883
    have f893 := (Exa.keep f8 k25)
    have ne894 : x2 ≠ x878 := Nat.ne_of_lt (Nat.lt_of_lt_of_le (Exa.lt f893) f883)
    have f895 := (Arv.keep f12 k25 nin0)
    have ne896 : x3 ≠ x878 := Nat.ne_of_lt (Nat.lt_of_lt_of_le (Arv.lt f895) f883)
    have ne897 : x21 ≠ x878 := Nat.ne_of_lt (Nat.lt_of_lt_of_le (Exa.lt f27) f883)
    have ne898 : x22 ≠ x878 := Nat.ne_of_lt (Nat.lt_of_lt_of_le (Arv.lt f31) f883)
    have CR899 := CR38.trans C877
    have hk900 : T877.heap.size ≤ T877.heap.size := Nat.le_refl _
    have O901 := O40.keep k882 all0
    have S902 : ∀ t, Steps p.tables e below (T877.setTop (mkF m 36 #[.val (.int p1), .val (.int p2), .val (.int p3), .val (.int p4), .val (.int p5), .val (.int p6), .val (.ref x2), .val (.ref x21), .val (.ref x878), .unset, .unset, .unset, .unset, .unset, .unset, .unset] [(.int (p6 &&& (2 : Int32)))])) t → Steps p.tables e below (s₁.setTop (mkF m 0 #[.val (.int p1), .val (.int p2), .val (.int p3), .val (.int p4), .val (.int p5), .val (.int p6), .unset, .unset, .unset, .unset, .unset, .unset, .unset, .unset, .unset, .unset] [])) t := by
      intro t kt
      refine S41 t ?_
      refine XS.ifNo X20.here hx rfl (hb hby at_16) rfl ((if0 _ _).trans (feq (c42 : ¬ ((p6 &&& (1 : Int32)) = (0 : Int32)))).1) ?_
      refine XS.iloadN X20.here hx rfl (hb hby at_19) rfl ?_
      show Steps p.tables e below (T20.setTop (mkF m 20 #[.val (.int p1), .val (.int p2), .val (.int p3), .val (.int p4), .val (.int p5), .val (.int p6), .val (.ref x2), .val (.ref x21), .unset, .unset, .unset, .unset, .unset, .unset, .unset, .unset] [(.int p1)])) _
      refine st877.trans ?_
      refine XS.goto X877.here hx rfl (pc0 := 23) (pc' := 30) rfl (hb hby at_23) (by decide) (by decide) ?_
      refine XS.astore X877.here hx rfl (hb hby at_30) rfl rfl (l' := #[.val (.int p1), .val (.int p2), .val (.int p3), .val (.int p4), .val (.int p5), .val (.int p6), .val (.ref x2), .val (.ref x21), .val (.ref x878), .unset, .unset, .unset, .unset, .unset, .unset, .unset]) rfl ?_
      refine XS.iload X877.here hx rfl (hb hby at_32) rfl ?_
      refine XS.iconst X877.here hx rfl (hb hby at_34) ?_
      refine XS.iand X877.here hx rfl (hb hby at_35) rfl ?_
      exact kt
    rcases Decidable.em ((p6 &&& (2 : Int32)) = (0 : Int32)) with c903 | c903
    · obtain ⟨_, _, ⟨T904, L904, k904, n904⟩, -, Xq904, hSq904, hgq904, ⟨Lc904, hQ904, l904, y904, z904, C904⟩, st904⟩ := callSS X877 hx (y := (⟨"com/example/typecheck/typecheck/model/QNameEqualsPinLaw", "str", "(I)Ljava/lang/String;"⟩ : MethodName)) ho877 (mvT hZ877 (own_w hw 0 rfl)) (mvT hZ877 (own_w hw 1 rfl)) (mvT hZ877 (own_w hw 2 rfl)) (mvT hZ877 (own_w hw 3 rfl)) (by decide) (own_backS (W := 0) (rm := ({ frames := 4, cells := 6, slots := 12, locals := 66 } : Room)) (xs := []) (rm_str l Z a0 hw [] p4 zc T877.heap n0 O901 S_C hzc) hZ877 (own_w hw 3 rfl) (own_w hw 2 rfl) (by decide) (by decide) own_ew CR899.1 all0) (g := (mkF m 47 #[.val (.int p1), .val (.int p2), .val (.int p3), .val (.int p4), .val (.int p5), .val (.int p6), .val (.ref x2), .val (.ref x21), .val (.ref x878), .unset, .unset, .unset, .unset, .unset, .unset, .unset] [(.int p4)])) rfl (by rw [hml]; rfl) (argsL := [(.int p4)]) (rest := []) (lenOf pd_12 rfl) rfl (by show 2 * 0 + _ ≤ _; exact Nat.le_of_eq rfl) (hb hby at_47) (fun _ _ => ⟨rfl, rfl, (by decide : 18 + 6 ≤ _), (by decide : 36 + 12 ≤ _)⟩)
      dsimp only [Pt.U, Pt.locs, Pt.cells, Pt.slots] at Xq904 hSq904 hgq904 l904 y904 z904 st904 hQ904 C904
      obtain ⟨X904, hS904, hZ904, ho904⟩ := rebS hS877 (by exact hk900) Xq904 hSq904 hgq904 hZ877 ho877
      subst l904 y904 z904
      obtain ⟨x905, x906, x907, rfl, N908, k909, f910, f911, f912, f913, f914, f915, f916, f917⟩ := hQ904
      have N918 := Fr.app N891 N908
      have ge919 : n0 ≤ x905 := by rw [← O901.1]; exact Nat.le_trans O901.2.1 f910
      have f920 := (Exa.keep f893 k882)
      have ne921 : x2 ≠ x905 := Nat.ne_of_lt (Nat.lt_of_lt_of_le (Exa.lt f920) f910)
      have f922 := (Arv.keep f895 k882 nin0)
      have ne923 : x3 ≠ x905 := Nat.ne_of_lt (Nat.lt_of_lt_of_le (Arv.lt f922) f910)
      have f924 := (Exa.keep f27 k882)
      have ne925 : x21 ≠ x905 := Nat.ne_of_lt (Nat.lt_of_lt_of_le (Exa.lt f924) f910)
      have f926 := (Arv.keep f31 k882 nin0)
      have ne927 : x22 ≠ x905 := Nat.ne_of_lt (Nat.lt_of_lt_of_le (Arv.lt f926) f910)
      have ne928 : x878 ≠ x905 := Nat.ne_of_lt (Nat.lt_of_lt_of_le (Exa.lt f884) f910)
      have ne929 : x879 ≠ x905 := Nat.ne_of_lt (Nat.lt_of_lt_of_le (Arv.lt f888) f910)
      have CR930 := CR899.trans C904
      have hk931 : T904.heap.size ≤ T904.heap.size := Nat.le_refl _
      have O932 := O901.keep k909 all0
      obtain ⟨_, _, ⟨T933, L933, k933, n933⟩, -, Xq933, hSq933, hgq933, ⟨Lc933, hQ933, l933, y933, z933, C933⟩, st933⟩ := callSS X904 hx (y := (⟨"com/example/typecheck/typecheck/model/QNameEqualsPinLaw", "str", "(I)Ljava/lang/String;"⟩ : MethodName)) ho904 (mvT hZ904 (own_w hw 0 rfl)) (mvT hZ904 (own_w hw 1 rfl)) (mvT hZ904 (own_w hw 2 rfl)) (mvT hZ904 (own_w hw 3 rfl)) (by decide) (own_backS (W := 0) (rm := ({ frames := 4, cells := 6, slots := 12, locals := 66 } : Room)) (xs := []) (rm_str l Z a0 hw [] p5 zc T904.heap n0 O932 S_C hzc) hZ904 (own_w hw 3 rfl) (own_w hw 2 rfl) (by decide) (by decide) own_ew CR930.1 all0) (g := (mkF m 54 #[.val (.int p1), .val (.int p2), .val (.int p3), .val (.int p4), .val (.int p5), .val (.int p6), .val (.ref x2), .val (.ref x21), .val (.ref x878), .val (.ref x905), .unset, .unset, .unset, .unset, .unset, .unset] [(.int p5)])) rfl (by rw [hml]; rfl) (argsL := [(.int p5)]) (rest := []) (lenOf pd_12 rfl) rfl (by show 2 * 0 + _ ≤ _; exact Nat.le_of_eq rfl) (hb hby at_54) (fun _ _ => ⟨rfl, rfl, (by decide : 24 + 6 ≤ _), (by decide : 48 + 12 ≤ _)⟩)
      dsimp only [Pt.U, Pt.locs, Pt.cells, Pt.slots] at Xq933 hSq933 hgq933 l933 y933 z933 st933 hQ933 C933
      obtain ⟨X933, hS933, hZ933, ho933⟩ := rebS hS904 (by exact hk931) Xq933 hSq933 hgq933 hZ904 ho904
      subst l933 y933 z933
      obtain ⟨x934, x935, x936, rfl, N937, k938, f939, f940, f941, f942, f943, f944, f945, f946⟩ := hQ933
      have N947 := Fr.app N918 N937
      have ge948 : n0 ≤ x934 := by rw [← O932.1]; exact Nat.le_trans O932.2.1 f939
      have f949 := (Exa.keep f920 k909)
      have ne950 : x2 ≠ x934 := Nat.ne_of_lt (Nat.lt_of_lt_of_le (Exa.lt f949) f939)
      have f951 := (Arv.keep f922 k909 nin0)
      have ne952 : x3 ≠ x934 := Nat.ne_of_lt (Nat.lt_of_lt_of_le (Arv.lt f951) f939)
      have f953 := (Exa.keep f924 k909)
      have ne954 : x21 ≠ x934 := Nat.ne_of_lt (Nat.lt_of_lt_of_le (Exa.lt f953) f939)
      have f955 := (Arv.keep f926 k909 nin0)
      have ne956 : x22 ≠ x934 := Nat.ne_of_lt (Nat.lt_of_lt_of_le (Arv.lt f955) f939)
      have f957 := (Exa.keep f884 k909)
      have ne958 : x878 ≠ x934 := Nat.ne_of_lt (Nat.lt_of_lt_of_le (Exa.lt f957) f939)
      have f959 := (Arv.keep f888 k909 nin0)
      have ne960 : x879 ≠ x934 := Nat.ne_of_lt (Nat.lt_of_lt_of_le (Arv.lt f959) f939)
      have ne961 : x905 ≠ x934 := Nat.ne_of_lt (Nat.lt_of_lt_of_le (Exa.lt f911) f939)
      have ne962 : x906 ≠ x934 := Nat.ne_of_lt (Nat.lt_of_lt_of_le (Arv.lt f915) f939)
      have CR963 := CR930.trans C933
      have hk964 : T933.heap.size ≤ T933.heap.size := Nat.le_refl _
      have O965 := O932.keep k938 all0
      obtain ⟨_, _, ⟨T966, L966, k966, n966⟩, -, Xq966, hSq966, hgq966, ⟨Lc966, hQ966, l966, y966, z966, C966⟩, st966⟩ := callSS X933 hx (y := (⟨"com/example/typecheck/typecheck/model/QNameEqualsPinLaw", "str", "(I)Ljava/lang/String;"⟩ : MethodName)) ho933 (mvT hZ933 (own_w hw 0 rfl)) (mvT hZ933 (own_w hw 1 rfl)) (mvT hZ933 (own_w hw 2 rfl)) (mvT hZ933 (own_w hw 3 rfl)) (by decide) (own_backS (W := 0) (rm := ({ frames := 4, cells := 6, slots := 12, locals := 66 } : Room)) (xs := []) (rm_str l Z a0 hw [] ((p6.toUInt32 >>> ((4 : Int32) &&& 31).toUInt32).toInt32) zc T933.heap n0 O965 S_C hzc) hZ933 (own_w hw 3 rfl) (own_w hw 2 rfl) (by decide) (by decide) own_ew CR963.1 all0) (g := (mkF m 63 #[.val (.int p1), .val (.int p2), .val (.int p3), .val (.int p4), .val (.int p5), .val (.int p6), .val (.ref x2), .val (.ref x21), .val (.ref x878), .val (.ref x905), .val (.ref x934), .unset, .unset, .unset, .unset, .unset] [(.int ((p6.toUInt32 >>> ((4 : Int32) &&& 31).toUInt32).toInt32))])) rfl (by rw [hml]; rfl) (argsL := [(.int ((p6.toUInt32 >>> ((4 : Int32) &&& 31).toUInt32).toInt32))]) (rest := []) (lenOf pd_12 rfl) rfl (by show 2 * 0 + _ ≤ _; exact Nat.le_of_eq rfl) (hb hby at_63) (fun _ _ => ⟨rfl, rfl, (by decide : 30 + 6 ≤ _), (by decide : 60 + 12 ≤ _)⟩)
      dsimp only [Pt.U, Pt.locs, Pt.cells, Pt.slots] at Xq966 hSq966 hgq966 l966 y966 z966 st966 hQ966 C966
      obtain ⟨X966, hS966, hZ966, ho966⟩ := rebS hS933 (by exact hk964) Xq966 hSq966 hgq966 hZ933 ho933
      subst l966 y966 z966
      obtain ⟨x967, x968, x969, rfl, N970, k971, f972, f973, f974, f975, f976, f977, f978, f979⟩ := hQ966
      have N980 := Fr.app N947 N970
      have ge981 : n0 ≤ x967 := by rw [← O965.1]; exact Nat.le_trans O965.2.1 f972
      have f982 := (Exa.keep f949 k938)
      have ne983 : x2 ≠ x967 := Nat.ne_of_lt (Nat.lt_of_lt_of_le (Exa.lt f982) f972)
      have f984 := (Arv.keep f951 k938 nin0)
      have ne985 : x3 ≠ x967 := Nat.ne_of_lt (Nat.lt_of_lt_of_le (Arv.lt f984) f972)
      have f986 := (Exa.keep f953 k938)
      have ne987 : x21 ≠ x967 := Nat.ne_of_lt (Nat.lt_of_lt_of_le (Exa.lt f986) f972)
      have f988 := (Arv.keep f955 k938 nin0)
      have ne989 : x22 ≠ x967 := Nat.ne_of_lt (Nat.lt_of_lt_of_le (Arv.lt f988) f972)
      have f990 := (Exa.keep f957 k938)
      have ne991 : x878 ≠ x967 := Nat.ne_of_lt (Nat.lt_of_lt_of_le (Exa.lt f990) f972)
      have f992 := (Arv.keep f959 k938 nin0)
      have ne993 : x879 ≠ x967 := Nat.ne_of_lt (Nat.lt_of_lt_of_le (Arv.lt f992) f972)
      have f994 := (Exa.keep f911 k938)
      have ne995 : x905 ≠ x967 := Nat.ne_of_lt (Nat.lt_of_lt_of_le (Exa.lt f994) f972)
      have f996 := (Arv.keep f915 k938 nin0)
      have ne997 : x906 ≠ x967 := Nat.ne_of_lt (Nat.lt_of_lt_of_le (Arv.lt f996) f972)
      have ne998 : x934 ≠ x967 := Nat.ne_of_lt (Nat.lt_of_lt_of_le (Exa.lt f940) f972)
      have ne999 : x935 ≠ x967 := Nat.ne_of_lt (Nat.lt_of_lt_of_le (Arv.lt f944) f972)
      have CR1000 := CR963.trans C966
      have hk1001 : T966.heap.size ≤ T966.heap.size := Nat.le_refl _
      have O1002 := O965.keep k971 all0
      have S1003 : ∀ t, Steps p.tables e below (T966.setTop (mkF m 68 #[.val (.int p1), .val (.int p2), .val (.int p3), .val (.int p4), .val (.int p5), .val (.int p6), .val (.ref x2), .val (.ref x21), .val (.ref x878), .val (.ref x905), .val (.ref x934), .val (.ref x967), .unset, .unset, .unset, .unset] [])) t → Steps p.tables e below (s₁.setTop (mkF m 0 #[.val (.int p1), .val (.int p2), .val (.int p3), .val (.int p4), .val (.int p5), .val (.int p6), .unset, .unset, .unset, .unset, .unset, .unset, .unset, .unset, .unset, .unset] [])) t := by
        intro t kt
        refine S902 t ?_
        refine XS.ifYes X877.here hx rfl (pc0 := 36) (pc' := 46) rfl (hb hby at_36) rfl ((if0 _ _).trans (teq (c903 : (p6 &&& (2 : Int32)) = (0 : Int32))).1) (by decide) (by decide) ?_
        refine XS.iloadN X877.here hx rfl (hb hby at_46) rfl ?_
        show Steps p.tables e below (T877.setTop (mkF m 47 #[.val (.int p1), .val (.int p2), .val (.int p3), .val (.int p4), .val (.int p5), .val (.int p6), .val (.ref x2), .val (.ref x21), .val (.ref x878), .unset, .unset, .unset, .unset, .unset, .unset, .unset] [(.int p4)])) _
        refine st904.trans ?_
        refine XS.astore X904.here hx rfl (hb hby at_50) rfl rfl (l' := #[.val (.int p1), .val (.int p2), .val (.int p3), .val (.int p4), .val (.int p5), .val (.int p6), .val (.ref x2), .val (.ref x21), .val (.ref x878), .val (.ref x905), .unset, .unset, .unset, .unset, .unset, .unset]) rfl ?_
        refine XS.iload X904.here hx rfl (hb hby at_52) rfl ?_
        show Steps p.tables e below (T904.setTop (mkF m 54 #[.val (.int p1), .val (.int p2), .val (.int p3), .val (.int p4), .val (.int p5), .val (.int p6), .val (.ref x2), .val (.ref x21), .val (.ref x878), .val (.ref x905), .unset, .unset, .unset, .unset, .unset, .unset] [(.int p5)])) _
        refine st933.trans ?_
        refine XS.astore X933.here hx rfl (hb hby at_57) rfl rfl (l' := #[.val (.int p1), .val (.int p2), .val (.int p3), .val (.int p4), .val (.int p5), .val (.int p6), .val (.ref x2), .val (.ref x21), .val (.ref x878), .val (.ref x905), .val (.ref x934), .unset, .unset, .unset, .unset, .unset]) rfl ?_
        refine XS.iload X933.here hx rfl (hb hby at_59) rfl ?_
        refine XS.iconst X933.here hx rfl (hb hby at_61) ?_
        refine XS.iushr X933.here hx rfl (hb hby at_62) rfl ?_
        show Steps p.tables e below (T933.setTop (mkF m 63 #[.val (.int p1), .val (.int p2), .val (.int p3), .val (.int p4), .val (.int p5), .val (.int p6), .val (.ref x2), .val (.ref x21), .val (.ref x878), .val (.ref x905), .val (.ref x934), .unset, .unset, .unset, .unset, .unset] [(.int ((p6.toUInt32 >>> ((4 : Int32) &&& 31).toUInt32).toInt32))])) _
        refine st966.trans ?_
        refine XS.astore X966.here hx rfl (hb hby at_66) rfl rfl (l' := #[.val (.int p1), .val (.int p2), .val (.int p3), .val (.int p4), .val (.int p5), .val (.int p6), .val (.ref x2), .val (.ref x21), .val (.ref x878), .val (.ref x905), .val (.ref x934), .val (.ref x967), .unset, .unset, .unset, .unset]) rfl ?_
        exact kt
      have f1005 := (Exa.keep f982 k971)
      have f1006 := (Arv.keep f984 k971 nin0)
      have ne1004 : x2 ≠ x3 := own_arvne (own_w hw 6 rfl) f1005 f1006
      have f1008 := (Arv.keep f988 k971 nin0)
      have ne1007 : x2 ≠ x22 := own_arvne (own_w hw 6 rfl) f1005 f1008
      have f1010 := (Arv.keep f992 k971 nin0)
      have ne1009 : x2 ≠ x879 := own_arvne (own_w hw 6 rfl) f1005 f1010
      have f1012 := (Arv.keep f996 k971 nin0)
      have ne1011 : x2 ≠ x906 := own_arvne (own_w hw 6 rfl) f1005 f1012
      have f1014 := (Exa.keep f986 k971)
      have ne1013 : x21 ≠ x22 := own_arvne (own_w hw 6 rfl) f1014 f1008
      have ne1015 : x21 ≠ x879 := own_arvne (own_w hw 6 rfl) f1014 f1010
      have ne1016 : x21 ≠ x906 := own_arvne (own_w hw 6 rfl) f1014 f1012
      have f1018 := (Exa.keep f990 k971)
      have ne1017 : x878 ≠ x879 := own_arvne (own_w hw 6 rfl) f1018 f1010
      have ne1019 : x878 ≠ x906 := own_arvne (own_w hw 6 rfl) f1018 f1012
      have f1021 := (Exa.keep f994 k971)
      have ne1020 : x905 ≠ x906 := own_arvne (own_w hw 6 rfl) f1021 f1012
      obtain ⟨T1022, h1022, X1022, e1022, E1022, A1022, D1022, -, st1022⟩ := newO X966 hx hZ966 ho966 (own_w hw 26 rfl) (own_w hw 27 rfl) (own_w hw 28 rfl) rfl (g := (mkF m 68 #[.val (.int p1), .val (.int p2), .val (.int p3), .val (.int p4), .val (.int p5), .val (.int p6), .val (.ref x2), .val (.ref x21), .val (.ref x878), .val (.ref x905), .val (.ref x934), .val (.ref x967), .unset, .unset, .unset, .unset] [])) rfl (hb hby at_68) (by decide) (by decide)
      obtain ⟨b1022, g1022⟩ : ∃ z, z = T966.heap.size := ⟨_, rfl⟩
      have ge_b1022 : n0 ≤ b1022 := by rw [g1022, ← O1002.1]; exact O1002.2.1
      have ne1023 : x2 ≠ b1022 := Nat.ne_of_lt (Nat.lt_of_lt_of_le (Exa.lt f1005) (Nat.le_of_eq g1022.symm))
      have ne1024 : x3 ≠ b1022 := Nat.ne_of_lt (Nat.lt_of_lt_of_le (Arv.lt f1006) (Nat.le_of_eq g1022.symm))
      have ne1025 : x21 ≠ b1022 := Nat.ne_of_lt (Nat.lt_of_lt_of_le (Exa.lt f1014) (Nat.le_of_eq g1022.symm))
      have ne1026 : x22 ≠ b1022 := Nat.ne_of_lt (Nat.lt_of_lt_of_le (Arv.lt f1008) (Nat.le_of_eq g1022.symm))
      have ne1027 : x878 ≠ b1022 := Nat.ne_of_lt (Nat.lt_of_lt_of_le (Exa.lt f1018) (Nat.le_of_eq g1022.symm))
      have ne1028 : x879 ≠ b1022 := Nat.ne_of_lt (Nat.lt_of_lt_of_le (Arv.lt f1010) (Nat.le_of_eq g1022.symm))
      have ne1029 : x905 ≠ b1022 := Nat.ne_of_lt (Nat.lt_of_lt_of_le (Exa.lt f1021) (Nat.le_of_eq g1022.symm))
      have ne1030 : x906 ≠ b1022 := Nat.ne_of_lt (Nat.lt_of_lt_of_le (Arv.lt f1012) (Nat.le_of_eq g1022.symm))
      rw [← g1022] at A1022 D1022 st1022
      have hk1031 := Nat.le_trans hk1001 E1022.1
      have O1032 := O1002.ext E1022
      have F1033 : Fld Z h1022 b1022 "com/example/typecheck/typecheck/model/QName" "prefix" "Ljava/lang/String;" .null := D1022 (Or.inr (own_w hw 34 rfl)) (ty := (.object "java/lang/String")) (by decide)
      have F1034 : Fld Z h1022 b1022 "com/example/typecheck/typecheck/model/QName" "namespace" "Ljava/lang/String;" .null := D1022 (Or.inr (own_w hw 36 rfl)) (ty := (.object "java/lang/String")) (by decide)
      have F1035 : Fld Z h1022 b1022 "com/example/typecheck/typecheck/model/QName" "localName" "Ljava/lang/String;" .null := D1022 (Or.inr (own_w hw 38 rfl)) (ty := (.object "java/lang/String")) (by decide)
      have F1036 : Fld Z h1022 b1022 "com/example/typecheck/typecheck/model/QName" "hash" "I" (.int (0 : Int32)) := D1022 (Or.inr (own_w hw 59 rfl)) (ty := .int) (by decide)
      have f1038 := (Exa.ext E1022 f1005)
      have f1039 := (Fld.ext E1022 (Fld.keep (Fld.keep (Fld.keep (Fld.keep (Fld.keep f9 k25 nin0) k882 nin0) k909 nin0) k938 nin0) k971 nin0))
      have f1040 := (Fld.ext E1022 (Fld.keep (Fld.keep (Fld.keep (Fld.keep (Fld.keep f10 k25 nin0) k882 nin0) k909 nin0) k938 nin0) k971 nin0))
      have f1041 := (fun q => Exa.ext E1022 ((fun q => Exa.keep ((fun q => Exa.keep ((fun q => Exa.keep ((fun q => Exa.keep ((fun q => Exa.keep (f11 q) k25) q) k882) q) k909) q) k938) q) k971) q))
      have f1042 := (Arv.ext f1006 E1022)
      have f1043 := (Fld.ext E1022 (Fld.keep (Fld.keep (Fld.keep (Fld.keep (Fld.keep f13 k25 nin0) k882 nin0) k909 nin0) k938 nin0) k971 nin0))
      have f1044 := (Fld.ext E1022 (Fld.keep (Fld.keep (Fld.keep (Fld.keep (Fld.keep f14 k25 nin0) k882 nin0) k909 nin0) k938 nin0) k971 nin0))
      have f1045 := (Exa.ext E1022 f1014)
      have f1046 := (Fld.ext E1022 (Fld.keep (Fld.keep (Fld.keep (Fld.keep f28 k882 nin0) k909 nin0) k938 nin0) k971 nin0))
      have f1047 := (Fld.ext E1022 (Fld.keep (Fld.keep (Fld.keep (Fld.keep f29 k882 nin0) k909 nin0) k938 nin0) k971 nin0))
      have f1048 := (fun q => Exa.ext E1022 ((fun q => Exa.keep ((fun q => Exa.keep ((fun q => Exa.keep ((fun q => Exa.keep (f30 q) k882) q) k909) q) k938) q) k971) q))
      have f1049 := (Arv.ext f1008 E1022)
      have f1050 := (Fld.ext E1022 (Fld.keep (Fld.keep (Fld.keep (Fld.keep f32 k882 nin0) k909 nin0) k938 nin0) k971 nin0))
      have f1051 := (Fld.ext E1022 (Fld.keep (Fld.keep (Fld.keep (Fld.keep f33 k882 nin0) k909 nin0) k938 nin0) k971 nin0))
      obtain ⟨_, _, ⟨T1037, L1037, k1037, n1037⟩, -, X1037, ⟨Lc1037, hQ1037, l1037, y1037, z1037⟩, st1037⟩ := X1022.specialBack hx (y := (⟨"com/example/typecheck/typecheck/model/QName", "<init>", "(Ljava/lang/String;Ljava/lang/String;Ljava/lang/String;)V"⟩ : MethodName)) rfl ho966 (mvT hZ966 (own_w hw 29 rfl)) (mvT hZ966 (own_w hw 30 rfl)) (mvT hZ966 (own_w hw 31 rfl)) (by decide) (backOf (W := 1) (rm_qini l Z a0 hw [] b1022 x934 x2 x3 x4 (own_cs p1) x21 x22 x23 (own_cs p2) zc h1022 n0 O1032 A1022 ge_b1022 F1033 F1034 F1035 F1036 f1038 f1039 f1040 f1041 f1042 f1043 f1044 ge16 f1045 f1046 f1047 f1048 f1049 f1050 f1051 ge35 ne36 (own_csok p1) (own_csok p2) S_C hzc) hZ966 (own_w hw 31 rfl) (own_w hw 28 rfl) (by decide) (by decide)) (g := (mkF m 78 #[.val (.int p1), .val (.int p2), .val (.int p3), .val (.int p4), .val (.int p5), .val (.int p6), .val (.ref x2), .val (.ref x21), .val (.ref x878), .val (.ref x905), .val (.ref x934), .val (.ref x967), .unset, .unset, .unset, .unset] [(.ref x21), (.ref x2), (.ref x934), (.ref b1022), (.ref b1022)])) rfl (by rw [hml]; rfl) (Steps.refl _) (a := b1022) (argsL := [(.ref x934), (.ref x2), (.ref x21)]) (rest := [(.ref b1022)]) (lenOf pd_13 rfl) rfl (by show 2 * 0 + _ ≤ _; exact Nat.le_of_eq rfl) (hb hby at_78) (fun _ _ => ⟨rfl, e1022, (by decide : 37 + 0 ≤ _), (by decide : 76 + 0 ≤ _)⟩)
      dsimp only [Pt.U, Pt.locs, Pt.cells, Pt.slots] at X1037 l1037 y1037 z1037 st1037 hQ1037
      subst l1037 y1037 z1037
      obtain ⟨rfl, N1052, k1053, f1054, f1055, f1056, f1057, f1058, f1059, f1060, f1061, f1062, f1063⟩ := hQ1037
      have N1064 := Fr.app N980 N1052
      have hk1065 := Nat.le_trans hk1031 k1053.1
      have O1066 := O1032.keep k1053 (allS ge_b1022 (allS ge16 (allS ge35 all0)))
      obtain ⟨T1067, h1067, X1067, e1067, E1067, A1067, D1067, -, st1067⟩ := newO X1037 hx hZ966 ho966 (own_w hw 26 rfl) (own_w hw 27 rfl) (own_w hw 28 rfl) rfl (g := (mkF m 83 #[.val (.int p1), .val (.int p2), .val (.int p3), .val (.int p4), .val (.int p5), .val (.int p6), .val (.ref x2), .val (.ref x21), .val (.ref x878), .val (.ref x905), .val (.ref x934), .val (.ref x967), .val (.ref b1022), .unset, .unset, .unset] [])) rfl (hb hby at_83) (by decide) (by decide)
      obtain ⟨b1067, g1067⟩ : ∃ z, z = T1037.heap.size := ⟨_, rfl⟩
      have ge_b1067 : n0 ≤ b1067 := by rw [g1067, ← O1066.1]; exact O1066.2.1
      have ne1068 : x2 ≠ b1067 := Nat.ne_of_lt (Nat.lt_of_lt_of_le (Exa.lt f1058) (Nat.le_of_eq g1067.symm))
      have f1069 := (Arv.keep f1042 k1053 (ninS ne1024 (ninS (Ne.symm ne1004) (ninS ne37 nin0))))
      have ne1070 : x3 ≠ b1067 := Nat.ne_of_lt (Nat.lt_of_lt_of_le (Arv.lt f1069) (Nat.le_of_eq g1067.symm))
      have ne1071 : x21 ≠ b1067 := Nat.ne_of_lt (Nat.lt_of_lt_of_le (Exa.lt f1061) (Nat.le_of_eq g1067.symm))
      have f1072 := (Arv.keep f1049 k1053 (ninS ne1026 (ninS (Ne.symm ne1007) (ninS (Ne.symm ne1013) nin0))))
      have ne1073 : x22 ≠ b1067 := Nat.ne_of_lt (Nat.lt_of_lt_of_le (Arv.lt f1072) (Nat.le_of_eq g1067.symm))
      have f1074 := (Exa.keep (Exa.ext E1022 f1018) k1053)
      have ne1075 : x878 ≠ b1067 := Nat.ne_of_lt (Nat.lt_of_lt_of_le (Exa.lt f1074) (Nat.le_of_eq g1067.symm))
      have f1076 := (Arv.keep (Arv.ext f1010 E1022) k1053 (ninS ne1028 (ninS (Ne.symm ne1009) (ninS (Ne.symm ne1015) nin0))))
      have ne1077 : x879 ≠ b1067 := Nat.ne_of_lt (Nat.lt_of_lt_of_le (Arv.lt f1076) (Nat.le_of_eq g1067.symm))
      have f1078 := (Exa.keep (Exa.ext E1022 f1021) k1053)
      have ne1079 : x905 ≠ b1067 := Nat.ne_of_lt (Nat.lt_of_lt_of_le (Exa.lt f1078) (Nat.le_of_eq g1067.symm))
      have f1080 := (Arv.keep (Arv.ext f1012 E1022) k1053 (ninS ne1030 (ninS (Ne.symm ne1011) (ninS (Ne.symm ne1016) nin0))))
      have ne1081 : x906 ≠ b1067 := Nat.ne_of_lt (Nat.lt_of_lt_of_le (Arv.lt f1080) (Nat.le_of_eq g1067.symm))
      have ne1082 : b1022 ≠ b1067 := Nat.ne_of_lt (Nat.lt_of_lt_of_le (Exa.lt f1054) (Nat.le_of_eq g1067.symm))
      rw [← g1067] at A1067 D1067 st1067
      have hk1083 := Nat.le_trans hk1065 E1067.1
      have O1084 := O1066.ext E1067
      have F1085 : Fld Z h1067 b1067 "com/example/typecheck/typecheck/model/QName" "prefix" "Ljava/lang/String;" .null := D1067 (Or.inr (own_w hw 34 rfl)) (ty := (.object "java/lang/String")) (by decide)
      have F1086 : Fld Z h1067 b1067 "com/example/typecheck/typecheck/model/QName" "namespace" "Ljava/lang/String;" .null := D1067 (Or.inr (own_w hw 36 rfl)) (ty := (.object "java/lang/String")) (by decide)
      have F1087 : Fld Z h1067 b1067 "com/example/typecheck/typecheck/model/QName" "localName" "Ljava/lang/String;" .null := D1067 (Or.inr (own_w hw 38 rfl)) (ty := (.object "java/lang/String")) (by decide)
      have F1088 : Fld Z h1067 b1067 "com/example/typecheck/typecheck/model/QName" "hash" "I" (.int (0 : Int32)) := D1067 (Or.inr (own_w hw 59 rfl)) (ty := .int) (by decide)
      have f1090 := (Exa.ext E1067 f1074)
      have f1091 := (Fld.ext E1067 (Fld.keep (Fld.ext E1022 (Fld.keep (Fld.keep (Fld.keep f885 k909 nin0) k938 nin0) k971 nin0)) k1053 (ninS ne1027 (ninS (Ne.symm ne894) (ninS (Ne.symm ne897) nin0)))))
      have f1092 := (Fld.ext E1067 (Fld.keep (Fld.ext E1022 (Fld.keep (Fld.keep (Fld.keep f886 k909 nin0) k938 nin0) k971 nin0)) k1053 (ninS ne1027 (ninS (Ne.symm ne894) (ninS (Ne.symm ne897) nin0)))))
      have f1093 := (fun q => Exa.ext E1067 ((fun q => Exa.keep ((fun q => Exa.ext E1022 ((fun q => Exa.keep ((fun q => Exa.keep ((fun q => Exa.keep (f887 q) k909) q) k938) q) k971) q)) q) k1053) q))
      have f1094 := (Arv.ext f1076 E1067)
      have f1095 := (Fld.ext E1067 (Fld.keep (Fld.ext E1022 (Fld.keep (Fld.keep (Fld.keep f889 k909 nin0) k938 nin0) k971 nin0)) k1053 (ninS ne1027 (ninS (Ne.symm ne894) (ninS (Ne.symm ne897) nin0)))))
      have f1096 := (Fld.ext E1067 (Fld.keep (Fld.ext E1022 (Fld.keep (Fld.keep (Fld.keep f890 k909 nin0) k938 nin0) k971 nin0)) k1053 (ninS ne1027 (ninS (Ne.symm ne894) (ninS (Ne.symm ne897) nin0)))))
      have f1097 := (Exa.ext E1067 f1078)
      have f1098 := (Fld.ext E1067 (Fld.keep (Fld.ext E1022 (Fld.keep (Fld.keep f912 k938 nin0) k971 nin0)) k1053 (ninS ne1029 (ninS (Ne.symm ne921) (ninS (Ne.symm ne925) nin0)))))
      have f1099 := (Fld.ext E1067 (Fld.keep (Fld.ext E1022 (Fld.keep (Fld.keep f913 k938 nin0) k971 nin0)) k1053 (ninS ne1029 (ninS (Ne.symm ne921) (ninS (Ne.symm ne925) nin0)))))
      have f1100 := (fun q => Exa.ext E1067 ((fun q => Exa.keep ((fun q => Exa.ext E1022 ((fun q => Exa.keep ((fun q => Exa.keep (f914 q) k938) q) k971) q)) q) k1053) q))
      have f1101 := (Arv.ext f1080 E1067)
      have f1102 := (Fld.ext E1067 (Fld.keep (Fld.ext E1022 (Fld.keep (Fld.keep f916 k938 nin0) k971 nin0)) k1053 (ninS ne1029 (ninS (Ne.symm ne921) (ninS (Ne.symm ne925) nin0)))))
      have f1103 := (Fld.ext E1067 (Fld.keep (Fld.ext E1022 (Fld.keep (Fld.keep f917 k938 nin0) k971 nin0)) k1053 (ninS ne1029 (ninS (Ne.symm ne921) (ninS (Ne.symm ne925) nin0)))))
      obtain ⟨_, _, ⟨T1089, L1089, k1089, n1089⟩, -, X1089, ⟨Lc1089, hQ1089, l1089, y1089, z1089⟩, st1089⟩ := X1067.specialBack hx (y := (⟨"com/example/typecheck/typecheck/model/QName", "<init>", "(Ljava/lang/String;Ljava/lang/String;Ljava/lang/String;)V"⟩ : MethodName)) rfl ho966 (mvT hZ966 (own_w hw 29 rfl)) (mvT hZ966 (own_w hw 30 rfl)) (mvT hZ966 (own_w hw 31 rfl)) (by decide) (backOf (W := 1) (rm_qini l Z a0 hw [] b1067 x967 x878 x879 x880 (own_cs p1) x905 x906 x907 (own_cs p4) zc h1067 n0 O1084 A1067 ge_b1067 F1085 F1086 F1087 F1088 f1090 f1091 f1092 f1093 f1094 f1095 f1096 ge892 f1097 f1098 f1099 f1100 f1101 f1102 f1103 ge919 ne928 (own_csok p1) (own_csok p4) S_C hzc) hZ966 (own_w hw 31 rfl) (own_w hw 28 rfl) (by decide) (by decide)) (g := (mkF m 93 #[.val (.int p1), .val (.int p2), .val (.int p3), .val (.int p4), .val (.int p5), .val (.int p6), .val (.ref x2), .val (.ref x21), .val (.ref x878), .val (.ref x905), .val (.ref x934), .val (.ref x967), .val (.ref b1022), .unset, .unset, .unset] [(.ref x905), (.ref x878), (.ref x967), (.ref b1067), (.ref b1067)])) rfl (by rw [hml]; rfl) (Steps.refl _) (a := b1067) (argsL := [(.ref x967), (.ref x878), (.ref x905)]) (rest := [(.ref b1067)]) (lenOf pd_13 rfl) rfl (by show 2 * 0 + _ ≤ _; exact Nat.le_of_eq rfl) (hb hby at_93) (fun _ _ => ⟨rfl, e1067, (by decide : 38 + 0 ≤ _), (by decide : 80 + 0 ≤ _)⟩)
      dsimp only [Pt.U, Pt.locs, Pt.cells, Pt.slots] at X1089 l1089 y1089 z1089 st1089 hQ1089
      subst l1089 y1089 z1089
      obtain ⟨rfl, N1104, k1105, f1106, f1107, f1108, f1109, f1110, f1111, f1112, f1113, f1114, f1115⟩ := hQ1089
      have N1116 := Fr.app N1064 N1104
      have hk1117 := Nat.le_trans hk1083 k1105.1
      have O1118 := O1084.keep k1105 (allS ge_b1067 (allS ge892 (allS ge919 all0)))
      have S1119 : ∀ t, Steps p.tables e below (T1089.setTop (mkF m 108 #[.val (.int p1), .val (.int p2), .val (.int p3), .val (.int p4), .val (.int p5), .val (.int p6), .val (.ref x2), .val (.ref x21), .val (.ref x878), .val (.ref x905), .val (.ref x934), .val (.ref x967), .val (.ref b1022), .val (.ref b1067), .val (.int (((p6.toUInt32 >>> ((2 : Int32) &&& 31).toUInt32).toInt32) &&& (3 : Int32))), .unset] [(.int (((p6.toUInt32 >>> ((2 : Int32) &&& 31).toUInt32).toInt32) &&& (3 : Int32)))])) t → Steps p.tables e below (s₁.setTop (mkF m 0 #[.val (.int p1), .val (.int p2), .val (.int p3), .val (.int p4), .val (.int p5), .val (.int p6), .unset, .unset, .unset, .unset, .unset, .unset, .unset, .unset, .unset, .unset] [])) t := by
        intro t kt
        refine S1003 t ?_
        refine st1022 _ ?_
        refine XS.dup X1022.here hx rfl (hb hby at_71) rfl rfl ?_
        refine XS.aload X1022.here hx rfl (hb hby at_72) rfl rfl ?_
        refine XS.aload X1022.here hx rfl (hb hby at_74) rfl rfl ?_
        refine XS.aload X1022.here hx rfl (hb hby at_76) rfl rfl ?_
        show Steps p.tables e below (T1022.setTop (mkF m 78 #[.val (.int p1), .val (.int p2), .val (.int p3), .val (.int p4), .val (.int p5), .val (.int p6), .val (.ref x2), .val (.ref x21), .val (.ref x878), .val (.ref x905), .val (.ref x934), .val (.ref x967), .unset, .unset, .unset, .unset] [(.ref x21), (.ref x2), (.ref x934), (.ref b1022), (.ref b1022)])) _
        refine st1037.trans ?_
        refine XS.astore X1037.here hx rfl (hb hby at_81) rfl rfl (l' := #[.val (.int p1), .val (.int p2), .val (.int p3), .val (.int p4), .val (.int p5), .val (.int p6), .val (.ref x2), .val (.ref x21), .val (.ref x878), .val (.ref x905), .val (.ref x934), .val (.ref x967), .val (.ref b1022), .unset, .unset, .unset]) rfl ?_
        show Steps p.tables e below (T1037.setTop (mkF m 83 #[.val (.int p1), .val (.int p2), .val (.int p3), .val (.int p4), .val (.int p5), .val (.int p6), .val (.ref x2), .val (.ref x21), .val (.ref x878), .val (.ref x905), .val (.ref x934), .val (.ref x967), .val (.ref b1022), .unset, .unset, .unset] [])) _
        refine st1067 _ ?_
        refine XS.dup X1067.here hx rfl (hb hby at_86) rfl rfl ?_
        refine XS.aload X1067.here hx rfl (hb hby at_87) rfl rfl ?_
        refine XS.aload X1067.here hx rfl (hb hby at_89) rfl rfl ?_
        refine XS.aload X1067.here hx rfl (hb hby at_91) rfl rfl ?_
        show Steps p.tables e below (T1067.setTop (mkF m 93 #[.val (.int p1), .val (.int p2), .val (.int p3), .val (.int p4), .val (.int p5), .val (.int p6), .val (.ref x2), .val (.ref x21), .val (.ref x878), .val (.ref x905), .val (.ref x934), .val (.ref x967), .val (.ref b1022), .unset, .unset, .unset] [(.ref x905), (.ref x878), (.ref x967), (.ref b1067), (.ref b1067)])) _
        refine st1089.trans ?_
        refine XS.astore X1089.here hx rfl (hb hby at_96) rfl rfl (l' := #[.val (.int p1), .val (.int p2), .val (.int p3), .val (.int p4), .val (.int p5), .val (.int p6), .val (.ref x2), .val (.ref x21), .val (.ref x878), .val (.ref x905), .val (.ref x934), .val (.ref x967), .val (.ref b1022), .val (.ref b1067), .unset, .unset]) rfl ?_
        refine XS.iload X1089.here hx rfl (hb hby at_98) rfl ?_
        refine XS.iconst X1089.here hx rfl (hb hby at_100) ?_
        refine XS.iushr X1089.here hx rfl (hb hby at_101) rfl ?_
        refine XS.iconst X1089.here hx rfl (hb hby at_102) ?_
        refine XS.iand X1089.here hx rfl (hb hby at_103) rfl ?_
        refine XS.istore X1089.here hx rfl (hb hby at_104) rfl (l' := #[.val (.int p1), .val (.int p2), .val (.int p3), .val (.int p4), .val (.int p5), .val (.int p6), .val (.ref x2), .val (.ref x21), .val (.ref x878), .val (.ref x905), .val (.ref x934), .val (.ref x967), .val (.ref b1022), .val (.ref b1067), .val (.int (((p6.toUInt32 >>> ((2 : Int32) &&& 31).toUInt32).toInt32) &&& (3 : Int32))), .unset]) rfl ?_
        refine XS.iload X1089.here hx rfl (hb hby at_106) rfl ?_
        exact kt
      rcases Decidable.em ((((p6.toUInt32 >>> ((2 : Int32) &&& 31).toUInt32).toInt32) &&& (3 : Int32)) = (0 : Int32)) with c1120 | c1120
      · have f1122 := (Exa.keep (Exa.ext E1067 f1058) k1105)
        have f1123 := (Fld.keep (Fld.ext E1067 f1059) k1105 (ninS ne1068 (ninS ne894 (ninS ne921 nin0))))
        have f1124 := (Fld.keep (Fld.ext E1067 f1060) k1105 (ninS ne1068 (ninS ne894 (ninS ne921 nin0))))
        have f1125 := (fun q => Exa.keep ((fun q => Exa.ext E1067 ((fun q => Exa.keep (f1041 q) k1053) q)) q) k1105)
        have f1126 := (Arv.keep (Arv.ext f1069 E1067) k1105 (ninS ne1070 (ninS ne896 (ninS ne923 nin0))))
        have f1127 := (fun q => Exa.keep (f1093 q) k1105)
        have f1128 := (Arv.keep f1094 k1105 (ninS ne1077 (ninS (Ne.symm ne1017) (ninS ne929 nin0))))
        obtain ⟨_, _, ⟨T1121, L1121, k1121, n1121⟩, -, X1121, ⟨Lc1121, hQ1121, l1121, y1121, z1121⟩, st1121⟩ := Jvm.LawKit.callS X1089 hx (y := (⟨"com/example/typecheck/typecheck/model/QNameEqualsPinLaw", "same", "(Ljava/lang/String;Ljava/lang/String;)Z"⟩ : MethodName)) ho966 (mvT hZ966 (own_w hw 60 rfl)) (mvT hZ966 (own_w hw 61 rfl)) (mvT hZ966 (own_w hw 2 rfl)) (mvT hZ966 (own_w hw 62 rfl)) (by decide) (backOf (W := 0) (rm_same l Z a0 hw [] x2 x3 x4 (own_cs p1) x878 x879 x880 (own_cs p1) zc fm T1089.heap n0 O1118 f1122 f1123 f1124 f1125 f1126 f1110 f1111 f1112 f1127 f1128 (own_csok p1) (own_csok p1) S_C hzc S_F hfm) hZ966 (own_w hw 62 rfl) (own_w hw 2 rfl) (by decide) (by decide)) (g := (mkF m 115 #[.val (.int p1), .val (.int p2), .val (.int p3), .val (.int p4), .val (.int p5), .val (.int p6), .val (.ref x2), .val (.ref x21), .val (.ref x878), .val (.ref x905), .val (.ref x934), .val (.ref x967), .val (.ref b1022), .val (.ref b1067), .val (.int (((p6.toUInt32 >>> ((2 : Int32) &&& 31).toUInt32).toInt32) &&& (3 : Int32))), .unset] [(.ref x878), (.ref x2)])) rfl (by rw [hml]; rfl) (argsL := [(.ref x2), (.ref x878)]) (rest := []) (lenOf pd_14 rfl) rfl (by show 2 * 0 + _ ≤ _; exact Nat.le_of_eq rfl) (hb hby at_115) (fun _ _ => ⟨rfl, rfl, (by decide : 38 + 0 ≤ _), (by decide : 80 + 0 ≤ _)⟩)
        dsimp only [Pt.U, Pt.locs, Pt.cells, Pt.slots] at X1121 l1121 y1121 z1121 st1121 hQ1121
        subst l1121 y1121 z1121
        obtain ⟨rfl, N1129, k1130⟩ := hQ1121
        have N1131 := Fr.app N1116 N1129
        have f1133 := (Exa.keep (Exa.ext E1067 f1061) k1105)
        have f1134 := (Fld.keep (Fld.ext E1067 f1062) k1105 (ninS ne1071 (ninS ne897 (ninS ne925 nin0))))
        have f1135 := (Fld.keep (Fld.ext E1067 f1063) k1105 (ninS ne1071 (ninS ne897 (ninS ne925 nin0))))
        have f1136 := (fun q => Exa.keep ((fun q => Exa.ext E1067 ((fun q => Exa.keep (f1048 q) k1053) q)) q) k1105)
        have f1137 := (Arv.keep (Arv.ext f1072 E1067) k1105 (ninS ne1073 (ninS ne898 (ninS ne927 nin0))))
        have f1138 := (fun q => Exa.keep (f1100 q) k1105)
        have f1139 := (Arv.keep f1101 k1105 (ninS ne1081 (ninS (Ne.symm ne1019) (ninS (Ne.symm ne1020) nin0))))
        obtain ⟨_, _, ⟨T1132, L1132, k1132, n1132⟩, -, X1132, ⟨Lc1132, hQ1132, l1132, y1132, z1132⟩, st1132⟩ := Jvm.LawKit.callS X1121 hx (y := (⟨"com/example/typecheck/typecheck/model/QNameEqualsPinLaw", "same", "(Ljava/lang/String;Ljava/lang/String;)Z"⟩ : MethodName)) ho966 (mvT hZ966 (own_w hw 60 rfl)) (mvT hZ966 (own_w hw 61 rfl)) (mvT hZ966 (own_w hw 2 rfl)) (mvT hZ966 (own_w hw 62 rfl)) (by decide) (backOf (W := 0) (rm_same l Z a0 hw [] x21 x22 x23 (own_cs p2) x905 x906 x907 (own_cs p4) zc fm T1089.heap n0 O1118 f1133 f1134 f1135 f1136 f1137 f1113 f1114 f1115 f1138 f1139 (own_csok p2) (own_csok p4) S_C hzc S_F hfm) hZ966 (own_w hw 62 rfl) (own_w hw 2 rfl) (by decide) (by decide)) (g := (mkF m 125 #[.val (.int p1), .val (.int p2), .val (.int p3), .val (.int p4), .val (.int p5), .val (.int p6), .val (.ref x2), .val (.ref x21), .val (.ref x878), .val (.ref x905), .val (.ref x934), .val (.ref x967), .val (.ref b1022), .val (.ref b1067), .val (.int (((p6.toUInt32 >>> ((2 : Int32) &&& 31).toUInt32).toInt32) &&& (3 : Int32))), .unset] [(.ref x905), (.ref x21)])) rfl (by rw [hml]; rfl) (argsL := [(.ref x21), (.ref x905)]) (rest := []) (lenOf pd_14 rfl) rfl (by show 2 * 0 + _ ≤ _; exact Nat.le_of_eq rfl) (hb hby at_125) (fun _ _ => ⟨rfl, k1130, (by decide : 38 + 0 ≤ _), (by decide : 80 + 0 ≤ _)⟩)
        dsimp only [Pt.U, Pt.locs, Pt.cells, Pt.slots] at X1132 l1132 y1132 z1132 st1132 hQ1132
        subst l1132 y1132 z1132
        obtain ⟨rfl, N1140, k1141⟩ := hQ1132
        have N1142 := Fr.app N1131 N1140
        have S1143 : ∀ t, Steps p.tables e below (T1132.setTop (mkF m 128 #[.val (.int p1), .val (.int p2), .val (.int p3), .val (.int p4), .val (.int p5), .val (.int p6), .val (.ref x2), .val (.ref x21), .val (.ref x878), .val (.ref x905), .val (.ref x934), .val (.ref x967), .val (.ref b1022), .val (.ref b1067), .val (.int (((p6.toUInt32 >>> ((2 : Int32) &&& 31).toUInt32).toInt32) &&& (3 : Int32))), .unset] [(.int (own_eqI (own_cs p2) (own_cs p4)))])) t → Steps p.tables e below (s₁.setTop (mkF m 0 #[.val (.int p1), .val (.int p2), .val (.int p3), .val (.int p4), .val (.int p5), .val (.int p6), .unset, .unset, .unset, .unset, .unset, .unset, .unset, .unset, .unset, .unset] [])) t := by
          intro t kt
          refine S1119 t ?_
          refine XS.ifNo X1089.here hx rfl (hb hby at_108) rfl ((if0 _ _).trans (teq (c1120 : (((p6.toUInt32 >>> ((2 : Int32) &&& 31).toUInt32).toInt32) &&& (3 : Int32)) = (0 : Int32))).2) ?_
          refine XS.aload X1089.here hx rfl (hb hby at_111) rfl rfl ?_
          refine XS.aload X1089.here hx rfl (hb hby at_113) rfl rfl ?_
          show Steps p.tables e below (T1089.setTop (mkF m 115 #[.val (.int p1), .val (.int p2), .val (.int p3), .val (.int p4), .val (.int p5), .val (.int p6), .val (.ref x2), .val (.ref x21), .val (.ref x878), .val (.ref x905), .val (.ref x934), .val (.ref x967), .val (.ref b1022), .val (.ref b1067), .val (.int (((p6.toUInt32 >>> ((2 : Int32) &&& 31).toUInt32).toInt32) &&& (3 : Int32))), .unset] [(.ref x878), (.ref x2)])) _
          refine st1121 _ ?_
          refine XS.ifNo X1121.here hx rfl (hb hby at_118) rfl ((if0 _ _).trans (feq ((own_eq1 rfl) : ¬ ((own_eqI (own_cs p1) (own_cs p1)) = (0 : Int32)))).1) ?_
          refine XS.aload X1121.here hx rfl (hb hby at_121) rfl rfl ?_
          refine XS.aload X1121.here hx rfl (hb hby at_123) rfl rfl ?_
          show Steps p.tables e below (T1121.setTop (mkF m 125 #[.val (.int p1), .val (.int p2), .val (.int p3), .val (.int p4), .val (.int p5), .val (.int p6), .val (.ref x2), .val (.ref x21), .val (.ref x878), .val (.ref x905), .val (.ref x934), .val (.ref x967), .val (.ref b1022), .val (.ref b1067), .val (.int (((p6.toUInt32 >>> ((2 : Int32) &&& 31).toUInt32).toInt32) &&& (3 : Int32))), .unset] [(.ref x905), (.ref x21)])) _
          refine st1132 _ ?_
          exact kt
        rcases Decidable.em ((own_cs p2) = (own_cs p4)) with c1144 | c1144
        · have f1146 := (Exa.keep (Exa.ext E1067 f1054) k1105)
          have f1147 := (Fld.keep (Fld.ext E1067 f1057) k1105 (ninS ne1082 (ninS (Ne.symm ne1027) (ninS (Ne.symm ne1029) nin0))))
          have f1148 := (Fld.keep (Fld.ext E1067 f1055) k1105 (ninS ne1082 (ninS (Ne.symm ne1027) (ninS (Ne.symm ne1029) nin0))))
          have f1149 := (Fld.keep (Fld.ext E1067 f1056) k1105 (ninS ne1082 (ninS (Ne.symm ne1027) (ninS (Ne.symm ne1029) nin0))))
          obtain ⟨cq1145, kq1145, q1145a, q1145b, q1145c⟩ := isOf hZ966 k1141 f1146
          obtain ⟨_, _, ⟨T1145, L1145, k1145, n1145⟩, -, X1145, ⟨Lc1145, hQ1145, l1145, y1145, z1145⟩, st1145⟩ := X1132.virtualBack hx (y := (⟨"com/example/typecheck/typecheck/model/QName", "equals", "(Ljava/lang/Object;)Z"⟩ : MethodName)) (z := (⟨"com/example/typecheck/typecheck/model/QName", "equals", "(Ljava/lang/Object;)Z"⟩ : MethodName)) ho966 (mvT hZ966 (own_w hw 73 rfl)) (mvT hZ966 (own_w hw 74 rfl)) (notFace_of_selects (args := #[]) (mvT hZ966 (own_w hw 76 rfl))) (mvT hZ966 (own_w hw 76 rfl)) (mvT hZ966 (own_w hw 75 rfl)) (by decide) (backOf (W := 0) (rm_qeq l Z a0 hw [] b1022 (((31 : Int32) * (own_H (own_cs p1))) + (own_H (own_cs p2))) x2 x3 x4 (own_cs p1) x21 x22 x23 (own_cs p2) b1067 (((31 : Int32) * (own_H (own_cs p1))) + (own_H (own_cs p4))) x878 x879 x880 (own_cs p1) x905 x906 x907 (own_cs p4) zc T1089.heap n0 O1118 f1146 f1147 f1148 f1149 f1122 f1123 f1124 f1125 f1126 f1133 f1134 f1135 f1136 f1137 (own_csok p1) (own_csok p2) f1106 f1109 f1107 f1108 f1110 f1111 f1112 f1127 f1128 f1113 f1114 f1115 f1138 f1139 (own_csok p1) (own_csok p4) ne1082 S_C hzc) hZ966 (own_w hw 77 rfl) (own_w hw 28 rfl) (by decide) (by decide)) q1145a q1145c (g := (mkF m 142 #[.val (.int p1), .val (.int p2), .val (.int p3), .val (.int p4), .val (.int p5), .val (.int p6), .val (.ref x2), .val (.ref x21), .val (.ref x878), .val (.ref x905), .val (.ref x934), .val (.ref x967), .val (.ref b1022), .val (.ref b1067), .val (.int (((p6.toUInt32 >>> ((2 : Int32) &&& 31).toUInt32).toInt32) &&& (3 : Int32))), .val (.int (1 : Int32))] [(.ref b1067), (.ref b1022)])) rfl (by rw [hml]; rfl) (Steps.refl _) (argsL := [(.ref b1067)]) (rest := []) (lenOf pd_11 rfl) rfl (by show 2 * 0 + _ ≤ _; exact Nat.le_of_eq rfl) (hb hby at_142) (fun _ _ => ⟨rfl, k1141, (by decide : 38 + 0 ≤ _), (by decide : 80 + 0 ≤ _)⟩)
          dsimp only [Pt.U, Pt.locs, Pt.cells, Pt.slots] at X1145 l1145 y1145 z1145 st1145 hQ1145
          subst l1145 y1145 z1145
          rcases hQ1145 with ⟨c1150, c1151, rfl, N1152, k1153⟩ | ⟨c1154, rfl, N1155, k1156⟩ | ⟨c1157, rfl, N1158, k1159⟩ | ⟨c1160, rfl, N1161, k1162⟩
          · have N1163 := Fr.app N1142 N1152
            obtain ⟨cq1164, kq1164, q1164a, q1164b, q1164c⟩ := isOf hZ966 k1153 f1106
            obtain ⟨_, _, ⟨T1164, L1164, k1164, n1164⟩, -, X1164, ⟨Lc1164, hQ1164, l1164, y1164, z1164⟩, st1164⟩ := X1145.virtualBack hx (y := (⟨"com/example/typecheck/typecheck/model/QName", "equals", "(Ljava/lang/Object;)Z"⟩ : MethodName)) (z := (⟨"com/example/typecheck/typecheck/model/QName", "equals", "(Ljava/lang/Object;)Z"⟩ : MethodName)) ho966 (mvT hZ966 (own_w hw 73 rfl)) (mvT hZ966 (own_w hw 74 rfl)) (notFace_of_selects (args := #[]) (mvT hZ966 (own_w hw 76 rfl))) (mvT hZ966 (own_w hw 76 rfl)) (mvT hZ966 (own_w hw 75 rfl)) (by decide) (backOf (W := 0) (rm_qeq l Z a0 hw [] b1067 (((31 : Int32) * (own_H (own_cs p1))) + (own_H (own_cs p4))) x878 x879 x880 (own_cs p1) x905 x906 x907 (own_cs p4) b1022 (((31 : Int32) * (own_H (own_cs p1))) + (own_H (own_cs p2))) x2 x3 x4 (own_cs p1) x21 x22 x23 (own_cs p2) zc T1089.heap n0 O1118 f1106 f1109 f1107 f1108 f1110 f1111 f1112 f1127 f1128 f1113 f1114 f1115 f1138 f1139 (own_csok p1) (own_csok p4) f1146 f1147 f1148 f1149 f1122 f1123 f1124 f1125 f1126 f1133 f1134 f1135 f1136 f1137 (own_csok p1) (own_csok p2) (Ne.symm ne1082) S_C hzc) hZ966 (own_w hw 77 rfl) (own_w hw 28 rfl) (by decide) (by decide)) q1164a q1164c (g := (mkF m 154 #[.val (.int p1), .val (.int p2), .val (.int p3), .val (.int p4), .val (.int p5), .val (.int p6), .val (.ref x2), .val (.ref x21), .val (.ref x878), .val (.ref x905), .val (.ref x934), .val (.ref x967), .val (.ref b1022), .val (.ref b1067), .val (.int (((p6.toUInt32 >>> ((2 : Int32) &&& 31).toUInt32).toInt32) &&& (3 : Int32))), .val (.int (1 : Int32))] [(.ref b1022), (.ref b1067)])) rfl (by rw [hml]; rfl) (Steps.refl _) (argsL := [(.ref b1022)]) (rest := []) (lenOf pd_11 rfl) rfl (by show 2 * 0 + _ ≤ _; exact Nat.le_of_eq rfl) (hb hby at_154) (fun _ _ => ⟨rfl, k1153, (by decide : 38 + 0 ≤ _), (by decide : 80 + 0 ≤ _)⟩)
            dsimp only [Pt.U, Pt.locs, Pt.cells, Pt.slots] at X1164 l1164 y1164 z1164 st1164 hQ1164
            subst l1164 y1164 z1164
            rcases hQ1164 with ⟨c1165, c1166, rfl, N1167, k1168⟩ | ⟨c1169, rfl, N1170, k1171⟩ | ⟨c1172, rfl, N1173, k1174⟩ | ⟨c1175, rfl, N1176, k1177⟩
            · have N1178 := Fr.app N1163 N1167
              have S1179 : ∀ t, Steps p.tables e below (T1164.setTop (mkF m 167 #[.val (.int p1), .val (.int p2), .val (.int p3), .val (.int p4), .val (.int p5), .val (.int p6), .val (.ref x2), .val (.ref x21), .val (.ref x878), .val (.ref x905), .val (.ref x934), .val (.ref x967), .val (.ref b1022), .val (.ref b1067), .val (.int (((p6.toUInt32 >>> ((2 : Int32) &&& 31).toUInt32).toInt32) &&& (3 : Int32))), .val (.int (1 : Int32))] [(.int (1 : Int32))])) t → Steps p.tables e below (s₁.setTop (mkF m 0 #[.val (.int p1), .val (.int p2), .val (.int p3), .val (.int p4), .val (.int p5), .val (.int p6), .unset, .unset, .unset, .unset, .unset, .unset, .unset, .unset, .unset, .unset] [])) t := by
                intro t kt
                refine S1143 t ?_
                refine XS.ifNo X1132.here hx rfl (hb hby at_128) rfl ((if0 _ _).trans (feq ((own_eq1 c1144) : ¬ ((own_eqI (own_cs p2) (own_cs p4)) = (0 : Int32)))).1) ?_
                refine XS.iconst X1132.here hx rfl (hb hby at_131) ?_
                refine XS.goto X1132.here hx rfl (pc0 := 132) (pc' := 136) rfl (hb hby at_132) (by decide) (by decide) ?_
                refine XS.istore X1132.here hx rfl (hb hby at_136) rfl (l' := #[.val (.int p1), .val (.int p2), .val (.int p3), .val (.int p4), .val (.int p5), .val (.int p6), .val (.ref x2), .val (.ref x21), .val (.ref x878), .val (.ref x905), .val (.ref x934), .val (.ref x967), .val (.ref b1022), .val (.ref b1067), .val (.int (((p6.toUInt32 >>> ((2 : Int32) &&& 31).toUInt32).toInt32) &&& (3 : Int32))), .val (.int (1 : Int32))]) rfl ?_
                refine XS.aload X1132.here hx rfl (hb hby at_138) rfl rfl ?_
                refine XS.aload X1132.here hx rfl (hb hby at_140) rfl rfl ?_
                show Steps p.tables e below (T1132.setTop (mkF m 142 #[.val (.int p1), .val (.int p2), .val (.int p3), .val (.int p4), .val (.int p5), .val (.int p6), .val (.ref x2), .val (.ref x21), .val (.ref x878), .val (.ref x905), .val (.ref x934), .val (.ref x967), .val (.ref b1022), .val (.ref b1067), .val (.int (((p6.toUInt32 >>> ((2 : Int32) &&& 31).toUInt32).toInt32) &&& (3 : Int32))), .val (.int (1 : Int32))] [(.ref b1067), (.ref b1022)])) _
                refine st1145.trans ?_
                refine XS.iload X1145.here hx rfl (hb hby at_145) rfl ?_
                refine XS.icmpNo X1145.here hx rfl (hb hby at_147) rfl (teq ((by decide) : (1 : Int32) = (1 : Int32))).2 ?_
                refine XS.aload X1145.here hx rfl (hb hby at_150) rfl rfl ?_
                refine XS.aload X1145.here hx rfl (hb hby at_152) rfl rfl ?_
                show Steps p.tables e below (T1145.setTop (mkF m 154 #[.val (.int p1), .val (.int p2), .val (.int p3), .val (.int p4), .val (.int p5), .val (.int p6), .val (.ref x2), .val (.ref x21), .val (.ref x878), .val (.ref x905), .val (.ref x934), .val (.ref x967), .val (.ref b1022), .val (.ref b1067), .val (.int (((p6.toUInt32 >>> ((2 : Int32) &&& 31).toUInt32).toInt32) &&& (3 : Int32))), .val (.int (1 : Int32))] [(.ref b1022), (.ref b1067)])) _
                refine st1164.trans ?_
                refine XS.iload X1164.here hx rfl (hb hby at_157) rfl ?_
                refine XS.icmpNo X1164.here hx rfl (hb hby at_159) rfl (teq ((by decide) : (1 : Int32) = (1 : Int32))).2 ?_
                refine XS.iconst X1164.here hx rfl (hb hby at_162) ?_
                refine XS.goto X1164.here hx rfl (pc0 := 163) (pc' := 167) rfl (hb hby at_163) (by decide) (by decide) ?_
                exact kt
              obtain ⟨fs, hr, hrun, hended, hRW⟩ := X1164.leaveW hS966 (by rw [k1168]; exact hk1117) (v := some (.int (1 : Int32))) (fun h => by rw [Bd.returns] at h; cases h)
              refine ⟨_, _, pre0 _ (S1179 _ ?_), hrun, hended, _, _, rfl, ?_, hRW.1, hRW.2.1, hRW.2.2.1, hRW.2.2.2.mono (by decide) (by decide)⟩
              · exact retN X1164 hx (t := .boolean) Bd.returns (by simp) (hb hby at_167) hr
              · show Q_rm_law Z p1 p2 p3 p4 p5 p6 zc fm h0 n0 _ T1164.heap _
                rw [k1168]
                exact ⟨rfl, N1178⟩
            · exact absurd ((Eq.symm (own_hq rfl c1144)) : (((31 : Int32) * (own_H (own_cs p1))) + (own_H (own_cs p4))) = (((31 : Int32) * (own_H (own_cs p1))) + (own_H (own_cs p2)))) c1169
            · exact absurd ((Eq.symm c1144) : (own_cs p4) = (own_cs p2)) c1172
            · exact absurd (c1151 : (own_cs p1) = (own_cs p1)) c1175
          · exact absurd ((own_hq rfl c1144) : (((31 : Int32) * (own_H (own_cs p1))) + (own_H (own_cs p2))) = (((31 : Int32) * (own_H (own_cs p1))) + (own_H (own_cs p4)))) c1154
          · exact absurd (c1144 : (own_cs p2) = (own_cs p4)) c1157
          · exact absurd ((Eq.symm rfl) : (own_cs p1) = (own_cs p1)) c1160
        · have f1181 := (Exa.keep (Exa.ext E1067 f1054) k1105)
          have f1182 := (Fld.keep (Fld.ext E1067 f1057) k1105 (ninS ne1082 (ninS (Ne.symm ne1027) (ninS (Ne.symm ne1029) nin0))))
          have f1183 := (Fld.keep (Fld.ext E1067 f1055) k1105 (ninS ne1082 (ninS (Ne.symm ne1027) (ninS (Ne.symm ne1029) nin0))))
          have f1184 := (Fld.keep (Fld.ext E1067 f1056) k1105 (ninS ne1082 (ninS (Ne.symm ne1027) (ninS (Ne.symm ne1029) nin0))))
          obtain ⟨cq1180, kq1180, q1180a, q1180b, q1180c⟩ := isOf hZ966 k1141 f1181
          obtain ⟨_, _, ⟨T1180, L1180, k1180, n1180⟩, -, X1180, ⟨Lc1180, hQ1180, l1180, y1180, z1180⟩, st1180⟩ := X1132.virtualBack hx (y := (⟨"com/example/typecheck/typecheck/model/QName", "equals", "(Ljava/lang/Object;)Z"⟩ : MethodName)) (z := (⟨"com/example/typecheck/typecheck/model/QName", "equals", "(Ljava/lang/Object;)Z"⟩ : MethodName)) ho966 (mvT hZ966 (own_w hw 73 rfl)) (mvT hZ966 (own_w hw 74 rfl)) (notFace_of_selects (args := #[]) (mvT hZ966 (own_w hw 76 rfl))) (mvT hZ966 (own_w hw 76 rfl)) (mvT hZ966 (own_w hw 75 rfl)) (by decide) (backOf (W := 0) (rm_qeq l Z a0 hw [] b1022 (((31 : Int32) * (own_H (own_cs p1))) + (own_H (own_cs p2))) x2 x3 x4 (own_cs p1) x21 x22 x23 (own_cs p2) b1067 (((31 : Int32) * (own_H (own_cs p1))) + (own_H (own_cs p4))) x878 x879 x880 (own_cs p1) x905 x906 x907 (own_cs p4) zc T1089.heap n0 O1118 f1181 f1182 f1183 f1184 f1122 f1123 f1124 f1125 f1126 f1133 f1134 f1135 f1136 f1137 (own_csok p1) (own_csok p2) f1106 f1109 f1107 f1108 f1110 f1111 f1112 f1127 f1128 f1113 f1114 f1115 f1138 f1139 (own_csok p1) (own_csok p4) ne1082 S_C hzc) hZ966 (own_w hw 77 rfl) (own_w hw 28 rfl) (by decide) (by decide)) q1180a q1180c (g := (mkF m 142 #[.val (.int p1), .val (.int p2), .val (.int p3), .val (.int p4), .val (.int p5), .val (.int p6), .val (.ref x2), .val (.ref x21), .val (.ref x878), .val (.ref x905), .val (.ref x934), .val (.ref x967), .val (.ref b1022), .val (.ref b1067), .val (.int (((p6.toUInt32 >>> ((2 : Int32) &&& 31).toUInt32).toInt32) &&& (3 : Int32))), .val (.int (0 : Int32))] [(.ref b1067), (.ref b1022)])) rfl (by rw [hml]; rfl) (Steps.refl _) (argsL := [(.ref b1067)]) (rest := []) (lenOf pd_11 rfl) rfl (by show 2 * 0 + _ ≤ _; exact Nat.le_of_eq rfl) (hb hby at_142) (fun _ _ => ⟨rfl, k1141, (by decide : 38 + 0 ≤ _), (by decide : 80 + 0 ≤ _)⟩)
          dsimp only [Pt.U, Pt.locs, Pt.cells, Pt.slots] at X1180 l1180 y1180 z1180 st1180 hQ1180
          subst l1180 y1180 z1180
          rcases hQ1180 with ⟨c1185, c1186, rfl, N1187, k1188⟩ | ⟨c1189, rfl, N1190, k1191⟩ | ⟨c1192, rfl, N1193, k1194⟩ | ⟨c1195, rfl, N1196, k1197⟩
          · exact absurd c1185 (c1144 : ¬ ((own_cs p2) = (own_cs p4)))
          · have N1198 := Fr.app N1142 N1190
            obtain ⟨cq1199, kq1199, q1199a, q1199b, q1199c⟩ := isOf hZ966 k1191 f1106
            obtain ⟨_, _, ⟨T1199, L1199, k1199, n1199⟩, -, X1199, ⟨Lc1199, hQ1199, l1199, y1199, z1199⟩, st1199⟩ := X1180.virtualBack hx (y := (⟨"com/example/typecheck/typecheck/model/QName", "equals", "(Ljava/lang/Object;)Z"⟩ : MethodName)) (z := (⟨"com/example/typecheck/typecheck/model/QName", "equals", "(Ljava/lang/Object;)Z"⟩ : MethodName)) ho966 (mvT hZ966 (own_w hw 73 rfl)) (mvT hZ966 (own_w hw 74 rfl)) (notFace_of_selects (args := #[]) (mvT hZ966 (own_w hw 76 rfl))) (mvT hZ966 (own_w hw 76 rfl)) (mvT hZ966 (own_w hw 75 rfl)) (by decide) (backOf (W := 0) (rm_qeq l Z a0 hw [] b1067 (((31 : Int32) * (own_H (own_cs p1))) + (own_H (own_cs p4))) x878 x879 x880 (own_cs p1) x905 x906 x907 (own_cs p4) b1022 (((31 : Int32) * (own_H (own_cs p1))) + (own_H (own_cs p2))) x2 x3 x4 (own_cs p1) x21 x22 x23 (own_cs p2) zc T1089.heap n0 O1118 f1106 f1109 f1107 f1108 f1110 f1111 f1112 f1127 f1128 f1113 f1114 f1115 f1138 f1139 (own_csok p1) (own_csok p4) f1181 f1182 f1183 f1184 f1122 f1123 f1124 f1125 f1126 f1133 f1134 f1135 f1136 f1137 (own_csok p1) (own_csok p2) (Ne.symm ne1082) S_C hzc) hZ966 (own_w hw 77 rfl) (own_w hw 28 rfl) (by decide) (by decide)) q1199a q1199c (g := (mkF m 154 #[.val (.int p1), .val (.int p2), .val (.int p3), .val (.int p4), .val (.int p5), .val (.int p6), .val (.ref x2), .val (.ref x21), .val (.ref x878), .val (.ref x905), .val (.ref x934), .val (.ref x967), .val (.ref b1022), .val (.ref b1067), .val (.int (((p6.toUInt32 >>> ((2 : Int32) &&& 31).toUInt32).toInt32) &&& (3 : Int32))), .val (.int (0 : Int32))] [(.ref b1022), (.ref b1067)])) rfl (by rw [hml]; rfl) (Steps.refl _) (argsL := [(.ref b1022)]) (rest := []) (lenOf pd_11 rfl) rfl (by show 2 * 0 + _ ≤ _; exact Nat.le_of_eq rfl) (hb hby at_154) (fun _ _ => ⟨rfl, k1191, (by decide : 38 + 0 ≤ _), (by decide : 80 + 0 ≤ _)⟩)
            dsimp only [Pt.U, Pt.locs, Pt.cells, Pt.slots] at X1199 l1199 y1199 z1199 st1199 hQ1199
            subst l1199 y1199 z1199
            rcases hQ1199 with ⟨c1200, c1201, rfl, N1202, k1203⟩ | ⟨c1204, rfl, N1205, k1206⟩ | ⟨c1207, rfl, N1208, k1209⟩ | ⟨c1210, rfl, N1211, k1212⟩
            · exact absurd c1200 ((fun q => c1144 q.symm) : ¬ ((own_cs p4) = (own_cs p2)))
            · have N1213 := Fr.app N1198 N1205
              have S1214 : ∀ t, Steps p.tables e below (T1199.setTop (mkF m 167 #[.val (.int p1), .val (.int p2), .val (.int p3), .val (.int p4), .val (.int p5), .val (.int p6), .val (.ref x2), .val (.ref x21), .val (.ref x878), .val (.ref x905), .val (.ref x934), .val (.ref x967), .val (.ref b1022), .val (.ref b1067), .val (.int (((p6.toUInt32 >>> ((2 : Int32) &&& 31).toUInt32).toInt32) &&& (3 : Int32))), .val (.int (0 : Int32))] [(.int (1 : Int32))])) t → Steps p.tables e below (s₁.setTop (mkF m 0 #[.val (.int p1), .val (.int p2), .val (.int p3), .val (.int p4), .val (.int p5), .val (.int p6), .unset, .unset, .unset, .unset, .unset, .unset, .unset, .unset, .unset, .unset] [])) t := by
                intro t kt
                refine S1143 t ?_
                refine XS.ifYes X1132.here hx rfl (pc0 := 128) (pc' := 135) rfl (hb hby at_128) rfl ((if0 _ _).trans (teq ((own_eq0 c1144) : (own_eqI (own_cs p2) (own_cs p4)) = (0 : Int32))).1) (by decide) (by decide) ?_
                refine XS.iconst X1132.here hx rfl (hb hby at_135) ?_
                refine XS.istore X1132.here hx rfl (hb hby at_136) rfl (l' := #[.val (.int p1), .val (.int p2), .val (.int p3), .val (.int p4), .val (.int p5), .val (.int p6), .val (.ref x2), .val (.ref x21), .val (.ref x878), .val (.ref x905), .val (.ref x934), .val (.ref x967), .val (.ref b1022), .val (.ref b1067), .val (.int (((p6.toUInt32 >>> ((2 : Int32) &&& 31).toUInt32).toInt32) &&& (3 : Int32))), .val (.int (0 : Int32))]) rfl ?_
                refine XS.aload X1132.here hx rfl (hb hby at_138) rfl rfl ?_
                refine XS.aload X1132.here hx rfl (hb hby at_140) rfl rfl ?_
                show Steps p.tables e below (T1132.setTop (mkF m 142 #[.val (.int p1), .val (.int p2), .val (.int p3), .val (.int p4), .val (.int p5), .val (.int p6), .val (.ref x2), .val (.ref x21), .val (.ref x878), .val (.ref x905), .val (.ref x934), .val (.ref x967), .val (.ref b1022), .val (.ref b1067), .val (.int (((p6.toUInt32 >>> ((2 : Int32) &&& 31).toUInt32).toInt32) &&& (3 : Int32))), .val (.int (0 : Int32))] [(.ref b1067), (.ref b1022)])) _
                refine st1180.trans ?_
                refine XS.iload X1180.here hx rfl (hb hby at_145) rfl ?_
                refine XS.icmpNo X1180.here hx rfl (hb hby at_147) rfl (teq ((by decide) : (0 : Int32) = (0 : Int32))).2 ?_
                refine XS.aload X1180.here hx rfl (hb hby at_150) rfl rfl ?_
                refine XS.aload X1180.here hx rfl (hb hby at_152) rfl rfl ?_
                show Steps p.tables e below (T1180.setTop (mkF m 154 #[.val (.int p1), .val (.int p2), .val (.int p3), .val (.int p4), .val (.int p5), .val (.int p6), .val (.ref x2), .val (.ref x21), .val (.ref x878), .val (.ref x905), .val (.ref x934), .val (.ref x967), .val (.ref b1022), .val (.ref b1067), .val (.int (((p6.toUInt32 >>> ((2 : Int32) &&& 31).toUInt32).toInt32) &&& (3 : Int32))), .val (.int (0 : Int32))] [(.ref b1022), (.ref b1067)])) _
                refine st1199.trans ?_
                refine XS.iload X1199.here hx rfl (hb hby at_157) rfl ?_
                refine XS.icmpNo X1199.here hx rfl (hb hby at_159) rfl (teq ((by decide) : (0 : Int32) = (0 : Int32))).2 ?_
                refine XS.iconst X1199.here hx rfl (hb hby at_162) ?_
                refine XS.goto X1199.here hx rfl (pc0 := 163) (pc' := 167) rfl (hb hby at_163) (by decide) (by decide) ?_
                exact kt
              obtain ⟨fs, hr, hrun, hended, hRW⟩ := X1199.leaveW hS966 (by rw [k1206]; exact hk1117) (v := some (.int (1 : Int32))) (fun h => by rw [Bd.returns] at h; cases h)
              refine ⟨_, _, pre0 _ (S1214 _ ?_), hrun, hended, _, _, rfl, ?_, hRW.1, hRW.2.1, hRW.2.2.1, hRW.2.2.2.mono (by decide) (by decide)⟩
              · exact retN X1199 hx (t := .boolean) Bd.returns (by simp) (hb hby at_167) hr
              · show Q_rm_law Z p1 p2 p3 p4 p5 p6 zc fm h0 n0 _ T1199.heap _
                rw [k1206]
                exact ⟨rfl, N1213⟩
            · have N1215 := Fr.app N1198 N1208
              have S1216 : ∀ t, Steps p.tables e below (T1199.setTop (mkF m 167 #[.val (.int p1), .val (.int p2), .val (.int p3), .val (.int p4), .val (.int p5), .val (.int p6), .val (.ref x2), .val (.ref x21), .val (.ref x878), .val (.ref x905), .val (.ref x934), .val (.ref x967), .val (.ref b1022), .val (.ref b1067), .val (.int (((p6.toUInt32 >>> ((2 : Int32) &&& 31).toUInt32).toInt32) &&& (3 : Int32))), .val (.int (0 : Int32))] [(.int (1 : Int32))])) t → Steps p.tables e below (s₁.setTop (mkF m 0 #[.val (.int p1), .val (.int p2), .val (.int p3), .val (.int p4), .val (.int p5), .val (.int p6), .unset, .unset, .unset, .unset, .unset, .unset, .unset, .unset, .unset, .unset] [])) t := by
                intro t kt
                refine S1143 t ?_
                refine XS.ifYes X1132.here hx rfl (pc0 := 128) (pc' := 135) rfl (hb hby at_128) rfl ((if0 _ _).trans (teq ((own_eq0 c1144) : (own_eqI (own_cs p2) (own_cs p4)) = (0 : Int32))).1) (by decide) (by decide) ?_
                refine XS.iconst X1132.here hx rfl (hb hby at_135) ?_
                refine XS.istore X1132.here hx rfl (hb hby at_136) rfl (l' := #[.val (.int p1), .val (.int p2), .val (.int p3), .val (.int p4), .val (.int p5), .val (.int p6), .val (.ref x2), .val (.ref x21), .val (.ref x878), .val (.ref x905), .val (.ref x934), .val (.ref x967), .val (.ref b1022), .val (.ref b1067), .val (.int (((p6.toUInt32 >>> ((2 : Int32) &&& 31).toUInt32).toInt32) &&& (3 : Int32))), .val (.int (0 : Int32))]) rfl ?_
                refine XS.aload X1132.here hx rfl (hb hby at_138) rfl rfl ?_
                refine XS.aload X1132.here hx rfl (hb hby at_140) rfl rfl ?_
                show Steps p.tables e below (T1132.setTop (mkF m 142 #[.val (.int p1), .val (.int p2), .val (.int p3), .val (.int p4), .val (.int p5), .val (.int p6), .val (.ref x2), .val (.ref x21), .val (.ref x878), .val (.ref x905), .val (.ref x934), .val (.ref x967), .val (.ref b1022), .val (.ref b1067), .val (.int (((p6.toUInt32 >>> ((2 : Int32) &&& 31).toUInt32).toInt32) &&& (3 : Int32))), .val (.int (0 : Int32))] [(.ref b1067), (.ref b1022)])) _
                refine st1180.trans ?_
                refine XS.iload X1180.here hx rfl (hb hby at_145) rfl ?_
                refine XS.icmpNo X1180.here hx rfl (hb hby at_147) rfl (teq ((by decide) : (0 : Int32) = (0 : Int32))).2 ?_
                refine XS.aload X1180.here hx rfl (hb hby at_150) rfl rfl ?_
                refine XS.aload X1180.here hx rfl (hb hby at_152) rfl rfl ?_
                show Steps p.tables e below (T1180.setTop (mkF m 154 #[.val (.int p1), .val (.int p2), .val (.int p3), .val (.int p4), .val (.int p5), .val (.int p6), .val (.ref x2), .val (.ref x21), .val (.ref x878), .val (.ref x905), .val (.ref x934), .val (.ref x967), .val (.ref b1022), .val (.ref b1067), .val (.int (((p6.toUInt32 >>> ((2 : Int32) &&& 31).toUInt32).toInt32) &&& (3 : Int32))), .val (.int (0 : Int32))] [(.ref b1022), (.ref b1067)])) _
                refine st1199.trans ?_
                refine XS.iload X1199.here hx rfl (hb hby at_157) rfl ?_
                refine XS.icmpNo X1199.here hx rfl (hb hby at_159) rfl (teq ((by decide) : (0 : Int32) = (0 : Int32))).2 ?_
                refine XS.iconst X1199.here hx rfl (hb hby at_162) ?_
                refine XS.goto X1199.here hx rfl (pc0 := 163) (pc' := 167) rfl (hb hby at_163) (by decide) (by decide) ?_
                exact kt
              obtain ⟨fs, hr, hrun, hended, hRW⟩ := X1199.leaveW hS966 (by rw [k1209]; exact hk1117) (v := some (.int (1 : Int32))) (fun h => by rw [Bd.returns] at h; cases h)
              refine ⟨_, _, pre0 _ (S1216 _ ?_), hrun, hended, _, _, rfl, ?_, hRW.1, hRW.2.1, hRW.2.2.1, hRW.2.2.2.mono (by decide) (by decide)⟩
              · exact retN X1199 hx (t := .boolean) Bd.returns (by simp) (hb hby at_167) hr
              · show Q_rm_law Z p1 p2 p3 p4 p5 p6 zc fm h0 n0 _ T1199.heap _
                rw [k1209]
                exact ⟨rfl, N1215⟩
            · exact absurd ((Eq.symm rfl) : (own_cs p1) = (own_cs p1)) c1210
          · have N1217 := Fr.app N1142 N1193
            obtain ⟨cq1218, kq1218, q1218a, q1218b, q1218c⟩ := isOf hZ966 k1194 f1106
            obtain ⟨_, _, ⟨T1218, L1218, k1218, n1218⟩, -, X1218, ⟨Lc1218, hQ1218, l1218, y1218, z1218⟩, st1218⟩ := X1180.virtualBack hx (y := (⟨"com/example/typecheck/typecheck/model/QName", "equals", "(Ljava/lang/Object;)Z"⟩ : MethodName)) (z := (⟨"com/example/typecheck/typecheck/model/QName", "equals", "(Ljava/lang/Object;)Z"⟩ : MethodName)) ho966 (mvT hZ966 (own_w hw 73 rfl)) (mvT hZ966 (own_w hw 74 rfl)) (notFace_of_selects (args := #[]) (mvT hZ966 (own_w hw 76 rfl))) (mvT hZ966 (own_w hw 76 rfl)) (mvT hZ966 (own_w hw 75 rfl)) (by decide) (backOf (W := 0) (rm_qeq l Z a0 hw [] b1067 (((31 : Int32) * (own_H (own_cs p1))) + (own_H (own_cs p4))) x878 x879 x880 (own_cs p1) x905 x906 x907 (own_cs p4) b1022 (((31 : Int32) * (own_H (own_cs p1))) + (own_H (own_cs p2))) x2 x3 x4 (own_cs p1) x21 x22 x23 (own_cs p2) zc T1089.heap n0 O1118 f1106 f1109 f1107 f1108 f1110 f1111 f1112 f1127 f1128 f1113 f1114 f1115 f1138 f1139 (own_csok p1) (own_csok p4) f1181 f1182 f1183 f1184 f1122 f1123 f1124 f1125 f1126 f1133 f1134 f1135 f1136 f1137 (own_csok p1) (own_csok p2) (Ne.symm ne1082) S_C hzc) hZ966 (own_w hw 77 rfl) (own_w hw 28 rfl) (by decide) (by decide)) q1218a q1218c (g := (mkF m 154 #[.val (.int p1), .val (.int p2), .val (.int p3), .val (.int p4), .val (.int p5), .val (.int p6), .val (.ref x2), .val (.ref x21), .val (.ref x878), .val (.ref x905), .val (.ref x934), .val (.ref x967), .val (.ref b1022), .val (.ref b1067), .val (.int (((p6.toUInt32 >>> ((2 : Int32) &&& 31).toUInt32).toInt32) &&& (3 : Int32))), .val (.int (0 : Int32))] [(.ref b1022), (.ref b1067)])) rfl (by rw [hml]; rfl) (Steps.refl _) (argsL := [(.ref b1022)]) (rest := []) (lenOf pd_11 rfl) rfl (by show 2 * 0 + _ ≤ _; exact Nat.le_of_eq rfl) (hb hby at_154) (fun _ _ => ⟨rfl, k1194, (by decide : 38 + 0 ≤ _), (by decide : 80 + 0 ≤ _)⟩)
            dsimp only [Pt.U, Pt.locs, Pt.cells, Pt.slots] at X1218 l1218 y1218 z1218 st1218 hQ1218
            subst l1218 y1218 z1218
            rcases hQ1218 with ⟨c1219, c1220, rfl, N1221, k1222⟩ | ⟨c1223, rfl, N1224, k1225⟩ | ⟨c1226, rfl, N1227, k1228⟩ | ⟨c1229, rfl, N1230, k1231⟩
            · exact absurd c1219 ((fun q => c1144 q.symm) : ¬ ((own_cs p4) = (own_cs p2)))
            · have N1232 := Fr.app N1217 N1224
              have S1233 : ∀ t, Steps p.tables e below (T1218.setTop (mkF m 167 #[.val (.int p1), .val (.int p2), .val (.int p3), .val (.int p4), .val (.int p5), .val (.int p6), .val (.ref x2), .val (.ref x21), .val (.ref x878), .val (.ref x905), .val (.ref x934), .val (.ref x967), .val (.ref b1022), .val (.ref b1067), .val (.int (((p6.toUInt32 >>> ((2 : Int32) &&& 31).toUInt32).toInt32) &&& (3 : Int32))), .val (.int (0 : Int32))] [(.int (1 : Int32))])) t → Steps p.tables e below (s₁.setTop (mkF m 0 #[.val (.int p1), .val (.int p2), .val (.int p3), .val (.int p4), .val (.int p5), .val (.int p6), .unset, .unset, .unset, .unset, .unset, .unset, .unset, .unset, .unset, .unset] [])) t := by
                intro t kt
                refine S1143 t ?_
                refine XS.ifYes X1132.here hx rfl (pc0 := 128) (pc' := 135) rfl (hb hby at_128) rfl ((if0 _ _).trans (teq ((own_eq0 c1144) : (own_eqI (own_cs p2) (own_cs p4)) = (0 : Int32))).1) (by decide) (by decide) ?_
                refine XS.iconst X1132.here hx rfl (hb hby at_135) ?_
                refine XS.istore X1132.here hx rfl (hb hby at_136) rfl (l' := #[.val (.int p1), .val (.int p2), .val (.int p3), .val (.int p4), .val (.int p5), .val (.int p6), .val (.ref x2), .val (.ref x21), .val (.ref x878), .val (.ref x905), .val (.ref x934), .val (.ref x967), .val (.ref b1022), .val (.ref b1067), .val (.int (((p6.toUInt32 >>> ((2 : Int32) &&& 31).toUInt32).toInt32) &&& (3 : Int32))), .val (.int (0 : Int32))]) rfl ?_
                refine XS.aload X1132.here hx rfl (hb hby at_138) rfl rfl ?_
                refine XS.aload X1132.here hx rfl (hb hby at_140) rfl rfl ?_
                show Steps p.tables e below (T1132.setTop (mkF m 142 #[.val (.int p1), .val (.int p2), .val (.int p3), .val (.int p4), .val (.int p5), .val (.int p6), .val (.ref x2), .val (.ref x21), .val (.ref x878), .val (.ref x905), .val (.ref x934), .val (.ref x967), .val (.ref b1022), .val (.ref b1067), .val (.int (((p6.toUInt32 >>> ((2 : Int32) &&& 31).toUInt32).toInt32) &&& (3 : Int32))), .val (.int (0 : Int32))] [(.ref b1067), (.ref b1022)])) _
                refine st1180.trans ?_
                refine XS.iload X1180.here hx rfl (hb hby at_145) rfl ?_
                refine XS.icmpNo X1180.here hx rfl (hb hby at_147) rfl (teq ((by decide) : (0 : Int32) = (0 : Int32))).2 ?_
                refine XS.aload X1180.here hx rfl (hb hby at_150) rfl rfl ?_
                refine XS.aload X1180.here hx rfl (hb hby at_152) rfl rfl ?_
                show Steps p.tables e below (T1180.setTop (mkF m 154 #[.val (.int p1), .val (.int p2), .val (.int p3), .val (.int p4), .val (.int p5), .val (.int p6), .val (.ref x2), .val (.ref x21), .val (.ref x878), .val (.ref x905), .val (.ref x934), .val (.ref x967), .val (.ref b1022), .val (.ref b1067), .val (.int (((p6.toUInt32 >>> ((2 : Int32) &&& 31).toUInt32).toInt32) &&& (3 : Int32))), .val (.int (0 : Int32))] [(.ref b1022), (.ref b1067)])) _
                refine st1218.trans ?_
                refine XS.iload X1218.here hx rfl (hb hby at_157) rfl ?_
                refine XS.icmpNo X1218.here hx rfl (hb hby at_159) rfl (teq ((by decide) : (0 : Int32) = (0 : Int32))).2 ?_
                refine XS.iconst X1218.here hx rfl (hb hby at_162) ?_
                refine XS.goto X1218.here hx rfl (pc0 := 163) (pc' := 167) rfl (hb hby at_163) (by decide) (by decide) ?_
                exact kt
              obtain ⟨fs, hr, hrun, hended, hRW⟩ := X1218.leaveW hS966 (by rw [k1225]; exact hk1117) (v := some (.int (1 : Int32))) (fun h => by rw [Bd.returns] at h; cases h)
              refine ⟨_, _, pre0 _ (S1233 _ ?_), hrun, hended, _, _, rfl, ?_, hRW.1, hRW.2.1, hRW.2.2.1, hRW.2.2.2.mono (by decide) (by decide)⟩
              · exact retN X1218 hx (t := .boolean) Bd.returns (by simp) (hb hby at_167) hr
              · show Q_rm_law Z p1 p2 p3 p4 p5 p6 zc fm h0 n0 _ T1218.heap _
                rw [k1225]
                exact ⟨rfl, N1232⟩
            · have N1234 := Fr.app N1217 N1227
              have S1235 : ∀ t, Steps p.tables e below (T1218.setTop (mkF m 167 #[.val (.int p1), .val (.int p2), .val (.int p3), .val (.int p4), .val (.int p5), .val (.int p6), .val (.ref x2), .val (.ref x21), .val (.ref x878), .val (.ref x905), .val (.ref x934), .val (.ref x967), .val (.ref b1022), .val (.ref b1067), .val (.int (((p6.toUInt32 >>> ((2 : Int32) &&& 31).toUInt32).toInt32) &&& (3 : Int32))), .val (.int (0 : Int32))] [(.int (1 : Int32))])) t → Steps p.tables e below (s₁.setTop (mkF m 0 #[.val (.int p1), .val (.int p2), .val (.int p3), .val (.int p4), .val (.int p5), .val (.int p6), .unset, .unset, .unset, .unset, .unset, .unset, .unset, .unset, .unset, .unset] [])) t := by
                intro t kt
                refine S1143 t ?_
                refine XS.ifYes X1132.here hx rfl (pc0 := 128) (pc' := 135) rfl (hb hby at_128) rfl ((if0 _ _).trans (teq ((own_eq0 c1144) : (own_eqI (own_cs p2) (own_cs p4)) = (0 : Int32))).1) (by decide) (by decide) ?_
                refine XS.iconst X1132.here hx rfl (hb hby at_135) ?_
                refine XS.istore X1132.here hx rfl (hb hby at_136) rfl (l' := #[.val (.int p1), .val (.int p2), .val (.int p3), .val (.int p4), .val (.int p5), .val (.int p6), .val (.ref x2), .val (.ref x21), .val (.ref x878), .val (.ref x905), .val (.ref x934), .val (.ref x967), .val (.ref b1022), .val (.ref b1067), .val (.int (((p6.toUInt32 >>> ((2 : Int32) &&& 31).toUInt32).toInt32) &&& (3 : Int32))), .val (.int (0 : Int32))]) rfl ?_
                refine XS.aload X1132.here hx rfl (hb hby at_138) rfl rfl ?_
                refine XS.aload X1132.here hx rfl (hb hby at_140) rfl rfl ?_
                show Steps p.tables e below (T1132.setTop (mkF m 142 #[.val (.int p1), .val (.int p2), .val (.int p3), .val (.int p4), .val (.int p5), .val (.int p6), .val (.ref x2), .val (.ref x21), .val (.ref x878), .val (.ref x905), .val (.ref x934), .val (.ref x967), .val (.ref b1022), .val (.ref b1067), .val (.int (((p6.toUInt32 >>> ((2 : Int32) &&& 31).toUInt32).toInt32) &&& (3 : Int32))), .val (.int (0 : Int32))] [(.ref b1067), (.ref b1022)])) _
                refine st1180.trans ?_
                refine XS.iload X1180.here hx rfl (hb hby at_145) rfl ?_
                refine XS.icmpNo X1180.here hx rfl (hb hby at_147) rfl (teq ((by decide) : (0 : Int32) = (0 : Int32))).2 ?_
                refine XS.aload X1180.here hx rfl (hb hby at_150) rfl rfl ?_
                refine XS.aload X1180.here hx rfl (hb hby at_152) rfl rfl ?_
                show Steps p.tables e below (T1180.setTop (mkF m 154 #[.val (.int p1), .val (.int p2), .val (.int p3), .val (.int p4), .val (.int p5), .val (.int p6), .val (.ref x2), .val (.ref x21), .val (.ref x878), .val (.ref x905), .val (.ref x934), .val (.ref x967), .val (.ref b1022), .val (.ref b1067), .val (.int (((p6.toUInt32 >>> ((2 : Int32) &&& 31).toUInt32).toInt32) &&& (3 : Int32))), .val (.int (0 : Int32))] [(.ref b1022), (.ref b1067)])) _
                refine st1218.trans ?_
                refine XS.iload X1218.here hx rfl (hb hby at_157) rfl ?_
                refine XS.icmpNo X1218.here hx rfl (hb hby at_159) rfl (teq ((by decide) : (0 : Int32) = (0 : Int32))).2 ?_
                refine XS.iconst X1218.here hx rfl (hb hby at_162) ?_
                refine XS.goto X1218.here hx rfl (pc0 := 163) (pc' := 167) rfl (hb hby at_163) (by decide) (by decide) ?_
                exact kt
              obtain ⟨fs, hr, hrun, hended, hRW⟩ := X1218.leaveW hS966 (by rw [k1228]; exact hk1117) (v := some (.int (1 : Int32))) (fun h => by rw [Bd.returns] at h; cases h)
              refine ⟨_, _, pre0 _ (S1235 _ ?_), hrun, hended, _, _, rfl, ?_, hRW.1, hRW.2.1, hRW.2.2.1, hRW.2.2.2.mono (by decide) (by decide)⟩
              · exact retN X1218 hx (t := .boolean) Bd.returns (by simp) (hb hby at_167) hr
              · show Q_rm_law Z p1 p2 p3 p4 p5 p6 zc fm h0 n0 _ T1218.heap _
                rw [k1228]
                exact ⟨rfl, N1234⟩
            · exact absurd ((Eq.symm rfl) : (own_cs p1) = (own_cs p1)) c1229
          · exact absurd ((Eq.symm rfl) : (own_cs p1) = (own_cs p1)) c1195
      · have S1236 : ∀ t, Steps p.tables e below (T1089.setTop (mkF m 171 #[.val (.int p1), .val (.int p2), .val (.int p3), .val (.int p4), .val (.int p5), .val (.int p6), .val (.ref x2), .val (.ref x21), .val (.ref x878), .val (.ref x905), .val (.ref x934), .val (.ref x967), .val (.ref b1022), .val (.ref b1067), .val (.int (((p6.toUInt32 >>> ((2 : Int32) &&& 31).toUInt32).toInt32) &&& (3 : Int32))), .unset] [(.int (1 : Int32)), (.int (((p6.toUInt32 >>> ((2 : Int32) &&& 31).toUInt32).toInt32) &&& (3 : Int32)))])) t → Steps p.tables e below (s₁.setTop (mkF m 0 #[.val (.int p1), .val (.int p2), .val (.int p3), .val (.int p4), .val (.int p5), .val (.int p6), .unset, .unset, .unset, .unset, .unset, .unset, .unset, .unset, .unset, .unset] [])) t := by
          intro t kt
          refine S1119 t ?_
          refine XS.ifYes X1089.here hx rfl (pc0 := 108) (pc' := 168) rfl (hb hby at_108) rfl ((if0 _ _).trans (feq (c1120 : ¬ ((((p6.toUInt32 >>> ((2 : Int32) &&& 31).toUInt32).toInt32) &&& (3 : Int32)) = (0 : Int32)))).2) (by decide) (by decide) ?_
          refine XS.iload X1089.here hx rfl (hb hby at_168) rfl ?_
          refine XS.iconst X1089.here hx rfl (hb hby at_170) ?_
          exact kt
        rcases Decidable.em ((((p6.toUInt32 >>> ((2 : Int32) &&& 31).toUInt32).toInt32) &&& (3 : Int32)) = (1 : Int32)) with c1237 | c1237
        · have f1239 := (Exa.keep (Exa.ext E1067 f1054) k1105)
          obtain ⟨cq1238, kq1238, q1238a, q1238b, q1238c⟩ := isOf hZ966 rfl f1239
          obtain ⟨_, _, ⟨T1238, L1238, k1238, n1238⟩, -, X1238, ⟨Lc1238, hQ1238, l1238, y1238, z1238⟩, st1238⟩ := X1089.virtualBack hx (y := (⟨"com/example/typecheck/typecheck/model/QName", "equals", "(Ljava/lang/Object;)Z"⟩ : MethodName)) (z := (⟨"com/example/typecheck/typecheck/model/QName", "equals", "(Ljava/lang/Object;)Z"⟩ : MethodName)) ho966 (mvT hZ966 (own_w hw 73 rfl)) (mvT hZ966 (own_w hw 74 rfl)) (notFace_of_selects (args := #[]) (mvT hZ966 (own_w hw 76 rfl))) (mvT hZ966 (own_w hw 76 rfl)) (mvT hZ966 (own_w hw 75 rfl)) (by decide) (backOf (W := 0) (rm_qeqs l Z a0 hw [] b1022 T1089.heap n0 O1118 ) hZ966 (own_w hw 77 rfl) (own_w hw 28 rfl) (by decide) (by decide)) q1238a q1238c (g := (mkF m 178 #[.val (.int p1), .val (.int p2), .val (.int p3), .val (.int p4), .val (.int p5), .val (.int p6), .val (.ref x2), .val (.ref x21), .val (.ref x878), .val (.ref x905), .val (.ref x934), .val (.ref x967), .val (.ref b1022), .val (.ref b1067), .val (.int (((p6.toUInt32 >>> ((2 : Int32) &&& 31).toUInt32).toInt32) &&& (3 : Int32))), .unset] [(.ref b1022), (.ref b1022)])) rfl (by rw [hml]; rfl) (Steps.refl _) (argsL := [(.ref b1022)]) (rest := []) (lenOf pd_11 rfl) rfl (by show 2 * 0 + _ ≤ _; exact Nat.le_of_eq rfl) (hb hby at_178) (fun _ _ => ⟨rfl, rfl, (by decide : 38 + 0 ≤ _), (by decide : 80 + 0 ≤ _)⟩)
          dsimp only [Pt.U, Pt.locs, Pt.cells, Pt.slots] at X1238 l1238 y1238 z1238 st1238 hQ1238
          subst l1238 y1238 z1238
          obtain ⟨rfl, N1240, k1241⟩ := hQ1238
          have N1242 := Fr.app N1116 N1240
          have S1243 : ∀ t, Steps p.tables e below (T1238.setTop (mkF m 181 #[.val (.int p1), .val (.int p2), .val (.int p3), .val (.int p4), .val (.int p5), .val (.int p6), .val (.ref x2), .val (.ref x21), .val (.ref x878), .val (.ref x905), .val (.ref x934), .val (.ref x967), .val (.ref b1022), .val (.ref b1067), .val (.int (((p6.toUInt32 >>> ((2 : Int32) &&& 31).toUInt32).toInt32) &&& (3 : Int32))), .unset] [(.int (1 : Int32))])) t → Steps p.tables e below (s₁.setTop (mkF m 0 #[.val (.int p1), .val (.int p2), .val (.int p3), .val (.int p4), .val (.int p5), .val (.int p6), .unset, .unset, .unset, .unset, .unset, .unset, .unset, .unset, .unset, .unset] [])) t := by
            intro t kt
            refine S1236 t ?_
            refine XS.icmpNo X1089.here hx rfl (hb hby at_171) rfl (teq (c1237 : (((p6.toUInt32 >>> ((2 : Int32) &&& 31).toUInt32).toInt32) &&& (3 : Int32)) = (1 : Int32))).2 ?_
            refine XS.aload X1089.here hx rfl (hb hby at_174) rfl rfl ?_
            refine XS.aload X1089.here hx rfl (hb hby at_176) rfl rfl ?_
            show Steps p.tables e below (T1089.setTop (mkF m 178 #[.val (.int p1), .val (.int p2), .val (.int p3), .val (.int p4), .val (.int p5), .val (.int p6), .val (.ref x2), .val (.ref x21), .val (.ref x878), .val (.ref x905), .val (.ref x934), .val (.ref x967), .val (.ref b1022), .val (.ref b1067), .val (.int (((p6.toUInt32 >>> ((2 : Int32) &&& 31).toUInt32).toInt32) &&& (3 : Int32))), .unset] [(.ref b1022), (.ref b1022)])) _
            refine st1238.trans ?_
            exact kt
          obtain ⟨fs, hr, hrun, hended, hRW⟩ := X1238.leaveW hS966 (by rw [k1241]; exact hk1117) (v := some (.int (1 : Int32))) (fun h => by rw [Bd.returns] at h; cases h)
          refine ⟨_, _, pre0 _ (S1243 _ ?_), hrun, hended, _, _, rfl, ?_, hRW.1, hRW.2.1, hRW.2.2.1, hRW.2.2.2.mono (by decide) (by decide)⟩
          · exact retN X1238 hx (t := .boolean) Bd.returns (by simp) (hb hby at_181) hr
          · show Q_rm_law Z p1 p2 p3 p4 p5 p6 zc fm h0 n0 _ T1238.heap _
            rw [k1241]
            exact ⟨rfl, N1242⟩
        · have S1244 : ∀ t, Steps p.tables e below (T1089.setTop (mkF m 185 #[.val (.int p1), .val (.int p2), .val (.int p3), .val (.int p4), .val (.int p5), .val (.int p6), .val (.ref x2), .val (.ref x21), .val (.ref x878), .val (.ref x905), .val (.ref x934), .val (.ref x967), .val (.ref b1022), .val (.ref b1067), .val (.int (((p6.toUInt32 >>> ((2 : Int32) &&& 31).toUInt32).toInt32) &&& (3 : Int32))), .unset] [(.int (2 : Int32)), (.int (((p6.toUInt32 >>> ((2 : Int32) &&& 31).toUInt32).toInt32) &&& (3 : Int32)))])) t → Steps p.tables e below (s₁.setTop (mkF m 0 #[.val (.int p1), .val (.int p2), .val (.int p3), .val (.int p4), .val (.int p5), .val (.int p6), .unset, .unset, .unset, .unset, .unset, .unset, .unset, .unset, .unset, .unset] [])) t := by
            intro t kt
            refine S1236 t ?_
            refine XS.icmpYes X1089.here hx rfl (pc0 := 171) (pc' := 182) rfl (hb hby at_171) rfl (feq (c1237 : ¬ ((((p6.toUInt32 >>> ((2 : Int32) &&& 31).toUInt32).toInt32) &&& (3 : Int32)) = (1 : Int32)))).2 (by decide) (by decide) ?_
            refine XS.iload X1089.here hx rfl (hb hby at_182) rfl ?_
            refine XS.iconst X1089.here hx rfl (hb hby at_184) ?_
            exact kt
          rcases Decidable.em ((((p6.toUInt32 >>> ((2 : Int32) &&& 31).toUInt32).toInt32) &&& (3 : Int32)) = (2 : Int32)) with c1245 | c1245
          · have f1247 := (Exa.keep (Exa.ext E1067 f1054) k1105)
            obtain ⟨cq1246, kq1246, q1246a, q1246b, q1246c⟩ := isOf hZ966 rfl f1247
            obtain ⟨_, _, ⟨T1246, L1246, k1246, n1246⟩, -, X1246, ⟨Lc1246, hQ1246, l1246, y1246, z1246⟩, st1246⟩ := X1089.virtualBack hx (y := (⟨"com/example/typecheck/typecheck/model/QName", "equals", "(Ljava/lang/Object;)Z"⟩ : MethodName)) (z := (⟨"com/example/typecheck/typecheck/model/QName", "equals", "(Ljava/lang/Object;)Z"⟩ : MethodName)) ho966 (mvT hZ966 (own_w hw 73 rfl)) (mvT hZ966 (own_w hw 74 rfl)) (notFace_of_selects (args := #[]) (mvT hZ966 (own_w hw 76 rfl))) (mvT hZ966 (own_w hw 76 rfl)) (mvT hZ966 (own_w hw 75 rfl)) (by decide) (backOf (W := 0) (rm_qeqn l Z a0 hw [] b1022 T1089.heap n0 O1118 ) hZ966 (own_w hw 77 rfl) (own_w hw 28 rfl) (by decide) (by decide)) q1246a q1246c (g := (mkF m 191 #[.val (.int p1), .val (.int p2), .val (.int p3), .val (.int p4), .val (.int p5), .val (.int p6), .val (.ref x2), .val (.ref x21), .val (.ref x878), .val (.ref x905), .val (.ref x934), .val (.ref x967), .val (.ref b1022), .val (.ref b1067), .val (.int (((p6.toUInt32 >>> ((2 : Int32) &&& 31).toUInt32).toInt32) &&& (3 : Int32))), .unset] [.null, (.ref b1022)])) rfl (by rw [hml]; rfl) (Steps.refl _) (argsL := [.null]) (rest := []) (lenOf pd_11 rfl) rfl (by show 2 * 0 + _ ≤ _; exact Nat.le_of_eq rfl) (hb hby at_191) (fun _ _ => ⟨rfl, rfl, (by decide : 38 + 0 ≤ _), (by decide : 80 + 0 ≤ _)⟩)
            dsimp only [Pt.U, Pt.locs, Pt.cells, Pt.slots] at X1246 l1246 y1246 z1246 st1246 hQ1246
            subst l1246 y1246 z1246
            obtain ⟨rfl, N1248, k1249⟩ := hQ1246
            have N1250 := Fr.app N1116 N1248
            have S1251 : ∀ t, Steps p.tables e below (T1246.setTop (mkF m 202 #[.val (.int p1), .val (.int p2), .val (.int p3), .val (.int p4), .val (.int p5), .val (.int p6), .val (.ref x2), .val (.ref x21), .val (.ref x878), .val (.ref x905), .val (.ref x934), .val (.ref x967), .val (.ref b1022), .val (.ref b1067), .val (.int (((p6.toUInt32 >>> ((2 : Int32) &&& 31).toUInt32).toInt32) &&& (3 : Int32))), .unset] [(.int (1 : Int32))])) t → Steps p.tables e below (s₁.setTop (mkF m 0 #[.val (.int p1), .val (.int p2), .val (.int p3), .val (.int p4), .val (.int p5), .val (.int p6), .unset, .unset, .unset, .unset, .unset, .unset, .unset, .unset, .unset, .unset] [])) t := by
              intro t kt
              refine S1244 t ?_
              refine XS.icmpNo X1089.here hx rfl (hb hby at_185) rfl (teq (c1245 : (((p6.toUInt32 >>> ((2 : Int32) &&& 31).toUInt32).toInt32) &&& (3 : Int32)) = (2 : Int32))).2 ?_
              refine XS.aload X1089.here hx rfl (hb hby at_188) rfl rfl ?_
              refine XS.aconstNull X1089.here hx rfl (hb hby at_190) ?_
              show Steps p.tables e below (T1089.setTop (mkF m 191 #[.val (.int p1), .val (.int p2), .val (.int p3), .val (.int p4), .val (.int p5), .val (.int p6), .val (.ref x2), .val (.ref x21), .val (.ref x878), .val (.ref x905), .val (.ref x934), .val (.ref x967), .val (.ref b1022), .val (.ref b1067), .val (.int (((p6.toUInt32 >>> ((2 : Int32) &&& 31).toUInt32).toInt32) &&& (3 : Int32))), .unset] [.null, (.ref b1022)])) _
              refine st1246.trans ?_
              refine XS.ifNo X1246.here hx rfl (hb hby at_194) rfl ((if0 _ _).trans (teq ((by decide) : (0 : Int32) = (0 : Int32))).2) ?_
              refine XS.iconst X1246.here hx rfl (hb hby at_197) ?_
              refine XS.goto X1246.here hx rfl (pc0 := 198) (pc' := 202) rfl (hb hby at_198) (by decide) (by decide) ?_
              exact kt
            obtain ⟨fs, hr, hrun, hended, hRW⟩ := X1246.leaveW hS966 (by rw [k1249]; exact hk1117) (v := some (.int (1 : Int32))) (fun h => by rw [Bd.returns] at h; cases h)
            refine ⟨_, _, pre0 _ (S1251 _ ?_), hrun, hended, _, _, rfl, ?_, hRW.1, hRW.2.1, hRW.2.2.1, hRW.2.2.2.mono (by decide) (by decide)⟩
            · exact retN X1246 hx (t := .boolean) Bd.returns (by simp) (hb hby at_202) hr
            · show Q_rm_law Z p1 p2 p3 p4 p5 p6 zc fm h0 n0 _ T1246.heap _
              rw [k1249]
              exact ⟨rfl, N1250⟩
          · have f1253 := (Exa.keep (Exa.ext E1067 f1054) k1105)
            have f1254 := (Exa.keep (Exa.ext E1067 f1061) k1105)
            obtain ⟨cq1252, kq1252, q1252a, q1252b, q1252c⟩ := isOf hZ966 rfl f1253
            obtain ⟨_, _, ⟨T1252, L1252, k1252, n1252⟩, -, X1252, ⟨Lc1252, hQ1252, l1252, y1252, z1252⟩, st1252⟩ := X1089.virtualBack hx (y := (⟨"com/example/typecheck/typecheck/model/QName", "equals", "(Ljava/lang/Object;)Z"⟩ : MethodName)) (z := (⟨"com/example/typecheck/typecheck/model/QName", "equals", "(Ljava/lang/Object;)Z"⟩ : MethodName)) ho966 (mvT hZ966 (own_w hw 73 rfl)) (mvT hZ966 (own_w hw 74 rfl)) (notFace_of_selects (args := #[]) (mvT hZ966 (own_w hw 76 rfl))) (mvT hZ966 (own_w hw 76 rfl)) (mvT hZ966 (own_w hw 75 rfl)) (by decide) (backOf (W := 0) (rm_qeqt l Z a0 hw [] b1022 x21 T1089.heap n0 O1118 f1253 f1254) hZ966 (own_w hw 77 rfl) (own_w hw 28 rfl) (by decide) (by decide)) q1252a q1252c (g := (mkF m 211 #[.val (.int p1), .val (.int p2), .val (.int p3), .val (.int p4), .val (.int p5), .val (.int p6), .val (.ref x2), .val (.ref x21), .val (.ref x878), .val (.ref x905), .val (.ref x934), .val (.ref x967), .val (.ref b1022), .val (.ref b1067), .val (.int (((p6.toUInt32 >>> ((2 : Int32) &&& 31).toUInt32).toInt32) &&& (3 : Int32))), .val (.ref x21)] [(.ref x21), (.ref b1022)])) rfl (by rw [hml]; rfl) (Steps.refl _) (argsL := [(.ref x21)]) (rest := []) (lenOf pd_11 rfl) rfl (by show 2 * 0 + _ ≤ _; exact Nat.le_of_eq rfl) (hb hby at_211) (fun _ _ => ⟨rfl, rfl, (by decide : 38 + 0 ≤ _), (by decide : 80 + 0 ≤ _)⟩)
            dsimp only [Pt.U, Pt.locs, Pt.cells, Pt.slots] at X1252 l1252 y1252 z1252 st1252 hQ1252
            subst l1252 y1252 z1252
            obtain ⟨rfl, N1255, k1256⟩ := hQ1252
            have N1257 := Fr.app N1116 N1255
            have S1258 : ∀ t, Steps p.tables e below (T1252.setTop (mkF m 222 #[.val (.int p1), .val (.int p2), .val (.int p3), .val (.int p4), .val (.int p5), .val (.int p6), .val (.ref x2), .val (.ref x21), .val (.ref x878), .val (.ref x905), .val (.ref x934), .val (.ref x967), .val (.ref b1022), .val (.ref b1067), .val (.int (((p6.toUInt32 >>> ((2 : Int32) &&& 31).toUInt32).toInt32) &&& (3 : Int32))), .val (.ref x21)] [(.int (1 : Int32))])) t → Steps p.tables e below (s₁.setTop (mkF m 0 #[.val (.int p1), .val (.int p2), .val (.int p3), .val (.int p4), .val (.int p5), .val (.int p6), .unset, .unset, .unset, .unset, .unset, .unset, .unset, .unset, .unset, .unset] [])) t := by
              intro t kt
              refine S1244 t ?_
              refine XS.icmpYes X1089.here hx rfl (pc0 := 185) (pc' := 203) rfl (hb hby at_185) rfl (feq (c1245 : ¬ ((((p6.toUInt32 >>> ((2 : Int32) &&& 31).toUInt32).toInt32) &&& (3 : Int32)) = (2 : Int32)))).2 (by decide) (by decide) ?_
              refine XS.aload X1089.here hx rfl (hb hby at_203) rfl rfl ?_
              refine XS.astore X1089.here hx rfl (hb hby at_205) rfl rfl (l' := #[.val (.int p1), .val (.int p2), .val (.int p3), .val (.int p4), .val (.int p5), .val (.int p6), .val (.ref x2), .val (.ref x21), .val (.ref x878), .val (.ref x905), .val (.ref x934), .val (.ref x967), .val (.ref b1022), .val (.ref b1067), .val (.int (((p6.toUInt32 >>> ((2 : Int32) &&& 31).toUInt32).toInt32) &&& (3 : Int32))), .val (.ref x21)]) rfl ?_
              refine XS.aload X1089.here hx rfl (hb hby at_207) rfl rfl ?_
              refine XS.aload X1089.here hx rfl (hb hby at_209) rfl rfl ?_
              show Steps p.tables e below (T1089.setTop (mkF m 211 #[.val (.int p1), .val (.int p2), .val (.int p3), .val (.int p4), .val (.int p5), .val (.int p6), .val (.ref x2), .val (.ref x21), .val (.ref x878), .val (.ref x905), .val (.ref x934), .val (.ref x967), .val (.ref b1022), .val (.ref b1067), .val (.int (((p6.toUInt32 >>> ((2 : Int32) &&& 31).toUInt32).toInt32) &&& (3 : Int32))), .val (.ref x21)] [(.ref x21), (.ref b1022)])) _
              refine st1252.trans ?_
              refine XS.ifNo X1252.here hx rfl (hb hby at_214) rfl ((if0 _ _).trans (teq ((by decide) : (0 : Int32) = (0 : Int32))).2) ?_
              refine XS.iconst X1252.here hx rfl (hb hby at_217) ?_
              refine XS.goto X1252.here hx rfl (pc0 := 218) (pc' := 222) rfl (hb hby at_218) (by decide) (by decide) ?_
              exact kt
            obtain ⟨fs, hr, hrun, hended, hRW⟩ := X1252.leaveW hS966 (by rw [k1256]; exact hk1117) (v := some (.int (1 : Int32))) (fun h => by rw [Bd.returns] at h; cases h)
            refine ⟨_, _, pre0 _ (S1258 _ ?_), hrun, hended, _, _, rfl, ?_, hRW.1, hRW.2.1, hRW.2.2.1, hRW.2.2.2.mono (by decide) (by decide)⟩
            · exact retN X1252 hx (t := .boolean) Bd.returns (by simp) (hb hby at_222) hr
            · show Q_rm_law Z p1 p2 p3 p4 p5 p6 zc fm h0 n0 _ T1252.heap _
              rw [k1256]
              exact ⟨rfl, N1257⟩
    · obtain ⟨_, _, ⟨T1259, L1259, k1259, n1259⟩, -, Xq1259, hSq1259, hgq1259, ⟨Lc1259, hQ1259, l1259, y1259, z1259, C1259⟩, st1259⟩ := callSS X877 hx (y := (⟨"com/example/typecheck/typecheck/model/QNameEqualsPinLaw", "str", "(I)Ljava/lang/String;"⟩ : MethodName)) ho877 (mvT hZ877 (own_w hw 0 rfl)) (mvT hZ877 (own_w hw 1 rfl)) (mvT hZ877 (own_w hw 2 rfl)) (mvT hZ877 (own_w hw 3 rfl)) (by decide) (own_backS (W := 0) (rm := ({ frames := 4, cells := 6, slots := 12, locals := 66 } : Room)) (xs := []) (rm_str l Z a0 hw [] p2 zc T877.heap n0 O901 S_C hzc) hZ877 (own_w hw 3 rfl) (own_w hw 2 rfl) (by decide) (by decide) own_ew CR899.1 all0) (g := (mkF m 40 #[.val (.int p1), .val (.int p2), .val (.int p3), .val (.int p4), .val (.int p5), .val (.int p6), .val (.ref x2), .val (.ref x21), .val (.ref x878), .unset, .unset, .unset, .unset, .unset, .unset, .unset] [(.int p2)])) rfl (by rw [hml]; rfl) (argsL := [(.int p2)]) (rest := []) (lenOf pd_12 rfl) rfl (by show 2 * 0 + _ ≤ _; exact Nat.le_of_eq rfl) (hb hby at_40) (fun _ _ => ⟨rfl, rfl, (by decide : 18 + 6 ≤ _), (by decide : 36 + 12 ≤ _)⟩)
      dsimp only [Pt.U, Pt.locs, Pt.cells, Pt.slots] at Xq1259 hSq1259 hgq1259 l1259 y1259 z1259 st1259 hQ1259 C1259
      obtain ⟨X1259, hS1259, hZ1259, ho1259⟩ := rebS hS877 (by exact hk900) Xq1259 hSq1259 hgq1259 hZ877 ho877
      subst l1259 y1259 z1259
      obtain ⟨x1260, x1261, x1262, rfl, N1263, k1264, f1265, f1266, f1267, f1268, f1269, f1270, f1271, f1272⟩ := hQ1259
      have N1273 := Fr.app N891 N1263
      have ge1274 : n0 ≤ x1260 := by rw [← O901.1]; exact Nat.le_trans O901.2.1 f1265
      have f1275 := (Exa.keep f893 k882)
      have ne1276 : x2 ≠ x1260 := Nat.ne_of_lt (Nat.lt_of_lt_of_le (Exa.lt f1275) f1265)
      have f1277 := (Arv.keep f895 k882 nin0)
      have ne1278 : x3 ≠ x1260 := Nat.ne_of_lt (Nat.lt_of_lt_of_le (Arv.lt f1277) f1265)
      have f1279 := (Exa.keep f27 k882)
      have ne1280 : x21 ≠ x1260 := Nat.ne_of_lt (Nat.lt_of_lt_of_le (Exa.lt f1279) f1265)
      have f1281 := (Arv.keep f31 k882 nin0)
      have ne1282 : x22 ≠ x1260 := Nat.ne_of_lt (Nat.lt_of_lt_of_le (Arv.lt f1281) f1265)
      have ne1283 : x878 ≠ x1260 := Nat.ne_of_lt (Nat.lt_of_lt_of_le (Exa.lt f884) f1265)
      have ne1284 : x879 ≠ x1260 := Nat.ne_of_lt (Nat.lt_of_lt_of_le (Arv.lt f888) f1265)
      have CR1285 := CR899.trans C1259
      have hk1286 : T1259.heap.size ≤ T1259.heap.size := Nat.le_refl _
      have O1287 := O901.keep k1264 all0
      obtain ⟨_, _, ⟨T1288, L1288, k1288, n1288⟩, -, Xq1288, hSq1288, hgq1288, ⟨Lc1288, hQ1288, l1288, y1288, z1288, C1288⟩, st1288⟩ := callSS X1259 hx (y := (⟨"com/example/typecheck/typecheck/model/QNameEqualsPinLaw", "str", "(I)Ljava/lang/String;"⟩ : MethodName)) ho1259 (mvT hZ1259 (own_w hw 0 rfl)) (mvT hZ1259 (own_w hw 1 rfl)) (mvT hZ1259 (own_w hw 2 rfl)) (mvT hZ1259 (own_w hw 3 rfl)) (by decide) (own_backS (W := 0) (rm := ({ frames := 4, cells := 6, slots := 12, locals := 66 } : Room)) (xs := []) (rm_str l Z a0 hw [] p5 zc T1259.heap n0 O1287 S_C hzc) hZ1259 (own_w hw 3 rfl) (own_w hw 2 rfl) (by decide) (by decide) own_ew CR1285.1 all0) (g := (mkF m 54 #[.val (.int p1), .val (.int p2), .val (.int p3), .val (.int p4), .val (.int p5), .val (.int p6), .val (.ref x2), .val (.ref x21), .val (.ref x878), .val (.ref x1260), .unset, .unset, .unset, .unset, .unset, .unset] [(.int p5)])) rfl (by rw [hml]; rfl) (argsL := [(.int p5)]) (rest := []) (lenOf pd_12 rfl) rfl (by show 2 * 0 + _ ≤ _; exact Nat.le_of_eq rfl) (hb hby at_54) (fun _ _ => ⟨rfl, rfl, (by decide : 24 + 6 ≤ _), (by decide : 48 + 12 ≤ _)⟩)
      dsimp only [Pt.U, Pt.locs, Pt.cells, Pt.slots] at Xq1288 hSq1288 hgq1288 l1288 y1288 z1288 st1288 hQ1288 C1288
      obtain ⟨X1288, hS1288, hZ1288, ho1288⟩ := rebS hS1259 (by exact hk1286) Xq1288 hSq1288 hgq1288 hZ1259 ho1259
      subst l1288 y1288 z1288
      obtain ⟨x1289, x1290, x1291, rfl, N1292, k1293, f1294, f1295, f1296, f1297, f1298, f1299, f1300, f1301⟩ := hQ1288
      have N1302 := Fr.app N1273 N1292
      have ge1303 : n0 ≤ x1289 := by rw [← O1287.1]; exact Nat.le_trans O1287.2.1 f1294
      have f1304 := (Exa.keep f1275 k1264)
      have ne1305 : x2 ≠ x1289 := Nat.ne_of_lt (Nat.lt_of_lt_of_le (Exa.lt f1304) f1294)
      have f1306 := (Arv.keep f1277 k1264 nin0)
      have ne1307 : x3 ≠ x1289 := Nat.ne_of_lt (Nat.lt_of_lt_of_le (Arv.lt f1306) f1294)
      have f1308 := (Exa.keep f1279 k1264)
      have ne1309 : x21 ≠ x1289 := Nat.ne_of_lt (Nat.lt_of_lt_of_le (Exa.lt f1308) f1294)
      have f1310 := (Arv.keep f1281 k1264 nin0)
      have ne1311 : x22 ≠ x1289 := Nat.ne_of_lt (Nat.lt_of_lt_of_le (Arv.lt f1310) f1294)
      have f1312 := (Exa.keep f884 k1264)
      have ne1313 : x878 ≠ x1289 := Nat.ne_of_lt (Nat.lt_of_lt_of_le (Exa.lt f1312) f1294)
      have f1314 := (Arv.keep f888 k1264 nin0)
      have ne1315 : x879 ≠ x1289 := Nat.ne_of_lt (Nat.lt_of_lt_of_le (Arv.lt f1314) f1294)
      have ne1316 : x1260 ≠ x1289 := Nat.ne_of_lt (Nat.lt_of_lt_of_le (Exa.lt f1266) f1294)
      have ne1317 : x1261 ≠ x1289 := Nat.ne_of_lt (Nat.lt_of_lt_of_le (Arv.lt f1270) f1294)
      have CR1318 := CR1285.trans C1288
      have hk1319 : T1288.heap.size ≤ T1288.heap.size := Nat.le_refl _
      have O1320 := O1287.keep k1293 all0
      obtain ⟨_, _, ⟨T1321, L1321, k1321, n1321⟩, -, Xq1321, hSq1321, hgq1321, ⟨Lc1321, hQ1321, l1321, y1321, z1321, C1321⟩, st1321⟩ := callSS X1288 hx (y := (⟨"com/example/typecheck/typecheck/model/QNameEqualsPinLaw", "str", "(I)Ljava/lang/String;"⟩ : MethodName)) ho1288 (mvT hZ1288 (own_w hw 0 rfl)) (mvT hZ1288 (own_w hw 1 rfl)) (mvT hZ1288 (own_w hw 2 rfl)) (mvT hZ1288 (own_w hw 3 rfl)) (by decide) (own_backS (W := 0) (rm := ({ frames := 4, cells := 6, slots := 12, locals := 66 } : Room)) (xs := []) (rm_str l Z a0 hw [] ((p6.toUInt32 >>> ((4 : Int32) &&& 31).toUInt32).toInt32) zc T1288.heap n0 O1320 S_C hzc) hZ1288 (own_w hw 3 rfl) (own_w hw 2 rfl) (by decide) (by decide) own_ew CR1318.1 all0) (g := (mkF m 63 #[.val (.int p1), .val (.int p2), .val (.int p3), .val (.int p4), .val (.int p5), .val (.int p6), .val (.ref x2), .val (.ref x21), .val (.ref x878), .val (.ref x1260), .val (.ref x1289), .unset, .unset, .unset, .unset, .unset] [(.int ((p6.toUInt32 >>> ((4 : Int32) &&& 31).toUInt32).toInt32))])) rfl (by rw [hml]; rfl) (argsL := [(.int ((p6.toUInt32 >>> ((4 : Int32) &&& 31).toUInt32).toInt32))]) (rest := []) (lenOf pd_12 rfl) rfl (by show 2 * 0 + _ ≤ _; exact Nat.le_of_eq rfl) (hb hby at_63) (fun _ _ => ⟨rfl, rfl, (by decide : 30 + 6 ≤ _), (by decide : 60 + 12 ≤ _)⟩)
      dsimp only [Pt.U, Pt.locs, Pt.cells, Pt.slots] at Xq1321 hSq1321 hgq1321 l1321 y1321 z1321 st1321 hQ1321 C1321
      obtain ⟨X1321, hS1321, hZ1321, ho1321⟩ := rebS hS1288 (by exact hk1319) Xq1321 hSq1321 hgq1321 hZ1288 ho1288
      subst l1321 y1321 z1321
      obtain ⟨x1322, x1323, x1324, rfl, N1325, k1326, f1327, f1328, f1329, f1330, f1331, f1332, f1333, f1334⟩ := hQ1321
      have N1335 := Fr.app N1302 N1325
      have ge1336 : n0 ≤ x1322 := by rw [← O1320.1]; exact Nat.le_trans O1320.2.1 f1327
      have f1337 := (Exa.keep f1304 k1293)
      have ne1338 : x2 ≠ x1322 := Nat.ne_of_lt (Nat.lt_of_lt_of_le (Exa.lt f1337) f1327)
      have f1339 := (Arv.keep f1306 k1293 nin0)
      have ne1340 : x3 ≠ x1322 := Nat.ne_of_lt (Nat.lt_of_lt_of_le (Arv.lt f1339) f1327)
      have f1341 := (Exa.keep f1308 k1293)
      have ne1342 : x21 ≠ x1322 := Nat.ne_of_lt (Nat.lt_of_lt_of_le (Exa.lt f1341) f1327)
      have f1343 := (Arv.keep f1310 k1293 nin0)
      have ne1344 : x22 ≠ x1322 := Nat.ne_of_lt (Nat.lt_of_lt_of_le (Arv.lt f1343) f1327)
      have f1345 := (Exa.keep f1312 k1293)
      have ne1346 : x878 ≠ x1322 := Nat.ne_of_lt (Nat.lt_of_lt_of_le (Exa.lt f1345) f1327)
      have f1347 := (Arv.keep f1314 k1293 nin0)
      have ne1348 : x879 ≠ x1322 := Nat.ne_of_lt (Nat.lt_of_lt_of_le (Arv.lt f1347) f1327)
      have f1349 := (Exa.keep f1266 k1293)
      have ne1350 : x1260 ≠ x1322 := Nat.ne_of_lt (Nat.lt_of_lt_of_le (Exa.lt f1349) f1327)
      have f1351 := (Arv.keep f1270 k1293 nin0)
      have ne1352 : x1261 ≠ x1322 := Nat.ne_of_lt (Nat.lt_of_lt_of_le (Arv.lt f1351) f1327)
      have ne1353 : x1289 ≠ x1322 := Nat.ne_of_lt (Nat.lt_of_lt_of_le (Exa.lt f1295) f1327)
      have ne1354 : x1290 ≠ x1322 := Nat.ne_of_lt (Nat.lt_of_lt_of_le (Arv.lt f1299) f1327)
      have CR1355 := CR1318.trans C1321
      have hk1356 : T1321.heap.size ≤ T1321.heap.size := Nat.le_refl _
      have O1357 := O1320.keep k1326 all0
      have S1358 : ∀ t, Steps p.tables e below (T1321.setTop (mkF m 68 #[.val (.int p1), .val (.int p2), .val (.int p3), .val (.int p4), .val (.int p5), .val (.int p6), .val (.ref x2), .val (.ref x21), .val (.ref x878), .val (.ref x1260), .val (.ref x1289), .val (.ref x1322), .unset, .unset, .unset, .unset] [])) t → Steps p.tables e below (s₁.setTop (mkF m 0 #[.val (.int p1), .val (.int p2), .val (.int p3), .val (.int p4), .val (.int p5), .val (.int p6), .unset, .unset, .unset, .unset, .unset, .unset, .unset, .unset, .unset, .unset] [])) t := by
        intro t kt
        refine S902 t ?_
        refine XS.ifNo X877.here hx rfl (hb hby at_36) rfl ((if0 _ _).trans (feq (c903 : ¬ ((p6 &&& (2 : Int32)) = (0 : Int32)))).1) ?_
        refine XS.iloadN X877.here hx rfl (hb hby at_39) rfl ?_
        show Steps p.tables e below (T877.setTop (mkF m 40 #[.val (.int p1), .val (.int p2), .val (.int p3), .val (.int p4), .val (.int p5), .val (.int p6), .val (.ref x2), .val (.ref x21), .val (.ref x878), .unset, .unset, .unset, .unset, .unset, .unset, .unset] [(.int p2)])) _
        refine st1259.trans ?_
        refine XS.goto X1259.here hx rfl (pc0 := 43) (pc' := 50) rfl (hb hby at_43) (by decide) (by decide) ?_
        refine XS.astore X1259.here hx rfl (hb hby at_50) rfl rfl (l' := #[.val (.int p1), .val (.int p2), .val (.int p3), .val (.int p4), .val (.int p5), .val (.int p6), .val (.ref x2), .val (.ref x21), .val (.ref x878), .val (.ref x1260), .unset, .unset, .unset, .unset, .unset, .unset]) rfl ?_
        refine XS.iload X1259.here hx rfl (hb hby at_52) rfl ?_
        show Steps p.tables e below (T1259.setTop (mkF m 54 #[.val (.int p1), .val (.int p2), .val (.int p3), .val (.int p4), .val (.int p5), .val (.int p6), .val (.ref x2), .val (.ref x21), .val (.ref x878), .val (.ref x1260), .unset, .unset, .unset, .unset, .unset, .unset] [(.int p5)])) _
        refine st1288.trans ?_
        refine XS.astore X1288.here hx rfl (hb hby at_57) rfl rfl (l' := #[.val (.int p1), .val (.int p2), .val (.int p3), .val (.int p4), .val (.int p5), .val (.int p6), .val (.ref x2), .val (.ref x21), .val (.ref x878), .val (.ref x1260), .val (.ref x1289), .unset, .unset, .unset, .unset, .unset]) rfl ?_
        refine XS.iload X1288.here hx rfl (hb hby at_59) rfl ?_
        refine XS.iconst X1288.here hx rfl (hb hby at_61) ?_
        refine XS.iushr X1288.here hx rfl (hb hby at_62) rfl ?_
        show Steps p.tables e below (T1288.setTop (mkF m 63 #[.val (.int p1), .val (.int p2), .val (.int p3), .val (.int p4), .val (.int p5), .val (.int p6), .val (.ref x2), .val (.ref x21), .val (.ref x878), .val (.ref x1260), .val (.ref x1289), .unset, .unset, .unset, .unset, .unset] [(.int ((p6.toUInt32 >>> ((4 : Int32) &&& 31).toUInt32).toInt32))])) _
        refine st1321.trans ?_
        refine XS.astore X1321.here hx rfl (hb hby at_66) rfl rfl (l' := #[.val (.int p1), .val (.int p2), .val (.int p3), .val (.int p4), .val (.int p5), .val (.int p6), .val (.ref x2), .val (.ref x21), .val (.ref x878), .val (.ref x1260), .val (.ref x1289), .val (.ref x1322), .unset, .unset, .unset, .unset]) rfl ?_
        exact kt
      have f1360 := (Exa.keep f1337 k1326)
      have f1361 := (Arv.keep f1339 k1326 nin0)
      have ne1359 : x2 ≠ x3 := own_arvne (own_w hw 6 rfl) f1360 f1361
      have f1363 := (Arv.keep f1343 k1326 nin0)
      have ne1362 : x2 ≠ x22 := own_arvne (own_w hw 6 rfl) f1360 f1363
      have f1365 := (Arv.keep f1347 k1326 nin0)
      have ne1364 : x2 ≠ x879 := own_arvne (own_w hw 6 rfl) f1360 f1365
      have f1367 := (Arv.keep f1351 k1326 nin0)
      have ne1366 : x2 ≠ x1261 := own_arvne (own_w hw 6 rfl) f1360 f1367
      have f1369 := (Exa.keep f1341 k1326)
      have ne1368 : x21 ≠ x22 := own_arvne (own_w hw 6 rfl) f1369 f1363
      have ne1370 : x21 ≠ x879 := own_arvne (own_w hw 6 rfl) f1369 f1365
      have ne1371 : x21 ≠ x1261 := own_arvne (own_w hw 6 rfl) f1369 f1367
      have f1373 := (Exa.keep f1345 k1326)
      have ne1372 : x878 ≠ x879 := own_arvne (own_w hw 6 rfl) f1373 f1365
      have ne1374 : x878 ≠ x1261 := own_arvne (own_w hw 6 rfl) f1373 f1367
      have f1376 := (Exa.keep f1349 k1326)
      have ne1375 : x1260 ≠ x1261 := own_arvne (own_w hw 6 rfl) f1376 f1367
      obtain ⟨T1377, h1377, X1377, e1377, E1377, A1377, D1377, -, st1377⟩ := newO X1321 hx hZ1321 ho1321 (own_w hw 26 rfl) (own_w hw 27 rfl) (own_w hw 28 rfl) rfl (g := (mkF m 68 #[.val (.int p1), .val (.int p2), .val (.int p3), .val (.int p4), .val (.int p5), .val (.int p6), .val (.ref x2), .val (.ref x21), .val (.ref x878), .val (.ref x1260), .val (.ref x1289), .val (.ref x1322), .unset, .unset, .unset, .unset] [])) rfl (hb hby at_68) (by decide) (by decide)
      obtain ⟨b1377, g1377⟩ : ∃ z, z = T1321.heap.size := ⟨_, rfl⟩
      have ge_b1377 : n0 ≤ b1377 := by rw [g1377, ← O1357.1]; exact O1357.2.1
      have ne1378 : x2 ≠ b1377 := Nat.ne_of_lt (Nat.lt_of_lt_of_le (Exa.lt f1360) (Nat.le_of_eq g1377.symm))
      have ne1379 : x3 ≠ b1377 := Nat.ne_of_lt (Nat.lt_of_lt_of_le (Arv.lt f1361) (Nat.le_of_eq g1377.symm))
      have ne1380 : x21 ≠ b1377 := Nat.ne_of_lt (Nat.lt_of_lt_of_le (Exa.lt f1369) (Nat.le_of_eq g1377.symm))
      have ne1381 : x22 ≠ b1377 := Nat.ne_of_lt (Nat.lt_of_lt_of_le (Arv.lt f1363) (Nat.le_of_eq g1377.symm))
      have ne1382 : x878 ≠ b1377 := Nat.ne_of_lt (Nat.lt_of_lt_of_le (Exa.lt f1373) (Nat.le_of_eq g1377.symm))
      have ne1383 : x879 ≠ b1377 := Nat.ne_of_lt (Nat.lt_of_lt_of_le (Arv.lt f1365) (Nat.le_of_eq g1377.symm))
      have ne1384 : x1260 ≠ b1377 := Nat.ne_of_lt (Nat.lt_of_lt_of_le (Exa.lt f1376) (Nat.le_of_eq g1377.symm))
      have ne1385 : x1261 ≠ b1377 := Nat.ne_of_lt (Nat.lt_of_lt_of_le (Arv.lt f1367) (Nat.le_of_eq g1377.symm))
      rw [← g1377] at A1377 D1377 st1377
      have hk1386 := Nat.le_trans hk1356 E1377.1
      have O1387 := O1357.ext E1377
      have F1388 : Fld Z h1377 b1377 "com/example/typecheck/typecheck/model/QName" "prefix" "Ljava/lang/String;" .null := D1377 (Or.inr (own_w hw 34 rfl)) (ty := (.object "java/lang/String")) (by decide)
      have F1389 : Fld Z h1377 b1377 "com/example/typecheck/typecheck/model/QName" "namespace" "Ljava/lang/String;" .null := D1377 (Or.inr (own_w hw 36 rfl)) (ty := (.object "java/lang/String")) (by decide)
      have F1390 : Fld Z h1377 b1377 "com/example/typecheck/typecheck/model/QName" "localName" "Ljava/lang/String;" .null := D1377 (Or.inr (own_w hw 38 rfl)) (ty := (.object "java/lang/String")) (by decide)
      have F1391 : Fld Z h1377 b1377 "com/example/typecheck/typecheck/model/QName" "hash" "I" (.int (0 : Int32)) := D1377 (Or.inr (own_w hw 59 rfl)) (ty := .int) (by decide)
      have f1393 := (Exa.ext E1377 f1360)
      have f1394 := (Fld.ext E1377 (Fld.keep (Fld.keep (Fld.keep (Fld.keep (Fld.keep f9 k25 nin0) k882 nin0) k1264 nin0) k1293 nin0) k1326 nin0))
      have f1395 := (Fld.ext E1377 (Fld.keep (Fld.keep (Fld.keep (Fld.keep (Fld.keep f10 k25 nin0) k882 nin0) k1264 nin0) k1293 nin0) k1326 nin0))
      have f1396 := (fun q => Exa.ext E1377 ((fun q => Exa.keep ((fun q => Exa.keep ((fun q => Exa.keep ((fun q => Exa.keep ((fun q => Exa.keep (f11 q) k25) q) k882) q) k1264) q) k1293) q) k1326) q))
      have f1397 := (Arv.ext f1361 E1377)
      have f1398 := (Fld.ext E1377 (Fld.keep (Fld.keep (Fld.keep (Fld.keep (Fld.keep f13 k25 nin0) k882 nin0) k1264 nin0) k1293 nin0) k1326 nin0))
      have f1399 := (Fld.ext E1377 (Fld.keep (Fld.keep (Fld.keep (Fld.keep (Fld.keep f14 k25 nin0) k882 nin0) k1264 nin0) k1293 nin0) k1326 nin0))
      have f1400 := (Exa.ext E1377 f1369)
      have f1401 := (Fld.ext E1377 (Fld.keep (Fld.keep (Fld.keep (Fld.keep f28 k882 nin0) k1264 nin0) k1293 nin0) k1326 nin0))
      have f1402 := (Fld.ext E1377 (Fld.keep (Fld.keep (Fld.keep (Fld.keep f29 k882 nin0) k1264 nin0) k1293 nin0) k1326 nin0))
      have f1403 := (fun q => Exa.ext E1377 ((fun q => Exa.keep ((fun q => Exa.keep ((fun q => Exa.keep ((fun q => Exa.keep (f30 q) k882) q) k1264) q) k1293) q) k1326) q))
      have f1404 := (Arv.ext f1363 E1377)
      have f1405 := (Fld.ext E1377 (Fld.keep (Fld.keep (Fld.keep (Fld.keep f32 k882 nin0) k1264 nin0) k1293 nin0) k1326 nin0))
      have f1406 := (Fld.ext E1377 (Fld.keep (Fld.keep (Fld.keep (Fld.keep f33 k882 nin0) k1264 nin0) k1293 nin0) k1326 nin0))
      obtain ⟨_, _, ⟨T1392, L1392, k1392, n1392⟩, -, X1392, ⟨Lc1392, hQ1392, l1392, y1392, z1392⟩, st1392⟩ := X1377.specialBack hx (y := (⟨"com/example/typecheck/typecheck/model/QName", "<init>", "(Ljava/lang/String;Ljava/lang/String;Ljava/lang/String;)V"⟩ : MethodName)) rfl ho1321 (mvT hZ1321 (own_w hw 29 rfl)) (mvT hZ1321 (own_w hw 30 rfl)) (mvT hZ1321 (own_w hw 31 rfl)) (by decide) (backOf (W := 1) (rm_qini l Z a0 hw [] b1377 x1289 x2 x3 x4 (own_cs p1) x21 x22 x23 (own_cs p2) zc h1377 n0 O1387 A1377 ge_b1377 F1388 F1389 F1390 F1391 f1393 f1394 f1395 f1396 f1397 f1398 f1399 ge16 f1400 f1401 f1402 f1403 f1404 f1405 f1406 ge35 ne36 (own_csok p1) (own_csok p2) S_C hzc) hZ1321 (own_w hw 31 rfl) (own_w hw 28 rfl) (by decide) (by decide)) (g := (mkF m 78 #[.val (.int p1), .val (.int p2), .val (.int p3), .val (.int p4), .val (.int p5), .val (.int p6), .val (.ref x2), .val (.ref x21), .val (.ref x878), .val (.ref x1260), .val (.ref x1289), .val (.ref x1322), .unset, .unset, .unset, .unset] [(.ref x21), (.ref x2), (.ref x1289), (.ref b1377), (.ref b1377)])) rfl (by rw [hml]; rfl) (Steps.refl _) (a := b1377) (argsL := [(.ref x1289), (.ref x2), (.ref x21)]) (rest := [(.ref b1377)]) (lenOf pd_13 rfl) rfl (by show 2 * 0 + _ ≤ _; exact Nat.le_of_eq rfl) (hb hby at_78) (fun _ _ => ⟨rfl, e1377, (by decide : 37 + 0 ≤ _), (by decide : 76 + 0 ≤ _)⟩)
      dsimp only [Pt.U, Pt.locs, Pt.cells, Pt.slots] at X1392 l1392 y1392 z1392 st1392 hQ1392
      subst l1392 y1392 z1392
      obtain ⟨rfl, N1407, k1408, f1409, f1410, f1411, f1412, f1413, f1414, f1415, f1416, f1417, f1418⟩ := hQ1392
      have N1419 := Fr.app N1335 N1407
      have hk1420 := Nat.le_trans hk1386 k1408.1
      have O1421 := O1387.keep k1408 (allS ge_b1377 (allS ge16 (allS ge35 all0)))
      obtain ⟨T1422, h1422, X1422, e1422, E1422, A1422, D1422, -, st1422⟩ := newO X1392 hx hZ1321 ho1321 (own_w hw 26 rfl) (own_w hw 27 rfl) (own_w hw 28 rfl) rfl (g := (mkF m 83 #[.val (.int p1), .val (.int p2), .val (.int p3), .val (.int p4), .val (.int p5), .val (.int p6), .val (.ref x2), .val (.ref x21), .val (.ref x878), .val (.ref x1260), .val (.ref x1289), .val (.ref x1322), .val (.ref b1377), .unset, .unset, .unset] [])) rfl (hb hby at_83) (by decide) (by decide)
      obtain ⟨b1422, g1422⟩ : ∃ z, z = T1392.heap.size := ⟨_, rfl⟩
      have ge_b1422 : n0 ≤ b1422 := by rw [g1422, ← O1421.1]; exact O1421.2.1
      have ne1423 : x2 ≠ b1422 := Nat.ne_of_lt (Nat.lt_of_lt_of_le (Exa.lt f1413) (Nat.le_of_eq g1422.symm))
      have f1424 := (Arv.keep f1397 k1408 (ninS ne1379 (ninS (Ne.symm ne1359) (ninS ne37 nin0))))
      have ne1425 : x3 ≠ b1422 := Nat.ne_of_lt (Nat.lt_of_lt_of_le (Arv.lt f1424) (Nat.le_of_eq g1422.symm))
      have ne1426 : x21 ≠ b1422 := Nat.ne_of_lt (Nat.lt_of_lt_of_le (Exa.lt f1416) (Nat.le_of_eq g1422.symm))
      have f1427 := (Arv.keep f1404 k1408 (ninS ne1381 (ninS (Ne.symm ne1362) (ninS (Ne.symm ne1368) nin0))))
      have ne1428 : x22 ≠ b1422 := Nat.ne_of_lt (Nat.lt_of_lt_of_le (Arv.lt f1427) (Nat.le_of_eq g1422.symm))
      have f1429 := (Exa.keep (Exa.ext E1377 f1373) k1408)
      have ne1430 : x878 ≠ b1422 := Nat.ne_of_lt (Nat.lt_of_lt_of_le (Exa.lt f1429) (Nat.le_of_eq g1422.symm))
      have f1431 := (Arv.keep (Arv.ext f1365 E1377) k1408 (ninS ne1383 (ninS (Ne.symm ne1364) (ninS (Ne.symm ne1370) nin0))))
      have ne1432 : x879 ≠ b1422 := Nat.ne_of_lt (Nat.lt_of_lt_of_le (Arv.lt f1431) (Nat.le_of_eq g1422.symm))
      have f1433 := (Exa.keep (Exa.ext E1377 f1376) k1408)
      have ne1434 : x1260 ≠ b1422 := Nat.ne_of_lt (Nat.lt_of_lt_of_le (Exa.lt f1433) (Nat.le_of_eq g1422.symm))
      have f1435 := (Arv.keep (Arv.ext f1367 E1377) k1408 (ninS ne1385 (ninS (Ne.symm ne1366) (ninS (Ne.symm ne1371) nin0))))
      have ne1436 : x1261 ≠ b1422 := Nat.ne_of_lt (Nat.lt_of_lt_of_le (Arv.lt f1435) (Nat.le_of_eq g1422.symm))
      have ne1437 : b1377 ≠ b1422 := Nat.ne_of_lt (Nat.lt_of_lt_of_le (Exa.lt f1409) (Nat.le_of_eq g1422.symm))
      rw [← g1422] at A1422 D1422 st1422
      have hk1438 := Nat.le_trans hk1420 E1422.1
      have O1439 := O1421.ext E1422
      have F1440 : Fld Z h1422 b1422 "com/example/typecheck/typecheck/model/QName" "prefix" "Ljava/lang/String;" .null := D1422 (Or.inr (own_w hw 34 rfl)) (ty := (.object "java/lang/String")) (by decide)
      have F1441 : Fld Z h1422 b1422 "com/example/typecheck/typecheck/model/QName" "namespace" "Ljava/lang/String;" .null := D1422 (Or.inr (own_w hw 36 rfl)) (ty := (.object "java/lang/String")) (by decide)
      have F1442 : Fld Z h1422 b1422 "com/example/typecheck/typecheck/model/QName" "localName" "Ljava/lang/String;" .null := D1422 (Or.inr (own_w hw 38 rfl)) (ty := (.object "java/lang/String")) (by decide)
      have F1443 : Fld Z h1422 b1422 "com/example/typecheck/typecheck/model/QName" "hash" "I" (.int (0 : Int32)) := D1422 (Or.inr (own_w hw 59 rfl)) (ty := .int) (by decide)
      have f1445 := (Exa.ext E1422 f1429)
      have f1446 := (Fld.ext E1422 (Fld.keep (Fld.ext E1377 (Fld.keep (Fld.keep (Fld.keep f885 k1264 nin0) k1293 nin0) k1326 nin0)) k1408 (ninS ne1382 (ninS (Ne.symm ne894) (ninS (Ne.symm ne897) nin0)))))
      have f1447 := (Fld.ext E1422 (Fld.keep (Fld.ext E1377 (Fld.keep (Fld.keep (Fld.keep f886 k1264 nin0) k1293 nin0) k1326 nin0)) k1408 (ninS ne1382 (ninS (Ne.symm ne894) (ninS (Ne.symm ne897) nin0)))))
      have f1448 := (fun q => Exa.ext E1422 ((fun q => Exa.keep ((fun q => Exa.ext E1377 ((fun q => Exa.keep ((fun q => Exa.keep ((fun q => Exa.keep (f887 q) k1264) q) k1293) q) k1326) q)) q) k1408) q))
      have f1449 := (Arv.ext f1431 E1422)
      have f1450 := (Fld.ext E1422 (Fld.keep (Fld.ext E1377 (Fld.keep (Fld.keep (Fld.keep f889 k1264 nin0) k1293 nin0) k1326 nin0)) k1408 (ninS ne1382 (ninS (Ne.symm ne894) (ninS (Ne.symm ne897) nin0)))))
      have f1451 := (Fld.ext E1422 (Fld.keep (Fld.ext E1377 (Fld.keep (Fld.keep (Fld.keep f890 k1264 nin0) k1293 nin0) k1326 nin0)) k1408 (ninS ne1382 (ninS (Ne.symm ne894) (ninS (Ne.symm ne897) nin0)))))
      have f1452 := (Exa.ext E1422 f1433)
      have f1453 := (Fld.ext E1422 (Fld.keep (Fld.ext E1377 (Fld.keep (Fld.keep f1267 k1293 nin0) k1326 nin0)) k1408 (ninS ne1384 (ninS (Ne.symm ne1276) (ninS (Ne.symm ne1280) nin0)))))
      have f1454 := (Fld.ext E1422 (Fld.keep (Fld.ext E1377 (Fld.keep (Fld.keep f1268 k1293 nin0) k1326 nin0)) k1408 (ninS ne1384 (ninS (Ne.symm ne1276) (ninS (Ne.symm ne1280) nin0)))))
      have f1455 := (fun q => Exa.ext E1422 ((fun q => Exa.keep ((fun q => Exa.ext E1377 ((fun q => Exa.keep ((fun q => Exa.keep (f1269 q) k1293) q) k1326) q)) q) k1408) q))
      have f1456 := (Arv.ext f1435 E1422)
      have f1457 := (Fld.ext E1422 (Fld.keep (Fld.ext E1377 (Fld.keep (Fld.keep f1271 k1293 nin0) k1326 nin0)) k1408 (ninS ne1384 (ninS (Ne.symm ne1276) (ninS (Ne.symm ne1280) nin0)))))
      have f1458 := (Fld.ext E1422 (Fld.keep (Fld.ext E1377 (Fld.keep (Fld.keep f1272 k1293 nin0) k1326 nin0)) k1408 (ninS ne1384 (ninS (Ne.symm ne1276) (ninS (Ne.symm ne1280) nin0)))))
      obtain ⟨_, _, ⟨T1444, L1444, k1444, n1444⟩, -, X1444, ⟨Lc1444, hQ1444, l1444, y1444, z1444⟩, st1444⟩ := X1422.specialBack hx (y := (⟨"com/example/typecheck/typecheck/model/QName", "<init>", "(Ljava/lang/String;Ljava/lang/String;Ljava/lang/String;)V"⟩ : MethodName)) rfl ho1321 (mvT hZ1321 (own_w hw 29 rfl)) (mvT hZ1321 (own_w hw 30 rfl)) (mvT hZ1321 (own_w hw 31 rfl)) (by decide) (backOf (W := 1) (rm_qini l Z a0 hw [] b1422 x1322 x878 x879 x880 (own_cs p1) x1260 x1261 x1262 (own_cs p2) zc h1422 n0 O1439 A1422 ge_b1422 F1440 F1441 F1442 F1443 f1445 f1446 f1447 f1448 f1449 f1450 f1451 ge892 f1452 f1453 f1454 f1455 f1456 f1457 f1458 ge1274 ne1283 (own_csok p1) (own_csok p2) S_C hzc) hZ1321 (own_w hw 31 rfl) (own_w hw 28 rfl) (by decide) (by decide)) (g := (mkF m 93 #[.val (.int p1), .val (.int p2), .val (.int p3), .val (.int p4), .val (.int p5), .val (.int p6), .val (.ref x2), .val (.ref x21), .val (.ref x878), .val (.ref x1260), .val (.ref x1289), .val (.ref x1322), .val (.ref b1377), .unset, .unset, .unset] [(.ref x1260), (.ref x878), (.ref x1322), (.ref b1422), (.ref b1422)])) rfl (by rw [hml]; rfl) (Steps.refl _) (a := b1422) (argsL := [(.ref x1322), (.ref x878), (.ref x1260)]) (rest := [(.ref b1422)]) (lenOf pd_13 rfl) rfl (by show 2 * 0 + _ ≤ _; exact Nat.le_of_eq rfl) (hb hby at_93) (fun _ _ => ⟨rfl, e1422, (by decide : 38 + 0 ≤ _), (by decide : 80 + 0 ≤ _)⟩)
      dsimp only [Pt.U, Pt.locs, Pt.cells, Pt.slots] at X1444 l1444 y1444 z1444 st1444 hQ1444
      subst l1444 y1444 z1444
      obtain ⟨rfl, N1459, k1460, f1461, f1462, f1463, f1464, f1465, f1466, f1467, f1468, f1469, f1470⟩ := hQ1444
      have N1471 := Fr.app N1419 N1459
      have hk1472 := Nat.le_trans hk1438 k1460.1
      have O1473 := O1439.keep k1460 (allS ge_b1422 (allS ge892 (allS ge1274 all0)))
      have S1474 : ∀ t, Steps p.tables e below (T1444.setTop (mkF m 108 #[.val (.int p1), .val (.int p2), .val (.int p3), .val (.int p4), .val (.int p5), .val (.int p6), .val (.ref x2), .val (.ref x21), .val (.ref x878), .val (.ref x1260), .val (.ref x1289), .val (.ref x1322), .val (.ref b1377), .val (.ref b1422), .val (.int (((p6.toUInt32 >>> ((2 : Int32) &&& 31).toUInt32).toInt32) &&& (3 : Int32))), .unset] [(.int (((p6.toUInt32 >>> ((2 : Int32) &&& 31).toUInt32).toInt32) &&& (3 : Int32)))])) t → Steps p.tables e below (s₁.setTop (mkF m 0 #[.val (.int p1), .val (.int p2), .val (.int p3), .val (.int p4), .val (.int p5), .val (.int p6), .unset, .unset, .unset, .unset, .unset, .unset, .unset, .unset, .unset, .unset] [])) t := by
        intro t kt
        refine S1358 t ?_
        refine st1377 _ ?_
        refine XS.dup X1377.here hx rfl (hb hby at_71) rfl rfl ?_
        refine XS.aload X1377.here hx rfl (hb hby at_72) rfl rfl ?_
        refine XS.aload X1377.here hx rfl (hb hby at_74) rfl rfl ?_
        refine XS.aload X1377.here hx rfl (hb hby at_76) rfl rfl ?_
        show Steps p.tables e below (T1377.setTop (mkF m 78 #[.val (.int p1), .val (.int p2), .val (.int p3), .val (.int p4), .val (.int p5), .val (.int p6), .val (.ref x2), .val (.ref x21), .val (.ref x878), .val (.ref x1260), .val (.ref x1289), .val (.ref x1322), .unset, .unset, .unset, .unset] [(.ref x21), (.ref x2), (.ref x1289), (.ref b1377), (.ref b1377)])) _
        refine st1392.trans ?_
        refine XS.astore X1392.here hx rfl (hb hby at_81) rfl rfl (l' := #[.val (.int p1), .val (.int p2), .val (.int p3), .val (.int p4), .val (.int p5), .val (.int p6), .val (.ref x2), .val (.ref x21), .val (.ref x878), .val (.ref x1260), .val (.ref x1289), .val (.ref x1322), .val (.ref b1377), .unset, .unset, .unset]) rfl ?_
        show Steps p.tables e below (T1392.setTop (mkF m 83 #[.val (.int p1), .val (.int p2), .val (.int p3), .val (.int p4), .val (.int p5), .val (.int p6), .val (.ref x2), .val (.ref x21), .val (.ref x878), .val (.ref x1260), .val (.ref x1289), .val (.ref x1322), .val (.ref b1377), .unset, .unset, .unset] [])) _
        refine st1422 _ ?_
        refine XS.dup X1422.here hx rfl (hb hby at_86) rfl rfl ?_
        refine XS.aload X1422.here hx rfl (hb hby at_87) rfl rfl ?_
        refine XS.aload X1422.here hx rfl (hb hby at_89) rfl rfl ?_
        refine XS.aload X1422.here hx rfl (hb hby at_91) rfl rfl ?_
        show Steps p.tables e below (T1422.setTop (mkF m 93 #[.val (.int p1), .val (.int p2), .val (.int p3), .val (.int p4), .val (.int p5), .val (.int p6), .val (.ref x2), .val (.ref x21), .val (.ref x878), .val (.ref x1260), .val (.ref x1289), .val (.ref x1322), .val (.ref b1377), .unset, .unset, .unset] [(.ref x1260), (.ref x878), (.ref x1322), (.ref b1422), (.ref b1422)])) _
        refine st1444.trans ?_
        refine XS.astore X1444.here hx rfl (hb hby at_96) rfl rfl (l' := #[.val (.int p1), .val (.int p2), .val (.int p3), .val (.int p4), .val (.int p5), .val (.int p6), .val (.ref x2), .val (.ref x21), .val (.ref x878), .val (.ref x1260), .val (.ref x1289), .val (.ref x1322), .val (.ref b1377), .val (.ref b1422), .unset, .unset]) rfl ?_
        refine XS.iload X1444.here hx rfl (hb hby at_98) rfl ?_
        refine XS.iconst X1444.here hx rfl (hb hby at_100) ?_
        refine XS.iushr X1444.here hx rfl (hb hby at_101) rfl ?_
        refine XS.iconst X1444.here hx rfl (hb hby at_102) ?_
        refine XS.iand X1444.here hx rfl (hb hby at_103) rfl ?_
        refine XS.istore X1444.here hx rfl (hb hby at_104) rfl (l' := #[.val (.int p1), .val (.int p2), .val (.int p3), .val (.int p4), .val (.int p5), .val (.int p6), .val (.ref x2), .val (.ref x21), .val (.ref x878), .val (.ref x1260), .val (.ref x1289), .val (.ref x1322), .val (.ref b1377), .val (.ref b1422), .val (.int (((p6.toUInt32 >>> ((2 : Int32) &&& 31).toUInt32).toInt32) &&& (3 : Int32))), .unset]) rfl ?_
        refine XS.iload X1444.here hx rfl (hb hby at_106) rfl ?_
        exact kt
      rcases Decidable.em ((((p6.toUInt32 >>> ((2 : Int32) &&& 31).toUInt32).toInt32) &&& (3 : Int32)) = (0 : Int32)) with c1475 | c1475
      · have f1477 := (Exa.keep (Exa.ext E1422 f1413) k1460)
        have f1478 := (Fld.keep (Fld.ext E1422 f1414) k1460 (ninS ne1423 (ninS ne894 (ninS ne1276 nin0))))
        have f1479 := (Fld.keep (Fld.ext E1422 f1415) k1460 (ninS ne1423 (ninS ne894 (ninS ne1276 nin0))))
        have f1480 := (fun q => Exa.keep ((fun q => Exa.ext E1422 ((fun q => Exa.keep (f1396 q) k1408) q)) q) k1460)
        have f1481 := (Arv.keep (Arv.ext f1424 E1422) k1460 (ninS ne1425 (ninS ne896 (ninS ne1278 nin0))))
        have f1482 := (fun q => Exa.keep (f1448 q) k1460)
        have f1483 := (Arv.keep f1449 k1460 (ninS ne1432 (ninS (Ne.symm ne1372) (ninS ne1284 nin0))))
        obtain ⟨_, _, ⟨T1476, L1476, k1476, n1476⟩, -, X1476, ⟨Lc1476, hQ1476, l1476, y1476, z1476⟩, st1476⟩ := Jvm.LawKit.callS X1444 hx (y := (⟨"com/example/typecheck/typecheck/model/QNameEqualsPinLaw", "same", "(Ljava/lang/String;Ljava/lang/String;)Z"⟩ : MethodName)) ho1321 (mvT hZ1321 (own_w hw 60 rfl)) (mvT hZ1321 (own_w hw 61 rfl)) (mvT hZ1321 (own_w hw 2 rfl)) (mvT hZ1321 (own_w hw 62 rfl)) (by decide) (backOf (W := 0) (rm_same l Z a0 hw [] x2 x3 x4 (own_cs p1) x878 x879 x880 (own_cs p1) zc fm T1444.heap n0 O1473 f1477 f1478 f1479 f1480 f1481 f1465 f1466 f1467 f1482 f1483 (own_csok p1) (own_csok p1) S_C hzc S_F hfm) hZ1321 (own_w hw 62 rfl) (own_w hw 2 rfl) (by decide) (by decide)) (g := (mkF m 115 #[.val (.int p1), .val (.int p2), .val (.int p3), .val (.int p4), .val (.int p5), .val (.int p6), .val (.ref x2), .val (.ref x21), .val (.ref x878), .val (.ref x1260), .val (.ref x1289), .val (.ref x1322), .val (.ref b1377), .val (.ref b1422), .val (.int (((p6.toUInt32 >>> ((2 : Int32) &&& 31).toUInt32).toInt32) &&& (3 : Int32))), .unset] [(.ref x878), (.ref x2)])) rfl (by rw [hml]; rfl) (argsL := [(.ref x2), (.ref x878)]) (rest := []) (lenOf pd_14 rfl) rfl (by show 2 * 0 + _ ≤ _; exact Nat.le_of_eq rfl) (hb hby at_115) (fun _ _ => ⟨rfl, rfl, (by decide : 38 + 0 ≤ _), (by decide : 80 + 0 ≤ _)⟩)
        dsimp only [Pt.U, Pt.locs, Pt.cells, Pt.slots] at X1476 l1476 y1476 z1476 st1476 hQ1476
        subst l1476 y1476 z1476
        obtain ⟨rfl, N1484, k1485⟩ := hQ1476
        have N1486 := Fr.app N1471 N1484
        have f1488 := (Exa.keep (Exa.ext E1422 f1416) k1460)
        have f1489 := (Fld.keep (Fld.ext E1422 f1417) k1460 (ninS ne1426 (ninS ne897 (ninS ne1280 nin0))))
        have f1490 := (Fld.keep (Fld.ext E1422 f1418) k1460 (ninS ne1426 (ninS ne897 (ninS ne1280 nin0))))
        have f1491 := (fun q => Exa.keep ((fun q => Exa.ext E1422 ((fun q => Exa.keep (f1403 q) k1408) q)) q) k1460)
        have f1492 := (Arv.keep (Arv.ext f1427 E1422) k1460 (ninS ne1428 (ninS ne898 (ninS ne1282 nin0))))
        have f1493 := (fun q => Exa.keep (f1455 q) k1460)
        have f1494 := (Arv.keep f1456 k1460 (ninS ne1436 (ninS (Ne.symm ne1374) (ninS (Ne.symm ne1375) nin0))))
        obtain ⟨_, _, ⟨T1487, L1487, k1487, n1487⟩, -, X1487, ⟨Lc1487, hQ1487, l1487, y1487, z1487⟩, st1487⟩ := Jvm.LawKit.callS X1476 hx (y := (⟨"com/example/typecheck/typecheck/model/QNameEqualsPinLaw", "same", "(Ljava/lang/String;Ljava/lang/String;)Z"⟩ : MethodName)) ho1321 (mvT hZ1321 (own_w hw 60 rfl)) (mvT hZ1321 (own_w hw 61 rfl)) (mvT hZ1321 (own_w hw 2 rfl)) (mvT hZ1321 (own_w hw 62 rfl)) (by decide) (backOf (W := 0) (rm_same l Z a0 hw [] x21 x22 x23 (own_cs p2) x1260 x1261 x1262 (own_cs p2) zc fm T1444.heap n0 O1473 f1488 f1489 f1490 f1491 f1492 f1468 f1469 f1470 f1493 f1494 (own_csok p2) (own_csok p2) S_C hzc S_F hfm) hZ1321 (own_w hw 62 rfl) (own_w hw 2 rfl) (by decide) (by decide)) (g := (mkF m 125 #[.val (.int p1), .val (.int p2), .val (.int p3), .val (.int p4), .val (.int p5), .val (.int p6), .val (.ref x2), .val (.ref x21), .val (.ref x878), .val (.ref x1260), .val (.ref x1289), .val (.ref x1322), .val (.ref b1377), .val (.ref b1422), .val (.int (((p6.toUInt32 >>> ((2 : Int32) &&& 31).toUInt32).toInt32) &&& (3 : Int32))), .unset] [(.ref x1260), (.ref x21)])) rfl (by rw [hml]; rfl) (argsL := [(.ref x21), (.ref x1260)]) (rest := []) (lenOf pd_14 rfl) rfl (by show 2 * 0 + _ ≤ _; exact Nat.le_of_eq rfl) (hb hby at_125) (fun _ _ => ⟨rfl, k1485, (by decide : 38 + 0 ≤ _), (by decide : 80 + 0 ≤ _)⟩)
        dsimp only [Pt.U, Pt.locs, Pt.cells, Pt.slots] at X1487 l1487 y1487 z1487 st1487 hQ1487
        subst l1487 y1487 z1487
        obtain ⟨rfl, N1495, k1496⟩ := hQ1487
        have N1497 := Fr.app N1486 N1495
        have f1499 := (Exa.keep (Exa.ext E1422 f1409) k1460)
        have f1500 := (Fld.keep (Fld.ext E1422 f1412) k1460 (ninS ne1437 (ninS (Ne.symm ne1382) (ninS (Ne.symm ne1384) nin0))))
        have f1501 := (Fld.keep (Fld.ext E1422 f1410) k1460 (ninS ne1437 (ninS (Ne.symm ne1382) (ninS (Ne.symm ne1384) nin0))))
        have f1502 := (Fld.keep (Fld.ext E1422 f1411) k1460 (ninS ne1437 (ninS (Ne.symm ne1382) (ninS (Ne.symm ne1384) nin0))))
        obtain ⟨cq1498, kq1498, q1498a, q1498b, q1498c⟩ := isOf hZ1321 k1496 f1499
        obtain ⟨_, _, ⟨T1498, L1498, k1498, n1498⟩, -, X1498, ⟨Lc1498, hQ1498, l1498, y1498, z1498⟩, st1498⟩ := X1487.virtualBack hx (y := (⟨"com/example/typecheck/typecheck/model/QName", "equals", "(Ljava/lang/Object;)Z"⟩ : MethodName)) (z := (⟨"com/example/typecheck/typecheck/model/QName", "equals", "(Ljava/lang/Object;)Z"⟩ : MethodName)) ho1321 (mvT hZ1321 (own_w hw 73 rfl)) (mvT hZ1321 (own_w hw 74 rfl)) (notFace_of_selects (args := #[]) (mvT hZ1321 (own_w hw 76 rfl))) (mvT hZ1321 (own_w hw 76 rfl)) (mvT hZ1321 (own_w hw 75 rfl)) (by decide) (backOf (W := 0) (rm_qeq l Z a0 hw [] b1377 (((31 : Int32) * (own_H (own_cs p1))) + (own_H (own_cs p2))) x2 x3 x4 (own_cs p1) x21 x22 x23 (own_cs p2) b1422 (((31 : Int32) * (own_H (own_cs p1))) + (own_H (own_cs p2))) x878 x879 x880 (own_cs p1) x1260 x1261 x1262 (own_cs p2) zc T1444.heap n0 O1473 f1499 f1500 f1501 f1502 f1477 f1478 f1479 f1480 f1481 f1488 f1489 f1490 f1491 f1492 (own_csok p1) (own_csok p2) f1461 f1464 f1462 f1463 f1465 f1466 f1467 f1482 f1483 f1468 f1469 f1470 f1493 f1494 (own_csok p1) (own_csok p2) ne1437 S_C hzc) hZ1321 (own_w hw 77 rfl) (own_w hw 28 rfl) (by decide) (by decide)) q1498a q1498c (g := (mkF m 142 #[.val (.int p1), .val (.int p2), .val (.int p3), .val (.int p4), .val (.int p5), .val (.int p6), .val (.ref x2), .val (.ref x21), .val (.ref x878), .val (.ref x1260), .val (.ref x1289), .val (.ref x1322), .val (.ref b1377), .val (.ref b1422), .val (.int (((p6.toUInt32 >>> ((2 : Int32) &&& 31).toUInt32).toInt32) &&& (3 : Int32))), .val (.int (1 : Int32))] [(.ref b1422), (.ref b1377)])) rfl (by rw [hml]; rfl) (Steps.refl _) (argsL := [(.ref b1422)]) (rest := []) (lenOf pd_11 rfl) rfl (by show 2 * 0 + _ ≤ _; exact Nat.le_of_eq rfl) (hb hby at_142) (fun _ _ => ⟨rfl, k1496, (by decide : 38 + 0 ≤ _), (by decide : 80 + 0 ≤ _)⟩)
        dsimp only [Pt.U, Pt.locs, Pt.cells, Pt.slots] at X1498 l1498 y1498 z1498 st1498 hQ1498
        subst l1498 y1498 z1498
        rcases hQ1498 with ⟨c1503, c1504, rfl, N1505, k1506⟩ | ⟨c1507, rfl, N1508, k1509⟩ | ⟨c1510, rfl, N1511, k1512⟩ | ⟨c1513, rfl, N1514, k1515⟩
        · have N1516 := Fr.app N1497 N1505
          obtain ⟨cq1517, kq1517, q1517a, q1517b, q1517c⟩ := isOf hZ1321 k1506 f1461
          obtain ⟨_, _, ⟨T1517, L1517, k1517, n1517⟩, -, X1517, ⟨Lc1517, hQ1517, l1517, y1517, z1517⟩, st1517⟩ := X1498.virtualBack hx (y := (⟨"com/example/typecheck/typecheck/model/QName", "equals", "(Ljava/lang/Object;)Z"⟩ : MethodName)) (z := (⟨"com/example/typecheck/typecheck/model/QName", "equals", "(Ljava/lang/Object;)Z"⟩ : MethodName)) ho1321 (mvT hZ1321 (own_w hw 73 rfl)) (mvT hZ1321 (own_w hw 74 rfl)) (notFace_of_selects (args := #[]) (mvT hZ1321 (own_w hw 76 rfl))) (mvT hZ1321 (own_w hw 76 rfl)) (mvT hZ1321 (own_w hw 75 rfl)) (by decide) (backOf (W := 0) (rm_qeq l Z a0 hw [] b1422 (((31 : Int32) * (own_H (own_cs p1))) + (own_H (own_cs p2))) x878 x879 x880 (own_cs p1) x1260 x1261 x1262 (own_cs p2) b1377 (((31 : Int32) * (own_H (own_cs p1))) + (own_H (own_cs p2))) x2 x3 x4 (own_cs p1) x21 x22 x23 (own_cs p2) zc T1444.heap n0 O1473 f1461 f1464 f1462 f1463 f1465 f1466 f1467 f1482 f1483 f1468 f1469 f1470 f1493 f1494 (own_csok p1) (own_csok p2) f1499 f1500 f1501 f1502 f1477 f1478 f1479 f1480 f1481 f1488 f1489 f1490 f1491 f1492 (own_csok p1) (own_csok p2) (Ne.symm ne1437) S_C hzc) hZ1321 (own_w hw 77 rfl) (own_w hw 28 rfl) (by decide) (by decide)) q1517a q1517c (g := (mkF m 154 #[.val (.int p1), .val (.int p2), .val (.int p3), .val (.int p4), .val (.int p5), .val (.int p6), .val (.ref x2), .val (.ref x21), .val (.ref x878), .val (.ref x1260), .val (.ref x1289), .val (.ref x1322), .val (.ref b1377), .val (.ref b1422), .val (.int (((p6.toUInt32 >>> ((2 : Int32) &&& 31).toUInt32).toInt32) &&& (3 : Int32))), .val (.int (1 : Int32))] [(.ref b1377), (.ref b1422)])) rfl (by rw [hml]; rfl) (Steps.refl _) (argsL := [(.ref b1377)]) (rest := []) (lenOf pd_11 rfl) rfl (by show 2 * 0 + _ ≤ _; exact Nat.le_of_eq rfl) (hb hby at_154) (fun _ _ => ⟨rfl, k1506, (by decide : 38 + 0 ≤ _), (by decide : 80 + 0 ≤ _)⟩)
          dsimp only [Pt.U, Pt.locs, Pt.cells, Pt.slots] at X1517 l1517 y1517 z1517 st1517 hQ1517
          subst l1517 y1517 z1517
          rcases hQ1517 with ⟨c1518, c1519, rfl, N1520, k1521⟩ | ⟨c1522, rfl, N1523, k1524⟩ | ⟨c1525, rfl, N1526, k1527⟩ | ⟨c1528, rfl, N1529, k1530⟩
          · have N1531 := Fr.app N1516 N1520
            have S1532 : ∀ t, Steps p.tables e below (T1517.setTop (mkF m 167 #[.val (.int p1), .val (.int p2), .val (.int p3), .val (.int p4), .val (.int p5), .val (.int p6), .val (.ref x2), .val (.ref x21), .val (.ref x878), .val (.ref x1260), .val (.ref x1289), .val (.ref x1322), .val (.ref b1377), .val (.ref b1422), .val (.int (((p6.toUInt32 >>> ((2 : Int32) &&& 31).toUInt32).toInt32) &&& (3 : Int32))), .val (.int (1 : Int32))] [(.int (1 : Int32))])) t → Steps p.tables e below (s₁.setTop (mkF m 0 #[.val (.int p1), .val (.int p2), .val (.int p3), .val (.int p4), .val (.int p5), .val (.int p6), .unset, .unset, .unset, .unset, .unset, .unset, .unset, .unset, .unset, .unset] [])) t := by
              intro t kt
              refine S1474 t ?_
              refine XS.ifNo X1444.here hx rfl (hb hby at_108) rfl ((if0 _ _).trans (teq (c1475 : (((p6.toUInt32 >>> ((2 : Int32) &&& 31).toUInt32).toInt32) &&& (3 : Int32)) = (0 : Int32))).2) ?_
              refine XS.aload X1444.here hx rfl (hb hby at_111) rfl rfl ?_
              refine XS.aload X1444.here hx rfl (hb hby at_113) rfl rfl ?_
              show Steps p.tables e below (T1444.setTop (mkF m 115 #[.val (.int p1), .val (.int p2), .val (.int p3), .val (.int p4), .val (.int p5), .val (.int p6), .val (.ref x2), .val (.ref x21), .val (.ref x878), .val (.ref x1260), .val (.ref x1289), .val (.ref x1322), .val (.ref b1377), .val (.ref b1422), .val (.int (((p6.toUInt32 >>> ((2 : Int32) &&& 31).toUInt32).toInt32) &&& (3 : Int32))), .unset] [(.ref x878), (.ref x2)])) _
              refine st1476 _ ?_
              refine XS.ifNo X1476.here hx rfl (hb hby at_118) rfl ((if0 _ _).trans (feq ((own_eq1 rfl) : ¬ ((own_eqI (own_cs p1) (own_cs p1)) = (0 : Int32)))).1) ?_
              refine XS.aload X1476.here hx rfl (hb hby at_121) rfl rfl ?_
              refine XS.aload X1476.here hx rfl (hb hby at_123) rfl rfl ?_
              show Steps p.tables e below (T1476.setTop (mkF m 125 #[.val (.int p1), .val (.int p2), .val (.int p3), .val (.int p4), .val (.int p5), .val (.int p6), .val (.ref x2), .val (.ref x21), .val (.ref x878), .val (.ref x1260), .val (.ref x1289), .val (.ref x1322), .val (.ref b1377), .val (.ref b1422), .val (.int (((p6.toUInt32 >>> ((2 : Int32) &&& 31).toUInt32).toInt32) &&& (3 : Int32))), .unset] [(.ref x1260), (.ref x21)])) _
              refine st1487 _ ?_
              refine XS.ifNo X1487.here hx rfl (hb hby at_128) rfl ((if0 _ _).trans (feq ((own_eq1 rfl) : ¬ ((own_eqI (own_cs p2) (own_cs p2)) = (0 : Int32)))).1) ?_
              refine XS.iconst X1487.here hx rfl (hb hby at_131) ?_
              refine XS.goto X1487.here hx rfl (pc0 := 132) (pc' := 136) rfl (hb hby at_132) (by decide) (by decide) ?_
              refine XS.istore X1487.here hx rfl (hb hby at_136) rfl (l' := #[.val (.int p1), .val (.int p2), .val (.int p3), .val (.int p4), .val (.int p5), .val (.int p6), .val (.ref x2), .val (.ref x21), .val (.ref x878), .val (.ref x1260), .val (.ref x1289), .val (.ref x1322), .val (.ref b1377), .val (.ref b1422), .val (.int (((p6.toUInt32 >>> ((2 : Int32) &&& 31).toUInt32).toInt32) &&& (3 : Int32))), .val (.int (1 : Int32))]) rfl ?_
              refine XS.aload X1487.here hx rfl (hb hby at_138) rfl rfl ?_
              refine XS.aload X1487.here hx rfl (hb hby at_140) rfl rfl ?_
              show Steps p.tables e below (T1487.setTop (mkF m 142 #[.val (.int p1), .val (.int p2), .val (.int p3), .val (.int p4), .val (.int p5), .val (.int p6), .val (.ref x2), .val (.ref x21), .val (.ref x878), .val (.ref x1260), .val (.ref x1289), .val (.ref x1322), .val (.ref b1377), .val (.ref b1422), .val (.int (((p6.toUInt32 >>> ((2 : Int32) &&& 31).toUInt32).toInt32) &&& (3 : Int32))), .val (.int (1 : Int32))] [(.ref b1422), (.ref b1377)])) _
              refine st1498.trans ?_
              refine XS.iload X1498.here hx rfl (hb hby at_145) rfl ?_
              refine XS.icmpNo X1498.here hx rfl (hb hby at_147) rfl (teq ((by decide) : (1 : Int32) = (1 : Int32))).2 ?_
              refine XS.aload X1498.here hx rfl (hb hby at_150) rfl rfl ?_
              refine XS.aload X1498.here hx rfl (hb hby at_152) rfl rfl ?_
              show Steps p.tables e below (T1498.setTop (mkF m 154 #[.val (.int p1), .val (.int p2), .val (.int p3), .val (.int p4), .val (.int p5), .val (.int p6), .val (.ref x2), .val (.ref x21), .val (.ref x878), .val (.ref x1260), .val (.ref x1289), .val (.ref x1322), .val (.ref b1377), .val (.ref b1422), .val (.int (((p6.toUInt32 >>> ((2 : Int32) &&& 31).toUInt32).toInt32) &&& (3 : Int32))), .val (.int (1 : Int32))] [(.ref b1377), (.ref b1422)])) _
              refine st1517.trans ?_
              refine XS.iload X1517.here hx rfl (hb hby at_157) rfl ?_
              refine XS.icmpNo X1517.here hx rfl (hb hby at_159) rfl (teq ((by decide) : (1 : Int32) = (1 : Int32))).2 ?_
              refine XS.iconst X1517.here hx rfl (hb hby at_162) ?_
              refine XS.goto X1517.here hx rfl (pc0 := 163) (pc' := 167) rfl (hb hby at_163) (by decide) (by decide) ?_
              exact kt
            obtain ⟨fs, hr, hrun, hended, hRW⟩ := X1517.leaveW hS1321 (by rw [k1521]; exact hk1472) (v := some (.int (1 : Int32))) (fun h => by rw [Bd.returns] at h; cases h)
            refine ⟨_, _, pre0 _ (S1532 _ ?_), hrun, hended, _, _, rfl, ?_, hRW.1, hRW.2.1, hRW.2.2.1, hRW.2.2.2.mono (by decide) (by decide)⟩
            · exact retN X1517 hx (t := .boolean) Bd.returns (by simp) (hb hby at_167) hr
            · show Q_rm_law Z p1 p2 p3 p4 p5 p6 zc fm h0 n0 _ T1517.heap _
              rw [k1521]
              exact ⟨rfl, N1531⟩
          · exact absurd ((Eq.symm (own_hq rfl rfl)) : (((31 : Int32) * (own_H (own_cs p1))) + (own_H (own_cs p2))) = (((31 : Int32) * (own_H (own_cs p1))) + (own_H (own_cs p2)))) c1522
          · exact absurd (c1503 : (own_cs p2) = (own_cs p2)) c1525
          · exact absurd (c1504 : (own_cs p1) = (own_cs p1)) c1528
        · exact absurd ((Eq.symm (own_hq rfl rfl)) : (((31 : Int32) * (own_H (own_cs p1))) + (own_H (own_cs p2))) = (((31 : Int32) * (own_H (own_cs p1))) + (own_H (own_cs p2)))) c1507
        · exact absurd ((Eq.symm rfl) : (own_cs p2) = (own_cs p2)) c1510
        · exact absurd ((Eq.symm rfl) : (own_cs p1) = (own_cs p1)) c1513
      · have S1533 : ∀ t, Steps p.tables e below (T1444.setTop (mkF m 171 #[.val (.int p1), .val (.int p2), .val (.int p3), .val (.int p4), .val (.int p5), .val (.int p6), .val (.ref x2), .val (.ref x21), .val (.ref x878), .val (.ref x1260), .val (.ref x1289), .val (.ref x1322), .val (.ref b1377), .val (.ref b1422), .val (.int (((p6.toUInt32 >>> ((2 : Int32) &&& 31).toUInt32).toInt32) &&& (3 : Int32))), .unset] [(.int (1 : Int32)), (.int (((p6.toUInt32 >>> ((2 : Int32) &&& 31).toUInt32).toInt32) &&& (3 : Int32)))])) t → Steps p.tables e below (s₁.setTop (mkF m 0 #[.val (.int p1), .val (.int p2), .val (.int p3), .val (.int p4), .val (.int p5), .val (.int p6), .unset, .unset, .unset, .unset, .unset, .unset, .unset, .unset, .unset, .unset] [])) t := by
          intro t kt
          refine S1474 t ?_
          refine XS.ifYes X1444.here hx rfl (pc0 := 108) (pc' := 168) rfl (hb hby at_108) rfl ((if0 _ _).trans (feq (c1475 : ¬ ((((p6.toUInt32 >>> ((2 : Int32) &&& 31).toUInt32).toInt32) &&& (3 : Int32)) = (0 : Int32)))).2) (by decide) (by decide) ?_
          refine XS.iload X1444.here hx rfl (hb hby at_168) rfl ?_
          refine XS.iconst X1444.here hx rfl (hb hby at_170) ?_
          exact kt
        rcases Decidable.em ((((p6.toUInt32 >>> ((2 : Int32) &&& 31).toUInt32).toInt32) &&& (3 : Int32)) = (1 : Int32)) with c1534 | c1534
        · have f1536 := (Exa.keep (Exa.ext E1422 f1409) k1460)
          obtain ⟨cq1535, kq1535, q1535a, q1535b, q1535c⟩ := isOf hZ1321 rfl f1536
          obtain ⟨_, _, ⟨T1535, L1535, k1535, n1535⟩, -, X1535, ⟨Lc1535, hQ1535, l1535, y1535, z1535⟩, st1535⟩ := X1444.virtualBack hx (y := (⟨"com/example/typecheck/typecheck/model/QName", "equals", "(Ljava/lang/Object;)Z"⟩ : MethodName)) (z := (⟨"com/example/typecheck/typecheck/model/QName", "equals", "(Ljava/lang/Object;)Z"⟩ : MethodName)) ho1321 (mvT hZ1321 (own_w hw 73 rfl)) (mvT hZ1321 (own_w hw 74 rfl)) (notFace_of_selects (args := #[]) (mvT hZ1321 (own_w hw 76 rfl))) (mvT hZ1321 (own_w hw 76 rfl)) (mvT hZ1321 (own_w hw 75 rfl)) (by decide) (backOf (W := 0) (rm_qeqs l Z a0 hw [] b1377 T1444.heap n0 O1473 ) hZ1321 (own_w hw 77 rfl) (own_w hw 28 rfl) (by decide) (by decide)) q1535a q1535c (g := (mkF m 178 #[.val (.int p1), .val (.int p2), .val (.int p3), .val (.int p4), .val (.int p5), .val (.int p6), .val (.ref x2), .val (.ref x21), .val (.ref x878), .val (.ref x1260), .val (.ref x1289), .val (.ref x1322), .val (.ref b1377), .val (.ref b1422), .val (.int (((p6.toUInt32 >>> ((2 : Int32) &&& 31).toUInt32).toInt32) &&& (3 : Int32))), .unset] [(.ref b1377), (.ref b1377)])) rfl (by rw [hml]; rfl) (Steps.refl _) (argsL := [(.ref b1377)]) (rest := []) (lenOf pd_11 rfl) rfl (by show 2 * 0 + _ ≤ _; exact Nat.le_of_eq rfl) (hb hby at_178) (fun _ _ => ⟨rfl, rfl, (by decide : 38 + 0 ≤ _), (by decide : 80 + 0 ≤ _)⟩)
          dsimp only [Pt.U, Pt.locs, Pt.cells, Pt.slots] at X1535 l1535 y1535 z1535 st1535 hQ1535
          subst l1535 y1535 z1535
          obtain ⟨rfl, N1537, k1538⟩ := hQ1535
          have N1539 := Fr.app N1471 N1537
          have S1540 : ∀ t, Steps p.tables e below (T1535.setTop (mkF m 181 #[.val (.int p1), .val (.int p2), .val (.int p3), .val (.int p4), .val (.int p5), .val (.int p6), .val (.ref x2), .val (.ref x21), .val (.ref x878), .val (.ref x1260), .val (.ref x1289), .val (.ref x1322), .val (.ref b1377), .val (.ref b1422), .val (.int (((p6.toUInt32 >>> ((2 : Int32) &&& 31).toUInt32).toInt32) &&& (3 : Int32))), .unset] [(.int (1 : Int32))])) t → Steps p.tables e below (s₁.setTop (mkF m 0 #[.val (.int p1), .val (.int p2), .val (.int p3), .val (.int p4), .val (.int p5), .val (.int p6), .unset, .unset, .unset, .unset, .unset, .unset, .unset, .unset, .unset, .unset] [])) t := by
            intro t kt
            refine S1533 t ?_
            refine XS.icmpNo X1444.here hx rfl (hb hby at_171) rfl (teq (c1534 : (((p6.toUInt32 >>> ((2 : Int32) &&& 31).toUInt32).toInt32) &&& (3 : Int32)) = (1 : Int32))).2 ?_
            refine XS.aload X1444.here hx rfl (hb hby at_174) rfl rfl ?_
            refine XS.aload X1444.here hx rfl (hb hby at_176) rfl rfl ?_
            show Steps p.tables e below (T1444.setTop (mkF m 178 #[.val (.int p1), .val (.int p2), .val (.int p3), .val (.int p4), .val (.int p5), .val (.int p6), .val (.ref x2), .val (.ref x21), .val (.ref x878), .val (.ref x1260), .val (.ref x1289), .val (.ref x1322), .val (.ref b1377), .val (.ref b1422), .val (.int (((p6.toUInt32 >>> ((2 : Int32) &&& 31).toUInt32).toInt32) &&& (3 : Int32))), .unset] [(.ref b1377), (.ref b1377)])) _
            refine st1535.trans ?_
            exact kt
          obtain ⟨fs, hr, hrun, hended, hRW⟩ := X1535.leaveW hS1321 (by rw [k1538]; exact hk1472) (v := some (.int (1 : Int32))) (fun h => by rw [Bd.returns] at h; cases h)
          refine ⟨_, _, pre0 _ (S1540 _ ?_), hrun, hended, _, _, rfl, ?_, hRW.1, hRW.2.1, hRW.2.2.1, hRW.2.2.2.mono (by decide) (by decide)⟩
          · exact retN X1535 hx (t := .boolean) Bd.returns (by simp) (hb hby at_181) hr
          · show Q_rm_law Z p1 p2 p3 p4 p5 p6 zc fm h0 n0 _ T1535.heap _
            rw [k1538]
            exact ⟨rfl, N1539⟩
        · have S1541 : ∀ t, Steps p.tables e below (T1444.setTop (mkF m 185 #[.val (.int p1), .val (.int p2), .val (.int p3), .val (.int p4), .val (.int p5), .val (.int p6), .val (.ref x2), .val (.ref x21), .val (.ref x878), .val (.ref x1260), .val (.ref x1289), .val (.ref x1322), .val (.ref b1377), .val (.ref b1422), .val (.int (((p6.toUInt32 >>> ((2 : Int32) &&& 31).toUInt32).toInt32) &&& (3 : Int32))), .unset] [(.int (2 : Int32)), (.int (((p6.toUInt32 >>> ((2 : Int32) &&& 31).toUInt32).toInt32) &&& (3 : Int32)))])) t → Steps p.tables e below (s₁.setTop (mkF m 0 #[.val (.int p1), .val (.int p2), .val (.int p3), .val (.int p4), .val (.int p5), .val (.int p6), .unset, .unset, .unset, .unset, .unset, .unset, .unset, .unset, .unset, .unset] [])) t := by
            intro t kt
            refine S1533 t ?_
            refine XS.icmpYes X1444.here hx rfl (pc0 := 171) (pc' := 182) rfl (hb hby at_171) rfl (feq (c1534 : ¬ ((((p6.toUInt32 >>> ((2 : Int32) &&& 31).toUInt32).toInt32) &&& (3 : Int32)) = (1 : Int32)))).2 (by decide) (by decide) ?_
            refine XS.iload X1444.here hx rfl (hb hby at_182) rfl ?_
            refine XS.iconst X1444.here hx rfl (hb hby at_184) ?_
            exact kt
          rcases Decidable.em ((((p6.toUInt32 >>> ((2 : Int32) &&& 31).toUInt32).toInt32) &&& (3 : Int32)) = (2 : Int32)) with c1542 | c1542
          · have f1544 := (Exa.keep (Exa.ext E1422 f1409) k1460)
            obtain ⟨cq1543, kq1543, q1543a, q1543b, q1543c⟩ := isOf hZ1321 rfl f1544
            obtain ⟨_, _, ⟨T1543, L1543, k1543, n1543⟩, -, X1543, ⟨Lc1543, hQ1543, l1543, y1543, z1543⟩, st1543⟩ := X1444.virtualBack hx (y := (⟨"com/example/typecheck/typecheck/model/QName", "equals", "(Ljava/lang/Object;)Z"⟩ : MethodName)) (z := (⟨"com/example/typecheck/typecheck/model/QName", "equals", "(Ljava/lang/Object;)Z"⟩ : MethodName)) ho1321 (mvT hZ1321 (own_w hw 73 rfl)) (mvT hZ1321 (own_w hw 74 rfl)) (notFace_of_selects (args := #[]) (mvT hZ1321 (own_w hw 76 rfl))) (mvT hZ1321 (own_w hw 76 rfl)) (mvT hZ1321 (own_w hw 75 rfl)) (by decide) (backOf (W := 0) (rm_qeqn l Z a0 hw [] b1377 T1444.heap n0 O1473 ) hZ1321 (own_w hw 77 rfl) (own_w hw 28 rfl) (by decide) (by decide)) q1543a q1543c (g := (mkF m 191 #[.val (.int p1), .val (.int p2), .val (.int p3), .val (.int p4), .val (.int p5), .val (.int p6), .val (.ref x2), .val (.ref x21), .val (.ref x878), .val (.ref x1260), .val (.ref x1289), .val (.ref x1322), .val (.ref b1377), .val (.ref b1422), .val (.int (((p6.toUInt32 >>> ((2 : Int32) &&& 31).toUInt32).toInt32) &&& (3 : Int32))), .unset] [.null, (.ref b1377)])) rfl (by rw [hml]; rfl) (Steps.refl _) (argsL := [.null]) (rest := []) (lenOf pd_11 rfl) rfl (by show 2 * 0 + _ ≤ _; exact Nat.le_of_eq rfl) (hb hby at_191) (fun _ _ => ⟨rfl, rfl, (by decide : 38 + 0 ≤ _), (by decide : 80 + 0 ≤ _)⟩)
            dsimp only [Pt.U, Pt.locs, Pt.cells, Pt.slots] at X1543 l1543 y1543 z1543 st1543 hQ1543
            subst l1543 y1543 z1543
            obtain ⟨rfl, N1545, k1546⟩ := hQ1543
            have N1547 := Fr.app N1471 N1545
            have S1548 : ∀ t, Steps p.tables e below (T1543.setTop (mkF m 202 #[.val (.int p1), .val (.int p2), .val (.int p3), .val (.int p4), .val (.int p5), .val (.int p6), .val (.ref x2), .val (.ref x21), .val (.ref x878), .val (.ref x1260), .val (.ref x1289), .val (.ref x1322), .val (.ref b1377), .val (.ref b1422), .val (.int (((p6.toUInt32 >>> ((2 : Int32) &&& 31).toUInt32).toInt32) &&& (3 : Int32))), .unset] [(.int (1 : Int32))])) t → Steps p.tables e below (s₁.setTop (mkF m 0 #[.val (.int p1), .val (.int p2), .val (.int p3), .val (.int p4), .val (.int p5), .val (.int p6), .unset, .unset, .unset, .unset, .unset, .unset, .unset, .unset, .unset, .unset] [])) t := by
              intro t kt
              refine S1541 t ?_
              refine XS.icmpNo X1444.here hx rfl (hb hby at_185) rfl (teq (c1542 : (((p6.toUInt32 >>> ((2 : Int32) &&& 31).toUInt32).toInt32) &&& (3 : Int32)) = (2 : Int32))).2 ?_
              refine XS.aload X1444.here hx rfl (hb hby at_188) rfl rfl ?_
              refine XS.aconstNull X1444.here hx rfl (hb hby at_190) ?_
              show Steps p.tables e below (T1444.setTop (mkF m 191 #[.val (.int p1), .val (.int p2), .val (.int p3), .val (.int p4), .val (.int p5), .val (.int p6), .val (.ref x2), .val (.ref x21), .val (.ref x878), .val (.ref x1260), .val (.ref x1289), .val (.ref x1322), .val (.ref b1377), .val (.ref b1422), .val (.int (((p6.toUInt32 >>> ((2 : Int32) &&& 31).toUInt32).toInt32) &&& (3 : Int32))), .unset] [.null, (.ref b1377)])) _
              refine st1543.trans ?_
              refine XS.ifNo X1543.here hx rfl (hb hby at_194) rfl ((if0 _ _).trans (teq ((by decide) : (0 : Int32) = (0 : Int32))).2) ?_
              refine XS.iconst X1543.here hx rfl (hb hby at_197) ?_
              refine XS.goto X1543.here hx rfl (pc0 := 198) (pc' := 202) rfl (hb hby at_198) (by decide) (by decide) ?_
              exact kt
            obtain ⟨fs, hr, hrun, hended, hRW⟩ := X1543.leaveW hS1321 (by rw [k1546]; exact hk1472) (v := some (.int (1 : Int32))) (fun h => by rw [Bd.returns] at h; cases h)
            refine ⟨_, _, pre0 _ (S1548 _ ?_), hrun, hended, _, _, rfl, ?_, hRW.1, hRW.2.1, hRW.2.2.1, hRW.2.2.2.mono (by decide) (by decide)⟩
            · exact retN X1543 hx (t := .boolean) Bd.returns (by simp) (hb hby at_202) hr
            · show Q_rm_law Z p1 p2 p3 p4 p5 p6 zc fm h0 n0 _ T1543.heap _
              rw [k1546]
              exact ⟨rfl, N1547⟩
          · have f1550 := (Exa.keep (Exa.ext E1422 f1409) k1460)
            have f1551 := (Exa.keep (Exa.ext E1422 f1416) k1460)
            obtain ⟨cq1549, kq1549, q1549a, q1549b, q1549c⟩ := isOf hZ1321 rfl f1550
            obtain ⟨_, _, ⟨T1549, L1549, k1549, n1549⟩, -, X1549, ⟨Lc1549, hQ1549, l1549, y1549, z1549⟩, st1549⟩ := X1444.virtualBack hx (y := (⟨"com/example/typecheck/typecheck/model/QName", "equals", "(Ljava/lang/Object;)Z"⟩ : MethodName)) (z := (⟨"com/example/typecheck/typecheck/model/QName", "equals", "(Ljava/lang/Object;)Z"⟩ : MethodName)) ho1321 (mvT hZ1321 (own_w hw 73 rfl)) (mvT hZ1321 (own_w hw 74 rfl)) (notFace_of_selects (args := #[]) (mvT hZ1321 (own_w hw 76 rfl))) (mvT hZ1321 (own_w hw 76 rfl)) (mvT hZ1321 (own_w hw 75 rfl)) (by decide) (backOf (W := 0) (rm_qeqt l Z a0 hw [] b1377 x21 T1444.heap n0 O1473 f1550 f1551) hZ1321 (own_w hw 77 rfl) (own_w hw 28 rfl) (by decide) (by decide)) q1549a q1549c (g := (mkF m 211 #[.val (.int p1), .val (.int p2), .val (.int p3), .val (.int p4), .val (.int p5), .val (.int p6), .val (.ref x2), .val (.ref x21), .val (.ref x878), .val (.ref x1260), .val (.ref x1289), .val (.ref x1322), .val (.ref b1377), .val (.ref b1422), .val (.int (((p6.toUInt32 >>> ((2 : Int32) &&& 31).toUInt32).toInt32) &&& (3 : Int32))), .val (.ref x21)] [(.ref x21), (.ref b1377)])) rfl (by rw [hml]; rfl) (Steps.refl _) (argsL := [(.ref x21)]) (rest := []) (lenOf pd_11 rfl) rfl (by show 2 * 0 + _ ≤ _; exact Nat.le_of_eq rfl) (hb hby at_211) (fun _ _ => ⟨rfl, rfl, (by decide : 38 + 0 ≤ _), (by decide : 80 + 0 ≤ _)⟩)
            dsimp only [Pt.U, Pt.locs, Pt.cells, Pt.slots] at X1549 l1549 y1549 z1549 st1549 hQ1549
            subst l1549 y1549 z1549
            obtain ⟨rfl, N1552, k1553⟩ := hQ1549
            have N1554 := Fr.app N1471 N1552
            have S1555 : ∀ t, Steps p.tables e below (T1549.setTop (mkF m 222 #[.val (.int p1), .val (.int p2), .val (.int p3), .val (.int p4), .val (.int p5), .val (.int p6), .val (.ref x2), .val (.ref x21), .val (.ref x878), .val (.ref x1260), .val (.ref x1289), .val (.ref x1322), .val (.ref b1377), .val (.ref b1422), .val (.int (((p6.toUInt32 >>> ((2 : Int32) &&& 31).toUInt32).toInt32) &&& (3 : Int32))), .val (.ref x21)] [(.int (1 : Int32))])) t → Steps p.tables e below (s₁.setTop (mkF m 0 #[.val (.int p1), .val (.int p2), .val (.int p3), .val (.int p4), .val (.int p5), .val (.int p6), .unset, .unset, .unset, .unset, .unset, .unset, .unset, .unset, .unset, .unset] [])) t := by
              intro t kt
              refine S1541 t ?_
              refine XS.icmpYes X1444.here hx rfl (pc0 := 185) (pc' := 203) rfl (hb hby at_185) rfl (feq (c1542 : ¬ ((((p6.toUInt32 >>> ((2 : Int32) &&& 31).toUInt32).toInt32) &&& (3 : Int32)) = (2 : Int32)))).2 (by decide) (by decide) ?_
              refine XS.aload X1444.here hx rfl (hb hby at_203) rfl rfl ?_
              refine XS.astore X1444.here hx rfl (hb hby at_205) rfl rfl (l' := #[.val (.int p1), .val (.int p2), .val (.int p3), .val (.int p4), .val (.int p5), .val (.int p6), .val (.ref x2), .val (.ref x21), .val (.ref x878), .val (.ref x1260), .val (.ref x1289), .val (.ref x1322), .val (.ref b1377), .val (.ref b1422), .val (.int (((p6.toUInt32 >>> ((2 : Int32) &&& 31).toUInt32).toInt32) &&& (3 : Int32))), .val (.ref x21)]) rfl ?_
              refine XS.aload X1444.here hx rfl (hb hby at_207) rfl rfl ?_
              refine XS.aload X1444.here hx rfl (hb hby at_209) rfl rfl ?_
              show Steps p.tables e below (T1444.setTop (mkF m 211 #[.val (.int p1), .val (.int p2), .val (.int p3), .val (.int p4), .val (.int p5), .val (.int p6), .val (.ref x2), .val (.ref x21), .val (.ref x878), .val (.ref x1260), .val (.ref x1289), .val (.ref x1322), .val (.ref b1377), .val (.ref b1422), .val (.int (((p6.toUInt32 >>> ((2 : Int32) &&& 31).toUInt32).toInt32) &&& (3 : Int32))), .val (.ref x21)] [(.ref x21), (.ref b1377)])) _
              refine st1549.trans ?_
              refine XS.ifNo X1549.here hx rfl (hb hby at_214) rfl ((if0 _ _).trans (teq ((by decide) : (0 : Int32) = (0 : Int32))).2) ?_
              refine XS.iconst X1549.here hx rfl (hb hby at_217) ?_
              refine XS.goto X1549.here hx rfl (pc0 := 218) (pc' := 222) rfl (hb hby at_218) (by decide) (by decide) ?_
              exact kt
            obtain ⟨fs, hr, hrun, hended, hRW⟩ := X1549.leaveW hS1321 (by rw [k1553]; exact hk1472) (v := some (.int (1 : Int32))) (fun h => by rw [Bd.returns] at h; cases h)
            refine ⟨_, _, pre0 _ (S1555 _ ?_), hrun, hended, _, _, rfl, ?_, hRW.1, hRW.2.1, hRW.2.2.1, hRW.2.2.2.mono (by decide) (by decide)⟩
            · exact retN X1549 hx (t := .boolean) Bd.returns (by simp) (hb hby at_222) hr
            · show Q_rm_law Z p1 p2 p3 p4 p5 p6 zc fm h0 n0 _ T1549.heap _
              rw [k1553]
              exact ⟨rfl, N1554⟩
set_option maxRecDepth 65536 in
set_option maxHeartbeats 40000000 in
theorem comes_1 {Post : Tables → Env → Array Value → State → Outcome → State → Prop} (hpost : ∀ tb e args s v u, (limb_1_1.after args s (.returned v) u = true ∧ limb_1_2.after args s (.returned v) u = true ∧ True) → ReturnedEndW s (.returned v) u (Jvm.fieldLocs frame_1_writes args s ++ Jvm.arrayLocs frame_1_arrays args s ++ Jvm.staticLocs frame_1_statics s) 56 1216 → Post tb e args s (.returned v) u) :
    ArmFor flags0 classFile x code maxLocals ret World_1 tables_1 room_1 Calls_1 rest_1 Pre_1 Post := by
  intro l hfl _ _ p e ha hc hk s m args below hf hA hF happ hP
  obtain ⟨hcalls, hrest, hpre⟩ := hP
  obtain ⟨-, -, -, hnamed, -, -, -, hat⟩ := (Spec.applies_iff hf).mp happ
  obtain ⟨hg, hn⟩ := and_e (Cond.before_iff.mp (show (Jvm.Cond.and given_1 narrow_1).before args s = true from hpre))
  obtain ⟨g0, r0⟩ := and_e hg
  obtain ⟨g1, r1⟩ := and_e r0
  obtain ⟨g2, r2⟩ := and_e r1
  obtain ⟨g3, r3⟩ := and_e r2
  obtain ⟨g4, r4⟩ := and_e r3
  obtain ⟨g5, r5⟩ := and_e r4
  obtain ⟨w0, w1, w2, w3, w4, w5, rfl⟩ : ∃ w0 w1 w2 w3 w4 w5 : Value, args = #[w0, w1, w2, w3, w4, w5] := by
    have hs : args.size = 6 := by simpa [Cond.value, given_1] using g0
    obtain ⟨L⟩ := args
    match L, hs with
    | [w0, w1, w2, w3, w4, w5], _ => exact ⟨w0, w1, w2, w3, w4, w5, rfl⟩
  have hw := fun d (hd : d ∈ tables_1) => atoms_spec (ws := Jvm.Cond.code x code maxLocals ret :: tables_1) hat d (List.mem_cons_of_mem _ hd)
  have hfit : Fit s := fun {y c} hc i hi => by
    obtain ⟨ha, rfl⟩ := Array.getElem?_eq_some_iff.mp hc
    have q := List.all_eq_true.mp ((Array.all_eq_true_iff_forall_mem.mp hF) _ (Array.getElem_mem ha)) i (List.mem_range.mpr hi)
    simpa [Array.getElem?_eq_getElem hi] using q
  obtain ⟨i0, e0⟩ := is_v g1
  obtain rfl : w0 = (.int i0) := Option.some.inj e0
  obtain ⟨i1, e1⟩ := is_v g2
  obtain rfl : w1 = (.int i1) := Option.some.inj e1
  obtain ⟨i2, e2⟩ := is_v g3
  obtain rfl : w2 = (.int i2) := Option.some.inj e2
  obtain ⟨i3, e3⟩ := is_v g4
  obtain rfl : w3 = (.int i3) := Option.some.inj e3
  obtain ⟨i4, e4⟩ := is_v g5
  obtain rfl : w4 = (.int i4) := Option.some.inj e4
  obtain ⟨i5, e5⟩ := is_v r5
  obtain rfl : w5 = (.int i5) := Option.some.inj e5
  obtain ⟨hsets, hown0⟩ := atoms_of _ (rest_1_c_eq ▸ (show rest_1_c.before _ s = true from hrest))
  obtain ⟨zc, ezc⟩ := is_v (Cond.before_iff.mp (hsets _ (List.mem_of_getElem? (i := 1) rfl)))
  have S_C : Sta s s.heap "java/lang/String" "COMPACT_STRINGS" "Z" (.int zc) := Sta.start ezc (Or.inl (hsets _ (List.mem_of_getElem? (i := 0) rfl)))
  have hcw : Jvm.Lit.compactW.before _ s = true := hsets _ (List.mem_of_getElem? (i := 2) rfl)
  have n3 := not_v (Cond.before_iff.mp (hsets _ (List.mem_of_getElem? (i := 2) rfl)))
  have hzc : ¬ (zc = (0 : Int32)) := gotF (Cond.eq_ints ezc (Term.int_eval (0))) n3
  obtain ⟨fm, efm, hfm⟩ := isR_v (Cond.before_iff.mp (hsets _ (List.mem_of_getElem? (i := 8) rfl)))
  have S_F : Sta s s.heap "jdk/internal/util/Preconditions" "SIOOBE_FORMATTER" "Ljava/util/function/BiFunction;" fm := Sta.start efm (Or.inl (hsets _ (List.mem_of_getElem? (i := 7) rfl)))
  have hch : CHv s own_EL s.vm s.heap := CHv.start (own_EWof hw) (fun p hp => hcalls.1 p (own_sub p hp)) hcw (hw _ (own_atoms _ (by simp [Bundle.stringAtoms]))) (hw _ (own_atoms _ (by simp [Bundle.stringAtoms, Bundle.sN])))
  obtain ⟨n, o, h1, h2, h3, _, L, rfl, ⟨rfl, N⟩, hq⟩ := rm_law l s _ hw tables_1 i0 i1 i2 i3 i4 i5 zc fm s.heap s.heap.size (Old.start s) S_C hzc S_F hfm p e ha hc hk s m _ below hf ((Spec.applies_iff_loose hf).mp happ).1 ⟨rfl, State.Warmed39.refl s, rfl, hch, all0⟩ trivial
  refine ⟨n, _, h1, h2, h3, hpost _ _ _ _ _ _ ⟨Cond.after_iff.mpr rfl, Cond.after_iff.mpr (eq_i res_at (Term.int_eval (1)) rfl), trivial⟩ ⟨hq.1, hq.2.1, hq.2.2.1, (hq.2.2.2.sift fun y hy => Or.inr (N y hy)).mono (by decide) (by decide)⟩⟩
theorem main_1_1 : Claimed_1_1 := comes_1 fun _ _ _ _ _ _ h hF => ⟨h.1, hF⟩
theorem main_1_2 : Claimed_1_2 := comes_1 fun _ _ _ _ _ _ h hF => ⟨h.2.1, hF⟩
end Jvm.Pilot.@@N@@
namespace Jvm.Pilot.@@N@@
open Jvm Jvm.ClassFile Sem Op Lib Jvm.Free Jvm.Stand Jvm.Pilot.@@N@@.Jvm.D
/-! MADE BY PROGRAM (witnessworld.py) out of the Statement's table words and the real class files: 20 classes; the members and pool entries that the words name. The judged class is class 1, her method 3. -/
namespace start1
open Jvm.ClassFile
def u (s : String) : CpInfo := .utf8 (stringToUtf16 s)
/-- a pool by its gaps: so many unusable entries, then the entry; so many at the end -/
def gap : Nat → List CpInfo → List CpInfo
  | 0, r => r
  | n + 1, r => .unusable :: gap n r
def poolList (es : List (Nat × CpInfo)) (last : Nat) : List CpInfo := es.foldr (fun e r => gap e.1 (e.2 :: r)) (gap last [])
def pool (es : List (Nat × CpInfo)) (last : Nat) : Array CpInfo := ⟨poolList es last⟩
def fileOf (pool : Array CpInfo) (this : Nat) (attrs : Array Attribute := #[]) (ms : Array MethodInfo := #[]) (fl : Nat := 33) (sup : Nat := 0) (ifs : Array Nat := #[]) (fds : Array FieldInfo := #[]) : ClassFile where
  minorVersion := 0
  majorVersion := 65
  constantPool := pool
  accessFlags := fl
  thisClass := this
  superClass := sup
  interfaces := ifs
  fields := fds
  methods := ms
  attributes := attrs
def plain (name : String) (sup : Option ClassId) : Class where
  name := name
  kind := .ordinary
  loader := none
  accessFlags := 33
  super := sup
  interfaces := #[]
  cf := none
  fields := #[]
  methods := #[]
  instanceTypes := #[]
  staticTypes := #[]
  resolved := #[]
  callSites := []
  init := .initialized
  statics := none
  mirror := none

def pool0 : Array CpInfo := pool [(5, u "<init>"), (0, u "()V"), (1, .class_ 10), (1, u "java/lang/Object")] 113

def k0c0 : Code := { maxStack := 0, maxLocals := 1, code := object_method_1_code, exceptionTable := #[], attributes := #[] }
def k0m0 : Method := { name := "<init>", desc := "()V", sig := { parameters := [], returnType := none }, accessFlags := 1, code := some k0c0 }
/-- java/lang/Object -/
def k0 : Class := { plain "java/lang/Object" none with
  accessFlags := 33
  interfaces := #[]
  cf := some (fileOf pool0 8 #[] #[{ accessFlags := 1, nameIndex := 5, descriptorIndex := 6, attributes := #[] }] 33 0 #[] #[])
  fields := #[]
  methods := #[k0m0]
  instanceTypes := #[]
  staticTypes := #[]
  resolved := Array.replicate 124 none
  statics := none }

def pool1 : Array CpInfo := pool [(2, .class_ 4), (1, u "java/lang/Object"), (0, u "<init>"), (0, u "()V"), (0, .class_ 8), (0, u "java/lang/String"), (0, .methodref 7 10), (0, .nameAndType 5 11), (0, u "([C)V"), (0, .methodref 7 13), (0, .nameAndType 14 15), (0, u "length"), (0, u "()I"), (0, .methodref 7 17), (0, .nameAndType 18 19), (0, u "charAt"), (0, u "(I)C"), (0, .methodref 21 22), (0, .class_ 23), (0, .nameAndType 24 25), (0, u "com/example/typecheck/typecheck/model/QNameEqualsPinLaw"), (0, u "str"), (0, u "(I)Ljava/lang/String;"), (0, .class_ 27), (0, u "com/example/typecheck/typecheck/model/QName"), (0, .methodref 26 29), (0, .nameAndType 5 30), (0, u "(Ljava/lang/String;Ljava/lang/String;Ljava/lang/String;)V"), (0, .methodref 21 32), (0, .nameAndType 33 34), (0, u "same"), (0, u "(Ljava/lang/String;Ljava/lang/String;)Z"), (0, .methodref 26 36), (0, .nameAndType 37 38), (0, u "equals"), (0, u "(Ljava/lang/Object;)Z"), (5, u "law"), (0, u "(IIIIII)Z")] 2

def k1m0 : Method := { name := "<init>", desc := "()V", sig := { parameters := [], returnType := none }, accessFlags := 1, code := none }
def k1c1 : Code := { maxStack := 4, maxLocals := 3, code := method_2_code, exceptionTable := #[], attributes := #[] }
def k1m1 : Method := { name := "str", desc := "(I)Ljava/lang/String;", sig := { parameters := [.int], returnType := some (.object "java/lang/String") }, accessFlags := 10, code := some k1c1 }
def k1c2 : Code := { maxStack := 3, maxLocals := 2, code := method_3_code, exceptionTable := #[], attributes := #[] }
def k1m2 : Method := { name := "same", desc := "(Ljava/lang/String;Ljava/lang/String;)Z", sig := { parameters := [(.object "java/lang/String"), (.object "java/lang/String")], returnType := some .boolean }, accessFlags := 10, code := some k1c2 }
def k1c3 : Code := { maxStack := 5, maxLocals := 16, code := code, exceptionTable := #[], attributes := #[] }
def k1m3 : Method := { name := "law", desc := "(IIIIII)Z", sig := { parameters := [.int, .int, .int, .int, .int, .int], returnType := some .boolean }, accessFlags := 9, code := some k1c3 }
/-- com/example/typecheck/typecheck/model/QNameEqualsPinLaw -/
def k1 : Class := { plain "com/example/typecheck/typecheck/model/QNameEqualsPinLaw" (some 0) with
  accessFlags := 49
  interfaces := #[]
  cf := some (fileOf pool1 21 #[] #[{ accessFlags := 1, nameIndex := 5, descriptorIndex := 6, attributes := #[] }, { accessFlags := 10, nameIndex := 24, descriptorIndex := 25, attributes := #[] }, { accessFlags := 10, nameIndex := 33, descriptorIndex := 34, attributes := #[] }, { accessFlags := 9, nameIndex := 44, descriptorIndex := 45, attributes := #[] }] 49 2 #[] #[])
  fields := #[]
  methods := #[k1m0, k1m1, k1m2, k1m3]
  instanceTypes := #[]
  staticTypes := #[]
  resolved := Array.replicate 48 none
  statics := none }

def pool2 : Array CpInfo := pool [(1, .class_ 2), (0, u "java/io/Serializable"), (0, .class_ 4), (0, u "java/lang/Object")] 2

/-- java/io/Serializable -/
def k2 : Class := { plain "java/io/Serializable" (some 0) with
  accessFlags := 1537
  interfaces := #[]
  cf := some (fileOf pool2 1 #[] #[] 1537 3 #[] #[])
  fields := #[]
  methods := #[]
  instanceTypes := #[]
  staticTypes := #[]
  resolved := Array.replicate 7 none
  statics := none }

def pool3 : Array CpInfo := pool [(1, .class_ 2), (0, u "java/lang/Comparable"), (0, .class_ 4), (0, u "java/lang/Object")] 7

/-- java/lang/Comparable -/
def k3 : Class := { plain "java/lang/Comparable" (some 0) with
  accessFlags := 1537
  interfaces := #[]
  cf := some (fileOf pool3 1 #[] #[] 1537 3 #[] #[])
  fields := #[]
  methods := #[]
  instanceTypes := #[]
  staticTypes := #[]
  resolved := Array.replicate 12 none
  statics := none }

def pool4 : Array CpInfo := pool [(2, .class_ 4), (1, u "java/lang/CharSequence"), (42, .class_ 48), (0, u "java/lang/CharSequence$1CodePointIterator"), (10, .class_ 60), (0, u "java/lang/CharSequence$1CharIterator"), (5, .class_ 67), (0, u "java/lang/Object")] 63

/-- java/lang/CharSequence -/
def k4 : Class := { plain "java/lang/CharSequence" (some 0) with
  accessFlags := 1537
  interfaces := #[]
  cf := some (fileOf pool4 2 #[.nestMembers #[47, 59]] #[] 1537 66 #[] #[])
  fields := #[]
  methods := #[]
  instanceTypes := #[]
  staticTypes := #[]
  resolved := Array.replicate 131 none
  statics := none }

def pool5 : Array CpInfo := pool [(1, .class_ 2), (0, u "java/lang/constant/Constable"), (0, .class_ 4), (0, u "java/lang/Object")] 6

/-- java/lang/constant/Constable -/
def k5 : Class := { plain "java/lang/constant/Constable" (some 0) with
  accessFlags := 1537
  interfaces := #[]
  cf := some (fileOf pool5 1 #[] #[] 1537 3 #[] #[])
  fields := #[]
  methods := #[]
  instanceTypes := #[]
  staticTypes := #[]
  resolved := Array.replicate 11 none
  statics := none }

def pool6 : Array CpInfo := pool [(1, .class_ 2), (0, u "java/lang/constant/ConstantDesc"), (0, .class_ 4), (0, u "java/lang/Object")] 32

/-- java/lang/constant/ConstantDesc -/
def k6 : Class := { plain "java/lang/constant/ConstantDesc" (some 0) with
  accessFlags := 1537
  interfaces := #[]
  cf := some (fileOf pool6 1 #[] #[] 1537 3 #[] #[])
  fields := #[]
  methods := #[]
  instanceTypes := #[]
  staticTypes := #[]
  resolved := Array.replicate 37 none
  statics := none }

def pool7 : Array CpInfo := pool [(1, .methodref 2 3), (0, .class_ 4), (0, .nameAndType 5 6), (0, u "java/lang/Object"), (0, u "<init>"), (0, u "()V"), (0, .string 8), (0, u ""), (0, .fieldref 10 11), (0, .class_ 12), (0, .nameAndType 13 14), (0, u "java/lang/String"), (0, u "value"), (0, u "[B"), (0, .fieldref 10 16), (0, .nameAndType 17 18), (0, u "coder"), (0, u "B"), (0, .fieldref 10 20), (0, .nameAndType 21 22), (0, u "hash"), (0, u "I"), (0, .fieldref 10 24), (0, .nameAndType 25 26), (0, u "hashIsZero"), (0, u "Z"), (0, .methodref 10 28), (0, .nameAndType 5 29), (0, u "([CIILjava/lang/Void;)V"), (8, .fieldref 10 39), (0, .nameAndType 40 26), (0, u "COMPACT_STRINGS"), (1, .class_ 44), (1, u "java/lang/StringUTF16"), (0, u "compress"), (1, .methodref 42 48), (0, .nameAndType 49 50), (0, u "coderFromArrayLen"), (0, u "([BI)B"), (56, .class_ 109), (1, u "java/lang/StringLatin1"), (32, u "()Z"), (34, .methodref 42 178), (0, .nameAndType 45 179), (0, u "([CII)[B"), (154, u "()I"), (0, .methodref 10 336), (0, .nameAndType 17 337), (0, u "()B"), (25, u "([BI)C"), (27, u "(II)V"), (35, u "(I)C"), (64, .methodref 10 493), (0, .nameAndType 494 142), (0, u "isLatin1"), (0, .methodref 107 496), (0, .nameAndType 497 363), (0, u "charAt"), (3, u "checkIndex"), (5, u "length"), (33, .methodref 107 542), (0, .nameAndType 543 544), (0, u "equals"), (0, u "([B[B)Z"), (28, u "(Ljava/lang/Object;)Z"), (1, .class_ 576), (0, u "java/lang/CharSequence"), (22, u "CASE_INSENSITIVE_ORDER"), (0, u "Ljava/util/Comparator;"), (27, .methodref 107 629), (0, .nameAndType 630 631), (0, u "hashCode"), (0, u "([B)I"), (378, u "([C)V"), (42, .fieldref 1054 1055), (0, .class_ 1056), (0, .nameAndType 1057 1058), (0, u "jdk/internal/util/Preconditions"), (0, u "SIOOBE_FORMATTER"), (0, u "Ljava/util/function/BiFunction;"), (0, .methodref 1054 1060), (0, .nameAndType 501 1061), (0, u "(IILjava/util/function/BiFunction;)I"), (39, u "serialPersistentFields"), (0, u "[Ljava/io/ObjectStreamField;"), (0, .class_ 1104), (0, u "java/lang/String$CaseInsensitiveComparator"), (1, .class_ 1107), (0, u "java/io/Serializable"), (0, .class_ 1109), (0, u "java/lang/Comparable"), (0, .class_ 1111), (0, u "java/lang/constant/Constable"), (0, .class_ 1113), (0, u "java/lang/constant/ConstantDesc"), (2, u "serialVersionUID"), (0, u "J"), (3, u "REPL"), (0, u "C"), (2, u "LATIN1"), (1, u "UTF16")] 323

def k7m0 : Method := { name := "<init>", desc := "()V", sig := { parameters := [], returnType := none }, accessFlags := 1, code := none }
def k7c1 : Code := { maxStack := 5, maxLocals := 2, code := jdk_42_method_3_code, exceptionTable := #[], attributes := #[] }
def k7m1 : Method := { name := "<init>", desc := "([C)V", sig := { parameters := [(.array .char)], returnType := none }, accessFlags := 1, code := some k7c1 }
def k7c2 : Code := { maxStack := 2, maxLocals := 1, code := jdk_42_method_54_code, exceptionTable := #[], attributes := #[] }
def k7m2 : Method := { name := "length", desc := "()I", sig := { parameters := [], returnType := some .int }, accessFlags := 1, code := some k7c2 }
def k7c3 : Code := { maxStack := 2, maxLocals := 2, code := jdk_42_method_56_code, exceptionTable := #[], attributes := #[] }
def k7m3 : Method := { name := "charAt", desc := "(I)C", sig := { parameters := [.int], returnType := some .char }, accessFlags := 1, code := some k7c3 }
def k7c4 : Code := { maxStack := 2, maxLocals := 3, code := jdk_42_method_66_code, exceptionTable := #[], attributes := #[] }
def k7m4 : Method := { name := "equals", desc := "(Ljava/lang/Object;)Z", sig := { parameters := [(.object "java/lang/Object")], returnType := some .boolean }, accessFlags := 1, code := some k7c4 }
def k7c5 : Code := { maxStack := 2, maxLocals := 2, code := jdk_42_method_78_code, exceptionTable := #[], attributes := #[] }
def k7m5 : Method := { name := "hashCode", desc := "()I", sig := { parameters := [], returnType := some .int }, accessFlags := 1, code := some k7c5 }
def k7c6 : Code := { maxStack := 4, maxLocals := 6, code := jdk_42_method_149_code, exceptionTable := #[], attributes := #[] }
def k7m6 : Method := { name := "<init>", desc := "([CIILjava/lang/Void;)V", sig := { parameters := [(.array .char), .int, .int, (.object "java/lang/Void")], returnType := none }, accessFlags := 2, code := some k7c6 }
def k7c7 : Code := { maxStack := 1, maxLocals := 1, code := jdk_42_method_152_code, exceptionTable := #[], attributes := #[] }
def k7m7 : Method := { name := "coder", desc := "()B", sig := { parameters := [], returnType := some .byte }, accessFlags := 0, code := some k7c7 }
def k7c8 : Code := { maxStack := 1, maxLocals := 1, code := jdk_42_method_154_code, exceptionTable := #[], attributes := #[] }
def k7m8 : Method := { name := "isLatin1", desc := "()Z", sig := { parameters := [], returnType := some .boolean }, accessFlags := 0, code := some k7c8 }
def k7c9 : Code := { maxStack := 3, maxLocals := 2, code := jdk_42_method_155_code, exceptionTable := #[], attributes := #[] }
def k7m9 : Method := { name := "checkIndex", desc := "(II)V", sig := { parameters := [.int, .int], returnType := none }, accessFlags := 8, code := some k7c9 }
/-- java/lang/String -/
def k7 : Class := { plain "java/lang/String" (some 0) with
  accessFlags := 49
  interfaces := #[2, 3, 4, 5, 6]
  cf := some (fileOf pool7 10 #[.nestMembers #[1103]] #[{ accessFlags := 1, nameIndex := 5, descriptorIndex := 6, attributes := #[] }, { accessFlags := 1, nameIndex := 5, descriptorIndex := 1010, attributes := #[] }, { accessFlags := 1, nameIndex := 507, descriptorIndex := 334, attributes := #[] }, { accessFlags := 1, nameIndex := 497, descriptorIndex := 427, attributes := #[] }, { accessFlags := 1, nameIndex := 543, descriptorIndex := 573, attributes := #[] }, { accessFlags := 1, nameIndex := 630, descriptorIndex := 334, attributes := #[] }, { accessFlags := 2, nameIndex := 5, descriptorIndex := 29, attributes := #[] }, { accessFlags := 0, nameIndex := 17, descriptorIndex := 337, attributes := #[] }, { accessFlags := 0, nameIndex := 494, descriptorIndex := 142, attributes := #[] }, { accessFlags := 8, nameIndex := 501, descriptorIndex := 391, attributes := #[] }] 49 2 #[1106, 1108, 575, 1110, 1112] #[{ accessFlags := 18, nameIndex := 13, descriptorIndex := 14, attributes := #[] }, { accessFlags := 18, nameIndex := 17, descriptorIndex := 18, attributes := #[] }, { accessFlags := 2, nameIndex := 21, descriptorIndex := 22, attributes := #[] }, { accessFlags := 2, nameIndex := 25, descriptorIndex := 26, attributes := #[] }, { accessFlags := 26, nameIndex := 1116, descriptorIndex := 1117, attributes := #[] }, { accessFlags := 24, nameIndex := 40, descriptorIndex := 26, attributes := #[] }, { accessFlags := 26, nameIndex := 1101, descriptorIndex := 1102, attributes := #[] }, { accessFlags := 26, nameIndex := 1121, descriptorIndex := 1122, attributes := #[] }, { accessFlags := 25, nameIndex := 599, descriptorIndex := 600, attributes := #[] }, { accessFlags := 24, nameIndex := 1125, descriptorIndex := 18, attributes := #[] }, { accessFlags := 24, nameIndex := 1127, descriptorIndex := 18, attributes := #[] }])
  fields := #[{ name := "value", type := (.array .byte), accessFlags := 18, slot := 0, constantValue := 0 }, { name := "coder", type := .byte, accessFlags := 18, slot := 1, constantValue := 0 }, { name := "hash", type := .int, accessFlags := 2, slot := 2, constantValue := 0 }, { name := "hashIsZero", type := .boolean, accessFlags := 2, slot := 3, constantValue := 0 }, { name := "serialVersionUID", type := .long, accessFlags := 26, slot := 0, constantValue := 0 }, { name := "COMPACT_STRINGS", type := .boolean, accessFlags := 24, slot := 1, constantValue := 0 }, { name := "serialPersistentFields", type := (.array (.object "java/io/ObjectStreamField")), accessFlags := 26, slot := 2, constantValue := 0 }, { name := "REPL", type := .char, accessFlags := 26, slot := 3, constantValue := 0 }, { name := "CASE_INSENSITIVE_ORDER", type := (.object "java/util/Comparator"), accessFlags := 25, slot := 4, constantValue := 0 }, { name := "LATIN1", type := .byte, accessFlags := 24, slot := 5, constantValue := 0 }, { name := "UTF16", type := .byte, accessFlags := 24, slot := 6, constantValue := 0 }]
  methods := #[k7m0, k7m1, k7m2, k7m3, k7m4, k7m5, k7m6, k7m7, k7m8, k7m9]
  instanceTypes := #[(.array .byte), .byte, .int, .boolean]
  staticTypes := #[.long, .boolean, (.array (.object "java/io/ObjectStreamField")), .char, (.object "java/util/Comparator"), .byte, .byte]
  resolved := Array.replicate 1451 none
  statics := some 0 }

def pool8 : Array CpInfo := pool [(1, .methodref 2 3), (0, .class_ 4), (0, .nameAndType 5 6), (0, u "java/lang/Object"), (0, u "<init>"), (0, u "()V"), (0, .fieldref 8 9), (0, .class_ 10), (0, .nameAndType 11 12), (0, u "com/example/typecheck/typecheck/model/QName"), (0, u "prefix"), (0, u "Ljava/lang/String;"), (0, .fieldref 8 14), (0, .nameAndType 15 12), (0, u "namespace"), (0, .fieldref 8 17), (0, .nameAndType 18 12), (0, u "localName"), (0, .methodref 20 21), (0, .class_ 22), (0, .nameAndType 23 24), (0, u "java/lang/String"), (0, u "hashCode"), (0, u "()I"), (0, .fieldref 8 26), (0, .nameAndType 27 28), (0, u "hash"), (0, u "I"), (6, u "(Ljava/lang/String;Ljava/lang/String;Ljava/lang/String;)V"), (16, .methodref 20 53), (0, .nameAndType 54 55), (0, u "equals"), (0, u "(Ljava/lang/Object;)Z"), (15, u "FS_DOT"), (0, u "Lcom/example/typecheck/typecheck/model/QName;"), (4, u "FS_POSITION"), (4, u "FS_LAST"), (6, u "FN_BOOLEAN"), (4, u "FN_DATA"), (4, u "FS_CONVERT_OPERAND"), (4, u "FS_CONVERT_SIMPLE_OPERAND"), (0, u "FN_NAMESPACE"), (1, u "XS_NAMESPACE"), (0, u "XSI_NAMESPACE"), (0, u "FS_NAMESPACE"), (0, u "OP_NAMESPACE")] 23

def k8c0 : Code := { maxStack := 3, maxLocals := 4, code := prog_176_method_1_code, exceptionTable := #[], attributes := #[] }
def k8m0 : Method := { name := "<init>", desc := "(Ljava/lang/String;Ljava/lang/String;Ljava/lang/String;)V", sig := { parameters := [(.object "java/lang/String"), (.object "java/lang/String"), (.object "java/lang/String")], returnType := none }, accessFlags := 1, code := some k8c0 }
def k8c1 : Code := { maxStack := 2, maxLocals := 3, code := prog_176_method_10_code, exceptionTable := #[], attributes := #[] }
def k8m1 : Method := { name := "equals", desc := "(Ljava/lang/Object;)Z", sig := { parameters := [(.object "java/lang/Object")], returnType := some .boolean }, accessFlags := 1, code := some k8c1 }
/-- com/example/typecheck/typecheck/model/QName -/
def k8 : Class := { plain "com/example/typecheck/typecheck/model/QName" (some 0) with
  accessFlags := 49
  interfaces := #[]
  cf := some (fileOf pool8 8 #[] #[{ accessFlags := 1, nameIndex := 5, descriptorIndex := 35, attributes := #[] }, { accessFlags := 1, nameIndex := 54, descriptorIndex := 55, attributes := #[] }] 49 2 #[] #[{ accessFlags := 25, nameIndex := 105, descriptorIndex := 12, attributes := #[] }, { accessFlags := 25, nameIndex := 107, descriptorIndex := 12, attributes := #[] }, { accessFlags := 25, nameIndex := 108, descriptorIndex := 12, attributes := #[] }, { accessFlags := 25, nameIndex := 109, descriptorIndex := 12, attributes := #[] }, { accessFlags := 25, nameIndex := 71, descriptorIndex := 72, attributes := #[] }, { accessFlags := 25, nameIndex := 77, descriptorIndex := 72, attributes := #[] }, { accessFlags := 25, nameIndex := 82, descriptorIndex := 72, attributes := #[] }, { accessFlags := 25, nameIndex := 110, descriptorIndex := 12, attributes := #[] }, { accessFlags := 25, nameIndex := 89, descriptorIndex := 72, attributes := #[] }, { accessFlags := 25, nameIndex := 94, descriptorIndex := 72, attributes := #[] }, { accessFlags := 25, nameIndex := 99, descriptorIndex := 72, attributes := #[] }, { accessFlags := 25, nameIndex := 104, descriptorIndex := 72, attributes := #[] }, { accessFlags := 18, nameIndex := 11, descriptorIndex := 12, attributes := #[] }, { accessFlags := 18, nameIndex := 15, descriptorIndex := 12, attributes := #[] }, { accessFlags := 18, nameIndex := 18, descriptorIndex := 12, attributes := #[] }, { accessFlags := 18, nameIndex := 27, descriptorIndex := 28, attributes := #[] }])
  fields := #[{ name := "FN_NAMESPACE", type := (.object "java/lang/String"), accessFlags := 25, slot := 0, constantValue := 0 }, { name := "XS_NAMESPACE", type := (.object "java/lang/String"), accessFlags := 25, slot := 1, constantValue := 0 }, { name := "XSI_NAMESPACE", type := (.object "java/lang/String"), accessFlags := 25, slot := 2, constantValue := 0 }, { name := "FS_NAMESPACE", type := (.object "java/lang/String"), accessFlags := 25, slot := 3, constantValue := 0 }, { name := "FS_DOT", type := (.object "com/example/typecheck/typecheck/model/QName"), accessFlags := 25, slot := 4, constantValue := 0 }, { name := "FS_POSITION", type := (.object "com/example/typecheck/typecheck/model/QName"), accessFlags := 25, slot := 5, constantValue := 0 }, { name := "FS_LAST", type := (.object "com/example/typecheck/typecheck/model/QName"), accessFlags := 25, slot := 6, constantValue := 0 }, { name := "OP_NAMESPACE", type := (.object "java/lang/String"), accessFlags := 25, slot := 7, constantValue := 0 }, { name := "FN_BOOLEAN", type := (.object "com/example/typecheck/typecheck/model/QName"), accessFlags := 25, slot := 8, constantValue := 0 }, { name := "FN_DATA", type := (.object "com/example/typecheck/typecheck/model/QName"), accessFlags := 25, slot := 9, constantValue := 0 }, { name := "FS_CONVERT_OPERAND", type := (.object "com/example/typecheck/typecheck/model/QName"), accessFlags := 25, slot := 10, constantValue := 0 }, { name := "FS_CONVERT_SIMPLE_OPERAND", type := (.object "com/example/typecheck/typecheck/model/QName"), accessFlags := 25, slot := 11, constantValue := 0 }, { name := "prefix", type := (.object "java/lang/String"), accessFlags := 18, slot := 0, constantValue := 0 }, { name := "namespace", type := (.object "java/lang/String"), accessFlags := 18, slot := 1, constantValue := 0 }, { name := "localName", type := (.object "java/lang/String"), accessFlags := 18, slot := 2, constantValue := 0 }, { name := "hash", type := .int, accessFlags := 18, slot := 3, constantValue := 0 }]
  methods := #[k8m0, k8m1]
  instanceTypes := #[(.object "java/lang/String"), (.object "java/lang/String"), (.object "java/lang/String"), .int]
  staticTypes := #[(.object "java/lang/String"), (.object "java/lang/String"), (.object "java/lang/String"), (.object "java/lang/String"), (.object "com/example/typecheck/typecheck/model/QName"), (.object "com/example/typecheck/typecheck/model/QName"), (.object "com/example/typecheck/typecheck/model/QName"), (.object "java/lang/String"), (.object "com/example/typecheck/typecheck/model/QName"), (.object "com/example/typecheck/typecheck/model/QName"), (.object "com/example/typecheck/typecheck/model/QName"), (.object "com/example/typecheck/typecheck/model/QName")]
  resolved := Array.replicate 134 none
  statics := none }

def pool9 : Array CpInfo := pool [(1, .class_ 2), (0, u "java/lang/String"), (1, .class_ 6), (1, u "java/lang/Object"), (0, u "<init>"), (0, u "()V"), (0, .methodref 1 10), (0, .nameAndType 11 12), (0, u "checkIndex"), (0, u "(II)V"), (1, .class_ 16), (1, u "java/lang/StringLatin1"), (28, .class_ 47), (1, u "jdk/internal/util/ArraysSupport"), (5, u "([BI)C"), (3, u "([B)I"), (26, .methodref 45 85), (0, .nameAndType 86 87), (0, u "vectorizedHashCode"), (0, u "(Ljava/lang/Object;IIII)I"), (33, u "$assertionsDisabled"), (0, u "Z"), (98, .class_ 223), (1, u "java/lang/StringLatin1$LinesSpliterator"), (28, u "charAt"), (28, u "equals"), (0, u "([B[B)Z"), (15, u "hashCode"), (91, .class_ 391), (0, u "java/lang/StringLatin1$CharsSpliterator")] 3

def k9m0 : Method := { name := "<init>", desc := "()V", sig := { parameters := [], returnType := none }, accessFlags := 0, code := none }
def k9c1 : Code := { maxStack := 2, maxLocals := 2, code := jdk_43_method_2_code, exceptionTable := #[], attributes := #[] }
def k9m1 : Method := { name := "charAt", desc := "([BI)C", sig := { parameters := [(.array .byte), .int], returnType := some .char }, accessFlags := 9, code := some k9c1 }
def k9c2 : Code := { maxStack := 3, maxLocals := 3, code := jdk_43_method_13_code, exceptionTable := #[], attributes := #[] }
def k9m2 : Method := { name := "equals", desc := "([B[B)Z", sig := { parameters := [(.array .byte), (.array .byte)], returnType := some .boolean }, accessFlags := 9, code := some k9c2 }
def k9c3 : Code := { maxStack := 5, maxLocals := 1, code := jdk_43_method_21_code, exceptionTable := #[], attributes := #[] }
def k9m3 : Method := { name := "hashCode", desc := "([B)I", sig := { parameters := [(.array .byte)], returnType := some .int }, accessFlags := 9, code := some k9c3 }
/-- java/lang/StringLatin1 -/
def k9 : Class := { plain "java/lang/StringLatin1" (some 0) with
  accessFlags := 48
  interfaces := #[]
  cf := some (fileOf pool9 14 #[.nestMembers #[390, 221]] #[{ accessFlags := 0, nameIndex := 7, descriptorIndex := 8, attributes := #[] }, { accessFlags := 9, nameIndex := 252, descriptorIndex := 53, attributes := #[] }, { accessFlags := 9, nameIndex := 281, descriptorIndex := 282, attributes := #[] }, { accessFlags := 9, nameIndex := 298, descriptorIndex := 57, attributes := #[] }] 48 4 #[] #[{ accessFlags := 4120, nameIndex := 121, descriptorIndex := 122, attributes := #[] }])
  fields := #[{ name := "$assertionsDisabled", type := .boolean, accessFlags := 4120, slot := 0, constantValue := 0 }]
  methods := #[k9m0, k9m1, k9m2, k9m3]
  instanceTypes := #[]
  staticTypes := #[.boolean]
  resolved := Array.replicate 395 none
  statics := none }

def pool10 : Array CpInfo := pool [(6, .class_ 8), (1, u "java/lang/Object"), (0, u "<init>"), (0, u "()V"), (1, .class_ 14), (1, u "java/lang/StringUTF16"), (31, u "$assertionsDisabled"), (0, u "Z"), (13, u "HI_BYTE_SHIFT"), (0, u "I"), (2, u "LO_BYTE_SHIFT"), (49, .methodref 12 116), (0, .nameAndType 117 118), (0, u "compress"), (0, u "([CI[BII)I"), (3, u "([CII)[B"), (138, u "coderFromArrayLen"), (0, u "([BI)B"), (106, .class_ 371), (1, u "java/lang/StringUTF16$LinesSpliterator"), (58, u "MAX_LENGTH"), (196, .class_ 628), (0, u "java/lang/StringUTF16$CodePointsSpliterator"), (0, .class_ 630), (0, u "java/lang/StringUTF16$CharsSpliterator")] 4

def k10m0 : Method := { name := "<init>", desc := "()V", sig := { parameters := [], returnType := none }, accessFlags := 0, code := none }
def k10c1 : Code := { maxStack := 2, maxLocals := 2, code := jdk_52_method_15_code, exceptionTable := #[], attributes := #[] }
def k10m1 : Method := { name := "coderFromArrayLen", desc := "([BI)B", sig := { parameters := [(.array .byte), .int], returnType := some .byte }, accessFlags := 8, code := some k10c1 }
def k10c2 : Code := { maxStack := 5, maxLocals := 6, code := jdk_52_method_16_code, exceptionTable := #[], attributes := #[] }
def k10m2 : Method := { name := "compress", desc := "([CII)[B", sig := { parameters := [(.array .char), .int, .int], returnType := some (.array .byte) }, accessFlags := 9, code := some k10c2 }
def k10c3 : Code := { maxStack := 3, maxLocals := 7, code := jdk_52_method_21_code, exceptionTable := #[], attributes := #[] }
def k10m3 : Method := { name := "compress", desc := "([CI[BII)I", sig := { parameters := [(.array .char), .int, (.array .byte), .int, .int], returnType := some .int }, accessFlags := 9, code := some k10c3 }
/-- java/lang/StringUTF16 -/
def k10 : Class := { plain "java/lang/StringUTF16" (some 0) with
  accessFlags := 48
  interfaces := #[]
  cf := some (fileOf pool10 12 #[.nestMembers #[627, 629, 369]] #[{ accessFlags := 0, nameIndex := 9, descriptorIndex := 10, attributes := #[] }, { accessFlags := 8, nameIndex := 261, descriptorIndex := 262, attributes := #[] }, { accessFlags := 9, nameIndex := 117, descriptorIndex := 122, attributes := #[] }, { accessFlags := 9, nameIndex := 117, descriptorIndex := 118, attributes := #[] }] 48 6 #[] #[{ accessFlags := 26, nameIndex := 61, descriptorIndex := 62, attributes := #[] }, { accessFlags := 26, nameIndex := 65, descriptorIndex := 62, attributes := #[] }, { accessFlags := 24, nameIndex := 430, descriptorIndex := 62, attributes := #[] }, { accessFlags := 4120, nameIndex := 46, descriptorIndex := 47, attributes := #[] }])
  fields := #[{ name := "HI_BYTE_SHIFT", type := .int, accessFlags := 26, slot := 0, constantValue := 0 }, { name := "LO_BYTE_SHIFT", type := .int, accessFlags := 26, slot := 1, constantValue := 0 }, { name := "MAX_LENGTH", type := .int, accessFlags := 24, slot := 2, constantValue := 0 }, { name := "$assertionsDisabled", type := .boolean, accessFlags := 4120, slot := 3, constantValue := 0 }]
  methods := #[k10m0, k10m1, k10m2, k10m3]
  instanceTypes := #[]
  staticTypes := #[.int, .int, .int, .boolean]
  resolved := Array.replicate 635 none
  statics := none }

def pool11 : Array CpInfo := pool [(9, u "<init>"), (6, .class_ 18), (1, u "java/lang/Object"), (0, u "()V"), (1, .class_ 23), (1, u "jdk/internal/util/ArraysSupport"), (0, u "LOG2_ARRAY_LONG_INDEX_SCALE"), (0, u "I"), (2, u "U"), (0, u "Ljdk/internal/misc/Unsafe;"), (8, u "BIG_ENDIAN"), (0, u "Z"), (8, u "LOG2_BYTE_BIT_SIZE"), (4, u "LOG2_ARRAY_INT_INDEX_SCALE"), (6, .class_ 61), (0, u "[B"), (0, .methodref 21 63), (0, .nameAndType 64 65), (0, u "signedHashCode"), (0, u "(I[BII)I"), (42, u "JLA"), (0, u "Ljdk/internal/access/JavaLangAccess;"), (11, u "LOG2_ARRAY_BOOLEAN_INDEX_SCALE"), (9, u "LOG2_ARRAY_BYTE_INDEX_SCALE"), (5, u "LOG2_ARRAY_CHAR_INDEX_SCALE"), (5, u "LOG2_ARRAY_SHORT_INDEX_SCALE"), (18, u "LOG2_ARRAY_FLOAT_INDEX_SCALE"), (24, u "LOG2_ARRAY_DOUBLE_INDEX_SCALE"), (89, u "T_BOOLEAN"), (2, u "T_CHAR"), (1, u "T_FLOAT"), (1, u "T_DOUBLE"), (1, u "T_BYTE"), (1, u "T_SHORT"), (1, u "T_INT"), (1, u "T_LONG"), (1, u "SOFT_MAX_ARRAY_LENGTH"), (26, u "vectorizedHashCode"), (0, u "(Ljava/lang/Object;IIII)I")] 55

def k11m0 : Method := { name := "<init>", desc := "()V", sig := { parameters := [], returnType := none }, accessFlags := 2, code := none }
def k11c1 : Code := { maxStack := 4, maxLocals := 5, code := jdk_48_method_4_code, exceptionTable := #[], attributes := #[] }
def k11m1 : Method := { name := "vectorizedHashCode", desc := "(Ljava/lang/Object;IIII)I", sig := { parameters := [(.object "java/lang/Object"), .int, .int, .int, .int], returnType := some .int }, accessFlags := 9, code := some k11c1 }
def k11c2 : Code := { maxStack := 3, maxLocals := 6, code := jdk_48_method_5_code, exceptionTable := #[], attributes := #[] }
def k11m2 : Method := { name := "signedHashCode", desc := "(I[BII)I", sig := { parameters := [.int, (.array .byte), .int, .int], returnType := some .int }, accessFlags := 10, code := some k11c2 }
/-- jdk/internal/util/ArraysSupport -/
def k11 : Class := { plain "jdk/internal/util/ArraysSupport" (some 0) with
  accessFlags := 33
  interfaces := #[]
  cf := some (fileOf pool11 21 #[] #[{ accessFlags := 2, nameIndex := 9, descriptorIndex := 19, attributes := #[] }, { accessFlags := 9, nameIndex := 321, descriptorIndex := 322, attributes := #[] }, { accessFlags := 10, nameIndex := 64, descriptorIndex := 65, attributes := #[] }] 33 16 #[] #[{ accessFlags := 24, nameIndex := 28, descriptorIndex := 29, attributes := #[] }, { accessFlags := 26, nameIndex := 38, descriptorIndex := 39, attributes := #[] }, { accessFlags := 25, nameIndex := 121, descriptorIndex := 25, attributes := #[] }, { accessFlags := 25, nameIndex := 131, descriptorIndex := 25, attributes := #[] }, { accessFlags := 25, nameIndex := 137, descriptorIndex := 25, attributes := #[] }, { accessFlags := 25, nameIndex := 143, descriptorIndex := 25, attributes := #[] }, { accessFlags := 25, nameIndex := 53, descriptorIndex := 25, attributes := #[] }, { accessFlags := 25, nameIndex := 24, descriptorIndex := 25, attributes := #[] }, { accessFlags := 25, nameIndex := 162, descriptorIndex := 25, attributes := #[] }, { accessFlags := 25, nameIndex := 187, descriptorIndex := 25, attributes := #[] }, { accessFlags := 26, nameIndex := 48, descriptorIndex := 25, attributes := #[] }, { accessFlags := 25, nameIndex := 277, descriptorIndex := 25, attributes := #[] }, { accessFlags := 25, nameIndex := 280, descriptorIndex := 25, attributes := #[] }, { accessFlags := 25, nameIndex := 282, descriptorIndex := 25, attributes := #[] }, { accessFlags := 25, nameIndex := 284, descriptorIndex := 25, attributes := #[] }, { accessFlags := 25, nameIndex := 286, descriptorIndex := 25, attributes := #[] }, { accessFlags := 25, nameIndex := 288, descriptorIndex := 25, attributes := #[] }, { accessFlags := 25, nameIndex := 290, descriptorIndex := 25, attributes := #[] }, { accessFlags := 25, nameIndex := 292, descriptorIndex := 25, attributes := #[] }, { accessFlags := 26, nameIndex := 108, descriptorIndex := 109, attributes := #[] }, { accessFlags := 25, nameIndex := 294, descriptorIndex := 25, attributes := #[] }])
  fields := #[{ name := "U", type := (.object "jdk/internal/misc/Unsafe"), accessFlags := 24, slot := 0, constantValue := 0 }, { name := "BIG_ENDIAN", type := .boolean, accessFlags := 26, slot := 1, constantValue := 0 }, { name := "LOG2_ARRAY_BOOLEAN_INDEX_SCALE", type := .int, accessFlags := 25, slot := 2, constantValue := 0 }, { name := "LOG2_ARRAY_BYTE_INDEX_SCALE", type := .int, accessFlags := 25, slot := 3, constantValue := 0 }, { name := "LOG2_ARRAY_CHAR_INDEX_SCALE", type := .int, accessFlags := 25, slot := 4, constantValue := 0 }, { name := "LOG2_ARRAY_SHORT_INDEX_SCALE", type := .int, accessFlags := 25, slot := 5, constantValue := 0 }, { name := "LOG2_ARRAY_INT_INDEX_SCALE", type := .int, accessFlags := 25, slot := 6, constantValue := 0 }, { name := "LOG2_ARRAY_LONG_INDEX_SCALE", type := .int, accessFlags := 25, slot := 7, constantValue := 0 }, { name := "LOG2_ARRAY_FLOAT_INDEX_SCALE", type := .int, accessFlags := 25, slot := 8, constantValue := 0 }, { name := "LOG2_ARRAY_DOUBLE_INDEX_SCALE", type := .int, accessFlags := 25, slot := 9, constantValue := 0 }, { name := "LOG2_BYTE_BIT_SIZE", type := .int, accessFlags := 26, slot := 10, constantValue := 0 }, { name := "T_BOOLEAN", type := .int, accessFlags := 25, slot := 11, constantValue := 0 }, { name := "T_CHAR", type := .int, accessFlags := 25, slot := 12, constantValue := 0 }, { name := "T_FLOAT", type := .int, accessFlags := 25, slot := 13, constantValue := 0 }, { name := "T_DOUBLE", type := .int, accessFlags := 25, slot := 14, constantValue := 0 }, { name := "T_BYTE", type := .int, accessFlags := 25, slot := 15, constantValue := 0 }, { name := "T_SHORT", type := .int, accessFlags := 25, slot := 16, constantValue := 0 }, { name := "T_INT", type := .int, accessFlags := 25, slot := 17, constantValue := 0 }, { name := "T_LONG", type := .int, accessFlags := 25, slot := 18, constantValue := 0 }, { name := "JLA", type := (.object "jdk/internal/access/JavaLangAccess"), accessFlags := 26, slot := 19, constantValue := 0 }, { name := "SOFT_MAX_ARRAY_LENGTH", type := .int, accessFlags := 25, slot := 20, constantValue := 0 }]
  methods := #[k11m0, k11m1, k11m2]
  instanceTypes := #[]
  staticTypes := #[(.object "jdk/internal/misc/Unsafe"), .boolean, .int, .int, .int, .int, .int, .int, .int, .int, .int, .int, .int, .int, .int, .int, .int, .int, .int, (.object "jdk/internal/access/JavaLangAccess"), .int]
  resolved := Array.replicate 378 none
  statics := none }

def pool12 : Array CpInfo := pool [(2, .class_ 4), (1, u "java/lang/Object"), (0, u "<init>"), (0, u "()V"), (17, .class_ 26), (1, u "jdk/internal/util/Preconditions"), (6, u "checkIndex"), (21, .class_ 56), (0, u "jdk/internal/util/Preconditions$4"), (57, .class_ 115), (0, u "jdk/internal/util/Preconditions$1"), (7, u "SIOOBE_FORMATTER"), (0, u "Ljava/util/function/BiFunction;"), (0, .class_ 126), (0, u "jdk/internal/util/Preconditions$2"), (3, u "AIOOBE_FORMATTER"), (0, .class_ 132), (0, u "jdk/internal/util/Preconditions$3"), (3, u "IOOBE_FORMATTER"), (41, u "(IILjava/util/function/BiFunction;)I")] 15

def k12m0 : Method := { name := "<init>", desc := "()V", sig := { parameters := [], returnType := none }, accessFlags := 1, code := none }
def k12c1 : Code := { maxStack := 3, maxLocals := 3, code := jdk_41_method_11_code, exceptionTable := #[], attributes := #[] }
def k12m1 : Method := { name := "checkIndex", desc := "(IILjava/util/function/BiFunction;)I", sig := { parameters := [.int, .int, (.object "java/util/function/BiFunction")], returnType := some .int }, accessFlags := 9, code := some k12c1 }
/-- jdk/internal/util/Preconditions -/
def k12 : Class := { plain "jdk/internal/util/Preconditions" (some 0) with
  accessFlags := 33
  interfaces := #[]
  cf := some (fileOf pool12 24 #[.nestMembers #[55, 131, 125, 114]] #[{ accessFlags := 1, nameIndex := 5, descriptorIndex := 6, attributes := #[] }, { accessFlags := 9, nameIndex := 33, descriptorIndex := 178, attributes := #[] }] 33 2 #[] #[{ accessFlags := 25, nameIndex := 123, descriptorIndex := 124, attributes := #[] }, { accessFlags := 25, nameIndex := 130, descriptorIndex := 124, attributes := #[] }, { accessFlags := 25, nameIndex := 136, descriptorIndex := 124, attributes := #[] }])
  fields := #[{ name := "SIOOBE_FORMATTER", type := (.object "java/util/function/BiFunction"), accessFlags := 25, slot := 0, constantValue := 0 }, { name := "AIOOBE_FORMATTER", type := (.object "java/util/function/BiFunction"), accessFlags := 25, slot := 1, constantValue := 0 }, { name := "IOOBE_FORMATTER", type := (.object "java/util/function/BiFunction"), accessFlags := 25, slot := 2, constantValue := 0 }]
  methods := #[k12m0, k12m1]
  instanceTypes := #[]
  staticTypes := #[(.object "java/util/function/BiFunction"), (.object "java/util/function/BiFunction"), (.object "java/util/function/BiFunction")]
  resolved := Array.replicate 194 none
  statics := some 1 }

def pool13 : Array CpInfo := pool [(1, u "java/lang/Cloneable"), (0, .class_ 1), (0, u "java/lang/Object"), (0, .class_ 3)] 3

/-- java/lang/Cloneable -/
def k13 : Class := { plain "java/lang/Cloneable" (some 0) with
  accessFlags := 1537
  interfaces := #[]
  cf := some (fileOf pool13 2 #[] #[] 1537 4 #[] #[])
  fields := #[]
  methods := #[]
  instanceTypes := #[]
  staticTypes := #[]
  resolved := Array.replicate 8 none
  statics := none }

/-- the primitive byte -/
def k14 : Class := { plain "byte" none with kind := .primitive 'B', accessFlags := 0x411 }
/-- [B -/
def k15 : Class := { plain "[B" (some 0) with kind := .array 14 .byte, interfaces := #[13, 2], accessFlags := 1041 }

/-- the primitive char -/
def k16 : Class := { plain "char" none with kind := .primitive 'C', accessFlags := 0x411 }
/-- [C -/
def k17 : Class := { plain "[C" (some 0) with kind := .array 16 .char, interfaces := #[13, 2], accessFlags := 1041 }

/-- the primitive int -/
def k18 : Class := { plain "int" none with kind := .primitive 'I', accessFlags := 0x411 }
/-- [I -/
def k19 : Class := { plain "[I" (some 0) with kind := .array 18 .int, interfaces := #[13, 2], accessFlags := 1041 }

def heap : Heap := #[{ cls := 7, slots := #[.long 0, .int 1, .null, .int 0, .null, .int 0, .int 0], vm := .statics 7 },
  { cls := 12, slots := #[.null, .null, .null], vm := .statics 12 }]
def classes : Array Class := #[k0, k1, k2, k3, k4, k5, k6, k7, k8, k9, k10, k11, k12, k13, k14, k15, k16, k17, k18, k19]
def interned : List (Array UInt16 × Addr) := []
def slotsUsed : Nat := 10
def theMethod : MethodId := ⟨1, 3⟩
def args0 : Array Value := #[.int 5, .int 5, .int 5, .int 5, .int 5, .int 5]
def aboutOver (below : List Frame) : State where
  vm := { classes := classes, interned := interned.toArray }
  heap := heap
  slotsUsed := slotsUsed
  threads := #[{ frames := .invoking theMethod args0 :: below }]
def below0 : List Frame := [.native { method := ⟨0, 0⟩, args := #[] }]
def about1 : State := aboutOver below0
def p0 : Program := .bare "" "" ""
def e0 : Env := launch0.env 0 0 0
theorem w_frames : about1.frames = Frame.invoking theMethod args0 :: below0 := rfl
set_option maxRecDepth 65536 in
theorem w_args : argsFit about1.vm theMethod args0 = true := by decide +kernel
set_option maxRecDepth 65536 in
theorem w_heap : heapFits about1 = true := by decide +kernel
set_option maxRecDepth 65536 in
theorem w_runnable : about1.curStatus? = some .runnable := by decide +kernel
set_option maxRecDepth 65536 in
theorem w_alone : about1.alone = true := by decide +kernel
set_option maxRecDepth 65536 in
theorem w_named : about1.methodNamed? x = some theMethod := by decide +kernel
set_option maxRecDepth 65536 in
theorem w_hears : about1.hears theMethod below0 = true := by decide +kernel
set_option maxRecDepth 65536 in
theorem w_ripe : about1.ripe theMethod args0 below0 = true := by decide +kernel
theorem w_running : about1.status = .running := rfl
set_option maxRecDepth 65536 in
theorem w_room : about1.hasRoom e0.platform room_1 = true :=
  launch0.hasRoom_least _ room_1 (by decide +kernel) (by decide +kernel) (by decide +kernel) (by decide +kernel) (by decide +kernel) (by decide +kernel)
theorem allAtoms_all (ts : List Jvm.Cond) (a : Array Jvm.Value) (st : Jvm.State) : (allAtoms ts).before a st = ts.all (fun c => c.before a st) := by
  induction ts with
  | nil => rfl
  | cons c t ih =>
    show (Jvm.Cond.and c (allAtoms t)).before a st = _
    rw [Jvm.Cond.before_and, ih, List.all_cons]
def words1 : List Jvm.Cond := Jvm.Cond.code x code maxLocals ret :: tables_1
/-- a 'code' word, met by the world's own term for the bytes: nothing is compared byte by byte -/
theorem code_word {y : MethodName} {bytes : ByteArray} {mx : Nat} {rt : Option FieldType} {a : Array Value} {s : State} {m : MethodId} {meth : Method} {c : Code} (h1 : s.methodNamed? y = some m) (h2 : s.vm.method? m = some meth) (h3 : meth.code = some c) (h4 : c.code = bytes)
    (h5 : (c.maxLocals == mx && c.exceptionTable.isEmpty && decide (c.maxStack ≤ mostOperands) && decide (meth.sig.returnType = rt) && !meth.locks && decide (parseMethodDescriptor y.desc = some meth.sig)) = true) : (Jvm.Cond.code y bytes mx rt).before a s = true := by
  simp only [Bool.and_eq_true, beq_iff_eq, Bool.not_eq_true', decide_eq_true_eq] at h5
  obtain ⟨⟨⟨⟨⟨g1, g2⟩, g3⟩, g4⟩, g5⟩, g6⟩ := h5
  simp [Cond.before, Cond.holds, Cond.value, h1, h2, h3, h4, g1, g2, g3, g4, g5, g6]
def isCode : Jvm.Cond → Bool
  | .code _ _ _ _ => true
  | _ => false
theorem all_split {L : List Jvm.Cond} {P : Jvm.Cond → Bool} (h1 : L.all (fun c => isCode c || P c) = true) (h2 : ∀ c ∈ L.filter isCode, P c = true) : L.all P = true := by
  refine List.all_eq_true.mpr fun c hc => ?_
  have h := List.all_eq_true.mp h1 c hc
  rcases Bool.eq_false_or_eq_true (isCode c) with hi | hi
  · exact h2 c (List.mem_filter.mpr ⟨hc, hi⟩)
  · simpa [hi] using h
set_option maxRecDepth 65536 in
theorem w_c0 : (Jvm.Cond.code x code maxLocals ret).before args0 about1 = true := code_word (m := ⟨1, 3⟩) (meth := k1m3) (c := k1c3) (by decide +kernel) rfl rfl rfl (by decide +kernel)
set_option maxRecDepth 65536 in
theorem w_c1 : (Jvm.Cond.code ({ cls := "com/example/typecheck/typecheck/model/QNameEqualsPinLaw", name := "str", desc := "(I)Ljava/lang/String;" } : Jvm.MethodName) method_2_code (3 : Nat) (Option.some (Jvm.ClassFile.FieldType.object "java/lang/String"))).before args0 about1 = true := code_word (m := ⟨1, 1⟩) (meth := k1m1) (c := k1c1) (by decide +kernel) rfl rfl rfl (by decide +kernel)
set_option maxRecDepth 65536 in
theorem w_c2 : (Jvm.Cond.code ({ cls := "java/lang/String", name := "<init>", desc := "([C)V" } : Jvm.MethodName) jdk_42_method_3_code (2 : Nat) (Option.none : Option Jvm.ClassFile.FieldType)).before args0 about1 = true := code_word (m := ⟨7, 1⟩) (meth := k7m1) (c := k7c1) (by decide +kernel) rfl rfl rfl (by decide +kernel)
set_option maxRecDepth 65536 in
theorem w_c3 : (Jvm.Cond.code ({ cls := "java/lang/String", name := "<init>", desc := "([CIILjava/lang/Void;)V" } : Jvm.MethodName) jdk_42_method_149_code (6 : Nat) (Option.none : Option Jvm.ClassFile.FieldType)).before args0 about1 = true := code_word (m := ⟨7, 6⟩) (meth := k7m6) (c := k7c6) (by decide +kernel) rfl rfl rfl (by decide +kernel)
set_option maxRecDepth 65536 in
theorem w_c4 : (Jvm.Cond.code ({ cls := "java/lang/Object", name := "<init>", desc := "()V" } : Jvm.MethodName) object_method_1_code (1 : Nat) (Option.none : Option Jvm.ClassFile.FieldType)).before args0 about1 = true := code_word (m := ⟨0, 0⟩) (meth := k0m0) (c := k0c0) (by decide +kernel) rfl rfl rfl (by decide +kernel)
set_option maxRecDepth 65536 in
theorem w_c5 : (Jvm.Cond.code ({ cls := "com/example/typecheck/typecheck/model/QName", name := "<init>", desc := "(Ljava/lang/String;Ljava/lang/String;Ljava/lang/String;)V" } : Jvm.MethodName) prog_176_method_1_code (4 : Nat) (Option.none : Option Jvm.ClassFile.FieldType)).before args0 about1 = true := code_word (m := ⟨8, 0⟩) (meth := k8m0) (c := k8c0) (by decide +kernel) rfl rfl rfl (by decide +kernel)
set_option maxRecDepth 65536 in
theorem w_c6 : (Jvm.Cond.code ({ cls := "java/lang/String", name := "hashCode", desc := "()I" } : Jvm.MethodName) jdk_42_method_78_code (2 : Nat) (Option.some Jvm.ClassFile.FieldType.int)).before args0 about1 = true := code_word (m := ⟨7, 5⟩) (meth := k7m5) (c := k7c5) (by decide +kernel) rfl rfl rfl (by decide +kernel)
set_option maxRecDepth 65536 in
theorem w_c7 : (Jvm.Cond.code ({ cls := "java/lang/String", name := "isLatin1", desc := "()Z" } : Jvm.MethodName) jdk_42_method_154_code (1 : Nat) (Option.some Jvm.ClassFile.FieldType.boolean)).before args0 about1 = true := code_word (m := ⟨7, 8⟩) (meth := k7m8) (c := k7c8) (by decide +kernel) rfl rfl rfl (by decide +kernel)
set_option maxRecDepth 65536 in
theorem w_c8 : (Jvm.Cond.code ({ cls := "java/lang/StringLatin1", name := "hashCode", desc := "([B)I" } : Jvm.MethodName) jdk_43_method_21_code (1 : Nat) (Option.some Jvm.ClassFile.FieldType.int)).before args0 about1 = true := code_word (m := ⟨9, 3⟩) (meth := k9m3) (c := k9c3) (by decide +kernel) rfl rfl rfl (by decide +kernel)
set_option maxRecDepth 65536 in
theorem w_c9 : (Jvm.Cond.code ({ cls := "com/example/typecheck/typecheck/model/QNameEqualsPinLaw", name := "same", desc := "(Ljava/lang/String;Ljava/lang/String;)Z" } : Jvm.MethodName) method_3_code (2 : Nat) (Option.some Jvm.ClassFile.FieldType.boolean)).before args0 about1 = true := code_word (m := ⟨1, 2⟩) (meth := k1m2) (c := k1c2) (by decide +kernel) rfl rfl rfl (by decide +kernel)
set_option maxRecDepth 65536 in
theorem w_c10 : (Jvm.Cond.code ({ cls := "java/lang/String", name := "length", desc := "()I" } : Jvm.MethodName) jdk_42_method_54_code (1 : Nat) (Option.some Jvm.ClassFile.FieldType.int)).before args0 about1 = true := code_word (m := ⟨7, 2⟩) (meth := k7m2) (c := k7c2) (by decide +kernel) rfl rfl rfl (by decide +kernel)
set_option maxRecDepth 65536 in
theorem w_c11 : (Jvm.Cond.code ({ cls := "java/lang/String", name := "coder", desc := "()B" } : Jvm.MethodName) jdk_42_method_152_code (1 : Nat) (Option.some Jvm.ClassFile.FieldType.byte)).before args0 about1 = true := code_word (m := ⟨7, 7⟩) (meth := k7m7) (c := k7c7) (by decide +kernel) rfl rfl rfl (by decide +kernel)
set_option maxRecDepth 65536 in
theorem w_c12 : (Jvm.Cond.code ({ cls := "com/example/typecheck/typecheck/model/QName", name := "equals", desc := "(Ljava/lang/Object;)Z" } : Jvm.MethodName) prog_176_method_10_code (3 : Nat) (Option.some Jvm.ClassFile.FieldType.boolean)).before args0 about1 = true := code_word (m := ⟨8, 1⟩) (meth := k8m1) (c := k8c1) (by decide +kernel) rfl rfl rfl (by decide +kernel)
set_option maxRecDepth 65536 in
theorem w_c13 : (Jvm.Cond.code ({ cls := "java/lang/String", name := "equals", desc := "(Ljava/lang/Object;)Z" } : Jvm.MethodName) jdk_42_method_66_code (3 : Nat) (Option.some Jvm.ClassFile.FieldType.boolean)).before args0 about1 = true := code_word (m := ⟨7, 4⟩) (meth := k7m4) (c := k7c4) (by decide +kernel) rfl rfl rfl (by decide +kernel)
set_option maxRecDepth 65536 in
theorem w_c14 : (Jvm.Cond.code ({ cls := "java/lang/StringLatin1", name := "equals", desc := "([B[B)Z" } : Jvm.MethodName) jdk_43_method_13_code (3 : Nat) (Option.some Jvm.ClassFile.FieldType.boolean)).before args0 about1 = true := code_word (m := ⟨9, 2⟩) (meth := k9m2) (c := k9c2) (by decide +kernel) rfl rfl rfl (by decide +kernel)
set_option maxRecDepth 65536 in
theorem w_c15 : (Jvm.Cond.code ({ cls := "java/lang/StringUTF16", name := "compress", desc := "([CII)[B" } : Jvm.MethodName) jdk_52_method_16_code (6 : Nat) (Option.some (Jvm.ClassFile.FieldType.array Jvm.ClassFile.FieldType.byte))).before args0 about1 = true := code_word (m := ⟨10, 2⟩) (meth := k10m2) (c := k10c2) (by decide +kernel) rfl rfl rfl (by decide +kernel)
set_option maxRecDepth 65536 in
theorem w_c16 : (Jvm.Cond.code ({ cls := "java/lang/StringUTF16", name := "compress", desc := "([CI[BII)I" } : Jvm.MethodName) jdk_52_method_21_code (7 : Nat) (Option.some Jvm.ClassFile.FieldType.int)).before args0 about1 = true := code_word (m := ⟨10, 3⟩) (meth := k10m3) (c := k10c3) (by decide +kernel) rfl rfl rfl (by decide +kernel)
set_option maxRecDepth 65536 in
theorem w_c17 : (Jvm.Cond.code ({ cls := "java/lang/StringUTF16", name := "coderFromArrayLen", desc := "([BI)B" } : Jvm.MethodName) jdk_52_method_15_code (2 : Nat) (Option.some Jvm.ClassFile.FieldType.byte)).before args0 about1 = true := code_word (m := ⟨10, 1⟩) (meth := k10m1) (c := k10c1) (by decide +kernel) rfl rfl rfl (by decide +kernel)
set_option maxRecDepth 65536 in
theorem w_c18 : (Jvm.Cond.code ({ cls := "jdk/internal/util/ArraysSupport", name := "vectorizedHashCode", desc := "(Ljava/lang/Object;IIII)I" } : Jvm.MethodName) jdk_48_method_4_code (5 : Nat) (Option.some Jvm.ClassFile.FieldType.int)).before args0 about1 = true := code_word (m := ⟨11, 1⟩) (meth := k11m1) (c := k11c1) (by decide +kernel) rfl rfl rfl (by decide +kernel)
set_option maxRecDepth 65536 in
theorem w_c19 : (Jvm.Cond.code ({ cls := "jdk/internal/util/ArraysSupport", name := "signedHashCode", desc := "(I[BII)I" } : Jvm.MethodName) jdk_48_method_5_code (6 : Nat) (Option.some Jvm.ClassFile.FieldType.int)).before args0 about1 = true := code_word (m := ⟨11, 2⟩) (meth := k11m2) (c := k11c2) (by decide +kernel) rfl rfl rfl (by decide +kernel)
set_option maxRecDepth 65536 in
theorem w_c20 : (Jvm.Cond.code ({ cls := "java/lang/String", name := "charAt", desc := "(I)C" } : Jvm.MethodName) jdk_42_method_56_code (2 : Nat) (Option.some Jvm.ClassFile.FieldType.char)).before args0 about1 = true := code_word (m := ⟨7, 3⟩) (meth := k7m3) (c := k7c3) (by decide +kernel) rfl rfl rfl (by decide +kernel)
set_option maxRecDepth 65536 in
theorem w_c21 : (Jvm.Cond.code ({ cls := "java/lang/StringLatin1", name := "charAt", desc := "([BI)C" } : Jvm.MethodName) jdk_43_method_2_code (2 : Nat) (Option.some Jvm.ClassFile.FieldType.char)).before args0 about1 = true := code_word (m := ⟨9, 1⟩) (meth := k9m1) (c := k9c1) (by decide +kernel) rfl rfl rfl (by decide +kernel)
set_option maxRecDepth 65536 in
theorem w_c22 : (Jvm.Cond.code ({ cls := "java/lang/String", name := "checkIndex", desc := "(II)V" } : Jvm.MethodName) jdk_42_method_155_code (2 : Nat) (Option.none : Option Jvm.ClassFile.FieldType)).before args0 about1 = true := code_word (m := ⟨7, 9⟩) (meth := k7m9) (c := k7c9) (by decide +kernel) rfl rfl rfl (by decide +kernel)
set_option maxRecDepth 65536 in
theorem w_c23 : (Jvm.Cond.code ({ cls := "jdk/internal/util/Preconditions", name := "checkIndex", desc := "(IILjava/util/function/BiFunction;)I" } : Jvm.MethodName) jdk_41_method_11_code (3 : Nat) (Option.some Jvm.ClassFile.FieldType.int)).before args0 about1 = true := code_word (m := ⟨12, 1⟩) (meth := k12m1) (c := k12c1) (by decide +kernel) rfl rfl rfl (by decide +kernel)
def codes1 : List Jvm.Cond := [Jvm.Cond.code x code maxLocals ret, Jvm.Cond.code ({ cls := "com/example/typecheck/typecheck/model/QNameEqualsPinLaw", name := "str", desc := "(I)Ljava/lang/String;" } : Jvm.MethodName) method_2_code (3 : Nat) (Option.some (Jvm.ClassFile.FieldType.object "java/lang/String")), Jvm.Cond.code ({ cls := "java/lang/String", name := "<init>", desc := "([C)V" } : Jvm.MethodName) jdk_42_method_3_code (2 : Nat) (Option.none : Option Jvm.ClassFile.FieldType), Jvm.Cond.code ({ cls := "java/lang/String", name := "<init>", desc := "([CIILjava/lang/Void;)V" } : Jvm.MethodName) jdk_42_method_149_code (6 : Nat) (Option.none : Option Jvm.ClassFile.FieldType), Jvm.Cond.code ({ cls := "java/lang/Object", name := "<init>", desc := "()V" } : Jvm.MethodName) object_method_1_code (1 : Nat) (Option.none : Option Jvm.ClassFile.FieldType), Jvm.Cond.code ({ cls := "com/example/typecheck/typecheck/model/QName", name := "<init>", desc := "(Ljava/lang/String;Ljava/lang/String;Ljava/lang/String;)V" } : Jvm.MethodName) prog_176_method_1_code (4 : Nat) (Option.none : Option Jvm.ClassFile.FieldType), Jvm.Cond.code ({ cls := "java/lang/String", name := "hashCode", desc := "()I" } : Jvm.MethodName) jdk_42_method_78_code (2 : Nat) (Option.some Jvm.ClassFile.FieldType.int), Jvm.Cond.code ({ cls := "java/lang/String", name := "isLatin1", desc := "()Z" } : Jvm.MethodName) jdk_42_method_154_code (1 : Nat) (Option.some Jvm.ClassFile.FieldType.boolean), Jvm.Cond.code ({ cls := "java/lang/StringLatin1", name := "hashCode", desc := "([B)I" } : Jvm.MethodName) jdk_43_method_21_code (1 : Nat) (Option.some Jvm.ClassFile.FieldType.int), Jvm.Cond.code ({ cls := "com/example/typecheck/typecheck/model/QNameEqualsPinLaw", name := "same", desc := "(Ljava/lang/String;Ljava/lang/String;)Z" } : Jvm.MethodName) method_3_code (2 : Nat) (Option.some Jvm.ClassFile.FieldType.boolean), Jvm.Cond.code ({ cls := "java/lang/String", name := "length", desc := "()I" } : Jvm.MethodName) jdk_42_method_54_code (1 : Nat) (Option.some Jvm.ClassFile.FieldType.int), Jvm.Cond.code ({ cls := "java/lang/String", name := "coder", desc := "()B" } : Jvm.MethodName) jdk_42_method_152_code (1 : Nat) (Option.some Jvm.ClassFile.FieldType.byte), Jvm.Cond.code ({ cls := "com/example/typecheck/typecheck/model/QName", name := "equals", desc := "(Ljava/lang/Object;)Z" } : Jvm.MethodName) prog_176_method_10_code (3 : Nat) (Option.some Jvm.ClassFile.FieldType.boolean), Jvm.Cond.code ({ cls := "java/lang/String", name := "equals", desc := "(Ljava/lang/Object;)Z" } : Jvm.MethodName) jdk_42_method_66_code (3 : Nat) (Option.some Jvm.ClassFile.FieldType.boolean), Jvm.Cond.code ({ cls := "java/lang/StringLatin1", name := "equals", desc := "([B[B)Z" } : Jvm.MethodName) jdk_43_method_13_code (3 : Nat) (Option.some Jvm.ClassFile.FieldType.boolean), Jvm.Cond.code ({ cls := "java/lang/StringUTF16", name := "compress", desc := "([CII)[B" } : Jvm.MethodName) jdk_52_method_16_code (6 : Nat) (Option.some (Jvm.ClassFile.FieldType.array Jvm.ClassFile.FieldType.byte)), Jvm.Cond.code ({ cls := "java/lang/StringUTF16", name := "compress", desc := "([CI[BII)I" } : Jvm.MethodName) jdk_52_method_21_code (7 : Nat) (Option.some Jvm.ClassFile.FieldType.int), Jvm.Cond.code ({ cls := "java/lang/StringUTF16", name := "coderFromArrayLen", desc := "([BI)B" } : Jvm.MethodName) jdk_52_method_15_code (2 : Nat) (Option.some Jvm.ClassFile.FieldType.byte), Jvm.Cond.code ({ cls := "jdk/internal/util/ArraysSupport", name := "vectorizedHashCode", desc := "(Ljava/lang/Object;IIII)I" } : Jvm.MethodName) jdk_48_method_4_code (5 : Nat) (Option.some Jvm.ClassFile.FieldType.int), Jvm.Cond.code ({ cls := "jdk/internal/util/ArraysSupport", name := "signedHashCode", desc := "(I[BII)I" } : Jvm.MethodName) jdk_48_method_5_code (6 : Nat) (Option.some Jvm.ClassFile.FieldType.int), Jvm.Cond.code ({ cls := "java/lang/String", name := "charAt", desc := "(I)C" } : Jvm.MethodName) jdk_42_method_56_code (2 : Nat) (Option.some Jvm.ClassFile.FieldType.char), Jvm.Cond.code ({ cls := "java/lang/StringLatin1", name := "charAt", desc := "([BI)C" } : Jvm.MethodName) jdk_43_method_2_code (2 : Nat) (Option.some Jvm.ClassFile.FieldType.char), Jvm.Cond.code ({ cls := "java/lang/String", name := "checkIndex", desc := "(II)V" } : Jvm.MethodName) jdk_42_method_155_code (2 : Nat) (Option.none : Option Jvm.ClassFile.FieldType), Jvm.Cond.code ({ cls := "jdk/internal/util/Preconditions", name := "checkIndex", desc := "(IILjava/util/function/BiFunction;)I" } : Jvm.MethodName) jdk_41_method_11_code (3 : Nat) (Option.some Jvm.ClassFile.FieldType.int)]
set_option maxRecDepth 65536 in
theorem codes_eq : words1.filter isCode = codes1 := rfl
theorem w_codes : ∀ c ∈ words1.filter isCode, c.before args0 about1 = true := by
  rw [codes_eq]
  intro c hc
  simp only [codes1, List.mem_cons, List.not_mem_nil, or_false] at hc
  rcases hc with rfl | rfl | rfl | rfl | rfl | rfl | rfl | rfl | rfl | rfl | rfl | rfl | rfl | rfl | rfl | rfl | rfl | rfl | rfl | rfl | rfl | rfl | rfl | rfl
  · exact w_c0
  · exact w_c1
  · exact w_c2
  · exact w_c3
  · exact w_c4
  · exact w_c5
  · exact w_c6
  · exact w_c7
  · exact w_c8
  · exact w_c9
  · exact w_c10
  · exact w_c11
  · exact w_c12
  · exact w_c13
  · exact w_c14
  · exact w_c15
  · exact w_c16
  · exact w_c17
  · exact w_c18
  · exact w_c19
  · exact w_c20
  · exact w_c21
  · exact w_c22
  · exact w_c23
set_option maxRecDepth 65536 in
theorem w_t1 : (words1.take 24).all (fun c => isCode c || c.before args0 about1) = true := by decide +kernel
set_option maxRecDepth 65536 in
theorem w_t2 : ((words1.drop 24).take 24).all (fun c => isCode c || c.before args0 about1) = true := by decide +kernel
set_option maxRecDepth 65536 in
theorem w_t3 : (((words1.drop 24).drop 24).take 24).all (fun c => isCode c || c.before args0 about1) = true := by decide +kernel
set_option maxRecDepth 65536 in
theorem w_t4 : ((((words1.drop 24).drop 24).drop 24).take 24).all (fun c => isCode c || c.before args0 about1) = true := by decide +kernel
set_option maxRecDepth 65536 in
theorem w_t5 : (((((words1.drop 24).drop 24).drop 24).drop 24).take 24).all (fun c => isCode c || c.before args0 about1) = true := by decide +kernel
set_option maxRecDepth 65536 in
theorem w_t6 : (((((words1.drop 24).drop 24).drop 24).drop 24).drop 24).all (fun c => isCode c || c.before args0 about1) = true := by decide +kernel
theorem w_tables : (allAtoms (Jvm.Cond.code x code maxLocals ret :: tables_1)).before args0 about1 = true := by
  rw [allAtoms_all]
  show words1.all (fun c => c.before args0 about1) = true
  refine all_split ?_ w_codes
  rw [← List.take_append_drop 24 words1, List.all_append, w_t1, ← List.take_append_drop 24 (words1.drop 24), List.all_append, w_t2, ← List.take_append_drop 24 ((words1.drop 24).drop 24), List.all_append, w_t3, ← List.take_append_drop 24 (((words1.drop 24).drop 24).drop 24), List.all_append, w_t4, ← List.take_append_drop 24 ((((words1.drop 24).drop 24).drop 24).drop 24), List.all_append, w_t5, w_t6]
  rfl
set_option maxRecDepth 65536 in
theorem w_rest : rest_1_c.before args0 about1 = true := by decide +kernel
set_option maxRecDepth 65536 in
theorem w_case : (Jvm.Cond.and given_1 narrow_1).before args0 about1 = true := by decide +kernel
set_option maxRecDepth 65536 in
theorem w_consts : constsHeld consts_1 about1 := Jvm.Lit.constsHeldB_iff.mp (by decide +kernel)
theorem w_applies : (headSpec (Jvm.Cond.code x code maxLocals ret :: tables_1) room_1).applies x e0.platform about1 = true :=
  (Spec.applies_iff w_frames).mpr ⟨w_running, w_runnable, w_alone, w_named, w_hears, w_ripe, w_room, w_tables⟩
theorem atStart : AtStart classFile x code maxLocals ret World_1 tables_1 room_1 Calls_1 rest_1 Pre_1 launch0 p0 e0 about1 theMethod args0 below0 :=
  ⟨lists_1, trivial, launch0.admits_env _ _ _, launch0.least_env, fairChoices_fair.cas, fairChoices_fair.clock, w_frames, w_args, w_heap, w_applies, ⟨w_consts, trivial⟩, w_rest, w_case⟩
end start1
theorem witness_1 : WitnessClaimed_1 := ⟨start1.p0, start1.e0, start1.about1, start1.theMethod, start1.args0, start1.below0, start1.atStart⟩
end Jvm.Pilot.@@N@@
