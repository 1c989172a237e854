import JvmDerived
import JvmDerived.Pilot.@@N@@Statement
import JvmDerived.Pilot.@@N@@Code
set_option linter.unusedVariables false
set_option linter.unusedSimpArgs false
/- laws to paste: Road.lenW, Road.chN, Road.eqW, Road.codOf (cut by pick.py; bodies as the Statement names them) -/
namespace Jvm.Pilot.@@N@@
namespace StrChars
open Jvm Sem ClassFile Op Lib Jvm.Stand Jvm.Free.XT Jvm.Free.ALB Jvm.Free.JM Jvm.Free
open Jvm.Lib.Cold (StaticIs)
/-- a char array whose places are chars -/
def Ch (a : Addr) (A : Cell) (U : State) : Prop := Arr .char a A U ∧ Typed .char A
theorem Ch.mv {a : Addr} {A : Cell} {U U' : State} (h : Ch a A U) (hal : U.vm.Alike U'.vm) (hh : U'.heap = U.heap) : Ch a A U' := ⟨h.1.mv hal hh, h.2⟩
theorem Ch.keep {a : Addr} {A : Cell} {U U' : State} (h : Ch a A U) (hal : U.vm.Alike U'.vm) (hk : U'.heap[a]? = some A) : Ch a A U' := ⟨h.1.keep hal hk, h.2⟩
/-- what place i of a char[]'s cell holds -/
def cv (A : Cell) (i : Nat) : Int32 := match A.slots[i]? with | some (.int x) => x | _ => 0
theorem Ch.get {a : Addr} {A : Cell} {U : State} (h : Ch a A U) {i : Nat} (hi : i < A.slots.size) : A.slots[i]? = some (.int (cv A i)) := by
  have e := Array.getElem?_eq_getElem hi
  have f := h.2 i _ e
  unfold cv; rw [e]
  generalize A.slots[i] = v at f
  cases v <;> simp [fits] at f ⊢
/-- the byte that i2b leaves of a char -/
def lo8 (x : Int32) : Int32 := x.toInt8.toInt32
theorem fits_lo8 (y : Int32) : fits .byte (.int (lo8 y)) = true := by
  have h1 := y.toInt8.le_toInt
  have h2 := y.toInt8.toInt_lt
  simp only [lo8, fits, Bool.and_eq_true, decide_eq_true_eq, Int32.le_iff_toInt_le, Int8.toInt_toInt32, show (-128 : Int32).toInt = -128 from by decide, show (127 : Int32).toInt = 127 from by decide]
  omega
/-- A' is A but that each place j of lo .. hi - 1 holds f j -/
def Laid (A A' : Cell) (lo hi : Nat) (f : Nat → Value) : Prop := A'.cls = A.cls ∧ A'.vm = A.vm ∧ A'.slots.size = A.slots.size ∧ ∀ i, A'.slots[i]? = if lo ≤ i ∧ i < hi then some (f i) else A.slots[i]?
theorem Laid.zero (A : Cell) (lo : Nat) (f : Nat → Value) : Laid A A lo (lo + 0) f := ⟨rfl, rfl, rfl, fun i => by rw [if_neg (by omega)]⟩
theorem Laid.step {A Ak : Cell} {lo k : Nat} {f : Nat → Value} {v : Value} (h : Laid A Ak lo k f) (hlo : lo ≤ k) (hk : k < Ak.slots.size) (hv : v = f k) : Laid A (Ak.setSlot k v) lo (k + 1) f := by
  refine ⟨h.1, h.2.1, by simpa [Cell.setSlot] using h.2.2.1, fun i => ?_⟩
  by_cases e : k = i
  · subst e; rw [Cell.slots_setSlot_self v hk, if_pos (by omega), hv]
  · rw [Cell.slots_setSlot_ne v e, h.2.2.2 i]
    by_cases q : lo ≤ i ∧ i < k
    · rw [if_pos q, if_pos (by omega)]
    · rw [if_neg q, if_neg (by omega)]
def U16 : String := "java/lang/StringUTF16"
namespace Cmp5
def yN : MethodName := ⟨"java/lang/StringUTF16", "compress", "([CI[BII)I"⟩
abbrev yB : ByteArray := jdk_52_method_21_code
theorem d0 : decode yB 0 = .ok (.iconst 0, 1) := by decide +kernel
theorem d1 : decode yB 1 = .ok (.istore 5, 2) := by decide +kernel
theorem d3 : decode yB 3 = .ok (.iload 5, 2) := by decide +kernel
theorem d5 : decode yB 5 = .ok (.iload 4, 2) := by decide +kernel
theorem d7 : decode yB 7 = .ok (.if_icmp (.ge) 37, 3) := by decide +kernel
theorem d10 : decode yB 10 = .ok (.aload_n 0, 1) := by decide +kernel
theorem d11 : decode yB 11 = .ok (.iload_n 1, 1) := by decide +kernel
theorem d12 : decode yB 12 = .ok (.caload, 1) := by decide +kernel
theorem d13 : decode yB 13 = .ok (.istore 6, 2) := by decide +kernel
theorem d15 : decode yB 15 = .ok (.iload 6, 2) := by decide +kernel
theorem d17 : decode yB 17 = .ok (.sipush 255, 3) := by decide +kernel
theorem d20 : decode yB 20 = .ok (.if_icmp (.le) 6, 3) := by decide +kernel
theorem d26 : decode yB 26 = .ok (.aload_n 2, 1) := by decide +kernel
theorem d27 : decode yB 27 = .ok (.iload_n 3, 1) := by decide +kernel
theorem d28 : decode yB 28 = .ok (.iload 6, 2) := by decide +kernel
theorem d30 : decode yB 30 = .ok (.i2b, 1) := by decide +kernel
theorem d31 : decode yB 31 = .ok (.bastore, 1) := by decide +kernel
theorem d32 : decode yB 32 = .ok (.iinc 1 1, 3) := by decide +kernel
theorem d35 : decode yB 35 = .ok (.iinc 3 1, 3) := by decide +kernel
theorem d38 : decode yB 38 = .ok (.iinc 5 1, 3) := by decide +kernel
theorem d41 : decode yB 41 = .ok (.goto (-38), 3) := by decide +kernel
theorem d44 : decode yB 44 = .ok (.iload 4, 2) := by decide +kernel
theorem d46 : decode yB 46 = .ok (.ireturn, 1) := by decide +kernel
def site : List Cond := []
def tab : Cond := tabOf yN yB 7 (some .int) site
def P (b : Addr) (A : Cell) (d : Addr) (B : Cell) (o q len : Nat) (args : Array Value) (s : State) : Prop := args = #[.ref b, .int (Int32.ofNat o), .ref d, .int (Int32.ofNat q), .int (Int32.ofNat len)] ∧ Ch b A s ∧ Arr .byte d B s ∧ b ≠ d ∧ o + len ≤ A.slots.size ∧ q + len ≤ B.slots.size ∧ ∀ i, i < len → ¬ 255 < cv A (o + i)
def E (b : Addr) (A : Cell) (d : Addr) (B : Cell) (o q len : Nat) (r : Option Value) (s u : State) : Prop := r = some (.int (Int32.ofNat len)) ∧ ∃ B', Put d B' s u ∧ Laid B B' q (q + len) (fun j => Value.int (lo8 (cv A (o + (j - q)))))
/-- no char of the range above 255: len; the places written hold each char's low byte -/
theorem law (l : Launch) (b : Addr) (A : Cell) (d : Addr) (B : Cell) (o q len : Nat) : Law l yN 5 5 0 0 yB 7 (some .int) site (P b A d B o q len) (E b A d B o q len) (copyLocs d q len) 0 0 := by
  refine Law.of_walk (plainFor_of_name (by decide +kernel)) (by decide +kernel) (by decide +kernel) (by decide) (fun _ _ h => by rw [h.1]; rfl) (fun _ U U' hal hh h => ⟨h.1, h.2.1.mv hal hh, h.2.2.1.mv hal hh, h.2.2.2⟩) (fun r U U' V V' h1 hal h2 h => ⟨h.1, h.2.elim fun B' q => ⟨B', q.1.mv h1 h2, q.2⟩⟩) ?_
  intro p e s m args below meth c s₁ X0 hexec hbytes hml hret hlk hnm hown hh0 W hP
  obtain ⟨rfl, hA, hB, hne, l1, l2, hp⟩ := hP
  have c1 : Steps p.tables e below (s₁.setTop (entryFrame m #[.ref b, .int (Int32.ofNat o), .ref d, .int (Int32.ofNat q), .int (Int32.ofNat len)] 7)) (s₁.setTop (mkF m 0 #[.val (.ref b), .val (.int (Int32.ofNat o)), .val (.ref d), .val (.int (Int32.ofNat q)), .val (.int (Int32.ofNat len)), .unset, .unset] [])) := entry rfl
  have hA0 := hA.1.mv X0.warmed.alike hh0
  have hB0 := hB.mv X0.warmed.alike hh0
  have a31 := hA.1.2.2.2
  have c2 : Steps p.tables e below (s₁.setTop (entryFrame m #[.ref b, .int (Int32.ofNat o), .ref d, .int (Int32.ofNat q), .int (Int32.ofNat len)] 7)) (s₁.setTop (mkF m 3 #[.val (.ref b), .val (.int (Int32.ofNat o)), .val (.ref d), .val (.int (Int32.ofNat q)), .val (.int (Int32.ofNat len)), .val (.int 0), .unset] [])) := c1.trans (by
    refine iconstV X0.here hexec rfl 0 (hb hbytes d0) (by decide) ?_
    refine XS.istore X0.here hexec rfl (hb hbytes d1) rfl rfl ?_
    exact Steps.refl _)
  have loop : ∀ (r i : Nat), i + r = len → ∀ (z : Slot), (z = .unset ∨ ∃ w, z = .val w ∧ w.category = 1) → ∀ (Tl : State) (Bk : Cell), Stand p l e { frames := 0, locals := 0, cells := 0, slots := 0 } s m #[.ref b, .int (Int32.ofNat o), .ref d, .int (Int32.ofNat q), .int (Int32.ofNat len)] below meth c Tl ([] ++ copyLocs d q i) 0 0 → Put d Bk s₁ Tl → Laid B Bk q (q + i) (fun j => Value.int (lo8 (cv A (o + (j - q))))) →
      Steps p.tables e below (s₁.setTop (entryFrame m #[.ref b, .int (Int32.ofNat o), .ref d, .int (Int32.ofNat q), .int (Int32.ofNat len)] 7)) (Tl.setTop (mkF m 3 #[.val (.ref b), .val (.int (Int32.ofNat (o + i))), .val (.ref d), .val (.int (Int32.ofNat (q + i))), .val (.int (Int32.ofNat len)), .val (.int (Int32.ofNat i)), z] [])) → ∃ (T' : State) (B' : Cell) (z' : Slot), Stand p l e { frames := 0, locals := 0, cells := 0, slots := 0 } s m #[.ref b, .int (Int32.ofNat o), .ref d, .int (Int32.ofNat q), .int (Int32.ofNat len)] below meth c T' ([] ++ copyLocs d q len) 0 0 ∧ Put d B' s₁ T' ∧ Laid B B' q (q + len) (fun j => Value.int (lo8 (cv A (o + (j - q))))) ∧
      Steps p.tables e below (s₁.setTop (entryFrame m #[.ref b, .int (Int32.ofNat o), .ref d, .int (Int32.ofNat q), .int (Int32.ofNat len)] 7)) (T'.setTop (mkF m 3 #[.val (.ref b), .val (.int (Int32.ofNat (o + len))), .val (.ref d), .val (.int (Int32.ofNat (q + len))), .val (.int (Int32.ofNat len)), .val (.int (Int32.ofNat len)), z'] [])) := by
    intro r
    induction r with
    | zero =>
      intro i hi z hz Tl Bk Xl pl fl cl
      have hil : i = len := by omega
      rw [hil] at Xl fl cl
      exact ⟨Tl, Bk, z, Xl, pl, fl, cl⟩
    | succ r ih =>
      intro i hi z hz Tl Bk Xl pl fl cl
      have all := X0.warmed.alike.symm.trans Xl.warmed.alike
      have hAl := hA0.keep all (pl.other hne hA0.1)
      have hBk := hB0.like all pl.1 fl.1 fl.2.1 fl.2.2.1
      have hlt : q + i < Bk.slots.size := by rw [fl.2.2.1]; omega
      have c3 : Steps p.tables e below (s₁.setTop (entryFrame m #[.ref b, .int (Int32.ofNat o), .ref d, .int (Int32.ofNat q), .int (Int32.ofNat len)] 7)) (Tl.setTop (mkF m 12 #[.val (.ref b), .val (.int (Int32.ofNat (o + i))), .val (.ref d), .val (.int (Int32.ofNat (q + i))), .val (.int (Int32.ofNat len)), .val (.int (Int32.ofNat i)), z] [.int (Int32.ofNat (o + i)), .ref b])) := cl.trans (by
        refine XS.iload Xl.here hexec rfl (hb hbytes d3) rfl ?_
        refine XS.iload Xl.here hexec rfl (hb hbytes d5) rfl ?_
        refine XS.icmpNo Xl.here hexec rfl (hb hbytes d7) rfl (ii_ge_f (lt32 (by omega) (by omega))) ?_
        refine XS.aloadN Xl.here hexec rfl (hb hbytes d10) rfl rfl ?_
        refine XS.iloadN Xl.here hexec rfl (hb hbytes d11) rfl ?_
        exact Steps.refl _)
      have c4 : Steps p.tables e below (s₁.setTop (entryFrame m #[.ref b, .int (Int32.ofNat o), .ref d, .int (Int32.ofNat q), .int (Int32.ofNat len)] 7)) (Tl.setTop (mkF m 13 #[.val (.ref b), .val (.int (Int32.ofNat (o + i))), .val (.ref d), .val (.int (Int32.ofNat (q + i))), .val (.int (Int32.ofNat len)), .val (.int (Int32.ofNat i)), z] [.int (cv A (o + i))])) := c3.trans (by
        refine Xl.aget hexec hAl rfl (hA.get (i := o + i) (by omega)) rfl rfl (hb hbytes d12) ?_
        exact Steps.refl _)
      have c5 : Steps p.tables e below (s₁.setTop (entryFrame m #[.ref b, .int (Int32.ofNat o), .ref d, .int (Int32.ofNat q), .int (Int32.ofNat len)] 7)) (Tl.setTop (mkF m 15 #[.val (.ref b), .val (.int (Int32.ofNat (o + i))), .val (.ref d), .val (.int (Int32.ofNat (q + i))), .val (.int (Int32.ofNat len)), .val (.int (Int32.ofNat i)), .val (.int (cv A (o + i)))] [])) := c4.trans (by
        refine XS.istoreS Xl.here hexec rfl (hb hbytes d13) rfl rfl hz ?_
        exact Steps.refl _)
      have c6 : Steps p.tables e below (s₁.setTop (entryFrame m #[.ref b, .int (Int32.ofNat o), .ref d, .int (Int32.ofNat q), .int (Int32.ofNat len)] 7)) (Tl.setTop (mkF m 31 #[.val (.ref b), .val (.int (Int32.ofNat (o + i))), .val (.ref d), .val (.int (Int32.ofNat (q + i))), .val (.int (Int32.ofNat len)), .val (.int (Int32.ofNat i)), .val (.int (cv A (o + i)))] [.int (lo8 (cv A (o + i))), .int (Int32.ofNat (q + i)), .ref d])) := c5.trans (by
        refine XS.iload Xl.here hexec rfl (hb hbytes d15) rfl ?_
        refine sipushV Xl.here hexec rfl 255 (hb hbytes d17) (by decide) ?_
        refine XS.icmpYes Xl.here hexec rfl (pc0 := 20) rfl (hb hbytes d20) rfl (ii_le_t (hp i (by omega))) (by decide) rfl ?_
        refine XS.aloadN Xl.here hexec rfl (hb hbytes d26) rfl rfl ?_
        refine XS.iloadN Xl.here hexec rfl (hb hbytes d27) rfl ?_
        refine XS.iload Xl.here hexec rfl (hb hbytes d28) rfl ?_
        refine i2b Xl.here hexec rfl (hb hbytes d30) rfl ?_
        exact Steps.refl _)
      obtain ⟨T7, X7, p7, st7⟩ := Xl.aput hexec hBk rfl hlt rfl (fits_lo8 (cv A (o + i))) (g := (mkF m 31 #[.val (.ref b), .val (.int (Int32.ofNat (o + i))), .val (.ref d), .val (.int (Int32.ofNat (q + i))), .val (.int (Int32.ofNat len)), .val (.int (Int32.ofNat i)), .val (.int (cv A (o + i)))] [.int (lo8 (cv A (o + i))), .int (Int32.ofNat (q + i)), .ref d])) rfl (rest := []) rfl (hb hbytes d31)
      have c8 : Steps p.tables e below (s₁.setTop (entryFrame m #[.ref b, .int (Int32.ofNat o), .ref d, .int (Int32.ofNat q), .int (Int32.ofNat len)] 7)) (T7.setTop (mkF m 32 #[.val (.ref b), .val (.int (Int32.ofNat (o + i))), .val (.ref d), .val (.int (Int32.ofNat (q + i))), .val (.int (Int32.ofNat len)), .val (.int (Int32.ofNat i)), .val (.int (cv A (o + i)))] [])) := c6.trans (st7 _ (Steps.refl _))
      have c9 : Steps p.tables e below (s₁.setTop (entryFrame m #[.ref b, .int (Int32.ofNat o), .ref d, .int (Int32.ofNat q), .int (Int32.ofNat len)] 7)) (T7.setTop (mkF m 3 #[.val (.ref b), .val (.int (Int32.ofNat (o + i) + 1)), .val (.ref d), .val (.int (Int32.ofNat (q + i) + 1)), .val (.int (Int32.ofNat len)), .val (.int (Int32.ofNat i + 1)), .val (.int (cv A (o + i)))] [])) := c8.trans (by
        refine iincV X7.here hexec rfl 1 (hb hbytes d32) (by decide) rfl rfl ?_
        refine iincV X7.here hexec rfl 1 (hb hbytes d35) (by decide) rfl rfl ?_
        refine iincV X7.here hexec rfl 1 (hb hbytes d38) (by decide) rfl rfl ?_
        refine XS.goto X7.here hexec rfl (pc0 := 41) rfl (hb hbytes d41) (by decide) rfl ?_
        exact Steps.refl _)
      have c10 : Steps p.tables e below (s₁.setTop (entryFrame m #[.ref b, .int (Int32.ofNat o), .ref d, .int (Int32.ofNat q), .int (Int32.ofNat len)] 7)) (T7.setTop (mkF m 3 #[.val (.ref b), .val (.int (Int32.ofNat (o + (i + 1)))), .val (.ref d), .val (.int (Int32.ofNat (q + (i + 1)))), .val (.int (Int32.ofNat len)), .val (.int (Int32.ofNat (i + 1))), .val (.int (cv A (o + i)))] [])) := by
        have := c9
        rw [succ32, succ32, succ32] at this
        exact this
      exact ih (i + 1) (by omega) _ (Or.inr ⟨_, rfl, rfl⟩) T7 _ (by rw [copyLocs_step, ← List.append_assoc]; exact X7) (pl.trans p7) (fl.step (by omega) hlt (by simp)) c10
  obtain ⟨T9, B9, z9, X9, p9, f9, g9⟩ := loop len 0 (by omega) .unset (Or.inl rfl) s₁ B (by simpa [copyLocs] using X0) ⟨hB0.1, fun _ _ => rfl, rfl⟩ (Laid.zero _ _ _) c2
  have c11 : Steps p.tables e below (s₁.setTop (entryFrame m #[.ref b, .int (Int32.ofNat o), .ref d, .int (Int32.ofNat q), .int (Int32.ofNat len)] 7)) (T9.setTop (mkF m 46 #[.val (.ref b), .val (.int (Int32.ofNat (o + len))), .val (.ref d), .val (.int (Int32.ofNat (q + len))), .val (.int (Int32.ofNat len)), .val (.int (Int32.ofNat len)), z9] [.int (Int32.ofNat len)])) := g9.trans (by
    refine XS.iload X9.here hexec rfl (hb hbytes d3) rfl ?_
    refine XS.iload X9.here hexec rfl (hb hbytes d5) rfl ?_
    refine XS.icmpYes X9.here hexec rfl (pc0 := 7) rfl (hb hbytes d7) rfl (ii_ge_t (nlt32 (by omega) (Nat.le_refl _))) (by decide) rfl ?_
    refine XS.iload X9.here hexec rfl (hb hbytes d44) rfl ?_
    exact Steps.refl _)
  exact ⟨T9, some (.int (Int32.ofNat len)), _, _, _, X9, by simp, rfl, rfl, (fun h => by cases h), ⟨rfl, B9, p9.from hh0, f9⟩, fun fs hl => c11.trans (X9.ireturnOut hexec hret rfl (Or.inl rfl) (hb hbytes d46) hl)⟩
end Cmp5
namespace Cmp3
def yN : MethodName := ⟨"java/lang/StringUTF16", "compress", "([CII)[B"⟩
abbrev yB : ByteArray := jdk_52_method_16_code
theorem d0 : decode yB 0 = .ok (.iload_n 2, 1) := by decide +kernel
theorem d1 : decode yB 1 = .ok (.newarray .byte, 2) := by decide +kernel
theorem d3 : decode yB 3 = .ok (.astore_n 3, 1) := by decide +kernel
theorem d4 : decode yB 4 = .ok (.aload_n 0, 1) := by decide +kernel
theorem d5 : decode yB 5 = .ok (.iload_n 1, 1) := by decide +kernel
theorem d6 : decode yB 6 = .ok (.aload_n 3, 1) := by decide +kernel
theorem d7 : decode yB 7 = .ok (.iconst 0, 1) := by decide +kernel
theorem d8 : decode yB 8 = .ok (.iload_n 2, 1) := by decide +kernel
theorem d9 : decode yB 9 = .ok (.invokestatic 115, 3) := by decide +kernel
theorem d12 : decode yB 12 = .ok (.istore 4, 2) := by decide +kernel
theorem d14 : decode yB 14 = .ok (.iload 4, 2) := by decide +kernel
theorem d16 : decode yB 16 = .ok (.iload_n 2, 1) := by decide +kernel
theorem d17 : decode yB 17 = .ok (.if_icmp (.eq) 40, 3) := by decide +kernel
theorem d57 : decode yB 57 = .ok (.aload_n 3, 1) := by decide +kernel
theorem d58 : decode yB 58 = .ok (.areturn, 1) := by decide +kernel
def site : List Cond := [.arrayClass .byte, Cmp5.tab] ++ staticW U16 115 Cmp5.yN
def tab : Cond := tabOf yN yB 6 (some (.array .byte)) site
def P (b : Addr) (A : Cell) (o len : Nat) (args : Array Value) (s : State) : Prop := args = #[.ref b, .int (Int32.ofNat o), .int (Int32.ofNat len)] ∧ Ch b A s ∧ o + len ≤ A.slots.size ∧ len ≤ 536870912 ∧ ∀ i, i < len → ¬ 255 < cv A (o + i)
def E (b : Addr) (A : Cell) (o len : Nat) (r : Option Value) (s u : State) : Prop := NewArr .byte "[B" len (fun j => .int (lo8 (cv A (o + j)))) r s u ∧ u.heap.size = s.heap.size + 1
/-- no char of the range above 255: a new byte[] of their low bytes -/
theorem law (l : Launch) (b : Addr) (A : Cell) (o len : Nat) : Law l yN 3 3 1 18 yB 6 (some (.array .byte)) site (P b A o len) (E b A o len) [] 1 len := by
  refine Law.of_walk (plainFor_of_name (by decide +kernel)) (by decide +kernel) (by decide +kernel) (by decide) (fun _ _ h => by rw [h.1]; rfl) (fun _ U U' hal hh h => ⟨h.1, h.2.1.mv hal hh, h.2.2⟩) (fun r U U' V V' h1 hal h2 h => ⟨NewArr.mv r U U' V V' h1 hal h2 h.1, by rw [h1, h2]; exact h.2⟩) ?_
  intro p e s m args below meth c s₁ X0 hexec hbytes hml hret hlk hnm hown hh0 W hP
  obtain ⟨rfl, hA, l1, l2, hp⟩ := hP
  have a31 := hA.1.2.2.2
  have c1 : Steps p.tables e below (s₁.setTop (entryFrame m #[.ref b, .int (Int32.ofNat o), .int (Int32.ofNat len)] 6)) (s₁.setTop (mkF m 0 #[.val (.ref b), .val (.int (Int32.ofNat o)), .val (.int (Int32.ofNat len)), .unset, .unset, .unset] [])) := entry rfl
  have c2 : Steps p.tables e below (s₁.setTop (entryFrame m #[.ref b, .int (Int32.ofNat o), .int (Int32.ofNat len)] 6)) (s₁.setTop (mkF m 1 #[.val (.ref b), .val (.int (Int32.ofNat o)), .val (.int (Int32.ofNat len)), .unset, .unset, .unset] [.int (Int32.ofNat len)])) := c1.trans (by
    refine XS.iloadN X0.here hexec rfl (hb hbytes d0) rfl ?_
    exact Steps.refl _)
  obtain ⟨T3, B3, X3, ba3, bs3, bv3, bh3, bf3, st3⟩ := X0.anew hexec (atype := .byte) (wk W (.arrayClass .byte)) rfl (by show len * 1 ≤ _; omega) (by omega) (g := (mkF m 1 #[.val (.ref b), .val (.int (Int32.ofNat o)), .val (.int (Int32.ofNat len)), .unset, .unset, .unset] [.int (Int32.ofNat len)])) rfl (hb hbytes d1) (rest := []) rfl (Nat.le_refl _) (by show 0 + len ≤ len; omega)
  rw [hh0] at ba3 st3
  have kp3 : XT.Kept s T3 := (XT.Kept.of_eq hh0).push bh3
  have hA3 := hA.keep X3.warmed.alike (kp3 _ _ hA.1.1)
  have hne : b ≠ s.heap.size := hA.1.ne
  have c4 : Steps p.tables e below (s₁.setTop (entryFrame m #[.ref b, .int (Int32.ofNat o), .int (Int32.ofNat len)] 6)) (T3.setTop (mkF m 3 #[.val (.ref b), .val (.int (Int32.ofNat o)), .val (.int (Int32.ofNat len)), .unset, .unset, .unset] [.ref s.heap.size])) := c2.trans (st3 _ (Steps.refl _))
  have c5 : Steps p.tables e below (s₁.setTop (entryFrame m #[.ref b, .int (Int32.ofNat o), .int (Int32.ofNat len)] 6)) (T3.setTop (mkF m 9 #[.val (.ref b), .val (.int (Int32.ofNat o)), .val (.int (Int32.ofNat len)), .val (.ref s.heap.size), .unset, .unset] [.int (Int32.ofNat len), .int 0, .ref s.heap.size, .int (Int32.ofNat o), .ref b])) := c4.trans (by
    refine XS.astoreN X3.here hexec rfl (hb hbytes d3) rfl rfl rfl ?_
    refine XS.aloadN X3.here hexec rfl (hb hbytes d4) rfl rfl ?_
    refine XS.iloadN X3.here hexec rfl (hb hbytes d5) rfl ?_
    refine XS.aloadN X3.here hexec rfl (hb hbytes d6) rfl rfl ?_
    refine iconstV X3.here hexec rfl 0 (hb hbytes d7) (by decide) ?_
    refine XS.iloadN X3.here hexec rfl (hb hbytes d8) rfl ?_
    exact Steps.refl _)
  obtain ⟨v6, T6, X6, E6, g6⟩ := X3.callS hexec (Cmp5.law l b A s.heap.size B3 o 0 len) hown (wks W (staticW U16 115 Cmp5.yN)) (wk W Cmp5.tab) (W := 0) (Nat.le_of_ble_eq_true rfl) (Nat.le_of_ble_eq_true rfl) (Nat.le_refl _) (by show 0 + len + 0 ≤ len; omega) (g := (mkF m 9 #[.val (.ref b), .val (.int (Int32.ofNat o)), .val (.int (Int32.ofNat len)), .val (.ref s.heap.size), .unset, .unset] [.int (Int32.ofNat len), .int (Int32.ofNat 0), .ref s.heap.size, .int (Int32.ofNat o), .ref b])) rfl (by rw [hml]; rfl) c5 (argsL := [.ref b, .int (Int32.ofNat o), .ref s.heap.size, .int (Int32.ofNat 0), .int (Int32.ofNat len)]) (rest := []) rfl rfl (by show 2 * 0 + 0 ≤ _; decide) (hb hbytes d9) (⟨rfl, hA3, ba3, hne, l1, by rw [bs3]; simp, hp⟩)
  obtain ⟨rfl, B6, p6, f6⟩ := E6
  have c7 : Steps p.tables e below (s₁.setTop (entryFrame m #[.ref b, .int (Int32.ofNat o), .int (Int32.ofNat len)] 6)) (T6.setTop (mkF m 12 #[.val (.ref b), .val (.int (Int32.ofNat o)), .val (.int (Int32.ofNat len)), .val (.ref s.heap.size), .unset, .unset] [.int (Int32.ofNat len)])) := g6
  have c8 : Steps p.tables e below (s₁.setTop (entryFrame m #[.ref b, .int (Int32.ofNat o), .int (Int32.ofNat len)] 6)) (T6.setTop (mkF m 58 #[.val (.ref b), .val (.int (Int32.ofNat o)), .val (.int (Int32.ofNat len)), .val (.ref s.heap.size), .val (.int (Int32.ofNat len)), .unset] [.ref s.heap.size])) := c7.trans (by
    refine XS.istore X6.here hexec rfl (hb hbytes d12) rfl rfl ?_
    refine XS.iload X6.here hexec rfl (hb hbytes d14) rfl ?_
    refine XS.iloadN X6.here hexec rfl (hb hbytes d16) rfl ?_
    refine XS.icmpYes X6.here hexec rfl (pc0 := 17) rfl (hb hbytes d17) rfl (ii_eq_t rfl) (by decide) rfl ?_
    refine XS.aloadN X6.here hexec rfl (hb hbytes d57) rfl rfl ?_
    exact Steps.refl _)
  have X8 := X6.wide (L' := []) (cells' := 1) (slots' := len) (fun x hx hlt => by
    simp only [List.nil_append, copyLocs, List.mem_map, List.mem_range] at hx
    obtain ⟨i, -, rfl⟩ := hx
    exact absurd hlt (Nat.lt_irrefl _)) (Nat.le_refl _) (by omega)
  exact ⟨T6, some (.ref s.heap.size), _, _, _, X8, rfl, rfl, rfl, (fun h => by cases h), ⟨⟨rfl, B6, ba3.like (X3.warmed.alike.symm.trans X6.warmed.alike) p6.1 f6.1 f6.2.1 f6.2.2.1, f6.2.1.trans bv3, by rw [X6.warmed.alike.findClass, f6.1]; exact bf3, by rw [f6.2.2.1, bs3]; simp, fun j hj => by rw [f6.2.2.2 j, if_pos (by omega)]; rfl, kp3.put p6 (Nat.le_refl _)⟩, by rw [p6.2.2, bh3, hh0]; simp⟩, fun fs hl => c8.trans (X8.areturnOut hexec rfl hret rfl (hb hbytes d58) hl)⟩
end Cmp3
namespace CodL
def yN : MethodName := ⟨"java/lang/StringUTF16", "coderFromArrayLen", "([BI)B"⟩
abbrev yB : ByteArray := jdk_52_method_15_code
theorem d0 : decode yB 0 = .ok (.iload_n 1, 1) := by decide +kernel
theorem d1 : decode yB 1 = .ok (.aload_n 0, 1) := by decide +kernel
theorem d2 : decode yB 2 = .ok (.arraylength, 1) := by decide +kernel
theorem d3 : decode yB 3 = .ok (.isub, 1) := by decide +kernel
theorem d4 : decode yB 4 = .ok (.bipush 31, 2) := by decide +kernel
theorem d6 : decode yB 6 = .ok (.iushr, 1) := by decide +kernel
theorem d7 : decode yB 7 = .ok (.i2b, 1) := by decide +kernel
theorem d8 : decode yB 8 = .ok (.ireturn, 1) := by decide +kernel
def site : List Cond := []
def tab : Cond := tabOf yN yB 2 (some .byte) site
def P (d : Addr) (B : Cell) (args : Array Value) (s : State) : Prop := args = #[.ref d, .int (Int32.ofNat B.slots.size)] ∧ Arr .byte d B s
def E (r : Option Value) (s u : State) : Prop := XT.PureE (some (.int 0)) r s u
/-- an array as long as the number of chars: LATIN1 -/
theorem law (l : Launch) (d : Addr) (B : Cell) : Law l yN 2 2 0 0 yB 2 (some .byte) site (P d B) E [] 0 0 := by
  refine Law.of_walk (plainFor_of_name (by decide +kernel)) (by decide +kernel) (by decide +kernel) (by decide) (fun _ _ h => by rw [h.1]; rfl) (fun _ U U' hal hh h => ⟨h.1, h.2.mv hal hh⟩) (fun r U U' V V' h1 hal h2 h => XT.PureE.mv r U U' V V' h1 hal h2 h) ?_
  intro p e s m args below meth c s₁ X0 hexec hbytes hml hret hlk hnm hown hh0 W hP
  obtain ⟨rfl, hB⟩ := hP
  have hB0 := hB.mv X0.warmed.alike hh0
  have c1 : Steps p.tables e below (s₁.setTop (entryFrame m #[.ref d, .int (Int32.ofNat B.slots.size)] 2)) (s₁.setTop (mkF m 0 #[.val (.ref d), .val (.int (Int32.ofNat B.slots.size))] [])) := entry rfl
  have c2 : Steps p.tables e below (s₁.setTop (entryFrame m #[.ref d, .int (Int32.ofNat B.slots.size)] 2)) (s₁.setTop (mkF m 2 #[.val (.ref d), .val (.int (Int32.ofNat B.slots.size))] [.ref d, .int (Int32.ofNat B.slots.size)])) := c1.trans (by
    refine XS.iloadN X0.here hexec rfl (hb hbytes d0) rfl ?_
    refine XS.aloadN X0.here hexec rfl (hb hbytes d1) rfl rfl ?_
    exact Steps.refl _)
  have c3 : Steps p.tables e below (s₁.setTop (entryFrame m #[.ref d, .int (Int32.ofNat B.slots.size)] 2)) (s₁.setTop (mkF m 8 #[.val (.ref d), .val (.int (Int32.ofNat B.slots.size))] [.int (lo8 (ushr (Int32.ofNat B.slots.size - Int32.ofNat B.slots.size) 31))])) := c2.trans (by
    refine X0.alen hexec hB0 rfl rfl (hb hbytes d2) ?_
    refine XS.isub X0.here hexec rfl (hb hbytes d3) rfl ?_
    refine bipushV X0.here hexec rfl 31 (hb hbytes d4) (by decide) ?_
    refine iushr X0.here hexec rfl (hb hbytes d6) rfl ?_
    refine i2b X0.here hexec rfl (hb hbytes d7) rfl ?_
    exact Steps.refl _)
  have e0 : lo8 (ushr (Int32.ofNat B.slots.size - Int32.ofNat B.slots.size) 31) = 0 := by rw [Int32.sub_self]; decide
  rw [e0] at c3
  exact ⟨s₁, some (.int 0), _, _, _, X0, rfl, rfl, rfl, (fun h => by cases h), ⟨rfl, hh0⟩, fun fs hl => c3.trans (X0.ireturnOut hexec hret rfl (Or.inr (Or.inr (Or.inl rfl))) (hb hbytes d8) hl)⟩
end CodL
/-- the String at a is Latin-1 over a new byte[] (the heap's one new cell): the low bytes of the len chars of A from o on; every cell but a is kept -/
def Got (a : Addr) (D : Cell) (fV fC : Field) (A : Cell) (o len : Nat) (r : Option Value) (s u : State) : Prop := r = none ∧ ∃ D' V : Cell, Blank "java/lang/String" a D' u ∧ Same D D' [fV.slot, fC.slot] ∧ D'.slots[fV.slot]? = some (.ref s.heap.size) ∧ D'.slots[fC.slot]? = some (.int 0) ∧ Arr .byte s.heap.size V u ∧ V.vm = .none ∧ u.vm.findClass "[B" = some V.cls ∧ V.slots.size = len ∧ (∀ j, j < len → V.slots[j]? = some (.int (lo8 (cv A (o + j))))) ∧ (∀ (y : Addr) (c : Cell), y ≠ a → s.heap[y]? = some c → u.heap[y]? = some c) ∧ u.heap.size = s.heap.size + 1
theorem Got.mv {a : Addr} {D A : Cell} {fV fC : Field} {o len : Nat} : ∀ r (U U' V V' : State), U'.heap = U.heap → V.vm.Alike V'.vm → V'.heap = V.heap → Got a D fV fC A o len r U V → Got a D fV fC A o len r U' V' :=
  fun r U U' V V' h1 hal h2 ⟨e0, D', X, a1, a2, a3, a4, a5, a6, a7, a8, a9, a10, a11⟩ => ⟨e0, D', X, a1.mv hal h2, a2, by rw [h1]; exact a3, a4, by rw [h1]; exact a5.mv hal h2, a6, by rw [hal.findClass]; exact a7, a8, a9, by rw [h1, h2]; exact a10, by rw [h1, h2]; exact a11⟩
namespace New4
def yN : MethodName := ⟨"java/lang/String", "<init>", "([CIILjava/lang/Void;)V"⟩
abbrev yB : ByteArray := jdk_42_method_149_code
theorem d0 : decode yB 0 = .ok (.aload_n 0, 1) := by decide +kernel
theorem d1 : decode yB 1 = .ok (.invokespecial 1, 3) := by decide +kernel
theorem d4 : decode yB 4 = .ok (.iload_n 3, 1) := by decide +kernel
theorem d5 : decode yB 5 = .ok (.ifCond (.ne) 22, 3) := by decide +kernel
theorem d27 : decode yB 27 = .ok (.getstatic 38, 3) := by decide +kernel
theorem d30 : decode yB 30 = .ok (.ifCond (.eq) 28, 3) := by decide +kernel
theorem d33 : decode yB 33 = .ok (.aload_n 1, 1) := by decide +kernel
theorem d34 : decode yB 34 = .ok (.iload_n 2, 1) := by decide +kernel
theorem d35 : decode yB 35 = .ok (.iload_n 3, 1) := by decide +kernel
theorem d36 : decode yB 36 = .ok (.invokestatic 177, 3) := by decide +kernel
theorem d39 : decode yB 39 = .ok (.astore 5, 2) := by decide +kernel
theorem d41 : decode yB 41 = .ok (.aload_n 0, 1) := by decide +kernel
theorem d42 : decode yB 42 = .ok (.aload 5, 2) := by decide +kernel
theorem d44 : decode yB 44 = .ok (.iload_n 3, 1) := by decide +kernel
theorem d45 : decode yB 45 = .ok (.invokestatic 47, 3) := by decide +kernel
theorem d48 : decode yB 48 = .ok (.putfield 15, 3) := by decide +kernel
theorem d51 : decode yB 51 = .ok (.aload_n 0, 1) := by decide +kernel
theorem d52 : decode yB 52 = .ok (.aload 5, 2) := by decide +kernel
theorem d54 : decode yB 54 = .ok (.putfield 9, 3) := by decide +kernel
theorem d57 : decode yB 57 = .ok (.return_, 1) := by decide +kernel
def site : List Cond := [.fieldLink "java/lang/String" 38 "java/lang/String" "COMPACT_STRINGS" "Z", Cmp3.tab, CodL.tab, .laysFinal "java/lang/String" "java/lang/String" "value" "[B", .fieldLink "java/lang/String" 9 "java/lang/String" "value" "[B", .laysFinal "java/lang/String" "java/lang/String" "coder" "B", .fieldLink "java/lang/String" 15 "java/lang/String" "coder" "B"] ++ objW "java/lang/String" 1 ++ staticW "java/lang/String" 177 Cmp3.yN ++ staticW "java/lang/String" 47 CodL.yN
def tab : Cond := tabOf yN yB 6 none site
def P (a : Addr) (D : Cell) (fV fC : Field) (b : Addr) (A : Cell) (z : Int32) (o len : Nat) (args : Array Value) (s : State) : Prop := args = #[.ref a, .ref b, .int (Int32.ofNat o), .int (Int32.ofNat len), .null] ∧ Blank "java/lang/String" a D s ∧ Found "java/lang/String" "value" "[B" fV s ∧ Found "java/lang/String" "coder" "B" fC s ∧ Ch b A s ∧ StaticIs s "java/lang/String" "COMPACT_STRINGS" "Z" (.int z) ∧ ¬ z = 0 ∧ 0 < len ∧ o + len ≤ A.slots.size ∧ len ≤ 536870912 ∧ ∀ i, i < len → ¬ 255 < cv A (o + i)
def E (a : Addr) (D : Cell) (fV fC : Field) (A : Cell) (o len : Nat) (r : Option Value) (s u : State) : Prop := Got a D fV fC A o len r s u
/-- len > 0, no char of the range above 255: a Latin-1 String of their low bytes -/
theorem law (l : Launch) (a : Addr) (D : Cell) (fV fC : Field) (b : Addr) (A : Cell) (z : Int32) (o len : Nat) : Law l yN 5 4 2 35 yB 6 none site (P a D fV fC b A z o len) (E a D fV fC A o len) [⟨a, fC.slot⟩, ⟨a, fV.slot⟩] 1 len := by
  refine Law.of_walk (plainFor_of_name (by decide +kernel)) (by decide +kernel) (by decide +kernel) (by decide) (fun _ _ h => by rw [h.1]; rfl) (fun _ U U' hal hh h => ⟨h.1, h.2.1.mv hal hh, h.2.2.1.al hal, h.2.2.2.1.al hal, h.2.2.2.2.1.mv hal hh, h.2.2.2.2.2.1.there hal hh, h.2.2.2.2.2.2⟩) (fun r U U' V V' h1 hal h2 h => Got.mv r U U' V V' h1 hal h2 h) ?_
  intro p e s m args below meth c s₁ X0 hexec hbytes hml hret hlk hnm hown hh0 W hP
  obtain ⟨rfl, hB, f1, f2, hA, s1, hz, l0, l1, l2, hp⟩ := hP
  have a31 := hA.1.2.2.2
  have c1 : Steps p.tables e below (s₁.setTop (entryFrame m #[.ref a, .ref b, .int (Int32.ofNat o), .int (Int32.ofNat len), .null] 6)) (s₁.setTop (mkF m 0 #[.val (.ref a), .val (.ref b), .val (.int (Int32.ofNat o)), .val (.int (Int32.ofNat len)), .val .null, .unset] [])) := entry rfl
  have c2 : Steps p.tables e below (s₁.setTop (entryFrame m #[.ref a, .ref b, .int (Int32.ofNat o), .int (Int32.ofNat len), .null] 6)) (s₁.setTop (mkF m 1 #[.val (.ref a), .val (.ref b), .val (.int (Int32.ofNat o)), .val (.int (Int32.ofNat len)), .val .null, .unset] [.ref a])) := c1.trans (by
    refine XS.aloadN X0.here hexec rfl (hb hbytes d0) rfl rfl ?_
    exact Steps.refl _)
  obtain ⟨T3, X3, q3, st3⟩ := X0.oinit hexec hown (wks W (objW "java/lang/String" 1)) (g := (mkF m 1 #[.val (.ref a), .val (.ref b), .val (.int (Int32.ofNat o)), .val (.int (Int32.ofNat len)), .val .null, .unset] [.ref a])) rfl (by rw [hml]; rfl) (rest := []) rfl (hb hbytes d1) (W := 0) (by show 2 * 0 + 0 ≤ _; decide) (Nat.le_of_ble_eq_true rfl) (Nat.le_of_ble_eq_true rfl)
  have hh3 := q3.trans hh0
  have c4 : Steps p.tables e below (s₁.setTop (entryFrame m #[.ref a, .ref b, .int (Int32.ofNat o), .int (Int32.ofNat len), .null] 6)) (T3.setTop (mkF m 27 #[.val (.ref a), .val (.ref b), .val (.int (Int32.ofNat o)), .val (.int (Int32.ofNat len)), .val .null, .unset] [])) := (c2.trans (st3 _ (Steps.refl _))).trans (by
    refine XS.iloadN X3.here hexec rfl (hb hbytes d4) rfl ?_
    refine XS.ifYes X3.here hexec rfl (pc0 := 5) rfl (hb hbytes d5) rfl (i0_ne_t (nz32 (by omega) l0)) (by decide) rfl ?_
    exact Steps.refl _)
  obtain ⟨T5, X5, q5, st5⟩ := X3.sget hexec hown (wk W (.fieldLink "java/lang/String" 38 "java/lang/String" "COMPACT_STRINGS" "Z")) s1 (fun _ _ h => by rw [hh3]; exact h) (g := (mkF m 27 #[.val (.ref a), .val (.ref b), .val (.int (Int32.ofNat o)), .val (.int (Int32.ofNat len)), .val .null, .unset] [])) rfl (hb hbytes d27)
  have hh5 := q5.trans hh3
  have c6 : Steps p.tables e below (s₁.setTop (entryFrame m #[.ref a, .ref b, .int (Int32.ofNat o), .int (Int32.ofNat len), .null] 6)) (T5.setTop (mkF m 30 #[.val (.ref a), .val (.ref b), .val (.int (Int32.ofNat o)), .val (.int (Int32.ofNat len)), .val .null, .unset] [.int z])) := c4.trans (st5 _ (Steps.refl _))
  have c7 : Steps p.tables e below (s₁.setTop (entryFrame m #[.ref a, .ref b, .int (Int32.ofNat o), .int (Int32.ofNat len), .null] 6)) (T5.setTop (mkF m 36 #[.val (.ref a), .val (.ref b), .val (.int (Int32.ofNat o)), .val (.int (Int32.ofNat len)), .val .null, .unset] [.int (Int32.ofNat len), .int (Int32.ofNat o), .ref b])) := c6.trans (by
    refine XS.ifNo X5.here hexec rfl (hb hbytes d30) rfl (i0_eq_f hz) ?_
    refine XS.aloadN X5.here hexec rfl (hb hbytes d33) rfl rfl ?_
    refine XS.iloadN X5.here hexec rfl (hb hbytes d34) rfl ?_
    refine XS.iloadN X5.here hexec rfl (hb hbytes d35) rfl ?_
    exact Steps.refl _)
  obtain ⟨v8, T8, X8, E8, g8⟩ := X5.callS hexec (Cmp3.law l b A o len) hown (wks W (staticW "java/lang/String" 177 Cmp3.yN)) (wk W Cmp3.tab) (W := 0) (Nat.le_of_ble_eq_true rfl) (Nat.le_of_ble_eq_true rfl) (Nat.le_refl _) (by show 0 + len ≤ len; omega) (g := (mkF m 36 #[.val (.ref a), .val (.ref b), .val (.int (Int32.ofNat o)), .val (.int (Int32.ofNat len)), .val .null, .unset] [.int (Int32.ofNat len), .int (Int32.ofNat o), .ref b])) rfl (by rw [hml]; rfl) c7 (argsL := [.ref b, .int (Int32.ofNat o), .int (Int32.ofNat len)]) (rest := []) rfl rfl (by show 2 * 0 + 0 ≤ _; decide) (hb hbytes d36) (⟨rfl, hA.mv X5.warmed.alike hh5, l1, l2, hp⟩)
  obtain ⟨e8, z8⟩ := E8
  obtain ⟨rfl, N, n1, n2, n3, n4, n5, n6⟩ := NewArr.mv _ T5 s _ _ hh5.symm (Vm.Alike.refl _) rfl e8
  rw [hh5] at z8
  have hB1 := hB.keep X8.warmed.alike (n6 _ _ hB.1)
  have hne : s.heap.size ≠ a := (Nat.ne_of_lt (Array.getElem?_eq_some_iff.mp hB.1).1).symm
  have c9 : Steps p.tables e below (s₁.setTop (entryFrame m #[.ref a, .ref b, .int (Int32.ofNat o), .int (Int32.ofNat len), .null] 6)) (T8.setTop (mkF m 39 #[.val (.ref a), .val (.ref b), .val (.int (Int32.ofNat o)), .val (.int (Int32.ofNat len)), .val .null, .unset] [.ref s.heap.size])) := g8
  have c10 : Steps p.tables e below (s₁.setTop (entryFrame m #[.ref a, .ref b, .int (Int32.ofNat o), .int (Int32.ofNat len), .null] 6)) (T8.setTop (mkF m 45 #[.val (.ref a), .val (.ref b), .val (.int (Int32.ofNat o)), .val (.int (Int32.ofNat len)), .val .null, .val (.ref s.heap.size)] [.int (Int32.ofNat N.slots.size), .ref s.heap.size, .ref a])) := by
    have hc : Steps p.tables e below (s₁.setTop (entryFrame m #[.ref a, .ref b, .int (Int32.ofNat o), .int (Int32.ofNat len), .null] 6)) (T8.setTop (mkF m 45 #[.val (.ref a), .val (.ref b), .val (.int (Int32.ofNat o)), .val (.int (Int32.ofNat len)), .val .null, .val (.ref s.heap.size)] [.int (Int32.ofNat len), .ref s.heap.size, .ref a])) := c9.trans (by
      refine XS.astore X8.here hexec rfl (hb hbytes d39) rfl rfl rfl ?_
      refine XS.aloadN X8.here hexec rfl (hb hbytes d41) rfl rfl ?_
      refine XS.aload X8.here hexec rfl (hb hbytes d42) rfl rfl ?_
      refine XS.iloadN X8.here hexec rfl (hb hbytes d44) rfl ?_
      exact Steps.refl _)
    rw [n4]; exact hc
  obtain ⟨v11, T11, X11, E11, g11⟩ := X8.callS hexec (CodL.law l s.heap.size N) hown (wks W (staticW "java/lang/String" 47 CodL.yN)) (wk W CodL.tab) (W := 1) (Nat.le_of_ble_eq_true rfl) (Nat.le_of_ble_eq_true rfl) (Nat.le_refl _) (by show 0 + len + 0 ≤ len; omega) (g := (mkF m 45 #[.val (.ref a), .val (.ref b), .val (.int (Int32.ofNat o)), .val (.int (Int32.ofNat len)), .val .null, .val (.ref s.heap.size)] [.int (Int32.ofNat N.slots.size), .ref s.heap.size, .ref a])) rfl (by rw [hml]; rfl) c10 (argsL := [.ref s.heap.size, .int (Int32.ofNat N.slots.size)]) (rest := [.ref a]) rfl rfl (by show 2 * 0 + (1 + 0) ≤ _; decide) (hb hbytes d45) (⟨rfl, n1⟩)
  obtain ⟨rfl, q11⟩ := E11
  have hB11 := hB1.mv (X8.warmed.alike.symm.trans X11.warmed.alike) q11
  have c12 : Steps p.tables e below (s₁.setTop (entryFrame m #[.ref a, .ref b, .int (Int32.ofNat o), .int (Int32.ofNat len), .null] 6)) (T11.setTop (mkF m 48 #[.val (.ref a), .val (.ref b), .val (.int (Int32.ofNat o)), .val (.int (Int32.ofNat len)), .val .null, .val (.ref s.heap.size)] [.int 0, .ref a])) := g11
  obtain ⟨T13, X13, p13, bl13, sl13, st13⟩ := X11.finit hexec hown (wk W (.fieldLink "java/lang/String" 15 "java/lang/String" "coder" "B")) (Or.inr ⟨_, (wk W (.laysFinal "java/lang/String" "java/lang/String" "coder" "B"))⟩) (Or.inl ⟨rfl, hnm⟩) f2 (Or.inl rfl) hB11 (t := .byte) (by decide +kernel) rfl (g := (mkF m 48 #[.val (.ref a), .val (.ref b), .val (.int (Int32.ofNat o)), .val (.int (Int32.ofNat len)), .val .null, .val (.ref s.heap.size)] [.int 0, .ref a])) rfl (rest := []) rfl (hb hbytes d48)
  have c14 : Steps p.tables e below (s₁.setTop (entryFrame m #[.ref a, .ref b, .int (Int32.ofNat o), .int (Int32.ofNat len), .null] 6)) (T13.setTop (mkF m 54 #[.val (.ref a), .val (.ref b), .val (.int (Int32.ofNat o)), .val (.int (Int32.ofNat len)), .val .null, .val (.ref s.heap.size)] [.ref s.heap.size, .ref a])) := (c12.trans (st13 _ (Steps.refl _))).trans (by
    refine XS.aloadN X13.here hexec rfl (hb hbytes d51) rfl rfl ?_
    refine XS.aload X13.here hexec rfl (hb hbytes d52) rfl rfl ?_
    exact Steps.refl _)
  obtain ⟨T15, X15, p15, bl15, sl15, st15⟩ := X13.finit hexec hown (wk W (.fieldLink "java/lang/String" 9 "java/lang/String" "value" "[B")) (Or.inr ⟨_, (wk W (.laysFinal "java/lang/String" "java/lang/String" "value" "[B"))⟩) (Or.inl ⟨rfl, hnm⟩) f1 (Or.inl rfl) bl13 (t := (.array .byte)) (by decide +kernel) rfl (g := (mkF m 54 #[.val (.ref a), .val (.ref b), .val (.int (Int32.ofNat o)), .val (.int (Int32.ofNat len)), .val .null, .val (.ref s.heap.size)] [.ref s.heap.size, .ref a])) rfl (rest := []) rfl (hb hbytes d54)
  have c16 : Steps p.tables e below (s₁.setTop (entryFrame m #[.ref a, .ref b, .int (Int32.ofNat o), .int (Int32.ofNat len), .null] 6)) (T15.setTop (mkF m 57 #[.val (.ref a), .val (.ref b), .val (.int (Int32.ofNat o)), .val (.int (Int32.ofNat len)), .val .null, .val (.ref s.heap.size)] [])) := c14.trans (st15 _ (Steps.refl _))
  have ap := apart (Or.inr ⟨_, (wk W (.laysFinal "java/lang/String" "java/lang/String" "value" "[B"))⟩) (Or.inr ⟨_, (wk W (.laysFinal "java/lang/String" "java/lang/String" "coder" "B"))⟩) f1 f2 (t₁ := .array .byte) (t₂ := .byte) (by decide +kernel) (by decide +kernel) (by decide)
  have al := X8.warmed.alike.symm.trans X15.warmed.alike
  have n7 : T11.heap[s.heap.size]? = some N := by rw [q11]; exact n1.1
  exact ⟨T15, none, _, _, _, X15, by simp, rfl, by omega, (fun _ => rfl), ⟨rfl, _, N, bl15, ((Same.refl D _).set _ (by simp)).set _ (by simp), sl15, (Cell.slots_setSlot_ne _ ap).trans sl13, n1.keep al (p15.other hne (p13.other hne n7)), n2, by rw [al.findClass]; exact n3, n4, n5, fun y c h1 h2 => p15.other h1 (p13.other h1 (by rw [q11]; exact n6 y c h2)), by rw [p15.2.2, p13.2.2, q11]; exact z8⟩, fun fs hl => c16.trans (X15.returnOut hexec hret (hb hbytes d57) hl)⟩
end New4
namespace New1
def yN : MethodName := ⟨"java/lang/String", "<init>", "([C)V"⟩
abbrev yB : ByteArray := jdk_42_method_3_code
theorem d0 : decode yB 0 = .ok (.aload_n 0, 1) := by decide +kernel
theorem d1 : decode yB 1 = .ok (.aload_n 1, 1) := by decide +kernel
theorem d2 : decode yB 2 = .ok (.iconst 0, 1) := by decide +kernel
theorem d3 : decode yB 3 = .ok (.aload_n 1, 1) := by decide +kernel
theorem d4 : decode yB 4 = .ok (.arraylength, 1) := by decide +kernel
theorem d5 : decode yB 5 = .ok (.aconst_null, 1) := by decide +kernel
theorem d6 : decode yB 6 = .ok (.invokespecial 27, 3) := by decide +kernel
theorem d9 : decode yB 9 = .ok (.return_, 1) := by decide +kernel
def site : List Cond := [New4.tab] ++ initW "java/lang/String" 27 New4.yN
def tab : Cond := tabOf yN yB 2 none site
def P (a : Addr) (D : Cell) (fV fC : Field) (b : Addr) (A : Cell) (z : Int32) (args : Array Value) (s : State) : Prop := args = #[.ref a, .ref b] ∧ Blank "java/lang/String" a D s ∧ Found "java/lang/String" "value" "[B" fV s ∧ Found "java/lang/String" "coder" "B" fC s ∧ Ch b A s ∧ StaticIs s "java/lang/String" "COMPACT_STRINGS" "Z" (.int z) ∧ ¬ z = 0 ∧ 0 < A.slots.size ∧ A.slots.size ≤ 536870912 ∧ ∀ i, i < A.slots.size → ¬ 255 < cv A i
def E (a : Addr) (D : Cell) (fV fC : Field) (A : Cell) (r : Option Value) (s u : State) : Prop := Got a D fV fC A 0 A.slots.size r s u
/-- new String(chars), not empty, no char above 255: a Latin-1 String of their low bytes -/
theorem law (l : Launch) (a : Addr) (D : Cell) (fV fC : Field) (b : Addr) (A : Cell) (z : Int32) : Law l yN 2 1 3 52 yB 2 none site (P a D fV fC b A z) (E a D fV fC A) [⟨a, fC.slot⟩, ⟨a, fV.slot⟩] 1 A.slots.size := by
  refine Law.of_walk (plainFor_of_name (by decide +kernel)) (by decide +kernel) (by decide +kernel) (by decide) (fun _ _ h => by rw [h.1]; rfl) (fun _ U U' hal hh h => ⟨h.1, h.2.1.mv hal hh, h.2.2.1.al hal, h.2.2.2.1.al hal, h.2.2.2.2.1.mv hal hh, h.2.2.2.2.2.1.there hal hh, h.2.2.2.2.2.2⟩) (fun r U U' V V' h1 hal h2 h => Got.mv r U U' V V' h1 hal h2 h) ?_
  intro p e s m args below meth c s₁ X0 hexec hbytes hml hret hlk hnm hown hh0 W hP
  obtain ⟨rfl, hB, f1, f2, hA, s1, hz, l0, l2, hp⟩ := hP
  have c1 : Steps p.tables e below (s₁.setTop (entryFrame m #[.ref a, .ref b] 2)) (s₁.setTop (mkF m 0 #[.val (.ref a), .val (.ref b)] [])) := entry rfl
  have c2 : Steps p.tables e below (s₁.setTop (entryFrame m #[.ref a, .ref b] 2)) (s₁.setTop (mkF m 6 #[.val (.ref a), .val (.ref b)] [.null, .int (Int32.ofNat A.slots.size), .int 0, .ref b, .ref a])) := c1.trans (by
    refine XS.aloadN X0.here hexec rfl (hb hbytes d0) rfl rfl ?_
    refine XS.aloadN X0.here hexec rfl (hb hbytes d1) rfl rfl ?_
    refine iconstV X0.here hexec rfl 0 (hb hbytes d2) (by decide) ?_
    refine XS.aloadN X0.here hexec rfl (hb hbytes d3) rfl rfl ?_
    refine X0.alen hexec (hA.1.mv X0.warmed.alike hh0) rfl rfl (hb hbytes d4) ?_
    refine XS.aconstNull X0.here hexec rfl (hb hbytes d5) ?_
    exact Steps.refl _)
  obtain ⟨v3, T3, X3, E3, g3⟩ := X0.callN hexec (New4.law l a D fV fC b A z 0 A.slots.size) rfl hown (wks W (initW "java/lang/String" 27 New4.yN)) (W New4.tab (by simp only [site, List.mem_cons, List.mem_append, true_or, or_true])) (W := 0) (Nat.le_of_ble_eq_true rfl) (Nat.le_of_ble_eq_true rfl) (Nat.le_refl _) (by show 0 + A.slots.size ≤ A.slots.size; omega) (g := (mkF m 6 #[.val (.ref a), .val (.ref b)] [.null, .int (Int32.ofNat A.slots.size), .int (Int32.ofNat 0), .ref b, .ref a])) rfl (by rw [hml]; rfl) c2 (argsL := [.ref b, .int (Int32.ofNat 0), .int (Int32.ofNat A.slots.size), .null]) (rest := []) rfl rfl (by show 2 * 0 + 0 ≤ _; decide) (hb hbytes d6) (⟨rfl, hB.mv X0.warmed.alike hh0, f1.al X0.warmed.alike, f2.al X0.warmed.alike, hA.mv X0.warmed.alike hh0, s1.there X0.warmed.alike hh0, hz, l0, by omega, l2, fun i hi => by rw [Nat.zero_add]; exact hp i hi⟩)
  have e0 := Got.mv _ s₁ s _ _ hh0.symm (Vm.Alike.refl _) rfl E3
  obtain rfl := e0.1
  have c4 : Steps p.tables e below (s₁.setTop (entryFrame m #[.ref a, .ref b] 2)) (T3.setTop (mkF m 9 #[.val (.ref a), .val (.ref b)] [])) := g3
  exact ⟨T3, none, _, _, _, X3, by simp, rfl, by omega, (fun _ => rfl), e0, fun fs hl => c4.trans (X3.returnOut hexec hret (hb hbytes d9) hl)⟩
theorem pays {l : Launch} {R : Room} {p : Program} {e : Env} {below : List Frame} {s : State} {sargs : Array Value} {len W : Nat} (a : Addr) (D : Cell) (fV fC : Field) (b : Addr) (A : Cell) (z : Int32) (htab : tab.before sargs s = true) (hfr : 4 ≤ R.frames) (hlo : W + 65 ≤ R.locals) :
    Back l R p e below s sargs yN len W (fun A₁ a₁ => A₁.cells + 1 ≤ R.cells ∧ A₁.slots + A.slots.size ≤ R.slots ∧ P a D fV fC b A z a₁ A₁.U) (fun A₁ _ v₁ B₁ => E a D fV fC A v₁ A₁.U B₁.U ∧ B₁.locs = A₁.locs ++ [⟨a, fC.slot⟩, ⟨a, fV.slot⟩] ∧ B₁.cells = A₁.cells + 1 ∧ B₁.slots = A₁.slots + A.slots.size) :=
  (law l a D fV fC b A z).pays htab hfr (by omega)
end New1
/-- the byte, read back as charAt reads it, is the char -/
theorem lo8_mask {x : Int32} (h0 : ¬ x < 0) (h1 : ¬ 255 < x) : lo8 x &&& 255 = x := by
  have t : ∀ k : Fin 256, lo8 (Int32.ofNat k.val) &&& 255 = Int32.ofNat k.val := by decide +kernel
  rw [Int32.lt_iff_toInt_lt] at h0 h1
  have e0 : (0 : Int32).toInt = 0 := rfl
  have e1 : (255 : Int32).toInt = 255 := rfl
  obtain ⟨k, hk⟩ : ∃ k : Nat, x.toInt = k := ⟨x.toInt.toNat, by omega⟩
  have hx : x = Int32.ofNat k := Int32.toInt_inj.mp (by rw [hk, Int32.toInt_ofNat_small (by omega)])
  rw [hx]
  exact t ⟨k, by omega⟩
end StrChars
namespace StrChars.Road
open Jvm Sem ClassFile Op Lib Jvm.Stand Jvm.Free Jvm.Free.XT
open Jvm.Lib.Cold (StaticIs)
abbrev ST : String := "java/lang/String"
/-- every table word that New1's law asks, flat -/
abbrev words : List Jvm.Cond := [.code New1.yN New1.yB 2 none, .initialized ST, .methodLink ST 27 New4.yN, .instanceMethod New4.yN,
  .code New4.yN New4.yB 6 none, .fieldLink ST 38 ST "COMPACT_STRINGS" "Z", .laysFinal ST ST "value" "[B", .fieldLink ST 9 ST "value" "[B", .laysFinal ST ST "coder" "B", .fieldLink ST 15 ST "coder" "B",
  .methodLink ST 1 Lib.objectInit, .instanceMethod Lib.objectInit, .code Lib.objectInit ⟨#[0xb1]⟩ 1 none, .methodLink ST 177 Cmp3.yN, .static Cmp3.yN, .methodLink ST 47 CodL.yN, .static CodL.yN,
  .code Cmp3.yN Cmp3.yB 6 (some (.array .byte)), .initialized U16, .arrayClass .byte, .methodLink U16 115 Cmp5.yN, .static Cmp5.yN, .code Cmp5.yN Cmp5.yB 7 (some .int), .code CodL.yN CodL.yB 2 (some .byte)]
theorem tab_of {a : Array Value} {s : State} (h : ∀ w ∈ words, w.before a s = true) : New1.tab.before a s = true := by
  have h5 : Cmp5.tab.before a s = true := unparts (wk h (.code Cmp5.yN Cmp5.yB 7 (some .int))) (wks h (.initialized Cmp5.yN.cls :: Cmp5.site))
  have hc : CodL.tab.before a s = true := unparts (wk h (.code CodL.yN CodL.yB 2 (some .byte))) (wks h (.initialized CodL.yN.cls :: CodL.site))
  have q5 : ∀ w ∈ Cmp5.tab :: words, w.before a s = true := fun w hw => (List.mem_cons.mp hw).elim (fun e => e ▸ h5) (h w)
  have h3 : Cmp3.tab.before a s = true := unparts (wk q5 (.code Cmp3.yN Cmp3.yB 6 (some (.array .byte)))) (wks q5 (.initialized Cmp3.yN.cls :: Cmp3.site))
  have q3 : ∀ w ∈ Cmp3.tab :: CodL.tab :: words, w.before a s = true := fun w hw => (List.mem_cons.mp hw).elim (fun e => e ▸ h3) fun hw => (List.mem_cons.mp hw).elim (fun e => e ▸ hc) (h w)
  have h4 : New4.tab.before a s = true := unparts (wk q3 (.code New4.yN New4.yB 6 none)) (wks q3 (.initialized New4.yN.cls :: New4.site))
  have q4 : ∀ w ∈ New4.tab :: words, w.before a s = true := fun w hw => (List.mem_cons.mp hw).elim (fun e => e ▸ h4) (h w)
  exact unparts (wk q4 (.code New1.yN New1.yB 2 none)) (wks q4 (.initialized New1.yN.cls :: New1.site))
/-- the words ride from the start Z to the walk's own state -/
theorem moved {Z s : State} {a0 args : Array Value} (hZ : Z.Warmed39 s.vm) (hw : ∀ d ∈ words, d.before a0 Z = true) : ∀ d ∈ words, d.before args s = true := fun d hd => by
  have q := hw d hd
  have t : ∀ d ∈ words, d = .arrayClass .byte ∨ (d.onTables && d.keepsFace) = true := by decide +kernel
  rcases t d hd with rfl | t
  · exact RoadKit.mvA hZ q
  · exact RoadKit.mv hZ q t
/-- WHAT COMES BACK, over the tables of the start Z: h the heap at the call, h' behind it -/
def Q (Z : State) (x : Addr) (A : Cell) (h : Heap) (v : Option Value) (h' : Heap) (L : List Loc) : Prop := v = none ∧ (∀ y ∈ L, y.base = x) ∧ RoadKit.Keep h h' [x] ∧ h'.size = h.size + 1 ∧ RoadKit.Exa Z h' x ST ∧ RoadKit.Fld Z h' x ST "value" "[B" (.ref h.size) ∧ RoadKit.Fld Z h' x ST "coder" "B" (.int 0) ∧
  (∃ V : Cell, RoadKit.Arr Z h' h.size V .byte ∧ V.vm = .none ∧ Z.vm.findClass "[B" = some V.cls ∧ V.slots.size = A.slots.size ∧ ∀ j, j < A.slots.size → V.slots[j]? = some (.int (lo8 (cv A j)))) ∧
  ∀ (O n d : String) (w : Value), RoadKit.Fld Z h x O n d w → RoadKit.slotOf Z O n d ≠ RoadKit.slotOf Z ST "value" "[B" → RoadKit.slotOf Z O n d ≠ RoadKit.slotOf Z ST "coder" "B" → RoadKit.Fld Z h' x O n d w
/-- **new String(chars) AT A CALL, IN THE ROAD'S FORM**: for specialBack behind newO: x the fresh String, b the char[] with the cell A -/
theorem back {p : Program} {l : Launch} {e : Env} {R : Room} {s : State} {args : Array Value} {below : List Frame} {len W : Nat} {Z : State} {a0 : Array Value} {h : Heap} (hZ : Z.Warmed39 s.vm) (hw : ∀ d ∈ words, d.before a0 Z = true) {kI : Nat} (wi : (Jvm.Cond.instantiable ST kI).before a0 Z = true)
    {x b : Addr} {A : Cell} {z : Int32} {v0 c0 : Value} (E : RoadKit.Exa Z h x ST) (V : RoadKit.Fld Z h x ST "value" "[B" v0) (C : RoadKit.Fld Z h x ST "coder" "B" c0) (K : RoadKit.Arr Z h b A .char) (hty : Typed .char A) (S : RoadKit.Sta Z h ST "COMPACT_STRINGS" "Z" (.int z)) (hz : ¬ z = 0)
    (l0 : 0 < A.slots.size) (l2 : A.slots.size ≤ 536870912) (hp : ∀ i, i < A.slots.size → ¬ 255 < cv A i) (hfr : 4 ≤ R.frames) (hlo : W + 65 ≤ R.locals) :
    Back l R p e below s args New1.yN len W (fun P a => a = #[.ref x, .ref b] ∧ P.U.heap = h ∧ P.cells + 1 ≤ R.cells ∧ P.slots + A.slots.size ≤ R.slots)
      (fun P _ v B => ∃ L, Q Z x A h v B.U.heap L ∧ B.locs = P.locs ++ L ∧ B.cells = P.cells + 1 ∧ B.slots = P.slots + A.slots.size) := by
  intro m meth c P g ig mk a X hg hsize hdg hW hn hp'
  obtain ⟨rfl, rfl, r1, r2⟩ := hp'
  have al : Z.vm.Alike P.U.vm := hZ.alike.trans X.warmed.alike
  obtain ⟨D, cfV, kV, iV, fV, hD, gV, stV, knV, obV, asV, slV⟩ := id V
  obtain ⟨D', cfC, kC, iC, fC, hD', gC, stC, -, -, asC, slC⟩ := id C
  cases hD.symm.trans hD'
  obtain ⟨D2, kD, e1, e2, e3, e4, e5⟩ := id E
  cases hD.symm.trans e1
  obtain ⟨c2, k2, i1, i2, i3, -⟩ := Cond.instantiable_spec wi
  cases e2.symm.trans i1
  cases e3.symm.trans i2
  obtain ⟨kU, u1, u2⟩ := al.2.2 _ _ e3
  have hB : Blank ST x D P.U := ⟨hD, ⟨knV, fun q hq => by rw [hq] at obV; cases obV⟩, by rw [al.findClass]; exact e2, kU, u1, by rw [u2]; exact i3, by rw [u2]; exact e5 i3⟩
  have F1 : Found ST "value" "[B" fV P.U := ⟨SBG.found_only al ⟨cfV, kV, iV, gV⟩, stV⟩
  have F2 : Found ST "coder" "B" fC P.U := ⟨SBG.found_only al ⟨cfC, kC, iC, gC⟩, stC⟩
  have hA : Ch b A P.U := ⟨⟨K.1, State.isArrayOf_alike al K.2.1, K.2.2, by omega⟩, hty⟩
  have hS : StaticIs P.U ST "COMPACT_STRINGS" "Z" (.int z) := by
    obtain ⟨cfS, iS, kS, fS, st, cS, t1, t2, t3, t4, t5, t6, t7⟩ := S
    exact StaticIs.there (s := { Z with heap := P.U.heap }) ⟨cfS, iS, kS, fS, st, cS, t1, t2, t3, t4, t5, (fun q => by rw [q] at t6; cases t6), t7⟩ al rfl
  obtain ⟨v, B, X', ⟨⟨hv, E', V', q1, q2, q3, q4, q5, q6, q7, q8, q9, q10, q11⟩, hl, hc, hs⟩, st⟩ := New1.pays x D fV fC b A z (tab_of (moved hZ hw)) hfr hlo m meth c P g ig mk _ X hg hsize hdg hW hn ⟨r1, r2, rfl, hB, F1, F2, hA, hS, hz, l0, l2, hp⟩
  have al' : Z.vm.Alike B.U.vm := hZ.alike.trans X'.warmed.alike
  have hsz : E'.slots.size = D.slots.size := by
    obtain ⟨-, -, -, kB, w1, w2, w3⟩ := q1
    obtain ⟨kB', y1, y2⟩ := al'.2.2 _ _ e3
    rw [q2.2.1] at w1
    cases w1.symm.trans y1
    rw [w3, e5 i3, y2]
  refine ⟨v, B, X', ⟨_, ⟨hv, ?_, ⟨by omega, fun y cy hy hn' => q10 y cy (by simpa using hn') hy, fun y cy hy => ?_⟩, q11, ⟨E', _, q1.1, by rw [q2.2.1]; exact e2, by rw [q2.2.1]; exact e3, by rw [q2.1]; exact obV, fun _ => by rw [hsz]; exact e5 i3⟩,
    ⟨E', cfV, kV, iV, fV, q1.1, gV, stV, by rw [q2.1]; exact knV, by rw [q2.1]; exact obV, by rw [q2.2.1]; exact asV, q3⟩, ⟨E', cfC, kC, iC, fC, q1.1, gC, stC, by rw [q2.1]; exact knV, by rw [q2.1]; exact obV, by rw [q2.2.1]; exact asC, q4⟩,
    ⟨V', ⟨q5.1, State.isArrayOf_alike al'.symm q5.2.1, q5.2.2.1⟩, q6, by rw [← al'.findClass]; exact q7, q8, fun j hj => by have := q9 j hj; rwa [Nat.zero_add] at this⟩, fun O n d w F n1 n2 => ?_⟩, hl, hc, hs⟩, st⟩
  · intro y hy
    simp only [List.mem_cons, List.not_mem_nil, or_false] at hy
    rcases hy with rfl | rfl <;> rfl
  · by_cases q : y = x
    · subst q
      cases hD.symm.trans hy
      exact ⟨E', q1.1, q2.2.1, q2.1, hsz⟩
    · exact ⟨cy, q10 y cy q hy, rfl, rfl, rfl⟩
  · obtain ⟨D3, cf, k, i, f, g1, g2, g3, g4, g5, g6, g7⟩ := F
    cases hD.symm.trans g1
    simp only [RoadKit.slotOf, g2, gV, gC, Option.map_some, Option.getD_some] at n1 n2
    exact ⟨E', cf, k, i, f, q1.1, g2, g3, by rw [q2.1]; exact g4, by rw [q2.1]; exact g5, by rw [q2.2.1]; exact g6, by rw [q2.2.2 f.slot (by simp [n1, n2])]; exact g7⟩
end StrChars.Road
namespace StrChars.Road
open Jvm Sem ClassFile Op Lib Jvm.Stand Jvm.Free Jvm.Free.XT
/-- WHAT COMES BACK, the byte[] as a list of values -/
def QA (Z : State) (x : Addr) (zn : Int32) (cs : List Int32) (h : Heap) (v : Option Value) (h' : Heap) (L : List Loc) : Prop := v = none ∧ (∀ y ∈ L, y.base = x) ∧ RoadKit.Keep h h' [x] ∧ h'.size = h.size + 1 ∧ RoadKit.Exa Z h' x ST ∧ RoadKit.Fld Z h' x ST "value" "[B" (.ref h.size) ∧ RoadKit.Fld Z h' x ST "coder" "B" (.int 0) ∧
  (∃ kb, Z.vm.findClass "[B" = some kb ∧ RoadKit.Arv Z h' h.size kb .byte zn (cs.map fun c => .int (lo8 c)) (.int 0)) ∧
  ∀ (O n d : String) (w : Value), RoadKit.Fld Z h x O n d w → RoadKit.slotOf Z O n d ≠ RoadKit.slotOf Z ST "value" "[B" → RoadKit.slotOf Z O n d ≠ RoadKit.slotOf Z ST "coder" "B" → RoadKit.Fld Z h' x O n d w
/-- **new String(chars) AT A CALL, THE ARRAYS AS LISTS**: the char[] at b holds cs, not empty, no char above 255 -/
theorem backArv {p : Program} {l : Launch} {e : Env} {R : Room} {s : State} {args : Array Value} {below : List Frame} {len W : Nat} {Z : State} {a0 : Array Value} {h : Heap} (hZ : Z.Warmed39 s.vm) (hw : ∀ d ∈ words, d.before a0 Z = true) {kI : Nat} (wi : (Jvm.Cond.instantiable ST kI).before a0 Z = true)
    {x b : Addr} {k : ClassId} {zn z : Int32} {cs : List Int32} {dv v0 c0 : Value} (E : RoadKit.Exa Z h x ST) (V : RoadKit.Fld Z h x ST "value" "[B" v0) (C : RoadKit.Fld Z h x ST "coder" "B" c0) (K : RoadKit.Arv Z h b k .char zn (cs.map Value.int) dv) (S : RoadKit.Sta Z h ST "COMPACT_STRINGS" "Z" (.int z)) (hz : ¬ z = 0)
    (hlen : zn.toNatClampNeg = cs.length) (h0 : 0 < cs.length) (hbig : cs.length ≤ 536870912) (hall : ∀ c ∈ cs, ¬ 255 < c) (hfr : 4 ≤ R.frames) (hlo : W + 65 ≤ R.locals) :
    Back l R p e below s args New1.yN len W (fun P a => a = #[.ref x, .ref b] ∧ P.U.heap = h ∧ P.cells + 1 ≤ R.cells ∧ P.slots + cs.length ≤ R.slots)
      (fun P _ v B => ∃ L, QA Z x zn cs h v B.U.heap L ∧ B.locs = P.locs ++ L ∧ B.cells = P.cells + 1 ∧ B.slots = P.slots + cs.length) := by
  obtain ⟨A, K1, K2, K3, K4, K5, K6⟩ := K
  have e : A.slots.size = cs.length := K3.trans hlen
  have hat : ∀ (i : Nat) (hi : i < cs.length), A.slots[i]? = some (.int cs[i]) := fun i hi => by rw [K5 i (by omega)]; simp [List.getD_eq_getElem?_getD, hi]
  have hcv : ∀ (i : Nat) (hi : i < cs.length), cv A i = cs[i] := fun i hi => by unfold cv; rw [hat i hi]
  have hty : Typed .char A := fun i v hv => by
    have hi : i < A.slots.size := (Array.getElem?_eq_some_iff.mp hv).1
    have q := K5 i hi
    rw [hv] at q
    rw [Option.some.inj q]
    exact K6 i hi
  refine Back.mono (back hZ hw wi E V C K1 hty S hz (by omega) (by omega) (fun i hi => by rw [hcv i (by omega)]; exact hall _ (List.getElem_mem _)) hfr hlo) (fun P a hp => ⟨hp.1, hp.2.1, hp.2.2.1, by rw [e]; exact hp.2.2.2⟩) (fun P a v B hp hq => ?_)
  obtain ⟨L, ⟨q1, q2, q3, q4, q5, q6, q7, ⟨V', v1, v2, v3, v4, v5⟩, q9⟩, hl, hc, hs⟩ := hq
  refine ⟨L, ⟨q1, q2, q3, q4, q5, q6, q7, ⟨V'.cls, v3, V', v1, rfl, by rw [v4, e, hlen], K4, fun i hi => ?_, fun i hi => ?_⟩, q9⟩, hl, hc, by rw [hs, e]⟩
  · have hi' : i < cs.length := by omega
    rw [v5 i (by omega), hcv i hi']; simp [List.getD_eq_getElem?_getD, hi']
  · have hi' : i < cs.length := by omega
    simp only [List.getD_eq_getElem?_getD, List.getElem?_map, List.getElem?_eq_getElem hi', Option.map_some, Option.getD_some]
    exact fits_lo8 _
end StrChars.Road
namespace StrChars.Road
open Jvm Sem ClassFile Op Lib Jvm.Stand Jvm.Free Jvm.Free.XT
/-- WHAT COMES BACK, in the writer's own shape -/
def QV (Z : State) (x : Addr) (N : Int32) (bs : List Int32) (h : Heap) (n0 : Nat) (v : Option Value) (h' : Heap) (L : List Loc) : Prop := v = none ∧ RoadKit.Fr n0 L ∧ RoadKit.Keep h h' [x] ∧ RoadKit.Exa Z h' x ST ∧ RoadKit.Fld Z h' x ST "coder" "B" (.int 0) ∧
  ∃ (t : Addr) (kb : ClassId), n0 ≤ t ∧ h.size ≤ t ∧ ¬ t = x ∧ RoadKit.Fld Z h' x ST "value" "[B" (.ref t) ∧ RoadKit.Arv Z h' t kb .byte N (bs.map Value.int) (.int 0)
/-- **new String(chars) AT A CALL, FOR THE WRITER**: a char[] of n known ints, each 0 to 255 -/
theorem backV {p : Program} {l : Launch} {e : Env} {R : Room} {s : State} {args : Array Value} {below : List Frame} {len W : Nat} {Z : State} {a0 : Array Value} {h : Heap} (hZ : Z.Warmed39 s.vm) (hw : ∀ d ∈ words, d.before a0 Z = true) {kI : Nat} (wi : (Jvm.Cond.instantiable ST kI).before a0 Z = true)
    {x b : Addr} {kC : ClassId} {cs bs : List Int32} {d v0 c0 : Value} {z N : Int32} {n n0 : Nat} (hx0 : n0 ≤ x) (hh0 : n0 ≤ h.size) (E : RoadKit.Exa Z h x ST) (V : RoadKit.Fld Z h x ST "value" "[B" v0) (C : RoadKit.Fld Z h x ST "coder" "B" c0) (K : RoadKit.Arv Z h b kC .char N (cs.map Value.int) d) (S : RoadKit.Sta Z h ST "COMPACT_STRINGS" "Z" (.int z)) (hz : ¬ z = 0)
    (hn : cs.length = n) (hN : N = Int32.ofNat n) (l0 : 0 < n) (l2 : n ≤ 4000) (hp : ∀ c ∈ cs, ¬ c < 0 ∧ ¬ (255 : Int32) < c) (hb : bs = cs.map (fun c => c.toInt8.toInt32)) (hfr : 4 ≤ R.frames) (hlo : W + 65 ≤ R.locals) :
    Back l R p e below s args (⟨"java/lang/String", "<init>", "([C)V"⟩ : MethodName) len W (fun P a => a = #[.ref x, .ref b] ∧ P.U.heap = h ∧ P.cells + 1 ≤ R.cells ∧ P.slots + n ≤ R.slots)
      (fun P _ v B => ∃ L, QV Z x N bs h n0 v B.U.heap L ∧ B.locs = P.locs ++ L ∧ B.cells = P.cells + 1 ∧ B.slots = P.slots + n) := by
  subst hn hN hb
  refine Back.mono (backArv hZ hw wi E V C K S hz (n32 (by omega)) l0 (by omega) (fun c hc => (hp c hc).2) hfr hlo) (fun P a hp => hp) (fun P a v B hp hq => ?_)
  obtain ⟨L, ⟨q1, q2, q3, q4, q5, q6, q7, ⟨kb, v1, v2⟩, q9⟩, hl, hc, hs⟩ := hq
  exact ⟨L, ⟨q1, fun y hy => by rw [q2 y hy]; exact hx0, q3, q5, q7, h.size, kb, hh0, Nat.le_refl _, Nat.ne_of_gt E.lt, q6, by rw [List.map_map]; exact v2⟩, hl, hc, hs⟩
end StrChars.Road
namespace StrChars
open Jvm Sem ClassFile Op Lib Jvm.Stand Jvm.Free.XT Jvm.Free.ALB Jvm.Free.JM Jvm.Free
open Jvm.Lib.Cold (StaticIs)
def hi8 (x : Int32) : Int32 := lo8 (x >>> ((8 : Int32) &&& 31))
/-- what StringUTF16.getChar makes of two bytes -/
def pairCh (u v : Int32) : Int32 := (((u &&& 255) <<< ((0 : Int32) &&& 31)) ||| ((v &&& 255) <<< ((8 : Int32) &&& 31))).toUInt32.toUInt16.toUInt32.toInt32
theorem shr0 (c : Int32) : c >>> ((0 : Int32) &&& 31) = c := by
  have e : ((0 : Int32) &&& 31) = 0 := by decide
  rw [e]
  apply Int32.toBitVec_inj.mp
  rw [Int32.toBitVec_shiftRight]
  have e1 : ((0 : Int32).toBitVec.smod 32) = 0#32 := by decide
  rw [e1, BitVec.sshiftRight_eq']
  exact BitVec.sshiftRight_zero
theorem lo8_and (x : Int32) : (lo8 x &&& 255).toBitVec.toNat = x.toBitVec.toNat % 256 := by
  have h : (lo8 x).toBitVec = (x.toBitVec.signExtend 8).signExtend 32 := by rw [lo8, Int8.toBitVec_toInt32, Int32.toBitVec_toInt8]
  rw [Int32.toBitVec_and, BitVec.toNat_and, h]
  have e : ((x.toBitVec.signExtend 8).signExtend 32).toNat % 256 = x.toBitVec.toNat % 256 := by
    rw [BitVec.toNat_signExtend]
    have hlt := x.toBitVec.isLt
    simp only [BitVec.toNat_setWidth, BitVec.toNat_signExtend]
    split <;> split <;> omega
  rw [← e]
  exact Nat.and_two_pow_sub_one_eq_mod _ 8
theorem pair_says {c : Int32} (h0 : ¬ c < 0) (h1 : ¬ 65535 < c) : pairCh (lo8 c) (hi8 c) = c := by
  rw [Int32.lt_iff_toInt_lt] at h0 h1
  have e0 : (0 : Int32).toInt = 0 := rfl
  have e1 : (65535 : Int32).toInt = 65535 := rfl
  have hc : c.toInt = c.toBitVec.toNat := by
    have := c.toBitVec.isLt
    have e : c.toInt = c.toBitVec.toInt := rfl
    rw [e] at h0 h1
    rw [e]
    rw [BitVec.toInt_eq_toNat_cond] at h0 h1 ⊢
    split at h0 <;> split <;> omega
  have hn : c.toBitVec.toNat < 65536 := by omega
  have a1 := lo8_and c
  have a2 : (hi8 c &&& 255).toBitVec.toNat = c.toBitVec.toNat / 256 := by
    rw [hi8, lo8_and]
    have e : ((8 : Int32) &&& 31) = 8 := by decide
    rw [e, Int32.toBitVec_shiftRight]
    have e2 : ((8 : Int32).toBitVec.smod 32) = 8#32 := by decide
    rw [e2, BitVec.sshiftRight_eq', BitVec.toNat_sshiftRight_of_msb_false (by rw [BitVec.msb_eq_false_iff_two_mul_lt]; omega)]
    show c.toBitVec.toNat >>> 8 % 256 = _
    rw [Nat.shiftRight_eq_div_pow]
    omega
  unfold pairCh
  apply Int32.toBitVec_inj.mp
  apply BitVec.eq_of_toNat_eq
  have f0 : ((0 : Int32) &&& 31) = 0 := by decide
  have f8 : ((8 : Int32) &&& 31) = 8 := by decide
  rw [f0, f8]
  have g : (((lo8 c &&& 255) <<< (0 : Int32)) ||| ((hi8 c &&& 255) <<< (8 : Int32))).toBitVec.toNat = c.toBitVec.toNat := by
    rw [Int32.toBitVec_or, Int32.toBitVec_shiftLeft, Int32.toBitVec_shiftLeft]
    have s0 : ((0 : Int32).toBitVec.smod 32) = 0#32 := by decide
    have s8 : ((8 : Int32).toBitVec.smod 32) = 8#32 := by decide
    rw [s0, s8, BitVec.toNat_or]
    simp only [BitVec.shiftLeft_eq', BitVec.toNat_shiftLeft, a1, a2]
    show (c.toBitVec.toNat % 256) <<< 0 % 2 ^ 32 ||| (c.toBitVec.toNat / 256) <<< 8 % 2 ^ 32 = _
    rw [Nat.shiftLeft_zero, Nat.mod_eq_of_lt (show c.toBitVec.toNat % 256 < 2 ^ 32 by omega), Nat.mod_eq_of_lt (show (c.toBitVec.toNat / 256) <<< 8 < 2 ^ 32 by rw [Nat.shiftLeft_eq]; omega), Nat.or_comm, ← Nat.shiftLeft_add_eq_or_of_lt (by omega), Nat.shiftLeft_eq]
    omega
  show BitVec.toNat (((((lo8 c &&& 255) <<< (0 : Int32)) ||| ((hi8 c &&& 255) <<< (8 : Int32))).toBitVec.setWidth 16).setWidth 32) = _
  rw [BitVec.toNat_setWidth, BitVec.toNat_setWidth, g]
  omega
end StrChars
namespace StrChars
open Jvm Sem ClassFile Op Lib Jvm.Stand Jvm.Free.XT Jvm.Free.ALB Jvm.Free.JM Jvm.Free
open Jvm.Lib.Cold (StaticIs)
theorem shr1 {n : Nat} (h : 2 * n < 2 ^ 31) : Int32.ofNat (2 * n) >>> ((1 : Int32) &&& 31) = Int32.ofNat n := by
  have e : ((1 : Int32) &&& 31) = 1 := by decide
  rw [e]
  apply Int32.toBitVec_inj.mp
  rw [Int32.toBitVec_shiftRight]
  have e1 : ((1 : Int32).toBitVec.smod 32) = 1#32 := by decide
  have hm : (BitVec.ofNat 32 (2 * n)).toNat = 2 * n := by rw [BitVec.toNat_ofNat, Nat.mod_eq_of_lt (by omega)]
  rw [e1, BitVec.sshiftRight_eq']
  apply BitVec.eq_of_toNat_eq
  show ((BitVec.ofNat 32 (2 * n)).sshiftRight 1).toNat = (BitVec.ofNat 32 n).toNat
  rw [BitVec.toNat_sshiftRight_of_msb_false (by rw [BitVec.msb_eq_false_iff_two_mul_lt, hm]; omega), hm, BitVec.toNat_ofNat, Nat.shiftRight_eq_div_pow]
  omega
/-- charAt's cast of a byte read back -/
def chr8 (u : Int32) : Int32 := (u &&& 255).toUInt32.toUInt16.toUInt32.toInt32
theorem chr8_lo8 {c : Int32} (h0 : ¬ c < 0) (h1 : ¬ 255 < c) : chr8 (lo8 c) = c := by
  have t : ∀ k : Fin 256, (Int32.ofNat k.val).toUInt32.toUInt16.toUInt32.toInt32 = Int32.ofNat k.val := by decide +kernel
  unfold chr8
  rw [lo8_mask h0 h1]
  rw [Int32.lt_iff_toInt_lt] at h0 h1
  have e0 : (0 : Int32).toInt = 0 := rfl
  have e1 : (255 : Int32).toInt = 255 := rfl
  obtain ⟨k, hk⟩ : ∃ k : Nat, c.toInt = k := ⟨c.toInt.toNat, by omega⟩
  have hx : c = Int32.ofNat k := Int32.toInt_inj.mp (by rw [hk, Int32.toInt_ofNat_small (by omega)])
  rw [hx]
  exact t ⟨k, by omega⟩
theorem narrow_ch {c : Int32} (h0 : ¬ c < 0) (h1 : ¬ 65535 < c) : narrow .char (.int c) = .int c := by
  have q : narrow .char (.int (pairCh (lo8 c) (hi8 c))) = .int (pairCh (lo8 c) (hi8 c)) := narrow_c _
  rwa [pair_says h0 h1] at q
/-- the array's cell V codes the n chars f 0 .. f (n - 1) by the coder cd, as the JDK does: coder 1 just where some char is above 255 -/
def Cod (cd : Int32) (n : Nat) (f : Nat → Int32) (V : Cell) : Prop := (cd = 0 ∧ V.slots.size = n ∧ ∀ j, j < n → V.slots[j]? = some (.int (lo8 (f j))) ∧ ¬ 255 < f j) ∨ (cd = 1 ∧ V.slots.size = 2 * n ∧ (∀ j, j < n → V.slots[2 * j]? = some (.int (lo8 (f j))) ∧ V.slots[2 * j + 1]? = some (.int (hi8 (f j)))) ∧ ∃ j, j < n ∧ 255 < f j)
theorem Cod.cd {cd : Int32} {n : Nat} {f : Nat → Int32} {V : Cell} (h : Cod cd n f V) : cd = 0 ∨ cd = 1 := h.imp (fun q => q.1) fun q => q.1
theorem Cod.len {cd : Int32} {n : Nat} {f : Nat → Int32} {V : Cell} (h : Cod cd n f V) (hs : V.slots.size < 2 ^ 31) : Int32.ofNat V.slots.size >>> (cd &&& 31) = Int32.ofNat n := by
  rcases h with ⟨rfl, h, -⟩ | ⟨rfl, h, -⟩
  · rw [shr0, h]
  · rw [h, shr1 (by omega)]
/-- **x is a String of the n chars f 0 .. f (n - 1)**, Latin-1 or UTF-16; its array at t has the cell V -/
def Txt (x t : Addr) (V : Cell) (cd : Int32) (n : Nat) (f : Nat → Int32) (U : State) : Prop := Exact "java/lang/String" x U ∧ Has x "java/lang/String" "value" "[B" (.ref t) U ∧ Has x "java/lang/String" "coder" "B" (.int cd) U ∧ XT.Arr .byte t V U ∧ Cod cd n f V ∧ ∀ j, j < n → ¬ f j < 0 ∧ ¬ 65535 < f j
theorem Txt.mv {x t : Addr} {V : Cell} {cd : Int32} {n : Nat} {f : Nat → Int32} {U U' : State} (h : Txt x t V cd n f U) (hal : U.vm.Alike U'.vm) (hh : U'.heap = U.heap) : Txt x t V cd n f U' := ⟨h.1.mv hal hh, h.2.1.mv hal hh, h.2.2.1.mv hal hh, h.2.2.2.1.mv hal hh, h.2.2.2.2⟩
namespace Cdr
def yN : MethodName := ⟨"java/lang/String", "coder", "()B"⟩
abbrev yB : ByteArray := jdk_42_method_152_code
theorem d0 : decode yB 0 = .ok (.getstatic 38, 3) := by decide +kernel
theorem d3 : decode yB 3 = .ok (.ifCond (.eq) 10, 3) := by decide +kernel
theorem d6 : decode yB 6 = .ok (.aload_n 0, 1) := by decide +kernel
theorem d7 : decode yB 7 = .ok (.getfield 15, 3) := by decide +kernel
theorem d10 : decode yB 10 = .ok (.goto 4, 3) := by decide +kernel
theorem d14 : decode yB 14 = .ok (.ireturn, 1) := by decide +kernel
def site : List Cond := [.fieldLink "java/lang/String" 38 "java/lang/String" "COMPACT_STRINGS" "Z", .fieldLink "java/lang/String" 15 "java/lang/String" "coder" "B"]
def tab : Cond := tabOf yN yB 1 (some .byte) site
def P (x : Addr) (cd z : Int32) (args : Array Value) (s : State) : Prop := args = #[.ref x] ∧ Has x "java/lang/String" "coder" "B" (.int cd) s ∧ (cd = 0 ∨ cd = 1) ∧ StaticIs s "java/lang/String" "COMPACT_STRINGS" "Z" (.int z) ∧ ¬ z = 0
def E (cd : Int32) (r : Option Value) (s u : State) : Prop := XT.PureE (some (.int cd)) r s u
theorem law (l : Launch) (x : Addr) (cd z : Int32) : Law l yN 1 0 0 0 yB 1 (some .byte) site (P x cd z) (E cd) [] 0 0 := by
  refine Law.of_walk (plainFor_of_name (by decide +kernel)) (by decide +kernel) (by decide +kernel) (by decide) (fun _ _ h => by rw [h.1]; rfl) (fun _ U U' hal hh h => ⟨h.1, h.2.1.mv hal hh, h.2.2.1, h.2.2.2.1.there hal hh, h.2.2.2.2⟩) (fun r U U' V V' h1 hal h2 h => XT.PureE.mv r U U' V V' h1 hal h2 h) ?_
  intro p e s m args below meth c s₁ X0 hexec hbytes hml hret hlk hnm hown hh0 W hP
  obtain ⟨rfl, hx, hc, s1, hz⟩ := hP
  have c1 : Steps p.tables e below (s₁.setTop (entryFrame m #[.ref x] 1)) (s₁.setTop (mkF m 0 #[.val (.ref x)] [])) := entry rfl
  obtain ⟨T2, X2, q2, st2⟩ := X0.sget hexec hown (wk W (.fieldLink "java/lang/String" 38 "java/lang/String" "COMPACT_STRINGS" "Z")) s1 (fun _ _ h => by rw [hh0]; exact h) (g := (mkF m 0 #[.val (.ref x)] [])) rfl (hb hbytes d0)
  have hh2 := q2.trans hh0
  have c3 : Steps p.tables e below (s₁.setTop (entryFrame m #[.ref x] 1)) (T2.setTop (mkF m 7 #[.val (.ref x)] [.ref x])) := (c1.trans (st2 _ (Steps.refl _))).trans (by
    refine XS.ifNo X2.here hexec rfl (hb hbytes d3) rfl (i0_eq_f hz) ?_
    refine XS.aloadN X2.here hexec rfl (hb hbytes d6) rfl rfl ?_
    exact Steps.refl _)
  obtain ⟨T4, X4, q4, st4⟩ := X2.hget hexec hown (wk W (.fieldLink "java/lang/String" 15 "java/lang/String" "coder" "B")) (hx.mv X2.warmed.alike hh2) (g := (mkF m 7 #[.val (.ref x)] [.ref x])) rfl (rest := []) rfl (hb hbytes d7)
  have c5 : Steps p.tables e below (s₁.setTop (entryFrame m #[.ref x] 1)) (T4.setTop (mkF m 14 #[.val (.ref x)] [.int cd])) := (c3.trans (st4 _ (Steps.refl _))).trans (by
    refine XS.goto X4.here hexec rfl (pc0 := 10) rfl (hb hbytes d10) (by decide) rfl ?_
    exact Steps.refl _)
  exact ⟨T4, some (.int cd), _, _, _, X4, rfl, rfl, rfl, (fun h => by cases h), ⟨rfl, q4.trans hh2⟩, fun fs hl => c5.trans (X4.ireturnOut hexec hret (by rcases hc with rfl | rfl <;> rfl) (Or.inr (Or.inr (Or.inl rfl))) (hb hbytes d14) hl)⟩
end Cdr
namespace Len
def yN : MethodName := ⟨"java/lang/String", "length", "()I"⟩
abbrev yB : ByteArray := jdk_42_method_54_code
theorem d0 : decode yB 0 = .ok (.aload_n 0, 1) := by decide +kernel
theorem d1 : decode yB 1 = .ok (.getfield 9, 3) := by decide +kernel
theorem d4 : decode yB 4 = .ok (.arraylength, 1) := by decide +kernel
theorem d5 : decode yB 5 = .ok (.aload_n 0, 1) := by decide +kernel
theorem d6 : decode yB 6 = .ok (.invokevirtual 335, 3) := by decide +kernel
theorem d9 : decode yB 9 = .ok (.ishr, 1) := by decide +kernel
theorem d10 : decode yB 10 = .ok (.ireturn, 1) := by decide +kernel
def site : List Cond := [.fieldLink "java/lang/String" 9 "java/lang/String" "value" "[B", Cdr.tab] ++ virtW "java/lang/String" 335 "java/lang/String" Cdr.yN Cdr.yN
def tab : Cond := tabOf yN yB 1 (some .int) site
def P (x t : Addr) (V : Cell) (cd : Int32) (n : Nat) (f : Nat → Int32) (z : Int32) (args : Array Value) (s : State) : Prop := args = #[.ref x] ∧ Txt x t V cd n f s ∧ StaticIs s "java/lang/String" "COMPACT_STRINGS" "Z" (.int z) ∧ ¬ z = 0
def E (n : Nat) (r : Option Value) (s u : State) : Prop := XT.PureE (some (.int (Int32.ofNat n))) r s u
/-- length() of a String of n chars, in either coding -/
theorem law (l : Launch) (x t : Addr) (V : Cell) (cd : Int32) (n : Nat) (f : Nat → Int32) (z : Int32) : Law l yN 1 0 1 13 yB 1 (some .int) site (P x t V cd n f z) (E n) [] 0 0 := by
  refine Law.of_walk (plainFor_of_name (by decide +kernel)) (by decide +kernel) (by decide +kernel) (by decide) (fun _ _ h => by rw [h.1]; rfl) (fun _ U U' hal hh h => ⟨h.1, h.2.1.mv hal hh, h.2.2.1.there hal hh, h.2.2.2⟩) (fun r U U' V V' h1 hal h2 h => XT.PureE.mv r U U' V V' h1 hal h2 h) ?_
  intro p e s m args below meth c s₁ X0 hexec hbytes hml hret hlk hnm hown hh0 W hP
  obtain ⟨rfl, hx, s1, hz⟩ := hP
  have v31 := hx.2.2.2.1.2.2.2
  have c1 : Steps p.tables e below (s₁.setTop (entryFrame m #[.ref x] 1)) (s₁.setTop (mkF m 1 #[.val (.ref x)] [.ref x])) := Steps.trans (entry rfl) (by
    show Steps p.tables e below (s₁.setTop (mkF m 0 #[.val (.ref x)] [])) _
    refine XS.aloadN X0.here hexec rfl (hb hbytes d0) rfl rfl ?_
    exact Steps.refl _)
  obtain ⟨T2, X2, q2, st2⟩ := X0.hget hexec hown (wk W (.fieldLink "java/lang/String" 9 "java/lang/String" "value" "[B")) (hx.mv X0.warmed.alike hh0).2.1 (g := (mkF m 1 #[.val (.ref x)] [.ref x])) rfl (rest := []) rfl (hb hbytes d1)
  have hh2 := q2.trans hh0
  have hx2 := hx.mv X2.warmed.alike hh2
  have c3 : Steps p.tables e below (s₁.setTop (entryFrame m #[.ref x] 1)) (T2.setTop (mkF m 6 #[.val (.ref x)] [.ref x, .int (Int32.ofNat V.slots.size)])) := (c1.trans (st2 _ (Steps.refl _))).trans (by
    refine X2.alen hexec hx2.2.2.2.1 rfl rfl (hb hbytes d4) ?_
    refine XS.aloadN X2.here hexec rfl (hb hbytes d5) rfl rfl ?_
    exact Steps.refl _)
  obtain ⟨v4, T4, X4, E4, g4⟩ := X2.callV hexec (Cdr.law l x cd z) hown (wks W (virtW "java/lang/String" 335 "java/lang/String" Cdr.yN Cdr.yN)) rfl (by decide) (wk W Cdr.tab) (W := 1) (Nat.le_of_ble_eq_true rfl) (Nat.le_of_ble_eq_true rfl) (Nat.le_refl _) (Nat.le_refl _) (hx2.1.fc X2.warmed.alike) hx2.1.is (g := (mkF m 6 #[.val (.ref x)] [.ref x, .int (Int32.ofNat V.slots.size)])) rfl (by rw [hml]; rfl) c3 (argsL := []) (rest := [.int (Int32.ofNat V.slots.size)]) rfl rfl (by show 2 * 0 + (1 + 0) ≤ _; decide) (hb hbytes d6) (⟨rfl, hx2.2.2.1, hx.2.2.2.2.1.cd, s1.there X2.warmed.alike hh2, hz⟩)
  obtain ⟨rfl, q4⟩ := E4
  have c5 : Steps p.tables e below (s₁.setTop (entryFrame m #[.ref x] 1)) (T4.setTop (mkF m 10 #[.val (.ref x)] [.int (Int32.ofNat V.slots.size >>> (cd &&& 31))])) := Steps.trans g4 (by
    refine ishr X4.here hexec rfl (hb hbytes d9) rfl ?_
    exact Steps.refl _)
  rw [hx.2.2.2.2.1.len v31] at c5
  exact ⟨T4, some (.int (Int32.ofNat n)), _, _, _, X4, rfl, rfl, rfl, (fun h => by cases h), ⟨rfl, q4.trans hh2⟩, fun fs hl => c5.trans (X4.ireturnOut hexec hret rfl (Or.inl rfl) (hb hbytes d10) hl)⟩
theorem pays {l : Launch} {R : Room} {p : Program} {e : Env} {below : List Frame} {s : State} {sargs : Array Value} {len W : Nat} (x t : Addr) (V : Cell) (cd : Int32) (n : Nat) (f : Nat → Int32) (z : Int32) (htab : tab.before sargs s = true) (hfr : 2 ≤ R.frames) (hlo : W + 25 ≤ R.locals) :
    Back l R p e below s sargs yN len W (fun A₁ a₁ => A₁.cells + 0 ≤ R.cells ∧ A₁.slots + 0 ≤ R.slots ∧ P x t V cd n f z a₁ A₁.U) (fun A₁ _ v₁ B₁ => E n v₁ A₁.U B₁.U ∧ B₁.locs = A₁.locs ++ [] ∧ B₁.cells = A₁.cells + 0 ∧ B₁.slots = A₁.slots + 0) :=
  (law l x t V cd n f z).pays htab hfr (by omega)
end Len
namespace IsL
def yN : MethodName := ⟨"java/lang/String", "isLatin1", "()Z"⟩
abbrev yB : ByteArray := jdk_42_method_154_code
theorem d0 : decode yB 0 = .ok (.getstatic 38, 3) := by decide +kernel
theorem d3 : decode yB 3 = .ok (.ifCond (.eq) 14, 3) := by decide +kernel
theorem d6 : decode yB 6 = .ok (.aload_n 0, 1) := by decide +kernel
theorem d7 : decode yB 7 = .ok (.getfield 15, 3) := by decide +kernel
theorem d10 : decode yB 10 = .ok (.ifCond (.ne) 7, 3) := by decide +kernel
theorem d13 : decode yB 13 = .ok (.iconst 1, 1) := by decide +kernel
theorem d14 : decode yB 14 = .ok (.goto 4, 3) := by decide +kernel
theorem d17 : decode yB 17 = .ok (.iconst 0, 1) := by decide +kernel
theorem d18 : decode yB 18 = .ok (.ireturn, 1) := by decide +kernel
def site : List Cond := [.fieldLink "java/lang/String" 38 "java/lang/String" "COMPACT_STRINGS" "Z", .fieldLink "java/lang/String" 15 "java/lang/String" "coder" "B"]
def tab : Cond := tabOf yN yB 1 (some .boolean) site
def P (x : Addr) (cd z : Int32) (args : Array Value) (s : State) : Prop := args = #[.ref x] ∧ Has x "java/lang/String" "coder" "B" (.int cd) s ∧ (cd = 0 ∨ cd = 1) ∧ StaticIs s "java/lang/String" "COMPACT_STRINGS" "Z" (.int z) ∧ ¬ z = 0
def E (cd : Int32) (r : Option Value) (s u : State) : Prop := XT.PureE (some (.int (1 - cd))) r s u
theorem law (l : Launch) (x : Addr) (cd z : Int32) : Law l yN 1 0 0 0 yB 1 (some .boolean) site (P x cd z) (E cd) [] 0 0 := by
  refine Law.of_walk (plainFor_of_name (by decide +kernel)) (by decide +kernel) (by decide +kernel) (by decide) (fun _ _ h => by rw [h.1]; rfl) (fun _ U U' hal hh h => ⟨h.1, h.2.1.mv hal hh, h.2.2.1, h.2.2.2.1.there hal hh, h.2.2.2.2⟩) (fun r U U' V V' h1 hal h2 h => XT.PureE.mv r U U' V V' h1 hal h2 h) ?_
  intro p e s m args below meth c s₁ X0 hexec hbytes hml hret hlk hnm hown hh0 W hP
  obtain ⟨rfl, hx, hc, s1, hz⟩ := hP
  have c1 : Steps p.tables e below (s₁.setTop (entryFrame m #[.ref x] 1)) (s₁.setTop (mkF m 0 #[.val (.ref x)] [])) := entry rfl
  obtain ⟨T2, X2, q2, st2⟩ := X0.sget hexec hown (wk W (.fieldLink "java/lang/String" 38 "java/lang/String" "COMPACT_STRINGS" "Z")) s1 (fun _ _ h => by rw [hh0]; exact h) (g := (mkF m 0 #[.val (.ref x)] [])) rfl (hb hbytes d0)
  have hh2 := q2.trans hh0
  have c3 : Steps p.tables e below (s₁.setTop (entryFrame m #[.ref x] 1)) (T2.setTop (mkF m 7 #[.val (.ref x)] [.ref x])) := (c1.trans (st2 _ (Steps.refl _))).trans (by
    refine XS.ifNo X2.here hexec rfl (hb hbytes d3) rfl (i0_eq_f hz) ?_
    refine XS.aloadN X2.here hexec rfl (hb hbytes d6) rfl rfl ?_
    exact Steps.refl _)
  obtain ⟨T4, X4, q4, st4⟩ := X2.hget hexec hown (wk W (.fieldLink "java/lang/String" 15 "java/lang/String" "coder" "B")) (hx.mv X2.warmed.alike hh2) (g := (mkF m 7 #[.val (.ref x)] [.ref x])) rfl (rest := []) rfl (hb hbytes d7)
  have c5 : Steps p.tables e below (s₁.setTop (entryFrame m #[.ref x] 1)) (T4.setTop (mkF m 10 #[.val (.ref x)] [.int cd])) := c3.trans (st4 _ (Steps.refl _))
  have c6 : Steps p.tables e below (s₁.setTop (entryFrame m #[.ref x] 1)) (T4.setTop (mkF m 18 #[.val (.ref x)] [.int (1 - cd)])) := by
    rcases hc with rfl | rfl
    · exact c5.trans (by
        refine XS.ifNo X4.here hexec rfl (hb hbytes d10) rfl (i0_ne_f rfl) ?_
        refine iconstV X4.here hexec rfl 1 (hb hbytes d13) (by decide) ?_
        refine XS.goto X4.here hexec rfl (pc0 := 14) rfl (hb hbytes d14) (by decide) rfl ?_
        exact Steps.refl _)
    · exact c5.trans (by
        refine XS.ifYes X4.here hexec rfl (pc0 := 10) rfl (hb hbytes d10) rfl (i0_ne_t (by decide)) (by decide) rfl ?_
        refine iconstV X4.here hexec rfl 0 (hb hbytes d17) (by decide) ?_
        exact Steps.refl _)
  exact ⟨T4, some (.int (1 - cd)), _, _, _, X4, rfl, rfl, rfl, (fun h => by cases h), ⟨rfl, q4.trans hh2⟩, fun fs hl => c6.trans (X4.ireturnOut hexec hret (by rcases hc with rfl | rfl <;> rfl) (Or.inr (Or.inl rfl)) (hb hbytes d18) hl)⟩
end IsL
namespace LChA
def yN : MethodName := ⟨"java/lang/StringLatin1", "charAt", "([BI)C"⟩
abbrev yB : ByteArray := jdk_43_method_2_code
theorem d0 : decode yB 0 = .ok (.iload_n 1, 1) := by decide +kernel
theorem d1 : decode yB 1 = .ok (.aload_n 0, 1) := by decide +kernel
theorem d2 : decode yB 2 = .ok (.arraylength, 1) := by decide +kernel
theorem d3 : decode yB 3 = .ok (.invokestatic 9, 3) := by decide +kernel
theorem d6 : decode yB 6 = .ok (.aload_n 0, 1) := by decide +kernel
theorem d7 : decode yB 7 = .ok (.iload_n 1, 1) := by decide +kernel
theorem d8 : decode yB 8 = .ok (.baload, 1) := by decide +kernel
theorem d9 : decode yB 9 = .ok (.sipush 255, 3) := by decide +kernel
theorem d12 : decode yB 12 = .ok (.iand, 1) := by decide +kernel
theorem d13 : decode yB 13 = .ok (.i2c, 1) := by decide +kernel
theorem d14 : decode yB 14 = .ok (.ireturn, 1) := by decide +kernel
def site : List Cond := [JO.Str_checkIndex.tab] ++ staticW "java/lang/StringLatin1" 9 JO.Str_checkIndex.yN
def tab : Cond := tabOf yN yB 2 (some .char) site
def P (t : Addr) (V : Cell) (i : Nat) (u : Int32) (fm : Value) (args : Array Value) (s : State) : Prop := args = #[.ref t, .int (Int32.ofNat i)] ∧ XT.Arr .byte t V s ∧ V.slots[i]? = some (.int u) ∧ (StaticIs s "jdk/internal/util/Preconditions" "SIOOBE_FORMATTER" "Ljava/util/function/BiFunction;" fm ∧ fm.isRef = true)
def E (u : Int32) (r : Option Value) (s w : State) : Prop := XT.PureE (some (.int (chr8 u))) r s w
theorem law (l : Launch) (t : Addr) (V : Cell) (i : Nat) (u : Int32) (fm : Value) : Law l yN 2 2 2 27 yB 2 (some .char) site (P t V i u fm) (E u) [] 0 0 := by
  refine Law.of_walk (plainFor_of_name (by decide +kernel)) (by decide +kernel) (by decide +kernel) (by decide) (fun _ _ h => by rw [h.1]; rfl) (fun _ U U' hal hh h => ⟨h.1, h.2.1.mv hal hh, h.2.2.1, h.2.2.2.1.there hal hh, h.2.2.2.2⟩) (fun r U U' V V' h1 hal h2 h => XT.PureE.mv r U U' V V' h1 hal h2 h) ?_
  intro p e s m args below meth c s₁ X0 hexec hbytes hml hret hlk hnm hown hh0 W hP
  obtain ⟨rfl, hV, hu, s1, rf⟩ := hP
  have v31 := hV.2.2.2
  have hi : i < V.slots.size := (Array.getElem?_eq_some_iff.mp hu).1
  have c1 : Steps p.tables e below (s₁.setTop (entryFrame m #[.ref t, .int (Int32.ofNat i)] 2)) (s₁.setTop (mkF m 0 #[.val (.ref t), .val (.int (Int32.ofNat i))] [])) := entry rfl
  have c2 : Steps p.tables e below (s₁.setTop (entryFrame m #[.ref t, .int (Int32.ofNat i)] 2)) (s₁.setTop (mkF m 3 #[.val (.ref t), .val (.int (Int32.ofNat i))] [.int (Int32.ofNat V.slots.size), .int (Int32.ofNat i)])) := c1.trans (by
    refine XS.iloadN X0.here hexec rfl (hb hbytes d0) rfl ?_
    refine XS.aloadN X0.here hexec rfl (hb hbytes d1) rfl rfl ?_
    refine X0.alen hexec (hV.mv X0.warmed.alike hh0) rfl rfl (hb hbytes d2) ?_
    exact Steps.refl _)
  obtain ⟨v3, T3, X3, E3, g3⟩ := X0.callS hexec (JO.Str_checkIndex.law l (Int32.ofNat i) (Int32.ofNat V.slots.size) fm) hown (wks W (staticW "java/lang/StringLatin1" 9 JO.Str_checkIndex.yN)) (wk W JO.Str_checkIndex.tab) (W := 0) (Nat.le_of_ble_eq_true rfl) (Nat.le_of_ble_eq_true rfl) (Nat.le_refl _) (Nat.le_refl _) (g := (mkF m 3 #[.val (.ref t), .val (.int (Int32.ofNat i))] [.int (Int32.ofNat V.slots.size), .int (Int32.ofNat i)])) rfl (by rw [hml]; rfl) c2 (argsL := [.int (Int32.ofNat i), .int (Int32.ofNat V.slots.size)]) (rest := []) rfl rfl (by show 2 * 0 + 0 ≤ _; decide) (hb hbytes d3) (⟨rfl, rf, s1.there X0.warmed.alike hh0, Int32.ofNat_not_neg (by omega), lt32 v31 hi⟩)
  obtain ⟨rfl, q3⟩ := E3
  have hh3 := q3.trans hh0
  have c4 : Steps p.tables e below (s₁.setTop (entryFrame m #[.ref t, .int (Int32.ofNat i)] 2)) (T3.setTop (mkF m 14 #[.val (.ref t), .val (.int (Int32.ofNat i))] [.int (chr8 u)])) := Steps.trans g3 (by
    refine XS.aloadN X3.here hexec rfl (hb hbytes d6) rfl rfl ?_
    refine XS.iloadN X3.here hexec rfl (hb hbytes d7) rfl ?_
    refine X3.aget hexec (hV.mv X3.warmed.alike hh3) rfl hu rfl rfl (hb hbytes d8) ?_
    refine sipushV X3.here hexec rfl 255 (hb hbytes d9) (by decide) ?_
    refine XS.iand X3.here hexec rfl (hb hbytes d12) rfl ?_
    refine i2c X3.here hexec rfl (hb hbytes d13) rfl ?_
    exact Steps.refl _)
  exact ⟨T3, some (.int (chr8 u)), _, _, _, X3, rfl, rfl, rfl, (fun h => by cases h), ⟨rfl, hh3⟩, fun fs hl => c4.trans (X3.ireturnOut hexec hret (narrow_c _) (Or.inr (Or.inr (Or.inr (Or.inl rfl)))) (hb hbytes d14) hl)⟩
end LChA
end StrChars
namespace StrChars.Road
open Jvm Sem ClassFile Op Lib Jvm.Stand Jvm.Free Jvm.Free.XT
open Jvm.Lib.Cold (StaticIs)
theorem consq {a : Array Value} {s : State} {c : Jvm.Cond} {L : List Jvm.Cond} (h0 : c.before a s = true) (h : ∀ w ∈ L, w.before a s = true) : ∀ w ∈ c :: L, w.before a s = true := fun w hw => (List.mem_cons.mp hw).elim (fun e => e ▸ h0) (h w)
/-- the words of String.length(), either coding -/
abbrev wordsLen : List Jvm.Cond := [.code Len.yN Len.yB 1 (some .int), .initialized ST, .fieldLink ST 9 ST "value" "[B", .fieldLink ST 38 ST "COMPACT_STRINGS" "Z", .fieldLink ST 15 ST "coder" "B", .code Cdr.yN Cdr.yB 1 (some .byte), .methodLink ST 335 Cdr.yN, .declares Cdr.yN, .selects ST Cdr.yN Cdr.yN, .instanceMethod Cdr.yN]
theorem tabLen_of {a : Array Value} {s : State} (h : ∀ w ∈ wordsLen, w.before a s = true) : Len.tab.before a s = true := by
  have hc : Cdr.tab.before a s = true := unparts (wk h (.code Cdr.yN Cdr.yB 1 (some .byte))) (wks h (.initialized Cdr.yN.cls :: Cdr.site))
  have q := consq hc h
  exact unparts (wk q (.code Len.yN Len.yB 1 (some .int))) (wks q (.initialized Len.yN.cls :: Len.site))
theorem movedLen {Z s : State} {a0 args : Array Value} (hZ : Z.Warmed39 s.vm) (hw : ∀ d ∈ wordsLen, d.before a0 Z = true) : ∀ d ∈ wordsLen, d.before args s = true := fun d hd => by
  have q := hw d hd
  have t : ∀ d ∈ wordsLen, d = .arrayClass .byte ∨ (d.onTables && d.keepsFace) = true := by decide +kernel
  rcases t d hd with rfl | t
  · exact RoadKit.mvA hZ q
  · exact RoadKit.mv hZ q t
/-- the bytes of the chars cs, low before high -/
def wideBytes : List Int32 → List Value
  | [] => []
  | c :: cs => .int (lo8 c) :: .int (hi8 c) :: wideBytes cs
theorem wide_lo (d : Value) : ∀ (cs : List Int32) (j : Nat), j < cs.length → (wideBytes cs).getD (2 * j) d = .int (lo8 (cs.getD j 0))
  | [], j, h => absurd h (Nat.not_lt_zero j)
  | c :: cs, 0, _ => rfl
  | c :: cs, j + 1, h => by
    have q := wide_lo d cs j (by simpa using h)
    rw [show 2 * (j + 1) = 2 * j + 1 + 1 from by omega]
    simpa [wideBytes] using q
theorem wide_hi (d : Value) : ∀ (cs : List Int32) (j : Nat), j < cs.length → (wideBytes cs).getD (2 * j + 1) d = .int (hi8 (cs.getD j 0))
  | [], j, h => absurd h (Nat.not_lt_zero j)
  | c :: cs, 0, _ => rfl
  | c :: cs, j + 1, h => by
    have q := wide_hi d cs j (by simpa using h)
    rw [show 2 * (j + 1) + 1 = 2 * j + 1 + 1 + 1 from by omega]
    simpa [wideBytes] using q
theorem low_at (d : Value) (cs : List Int32) (j : Nat) (h : j < cs.length) : (cs.map fun c => Value.int (lo8 c)).getD j d = .int (lo8 (cs.getD j 0)) := by
  simp [List.getD_eq_getElem?_getD, h]
/-- an array of N2 bytes vs codes the chars cs by the coder cd -/
def CodA (cs : List Int32) (cd N2 : Int32) (vs : List Value) : Prop := (cd = 0 ∧ N2 = Int32.ofNat cs.length ∧ vs = (cs.map fun c => Value.int (lo8 c)) ∧ ∀ c ∈ cs, ¬ 255 < c) ∨ (cd = 1 ∧ N2 = Int32.ofNat (2 * cs.length) ∧ vs = wideBytes cs ∧ ∃ c ∈ cs, 255 < c)
theorem CodA.cod {cs : List Int32} {cd N2 : Int32} {vs : List Value} {V : Cell} (h : CodA cs cd N2 vs) (hn : 2 * cs.length < 2 ^ 31) (hs : V.slots.size = N2.toNatClampNeg) (hv : RoadKit.Has V vs (.int 0)) : Cod cd cs.length (fun j => cs.getD j 0) V := by
  rcases h with ⟨rfl, rfl, rfl, h⟩ | ⟨rfl, rfl, rfl, c, hc, hw⟩
  · rw [n32 (by omega)] at hs
    exact Or.inl ⟨rfl, hs, fun j hj => ⟨by rw [hv j (by omega), low_at _ _ _ hj], by
      have e : cs.getD j 0 = cs[j] := by simp [List.getD_eq_getElem?_getD, hj]
      show ¬ 255 < cs.getD j 0
      rw [e]; exact h _ (List.getElem_mem _)⟩⟩
  · rw [n32 (by omega)] at hs
    obtain ⟨j, hj, rfl⟩ := List.getElem_of_mem hc
    exact Or.inr ⟨rfl, hs, fun j hj => ⟨by rw [hv _ (by omega), wide_lo _ _ _ hj], by rw [hv _ (by omega), wide_hi _ _ _ hj]⟩, j, hj, by
      have e : cs.getD j 0 = cs[j] := by simp [List.getD_eq_getElem?_getD, hj]
      show 255 < cs.getD j 0
      rw [e]; exact hw⟩
/-- an object of exactly java/lang/String, its two fields found: as the laws ask it -/
theorem strObj {Z U : State} {a0 : Array Value} {kI : Nat} (wi : (Jvm.Cond.instantiable ST kI).before a0 Z = true) (al : Z.vm.Alike U.vm) {x : Addr} {v0 c0 : Value} (E : RoadKit.Exa Z U.heap x ST) (V : RoadKit.Fld Z U.heap x ST "value" "[B" v0) (C : RoadKit.Fld Z U.heap x ST "coder" "B" c0) :
    ∃ (D : Cell) (fV fC : Field), Blank ST x D U ∧ Found ST "value" "[B" fV U ∧ Found ST "coder" "B" fC U ∧ D.slots[fV.slot]? = some v0 ∧ D.slots[fC.slot]? = some c0 ∧ RoadKit.slotOf Z ST "value" "[B" = fV.slot ∧ RoadKit.slotOf Z ST "coder" "B" = fC.slot := by
  obtain ⟨D, cfV, kV, iV, fV, hD, gV, stV, knV, obV, asV, slV⟩ := V
  obtain ⟨D', cfC, kC, iC, fC, hD', gC, stC, -, -, asC, slC⟩ := C
  cases hD.symm.trans hD'
  obtain ⟨D2, kD, e1, e2, e3, e4, e5⟩ := E
  cases hD.symm.trans e1
  obtain ⟨c2, k2, i1, i2, i3, -⟩ := Cond.instantiable_spec wi
  cases e2.symm.trans i1
  cases e3.symm.trans i2
  obtain ⟨kU, u1, u2⟩ := al.2.2 _ _ e3
  exact ⟨D, fV, fC, ⟨hD, ⟨knV, fun q hq => by rw [hq] at obV; cases obV⟩, by rw [al.findClass]; exact e2, kU, u1, by rw [u2]; exact i3, by rw [u2]; exact e5 i3⟩, ⟨SBG.found_only al ⟨cfV, kV, iV, gV⟩, stV⟩, ⟨SBG.found_only al ⟨cfC, kC, iC, gC⟩, stC⟩, slV, slC, by simp [RoadKit.slotOf, gV], by simp [RoadKit.slotOf, gC]⟩
theorem sta_is {Z U : State} (al : Z.vm.Alike U.vm) {C n d : String} {v : Value} (S : RoadKit.Sta Z U.heap C n d v) : StaticIs U C n d v := by
  obtain ⟨cfS, iS, kS, fS, st, cS, t1, t2, t3, t4, t5, t6, t7⟩ := S
  exact StaticIs.there (s := { Z with heap := U.heap }) ⟨cfS, iS, kS, fS, st, cS, t1, t2, t3, t4, t5, (fun q => by rw [q] at t6; cases t6), t7⟩ al rfl
/-- **length() OF SUCH A STRING** -/
theorem lenW {p : Program} {l : Launch} {e : Env} {R : Room} {s : State} {args : Array Value} {below : List Frame} {len W : Nat} {Z : State} {a0 : Array Value} {h : Heap} (hZ : Z.Warmed39 s.vm) (hw : ∀ d ∈ wordsLen, d.before a0 Z = true) {kI : Nat} (wi : (Jvm.Cond.instantiable ST kI).before a0 Z = true)
    {x t : Addr} {kb : ClassId} {cs : List Int32} {cd N2 z : Int32} {vs : List Value} (E : RoadKit.Exa Z h x ST) (V : RoadKit.Fld Z h x ST "value" "[B" (.ref t)) (C : RoadKit.Fld Z h x ST "coder" "B" (.int cd)) (K : RoadKit.Arv Z h t kb .byte N2 vs (.int 0)) (hc : CodA cs cd N2 vs) (hb : ∀ c ∈ cs, ¬ c < 0 ∧ ¬ (65535 : Int32) < c)
    (S : RoadKit.Sta Z h ST "COMPACT_STRINGS" "Z" (.int z)) (hz : ¬ z = 0) (l2 : cs.length ≤ 4000) (hfr : 2 ≤ R.frames) (hlo : W + 25 ≤ R.locals) :
    Back l R p e below s args (⟨"java/lang/String", "length", "()I"⟩ : MethodName) len W (fun P a => a = #[.ref x] ∧ P.U.heap = h ∧ P.cells + 0 ≤ R.cells ∧ P.slots + 0 ≤ R.slots)
      (fun P _ v B => ∃ L, (v = some (.int (Int32.ofNat cs.length)) ∧ L = [] ∧ B.U.heap = h) ∧ B.locs = P.locs ++ L ∧ B.cells = P.cells + 0 ∧ B.slots = P.slots + 0) := by
  obtain ⟨A, K1, K2, K3, K4, K5, K6⟩ := K
  have hcod := hc.cod (by omega) K3 K5
  intro m meth c P g ig mk a X hg hsize hdg hW hn hp'
  obtain ⟨rfl, rfl, r1, r2⟩ := hp'
  have al : Z.vm.Alike P.U.vm := hZ.alike.trans X.warmed.alike
  obtain ⟨D, fV, fC, hB, F1, F2, g1, g2, -, -⟩ := strObj wi al E V C
  have hx : Txt x t A cd cs.length (fun j => cs.getD j 0) P.U := ⟨⟨_, hB.2.2.1, D, hB.1, rfl, by cases q : D.vm <;> first | rfl | exact absurd q (hB.2.1.2 _)⟩, Has.of hB F1 g1, Has.of hB F2 g2, ⟨K1.1, State.isArrayOf_alike al K1.2.1, K1.2.2, by rcases hcod with ⟨-, q, -⟩ | ⟨-, q, -⟩ <;> omega⟩, hcod, fun j hj => by
    have e : cs.getD j 0 = cs[j] := by simp [List.getD_eq_getElem?_getD, hj]
    show ¬ cs.getD j 0 < 0 ∧ ¬ 65535 < cs.getD j 0
    rw [e]; exact hb _ (List.getElem_mem _)⟩
  obtain ⟨v, B, X', ⟨⟨hv, hh⟩, hl, hk, hs⟩, st⟩ := Len.pays x t A cd cs.length (fun j => cs.getD j 0) z (tabLen_of (movedLen hZ hw)) hfr hlo m meth c P g ig mk _ X hg hsize hdg hW hn ⟨r1, r2, rfl, hx, sta_is al S, hz⟩
  exact ⟨v, B, X', ⟨[], ⟨hv, rfl, hh⟩, hl, hk, hs⟩, st⟩
end StrChars.Road
namespace StrChars
open Jvm Sem ClassFile Op Lib Jvm.Stand Jvm.Free.XT Jvm.Free.ALB Jvm.Free.JM Jvm.Free
open Jvm.Lib.Cold (StaticIs)
/-- what place i of a byte[]'s cell holds -/
def yv (A : Cell) (i : Nat) : Int32 := match A.slots[i]? with | some (.int x) => x | _ => 0
theorem yv_get {a : Addr} {A : Cell} {U : State} (h : XT.Arr .byte a A U) (ht : Typed .byte A) {i : Nat} (hi : i < A.slots.size) : A.slots[i]? = some (.int (yv A i)) := by
  have e := Array.getElem?_eq_getElem hi
  have f := ht i _ e
  unfold yv; rw [e]
  generalize A.slots[i] = v at f
  cases v <;> simp [fits] at f ⊢
/-- the two arrays are equal, place for place -/
def EqC (A B : Cell) : Prop := A.slots.size = B.slots.size ∧ ∀ i, i < A.slots.size → yv A i = yv B i
/-- a boolean that says whether p -/
def Says01 (q : Prop) (r : Option Value) (s u : State) : Prop := ∃ v : Int32, r = some (.int v) ∧ u.heap = s.heap ∧ ((v = 1 ∧ q) ∨ (v = 0 ∧ ¬ q))
theorem Says01.mv {q : Prop} : ∀ r (U U' V V' : State), U'.heap = U.heap → V.vm.Alike V'.vm → V'.heap = V.heap → Says01 q r U V → Says01 q r U' V' :=
  fun r U U' V V' h1 _ h2 ⟨v, a, b, c⟩ => ⟨v, a, by rw [h1, h2]; exact b, c⟩
namespace LEq
def yN : MethodName := ⟨"java/lang/StringLatin1", "equals", "([B[B)Z"⟩
abbrev yB : ByteArray := jdk_43_method_13_code
theorem d0 : decode yB 0 = .ok (.aload_n 0, 1) := by decide +kernel
theorem d1 : decode yB 1 = .ok (.arraylength, 1) := by decide +kernel
theorem d2 : decode yB 2 = .ok (.aload_n 1, 1) := by decide +kernel
theorem d3 : decode yB 3 = .ok (.arraylength, 1) := by decide +kernel
theorem d4 : decode yB 4 = .ok (.if_icmp (.ne) 30, 3) := by decide +kernel
theorem d7 : decode yB 7 = .ok (.iconst 0, 1) := by decide +kernel
theorem d8 : decode yB 8 = .ok (.istore_n 2, 1) := by decide +kernel
theorem d9 : decode yB 9 = .ok (.iload_n 2, 1) := by decide +kernel
theorem d10 : decode yB 10 = .ok (.aload_n 0, 1) := by decide +kernel
theorem d11 : decode yB 11 = .ok (.arraylength, 1) := by decide +kernel
theorem d12 : decode yB 12 = .ok (.if_icmp (.ge) 20, 3) := by decide +kernel
theorem d15 : decode yB 15 = .ok (.aload_n 0, 1) := by decide +kernel
theorem d16 : decode yB 16 = .ok (.iload_n 2, 1) := by decide +kernel
theorem d17 : decode yB 17 = .ok (.baload, 1) := by decide +kernel
theorem d18 : decode yB 18 = .ok (.aload_n 1, 1) := by decide +kernel
theorem d19 : decode yB 19 = .ok (.iload_n 2, 1) := by decide +kernel
theorem d20 : decode yB 20 = .ok (.baload, 1) := by decide +kernel
theorem d21 : decode yB 21 = .ok (.if_icmp (.eq) 5, 3) := by decide +kernel
theorem d24 : decode yB 24 = .ok (.iconst 0, 1) := by decide +kernel
theorem d25 : decode yB 25 = .ok (.ireturn, 1) := by decide +kernel
theorem d26 : decode yB 26 = .ok (.iinc 2 1, 3) := by decide +kernel
theorem d29 : decode yB 29 = .ok (.goto (-20), 3) := by decide +kernel
theorem d32 : decode yB 32 = .ok (.iconst 1, 1) := by decide +kernel
theorem d33 : decode yB 33 = .ok (.ireturn, 1) := by decide +kernel
theorem d34 : decode yB 34 = .ok (.iconst 0, 1) := by decide +kernel
theorem d35 : decode yB 35 = .ok (.ireturn, 1) := by decide +kernel
def site : List Cond := []
def tab : Cond := tabOf yN yB 3 (some .boolean) site
def P (a : Addr) (A : Cell) (b : Addr) (B : Cell) (args : Array Value) (s : State) : Prop := args = #[.ref a, .ref b] ∧ XT.Arr .byte a A s ∧ Typed .byte A ∧ XT.Arr .byte b B s ∧ Typed .byte B
/-- whether two byte[] are equal, place for place -/
theorem law (l : Launch) (a : Addr) (A : Cell) (b : Addr) (B : Cell) : Law l yN 2 2 0 0 yB 3 (some .boolean) site (P a A b B) (Says01 (EqC A B)) [] 0 0 := by
  refine Law.of_walk (plainFor_of_name (by decide +kernel)) (by decide +kernel) (by decide +kernel) (by decide) (fun _ _ h => by rw [h.1]; rfl) (fun _ U U' hal hh h => ⟨h.1, h.2.1.mv hal hh, h.2.2.1, h.2.2.2.1.mv hal hh, h.2.2.2.2⟩) (fun r U U' V V' h1 hal h2 h => Says01.mv r U U' V V' h1 hal h2 h) ?_
  intro p e s m args below meth c s₁ X0 hexec hbytes hml hret hlk hnm hown hh0 W hP
  obtain ⟨rfl, hA, tA, hB, tB⟩ := hP
  have a31 := hA.2.2.2
  have b31 := hB.2.2.2
  have hA0 := hA.mv X0.warmed.alike hh0
  have hB0 := hB.mv X0.warmed.alike hh0
  have c1 : Steps p.tables e below (s₁.setTop (entryFrame m #[.ref a, .ref b] 3)) (s₁.setTop (mkF m 0 #[.val (.ref a), .val (.ref b), .unset] [])) := entry rfl
  have c2 : Steps p.tables e below (s₁.setTop (entryFrame m #[.ref a, .ref b] 3)) (s₁.setTop (mkF m 4 #[.val (.ref a), .val (.ref b), .unset] [.int (Int32.ofNat B.slots.size), .int (Int32.ofNat A.slots.size)])) := c1.trans (by
    refine XS.aloadN X0.here hexec rfl (hb hbytes d0) rfl rfl ?_
    refine X0.alen hexec hA0 rfl rfl (hb hbytes d1) ?_
    refine XS.aloadN X0.here hexec rfl (hb hbytes d2) rfl rfl ?_
    refine X0.alen hexec hB0 rfl rfl (hb hbytes d3) ?_
    exact Steps.refl _)
  by_cases hs : A.slots.size = B.slots.size
  · have c3 : Steps p.tables e below (s₁.setTop (entryFrame m #[.ref a, .ref b] 3)) (s₁.setTop (mkF m 9 #[.val (.ref a), .val (.ref b), .val (.int 0)] [])) := c2.trans (by
      refine XS.icmpNo X0.here hexec rfl (hb hbytes d4) rfl (ii_ne_f (by rw [hs])) ?_
      refine iconstV X0.here hexec rfl 0 (hb hbytes d7) (by decide) ?_
      refine XS.istoreN X0.here hexec rfl (hb hbytes d8) rfl rfl ?_
      exact Steps.refl _)
    have loop : ∀ (r i : Nat), i + r = A.slots.size → (∀ j, j < i → yv A j = yv B j) → Steps p.tables e below (s₁.setTop (entryFrame m #[.ref a, .ref b] 3)) (s₁.setTop (mkF m 9 #[.val (.ref a), .val (.ref b), .val (.int (Int32.ofNat i))] [])) → ∃ (pc : Nat) (Ls : Array Slot) (v : Int32), (pc = 25 ∨ pc = 33) ∧ ((v = 1 ∧ EqC A B) ∨ (v = 0 ∧ ¬ EqC A B)) ∧ Steps p.tables e below (s₁.setTop (entryFrame m #[.ref a, .ref b] 3)) (s₁.setTop (mkF m pc Ls [.int v])) := by
      intro r
      induction r with
      | zero =>
        intro i hi he cl
        exact ⟨33, _, 1, Or.inr rfl, Or.inl ⟨rfl, hs, fun j hj => he j (by omega)⟩, cl.trans (by
          refine XS.iloadN X0.here hexec rfl (hb hbytes d9) rfl ?_
          refine XS.aloadN X0.here hexec rfl (hb hbytes d10) rfl rfl ?_
          refine X0.alen hexec hA0 rfl rfl (hb hbytes d11) ?_
          refine XS.icmpYes X0.here hexec rfl (pc0 := 12) rfl (hb hbytes d12) rfl (ii_ge_t (nlt32 (by omega) (by omega))) (by decide) rfl ?_
          refine iconstV X0.here hexec rfl 1 (hb hbytes d32) (by decide) ?_
          exact Steps.refl _)⟩
      | succ r ih =>
        intro i hi he cl
        have c4 : Steps p.tables e below (s₁.setTop (entryFrame m #[.ref a, .ref b] 3)) (s₁.setTop (mkF m 21 #[.val (.ref a), .val (.ref b), .val (.int (Int32.ofNat i))] [.int (yv B i), .int (yv A i)])) := cl.trans (by
          refine XS.iloadN X0.here hexec rfl (hb hbytes d9) rfl ?_
          refine XS.aloadN X0.here hexec rfl (hb hbytes d10) rfl rfl ?_
          refine X0.alen hexec hA0 rfl rfl (hb hbytes d11) ?_
          refine XS.icmpNo X0.here hexec rfl (hb hbytes d12) rfl (ii_ge_f (lt32 (by omega) (by omega))) ?_
          refine XS.aloadN X0.here hexec rfl (hb hbytes d15) rfl rfl ?_
          refine XS.iloadN X0.here hexec rfl (hb hbytes d16) rfl ?_
          refine X0.aget hexec hA0 rfl (yv_get hA tA (i := i) (by omega)) rfl rfl (hb hbytes d17) ?_
          refine XS.aloadN X0.here hexec rfl (hb hbytes d18) rfl rfl ?_
          refine XS.iloadN X0.here hexec rfl (hb hbytes d19) rfl ?_
          refine X0.aget hexec hB0 rfl (yv_get hB tB (i := i) (by omega)) rfl rfl (hb hbytes d20) ?_
          exact Steps.refl _)
        by_cases hv : yv A i = yv B i
        · have c5 : Steps p.tables e below (s₁.setTop (entryFrame m #[.ref a, .ref b] 3)) (s₁.setTop (mkF m 9 #[.val (.ref a), .val (.ref b), .val (.int (Int32.ofNat i + 1))] [])) := c4.trans (by
            refine XS.icmpYes X0.here hexec rfl (pc0 := 21) rfl (hb hbytes d21) rfl (ii_eq_t hv) (by decide) rfl ?_
            refine iincV X0.here hexec rfl 1 (hb hbytes d26) (by decide) rfl rfl ?_
            refine XS.goto X0.here hexec rfl (pc0 := 29) rfl (hb hbytes d29) (by decide) rfl ?_
            exact Steps.refl _)
          rw [succ32] at c5
          exact ih (i + 1) (by omega) (fun j hj => by
            by_cases e : j = i
            · rw [e]; exact hv
            · exact he j (by omega)) c5
        · exact ⟨25, _, 0, Or.inl rfl, Or.inr ⟨rfl, fun q => hv (q.2 i (by omega))⟩, c4.trans (by
            refine XS.icmpNo X0.here hexec rfl (hb hbytes d21) rfl (ii_eq_f hv) ?_
            refine iconstV X0.here hexec rfl 0 (hb hbytes d24) (by decide) ?_
            exact Steps.refl _)⟩
    obtain ⟨pc, Ls, v, hpc, hv, cz⟩ := loop A.slots.size 0 (by omega) (fun j hj => absurd hj (Nat.not_lt_zero j)) c3
    have nv : narrow .boolean (.int v) = .int v := by rcases hv with ⟨rfl, -⟩ | ⟨rfl, -⟩ <;> rfl
    rcases hpc with rfl | rfl
    · exact ⟨s₁, some (.int v), _, _, _, X0, rfl, rfl, rfl, (fun h => by cases h), ⟨v, rfl, hh0, hv⟩, fun fs hl => cz.trans (X0.ireturnOut hexec hret nv (Or.inr (Or.inl rfl)) (hb hbytes d25) hl)⟩
    · exact ⟨s₁, some (.int v), _, _, _, X0, rfl, rfl, rfl, (fun h => by cases h), ⟨v, rfl, hh0, hv⟩, fun fs hl => cz.trans (X0.ireturnOut hexec hret nv (Or.inr (Or.inl rfl)) (hb hbytes d33) hl)⟩
  · have c3 : Steps p.tables e below (s₁.setTop (entryFrame m #[.ref a, .ref b] 3)) (s₁.setTop (mkF m 35 #[.val (.ref a), .val (.ref b), .unset] [.int 0])) := c2.trans (by
      refine XS.icmpYes X0.here hexec rfl (pc0 := 4) rfl (hb hbytes d4) rfl (ii_ne_t (ne32 a31 b31 hs)) (by decide) rfl ?_
      refine iconstV X0.here hexec rfl 0 (hb hbytes d34) (by decide) ?_
      exact Steps.refl _)
    exact ⟨s₁, some (.int 0), _, _, _, X0, rfl, rfl, rfl, (fun h => by cases h), ⟨0, rfl, hh0, Or.inr ⟨rfl, fun q => hs q.1⟩⟩, fun fs hl => c3.trans (X0.ireturnOut hexec hret rfl (Or.inr (Or.inl rfl)) (hb hbytes d35) hl)⟩
end LEq
theorem Cod.ty {cd : Int32} {n : Nat} {f : Nat → Int32} {V : Cell} (h : Cod cd n f V) : Typed .byte V := fun i v hv => by
  have hi : i < V.slots.size := (Array.getElem?_eq_some_iff.mp hv).1
  rcases h with ⟨-, k1, k2⟩ | ⟨-, k1, k2, -⟩
  · rw [(k2 i (by omega)).1] at hv; cases hv; exact fits_lo8 _
  · rcases Nat.mod_two_eq_zero_or_one i with e | e
    · obtain ⟨j, rfl⟩ : ∃ j, i = 2 * j := ⟨i / 2, by omega⟩
      rw [(k2 j (by omega)).1] at hv; cases hv; exact fits_lo8 _
    · obtain ⟨j, rfl⟩ : ∃ j, i = 2 * j + 1 := ⟨i / 2, by omega⟩
      rw [(k2 j (by omega)).2] at hv; cases hv; exact fits_lo8 _
/-- the same text -/
def SameT (n : Nat) (f : Nat → Int32) (k : Nat) (g : Nat → Int32) : Prop := n = k ∧ ∀ j, j < n → f j = g j
theorem lo8_inj {x y : Int32} (h0 : ¬ x < 0) (h1 : ¬ 255 < x) (k0 : ¬ y < 0) (k1 : ¬ 255 < y) (h : lo8 x = lo8 y) : x = y := by
  rw [← lo8_mask h0 h1, ← lo8_mask k0 k1, h]
/-- arrays coded by one coder are equal just where the texts are -/
theorem Cod.eqv {cd : Int32} {n k : Nat} {f g : Nat → Int32} {V V' : Cell} (h : Cod cd n f V) (h' : Cod cd k g V') (hf : ∀ j, j < n → ¬ f j < 0 ∧ ¬ 65535 < f j) (hg : ∀ j, j < k → ¬ g j < 0 ∧ ¬ 65535 < g j) : EqC V V' ↔ SameT n f k g := by
  have yvv : ∀ {W : Cell} {i : Nat} {x : Int32}, W.slots[i]? = some (.int x) → yv W i = x := fun q => by unfold yv; rw [q]
  rcases h with ⟨rfl, k1, k2⟩ | ⟨rfl, k1, k2, -⟩
  · rcases h' with ⟨-, m1, m2⟩ | ⟨e, -⟩
    · constructor
      · rintro ⟨e1, e2⟩
        refine ⟨by omega, fun j hj => ?_⟩
        have q := e2 j (by omega)
        rw [yvv (k2 j hj).1, yvv (m2 j (by omega)).1] at q
        exact lo8_inj (hf j hj).1 (k2 j hj).2 (hg j (by omega)).1 (m2 j (by omega)).2 q
      · rintro ⟨rfl, e2⟩
        refine ⟨by omega, fun j hj => ?_⟩
        rw [yvv (k2 j (by omega)).1, yvv (m2 j (by omega)).1, e2 j (by omega)]
    · exact absurd e (by decide)
  · rcases h' with ⟨e, -⟩ | ⟨-, m1, m2, -⟩
    · exact absurd e (by decide)
    · constructor
      · rintro ⟨e1, e2⟩
        refine ⟨by omega, fun j hj => ?_⟩
        have q1 := e2 (2 * j) (by omega)
        have q2 := e2 (2 * j + 1) (by omega)
        rw [yvv (k2 j hj).1, yvv (m2 j (by omega)).1] at q1
        rw [yvv (k2 j hj).2, yvv (m2 j (by omega)).2] at q2
        rw [← pair_says (hf j hj).1 (hf j hj).2, ← pair_says (hg j (by omega)).1 (hg j (by omega)).2, q1, q2]
      · rintro ⟨rfl, e2⟩
        refine ⟨by omega, fun i hi => ?_⟩
        rcases Nat.mod_two_eq_zero_or_one i with e | e
        · obtain ⟨j, rfl⟩ : ∃ j, i = 2 * j := ⟨i / 2, by omega⟩
          rw [yvv (k2 j (by omega)).1, yvv (m2 j (by omega)).1, e2 j (by omega)]
        · obtain ⟨j, rfl⟩ : ∃ j, i = 2 * j + 1 := ⟨i / 2, by omega⟩
          rw [yvv (k2 j (by omega)).2, yvv (m2 j (by omega)).2, e2 j (by omega)]
/-- two codings differ: so do the texts -/
theorem Cod.dif {cd cd' : Int32} {n k : Nat} {f g : Nat → Int32} {V V' : Cell} (h : Cod cd n f V) (h' : Cod cd' k g V') (hne : ¬ cd = cd') : ¬ SameT n f k g := by
  rintro ⟨rfl, e⟩
  rcases h with ⟨rfl, -, k2⟩ | ⟨rfl, -, -, j, hj, hw⟩
  · rcases h' with ⟨rfl, -⟩ | ⟨-, -, -, j, hj, hw⟩
    · exact hne rfl
    · exact (k2 j hj).2 (by rw [e j hj]; exact hw)
  · rcases h' with ⟨-, -, m2⟩ | ⟨rfl, -⟩
    · exact (m2 j hj).2 (by rw [← e j hj]; exact hw)
    · exact hne rfl
/-- an object of exactly C is an instance of C -/
theorem cinst {p : Program} {l : Launch} {e : Env} {R : Room} {s : State} {m : MethodId} {args : Array Value} {below : List Frame} {meth : Method} {c : Code} {T : State} {locs : List Loc} {cells slots : Nat} (X : Stand p l e R s m args below meth c T locs cells slots) (hexec : p.tables.exec = Jvm.exec) {own C : String} {index : Nat} (hown : s.vm.findClass own = some m.cls) (hlink : (Cond.classLink own index C).before args s = true) {a : Addr} (hE : Exact C a T)
    {g : JFrame} (hg : g.method = m) {rest : List Value} (hstack : g.stack = .ref a :: rest) (hdg : decode c.code g.pc = .ok (.instanceof index, 3)) :
    ∃ T', Stand p l e R s m args below meth c T' locs cells slots ∧ T'.heap = T.heap ∧ ∀ target, Steps p.tables e below (T'.setTop { g with pc := g.pc + 3, stack := .int 1 :: rest }) target → Steps p.tables e below (T.setTop g) target := by
  obtain ⟨cB, h1, D, h2, h3, h4⟩ := hE
  have h1' : s.vm.findClass C = some cB := by rw [← X.warmed.alike.findClass]; exact h1
  obtain ⟨vm', X', st⟩ := X.instanceofYes hexec hown hlink h2 h4 h1' (by rw [h3]; exact Jvm.Free.SB.assignable_self _ _) hg hstack hdg
  exact ⟨_, X', rfl, st⟩
theorem cself {p : Program} {l : Launch} {e : Env} {R : Room} {s : State} {m : MethodId} {args : Array Value} {below : List Frame} {meth : Method} {c : Code} {T : State} {locs : List Loc} {cells slots : Nat} (X : Stand p l e R s m args below meth c T locs cells slots) (hexec : p.tables.exec = Jvm.exec) {own C : String} {index : Nat} (hown : s.vm.findClass own = some m.cls) (hlink : (Cond.classLink own index C).before args s = true) {a : Addr} (hE : Exact C a T)
    {g : JFrame} (hg : g.method = m) {rest : List Value} (hstack : g.stack = .ref a :: rest) (hdg : decode c.code g.pc = .ok (.checkcast index, 3)) :
    ∃ T', Stand p l e R s m args below meth c T' locs cells slots ∧ T'.heap = T.heap ∧ ∀ target, Steps p.tables e below (T'.setTop { g with pc := g.pc + 3, stack := .ref a :: rest }) target → Steps p.tables e below (T.setTop g) target := by
  obtain ⟨cB, h1, D, h2, h3, h4⟩ := hE
  have h1' : s.vm.findClass C = some cB := by rw [← X.warmed.alike.findClass]; exact h1
  obtain ⟨vm', X', st⟩ := X.checkcastYes hexec hown hlink h2 h4 h1' (by rw [h3]; exact Jvm.Free.SB.assignable_self _ _) hg hstack hdg
  exact ⟨_, X', rfl, fun t h => st t (by rw [← hstack] at h; exact h)⟩
namespace SEq
def yN : MethodName := ⟨"java/lang/String", "equals", "(Ljava/lang/Object;)Z"⟩
abbrev yB : ByteArray := jdk_42_method_66_code
theorem d0 : decode yB 0 = .ok (.aload_n 0, 1) := by decide +kernel
theorem d1 : decode yB 1 = .ok (.aload_n 1, 1) := by decide +kernel
theorem d2 : decode yB 2 = .ok (.if_acmp (.ne) 5, 3) := by decide +kernel
theorem d5 : decode yB 5 = .ok (.iconst 1, 1) := by decide +kernel
theorem d6 : decode yB 6 = .ok (.ireturn, 1) := by decide +kernel
theorem d7 : decode yB 7 = .ok (.aload_n 1, 1) := by decide +kernel
theorem d8 : decode yB 8 = .ok (.instanceof 10, 3) := by decide +kernel
theorem d11 : decode yB 11 = .ok (.ifCond (.eq) 43, 3) := by decide +kernel
theorem d14 : decode yB 14 = .ok (.aload_n 1, 1) := by decide +kernel
theorem d15 : decode yB 15 = .ok (.checkcast 10, 3) := by decide +kernel
theorem d18 : decode yB 18 = .ok (.astore_n 2, 1) := by decide +kernel
theorem d19 : decode yB 19 = .ok (.getstatic 38, 3) := by decide +kernel
theorem d22 : decode yB 22 = .ok (.ifCond (.eq) 14, 3) := by decide +kernel
theorem d25 : decode yB 25 = .ok (.aload_n 0, 1) := by decide +kernel
theorem d26 : decode yB 26 = .ok (.getfield 15, 3) := by decide +kernel
theorem d29 : decode yB 29 = .ok (.aload_n 2, 1) := by decide +kernel
theorem d30 : decode yB 30 = .ok (.getfield 15, 3) := by decide +kernel
theorem d33 : decode yB 33 = .ok (.if_icmp (.ne) 21, 3) := by decide +kernel
theorem d36 : decode yB 36 = .ok (.aload_n 0, 1) := by decide +kernel
theorem d37 : decode yB 37 = .ok (.getfield 9, 3) := by decide +kernel
theorem d40 : decode yB 40 = .ok (.aload_n 2, 1) := by decide +kernel
theorem d41 : decode yB 41 = .ok (.getfield 9, 3) := by decide +kernel
theorem d44 : decode yB 44 = .ok (.invokestatic 541, 3) := by decide +kernel
theorem d47 : decode yB 47 = .ok (.ifCond (.eq) 7, 3) := by decide +kernel
theorem d50 : decode yB 50 = .ok (.iconst 1, 1) := by decide +kernel
theorem d51 : decode yB 51 = .ok (.goto 4, 3) := by decide +kernel
theorem d54 : decode yB 54 = .ok (.iconst 0, 1) := by decide +kernel
theorem d55 : decode yB 55 = .ok (.ireturn, 1) := by decide +kernel
def site : List Cond := [.classLink "java/lang/String" 10 "java/lang/String", .fieldLink "java/lang/String" 38 "java/lang/String" "COMPACT_STRINGS" "Z", .fieldLink "java/lang/String" 15 "java/lang/String" "coder" "B", .fieldLink "java/lang/String" 9 "java/lang/String" "value" "[B", LEq.tab] ++ staticW "java/lang/String" 541 LEq.yN
def tab : Cond := tabOf yN yB 3 (some .boolean) site
def P (x t : Addr) (V : Cell) (cd : Int32) (n : Nat) (f : Nat → Int32) (y t' : Addr) (V' : Cell) (cd' : Int32) (k : Nat) (g : Nat → Int32) (z : Int32) (args : Array Value) (s : State) : Prop := args = #[.ref x, .ref y] ∧ Txt x t V cd n f s ∧ Txt y t' V' cd' k g s ∧ StaticIs s "java/lang/String" "COMPACT_STRINGS" "Z" (.int z) ∧ ¬ z = 0
/-- equals(Object) of two Strings: whether the texts are the same -/
theorem law (l : Launch) (x t : Addr) (V : Cell) (cd : Int32) (n : Nat) (f : Nat → Int32) (y t' : Addr) (V' : Cell) (cd' : Int32) (k : Nat) (g : Nat → Int32) (z : Int32) : Law l yN 2 1 1 14 yB 3 (some .boolean) site (P x t V cd n f y t' V' cd' k g z) (Says01 (SameT n f k g)) [] 0 0 := by
  refine Law.of_walk (plainFor_of_name (by decide +kernel)) (by decide +kernel) (by decide +kernel) (by decide) (fun _ _ h => by rw [h.1]; rfl) (fun _ U U' hal hh h => ⟨h.1, h.2.1.mv hal hh, h.2.2.1.mv hal hh, h.2.2.2.1.there hal hh, h.2.2.2.2⟩) (fun r U U' V V' h1 hal h2 h => Says01.mv r U U' V V' h1 hal h2 h) ?_
  intro p e s m args below meth c s₁ X0 hexec hbytes hml hret hlk hnm hown hh0 W hP
  obtain ⟨rfl, hx, hy, s1, hz⟩ := hP
  have c1 : Steps p.tables e below (s₁.setTop (entryFrame m #[.ref x, .ref y] 3)) (s₁.setTop (mkF m 2 #[.val (.ref x), .val (.ref y), .unset] [.ref y, .ref x])) := Steps.trans (entry rfl) (by
    show Steps p.tables e below (s₁.setTop (mkF m 0 #[.val (.ref x), .val (.ref y), .unset] [])) _
    refine XS.aloadN X0.here hexec rfl (hb hbytes d0) rfl rfl ?_
    refine XS.aloadN X0.here hexec rfl (hb hbytes d1) rfl rfl ?_
    exact Steps.refl _)
  by_cases hxy : x = y
  · have c2 : Steps p.tables e below (s₁.setTop (entryFrame m #[.ref x, .ref y] 3)) (s₁.setTop (mkF m 6 #[.val (.ref x), .val (.ref y), .unset] [.int 1])) := c1.trans (by
      refine acmpNo X0.here hexec rfl (hb hbytes d2) rfl rfl rfl (by simp [acmp, hxy]) ?_
      refine iconstV X0.here hexec rfl 1 (hb hbytes d5) (by decide) ?_
      exact Steps.refl _)
    subst hxy
    have ec : cd = cd' := by
      obtain ⟨D, fd, a1, a2, a3⟩ := hx.2.2.1
      obtain ⟨D', fd', b1, b2, b3⟩ := hy.2.2.1
      cases a1.symm.trans b1
      obtain ⟨q1, q2, q3, q4⟩ := a2.1
      obtain ⟨r1, r2, r3, r4⟩ := b2.1
      cases q4.symm.trans r4
      cases a3.symm.trans b3; rfl
    have et : t = t' := by
      obtain ⟨D, fd, a1, a2, a3⟩ := hx.2.1
      obtain ⟨D', fd', b1, b2, b3⟩ := hy.2.1
      cases a1.symm.trans b1
      obtain ⟨q1, q2, q3, q4⟩ := a2.1
      obtain ⟨r1, r2, r3, r4⟩ := b2.1
      cases q4.symm.trans r4
      cases a3.symm.trans b3; rfl
    subst ec et
    have ev : V = V' := by cases hx.2.2.2.1.1.symm.trans hy.2.2.2.1.1; rfl
    subst ev
    have hs : SameT n f k g := (Cod.eqv hx.2.2.2.2.1 hy.2.2.2.2.1 hx.2.2.2.2.2 hy.2.2.2.2.2).mp ⟨rfl, fun _ _ => rfl⟩
    exact ⟨s₁, some (.int 1), _, _, _, X0, rfl, rfl, rfl, (fun h => by cases h), ⟨1, rfl, hh0, Or.inl ⟨rfl, hs⟩⟩, fun fs hl => c2.trans (X0.ireturnOut hexec hret rfl (Or.inr (Or.inl rfl)) (hb hbytes d6) hl)⟩
  · have c2 : Steps p.tables e below (s₁.setTop (entryFrame m #[.ref x, .ref y] 3)) (s₁.setTop (mkF m 8 #[.val (.ref x), .val (.ref y), .unset] [.ref y])) := c1.trans (by
      refine acmpYes X0.here hexec rfl (pc0 := 2) rfl (hb hbytes d2) rfl rfl rfl (by simp [acmp, hxy]) (by decide) rfl ?_
      refine XS.aloadN X0.here hexec rfl (hb hbytes d7) rfl rfl ?_
      exact Steps.refl _)
    obtain ⟨T3, X3, q3, st3⟩ := cinst X0 hexec hown (wk W (.classLink "java/lang/String" 10 "java/lang/String")) (hy.mv X0.warmed.alike hh0).1 (g := (mkF m 8 #[.val (.ref x), .val (.ref y), .unset] [.ref y])) rfl (rest := []) rfl (hb hbytes d8)
    have hh3 := q3.trans hh0
    have c4 : Steps p.tables e below (s₁.setTop (entryFrame m #[.ref x, .ref y] 3)) (T3.setTop (mkF m 15 #[.val (.ref x), .val (.ref y), .unset] [.ref y])) := (c2.trans (st3 _ (Steps.refl _))).trans (by
      refine XS.ifNo X3.here hexec rfl (hb hbytes d11) rfl (i0_eq_f (by decide)) ?_
      refine XS.aloadN X3.here hexec rfl (hb hbytes d14) rfl rfl ?_
      exact Steps.refl _)
    obtain ⟨T5, X5, q5, st5⟩ := cself X3 hexec hown (wk W (.classLink "java/lang/String" 10 "java/lang/String")) (hy.mv X3.warmed.alike hh3).1 (g := (mkF m 15 #[.val (.ref x), .val (.ref y), .unset] [.ref y])) rfl (rest := []) rfl (hb hbytes d15)
    have hh5 := q5.trans hh3
    have c6 : Steps p.tables e below (s₁.setTop (entryFrame m #[.ref x, .ref y] 3)) (T5.setTop (mkF m 19 #[.val (.ref x), .val (.ref y), .val (.ref y)] [])) := (c4.trans (st5 _ (Steps.refl _))).trans (by
      refine XS.astoreN X5.here hexec rfl (hb hbytes d18) rfl rfl rfl ?_
      exact Steps.refl _)
    obtain ⟨T7, X7, q7, st7⟩ := X5.sget hexec hown (wk W (.fieldLink "java/lang/String" 38 "java/lang/String" "COMPACT_STRINGS" "Z")) s1 (fun _ _ h => by rw [hh5]; exact h) (g := (mkF m 19 #[.val (.ref x), .val (.ref y), .val (.ref y)] [])) rfl (hb hbytes d19)
    have hh7 := q7.trans hh5
    have c8 : Steps p.tables e below (s₁.setTop (entryFrame m #[.ref x, .ref y] 3)) (T7.setTop (mkF m 26 #[.val (.ref x), .val (.ref y), .val (.ref y)] [.ref x])) := (c6.trans (st7 _ (Steps.refl _))).trans (by
      refine XS.ifNo X7.here hexec rfl (hb hbytes d22) rfl (i0_eq_f hz) ?_
      refine XS.aloadN X7.here hexec rfl (hb hbytes d25) rfl rfl ?_
      exact Steps.refl _)
    obtain ⟨T9, X9, q9, st9⟩ := X7.hget hexec hown (wk W (.fieldLink "java/lang/String" 15 "java/lang/String" "coder" "B")) (hx.mv X7.warmed.alike hh7).2.2.1 (g := (mkF m 26 #[.val (.ref x), .val (.ref y), .val (.ref y)] [.ref x])) rfl (rest := []) rfl (hb hbytes d26)
    have hh9 := q9.trans hh7
    have c10 : Steps p.tables e below (s₁.setTop (entryFrame m #[.ref x, .ref y] 3)) (T9.setTop (mkF m 30 #[.val (.ref x), .val (.ref y), .val (.ref y)] [.ref y, .int cd])) := (c8.trans (st9 _ (Steps.refl _))).trans (by
      refine XS.aloadN X9.here hexec rfl (hb hbytes d29) rfl rfl ?_
      exact Steps.refl _)
    obtain ⟨T11, X11, q11, st11⟩ := X9.hget hexec hown (wk W (.fieldLink "java/lang/String" 15 "java/lang/String" "coder" "B")) (hy.mv X9.warmed.alike hh9).2.2.1 (g := (mkF m 30 #[.val (.ref x), .val (.ref y), .val (.ref y)] [.ref y, .int cd])) rfl (rest := [.int cd]) rfl (hb hbytes d30)
    have hh11 := q11.trans hh9
    have c12 : Steps p.tables e below (s₁.setTop (entryFrame m #[.ref x, .ref y] 3)) (T11.setTop (mkF m 33 #[.val (.ref x), .val (.ref y), .val (.ref y)] [.int cd', .int cd])) := c10.trans (st11 _ (Steps.refl _))
    by_cases hcd : cd = cd'
    · subst hcd
      have c13 : Steps p.tables e below (s₁.setTop (entryFrame m #[.ref x, .ref y] 3)) (T11.setTop (mkF m 37 #[.val (.ref x), .val (.ref y), .val (.ref y)] [.ref x])) := c12.trans (by
        refine XS.icmpNo X11.here hexec rfl (hb hbytes d33) rfl (ii_ne_f rfl) ?_
        refine XS.aloadN X11.here hexec rfl (hb hbytes d36) rfl rfl ?_
        exact Steps.refl _)
      obtain ⟨T14, X14, q14, st14⟩ := X11.hget hexec hown (wk W (.fieldLink "java/lang/String" 9 "java/lang/String" "value" "[B")) (hx.mv X11.warmed.alike hh11).2.1 (g := (mkF m 37 #[.val (.ref x), .val (.ref y), .val (.ref y)] [.ref x])) rfl (rest := []) rfl (hb hbytes d37)
      have hh14 := q14.trans hh11
      have c15 : Steps p.tables e below (s₁.setTop (entryFrame m #[.ref x, .ref y] 3)) (T14.setTop (mkF m 41 #[.val (.ref x), .val (.ref y), .val (.ref y)] [.ref y, .ref t])) := (c13.trans (st14 _ (Steps.refl _))).trans (by
        refine XS.aloadN X14.here hexec rfl (hb hbytes d40) rfl rfl ?_
        exact Steps.refl _)
      obtain ⟨T16, X16, q16, st16⟩ := X14.hget hexec hown (wk W (.fieldLink "java/lang/String" 9 "java/lang/String" "value" "[B")) (hy.mv X14.warmed.alike hh14).2.1 (g := (mkF m 41 #[.val (.ref x), .val (.ref y), .val (.ref y)] [.ref y, .ref t])) rfl (rest := [.ref t]) rfl (hb hbytes d41)
      have hh16 := q16.trans hh14
      have c17 : Steps p.tables e below (s₁.setTop (entryFrame m #[.ref x, .ref y] 3)) (T16.setTop (mkF m 44 #[.val (.ref x), .val (.ref y), .val (.ref y)] [.ref t', .ref t])) := c15.trans (st16 _ (Steps.refl _))
      obtain ⟨v18, T18, X18, E18, g18⟩ := X16.callS hexec (LEq.law l t V t' V') hown (wks W (staticW "java/lang/String" 541 LEq.yN)) (wk W LEq.tab) (W := 0) (Nat.le_of_ble_eq_true rfl) (Nat.le_of_ble_eq_true rfl) (Nat.le_refl _) (Nat.le_refl _) (g := (mkF m 44 #[.val (.ref x), .val (.ref y), .val (.ref y)] [.ref t', .ref t])) rfl (by rw [hml]; rfl) c17 (argsL := [.ref t, .ref t']) (rest := []) rfl rfl (by show 2 * 0 + 0 ≤ _; decide) (hb hbytes d44) (⟨rfl, hx.2.2.2.1.mv X16.warmed.alike hh16, hx.2.2.2.2.1.ty, hy.2.2.2.1.mv X16.warmed.alike hh16, hy.2.2.2.2.1.ty⟩)
      obtain ⟨v, rfl, q18, hv⟩ := E18
      have iff := Cod.eqv hx.2.2.2.2.1 hy.2.2.2.2.1 hx.2.2.2.2.2 hy.2.2.2.2.2
      rcases hv with ⟨rfl, he⟩ | ⟨rfl, he⟩
      · have c19 : Steps p.tables e below (s₁.setTop (entryFrame m #[.ref x, .ref y] 3)) (T18.setTop (mkF m 55 #[.val (.ref x), .val (.ref y), .val (.ref y)] [.int 1])) := Steps.trans g18 (by
          refine XS.ifNo X18.here hexec rfl (hb hbytes d47) rfl (i0_eq_f (by decide)) ?_
          refine iconstV X18.here hexec rfl 1 (hb hbytes d50) (by decide) ?_
          refine XS.goto X18.here hexec rfl (pc0 := 51) rfl (hb hbytes d51) (by decide) rfl ?_
          exact Steps.refl _)
        exact ⟨T18, some (.int 1), _, _, _, X18, rfl, rfl, rfl, (fun h => by cases h), ⟨1, rfl, q18.trans hh16, Or.inl ⟨rfl, iff.mp he⟩⟩, fun fs hl => c19.trans (X18.ireturnOut hexec hret rfl (Or.inr (Or.inl rfl)) (hb hbytes d55) hl)⟩
      · have c19 : Steps p.tables e below (s₁.setTop (entryFrame m #[.ref x, .ref y] 3)) (T18.setTop (mkF m 55 #[.val (.ref x), .val (.ref y), .val (.ref y)] [.int 0])) := Steps.trans g18 (by
          refine XS.ifYes X18.here hexec rfl (pc0 := 47) rfl (hb hbytes d47) rfl (i0_eq_t rfl) (by decide) rfl ?_
          refine iconstV X18.here hexec rfl 0 (hb hbytes d54) (by decide) ?_
          exact Steps.refl _)
        exact ⟨T18, some (.int 0), _, _, _, X18, rfl, rfl, rfl, (fun h => by cases h), ⟨0, rfl, q18.trans hh16, Or.inr ⟨rfl, fun q => he (iff.mpr q)⟩⟩, fun fs hl => c19.trans (X18.ireturnOut hexec hret rfl (Or.inr (Or.inl rfl)) (hb hbytes d55) hl)⟩
    · have c13 : Steps p.tables e below (s₁.setTop (entryFrame m #[.ref x, .ref y] 3)) (T11.setTop (mkF m 55 #[.val (.ref x), .val (.ref y), .val (.ref y)] [.int 0])) := c12.trans (by
        refine XS.icmpYes X11.here hexec rfl (pc0 := 33) rfl (hb hbytes d33) rfl (ii_ne_t hcd) (by decide) rfl ?_
        refine iconstV X11.here hexec rfl 0 (hb hbytes d54) (by decide) ?_
        exact Steps.refl _)
      exact ⟨T11, some (.int 0), _, _, _, X11, rfl, rfl, rfl, (fun h => by cases h), ⟨0, rfl, hh11, Or.inr ⟨rfl, Cod.dif hx.2.2.2.2.1 hy.2.2.2.2.1 hcd⟩⟩, fun fs hl => c13.trans (X11.ireturnOut hexec hret rfl (Or.inr (Or.inl rfl)) (hb hbytes d55) hl)⟩
theorem pays {l : Launch} {R : Room} {p : Program} {e : Env} {below : List Frame} {s : State} {sargs : Array Value} {len W : Nat} (x t : Addr) (V : Cell) (cd : Int32) (n : Nat) (f : Nat → Int32) (y t' : Addr) (V' : Cell) (cd' : Int32) (k : Nat) (g : Nat → Int32) (z : Int32) (htab : tab.before sargs s = true) (hfr : 2 ≤ R.frames) (hlo : W + 28 ≤ R.locals) :
    Back l R p e below s sargs yN len W (fun A₁ a₁ => A₁.cells + 0 ≤ R.cells ∧ A₁.slots + 0 ≤ R.slots ∧ P x t V cd n f y t' V' cd' k g z a₁ A₁.U) (fun A₁ _ v₁ B₁ => Says01 (SameT n f k g) v₁ A₁.U B₁.U ∧ B₁.locs = A₁.locs ++ [] ∧ B₁.cells = A₁.cells + 0 ∧ B₁.slots = A₁.slots + 0) :=
  (law l x t V cd n f y t' V' cd' k g z).pays htab hfr (by omega)
end SEq
end StrChars
namespace StrChars.Road
open Jvm Sem ClassFile Op Lib Jvm.Stand Jvm.Free Jvm.Free.XT
open Jvm.Lib.Cold (StaticIs)
/-- the words of String.equals(Object) -/
abbrev wordsEq : List Jvm.Cond := [.code SEq.yN SEq.yB 3 (some .boolean), .initialized ST, .classLink ST 10 ST, .fieldLink ST 38 ST "COMPACT_STRINGS" "Z", .fieldLink ST 15 ST "coder" "B", .fieldLink ST 9 ST "value" "[B", .methodLink ST 541 LEq.yN, .static LEq.yN, .code LEq.yN LEq.yB 3 (some .boolean), .initialized "java/lang/StringLatin1"]
theorem tabEq_of {a : Array Value} {s : State} (h : ∀ w ∈ wordsEq, w.before a s = true) : SEq.tab.before a s = true := by
  have hl : LEq.tab.before a s = true := unparts (wk h (.code LEq.yN LEq.yB 3 (some .boolean))) (wks h (.initialized LEq.yN.cls :: LEq.site))
  have q := consq hl h
  exact unparts (wk q (.code SEq.yN SEq.yB 3 (some .boolean))) (wks q (.initialized SEq.yN.cls :: SEq.site))
theorem movedEq {Z s : State} {a0 args : Array Value} (hZ : Z.Warmed39 s.vm) (hw : ∀ d ∈ wordsEq, d.before a0 Z = true) : ∀ d ∈ wordsEq, d.before args s = true := fun d hd => by
  have t : ∀ d ∈ wordsEq, (d.onTables && d.keepsFace) = true := by decide +kernel
  exact RoadKit.mv hZ (hw d hd) (t d hd)
/-- the road's facts of a String, as the laws ask it -/
theorem txt_of {Z U : State} {a0 : Array Value} {kI : Nat} (wi : (Jvm.Cond.instantiable ST kI).before a0 Z = true) (al : Z.vm.Alike U.vm) {x t : Addr} {kb : ClassId} {cs : List Int32} {cd N2 : Int32} {vs : List Value} (E : RoadKit.Exa Z U.heap x ST) (V : RoadKit.Fld Z U.heap x ST "value" "[B" (.ref t)) (C : RoadKit.Fld Z U.heap x ST "coder" "B" (.int cd)) (K : RoadKit.Arv Z U.heap t kb .byte N2 vs (.int 0)) (hc : CodA cs cd N2 vs) (hb : ∀ c ∈ cs, ¬ c < 0 ∧ ¬ (65535 : Int32) < c) (l2 : cs.length ≤ 4000) :
    ∃ A, Txt x t A cd cs.length (fun j => cs.getD j 0) U := by
  obtain ⟨A, K1, K2, K3, K4, K5, K6⟩ := K
  have hcod := hc.cod (by omega) K3 K5
  obtain ⟨D, fV, fC, hB, F1, F2, g1, g2, -, -⟩ := strObj wi al E V C
  exact ⟨A, ⟨_, hB.2.2.1, D, hB.1, rfl, by cases q : D.vm <;> first | rfl | exact absurd q (hB.2.1.2 _)⟩, Has.of hB F1 g1, Has.of hB F2 g2, ⟨K1.1, State.isArrayOf_alike al K1.2.1, K1.2.2, by rcases hcod with ⟨-, q, -⟩ | ⟨-, q, -⟩ <;> omega⟩, hcod, fun j hj => by
    have e : cs.getD j 0 = cs[j] := by simp [List.getD_eq_getElem?_getD, hj]
    show ¬ cs.getD j 0 < 0 ∧ ¬ 65535 < cs.getD j 0
    rw [e]; exact hb _ (List.getElem_mem _)⟩
theorem same_list (cs ds : List Int32) : SameT cs.length (fun j => cs.getD j 0) ds.length (fun j => ds.getD j 0) ↔ cs = ds := by
  constructor
  · rintro ⟨e, q⟩
    refine List.ext_getElem e fun j h1 h2 => ?_
    have := q j h1
    simpa [List.getD_eq_getElem?_getD, h1, h2] using this
  · rintro rfl
    exact ⟨rfl, fun _ _ => rfl⟩
/-- **equals(Object) OF TWO SUCH STRINGS**: 1 just where the chars are the same -/
theorem eqW {p : Program} {l : Launch} {e : Env} {R : Room} {s : State} {args : Array Value} {below : List Frame} {len W : Nat} {Z : State} {a0 : Array Value} {h : Heap} (hZ : Z.Warmed39 s.vm) (hw : ∀ d ∈ wordsEq, d.before a0 Z = true) {kI : Nat} (wi : (Jvm.Cond.instantiable ST kI).before a0 Z = true)
    {x t : Addr} {kb : ClassId} {cs : List Int32} {cd N2 : Int32} {vs : List Value} (E : RoadKit.Exa Z h x ST) (V : RoadKit.Fld Z h x ST "value" "[B" (.ref t)) (C : RoadKit.Fld Z h x ST "coder" "B" (.int cd)) (K : RoadKit.Arv Z h t kb .byte N2 vs (.int 0)) (hc : CodA cs cd N2 vs) (hb : ∀ c ∈ cs, ¬ c < 0 ∧ ¬ (65535 : Int32) < c) (l2 : cs.length ≤ 4000)
    {y t' : Addr} {kb' : ClassId} {ds : List Int32} {cd' N2' : Int32} {vs' : List Value} (E' : RoadKit.Exa Z h y ST) (V' : RoadKit.Fld Z h y ST "value" "[B" (.ref t')) (C' : RoadKit.Fld Z h y ST "coder" "B" (.int cd')) (K' : RoadKit.Arv Z h t' kb' .byte N2' vs' (.int 0)) (hc' : CodA ds cd' N2' vs') (hb' : ∀ c ∈ ds, ¬ c < 0 ∧ ¬ (65535 : Int32) < c) (l2' : ds.length ≤ 4000)
    {z : Int32} (S : RoadKit.Sta Z h ST "COMPACT_STRINGS" "Z" (.int z)) (hz : ¬ z = 0) (hfr : 2 ≤ R.frames) (hlo : W + 28 ≤ R.locals) :
    Back l R p e below s args (⟨"java/lang/String", "equals", "(Ljava/lang/Object;)Z"⟩ : MethodName) len W (fun P a => a = #[.ref x, .ref y] ∧ P.U.heap = h ∧ P.cells + 0 ≤ R.cells ∧ P.slots + 0 ≤ R.slots)
      (fun P _ v B => ∃ L, (((v = some (.int 1) ∧ cs = ds) ∨ (v = some (.int 0) ∧ ¬ cs = ds)) ∧ L = [] ∧ B.U.heap = h) ∧ B.locs = P.locs ++ L ∧ B.cells = P.cells + 0 ∧ B.slots = P.slots + 0) := by
  intro m meth c P g ig mk a X hg hsize hdg hW hn hp'
  obtain ⟨rfl, rfl, r1, r2⟩ := hp'
  have al : Z.vm.Alike P.U.vm := hZ.alike.trans X.warmed.alike
  obtain ⟨A, hx⟩ := txt_of wi al E V C K hc hb l2
  obtain ⟨A', hy⟩ := txt_of wi al E' V' C' K' hc' hb' l2'
  obtain ⟨v, B, X', ⟨⟨w, hv, hh, hq⟩, hl, hk, hs⟩, st⟩ := SEq.pays x t A cd cs.length (fun j => cs.getD j 0) y t' A' cd' ds.length (fun j => ds.getD j 0) z (tabEq_of (movedEq hZ hw)) hfr hlo m meth c P g ig mk _ X hg hsize hdg hW hn ⟨r1, r2, rfl, hx, hy, sta_is al S, hz⟩
  refine ⟨v, B, X', ⟨[], ⟨?_, rfl, hh⟩, hl, hk, hs⟩, st⟩
  rcases hq with ⟨rfl, q⟩ | ⟨rfl, q⟩
  · exact Or.inl ⟨hv, (same_list cs ds).mp q⟩
  · exact Or.inr ⟨hv, fun e => q ((same_list cs ds).mpr e)⟩
end StrChars.Road
namespace StrChars
open Jvm Sem ClassFile Op Lib Jvm.Stand Jvm.Free.XT Jvm.Free.ALB Jvm.Free.JM Jvm.Free
open Jvm.Lib.Cold (StaticIs)
namespace ChN
def yN : MethodName := ⟨"java/lang/String", "charAt", "(I)C"⟩
abbrev yB : ByteArray := jdk_42_method_56_code
theorem d0 : decode yB 0 = .ok (.aload_n 0, 1) := by decide +kernel
theorem d1 : decode yB 1 = .ok (.invokevirtual 492, 3) := by decide +kernel
theorem d4 : decode yB 4 = .ok (.ifCond (.eq) 12, 3) := by decide +kernel
theorem d7 : decode yB 7 = .ok (.aload_n 0, 1) := by decide +kernel
theorem d8 : decode yB 8 = .ok (.getfield 9, 3) := by decide +kernel
theorem d11 : decode yB 11 = .ok (.iload_n 1, 1) := by decide +kernel
theorem d12 : decode yB 12 = .ok (.invokestatic 495, 3) := by decide +kernel
theorem d15 : decode yB 15 = .ok (.ireturn, 1) := by decide +kernel
def site : List Cond := [.fieldLink "java/lang/String" 9 "java/lang/String" "value" "[B", IsL.tab, LChA.tab] ++ virtW "java/lang/String" 492 "java/lang/String" IsL.yN IsL.yN ++ staticW "java/lang/String" 495 LChA.yN
def tab : Cond := tabOf yN yB 2 (some .char) site
def P (x t : Addr) (V : Cell) (n : Nat) (f : Nat → Int32) (z : Int32) (fm : Value) (i : Nat) (args : Array Value) (s : State) : Prop := args = #[.ref x, .int (Int32.ofNat i)] ∧ Txt x t V 0 n f s ∧ i < n ∧ StaticIs s "java/lang/String" "COMPACT_STRINGS" "Z" (.int z) ∧ ¬ z = 0 ∧ StaticIs s "jdk/internal/util/Preconditions" "SIOOBE_FORMATTER" "Ljava/util/function/BiFunction;" fm ∧ fm.isRef = true
def E (f : Nat → Int32) (i : Nat) (r : Option Value) (s u : State) : Prop := XT.PureE (some (.int (f i))) r s u
/-- charAt(i) of a Latin-1 String of n chars, i < n: f i -/
theorem law (l : Launch) (x t : Addr) (V : Cell) (n : Nat) (f : Nat → Int32) (z : Int32) (fm : Value) (i : Nat) : Law l yN 2 1 3 40 yB 2 (some .char) site (P x t V n f z fm i) (E f i) [] 0 0 := by
  refine Law.of_walk (plainFor_of_name (by decide +kernel)) (by decide +kernel) (by decide +kernel) (by decide) (fun _ _ h => by rw [h.1]; rfl) (fun _ U U' hal hh h => ⟨h.1, h.2.1.mv hal hh, h.2.2.1, h.2.2.2.1.there hal hh, h.2.2.2.2.1, h.2.2.2.2.2.1.there hal hh, h.2.2.2.2.2.2⟩) (fun r U U' V V' h1 hal h2 h => XT.PureE.mv r U U' V V' h1 hal h2 h) ?_
  intro p e s m args below meth c s₁ X0 hexec hbytes hml hret hlk hnm hown hh0 W hP
  obtain ⟨rfl, hx, hi, s1, hz, s3, rf⟩ := hP
  have v31 := hx.2.2.2.1.2.2.2
  have hr := hx.2.2.2.2.2 i hi
  have hx0 := hx.mv X0.warmed.alike hh0
  have c1 : Steps p.tables e below (s₁.setTop (entryFrame m #[.ref x, .int (Int32.ofNat i)] 2)) (s₁.setTop (mkF m 1 #[.val (.ref x), .val (.int (Int32.ofNat i))] [.ref x])) := Steps.trans (entry rfl) (by
    show Steps p.tables e below (s₁.setTop (mkF m 0 #[.val (.ref x), .val (.int (Int32.ofNat i))] [])) _
    refine XS.aloadN X0.here hexec rfl (hb hbytes d0) rfl rfl ?_
    exact Steps.refl _)
  obtain ⟨v2, T2, X2, E2, g2⟩ := X0.callV hexec (IsL.law l x 0 z) hown (wks W (virtW "java/lang/String" 492 "java/lang/String" IsL.yN IsL.yN)) rfl (by decide) (wk W IsL.tab) (W := 0) (Nat.le_of_ble_eq_true rfl) (Nat.le_of_ble_eq_true rfl) (Nat.le_refl _) (Nat.le_refl _) (hx0.1.fc X0.warmed.alike) hx0.1.is (g := (mkF m 1 #[.val (.ref x), .val (.int (Int32.ofNat i))] [.ref x])) rfl (by rw [hml]; rfl) c1 (argsL := []) (rest := []) rfl rfl (by show 2 * 0 + 0 ≤ _; decide) (hb hbytes d1) (⟨rfl, hx0.2.2.1, hx.2.2.2.2.1.cd, s1.there X0.warmed.alike hh0, hz⟩)
  obtain ⟨rfl, q2⟩ := E2
  have hh2 := q2.trans hh0
  have hx2 := hx.mv X2.warmed.alike hh2
  obtain ⟨-, k1, k2⟩ | ⟨k0, -⟩ := hx.2.2.2.2.1
  · have c3 : Steps p.tables e below (s₁.setTop (entryFrame m #[.ref x, .int (Int32.ofNat i)] 2)) (T2.setTop (mkF m 8 #[.val (.ref x), .val (.int (Int32.ofNat i))] [.ref x])) := Steps.trans g2 (by
      refine XS.ifNo X2.here hexec rfl (hb hbytes d4) rfl (i0_eq_f (by decide)) ?_
      refine XS.aloadN X2.here hexec rfl (hb hbytes d7) rfl rfl ?_
      exact Steps.refl _)
    obtain ⟨T4, X4, q4, st4⟩ := X2.hget hexec hown (wk W (.fieldLink "java/lang/String" 9 "java/lang/String" "value" "[B")) hx2.2.1 (g := (mkF m 8 #[.val (.ref x), .val (.int (Int32.ofNat i))] [.ref x])) rfl (rest := []) rfl (hb hbytes d8)
    have hh4 := q4.trans hh2
    have c5 : Steps p.tables e below (s₁.setTop (entryFrame m #[.ref x, .int (Int32.ofNat i)] 2)) (T4.setTop (mkF m 12 #[.val (.ref x), .val (.int (Int32.ofNat i))] [.int (Int32.ofNat i), .ref t])) := (c3.trans (st4 _ (Steps.refl _))).trans (by
      refine XS.iloadN X4.here hexec rfl (hb hbytes d11) rfl ?_
      exact Steps.refl _)
    obtain ⟨v6, T6, X6, E6, g6⟩ := X4.callS hexec (LChA.law l t V i (lo8 (f i)) fm) hown (wks W (staticW "java/lang/String" 495 LChA.yN)) (wk W LChA.tab) (W := 0) (Nat.le_of_ble_eq_true rfl) (Nat.le_of_ble_eq_true rfl) (Nat.le_refl _) (Nat.le_refl _) (g := (mkF m 12 #[.val (.ref x), .val (.int (Int32.ofNat i))] [.int (Int32.ofNat i), .ref t])) rfl (by rw [hml]; rfl) c5 (argsL := [.ref t, .int (Int32.ofNat i)]) (rest := []) rfl rfl (by show 2 * 0 + 0 ≤ _; decide) (hb hbytes d12) (⟨rfl, hx.2.2.2.1.mv X4.warmed.alike hh4, (k2 i hi).1, s3.there X4.warmed.alike hh4, rf⟩)
    obtain ⟨rfl, q6⟩ := E6
    rw [chr8_lo8 hr.1 (k2 i hi).2] at g6
    exact ⟨T6, some (.int (f i)), _, _, _, X6, rfl, rfl, rfl, (fun h => by cases h), ⟨rfl, q6.trans hh4⟩, fun fs hl => Steps.trans g6 (X6.ireturnOut hexec hret (narrow_ch hr.1 hr.2) (Or.inr (Or.inr (Or.inr (Or.inl rfl)))) (hb hbytes d15) hl)⟩
  · exact absurd k0 (by decide)
theorem pays {l : Launch} {R : Room} {p : Program} {e : Env} {below : List Frame} {s : State} {sargs : Array Value} {len W : Nat} (x t : Addr) (V : Cell) (n : Nat) (f : Nat → Int32) (z : Int32) (fm : Value) (i : Nat) (htab : tab.before sargs s = true) (hfr : 4 ≤ R.frames) (hlo : W + 53 ≤ R.locals) :
    Back l R p e below s sargs yN len W (fun A₁ a₁ => A₁.cells + 0 ≤ R.cells ∧ A₁.slots + 0 ≤ R.slots ∧ P x t V n f z fm i a₁ A₁.U) (fun A₁ _ v₁ B₁ => E f i v₁ A₁.U B₁.U ∧ B₁.locs = A₁.locs ++ [] ∧ B₁.cells = A₁.cells + 0 ∧ B₁.slots = A₁.slots + 0) :=
  (law l x t V n f z fm i).pays htab hfr (by omega)
end ChN
end StrChars
namespace StrChars.Road
open Jvm Sem ClassFile Op Lib Jvm.Stand Jvm.Free Jvm.Free.XT
open Jvm.Lib.Cold (StaticIs)
/-- the words of String.charAt(int), the Latin-1 road alone -/
abbrev wordsChN : List Jvm.Cond := [.code ChN.yN ChN.yB 2 (some .char), .initialized ST, .fieldLink ST 9 ST "value" "[B", .fieldLink ST 38 ST "COMPACT_STRINGS" "Z", .fieldLink ST 15 ST "coder" "B", .code IsL.yN IsL.yB 1 (some .boolean), .methodLink ST 492 IsL.yN, .declares IsL.yN, .selects ST IsL.yN IsL.yN, .instanceMethod IsL.yN,
  .methodLink ST 495 LChA.yN, .static LChA.yN, .code LChA.yN LChA.yB 2 (some .char), .initialized "java/lang/StringLatin1", .methodLink "java/lang/StringLatin1" 9 JO.Str_checkIndex.yN, .static JO.Str_checkIndex.yN, .code JO.Str_checkIndex.yN JO.Str_checkIndex.yB 2 none,
  .fieldLink ST 1053 "jdk/internal/util/Preconditions" "SIOOBE_FORMATTER" "Ljava/util/function/BiFunction;", .methodLink ST 1059 JC.PreCheck.yN, .static JC.PreCheck.yN, .code JC.PreCheck.yN JC.PreCheck.yB 3 (some .int), .initialized "jdk/internal/util/Preconditions"]
theorem tabChN_of {a : Array Value} {s : State} (h : ∀ w ∈ wordsChN, w.before a s = true) : ChN.tab.before a s = true := by
  have hp : JC.PreCheck.tab.before a s = true := unparts (wk h (.code JC.PreCheck.yN JC.PreCheck.yB 3 (some .int))) (wks h (.initialized JC.PreCheck.yN.cls :: JC.PreCheck.site))
  have qk := consq hp h
  have hk : JO.Str_checkIndex.tab.before a s = true := unparts (wk qk (.code JO.Str_checkIndex.yN JO.Str_checkIndex.yB 2 none)) (wks qk (.initialized JO.Str_checkIndex.yN.cls :: JO.Str_checkIndex.site))
  have ql := consq hk h
  have hl : LChA.tab.before a s = true := unparts (wk ql (.code LChA.yN LChA.yB 2 (some .char))) (wks ql (.initialized LChA.yN.cls :: LChA.site))
  have hi : IsL.tab.before a s = true := unparts (wk h (.code IsL.yN IsL.yB 1 (some .boolean))) (wks h (.initialized IsL.yN.cls :: IsL.site))
  have q := consq hi (consq hl h)
  exact unparts (wk q (.code ChN.yN ChN.yB 2 (some .char))) (wks q (.initialized ChN.yN.cls :: ChN.site))
theorem movedChN {Z s : State} {a0 args : Array Value} (hZ : Z.Warmed39 s.vm) (hw : ∀ d ∈ wordsChN, d.before a0 Z = true) : ∀ d ∈ wordsChN, d.before args s = true := fun d hd => by
  have t : ∀ d ∈ wordsChN, (d.onTables && d.keepsFace) = true := by decide +kernel
  exact RoadKit.mv hZ (hw d hd) (t d hd)
/-- **charAt(i) OF A LATIN-1 STRING**, i < n: the char -/
theorem chN {p : Program} {l : Launch} {e : Env} {R : Room} {s : State} {args : Array Value} {below : List Frame} {len W : Nat} {Z : State} {a0 : Array Value} {h : Heap} (hZ : Z.Warmed39 s.vm) (hw : ∀ d ∈ wordsChN, d.before a0 Z = true) {kI : Nat} (wi : (Jvm.Cond.instantiable ST kI).before a0 Z = true)
    {x t : Addr} {kb : ClassId} {cs : List Int32} {N2 z : Int32} {vs : List Value} {fm : Value} {i : Nat} {j : Int32} (E : RoadKit.Exa Z h x ST) (V : RoadKit.Fld Z h x ST "value" "[B" (.ref t)) (C : RoadKit.Fld Z h x ST "coder" "B" (.int 0)) (K : RoadKit.Arv Z h t kb .byte N2 vs (.int 0)) (hc : CodA cs 0 N2 vs) (hb : ∀ c ∈ cs, ¬ c < 0 ∧ ¬ (65535 : Int32) < c)
    (S : RoadKit.Sta Z h ST "COMPACT_STRINGS" "Z" (.int z)) (hz : ¬ z = 0) (F : RoadKit.Sta Z h "jdk/internal/util/Preconditions" "SIOOBE_FORMATTER" "Ljava/util/function/BiFunction;" fm) (rf : fm.isRef = true) (l2 : cs.length ≤ 4000) (hi : i < cs.length) (hj : j = Int32.ofNat i) (hfr : 4 ≤ R.frames) (hlo : W + 53 ≤ R.locals) :
    Back l R p e below s args (⟨"java/lang/String", "charAt", "(I)C"⟩ : MethodName) len W (fun P a => a = #[.ref x, .int j] ∧ P.U.heap = h ∧ P.cells + 0 ≤ R.cells ∧ P.slots + 0 ≤ R.slots)
      (fun P _ v B => ∃ L, (v = some (.int (cs.getD i 0)) ∧ L = [] ∧ B.U.heap = h) ∧ B.locs = P.locs ++ L ∧ B.cells = P.cells + 0 ∧ B.slots = P.slots + 0) := by
  subst hj
  intro m meth c P g ig mk a X hg hsize hdg hW hn hp'
  obtain ⟨rfl, rfl, r1, r2⟩ := hp'
  have al : Z.vm.Alike P.U.vm := hZ.alike.trans X.warmed.alike
  obtain ⟨A, hx⟩ := txt_of wi al E V C K hc hb l2
  obtain ⟨v, B, X', ⟨⟨hv, hh⟩, hl, hk, hs⟩, st⟩ := ChN.pays x t A cs.length (fun j => cs.getD j 0) z fm i (tabChN_of (movedChN hZ hw)) hfr hlo m meth c P g ig mk _ X hg hsize hdg hW hn ⟨r1, r2, rfl, hx, hi, sta_is al S, hz, sta_is al F, rf⟩
  exact ⟨v, B, X', ⟨[], ⟨hv, rfl, hh⟩, hl, hk, hs⟩, st⟩
/-- what backV says of its String, as the contracts of this text ask it: cs's low bytes, coder 0 -/
theorem codOf {cs : List Int32} {n : Nat} (hn : cs.length = n) (hb : ∀ c ∈ cs, ¬ 255 < c) : CodA cs 0 (Int32.ofNat n) ((cs.map lo8).map Value.int) := Or.inl ⟨rfl, by rw [hn], by simp [List.map_map, Function.comp_def], hb⟩
end StrChars.Road
end Jvm.Pilot.@@N@@
namespace Jvm.Pilot.@@N@@
open Jvm Jvm.ClassFile Sem Op Lib Jvm.Free Jvm.Stand Jvm.LawKit Jvm.RoadKit Bundle Jvm.Pilot.@@N@@.Jvm.D
theorem own_b1 {v A K : Int32} (h : v < A) (d : ¬ (K < A)) : v < K := by rw [Int32.lt_iff_toInt_lt] at *; omega
theorem own_b2 {v A K : Int32} (h : v < A) (d : A.toInt ≤ K.toInt + 1) : ¬ (K < v) := by rw [Int32.lt_iff_toInt_lt] at *; omega
theorem own_b3 {v A K : Int32} (h : ¬ (v < A)) (d : ¬ (A < K)) : ¬ (v < K) := by rw [Int32.lt_iff_toInt_lt] at *; omega
theorem own_b4 {v A K : Int32} (h : ¬ (v < A)) (d : K < A) : K < v := by rw [Int32.lt_iff_toInt_lt] at *; omega
theorem own_b5 {v A K : Int32} (h : A < v) (d : K.toInt ≤ A.toInt + 1) : ¬ (v < K) := by rw [Int32.lt_iff_toInt_lt] at *; omega
theorem own_b6 {v A K : Int32} (h : A < v) (d : ¬ (A < K)) : K < v := by rw [Int32.lt_iff_toInt_lt] at *; omega
theorem own_b7 {v A K : Int32} (h : ¬ (A < v)) (d : A < K) : v < K := by rw [Int32.lt_iff_toInt_lt] at *; omega
theorem own_b8 {v A K : Int32} (h : ¬ (A < v)) (d : ¬ (K < A)) : ¬ (K < v) := by rw [Int32.lt_iff_toInt_lt] at *; omega
theorem own_w {Z : State} {a0 : Array Value} (hw : ∀ d ∈ tables_1, d.before a0 Z = true) (i : Nat) {d : Jvm.Cond} (h : tables_1[i]? = some d) : d.before a0 Z = true := hw d (List.mem_of_getElem? h)
theorem own_fldI {args : Array Value} {s : State} {t : Term} {x : Addr} {C n d : String} {k : Int32} (ht : t.eval args s none [] s = some (.ref x)) (h : (Jvm.Cond.eq (.field t C n d) (.int k)).value args s none s [] = some true) : s.fieldOf? x C n d = some (.int k) := by
  obtain ⟨u, v, e1, e2, -, -⟩ := cmp_v (Or.inl h)
  have e3 : (Term.field t C n d).eval args s none [] s = s.fieldOf? x C n d := fld_at ht
  cases (show some (Value.int k) = some v from e2)
  rw [e3] at e1
  cases u <;> simp [Jvm.Cond.value, Term.eval, ht, e1] at h
  rw [e1, h]
theorem own_fldR {args : Array Value} {s : State} {t u : Term} {x y : Addr} {C n d : String} (ht : t.eval args s none [] s = some (.ref x)) (hu : u.eval args s none [] s = some (.ref y)) (h : (Jvm.Cond.eq (.field t C n d) u).value args s none s [] = some true) : s.fieldOf? x C n d = some (.ref y) := by
  obtain ⟨v, w, e1, e2, -, -⟩ := cmp_v (Or.inl h)
  have e3 : (Term.field t C n d).eval args s none [] s = s.fieldOf? x C n d := fld_at ht
  rw [e3] at e1
  cases v <;> simp [Jvm.Cond.value, Term.eval, ht, hu, e1] at h
  rw [e1, h]
theorem own_lat (x : Int32) : ¬ (x &&& (255 : Int32)) < 0 ∧ ¬ (255 : Int32) < (x &&& (255 : Int32)) := by
  have h := c_and x 255 (by decide)
  have e0 : (0 : Int32).toInt = 0 := by decide
  have e1 : (255 : Int32).toInt = 255 := by decide
  rw [e1] at h
  rw [Int32.lt_iff_toInt_lt, Int32.lt_iff_toInt_lt, e0, e1]
  omega
theorem own_up {cs : List Int32} (h : ∀ c ∈ cs, ¬ c < 0 ∧ ¬ (255 : Int32) < c) : ∀ c ∈ cs, ¬ c < 0 ∧ ¬ (65535 : Int32) < c := fun c hc => ⟨(h c hc).1, fun q => (h c hc).2 (by
  have e1 : (255 : Int32).toInt = 255 := by decide
  have e2 : (65535 : Int32).toInt = 65535 := by decide
  rw [Int32.lt_iff_toInt_lt] at q ⊢
  omega)⟩
theorem own_nar {x : Int32} (h : ¬ (x < (0 : Int32)) ∧ ¬ ((255 : Int32) < x)) : x.toUInt32.toUInt16.toUInt32.toInt32 = x := by
  have e1 : (255 : Int32).toInt = 255 := by decide
  have e0 : (0 : Int32).toInt = 0 := by decide
  have h1 := h.1
  have h2 := h.2
  rw [Int32.lt_iff_toInt_lt] at h1 h2
  have e : x = x &&& (255 : Int32) := by
    apply Int32.toInt_inj.mp
    have q := c_mask x 255 8 (by decide) (by decide)
    have q2 : ((2 ^ 8 : Nat) : Int) = 256 := by decide
    rw [q, q2]; omega
  rw [e]; exact i2c_mask x
theorem own_wordsLen : ∀ d ∈ StrChars.Road.wordsLen, d ∈ tables_1 := by decide +kernel
theorem own_wordsChN : ∀ d ∈ StrChars.Road.wordsChN, d ∈ tables_1 := by decide +kernel
theorem own_wordsEq : ∀ d ∈ StrChars.Road.wordsEq, d ∈ tables_1 := by decide +kernel
section OwnS
variable {p : Program} {l : Launch} {e : Env} {R : Room} {s : State} {args : Array Value} {below : List Frame} {Z : State} {a0 : Array Value} {EL : List (String × Nat)} {h : Heap} {vm0 : Vm}
theorem own_backS {y : MethodName} {bytes : ByteArray} {maxL : Nat} {ret : Option FieldType} {rm : Room} {len W : Nat} {as' : Array Value} {Q : Option Value → Heap → List Loc → Prop} {xs : List Addr}
    (hM : MetFree l y (head1 [Jvm.Cond.code y bytes maxL ret] rm) (fun a U => a = as' ∧ Z.Warmed39 U.vm ∧ U.heap = h ∧ CHv Z EL U.vm h ∧ ∀ x ∈ xs, Safe Z EL U.vm h x) (fun _ _ _ _ _ => True) (fun _ U o U' => ∃ v L, o = .returned v ∧ Q v U'.heap L ∧ CHr Z EL U.vm U.heap U'.vm U'.heap ∧ ReturnedEndW U o U' L rm.cells rm.slots))
    (hZ : Z.Warmed39 vm0) (wc : (Jvm.Cond.code y bytes maxL ret).before a0 Z = true) (wz : (Jvm.Cond.initialized y.cls).before a0 Z = true) (hf : rm.frames + 1 ≤ R.frames) (hl : W + (maxL + 11) + rm.locals ≤ R.locals) (hEL : EW Z a0 EL) (H : CHv Z EL vm0 h) (hxs : ∀ x ∈ xs, x < h.size ∧ Safe Z EL vm0 h x) :
    BackS l R p e below (s.setVm vm0) args y len W (fun A a => a = as' ∧ A.U.heap = h ∧ A.cells + rm.cells ≤ R.cells ∧ A.slots + rm.slots ≤ R.slots)
      (fun A _ v B => ∃ L, Q v B.U.heap L ∧ B.locs = A.locs ++ L ∧ B.cells = A.cells + rm.cells ∧ B.slots = A.slots + rm.slots ∧ CHr Z EL vm0 h B.U.vm B.U.heap) := by
  refine BackS.of_freeW (bytes := bytes) (maxL := maxL) (ret := ret) (E := fun _ first o t L k n => k = rm.cells ∧ n = rm.slots ∧ (∃ v, o = .returned v ∧ Q v t.heap L) ∧ CHr Z EL first.vm first.heap t.vm t.heap) hM hf hl ?_ ?_ (fun _ _ _ _ _ _ _ _ _ => trivial) ?_ ?_
  · intro m meth c A a Y hp
    have hU : Z.Warmed39 A.U.vm := wtrans (s := s.setVm vm0) hZ Y.warmed
    refine ⟨?_, mv hU wc, mv hU wz, hp.2.2.1, hp.2.2.2⟩
    show (Jvm.Cond.and _ .tt).before a A.U = true
    rw [Cond.before_and, mv hU wc]; rfl
  · intro m meth c A a g mk Y hp
    have C := CHv.at Y hZ hEL H
    exact ⟨hp.1, wtrans (s := s.setVm vm0) hZ Y.warmed, hp.2.1, C.1, fun x hx => C.safe (hxs x hx).1 (hxs x hx).2⟩
  · rintro _ _ _ _ ⟨v, L, h1, h2, h3, h4⟩
    exact ⟨L, _, _, h4, rfl, rfl, ⟨v, h1, h2⟩, h3⟩
  · rintro m meth c A a g mk v t L k n Y hp - - ⟨e1, e2, ⟨v', e3, e4⟩, e5⟩
    cases e3; subst e1 e2
    refine ⟨L, e4, rfl, rfl, rfl, (CHv.at Y hZ hEL H).trans ?_⟩
    rw [← hp.2.1]; exact e5
end OwnS
def own_EL : List (String × Nat) := [("java/lang/String", 7)]
theorem own_atoms : ∀ d ∈ Bundle.stringAtoms, d ∈ tables_1 := by decide +kernel
theorem own_EWof {Z : State} {a0 : Array Value} (hw : ∀ d ∈ tables_1, d.before a0 Z = true) : EW Z a0 own_EL := (EW.cons (own_w hw 18 rfl) (by decide) EW.nil)
theorem own_sub : ∀ p ∈ own_EL, p ∈ consts_1 := by decide +kernel
section OwnW2
open Jvm.Free.SB Jvm.Free.SBG
variable {p : Program} {l : Launch} {e : Env} {R : Room} {s : State} {m : MethodId} {args : Array Value} {below : List Frame} {meth : Method} {c : Code} {T : State} {locs : List Loc} {cells slots : Nat} {Z : State} {a0 : Array Value} {EL : List (String × Nat)} {h : Heap} {vm0 : Vm} {own text : String} {index : Nat}
theorem own_told {vm : Vm} {cl : ClassId} {a : Addr} (hW : Z.Warmed39 vm) (w : (Jvm.Cond.stringLink own index text).before a0 Z = true) (hf : vm.findClass own = some cl) (hL : ∃ k, vm.classes[cl]? = some k ∧ k.resolved[index]? = some (some (.string a))) (hmem : (own, index) ∈ EL) (H : CHv Z EL vm h)
    {vs : List Value} {z : Int32} (ht : (∀ c ∈ text.toList, c.toNat < 256) ∧ text.toList.map (fun c => Value.int (Jvm.Lit.byteI c.toNat.toUInt16)) = vs) (hz : ¬ z < 0) (hl : z.toNatClampNeg = vs.length) :
    ∃ (b : Addr) (k : ClassId), Exa Z h a "java/lang/String" ∧ Fld Z h a "java/lang/String" "coder" "B" (.int 0) ∧ Fld Z h a "java/lang/String" "value" "[B" (.ref b) ∧ Arv Z h b k .byte z vs (.int 0) ∧ a < h.size ∧ b < h.size ∧ (∀ x, Safe Z EL vm h x → x ≠ a ∧ x ≠ b) ∧ Exa Z h b "[B" := by
  have hal : Z.vm.Alike vm := hW.alike
  have w2 : (Jvm.Cond.stringLink own index text).before a0 (Wst Z vm h) = true := mvS (s := { Z with heap := h }) hW w
  obtain ⟨k0, cf, i, us, hk, hcf, hp, hu, -, htext, -⟩ := Cond.stringLink_spec (s := Wst Z vm h) hf w2
  obtain ⟨k1, hk1, hr⟩ := hL
  cases (show vm.classes[cl]? = some k0 from hk).symm.trans hk1
  have hbk : Booksv vm own index us a := ⟨cl, k0, cf, i, hf, hk, hcf, hp, hu, Or.inl hr⟩
  have hlat := Jvm.ClassFile.lat_of_text htext ht.1
  obtain ⟨q, hqa, F⟩ := SlB.of (H _ hmem us a hbk)
  have hne : ∀ x, Safe Z EL vm h x → x ≠ q.sa ∧ x ≠ q.sd := fun x S => ⟨fun e1 => S ⟨_, hmem, us, a, hbk, q, hqa, F, Or.inl e1⟩, fun e1 => S ⟨_, hmem, us, a, hbk, q, hqa, F, Or.inr e1⟩⟩
  obtain ⟨cS, ⟨⟨s1, s2, s3, ⟨cv, kv, iv, s4, s4'⟩, ⟨cc, kc, ic, s5, s5'⟩, s6, s7, s8, s9, s10, s11, s12, -, -, -, s16⟩, hfS, hcS⟩, ⟨kS, k1', -, k3⟩, hB, hbyt⟩ := F
  subst hqa
  have hfS : vm.findClass "java/lang/String" = some cS := hfS
  have hB : vm.findClass "[B" = some q.SA.cls := hB
  have k1' : vm.classes[cS]? = some kS := k1'
  obtain ⟨kv', z4⟩ := ff_back (U := Wst Z vm h) hal s4
  obtain ⟨kc', z5⟩ := ff_back (U := Wst Z vm h) hal s5
  have hfZ : Z.vm.findClass "java/lang/String" = some q.sC.cls := by rw [← hal.findClass, hcS]; exact hfS
  obtain ⟨kz, hkz, -⟩ := Vm.findClass_spec hfZ
  obtain ⟨kz', hkz', ekz⟩ := hal.2.2 _ _ hkz
  have ekS : kz' = kS := Option.some.inj (hkz'.symm.trans (hcS ▸ k1'))
  have hBZ : Z.vm.findClass "[B" = some q.SA.cls := by rw [← hal.findClass]; exact hB
  obtain ⟨kb, hkb, -⟩ := Vm.findClass_spec hBZ
  obtain ⟨kb', hkb', ekb⟩ := hal.2.2 _ _ hkb
  obtain ⟨hst, k9, hk9, comp, hkind⟩ := s11
  have hk9 : vm.classes[q.SA.cls]? = some k9 := hk9
  have ek9 : k9 = kb' := Option.some.inj (hk9.symm.trans hkb')
  have hkZ : kb.kind = .array comp .byte := by rw [ek9, ekb] at hkind; exact hkind
  have hAZ : Z.isArrayOf q.SA .byte := ⟨hst, kb, hkb, comp, hkZ⟩
  have eu : vs = us.toList.map fun u => Value.int (Jvm.Lit.byteI u) := by rw [← ht.2, Jvm.ClassFile.units_of_text htext ht.1, List.map_map]; rfl
  have el : vs.length = us.size := by rw [eu]; simp
  have hsl : q.SA.slots = us.map fun u => Value.int (Jvm.Lit.byteI u) := by rw [hbyt, SBG.stringBytes_lat hlat]; rfl
  have hsz : q.SA.slots.size = us.size := by rw [hsl, Array.size_map]
  have H2 : Has q.SA vs (.int 0) := fun j hj => by
    have hj' : j < us.size := by omega
    rw [hsl, eu]; simp [hj']
  refine ⟨q.sd, q.SA.cls, ⟨q.sC, kz, s1, hfZ, hkz, s3, fun ho => by rw [k3, ← ekS, ekz]⟩, ⟨q.sC, cc, kc', ic, q.fSC, s1, z5, s7, s2, s3, by rw [← hal.assignable]; exact s5', s9⟩, ⟨q.sC, cv, kv', iv, q.fSV, s1, z4, s6, s2, s3, by rw [← hal.assignable]; exact s4', s8⟩,
    ⟨q.SA, ⟨s10, hAZ, s12⟩, rfl, by rw [hsz, hl, el], hz, H2, fun j hj => ?_⟩, (Array.getElem?_eq_some_iff.mp s1).1, (Array.getElem?_eq_some_iff.mp s10).1, hne, ⟨q.SA, kb, s10, hBZ, hkb, by cases hv : q.SA.vm with
    | statics k => exact absurd hv (hst k)
    | _ => rfl, fun ho => by rw [hkZ] at ho; cases ho⟩⟩
  have e1 := s16 j hj
  rw [SBG.getD_of (H2 j hj)] at e1
  exact e1
theorem own_ldcC (X : Stand p l e R (s.setVm vm0) m args below meth c T locs cells slots) (hx : p.tables.exec = Jvm.exec) (hZ : Z.Warmed39 vm0) (hown : vm0.findClass own = some m.cls) (w : (Jvm.Cond.stringLink own index text).before a0 Z = true) (wS : ∀ a ∈ Bundle.stringAtoms, a.before a0 Z = true)
    (eT : T.heap = h) {k0 : Nat} (hS : s.Since vm0 k0) (hk : k0 ≤ h.size) (hEL : EW Z a0 EL) (hmem : (own, index) ∈ EL) (H : CHv Z EL vm0 h)
    {vs : List Value} {z : Int32} (ht : (∀ c ∈ text.toList, c.toNat < 256) ∧ text.toList.map (fun c => Value.int (Jvm.Lit.byteI c.toNat.toUInt16)) = vs) (hz : ¬ z < 0) (hl : z.toNatClampNeg = vs.length)
    {g : JFrame} (hg : g.method = m) (hd : decode c.code g.pc = .ok (.ldc index, 2)) {n : Nat} (hn : 4 * text.toList.length ≤ n) (hbig : n ≤ 536870912) (hc : cells + 2 ≤ R.cells) (hl' : slots + (n + 4) ≤ R.slots) :
    ∃ (a : Addr) (V : State) (h' : Heap) (k1 : Nat) (b : Addr) (k : ClassId), Stand p l e R (s.setVm V.vm) m args below meth c V locs (cells + 2) (slots + (n + 4)) ∧ V.heap = h' ∧ Ext h h' ∧ s.Since V.vm k1 ∧ k1 ≤ h'.size ∧ Z.Warmed39 (s.setVm V.vm).vm ∧ (s.setVm V.vm).vm.findClass own = some m.cls ∧
      Exa Z h' a "java/lang/String" ∧ Fld Z h' a "java/lang/String" "coder" "B" (.int 0) ∧ Fld Z h' a "java/lang/String" "value" "[B" (.ref b) ∧ Arv Z h' b k .byte z vs (.int 0) ∧ a < h'.size ∧ b < h'.size ∧ CHr Z EL vm0 h V.vm h' ∧ Exa Z h' b "[B" ∧ (∀ x, Safe Z EL V.vm h' x → x ≠ a ∧ x ≠ b) ∧
      ∀ target, Steps p.tables e below (V.setTop { g with pc := g.pc + 2, stack := .ref a :: g.stack }) target → Steps p.tables e below (T.setTop g) target := by
  obtain ⟨a, V, h', k1, X', eV, E, hS2, hk2, hW, hf, hC, hL, st⟩ := ldcOH X hx hZ hown w wS eT hS hk hEL H hg hd hn hbig hc hl'
  have hL2 : ∃ k, V.vm.classes[m.cls]? = some k ∧ k.resolved[index]? = some (some (.string a)) := by
    have q : (s.setVm V.vm).resolvedAt? own index = some (.string a) := hL
    have hf' : V.vm.findClass own = some m.cls := hf
    obtain ⟨kq, hkq, -⟩ := Vm.findClass_spec hf'
    refine ⟨kq, hkq, ?_⟩
    simp [State.resolvedAt?, hf', hkq] at q
    cases hr : kq.resolved[index]? with
    | none => rw [hr] at q; cases q
    | some o => rw [hr] at q; cases o with
      | none => cases q
      | some r => simpa using q
  obtain ⟨b, k, t1, t2, t3, t4, t5, t6, t7, t8⟩ := own_told hW w hf hL2 hmem hC.1 ht hz hl
  exact ⟨a, V, h', k1, b, k, X', eV, E, hS2, hk2, hW, hf, t1, t2, t3, t4, t5, t6, hC, t8, t7, st⟩
end OwnW2

theorem own_narB (x : Int32) : nar .byte x.toInt8.toInt32 = x.toInt8.toInt32 := by
  show x.toInt8.toInt32.toInt8.toInt32 = _
  simp
theorem own_exane {Z : State} {h : Heap} {a b : Addr} {C D : String} (E : Exa Z h a C) (F : Exa Z h b D) (n : C ≠ D) : a ≠ b := by
  rintro rfl
  obtain ⟨c1, k1, h1, f1, -⟩ := E
  obtain ⟨c2, k2, h2, f2, -⟩ := F
  cases h1.symm.trans h2
  obtain ⟨x1, q1, r1⟩ := Vm.findClass_spec f1
  obtain ⟨x2, q2, r2⟩ := Vm.findClass_spec f2
  cases q1.symm.trans q2
  exact n (r1.symm.trans r2)
def own_len (cs : List Int32) : Int32 := Int32.ofNat cs.length
def own_vs (cs : List Int32) : List Value := cs.map fun c => Value.int c.toInt8.toInt32
def own_ok (cs : List Int32) : Prop := cs.length ≤ 2 ∧ ∀ c ∈ cs, ¬ c < 0 ∧ ¬ (255 : Int32) < c
def own_cs (x : Int32) : List Int32 :=
  if ((x &&& (3 : Int32)) % (3 : Int32)) = 0 then [] else if ((x &&& (3 : Int32)) % (3 : Int32)) = 1 then [(((x.toUInt32 >>> ((8 : Int32) &&& 31).toUInt32).toInt32) &&& (255 : Int32))] else [(((x.toUInt32 >>> ((8 : Int32) &&& 31).toUInt32).toInt32) &&& (255 : Int32)), (((x.toUInt32 >>> ((16 : Int32) &&& 31).toUInt32).toInt32) &&& (255 : Int32))]
theorem own_csok (x : Int32) : own_ok (own_cs x) := by
  unfold own_cs own_ok
  split
  · exact ⟨by decide, fun c hc => nomatch hc⟩
  · split
    · refine ⟨by simp, fun c hc => ?_⟩
      simp only [List.mem_cons, List.not_mem_nil, or_false] at hc
      subst hc; exact own_lat _
    · refine ⟨by simp, fun c hc => ?_⟩
      simp only [List.mem_cons, List.not_mem_nil, or_false] at hc
      rcases hc with rfl | rfl <;> exact own_lat _
def own_H : List Int32 → Int32
  | [] => 0
  | [c] => c.toInt8.toInt32 &&& (255 : Int32)
  | c :: d :: _ => (31 : Int32) * ((31 : Int32) * (0 : Int32) + (c.toInt8.toInt32 &&& (255 : Int32))) + (d.toInt8.toInt32 &&& (255 : Int32))
def own_eqI (cs ds : List Int32) : Int32 := if cs = ds then 1 else 0
theorem own_split {cs : List Int32} (h : own_ok cs) : cs = [] ∨ (∃ c, cs = [c]) ∨ ∃ c d, cs = [c, d] := by
  match cs, h.1 with
  | [], _ => exact Or.inl rfl
  | [c], _ => exact Or.inr (Or.inl ⟨c, rfl⟩)
  | [c, d], _ => exact Or.inr (Or.inr ⟨c, d, rfl⟩)
  | _ :: _ :: _ :: _, q => simp at q
theorem d0_0 : decode jdk_52_method_21_code 0 = .ok (.iconst 0, 1) := by decide +kernel
theorem d0_1 : decode jdk_52_method_21_code 1 = .ok (.istore 5, 2) := by decide +kernel
theorem d0_3 : decode jdk_52_method_21_code 3 = .ok (.iload 5, 2) := by decide +kernel
theorem d0_5 : decode jdk_52_method_21_code 5 = .ok (.iload 4, 2) := by decide +kernel
theorem d0_7 : decode jdk_52_method_21_code 7 = .ok (.if_icmp .ge 37, 3) := by decide +kernel
theorem d0_10 : decode jdk_52_method_21_code 10 = .ok (.aload_n 0, 1) := by decide +kernel
theorem d0_11 : decode jdk_52_method_21_code 11 = .ok (.iload_n 1, 1) := by decide +kernel
theorem d0_12 : decode jdk_52_method_21_code 12 = .ok (.caload, 1) := by decide +kernel
theorem d0_13 : decode jdk_52_method_21_code 13 = .ok (.istore 6, 2) := by decide +kernel
theorem d0_15 : decode jdk_52_method_21_code 15 = .ok (.iload 6, 2) := by decide +kernel
theorem d0_17 : decode jdk_52_method_21_code 17 = .ok (.sipush 255, 3) := by decide +kernel
theorem d0_20 : decode jdk_52_method_21_code 20 = .ok (.if_icmp .le 6, 3) := by decide +kernel
theorem d0_26 : decode jdk_52_method_21_code 26 = .ok (.aload_n 2, 1) := by decide +kernel
theorem d0_27 : decode jdk_52_method_21_code 27 = .ok (.iload_n 3, 1) := by decide +kernel
theorem d0_28 : decode jdk_52_method_21_code 28 = .ok (.iload 6, 2) := by decide +kernel
theorem d0_30 : decode jdk_52_method_21_code 30 = .ok (.i2b, 1) := by decide +kernel
theorem d0_31 : decode jdk_52_method_21_code 31 = .ok (.bastore, 1) := by decide +kernel
theorem d0_32 : decode jdk_52_method_21_code 32 = .ok (.iinc 1 1, 3) := by decide +kernel
theorem d0_35 : decode jdk_52_method_21_code 35 = .ok (.iinc 3 1, 3) := by decide +kernel
theorem d0_38 : decode jdk_52_method_21_code 38 = .ok (.iinc 5 1, 3) := by decide +kernel
theorem d0_41 : decode jdk_52_method_21_code 41 = .ok (.goto (-38), 3) := by decide +kernel
theorem d0_44 : decode jdk_52_method_21_code 44 = .ok (.iload 4, 2) := by decide +kernel
theorem d0_46 : decode jdk_52_method_21_code 46 = .ok (.ireturn, 1) := by decide +kernel
theorem pn_0 : plainName "java/lang/StringUTF16" = true := by first | (simp [plainName, overriddenIn]; done) | decide +kernel
theorem ef_rm_cpb1 (m : MethodId) (x0 : Addr) (x1 : Int32) (x2 : Addr) (x3 : Int32) (x4 : Int32) : entryFrame m #[(.ref x0), (.int x1), (.ref x2), (.int x3), (.int x4)] 7 = mkF m 0 #[.val (.ref x0), .val (.int x1), .val (.ref x2), .val (.int x3), .val (.int x4), .unset, .unset] [] := by first | (simp [entryFrame, mkF, argsToLocals, Value.category]; done) | rfl
def Q_rm_cpb1 (Z : State) (b : Addr) (kb : ClassId) (d : Addr) (kd : ClassId) (c0 : Int32) (h0 : Heap) (n0 : Nat) (v : Option Value) (h : Heap) (L : List Loc) : Prop := ((v = some (.int (1 : Int32))) ∧ (Fr n0 L) ∧ (Keep h0 h [d]) ∧ (Exa Z h d "[B") ∧ (Arv Z h d kd .byte (1 : Int32) [(.int c0.toInt8.toInt32)] (.int (0 : Int32))))
set_option maxRecDepth 65536 in
set_option maxHeartbeats 40000000 in
theorem rm_cpb1 (l : Launch) (Z : State) (a0 : Array Value) (hw : ∀ d ∈ tables_1, d.before a0 Z = true) (ws : List Jvm.Cond) (b : Addr) (kb : ClassId) (d : Addr) (kd : ClassId) (c0 : Int32) (h0 : Heap) (n0 : Nat) (O0 : Old Z n0 h0) (A_b : Arv Z h0 b kb .char (1 : Int32) [(.int c0)] (.int (0 : Int32))) (E_d : Exa Z h0 d "[B") (A_d : Arv Z h0 d kd .byte (1 : Int32) [(.int (0 : Int32))] (.int (0 : Int32))) (g_d : n0 ≤ d) (ne_bd : b ≠ d) (la_c0 : ¬ (c0 < (0 : Int32)) ∧ ¬ ((255 : Int32) < c0)) :
    MetFree l (⟨"java/lang/StringUTF16", "compress", "([CI[BII)I"⟩ : MethodName) (head1 (Jvm.Cond.code (⟨"java/lang/StringUTF16", "compress", "([CI[BII)I"⟩ : MethodName) jdk_52_method_21_code 7 (some .int) :: ws) ({ frames := 0, cells := 0, slots := 0, locals := 0 } : Room)) (fun a U => a = #[(.ref b), (.int (0 : Int32)), (.ref d), (.int (0 : Int32)), (.int (1 : Int32))] ∧ Z.Warmed39 U.vm ∧ U.heap = h0) (fun _ _ _ _ _ => True) (fun _ U o U' => ∃ v L, o = .returned v ∧ Q_rm_cpb1 Z b kb d kd c0 h0 n0 v U'.heap L ∧ FrameEnd U o U' L ({ frames := 0, cells := 0, slots := 0, locals := 0 } : Room).cells ({ frames := 0, cells := 0, slots := 0, locals := 0 } : Room).slots) := by
  refine MetFree.of_bodySF (plainFor_of_name pn_0) hisR ?_
  intro p e s m args below meth c s₁ Bd hml0 hP hK
  obtain ⟨rfl, hZ, hh⟩ := hP
  have hx := Bd.exec
  have hby := Bd.bytes
  have hml : c.maxLocals = 7 := hml0
  have hown : s.vm.findClass "java/lang/StringUTF16" = some m.cls := findClass_of_methodNamed Bd.named
  have hnm := (name_of_methodNamed Bd.named Bd.method).1
  have X0 : Stand p l e ({ frames := 0, cells := 0, slots := 0, locals := 0 } : Room) s m #[(.ref b), (.int (0 : Int32)), (.ref d), (.int (0 : Int32)), (.int (1 : Int32))] below meth c s₁ [] 0 0 := Stand.of_body Bd
  have e0 : s₁.heap = h0 := by rw [← hh, Bd.state]; rfl
  have N0 := Fr.nil n0
  have hwl : ∀ d ∈ StrChars.Road.wordsLen, d.before a0 Z = true := fun d hd => hw d (own_wordsLen d hd)
  have hwc : ∀ d ∈ StrChars.Road.wordsChN, d.before a0 Z = true := fun d hd => hw d (own_wordsChN d hd)
  have hwq : ∀ d ∈ StrChars.Road.wordsEq, d.before a0 Z = true := fun d hd => hw d (own_wordsEq d hd)
  have K0 : Keep h0 h0 [d] := Keep.refl _ _
  have pre0 : ∀ t, Steps p.tables e below (s₁.setTop (mkF m 0 #[.val (.ref b), .val (.int (0 : Int32)), .val (.ref d), .val (.int (0 : Int32)), .val (.int (1 : Int32)), .unset, .unset] [])) t → Steps p.tables e below (s₁.setTop (entryFrame m #[(.ref b), (.int (0 : Int32)), (.ref d), (.int (0 : Int32)), (.int (1 : Int32))] 7)) t := fun t k => castTop (ef_rm_cpb1 m b (0 : Int32) d (0 : Int32) (1 : Int32)) k
  obtain ⟨cl1, Ar1, q1, Sz1, Nn1, Hh1, Gg1⟩ := id A_b
  have in1 : ¬ ((0 : Int32) < 0 ∨ cl1.slots.size ≤ ((0 : Int32)).toNatClampNeg) := by exact inb_of Sz1 ⟨by decide, by decide⟩
  have at1 : cl1.slots[((0 : Int32)).toNatClampNeg]? = some (.int c0) := by
    refine Has.at Hh1 in1 ?_
    rfl
  obtain ⟨cl2, Ar2, q2, Sz2, Nn2, Hh2, Gg2⟩ := id A_d
  have in2 : ¬ ((0 : Int32) < 0 ∨ cl2.slots.size ≤ ((0 : Int32)).toNatClampNeg) := inb_of Sz2 ⟨by decide, by decide⟩
  obtain ⟨T2, h2, X2, e2, W2, st2⟩ := stB X0 hx hZ e0 Ar2 (j := (0 : Int32)) in2 (g := (mkF m 31 #[.val (.ref b), .val (.int (0 : Int32)), .val (.ref d), .val (.int (0 : Int32)), .val (.int (1 : Int32)), .val (.int (0 : Int32)), .val (.int c0)] [(.int (c0.toInt8.toInt32)), (.int (0 : Int32)), (.ref d)])) rfl rfl (hb hby d0_31)
  rw [show nar .byte (c0.toInt8.toInt32) = c0.toInt8.toInt32 from own_narB _] at W2
  have O3 := O0.wr W2 g_d
  have K4 : Keep h0 h2 [d] := K0.wr W2 (Or.inl (List.mem_of_getElem? (i := 0) rfl))
  have N5 := Fr.snoc X2 N0 g_d
  have F2 : Arv Z h2 d kd .byte (1 : Int32) [(.int c0.toInt8.toInt32)] (.int (0 : Int32)) := Arv.set Ar2 q2 Sz2 Nn2 Hh2 Gg2 (by rw [← (own_narB _ : nar .byte (c0.toInt8.toInt32) = c0.toInt8.toInt32)]; exact fits_nar_byte _) W2 0 rfl (Nat.le_of_ble_eq_true rfl)
  have S6 : ∀ t, Steps p.tables e below (T2.setTop (mkF m 46 #[.val (.ref b), .val (.int (1 : Int32)), .val (.ref d), .val (.int (1 : Int32)), .val (.int (1 : Int32)), .val (.int (1 : Int32)), .val (.int c0)] [(.int (1 : Int32))])) t → Steps p.tables e below (s₁.setTop (mkF m 0 #[.val (.ref b), .val (.int (0 : Int32)), .val (.ref d), .val (.int (0 : Int32)), .val (.int (1 : Int32)), .unset, .unset] [])) t := by
    intro t kt
    refine XS.iconst X0.here hx rfl (hb hby d0_0) ?_
    refine XS.istore X0.here hx rfl (hb hby d0_1) rfl (l' := #[.val (.ref b), .val (.int (0 : Int32)), .val (.ref d), .val (.int (0 : Int32)), .val (.int (1 : Int32)), .val (.int (0 : Int32)), .unset]) rfl ?_
    refine XS.iload X0.here hx rfl (hb hby d0_3) rfl ?_
    refine XS.iload X0.here hx rfl (hb hby d0_5) rfl ?_
    refine XS.icmpNo X0.here hx rfl (hb hby d0_7) rfl (tlt ((by decide) : (0 : Int32) < (1 : Int32))).2.1 ?_
    refine XS.aloadN X0.here hx rfl (hb hby d0_10) rfl rfl ?_
    show Steps p.tables e below (s₁.setTop (mkF m 11 #[.val (.ref b), .val (.int (0 : Int32)), .val (.ref d), .val (.int (0 : Int32)), .val (.int (1 : Int32)), .val (.int (0 : Int32)), .unset] [(.ref b)])) _
    refine XS.iloadN X0.here hx rfl (hb hby d0_11) rfl ?_
    show Steps p.tables e below (s₁.setTop (mkF m 12 #[.val (.ref b), .val (.int (0 : Int32)), .val (.ref d), .val (.int (0 : Int32)), .val (.int (1 : Int32)), .val (.int (0 : Int32)), .unset] [(.int (0 : Int32)), (.ref b)])) _
    refine X0.caload hx (j := (0 : Int32)) (v := (.int c0)) (by rw [e0]; exact Ar1.1) (State.isArrayOf_alike hZ.alike Ar1.2.1) Ar1.2.2 in1 at1 (g := (mkF m 12 #[.val (.ref b), .val (.int (0 : Int32)), .val (.ref d), .val (.int (0 : Int32)), .val (.int (1 : Int32)), .val (.int (0 : Int32)), .unset] [(.int (0 : Int32)), (.ref b)])) rfl rfl (hb hby d0_12) _ ?_
    refine XS.istore X0.here hx rfl (hb hby d0_13) rfl (l' := #[.val (.ref b), .val (.int (0 : Int32)), .val (.ref d), .val (.int (0 : Int32)), .val (.int (1 : Int32)), .val (.int (0 : Int32)), .val (.int c0)]) rfl ?_
    refine XS.iload X0.here hx rfl (hb hby d0_15) rfl ?_
    refine XS.sipush X0.here hx rfl (hb hby d0_17) ?_
    refine XS.icmpYes X0.here hx rfl (pc0 := 20) (pc' := 26) rfl (hb hby d0_20) rfl (flt (la_c0.2 : ¬ ((255 : Int32) < c0))).2.2.2 (by decide) (by decide) ?_
    refine XS.aloadN X0.here hx rfl (hb hby d0_26) rfl rfl ?_
    show Steps p.tables e below (s₁.setTop (mkF m 27 #[.val (.ref b), .val (.int (0 : Int32)), .val (.ref d), .val (.int (0 : Int32)), .val (.int (1 : Int32)), .val (.int (0 : Int32)), .val (.int c0)] [(.ref d)])) _
    refine XS.iloadN X0.here hx rfl (hb hby d0_27) rfl ?_
    refine XS.iload X0.here hx rfl (hb hby d0_28) rfl ?_
    refine XS.i2b X0.here hx rfl (hb hby d0_30) rfl ?_
    show Steps p.tables e below (s₁.setTop (mkF m 31 #[.val (.ref b), .val (.int (0 : Int32)), .val (.ref d), .val (.int (0 : Int32)), .val (.int (1 : Int32)), .val (.int (0 : Int32)), .val (.int c0)] [(.int (c0.toInt8.toInt32)), (.int (0 : Int32)), (.ref d)])) _
    refine st2 _ ?_
    refine XS.iinc X2.here hx rfl (hb hby d0_32) rfl (l' := #[.val (.ref b), .val (.int (1 : Int32)), .val (.ref d), .val (.int (0 : Int32)), .val (.int (1 : Int32)), .val (.int (0 : Int32)), .val (.int c0)]) rfl ?_
    refine XS.iinc X2.here hx rfl (hb hby d0_35) rfl (l' := #[.val (.ref b), .val (.int (1 : Int32)), .val (.ref d), .val (.int (1 : Int32)), .val (.int (1 : Int32)), .val (.int (0 : Int32)), .val (.int c0)]) rfl ?_
    refine XS.iinc X2.here hx rfl (hb hby d0_38) rfl (l' := #[.val (.ref b), .val (.int (1 : Int32)), .val (.ref d), .val (.int (1 : Int32)), .val (.int (1 : Int32)), .val (.int (1 : Int32)), .val (.int c0)]) rfl ?_
    refine XS.goto X2.here hx rfl (pc0 := 41) (pc' := 3) rfl (hb hby d0_41) (by decide) (by decide) ?_
    refine XS.iload X2.here hx rfl (hb hby d0_3) rfl ?_
    show Steps p.tables e below (T2.setTop (mkF m 5 #[.val (.ref b), .val (.int (1 : Int32)), .val (.ref d), .val (.int (1 : Int32)), .val (.int (1 : Int32)), .val (.int (1 : Int32)), .val (.int c0)] [(.int (1 : Int32))])) _
    refine XS.iload X2.here hx rfl (hb hby d0_5) rfl ?_
    refine XS.icmpYes X2.here hx rfl (pc0 := 7) (pc' := 44) rfl (hb hby d0_7) rfl (flt ((by decide) : ¬ ((1 : Int32) < (1 : Int32)))).2.1 (by decide) (by decide) ?_
    refine XS.iload X2.here hx rfl (hb hby d0_44) rfl ?_
    exact kt
  obtain ⟨fs, hr, hrun, hended, hW, hsame⟩ := X2.leave (v := some (.int (1 : Int32))) (fun h => by rw [Bd.returns] at h; cases h)
  have f7 := (Exa.wr W2 E_d)
  refine ⟨_, _, pre0 _ (S6 _ ?_), hrun, hended, _, _, rfl, ?_, ⟨_, rfl⟩, hW, hsame.mono (by decide) (by decide)⟩
  · exact retOut X2 hx Bd.returns rfl (Or.inl ⟨rfl, Or.inl rfl, _, rfl⟩) (hb hby d0_46) hr
  · show Q_rm_cpb1 Z b kb d kd c0 h0 n0 _ T2.heap _
    rw [e2]
    exact ⟨rfl, N5, K4, f7, F2⟩
theorem d1_0 : decode jdk_52_method_16_code 0 = .ok (.iload_n 2, 1) := by decide +kernel
theorem d1_1 : decode jdk_52_method_16_code 1 = .ok (.newarray .byte, 2) := by decide +kernel
theorem d1_3 : decode jdk_52_method_16_code 3 = .ok (.astore_n 3, 1) := by decide +kernel
theorem d1_4 : decode jdk_52_method_16_code 4 = .ok (.aload_n 0, 1) := by decide +kernel
theorem d1_5 : decode jdk_52_method_16_code 5 = .ok (.iload_n 1, 1) := by decide +kernel
theorem d1_6 : decode jdk_52_method_16_code 6 = .ok (.aload_n 3, 1) := by decide +kernel
theorem d1_7 : decode jdk_52_method_16_code 7 = .ok (.iconst 0, 1) := by decide +kernel
theorem d1_8 : decode jdk_52_method_16_code 8 = .ok (.iload_n 2, 1) := by decide +kernel
theorem d1_9 : decode jdk_52_method_16_code 9 = .ok (.invokestatic 115, 3) := by decide +kernel
theorem pd_0 : parseMethodDescriptor "([CI[BII)I" = some ⟨[(.array .char), .int, (.array .byte), .int, .int], some .int⟩ := by decide +kernel
theorem d1_12 : decode jdk_52_method_16_code 12 = .ok (.istore 4, 2) := by decide +kernel
theorem d1_14 : decode jdk_52_method_16_code 14 = .ok (.iload 4, 2) := by decide +kernel
theorem d1_16 : decode jdk_52_method_16_code 16 = .ok (.iload_n 2, 1) := by decide +kernel
theorem d1_17 : decode jdk_52_method_16_code 17 = .ok (.if_icmp .eq 40, 3) := by decide +kernel
theorem d1_57 : decode jdk_52_method_16_code 57 = .ok (.aload_n 3, 1) := by decide +kernel
theorem d1_58 : decode jdk_52_method_16_code 58 = .ok (.areturn, 1) := by decide +kernel
theorem ef_rm_cp1 (m : MethodId) (x0 : Addr) (x1 : Int32) (x2 : Int32) : entryFrame m #[(.ref x0), (.int x1), (.int x2)] 6 = mkF m 0 #[.val (.ref x0), .val (.int x1), .val (.int x2), .unset, .unset, .unset] [] := by first | (simp [entryFrame, mkF, argsToLocals, Value.category]; done) | rfl
def Q_rm_cp1 (Z : State) (b : Addr) (kb : ClassId) (c0 : Int32) (h0 : Heap) (n0 : Nat) (v : Option Value) (h : Heap) (L : List Loc) : Prop := (∃ (r : Addr) (kr : ClassId), (v = some (.ref r)) ∧ (Fr n0 L) ∧ (Keep h0 h []) ∧ (h0.size ≤ r) ∧ (Exa Z h r "[B") ∧ (Arv Z h r kr .byte (1 : Int32) [(.int c0.toInt8.toInt32)] (.int (0 : Int32))))
set_option maxRecDepth 65536 in
set_option maxHeartbeats 40000000 in
theorem rm_cp1 (l : Launch) (Z : State) (a0 : Array Value) (hw : ∀ d ∈ tables_1, d.before a0 Z = true) (ws : List Jvm.Cond) (b : Addr) (kb : ClassId) (c0 : Int32) (h0 : Heap) (n0 : Nat) (O0 : Old Z n0 h0) (A_b : Arv Z h0 b kb .char (1 : Int32) [(.int c0)] (.int (0 : Int32))) (la_c0 : ¬ (c0 < (0 : Int32)) ∧ ¬ ((255 : Int32) < c0)) :
    MetFree l (⟨"java/lang/StringUTF16", "compress", "([CII)[B"⟩ : MethodName) (head1 (Jvm.Cond.code (⟨"java/lang/StringUTF16", "compress", "([CII)[B"⟩ : MethodName) jdk_52_method_16_code 6 (some (.array .byte)) :: ws) ({ frames := 1, cells := 1, slots := 1, locals := 18 } : Room)) (fun a U => a = #[(.ref b), (.int (0 : Int32)), (.int (1 : Int32))] ∧ Z.Warmed39 U.vm ∧ U.heap = h0) (fun _ _ _ _ _ => True) (fun _ U o U' => ∃ v L, o = .returned v ∧ Q_rm_cp1 Z b kb c0 h0 n0 v U'.heap L ∧ FrameEnd U o U' L ({ frames := 1, cells := 1, slots := 1, locals := 18 } : Room).cells ({ frames := 1, cells := 1, slots := 1, locals := 18 } : Room).slots) := by
  refine MetFree.of_bodySF (plainFor_of_name pn_0) hisR ?_
  intro p e s m args below meth c s₁ Bd hml0 hP hK
  obtain ⟨rfl, hZ, hh⟩ := hP
  have hx := Bd.exec
  have hby := Bd.bytes
  have hml : c.maxLocals = 6 := hml0
  have hown : s.vm.findClass "java/lang/StringUTF16" = some m.cls := findClass_of_methodNamed Bd.named
  have hnm := (name_of_methodNamed Bd.named Bd.method).1
  have X0 : Stand p l e ({ frames := 1, cells := 1, slots := 1, locals := 18 } : Room) s m #[(.ref b), (.int (0 : Int32)), (.int (1 : Int32))] below meth c s₁ [] 0 0 := Stand.of_body Bd
  have e0 : s₁.heap = h0 := by rw [← hh, Bd.state]; rfl
  have N0 := Fr.nil n0
  have hwl : ∀ d ∈ StrChars.Road.wordsLen, d.before a0 Z = true := fun d hd => hw d (own_wordsLen d hd)
  have hwc : ∀ d ∈ StrChars.Road.wordsChN, d.before a0 Z = true := fun d hd => hw d (own_wordsChN d hd)
  have hwq : ∀ d ∈ StrChars.Road.wordsEq, d.before a0 Z = true := fun d hd => hw d (own_wordsEq d hd)
  have K0 : Keep h0 h0 [] := Keep.refl _ _
  have pre0 : ∀ t, Steps p.tables e below (s₁.setTop (mkF m 0 #[.val (.ref b), .val (.int (0 : Int32)), .val (.int (1 : Int32)), .unset, .unset, .unset] [])) t → Steps p.tables e below (s₁.setTop (entryFrame m #[(.ref b), (.int (0 : Int32)), (.int (1 : Int32))] 6)) t := fun t k => castTop (ef_rm_cp1 m b (0 : Int32) (1 : Int32)) k
  obtain ⟨T1, h1, k1, X1, e1, E1, A1, B1, st1⟩ := newPE X0 hx hZ (own_w hw 19 rfl) e0 (g := (mkF m 1 #[.val (.ref b), .val (.int (0 : Int32)), .val (.int (1 : Int32)), .unset, .unset, .unset] [(.int (1 : Int32))])) rfl (hb hby d1_1) rfl (by decide) (cap := 1) (by decide) (by decide) (by decide) (by decide) (ad := "[B") (by first | rfl | decide)
  obtain ⟨b1, g1⟩ : ∃ z, z = h0.size := ⟨_, rfl⟩
  have ge_b1 : n0 ≤ b1 := by rw [g1, ← O0.1]; exact O0.2.1
  have sz_b1 : h0.size ≤ b1 := by rw [g1]; exact K0.1
  have ne2 : b ≠ b1 := Nat.ne_of_lt (Nat.lt_of_lt_of_le (Arv.lt A_b) (Nat.le_of_eq g1.symm))
  rw [← g1] at A1 B1 st1
  have O3 := O0.ext E1
  have K4 : Keep h0 h1 [] := K0.ext E1
  have F1 : Arv Z h1 b1 k1 .byte (1 : Int32) [(.int (0 : Int32))] (.int (0 : Int32)) := (Arv.new A1 (by decide)).pad (pad_rep [] (.int (0 : Int32)) 1)
  have f6 := (Arv.ext A_b E1)
  obtain ⟨_, _, ⟨T5, L5, k5, n5⟩, -, X5, ⟨Lc5, hQ5, l5, y5, z5⟩, st5⟩ := Jvm.LawKit.callS X1 hx (y := (⟨"java/lang/StringUTF16", "compress", "([CI[BII)I"⟩ : MethodName)) hown (mvT hZ (own_w hw 93 rfl)) (mvT hZ (own_w hw 94 rfl)) (mvT hZ (own_w hw 91 rfl)) (mvT hZ (own_w hw 95 rfl)) (by decide) (backOf (W := 0) (rm_cpb1 l Z a0 hw [] b kb b1 k1 c0 h1 n0 O3 f6 B1 F1 ge_b1 ne2 la_c0) hZ (own_w hw 95 rfl) (own_w hw 91 rfl) (by decide) (by decide)) (g := (mkF m 9 #[.val (.ref b), .val (.int (0 : Int32)), .val (.int (1 : Int32)), .val (.ref b1), .unset, .unset] [(.int (1 : Int32)), (.int (0 : Int32)), (.ref b1), (.int (0 : Int32)), (.ref b)])) rfl (by rw [hml]; rfl) (argsL := [(.ref b), (.int (0 : Int32)), (.ref b1), (.int (0 : Int32)), (.int (1 : Int32))]) (rest := []) (lenOf pd_0 rfl) rfl (by show 2 * 0 + _ ≤ _; exact Nat.le_of_eq rfl) (hb hby d1_9) (fun _ _ => ⟨rfl, e1, (by decide : 1 + 0 ≤ _), (by decide : 1 + 0 ≤ _)⟩)
  dsimp only [Pt.U, Pt.locs, Pt.cells, Pt.slots] at X5 l5 y5 z5 st5 hQ5
  subst l5 y5 z5
  obtain ⟨rfl, N7, k8, f9, f10⟩ := hQ5
  have N11 := Fr.app N0 N7
  have O12 := O3.keep k8 (allS ge_b1 all0)
  have K13 : Keep h0 T5.heap [] := K4.trans k8 (allS (Or.inr sz_b1) all0)
  have S14 : ∀ t, Steps p.tables e below (T5.setTop (mkF m 58 #[.val (.ref b), .val (.int (0 : Int32)), .val (.int (1 : Int32)), .val (.ref b1), .val (.int (1 : Int32)), .unset] [(.ref b1)])) t → Steps p.tables e below (s₁.setTop (mkF m 0 #[.val (.ref b), .val (.int (0 : Int32)), .val (.int (1 : Int32)), .unset, .unset, .unset] [])) t := by
    intro t kt
    refine XS.iloadN X0.here hx rfl (hb hby d1_0) rfl ?_
    show Steps p.tables e below (s₁.setTop (mkF m 1 #[.val (.ref b), .val (.int (0 : Int32)), .val (.int (1 : Int32)), .unset, .unset, .unset] [(.int (1 : Int32))])) _
    refine st1 _ ?_
    refine XS.astoreN X1.here hx rfl (hb hby d1_3) rfl rfl (l' := #[.val (.ref b), .val (.int (0 : Int32)), .val (.int (1 : Int32)), .val (.ref b1), .unset, .unset]) rfl ?_
    refine XS.aloadN X1.here hx rfl (hb hby d1_4) rfl rfl ?_
    refine XS.iloadN X1.here hx rfl (hb hby d1_5) rfl ?_
    refine XS.aloadN X1.here hx rfl (hb hby d1_6) rfl rfl ?_
    refine XS.iconst X1.here hx rfl (hb hby d1_7) ?_
    show Steps p.tables e below (T1.setTop (mkF m 8 #[.val (.ref b), .val (.int (0 : Int32)), .val (.int (1 : Int32)), .val (.ref b1), .unset, .unset] [(.int (0 : Int32)), (.ref b1), (.int (0 : Int32)), (.ref b)])) _
    refine XS.iloadN X1.here hx rfl (hb hby d1_8) rfl ?_
    show Steps p.tables e below (T1.setTop (mkF m 9 #[.val (.ref b), .val (.int (0 : Int32)), .val (.int (1 : Int32)), .val (.ref b1), .unset, .unset] [(.int (1 : Int32)), (.int (0 : Int32)), (.ref b1), (.int (0 : Int32)), (.ref b)])) _
    refine st5 _ ?_
    refine XS.istore X5.here hx rfl (hb hby d1_12) rfl (l' := #[.val (.ref b), .val (.int (0 : Int32)), .val (.int (1 : Int32)), .val (.ref b1), .val (.int (1 : Int32)), .unset]) rfl ?_
    refine XS.iload X5.here hx rfl (hb hby d1_14) rfl ?_
    refine XS.iloadN X5.here hx rfl (hb hby d1_16) rfl ?_
    refine XS.icmpYes X5.here hx rfl (pc0 := 17) (pc' := 57) rfl (hb hby d1_17) rfl (teq ((by decide) : (1 : Int32) = (1 : Int32))).1 (by decide) (by decide) ?_
    refine XS.aloadN X5.here hx rfl (hb hby d1_57) rfl rfl ?_
    exact kt
  obtain ⟨fs, hr, hrun, hended, hW, hsame⟩ := X5.leave (v := some (.ref b1)) (fun h => by rw [Bd.returns] at h; cases h)
  refine ⟨_, _, pre0 _ (S14 _ ?_), hrun, hended, _, _, rfl, ?_, ⟨_, rfl⟩, hW, hsame.mono (by decide) (by decide)⟩
  · exact retOut X5 hx Bd.returns rfl (Or.inr (Or.inr (Or.inr (Or.inr ⟨rfl, rfl, rfl⟩)))) (hb hby d1_58) hr
  · show Q_rm_cp1 Z b kb c0 h0 n0 _ T5.heap _
    exact ⟨b1, k1, rfl, N11, K13, sz_b1, f9, f10⟩
theorem d2_0 : decode jdk_52_method_15_code 0 = .ok (.iload_n 1, 1) := by decide +kernel
theorem d2_1 : decode jdk_52_method_15_code 1 = .ok (.aload_n 0, 1) := by decide +kernel
theorem d2_2 : decode jdk_52_method_15_code 2 = .ok (.arraylength, 1) := by decide +kernel
theorem d2_3 : decode jdk_52_method_15_code 3 = .ok (.isub, 1) := by decide +kernel
theorem d2_4 : decode jdk_52_method_15_code 4 = .ok (.bipush 31, 2) := by decide +kernel
theorem d2_6 : decode jdk_52_method_15_code 6 = .ok (.iushr, 1) := by decide +kernel
theorem d2_7 : decode jdk_52_method_15_code 7 = .ok (.i2b, 1) := by decide +kernel
theorem d2_8 : decode jdk_52_method_15_code 8 = .ok (.ireturn, 1) := by decide +kernel
theorem ef_rm_cf1 (m : MethodId) (x0 : Addr) (x1 : Int32) : entryFrame m #[(.ref x0), (.int x1)] 2 = mkF m 0 #[.val (.ref x0), .val (.int x1)] [] := by first | (simp [entryFrame, mkF, argsToLocals, Value.category]; done) | rfl
def Q_rm_cf1 (Z : State) (d : Addr) (kd : ClassId) (c0 : Int32) (h0 : Heap) (n0 : Nat) (v : Option Value) (h : Heap) (L : List Loc) : Prop := ((v = some (.int (0 : Int32))) ∧ (Fr n0 L) ∧ (h = h0))
set_option maxRecDepth 65536 in
set_option maxHeartbeats 40000000 in
theorem rm_cf1 (l : Launch) (Z : State) (a0 : Array Value) (hw : ∀ d ∈ tables_1, d.before a0 Z = true) (ws : List Jvm.Cond) (d : Addr) (kd : ClassId) (c0 : Int32) (h0 : Heap) (n0 : Nat) (O0 : Old Z n0 h0) (A_d : Arv Z h0 d kd .byte (1 : Int32) [(.int c0.toInt8.toInt32)] (.int (0 : Int32))) :
    MetFree l (⟨"java/lang/StringUTF16", "coderFromArrayLen", "([BI)B"⟩ : MethodName) (head1 (Jvm.Cond.code (⟨"java/lang/StringUTF16", "coderFromArrayLen", "([BI)B"⟩ : MethodName) jdk_52_method_15_code 2 (some .byte) :: ws) ({ frames := 0, cells := 0, slots := 0, locals := 0 } : Room)) (fun a U => a = #[(.ref d), (.int (1 : Int32))] ∧ Z.Warmed39 U.vm ∧ U.heap = h0) (fun _ _ _ _ _ => True) (fun _ U o U' => ∃ v L, o = .returned v ∧ Q_rm_cf1 Z d kd c0 h0 n0 v U'.heap L ∧ FrameEnd U o U' L ({ frames := 0, cells := 0, slots := 0, locals := 0 } : Room).cells ({ frames := 0, cells := 0, slots := 0, locals := 0 } : Room).slots) := by
  refine MetFree.of_bodySF (plainFor_of_name pn_0) hisR ?_
  intro p e s m args below meth c s₁ Bd hml0 hP hK
  obtain ⟨rfl, hZ, hh⟩ := hP
  have hx := Bd.exec
  have hby := Bd.bytes
  have hml : c.maxLocals = 2 := hml0
  have hown : s.vm.findClass "java/lang/StringUTF16" = some m.cls := findClass_of_methodNamed Bd.named
  have hnm := (name_of_methodNamed Bd.named Bd.method).1
  have X0 : Stand p l e ({ frames := 0, cells := 0, slots := 0, locals := 0 } : Room) s m #[(.ref d), (.int (1 : Int32))] below meth c s₁ [] 0 0 := Stand.of_body Bd
  have e0 : s₁.heap = h0 := by rw [← hh, Bd.state]; rfl
  have N0 := Fr.nil n0
  have hwl : ∀ d ∈ StrChars.Road.wordsLen, d.before a0 Z = true := fun d hd => hw d (own_wordsLen d hd)
  have hwc : ∀ d ∈ StrChars.Road.wordsChN, d.before a0 Z = true := fun d hd => hw d (own_wordsChN d hd)
  have hwq : ∀ d ∈ StrChars.Road.wordsEq, d.before a0 Z = true := fun d hd => hw d (own_wordsEq d hd)
  have pre0 : ∀ t, Steps p.tables e below (s₁.setTop (mkF m 0 #[.val (.ref d), .val (.int (1 : Int32))] [])) t → Steps p.tables e below (s₁.setTop (entryFrame m #[(.ref d), (.int (1 : Int32))] 2)) t := fun t k => castTop (ef_rm_cf1 m d (1 : Int32)) k
  obtain ⟨cl1, Ar1, -, Sz1, Nn1, -, -⟩ := id A_d
  have S2 : ∀ t, Steps p.tables e below (s₁.setTop (mkF m 8 #[.val (.ref d), .val (.int (1 : Int32))] [(.int (0 : Int32))])) t → Steps p.tables e below (s₁.setTop (mkF m 0 #[.val (.ref d), .val (.int (1 : Int32))] [])) t := by
    intro t kt
    refine XS.iloadN X0.here hx rfl (hb hby d2_0) rfl ?_
    refine XS.aloadN X0.here hx rfl (hb hby d2_1) rfl rfl ?_
    show Steps p.tables e below (s₁.setTop (mkF m 2 #[.val (.ref d), .val (.int (1 : Int32))] [(.ref d), (.int (1 : Int32))])) _
    refine X0.arraylength hx (by rw [e0]; exact Ar1.1) (State.isArrayOf_alike hZ.alike Ar1.2.1) (g := (mkF m 2 #[.val (.ref d), .val (.int (1 : Int32))] [(.ref d), (.int (1 : Int32))])) rfl rfl (hb hby d2_2) _ ?_
    rw [len_of Sz1 Nn1]
    refine XS.isub X0.here hx rfl (hb hby d2_3) rfl ?_
    refine XS.bipush X0.here hx rfl (hb hby d2_4) ?_
    refine XS.iushr X0.here hx rfl (hb hby d2_6) rfl ?_
    change Steps p.tables e below (s₁.setTop (mkF m 7 #[.val (.ref d), .val (.int (1 : Int32))] [(.int (((0 : Int32).toUInt32 >>> ((31 : Int32) &&& 31).toUInt32).toInt32))])) _
    rw [show (((0 : Int32).toUInt32 >>> ((31 : Int32) &&& 31).toUInt32).toInt32) = (0 : Int32) from by decide]
    refine XS.i2b X0.here hx rfl (hb hby d2_7) rfl ?_
    change Steps p.tables e below (s₁.setTop (mkF m 8 #[.val (.ref d), .val (.int (1 : Int32))] [(.int ((0 : Int32).toInt8.toInt32))])) _
    rw [show (0 : Int32).toInt8.toInt32 = (0 : Int32) from by decide]
    exact kt
  obtain ⟨fs, hr, hrun, hended, hW, hsame⟩ := X0.leave (v := some (.int (0 : Int32))) (fun h => by rw [Bd.returns] at h; cases h)
  refine ⟨_, _, pre0 _ (S2 _ ?_), hrun, hended, _, _, rfl, ?_, ⟨_, rfl⟩, hW, hsame.mono (by decide) (by decide)⟩
  · exact retN X0 hx (t := .byte) Bd.returns (by simp) (hb hby d2_8) hr
  · show Q_rm_cf1 Z d kd c0 h0 n0 _ s₁.heap _
    rw [e0]
    exact ⟨rfl, N0, rfl⟩
theorem ef_rm_cpb2 (m : MethodId) (x0 : Addr) (x1 : Int32) (x2 : Addr) (x3 : Int32) (x4 : Int32) : entryFrame m #[(.ref x0), (.int x1), (.ref x2), (.int x3), (.int x4)] 7 = mkF m 0 #[.val (.ref x0), .val (.int x1), .val (.ref x2), .val (.int x3), .val (.int x4), .unset, .unset] [] := by first | (simp [entryFrame, mkF, argsToLocals, Value.category]; done) | rfl
def Q_rm_cpb2 (Z : State) (b : Addr) (kb : ClassId) (d : Addr) (kd : ClassId) (c0 : Int32) (c1 : Int32) (h0 : Heap) (n0 : Nat) (v : Option Value) (h : Heap) (L : List Loc) : Prop := ((v = some (.int (2 : Int32))) ∧ (Fr n0 L) ∧ (Keep h0 h [d]) ∧ (Exa Z h d "[B") ∧ (Arv Z h d kd .byte (2 : Int32) [(.int c0.toInt8.toInt32), (.int c1.toInt8.toInt32)] (.int (0 : Int32))))
set_option maxRecDepth 65536 in
set_option maxHeartbeats 40000000 in
theorem rm_cpb2 (l : Launch) (Z : State) (a0 : Array Value) (hw : ∀ d ∈ tables_1, d.before a0 Z = true) (ws : List Jvm.Cond) (b : Addr) (kb : ClassId) (d : Addr) (kd : ClassId) (c0 : Int32) (c1 : Int32) (h0 : Heap) (n0 : Nat) (O0 : Old Z n0 h0) (A_b : Arv Z h0 b kb .char (2 : Int32) [(.int c0), (.int c1)] (.int (0 : Int32))) (E_d : Exa Z h0 d "[B") (A_d : Arv Z h0 d kd .byte (2 : Int32) [(.int (0 : Int32)), (.int (0 : Int32))] (.int (0 : Int32))) (g_d : n0 ≤ d) (ne_bd : b ≠ d) (la_c0 : ¬ (c0 < (0 : Int32)) ∧ ¬ ((255 : Int32) < c0)) (la_c1 : ¬ (c1 < (0 : Int32)) ∧ ¬ ((255 : Int32) < c1)) :
    MetFree l (⟨"java/lang/StringUTF16", "compress", "([CI[BII)I"⟩ : MethodName) (head1 (Jvm.Cond.code (⟨"java/lang/StringUTF16", "compress", "([CI[BII)I"⟩ : MethodName) jdk_52_method_21_code 7 (some .int) :: ws) ({ frames := 0, cells := 0, slots := 0, locals := 0 } : Room)) (fun a U => a = #[(.ref b), (.int (0 : Int32)), (.ref d), (.int (0 : Int32)), (.int (2 : Int32))] ∧ Z.Warmed39 U.vm ∧ U.heap = h0) (fun _ _ _ _ _ => True) (fun _ U o U' => ∃ v L, o = .returned v ∧ Q_rm_cpb2 Z b kb d kd c0 c1 h0 n0 v U'.heap L ∧ FrameEnd U o U' L ({ frames := 0, cells := 0, slots := 0, locals := 0 } : Room).cells ({ frames := 0, cells := 0, slots := 0, locals := 0 } : Room).slots) := by
  refine MetFree.of_bodySF (plainFor_of_name pn_0) hisR ?_
  intro p e s m args below meth c s₁ Bd hml0 hP hK
  obtain ⟨rfl, hZ, hh⟩ := hP
  have hx := Bd.exec
  have hby := Bd.bytes
  have hml : c.maxLocals = 7 := hml0
  have hown : s.vm.findClass "java/lang/StringUTF16" = some m.cls := findClass_of_methodNamed Bd.named
  have hnm := (name_of_methodNamed Bd.named Bd.method).1
  have X0 : Stand p l e ({ frames := 0, cells := 0, slots := 0, locals := 0 } : Room) s m #[(.ref b), (.int (0 : Int32)), (.ref d), (.int (0 : Int32)), (.int (2 : Int32))] below meth c s₁ [] 0 0 := Stand.of_body Bd
  have e0 : s₁.heap = h0 := by rw [← hh, Bd.state]; rfl
  have N0 := Fr.nil n0
  have hwl : ∀ d ∈ StrChars.Road.wordsLen, d.before a0 Z = true := fun d hd => hw d (own_wordsLen d hd)
  have hwc : ∀ d ∈ StrChars.Road.wordsChN, d.before a0 Z = true := fun d hd => hw d (own_wordsChN d hd)
  have hwq : ∀ d ∈ StrChars.Road.wordsEq, d.before a0 Z = true := fun d hd => hw d (own_wordsEq d hd)
  have K0 : Keep h0 h0 [d] := Keep.refl _ _
  have pre0 : ∀ t, Steps p.tables e below (s₁.setTop (mkF m 0 #[.val (.ref b), .val (.int (0 : Int32)), .val (.ref d), .val (.int (0 : Int32)), .val (.int (2 : Int32)), .unset, .unset] [])) t → Steps p.tables e below (s₁.setTop (entryFrame m #[(.ref b), (.int (0 : Int32)), (.ref d), (.int (0 : Int32)), (.int (2 : Int32))] 7)) t := fun t k => castTop (ef_rm_cpb2 m b (0 : Int32) d (0 : Int32) (2 : Int32)) k
  obtain ⟨cl1, Ar1, q1, Sz1, Nn1, Hh1, Gg1⟩ := id A_b
  have in1 : ¬ ((0 : Int32) < 0 ∨ cl1.slots.size ≤ ((0 : Int32)).toNatClampNeg) := by exact inb_of Sz1 ⟨by decide, by decide⟩
  have at1 : cl1.slots[((0 : Int32)).toNatClampNeg]? = some (.int c0) := by
    refine Has.at Hh1 in1 ?_
    rfl
  obtain ⟨cl2, Ar2, q2, Sz2, Nn2, Hh2, Gg2⟩ := id A_d
  have in2 : ¬ ((0 : Int32) < 0 ∨ cl2.slots.size ≤ ((0 : Int32)).toNatClampNeg) := inb_of Sz2 ⟨by decide, by decide⟩
  obtain ⟨T2, h2, X2, e2, W2, st2⟩ := stB X0 hx hZ e0 Ar2 (j := (0 : Int32)) in2 (g := (mkF m 31 #[.val (.ref b), .val (.int (0 : Int32)), .val (.ref d), .val (.int (0 : Int32)), .val (.int (2 : Int32)), .val (.int (0 : Int32)), .val (.int c0)] [(.int (c0.toInt8.toInt32)), (.int (0 : Int32)), (.ref d)])) rfl rfl (hb hby d0_31)
  rw [show nar .byte (c0.toInt8.toInt32) = c0.toInt8.toInt32 from own_narB _] at W2
  have O3 := O0.wr W2 g_d
  have K4 : Keep h0 h2 [d] := K0.wr W2 (Or.inl (List.mem_of_getElem? (i := 0) rfl))
  have N5 := Fr.snoc X2 N0 g_d
  have F2 : Arv Z h2 d kd .byte (2 : Int32) [(.int c0.toInt8.toInt32), (.int (0 : Int32))] (.int (0 : Int32)) := Arv.set Ar2 q2 Sz2 Nn2 Hh2 Gg2 (by rw [← (own_narB _ : nar .byte (c0.toInt8.toInt32) = c0.toInt8.toInt32)]; exact fits_nar_byte _) W2 0 rfl (Nat.le_of_ble_eq_true rfl)
  have f6 := (Arv.other A_b W2 ne_bd)
  obtain ⟨cl7, Ar7, q7, Sz7, Nn7, Hh7, Gg7⟩ := id f6
  have in7 : ¬ ((1 : Int32) < 0 ∨ cl7.slots.size ≤ ((1 : Int32)).toNatClampNeg) := by exact inb_of Sz7 ⟨by decide, by decide⟩
  have at7 : cl7.slots[((1 : Int32)).toNatClampNeg]? = some (.int c1) := by
    refine Has.at Hh7 in7 ?_
    rfl
  obtain ⟨cl8, Ar8, q8, Sz8, Nn8, Hh8, Gg8⟩ := id F2
  have in8 : ¬ ((1 : Int32) < 0 ∨ cl8.slots.size ≤ ((1 : Int32)).toNatClampNeg) := inb_of Sz8 ⟨by decide, by decide⟩
  obtain ⟨T8, h8, X8, e8, W8, st8⟩ := stB X2 hx hZ e2 Ar8 (j := (1 : Int32)) in8 (g := (mkF m 31 #[.val (.ref b), .val (.int (1 : Int32)), .val (.ref d), .val (.int (1 : Int32)), .val (.int (2 : Int32)), .val (.int (1 : Int32)), .val (.int c1)] [(.int (c1.toInt8.toInt32)), (.int (1 : Int32)), (.ref d)])) rfl rfl (hb hby d0_31)
  rw [show nar .byte (c1.toInt8.toInt32) = c1.toInt8.toInt32 from own_narB _] at W8
  have O9 := O3.wr W8 g_d
  have K10 : Keep h0 h8 [d] := K4.wr W8 (Or.inl (List.mem_of_getElem? (i := 0) rfl))
  have N11 := Fr.snoc X8 N5 g_d
  have F8 : Arv Z h8 d kd .byte (2 : Int32) [(.int c0.toInt8.toInt32), (.int c1.toInt8.toInt32)] (.int (0 : Int32)) := Arv.set Ar8 q8 Sz8 Nn8 Hh8 Gg8 (by rw [← (own_narB _ : nar .byte (c1.toInt8.toInt32) = c1.toInt8.toInt32)]; exact fits_nar_byte _) W8 1 rfl (Nat.le_of_ble_eq_true rfl)
  have S12 : ∀ t, Steps p.tables e below (T8.setTop (mkF m 46 #[.val (.ref b), .val (.int (2 : Int32)), .val (.ref d), .val (.int (2 : Int32)), .val (.int (2 : Int32)), .val (.int (2 : Int32)), .val (.int c1)] [(.int (2 : Int32))])) t → Steps p.tables e below (s₁.setTop (mkF m 0 #[.val (.ref b), .val (.int (0 : Int32)), .val (.ref d), .val (.int (0 : Int32)), .val (.int (2 : Int32)), .unset, .unset] [])) t := by
    intro t kt
    refine XS.iconst X0.here hx rfl (hb hby d0_0) ?_
    refine XS.istore X0.here hx rfl (hb hby d0_1) rfl (l' := #[.val (.ref b), .val (.int (0 : Int32)), .val (.ref d), .val (.int (0 : Int32)), .val (.int (2 : Int32)), .val (.int (0 : Int32)), .unset]) rfl ?_
    refine XS.iload X0.here hx rfl (hb hby d0_3) rfl ?_
    refine XS.iload X0.here hx rfl (hb hby d0_5) rfl ?_
    refine XS.icmpNo X0.here hx rfl (hb hby d0_7) rfl (tlt ((by decide) : (0 : Int32) < (2 : Int32))).2.1 ?_
    refine XS.aloadN X0.here hx rfl (hb hby d0_10) rfl rfl ?_
    show Steps p.tables e below (s₁.setTop (mkF m 11 #[.val (.ref b), .val (.int (0 : Int32)), .val (.ref d), .val (.int (0 : Int32)), .val (.int (2 : Int32)), .val (.int (0 : Int32)), .unset] [(.ref b)])) _
    refine XS.iloadN X0.here hx rfl (hb hby d0_11) rfl ?_
    show Steps p.tables e below (s₁.setTop (mkF m 12 #[.val (.ref b), .val (.int (0 : Int32)), .val (.ref d), .val (.int (0 : Int32)), .val (.int (2 : Int32)), .val (.int (0 : Int32)), .unset] [(.int (0 : Int32)), (.ref b)])) _
    refine X0.caload hx (j := (0 : Int32)) (v := (.int c0)) (by rw [e0]; exact Ar1.1) (State.isArrayOf_alike hZ.alike Ar1.2.1) Ar1.2.2 in1 at1 (g := (mkF m 12 #[.val (.ref b), .val (.int (0 : Int32)), .val (.ref d), .val (.int (0 : Int32)), .val (.int (2 : Int32)), .val (.int (0 : Int32)), .unset] [(.int (0 : Int32)), (.ref b)])) rfl rfl (hb hby d0_12) _ ?_
    refine XS.istore X0.here hx rfl (hb hby d0_13) rfl (l' := #[.val (.ref b), .val (.int (0 : Int32)), .val (.ref d), .val (.int (0 : Int32)), .val (.int (2 : Int32)), .val (.int (0 : Int32)), .val (.int c0)]) rfl ?_
    refine XS.iload X0.here hx rfl (hb hby d0_15) rfl ?_
    refine XS.sipush X0.here hx rfl (hb hby d0_17) ?_
    refine XS.icmpYes X0.here hx rfl (pc0 := 20) (pc' := 26) rfl (hb hby d0_20) rfl (flt (la_c0.2 : ¬ ((255 : Int32) < c0))).2.2.2 (by decide) (by decide) ?_
    refine XS.aloadN X0.here hx rfl (hb hby d0_26) rfl rfl ?_
    show Steps p.tables e below (s₁.setTop (mkF m 27 #[.val (.ref b), .val (.int (0 : Int32)), .val (.ref d), .val (.int (0 : Int32)), .val (.int (2 : Int32)), .val (.int (0 : Int32)), .val (.int c0)] [(.ref d)])) _
    refine XS.iloadN X0.here hx rfl (hb hby d0_27) rfl ?_
    refine XS.iload X0.here hx rfl (hb hby d0_28) rfl ?_
    refine XS.i2b X0.here hx rfl (hb hby d0_30) rfl ?_
    show Steps p.tables e below (s₁.setTop (mkF m 31 #[.val (.ref b), .val (.int (0 : Int32)), .val (.ref d), .val (.int (0 : Int32)), .val (.int (2 : Int32)), .val (.int (0 : Int32)), .val (.int c0)] [(.int (c0.toInt8.toInt32)), (.int (0 : Int32)), (.ref d)])) _
    refine st2 _ ?_
    refine XS.iinc X2.here hx rfl (hb hby d0_32) rfl (l' := #[.val (.ref b), .val (.int (1 : Int32)), .val (.ref d), .val (.int (0 : Int32)), .val (.int (2 : Int32)), .val (.int (0 : Int32)), .val (.int c0)]) rfl ?_
    refine XS.iinc X2.here hx rfl (hb hby d0_35) rfl (l' := #[.val (.ref b), .val (.int (1 : Int32)), .val (.ref d), .val (.int (1 : Int32)), .val (.int (2 : Int32)), .val (.int (0 : Int32)), .val (.int c0)]) rfl ?_
    refine XS.iinc X2.here hx rfl (hb hby d0_38) rfl (l' := #[.val (.ref b), .val (.int (1 : Int32)), .val (.ref d), .val (.int (1 : Int32)), .val (.int (2 : Int32)), .val (.int (1 : Int32)), .val (.int c0)]) rfl ?_
    refine XS.goto X2.here hx rfl (pc0 := 41) (pc' := 3) rfl (hb hby d0_41) (by decide) (by decide) ?_
    refine XS.iload X2.here hx rfl (hb hby d0_3) rfl ?_
    show Steps p.tables e below (T2.setTop (mkF m 5 #[.val (.ref b), .val (.int (1 : Int32)), .val (.ref d), .val (.int (1 : Int32)), .val (.int (2 : Int32)), .val (.int (1 : Int32)), .val (.int c0)] [(.int (1 : Int32))])) _
    refine XS.iload X2.here hx rfl (hb hby d0_5) rfl ?_
    refine XS.icmpNo X2.here hx rfl (hb hby d0_7) rfl (tlt ((by decide) : (1 : Int32) < (2 : Int32))).2.1 ?_
    refine XS.aloadN X2.here hx rfl (hb hby d0_10) rfl rfl ?_
    refine XS.iloadN X2.here hx rfl (hb hby d0_11) rfl ?_
    show Steps p.tables e below (T2.setTop (mkF m 12 #[.val (.ref b), .val (.int (1 : Int32)), .val (.ref d), .val (.int (1 : Int32)), .val (.int (2 : Int32)), .val (.int (1 : Int32)), .val (.int c0)] [(.int (1 : Int32)), (.ref b)])) _
    refine X2.caload hx (j := (1 : Int32)) (v := (.int c1)) (by rw [e2]; exact Ar7.1) (State.isArrayOf_alike hZ.alike Ar7.2.1) Ar7.2.2 in7 at7 (g := (mkF m 12 #[.val (.ref b), .val (.int (1 : Int32)), .val (.ref d), .val (.int (1 : Int32)), .val (.int (2 : Int32)), .val (.int (1 : Int32)), .val (.int c0)] [(.int (1 : Int32)), (.ref b)])) rfl rfl (hb hby d0_12) _ ?_
    refine XS.istore X2.here hx rfl (hb hby d0_13) rfl (l' := #[.val (.ref b), .val (.int (1 : Int32)), .val (.ref d), .val (.int (1 : Int32)), .val (.int (2 : Int32)), .val (.int (1 : Int32)), .val (.int c1)]) rfl ?_
    refine XS.iload X2.here hx rfl (hb hby d0_15) rfl ?_
    refine XS.sipush X2.here hx rfl (hb hby d0_17) ?_
    refine XS.icmpYes X2.here hx rfl (pc0 := 20) (pc' := 26) rfl (hb hby d0_20) rfl (flt (la_c1.2 : ¬ ((255 : Int32) < c1))).2.2.2 (by decide) (by decide) ?_
    refine XS.aloadN X2.here hx rfl (hb hby d0_26) rfl rfl ?_
    show Steps p.tables e below (T2.setTop (mkF m 27 #[.val (.ref b), .val (.int (1 : Int32)), .val (.ref d), .val (.int (1 : Int32)), .val (.int (2 : Int32)), .val (.int (1 : Int32)), .val (.int c1)] [(.ref d)])) _
    refine XS.iloadN X2.here hx rfl (hb hby d0_27) rfl ?_
    refine XS.iload X2.here hx rfl (hb hby d0_28) rfl ?_
    refine XS.i2b X2.here hx rfl (hb hby d0_30) rfl ?_
    show Steps p.tables e below (T2.setTop (mkF m 31 #[.val (.ref b), .val (.int (1 : Int32)), .val (.ref d), .val (.int (1 : Int32)), .val (.int (2 : Int32)), .val (.int (1 : Int32)), .val (.int c1)] [(.int (c1.toInt8.toInt32)), (.int (1 : Int32)), (.ref d)])) _
    refine st8 _ ?_
    refine XS.iinc X8.here hx rfl (hb hby d0_32) rfl (l' := #[.val (.ref b), .val (.int (2 : Int32)), .val (.ref d), .val (.int (1 : Int32)), .val (.int (2 : Int32)), .val (.int (1 : Int32)), .val (.int c1)]) rfl ?_
    refine XS.iinc X8.here hx rfl (hb hby d0_35) rfl (l' := #[.val (.ref b), .val (.int (2 : Int32)), .val (.ref d), .val (.int (2 : Int32)), .val (.int (2 : Int32)), .val (.int (1 : Int32)), .val (.int c1)]) rfl ?_
    refine XS.iinc X8.here hx rfl (hb hby d0_38) rfl (l' := #[.val (.ref b), .val (.int (2 : Int32)), .val (.ref d), .val (.int (2 : Int32)), .val (.int (2 : Int32)), .val (.int (2 : Int32)), .val (.int c1)]) rfl ?_
    refine XS.goto X8.here hx rfl (pc0 := 41) (pc' := 3) rfl (hb hby d0_41) (by decide) (by decide) ?_
    refine XS.iload X8.here hx rfl (hb hby d0_3) rfl ?_
    show Steps p.tables e below (T8.setTop (mkF m 5 #[.val (.ref b), .val (.int (2 : Int32)), .val (.ref d), .val (.int (2 : Int32)), .val (.int (2 : Int32)), .val (.int (2 : Int32)), .val (.int c1)] [(.int (2 : Int32))])) _
    refine XS.iload X8.here hx rfl (hb hby d0_5) rfl ?_
    refine XS.icmpYes X8.here hx rfl (pc0 := 7) (pc' := 44) rfl (hb hby d0_7) rfl (flt ((by decide) : ¬ ((2 : Int32) < (2 : Int32)))).2.1 (by decide) (by decide) ?_
    refine XS.iload X8.here hx rfl (hb hby d0_44) rfl ?_
    exact kt
  obtain ⟨fs, hr, hrun, hended, hW, hsame⟩ := X8.leave (v := some (.int (2 : Int32))) (fun h => by rw [Bd.returns] at h; cases h)
  have f13 := (Exa.wr W8 (Exa.wr W2 E_d))
  refine ⟨_, _, pre0 _ (S12 _ ?_), hrun, hended, _, _, rfl, ?_, ⟨_, rfl⟩, hW, hsame.mono (by decide) (by decide)⟩
  · exact retOut X8 hx Bd.returns rfl (Or.inl ⟨rfl, Or.inl rfl, _, rfl⟩) (hb hby d0_46) hr
  · show Q_rm_cpb2 Z b kb d kd c0 c1 h0 n0 _ T8.heap _
    rw [e8]
    exact ⟨rfl, N11, K10, f13, F8⟩
theorem ef_rm_cp2 (m : MethodId) (x0 : Addr) (x1 : Int32) (x2 : Int32) : entryFrame m #[(.ref x0), (.int x1), (.int x2)] 6 = mkF m 0 #[.val (.ref x0), .val (.int x1), .val (.int x2), .unset, .unset, .unset] [] := by first | (simp [entryFrame, mkF, argsToLocals, Value.category]; done) | rfl
def Q_rm_cp2 (Z : State) (b : Addr) (kb : ClassId) (c0 : Int32) (c1 : Int32) (h0 : Heap) (n0 : Nat) (v : Option Value) (h : Heap) (L : List Loc) : Prop := (∃ (r : Addr) (kr : ClassId), (v = some (.ref r)) ∧ (Fr n0 L) ∧ (Keep h0 h []) ∧ (h0.size ≤ r) ∧ (Exa Z h r "[B") ∧ (Arv Z h r kr .byte (2 : Int32) [(.int c0.toInt8.toInt32), (.int c1.toInt8.toInt32)] (.int (0 : Int32))))
set_option maxRecDepth 65536 in
set_option maxHeartbeats 40000000 in
theorem rm_cp2 (l : Launch) (Z : State) (a0 : Array Value) (hw : ∀ d ∈ tables_1, d.before a0 Z = true) (ws : List Jvm.Cond) (b : Addr) (kb : ClassId) (c0 : Int32) (c1 : Int32) (h0 : Heap) (n0 : Nat) (O0 : Old Z n0 h0) (A_b : Arv Z h0 b kb .char (2 : Int32) [(.int c0), (.int c1)] (.int (0 : Int32))) (la_c0 : ¬ (c0 < (0 : Int32)) ∧ ¬ ((255 : Int32) < c0)) (la_c1 : ¬ (c1 < (0 : Int32)) ∧ ¬ ((255 : Int32) < c1)) :
    MetFree l (⟨"java/lang/StringUTF16", "compress", "([CII)[B"⟩ : MethodName) (head1 (Jvm.Cond.code (⟨"java/lang/StringUTF16", "compress", "([CII)[B"⟩ : MethodName) jdk_52_method_16_code 6 (some (.array .byte)) :: ws) ({ frames := 1, cells := 1, slots := 2, locals := 18 } : Room)) (fun a U => a = #[(.ref b), (.int (0 : Int32)), (.int (2 : Int32))] ∧ Z.Warmed39 U.vm ∧ U.heap = h0) (fun _ _ _ _ _ => True) (fun _ U o U' => ∃ v L, o = .returned v ∧ Q_rm_cp2 Z b kb c0 c1 h0 n0 v U'.heap L ∧ FrameEnd U o U' L ({ frames := 1, cells := 1, slots := 2, locals := 18 } : Room).cells ({ frames := 1, cells := 1, slots := 2, locals := 18 } : Room).slots) := by
  refine MetFree.of_bodySF (plainFor_of_name pn_0) hisR ?_
  intro p e s m args below meth c s₁ Bd hml0 hP hK
  obtain ⟨rfl, hZ, hh⟩ := hP
  have hx := Bd.exec
  have hby := Bd.bytes
  have hml : c.maxLocals = 6 := hml0
  have hown : s.vm.findClass "java/lang/StringUTF16" = some m.cls := findClass_of_methodNamed Bd.named
  have hnm := (name_of_methodNamed Bd.named Bd.method).1
  have X0 : Stand p l e ({ frames := 1, cells := 1, slots := 2, locals := 18 } : Room) s m #[(.ref b), (.int (0 : Int32)), (.int (2 : Int32))] below meth c s₁ [] 0 0 := Stand.of_body Bd
  have e0 : s₁.heap = h0 := by rw [← hh, Bd.state]; rfl
  have N0 := Fr.nil n0
  have hwl : ∀ d ∈ StrChars.Road.wordsLen, d.before a0 Z = true := fun d hd => hw d (own_wordsLen d hd)
  have hwc : ∀ d ∈ StrChars.Road.wordsChN, d.before a0 Z = true := fun d hd => hw d (own_wordsChN d hd)
  have hwq : ∀ d ∈ StrChars.Road.wordsEq, d.before a0 Z = true := fun d hd => hw d (own_wordsEq d hd)
  have K0 : Keep h0 h0 [] := Keep.refl _ _
  have pre0 : ∀ t, Steps p.tables e below (s₁.setTop (mkF m 0 #[.val (.ref b), .val (.int (0 : Int32)), .val (.int (2 : Int32)), .unset, .unset, .unset] [])) t → Steps p.tables e below (s₁.setTop (entryFrame m #[(.ref b), (.int (0 : Int32)), (.int (2 : Int32))] 6)) t := fun t k => castTop (ef_rm_cp2 m b (0 : Int32) (2 : Int32)) k
  obtain ⟨T1, h1, k1, X1, e1, E1, A1, B1, st1⟩ := newPE X0 hx hZ (own_w hw 19 rfl) e0 (g := (mkF m 1 #[.val (.ref b), .val (.int (0 : Int32)), .val (.int (2 : Int32)), .unset, .unset, .unset] [(.int (2 : Int32))])) rfl (hb hby d1_1) rfl (by decide) (cap := 2) (by decide) (by decide) (by decide) (by decide) (ad := "[B") (by first | rfl | decide)
  obtain ⟨b1, g1⟩ : ∃ z, z = h0.size := ⟨_, rfl⟩
  have ge_b1 : n0 ≤ b1 := by rw [g1, ← O0.1]; exact O0.2.1
  have sz_b1 : h0.size ≤ b1 := by rw [g1]; exact K0.1
  have ne2 : b ≠ b1 := Nat.ne_of_lt (Nat.lt_of_lt_of_le (Arv.lt A_b) (Nat.le_of_eq g1.symm))
  rw [← g1] at A1 B1 st1
  have O3 := O0.ext E1
  have K4 : Keep h0 h1 [] := K0.ext E1
  have F1 : Arv Z h1 b1 k1 .byte (2 : Int32) [(.int (0 : Int32)), (.int (0 : Int32))] (.int (0 : Int32)) := (Arv.new A1 (by decide)).pad (pad_rep [] (.int (0 : Int32)) 2)
  have f6 := (Arv.ext A_b E1)
  obtain ⟨_, _, ⟨T5, L5, k5, n5⟩, -, X5, ⟨Lc5, hQ5, l5, y5, z5⟩, st5⟩ := Jvm.LawKit.callS X1 hx (y := (⟨"java/lang/StringUTF16", "compress", "([CI[BII)I"⟩ : MethodName)) hown (mvT hZ (own_w hw 93 rfl)) (mvT hZ (own_w hw 94 rfl)) (mvT hZ (own_w hw 91 rfl)) (mvT hZ (own_w hw 95 rfl)) (by decide) (backOf (W := 0) (rm_cpb2 l Z a0 hw [] b kb b1 k1 c0 c1 h1 n0 O3 f6 B1 F1 ge_b1 ne2 la_c0 la_c1) hZ (own_w hw 95 rfl) (own_w hw 91 rfl) (by decide) (by decide)) (g := (mkF m 9 #[.val (.ref b), .val (.int (0 : Int32)), .val (.int (2 : Int32)), .val (.ref b1), .unset, .unset] [(.int (2 : Int32)), (.int (0 : Int32)), (.ref b1), (.int (0 : Int32)), (.ref b)])) rfl (by rw [hml]; rfl) (argsL := [(.ref b), (.int (0 : Int32)), (.ref b1), (.int (0 : Int32)), (.int (2 : Int32))]) (rest := []) (lenOf pd_0 rfl) rfl (by show 2 * 0 + _ ≤ _; exact Nat.le_of_eq rfl) (hb hby d1_9) (fun _ _ => ⟨rfl, e1, (by decide : 1 + 0 ≤ _), (by decide : 2 + 0 ≤ _)⟩)
  dsimp only [Pt.U, Pt.locs, Pt.cells, Pt.slots] at X5 l5 y5 z5 st5 hQ5
  subst l5 y5 z5
  obtain ⟨rfl, N7, k8, f9, f10⟩ := hQ5
  have N11 := Fr.app N0 N7
  have O12 := O3.keep k8 (allS ge_b1 all0)
  have K13 : Keep h0 T5.heap [] := K4.trans k8 (allS (Or.inr sz_b1) all0)
  have S14 : ∀ t, Steps p.tables e below (T5.setTop (mkF m 58 #[.val (.ref b), .val (.int (0 : Int32)), .val (.int (2 : Int32)), .val (.ref b1), .val (.int (2 : Int32)), .unset] [(.ref b1)])) t → Steps p.tables e below (s₁.setTop (mkF m 0 #[.val (.ref b), .val (.int (0 : Int32)), .val (.int (2 : Int32)), .unset, .unset, .unset] [])) t := by
    intro t kt
    refine XS.iloadN X0.here hx rfl (hb hby d1_0) rfl ?_
    show Steps p.tables e below (s₁.setTop (mkF m 1 #[.val (.ref b), .val (.int (0 : Int32)), .val (.int (2 : Int32)), .unset, .unset, .unset] [(.int (2 : Int32))])) _
    refine st1 _ ?_
    refine XS.astoreN X1.here hx rfl (hb hby d1_3) rfl rfl (l' := #[.val (.ref b), .val (.int (0 : Int32)), .val (.int (2 : Int32)), .val (.ref b1), .unset, .unset]) rfl ?_
    refine XS.aloadN X1.here hx rfl (hb hby d1_4) rfl rfl ?_
    refine XS.iloadN X1.here hx rfl (hb hby d1_5) rfl ?_
    refine XS.aloadN X1.here hx rfl (hb hby d1_6) rfl rfl ?_
    refine XS.iconst X1.here hx rfl (hb hby d1_7) ?_
    show Steps p.tables e below (T1.setTop (mkF m 8 #[.val (.ref b), .val (.int (0 : Int32)), .val (.int (2 : Int32)), .val (.ref b1), .unset, .unset] [(.int (0 : Int32)), (.ref b1), (.int (0 : Int32)), (.ref b)])) _
    refine XS.iloadN X1.here hx rfl (hb hby d1_8) rfl ?_
    show Steps p.tables e below (T1.setTop (mkF m 9 #[.val (.ref b), .val (.int (0 : Int32)), .val (.int (2 : Int32)), .val (.ref b1), .unset, .unset] [(.int (2 : Int32)), (.int (0 : Int32)), (.ref b1), (.int (0 : Int32)), (.ref b)])) _
    refine st5 _ ?_
    refine XS.istore X5.here hx rfl (hb hby d1_12) rfl (l' := #[.val (.ref b), .val (.int (0 : Int32)), .val (.int (2 : Int32)), .val (.ref b1), .val (.int (2 : Int32)), .unset]) rfl ?_
    refine XS.iload X5.here hx rfl (hb hby d1_14) rfl ?_
    refine XS.iloadN X5.here hx rfl (hb hby d1_16) rfl ?_
    refine XS.icmpYes X5.here hx rfl (pc0 := 17) (pc' := 57) rfl (hb hby d1_17) rfl (teq ((by decide) : (2 : Int32) = (2 : Int32))).1 (by decide) (by decide) ?_
    refine XS.aloadN X5.here hx rfl (hb hby d1_57) rfl rfl ?_
    exact kt
  obtain ⟨fs, hr, hrun, hended, hW, hsame⟩ := X5.leave (v := some (.ref b1)) (fun h => by rw [Bd.returns] at h; cases h)
  refine ⟨_, _, pre0 _ (S14 _ ?_), hrun, hended, _, _, rfl, ?_, ⟨_, rfl⟩, hW, hsame.mono (by decide) (by decide)⟩
  · exact retOut X5 hx Bd.returns rfl (Or.inr (Or.inr (Or.inr (Or.inr ⟨rfl, rfl, rfl⟩)))) (hb hby d1_58) hr
  · show Q_rm_cp2 Z b kb c0 c1 h0 n0 _ T5.heap _
    exact ⟨b1, k1, rfl, N11, K13, sz_b1, f9, f10⟩
theorem ef_rm_cf2 (m : MethodId) (x0 : Addr) (x1 : Int32) : entryFrame m #[(.ref x0), (.int x1)] 2 = mkF m 0 #[.val (.ref x0), .val (.int x1)] [] := by first | (simp [entryFrame, mkF, argsToLocals, Value.category]; done) | rfl
def Q_rm_cf2 (Z : State) (d : Addr) (kd : ClassId) (c0 : Int32) (c1 : Int32) (h0 : Heap) (n0 : Nat) (v : Option Value) (h : Heap) (L : List Loc) : Prop := ((v = some (.int (0 : Int32))) ∧ (Fr n0 L) ∧ (h = h0))
set_option maxRecDepth 65536 in
set_option maxHeartbeats 40000000 in
theorem rm_cf2 (l : Launch) (Z : State) (a0 : Array Value) (hw : ∀ d ∈ tables_1, d.before a0 Z = true) (ws : List Jvm.Cond) (d : Addr) (kd : ClassId) (c0 : Int32) (c1 : Int32) (h0 : Heap) (n0 : Nat) (O0 : Old Z n0 h0) (A_d : Arv Z h0 d kd .byte (2 : Int32) [(.int c0.toInt8.toInt32), (.int c1.toInt8.toInt32)] (.int (0 : Int32))) :
    MetFree l (⟨"java/lang/StringUTF16", "coderFromArrayLen", "([BI)B"⟩ : MethodName) (head1 (Jvm.Cond.code (⟨"java/lang/StringUTF16", "coderFromArrayLen", "([BI)B"⟩ : MethodName) jdk_52_method_15_code 2 (some .byte) :: ws) ({ frames := 0, cells := 0, slots := 0, locals := 0 } : Room)) (fun a U => a = #[(.ref d), (.int (2 : Int32))] ∧ Z.Warmed39 U.vm ∧ U.heap = h0) (fun _ _ _ _ _ => True) (fun _ U o U' => ∃ v L, o = .returned v ∧ Q_rm_cf2 Z d kd c0 c1 h0 n0 v U'.heap L ∧ FrameEnd U o U' L ({ frames := 0, cells := 0, slots := 0, locals := 0 } : Room).cells ({ frames := 0, cells := 0, slots := 0, locals := 0 } : Room).slots) := by
  refine MetFree.of_bodySF (plainFor_of_name pn_0) hisR ?_
  intro p e s m args below meth c s₁ Bd hml0 hP hK
  obtain ⟨rfl, hZ, hh⟩ := hP
  have hx := Bd.exec
  have hby := Bd.bytes
  have hml : c.maxLocals = 2 := hml0
  have hown : s.vm.findClass "java/lang/StringUTF16" = some m.cls := findClass_of_methodNamed Bd.named
  have hnm := (name_of_methodNamed Bd.named Bd.method).1
  have X0 : Stand p l e ({ frames := 0, cells := 0, slots := 0, locals := 0 } : Room) s m #[(.ref d), (.int (2 : Int32))] below meth c s₁ [] 0 0 := Stand.of_body Bd
  have e0 : s₁.heap = h0 := by rw [← hh, Bd.state]; rfl
  have N0 := Fr.nil n0
  have hwl : ∀ d ∈ StrChars.Road.wordsLen, d.before a0 Z = true := fun d hd => hw d (own_wordsLen d hd)
  have hwc : ∀ d ∈ StrChars.Road.wordsChN, d.before a0 Z = true := fun d hd => hw d (own_wordsChN d hd)
  have hwq : ∀ d ∈ StrChars.Road.wordsEq, d.before a0 Z = true := fun d hd => hw d (own_wordsEq d hd)
  have pre0 : ∀ t, Steps p.tables e below (s₁.setTop (mkF m 0 #[.val (.ref d), .val (.int (2 : Int32))] [])) t → Steps p.tables e below (s₁.setTop (entryFrame m #[(.ref d), (.int (2 : Int32))] 2)) t := fun t k => castTop (ef_rm_cf2 m d (2 : Int32)) k
  obtain ⟨cl1, Ar1, -, Sz1, Nn1, -, -⟩ := id A_d
  have S2 : ∀ t, Steps p.tables e below (s₁.setTop (mkF m 8 #[.val (.ref d), .val (.int (2 : Int32))] [(.int (0 : Int32))])) t → Steps p.tables e below (s₁.setTop (mkF m 0 #[.val (.ref d), .val (.int (2 : Int32))] [])) t := by
    intro t kt
    refine XS.iloadN X0.here hx rfl (hb hby d2_0) rfl ?_
    refine XS.aloadN X0.here hx rfl (hb hby d2_1) rfl rfl ?_
    show Steps p.tables e below (s₁.setTop (mkF m 2 #[.val (.ref d), .val (.int (2 : Int32))] [(.ref d), (.int (2 : Int32))])) _
    refine X0.arraylength hx (by rw [e0]; exact Ar1.1) (State.isArrayOf_alike hZ.alike Ar1.2.1) (g := (mkF m 2 #[.val (.ref d), .val (.int (2 : Int32))] [(.ref d), (.int (2 : Int32))])) rfl rfl (hb hby d2_2) _ ?_
    rw [len_of Sz1 Nn1]
    refine XS.isub X0.here hx rfl (hb hby d2_3) rfl ?_
    refine XS.bipush X0.here hx rfl (hb hby d2_4) ?_
    refine XS.iushr X0.here hx rfl (hb hby d2_6) rfl ?_
    change Steps p.tables e below (s₁.setTop (mkF m 7 #[.val (.ref d), .val (.int (2 : Int32))] [(.int (((0 : Int32).toUInt32 >>> ((31 : Int32) &&& 31).toUInt32).toInt32))])) _
    rw [show (((0 : Int32).toUInt32 >>> ((31 : Int32) &&& 31).toUInt32).toInt32) = (0 : Int32) from by decide]
    refine XS.i2b X0.here hx rfl (hb hby d2_7) rfl ?_
    change Steps p.tables e below (s₁.setTop (mkF m 8 #[.val (.ref d), .val (.int (2 : Int32))] [(.int ((0 : Int32).toInt8.toInt32))])) _
    rw [show (0 : Int32).toInt8.toInt32 = (0 : Int32) from by decide]
    exact kt
  obtain ⟨fs, hr, hrun, hended, hW, hsame⟩ := X0.leave (v := some (.int (0 : Int32))) (fun h => by rw [Bd.returns] at h; cases h)
  refine ⟨_, _, pre0 _ (S2 _ ?_), hrun, hended, _, _, rfl, ?_, ⟨_, rfl⟩, hW, hsame.mono (by decide) (by decide)⟩
  · exact retN X0 hx (t := .byte) Bd.returns (by simp) (hb hby d2_8) hr
  · show Q_rm_cf2 Z d kd c0 c1 h0 n0 _ s₁.heap _
    rw [e0]
    exact ⟨rfl, N0, rfl⟩
theorem d3_0 : decode jdk_42_method_149_code 0 = .ok (.aload_n 0, 1) := by decide +kernel
theorem d3_1 : decode jdk_42_method_149_code 1 = .ok (.invokespecial 1, 3) := by decide +kernel
theorem d3_4 : decode jdk_42_method_149_code 4 = .ok (.iload_n 3, 1) := by decide +kernel
theorem d3_5 : decode jdk_42_method_149_code 5 = .ok (.ifCond .ne 22, 3) := by decide +kernel
theorem d3_8 : decode jdk_42_method_149_code 8 = .ok (.aload_n 0, 1) := by decide +kernel
theorem d3_9 : decode jdk_42_method_149_code 9 = .ok (.ldc 7, 2) := by decide +kernel
theorem d3_11 : decode jdk_42_method_149_code 11 = .ok (.getfield 9, 3) := by decide +kernel
theorem d3_14 : decode jdk_42_method_149_code 14 = .ok (.putfield 9, 3) := by decide +kernel
theorem d3_17 : decode jdk_42_method_149_code 17 = .ok (.aload_n 0, 1) := by decide +kernel
theorem d3_18 : decode jdk_42_method_149_code 18 = .ok (.ldc 7, 2) := by decide +kernel
theorem d3_20 : decode jdk_42_method_149_code 20 = .ok (.getfield 15, 3) := by decide +kernel
theorem d3_23 : decode jdk_42_method_149_code 23 = .ok (.putfield 15, 3) := by decide +kernel
theorem d3_26 : decode jdk_42_method_149_code 26 = .ok (.return_, 1) := by decide +kernel
theorem pn_1 : plainName "java/lang/String" = true := by first | (simp [plainName, overriddenIn]; done) | decide +kernel
theorem ef_rm_siv0 (m : MethodId) (x0 : Addr) (x1 : Addr) (x2 : Int32) (x3 : Int32) : entryFrame m #[(.ref x0), (.ref x1), (.int x2), (.int x3), .null] 6 = mkF m 0 #[.val (.ref x0), .val (.ref x1), .val (.int x2), .val (.int x3), .val .null, .unset] [] := by first | (simp [entryFrame, mkF, argsToLocals, Value.category]; done) | rfl
def Q_rm_siv0 (Z : State) (x : Addr) (b : Addr) (h0 : Heap) (n0 : Nat) (v : Option Value) (h : Heap) (L : List Loc) : Prop := (∃ (tb : Addr) (kt : ClassId), (v = none) ∧ (Fr n0 L) ∧ (Keep h0 h [x]) ∧ (Exa Z h x "java/lang/String") ∧ (Fld Z h x "java/lang/String" "value" "[B" (.ref tb)) ∧ (Fld Z h x "java/lang/String" "coder" "B" (.int (0 : Int32))) ∧ (Fld Z h x "java/lang/String" "hash" "I" (.int (0 : Int32))) ∧ (Fld Z h x "java/lang/String" "hashIsZero" "Z" (.int (0 : Int32))) ∧ (Exa Z h tb "[B") ∧ (Arv Z h tb kt .byte (0 : Int32) [] (.int (0 : Int32))))
set_option maxRecDepth 65536 in
set_option maxHeartbeats 40000000 in
theorem rm_siv0 (l : Launch) (Z : State) (a0 : Array Value) (hw : ∀ d ∈ tables_1, d.before a0 Z = true) (ws : List Jvm.Cond) (x : Addr) (b : Addr) (h0 : Heap) (n0 : Nat) (O0 : Old Z n0 h0) (E_x : Exa Z h0 x "java/lang/String") (V_x : Fld Z h0 x "java/lang/String" "value" "[B" .null) (C_x : Fld Z h0 x "java/lang/String" "coder" "B" (.int (0 : Int32))) (H_x : Fld Z h0 x "java/lang/String" "hash" "I" (.int (0 : Int32))) (Z_x : Fld Z h0 x "java/lang/String" "hashIsZero" "Z" (.int (0 : Int32))) (g_x : n0 ≤ x) :
    MetFree l (⟨"java/lang/String", "<init>", "([CIILjava/lang/Void;)V"⟩ : MethodName) (head1 (Jvm.Cond.code (⟨"java/lang/String", "<init>", "([CIILjava/lang/Void;)V"⟩ : MethodName) jdk_42_method_149_code 6 none :: ws) ({ frames := 1, cells := 4, slots := 8, locals := 12 } : Room)) (fun a U => a = #[(.ref x), (.ref b), (.int (0 : Int32)), (.int (0 : Int32)), .null] ∧ Z.Warmed39 U.vm ∧ U.heap = h0 ∧ CHv Z own_EL U.vm h0 ∧ ∀ own_y ∈ ([x] : List Addr), Safe Z own_EL U.vm h0 own_y) (fun _ _ _ _ _ => True) (fun _ U o U' => ∃ v L, o = .returned v ∧ Q_rm_siv0 Z x b h0 n0 v U'.heap L ∧ CHr Z own_EL U.vm U.heap U'.vm U'.heap ∧ ReturnedEndW U o U' L ({ frames := 1, cells := 4, slots := 8, locals := 12 } : Room).cells ({ frames := 1, cells := 4, slots := 8, locals := 12 } : Room).slots) := by
  refine MetFree.of_bodySF (plainFor_of_name pn_1) hisR ?_
  intro p e s m args below meth c s₁ Bd hml0 hP hK
  obtain ⟨rfl, hZ, hh, hCH, hSf⟩ := hP
  have hx := Bd.exec
  have hby := Bd.bytes
  have hml : c.maxLocals = 6 := hml0
  have hown : s.vm.findClass "java/lang/String" = some m.cls := findClass_of_methodNamed Bd.named
  have hnm := (name_of_methodNamed Bd.named Bd.method).1
  have X0 : Stand p l e ({ frames := 1, cells := 4, slots := 8, locals := 12 } : Room) (s.setVm s.vm) m #[(.ref x), (.ref b), (.int (0 : Int32)), (.int (0 : Int32)), .null] below meth c s₁ [] 0 0 := Stand.of_body Bd
  have e0 : s₁.heap = h0 := by rw [← hh, Bd.state]; rfl
  have N0 := Fr.nil n0
  have hZ0 := hZ
  have ho0 := hown
  have hS0 : s.Since s.vm 0 := (State.WarmedH.refl s).since 0
  have hk0 : 0 ≤ h0.size := Nat.zero_le _
  have CR0 : CHr Z own_EL s.vm h0 s.vm h0 := CHr.refl hCH
  have own_at : ∀ d ∈ Bundle.stringAtoms, d.before a0 Z = true := fun d hd => hw d (own_atoms d hd)
  have own_ew : EW Z a0 own_EL := own_EWof hw
  have hwl : ∀ d ∈ StrChars.Road.wordsLen, d.before a0 Z = true := fun d hd => hw d (own_wordsLen d hd)
  have hwc : ∀ d ∈ StrChars.Road.wordsChN, d.before a0 Z = true := fun d hd => hw d (own_wordsChN d hd)
  have hwq : ∀ d ∈ StrChars.Road.wordsEq, d.before a0 Z = true := fun d hd => hw d (own_wordsEq d hd)
  have K0 : Keep h0 h0 [x] := Keep.refl _ _
  have pre0 : ∀ t, Steps p.tables e below (s₁.setTop (mkF m 0 #[.val (.ref x), .val (.ref b), .val (.int (0 : Int32)), .val (.int (0 : Int32)), .val .null, .unset] [])) t → Steps p.tables e below (s₁.setTop (entryFrame m #[(.ref x), (.ref b), (.int (0 : Int32)), (.int (0 : Int32)), .null] 6)) t := fun t k => castTop (ef_rm_siv0 m x b (0 : Int32) (0 : Int32)) k
  obtain ⟨T1, X1, e1, st1⟩ := initO X0 hx hZ0 ho0 (own_w hw 15 rfl) (own_w hw 16 rfl) (own_w hw 17 rfl) e0 (g := (mkF m 1 #[.val (.ref x), .val (.ref b), .val (.int (0 : Int32)), .val (.int (0 : Int32)), .val .null, .unset] [(.ref x)])) rfl (by rw [hml]; rfl) rfl (hb hby d3_1) (by decide) (W := 0) (by show 2 * 0 + _ ≤ _; exact Nat.le_of_eq rfl) (by decide)
  obtain ⟨x2, T2, h2, q2, y2, j2, X2, e2, E2, hS2, hk2, hZ2, ho2, fE2, fC2, fV2, fA2, la2, lb2, C2, fB2, ns2, st2⟩ := own_ldcC X1 hx hZ0 ho0 (own_w hw 18 rfl) own_at e1 hS0 hk0 own_ew (by decide) CR0.1 (vs := []) (z := (0 : Int32)) ⟨by decide, by decide +kernel⟩ (by decide) rfl (g := (mkF m 9 #[.val (.ref x), .val (.ref b), .val (.int (0 : Int32)), .val (.int (0 : Int32)), .val .null, .unset] [(.ref x)])) rfl (hb hby d3_9) (n := 0) (by decide) (by decide) (by decide) (by decide)
  have sf3 := CHr.safe C2 (Exa.lt E_x) (hSf _ (List.mem_of_getElem? (i := 0) rfl))
  have O4 := O0.ext E2
  have K5 : Keep h0 h2 [x] := K0.ext E2
  have CR6 := CR0.trans C2
  obtain ⟨ne7, ne8⟩ := ns2 x sf3
  obtain ⟨T9, X9, e9, st9⟩ := getF X2 hx hZ2 ho2 (host := "") (Or.inl (own_w hw 24 rfl)) Via.refl e2 fV2 (g := (mkF m 11 #[.val (.ref x), .val (.ref b), .val (.int (0 : Int32)), .val (.int (0 : Int32)), .val .null, .unset] [(.ref x2), (.ref x)])) rfl rfl (hb hby d3_11)
  have f10 := (Fld.ext E2 V_x)
  have f11 := (Exa.ext E2 E_x)
  obtain ⟨T12, h12, X12, e12, W12, st12⟩ := putF X9 hx hZ2 ho2 (host := "") (Or.inl (own_w hw 24 rfl)) Via.refl e9 f10 f11 (Or.inr ⟨(own_w hw 20 rfl), rfl, hnm⟩) (own_w hw 6 rfl) (ty := (.array .byte)) (by decide) rfl rfl (g := (mkF m 14 #[.val (.ref x), .val (.ref b), .val (.int (0 : Int32)), .val (.int (0 : Int32)), .val .null, .unset] [(.ref y2), (.ref x)])) rfl rfl (hb hby d3_14)
  have CR13 := CR6.trans (CHr.wr W12 sf3 CR6.1)
  have hk14 := Nat.le_trans hk2 (Keep.of_wr W12).1
  have sf15 := Safe.wr W12 sf3 CR6.1 sf3
  have O16 := O4.wr W12 g_x
  have K17 : Keep h0 h12 [x] := K5.wr W12 (Or.inl (List.mem_of_getElem? (i := 0) rfl))
  have N18 := Fr.snoc X12 N0 g_x
  have F12 : Fld Z h12 x "java/lang/String" "value" "[B" (.ref y2) := Fld.same W12 f10
  obtain ⟨x19, T19, h19, q19, y19, j19, X19, e19, E19, hS19, hk19, hZ19, ho19, fE19, fC19, fV19, fA19, la19, lb19, C19, fB19, ns19, st19⟩ := own_ldcC X12 hx hZ2 ho2 (own_w hw 18 rfl) own_at e12 hS2 hk14 own_ew (by decide) CR13.1 (vs := []) (z := (0 : Int32)) ⟨by decide, by decide +kernel⟩ (by decide) rfl (g := (mkF m 18 #[.val (.ref x), .val (.ref b), .val (.int (0 : Int32)), .val (.int (0 : Int32)), .val .null, .unset] [(.ref x)])) rfl (hb hby d3_18) (n := 0) (by decide) (by decide) (by decide) (by decide)
  have f20 := (Exa.wr W12 fE2)
  have f21 := (Exa.wr W12 f11)
  have f22 := (Arv.other fA2 W12 (Ne.symm ne8))
  have sf23 := CHr.safe C19 (Exa.lt f21) sf15
  have O24 := O16.ext E19
  have K25 : Keep h0 h19 [x] := K17.ext E19
  have CR26 := CR13.trans C19
  obtain ⟨ne27, ne28⟩ := ns19 x sf23
  obtain ⟨T29, X29, e29, st29⟩ := getF X19 hx hZ19 ho19 (host := "") (Or.inl (own_w hw 25 rfl)) Via.refl e19 fC19 (g := (mkF m 20 #[.val (.ref x), .val (.ref b), .val (.int (0 : Int32)), .val (.int (0 : Int32)), .val .null, .unset] [(.ref x19), (.ref x)])) rfl rfl (hb hby d3_20)
  have f30 := (Fld.ext E19 (Fld.other W12 (Fld.ext E2 C_x) (Or.inr (slot_ne (Or.inr (own_w hw 21 rfl)) (Or.inr (own_w hw 20 rfl)) (by decide) (t := .byte) (t' := (.array .byte)) (by decide) (by decide)))))
  have f31 := (Exa.ext E19 f21)
  obtain ⟨T32, h32, X32, e32, W32, st32⟩ := putFN X29 hx hZ19 ho19 (own_w hw 25 rfl) Via.refl e29 f30 f31 (Or.inr ⟨(own_w hw 21 rfl), rfl, hnm⟩) (own_w hw 6 rfl) (ty := .byte) (v' := (.int (0 : Int32))) (by decide) rfl rfl (g := (mkF m 23 #[.val (.ref x), .val (.ref b), .val (.int (0 : Int32)), .val (.int (0 : Int32)), .val .null, .unset] [(.int (0 : Int32)), (.ref x)])) rfl rfl (hb hby d3_23)
  have CR33 := CR26.trans (CHr.wr W32 sf23 CR26.1)
  have hk34 := Nat.le_trans hk19 (Keep.of_wr W32).1
  have sf35 := Safe.wr W32 sf23 CR26.1 sf23
  have O36 := O24.wr W32 g_x
  have K37 : Keep h0 h32 [x] := K25.wr W32 (Or.inl (List.mem_of_getElem? (i := 0) rfl))
  have N38 := Fr.snoc X32 N18 g_x
  have F32 : Fld Z h32 x "java/lang/String" "coder" "B" (.int (0 : Int32)) := Fld.same W32 f30
  have S39 : ∀ t, Steps p.tables e below (T32.setTop (mkF m 26 #[.val (.ref x), .val (.ref b), .val (.int (0 : Int32)), .val (.int (0 : Int32)), .val .null, .unset] [])) t → Steps p.tables e below (s₁.setTop (mkF m 0 #[.val (.ref x), .val (.ref b), .val (.int (0 : Int32)), .val (.int (0 : Int32)), .val .null, .unset] [])) t := by
    intro t kt
    refine XS.aloadN X0.here hx rfl (hb hby d3_0) rfl rfl ?_
    show Steps p.tables e below (s₁.setTop (mkF m 1 #[.val (.ref x), .val (.ref b), .val (.int (0 : Int32)), .val (.int (0 : Int32)), .val .null, .unset] [(.ref x)])) _
    refine st1 _ ?_
    refine XS.iloadN X1.here hx rfl (hb hby d3_4) rfl ?_
    refine XS.ifNo X1.here hx rfl (hb hby d3_5) rfl ((if0 _ _).trans (teq ((by decide) : (0 : Int32) = (0 : Int32))).2) ?_
    refine XS.aloadN X1.here hx rfl (hb hby d3_8) rfl rfl ?_
    show Steps p.tables e below (T1.setTop (mkF m 9 #[.val (.ref x), .val (.ref b), .val (.int (0 : Int32)), .val (.int (0 : Int32)), .val .null, .unset] [(.ref x)])) _
    refine st2 _ ?_
    show Steps p.tables e below (T2.setTop (mkF m 11 #[.val (.ref x), .val (.ref b), .val (.int (0 : Int32)), .val (.int (0 : Int32)), .val .null, .unset] [(.ref x2), (.ref x)])) _
    refine st9 _ ?_
    show Steps p.tables e below (T9.setTop (mkF m 14 #[.val (.ref x), .val (.ref b), .val (.int (0 : Int32)), .val (.int (0 : Int32)), .val .null, .unset] [(.ref y2), (.ref x)])) _
    refine st12 _ ?_
    refine XS.aloadN X12.here hx rfl (hb hby d3_17) rfl rfl ?_
    show Steps p.tables e below (T12.setTop (mkF m 18 #[.val (.ref x), .val (.ref b), .val (.int (0 : Int32)), .val (.int (0 : Int32)), .val .null, .unset] [(.ref x)])) _
    refine st19 _ ?_
    show Steps p.tables e below (T19.setTop (mkF m 20 #[.val (.ref x), .val (.ref b), .val (.int (0 : Int32)), .val (.int (0 : Int32)), .val .null, .unset] [(.ref x19), (.ref x)])) _
    refine st29 _ ?_
    show Steps p.tables e below (T29.setTop (mkF m 23 #[.val (.ref x), .val (.ref b), .val (.int (0 : Int32)), .val (.int (0 : Int32)), .val .null, .unset] [(.int (0 : Int32)), (.ref x)])) _
    refine st32 _ ?_
    exact kt
  obtain ⟨fs, hr, hrun, hended, hRW⟩ := X32.leaveW hS19 (by rw [e32]; exact hk34) (v := none) (fun _ => rfl)
  have f40 := (Exa.wr W32 f31)
  have f41 := (Fld.other W32 (Fld.ext E19 F12) (Or.inr (slot_ne (Or.inr (own_w hw 20 rfl)) (Or.inr (own_w hw 21 rfl)) (by decide) (t := (.array .byte)) (t' := .byte) (by decide) (by decide))))
  have f42 := (Fld.other W32 (Fld.ext E19 (Fld.other W12 (Fld.ext E2 H_x) (Or.inr (slot_ne (Or.inl (own_w hw 45 rfl)) (Or.inr (own_w hw 20 rfl)) (by decide) (t := .int) (t' := (.array .byte)) (by decide) (by decide))))) (Or.inr (slot_ne (Or.inl (own_w hw 45 rfl)) (Or.inr (own_w hw 21 rfl)) (by decide) (t := .int) (t' := .byte) (by decide) (by decide))))
  have f43 := (Fld.other W32 (Fld.ext E19 (Fld.other W12 (Fld.ext E2 Z_x) (Or.inr (slot_ne (Or.inl (own_w hw 47 rfl)) (Or.inr (own_w hw 20 rfl)) (by decide) (t := .boolean) (t' := (.array .byte)) (by decide) (by decide))))) (Or.inr (slot_ne (Or.inl (own_w hw 47 rfl)) (Or.inr (own_w hw 21 rfl)) (by decide) (t := .boolean) (t' := .byte) (by decide) (by decide))))
  have f44 := (Exa.wr W32 (Exa.ext E19 (Exa.wr W12 fB2)))
  have f45 := (Arv.other (Arv.ext f22 E19) W32 (Ne.symm ne8))
  refine ⟨_, _, pre0 _ (S39 _ ?_), hrun, hended, _, _, rfl, ?_, ?_, hRW.1, hRW.2.1, hRW.2.2.1, hRW.2.2.2.mono (by decide) (by decide)⟩
  · exact X32.returnOut hx Bd.returns (hb hby d3_26) hr
  · show Q_rm_siv0 Z x b h0 n0 _ T32.heap _
    rw [e32]
    exact ⟨y2, j2, rfl, N38, K37, f40, f41, F32, f42, f43, f44, f45⟩
  · show CHr Z own_EL s.vm s.heap T32.vm T32.heap
    rw [hh, e32]
    exact CR33.trans (CHv.at X32 hZ19 own_ew CR33.1)
theorem d4_0 : decode jdk_42_method_3_code 0 = .ok (.aload_n 0, 1) := by decide +kernel
theorem d4_1 : decode jdk_42_method_3_code 1 = .ok (.aload_n 1, 1) := by decide +kernel
theorem d4_2 : decode jdk_42_method_3_code 2 = .ok (.iconst 0, 1) := by decide +kernel
theorem d4_3 : decode jdk_42_method_3_code 3 = .ok (.aload_n 1, 1) := by decide +kernel
theorem d4_4 : decode jdk_42_method_3_code 4 = .ok (.arraylength, 1) := by decide +kernel
theorem d4_5 : decode jdk_42_method_3_code 5 = .ok (.aconst_null, 1) := by decide +kernel
theorem d4_6 : decode jdk_42_method_3_code 6 = .ok (.invokespecial 27, 3) := by decide +kernel
theorem pd_1 : parseMethodDescriptor "([CIILjava/lang/Void;)V" = some ⟨[(.array .char), .int, .int, (.object "java/lang/Void")], none⟩ := by decide +kernel
theorem d4_9 : decode jdk_42_method_3_code 9 = .ok (.return_, 1) := by decide +kernel
theorem ef_rm_sin0 (m : MethodId) (x0 : Addr) (x1 : Addr) : entryFrame m #[(.ref x0), (.ref x1)] 2 = mkF m 0 #[.val (.ref x0), .val (.ref x1)] [] := by first | (simp [entryFrame, mkF, argsToLocals, Value.category]; done) | rfl
def Q_rm_sin0 (Z : State) (x : Addr) (b : Addr) (kb : ClassId) (h0 : Heap) (n0 : Nat) (v : Option Value) (h : Heap) (L : List Loc) : Prop := (∃ (tb : Addr) (kt : ClassId), (v = none) ∧ (Fr n0 L) ∧ (Keep h0 h [x]) ∧ (Exa Z h x "java/lang/String") ∧ (Fld Z h x "java/lang/String" "value" "[B" (.ref tb)) ∧ (Fld Z h x "java/lang/String" "coder" "B" (.int (0 : Int32))) ∧ (Fld Z h x "java/lang/String" "hash" "I" (.int (0 : Int32))) ∧ (Fld Z h x "java/lang/String" "hashIsZero" "Z" (.int (0 : Int32))) ∧ (Exa Z h tb "[B") ∧ (Arv Z h tb kt .byte (0 : Int32) [] (.int (0 : Int32))))
set_option maxRecDepth 65536 in
set_option maxHeartbeats 40000000 in
theorem rm_sin0 (l : Launch) (Z : State) (a0 : Array Value) (hw : ∀ d ∈ tables_1, d.before a0 Z = true) (ws : List Jvm.Cond) (x : Addr) (b : Addr) (kb : ClassId) (h0 : Heap) (n0 : Nat) (O0 : Old Z n0 h0) (E_x : Exa Z h0 x "java/lang/String") (V_x : Fld Z h0 x "java/lang/String" "value" "[B" .null) (C_x : Fld Z h0 x "java/lang/String" "coder" "B" (.int (0 : Int32))) (H_x : Fld Z h0 x "java/lang/String" "hash" "I" (.int (0 : Int32))) (Z_x : Fld Z h0 x "java/lang/String" "hashIsZero" "Z" (.int (0 : Int32))) (g_x : n0 ≤ x) (A_b : Arv Z h0 b kb .char (0 : Int32) [] (.int (0 : Int32))) :
    MetFree l (⟨"java/lang/String", "<init>", "([C)V"⟩ : MethodName) (head1 (Jvm.Cond.code (⟨"java/lang/String", "<init>", "([C)V"⟩ : MethodName) jdk_42_method_3_code 2 none :: ws) ({ frames := 2, cells := 4, slots := 8, locals := 29 } : Room)) (fun a U => a = #[(.ref x), (.ref b)] ∧ Z.Warmed39 U.vm ∧ U.heap = h0 ∧ CHv Z own_EL U.vm h0 ∧ ∀ own_y ∈ ([x] : List Addr), Safe Z own_EL U.vm h0 own_y) (fun _ _ _ _ _ => True) (fun _ U o U' => ∃ v L, o = .returned v ∧ Q_rm_sin0 Z x b kb h0 n0 v U'.heap L ∧ CHr Z own_EL U.vm U.heap U'.vm U'.heap ∧ ReturnedEndW U o U' L ({ frames := 2, cells := 4, slots := 8, locals := 29 } : Room).cells ({ frames := 2, cells := 4, slots := 8, locals := 29 } : Room).slots) := by
  refine MetFree.of_bodySF (plainFor_of_name pn_1) hisR ?_
  intro p e s m args below meth c s₁ Bd hml0 hP hK
  obtain ⟨rfl, hZ, hh, hCH, hSf⟩ := hP
  have hx := Bd.exec
  have hby := Bd.bytes
  have hml : c.maxLocals = 2 := hml0
  have hown : s.vm.findClass "java/lang/String" = some m.cls := findClass_of_methodNamed Bd.named
  have hnm := (name_of_methodNamed Bd.named Bd.method).1
  have X0 : Stand p l e ({ frames := 2, cells := 4, slots := 8, locals := 29 } : Room) (s.setVm s.vm) m #[(.ref x), (.ref b)] below meth c s₁ [] 0 0 := Stand.of_body Bd
  have e0 : s₁.heap = h0 := by rw [← hh, Bd.state]; rfl
  have N0 := Fr.nil n0
  have hZ0 := hZ
  have ho0 := hown
  have hS0 : s.Since s.vm 0 := (State.WarmedH.refl s).since 0
  have hk0 : 0 ≤ h0.size := Nat.zero_le _
  have CR0 : CHr Z own_EL s.vm h0 s.vm h0 := CHr.refl hCH
  have own_at : ∀ d ∈ Bundle.stringAtoms, d.before a0 Z = true := fun d hd => hw d (own_atoms d hd)
  have own_ew : EW Z a0 own_EL := own_EWof hw
  have hwl : ∀ d ∈ StrChars.Road.wordsLen, d.before a0 Z = true := fun d hd => hw d (own_wordsLen d hd)
  have hwc : ∀ d ∈ StrChars.Road.wordsChN, d.before a0 Z = true := fun d hd => hw d (own_wordsChN d hd)
  have hwq : ∀ d ∈ StrChars.Road.wordsEq, d.before a0 Z = true := fun d hd => hw d (own_wordsEq d hd)
  have K0 : Keep h0 h0 [x] := Keep.refl _ _
  have pre0 : ∀ t, Steps p.tables e below (s₁.setTop (mkF m 0 #[.val (.ref x), .val (.ref b)] [])) t → Steps p.tables e below (s₁.setTop (entryFrame m #[(.ref x), (.ref b)] 2)) t := fun t k => castTop (ef_rm_sin0 m x b) k
  obtain ⟨cl1, Ar1, -, Sz1, Nn1, -, -⟩ := id A_b
  obtain ⟨_, _, ⟨T2, L2, k2, n2⟩, -, Xq2, hSq2, hgq2, ⟨Lc2, hQ2, l2, y2, z2, C2⟩, st2⟩ := X0.specialBackS hx (y := (⟨"java/lang/String", "<init>", "([CIILjava/lang/Void;)V"⟩ : MethodName)) rfl ho0 (mvT hZ0 (own_w hw 11 rfl)) (mvT hZ0 (own_w hw 12 rfl)) (mvT hZ0 (own_w hw 14 rfl)) (by decide) (own_backS (W := 0) (rm := ({ frames := 1, cells := 4, slots := 8, locals := 12 } : Room)) (xs := [x]) (rm_siv0 l Z a0 hw [] x b h0 n0 O0 E_x V_x C_x H_x Z_x g_x) hZ0 (own_w hw 14 rfl) (own_w hw 7 rfl) (by decide) (by decide) own_ew CR0.1 (allS (P := fun x => x < h0.size ∧ Safe Z own_EL s.vm h0 x) ⟨(Exa.lt E_x), (hSf _ (List.mem_of_getElem? (i := 0) rfl))⟩ all0)) (g := (mkF m 6 #[.val (.ref x), .val (.ref b)] [.null, (.int (0 : Int32)), (.int (0 : Int32)), (.ref b), (.ref x)])) rfl (by rw [hml]; rfl) (Steps.refl _) (a := x) (argsL := [(.ref b), (.int (0 : Int32)), (.int (0 : Int32)), .null]) (rest := []) (lenOf pd_1 rfl) rfl (by show 2 * 0 + _ ≤ _; exact Nat.le_of_eq rfl) (hb hby d4_6) (fun _ _ => ⟨rfl, e0, (by decide : 0 + 4 ≤ _), (by decide : 0 + 8 ≤ _)⟩)
  dsimp only [Pt.U, Pt.locs, Pt.cells, Pt.slots] at Xq2 hSq2 hgq2 l2 y2 z2 st2 hQ2 C2
  obtain ⟨X2, hS2, hZ2, ho2⟩ := rebS hS0 (by rw [e0]; exact hk0) Xq2 hSq2 hgq2 hZ0 ho0
  subst l2 y2 z2
  obtain ⟨x3, x4, rfl, N5, k6, f7, f8, f9, f10, f11, f12, f13⟩ := hQ2
  have N14 := Fr.app N0 N5
  have sf15 := CHr.safe C2 (Exa.lt E_x) (hSf _ (List.mem_of_getElem? (i := 0) rfl))
  have CR16 := CR0.trans C2
  have hk17 : T2.heap.size ≤ T2.heap.size := Nat.le_refl _
  have O18 := O0.keep k6 (allS g_x all0)
  have K19 : Keep h0 T2.heap [x] := K0.trans k6 (allS (Or.inl (List.mem_of_getElem? (i := 0) rfl)) all0)
  have S20 : ∀ t, Steps p.tables e below (T2.setTop (mkF m 9 #[.val (.ref x), .val (.ref b)] [])) t → Steps p.tables e below (s₁.setTop (mkF m 0 #[.val (.ref x), .val (.ref b)] [])) t := by
    intro t kt
    refine XS.aloadN X0.here hx rfl (hb hby d4_0) rfl rfl ?_
    refine XS.aloadN X0.here hx rfl (hb hby d4_1) rfl rfl ?_
    refine XS.iconst X0.here hx rfl (hb hby d4_2) ?_
    refine XS.aloadN X0.here hx rfl (hb hby d4_3) rfl rfl ?_
    show Steps p.tables e below (s₁.setTop (mkF m 4 #[.val (.ref x), .val (.ref b)] [(.ref b), (.int (0 : Int32)), (.ref b), (.ref x)])) _
    refine X0.arraylength hx (by rw [e0]; exact Ar1.1) (State.isArrayOf_alike hZ0.alike Ar1.2.1) (g := (mkF m 4 #[.val (.ref x), .val (.ref b)] [(.ref b), (.int (0 : Int32)), (.ref b), (.ref x)])) rfl rfl (hb hby d4_4) _ ?_
    rw [len_of Sz1 Nn1]
    refine XS.aconstNull X0.here hx rfl (hb hby d4_5) ?_
    show Steps p.tables e below (s₁.setTop (mkF m 6 #[.val (.ref x), .val (.ref b)] [.null, (.int (0 : Int32)), (.int (0 : Int32)), (.ref b), (.ref x)])) _
    refine st2.trans ?_
    exact kt
  obtain ⟨fs, hr, hrun, hended, hRW⟩ := X2.leaveW hS2 (by exact hk17) (v := none) (fun _ => rfl)
  refine ⟨_, _, pre0 _ (S20 _ ?_), hrun, hended, _, _, rfl, ?_, ?_, hRW.1, hRW.2.1, hRW.2.2.1, hRW.2.2.2.mono (by decide) (by decide)⟩
  · exact X2.returnOut hx Bd.returns (hb hby d4_9) hr
  · show Q_rm_sin0 Z x b kb h0 n0 _ T2.heap _
    exact ⟨x3, x4, rfl, N14, K19, f7, f8, f9, f10, f11, f12, f13⟩
  · show CHr Z own_EL s.vm s.heap T2.vm T2.heap
    rw [hh]
    exact CR16.trans (CHv.at X2 hZ2 own_ew CR16.1)
theorem d3_27 : decode jdk_42_method_149_code 27 = .ok (.getstatic 38, 3) := by decide +kernel
theorem d3_30 : decode jdk_42_method_149_code 30 = .ok (.ifCond .eq 28, 3) := by decide +kernel
theorem d3_33 : decode jdk_42_method_149_code 33 = .ok (.aload_n 1, 1) := by decide +kernel
theorem d3_34 : decode jdk_42_method_149_code 34 = .ok (.iload_n 2, 1) := by decide +kernel
theorem d3_35 : decode jdk_42_method_149_code 35 = .ok (.iload_n 3, 1) := by decide +kernel
theorem d3_36 : decode jdk_42_method_149_code 36 = .ok (.invokestatic 177, 3) := by decide +kernel
theorem pd_2 : parseMethodDescriptor "([CII)[B" = some ⟨[(.array .char), .int, .int], some (.array .byte)⟩ := by decide +kernel
theorem d3_39 : decode jdk_42_method_149_code 39 = .ok (.astore 5, 2) := by decide +kernel
theorem d3_41 : decode jdk_42_method_149_code 41 = .ok (.aload_n 0, 1) := by decide +kernel
theorem d3_42 : decode jdk_42_method_149_code 42 = .ok (.aload 5, 2) := by decide +kernel
theorem d3_44 : decode jdk_42_method_149_code 44 = .ok (.iload_n 3, 1) := by decide +kernel
theorem d3_45 : decode jdk_42_method_149_code 45 = .ok (.invokestatic 47, 3) := by decide +kernel
theorem pd_3 : parseMethodDescriptor "([BI)B" = some ⟨[(.array .byte), .int], some .byte⟩ := by decide +kernel
theorem d3_48 : decode jdk_42_method_149_code 48 = .ok (.putfield 15, 3) := by decide +kernel
theorem d3_51 : decode jdk_42_method_149_code 51 = .ok (.aload_n 0, 1) := by decide +kernel
theorem d3_52 : decode jdk_42_method_149_code 52 = .ok (.aload 5, 2) := by decide +kernel
theorem d3_54 : decode jdk_42_method_149_code 54 = .ok (.putfield 9, 3) := by decide +kernel
theorem d3_57 : decode jdk_42_method_149_code 57 = .ok (.return_, 1) := by decide +kernel
theorem ef_rm_siv1 (m : MethodId) (x0 : Addr) (x1 : Addr) (x2 : Int32) (x3 : Int32) : entryFrame m #[(.ref x0), (.ref x1), (.int x2), (.int x3), .null] 6 = mkF m 0 #[.val (.ref x0), .val (.ref x1), .val (.int x2), .val (.int x3), .val .null, .unset] [] := by first | (simp [entryFrame, mkF, argsToLocals, Value.category]; done) | rfl
def Q_rm_siv1 (Z : State) (x : Addr) (b : Addr) (kb : ClassId) (c0 : Int32) (zc : Int32) (h0 : Heap) (n0 : Nat) (v : Option Value) (h : Heap) (L : List Loc) : Prop := (∃ (tb : Addr) (kt : ClassId), (v = none) ∧ (Fr n0 L) ∧ (Keep h0 h [x]) ∧ (Exa Z h x "java/lang/String") ∧ (Fld Z h x "java/lang/String" "value" "[B" (.ref tb)) ∧ (Fld Z h x "java/lang/String" "coder" "B" (.int (0 : Int32))) ∧ (Fld Z h x "java/lang/String" "hash" "I" (.int (0 : Int32))) ∧ (Fld Z h x "java/lang/String" "hashIsZero" "Z" (.int (0 : Int32))) ∧ (Exa Z h tb "[B") ∧ (Arv Z h tb kt .byte (1 : Int32) [(.int c0.toInt8.toInt32)] (.int (0 : Int32))))
set_option maxRecDepth 65536 in
set_option maxHeartbeats 40000000 in
theorem rm_siv1 (l : Launch) (Z : State) (a0 : Array Value) (hw : ∀ d ∈ tables_1, d.before a0 Z = true) (ws : List Jvm.Cond) (x : Addr) (b : Addr) (kb : ClassId) (c0 : Int32) (zc : Int32) (h0 : Heap) (n0 : Nat) (O0 : Old Z n0 h0) (E_x : Exa Z h0 x "java/lang/String") (V_x : Fld Z h0 x "java/lang/String" "value" "[B" .null) (C_x : Fld Z h0 x "java/lang/String" "coder" "B" (.int (0 : Int32))) (H_x : Fld Z h0 x "java/lang/String" "hash" "I" (.int (0 : Int32))) (Z_x : Fld Z h0 x "java/lang/String" "hashIsZero" "Z" (.int (0 : Int32))) (g_x : n0 ≤ x) (A_b : Arv Z h0 b kb .char (1 : Int32) [(.int c0)] (.int (0 : Int32))) (la_c0 : ¬ (c0 < (0 : Int32)) ∧ ¬ ((255 : Int32) < c0)) (S_C : Sta Z Z.heap "java/lang/String" "COMPACT_STRINGS" "Z" (.int zc)) (hzc : ¬ (zc = (0 : Int32))) :
    MetFree l (⟨"java/lang/String", "<init>", "([CIILjava/lang/Void;)V"⟩ : MethodName) (head1 (Jvm.Cond.code (⟨"java/lang/String", "<init>", "([CIILjava/lang/Void;)V"⟩ : MethodName) jdk_42_method_149_code 6 none :: ws) ({ frames := 2, cells := 1, slots := 1, locals := 35 } : Room)) (fun a U => a = #[(.ref x), (.ref b), (.int (0 : Int32)), (.int (1 : Int32)), .null] ∧ Z.Warmed39 U.vm ∧ U.heap = h0) (fun _ _ _ _ _ => True) (fun _ U o U' => ∃ v L, o = .returned v ∧ Q_rm_siv1 Z x b kb c0 zc h0 n0 v U'.heap L ∧ FrameEnd U o U' L ({ frames := 2, cells := 1, slots := 1, locals := 35 } : Room).cells ({ frames := 2, cells := 1, slots := 1, locals := 35 } : Room).slots) := by
  refine MetFree.of_bodySF (plainFor_of_name pn_1) hisR ?_
  intro p e s m args below meth c s₁ Bd hml0 hP hK
  obtain ⟨rfl, hZ, hh⟩ := hP
  have hx := Bd.exec
  have hby := Bd.bytes
  have hml : c.maxLocals = 6 := hml0
  have hown : s.vm.findClass "java/lang/String" = some m.cls := findClass_of_methodNamed Bd.named
  have hnm := (name_of_methodNamed Bd.named Bd.method).1
  have X0 : Stand p l e ({ frames := 2, cells := 1, slots := 1, locals := 35 } : Room) s m #[(.ref x), (.ref b), (.int (0 : Int32)), (.int (1 : Int32)), .null] below meth c s₁ [] 0 0 := Stand.of_body Bd
  have e0 : s₁.heap = h0 := by rw [← hh, Bd.state]; rfl
  have N0 := Fr.nil n0
  have hwl : ∀ d ∈ StrChars.Road.wordsLen, d.before a0 Z = true := fun d hd => hw d (own_wordsLen d hd)
  have hwc : ∀ d ∈ StrChars.Road.wordsChN, d.before a0 Z = true := fun d hd => hw d (own_wordsChN d hd)
  have hwq : ∀ d ∈ StrChars.Road.wordsEq, d.before a0 Z = true := fun d hd => hw d (own_wordsEq d hd)
  have K0 : Keep h0 h0 [x] := Keep.refl _ _
  have pre0 : ∀ t, Steps p.tables e below (s₁.setTop (mkF m 0 #[.val (.ref x), .val (.ref b), .val (.int (0 : Int32)), .val (.int (1 : Int32)), .val .null, .unset] [])) t → Steps p.tables e below (s₁.setTop (entryFrame m #[(.ref x), (.ref b), (.int (0 : Int32)), (.int (1 : Int32)), .null] 6)) t := fun t k => castTop (ef_rm_siv1 m x b (0 : Int32) (1 : Int32)) k
  obtain ⟨T1, X1, e1, st1⟩ := initO X0 hx hZ hown (own_w hw 15 rfl) (own_w hw 16 rfl) (own_w hw 17 rfl) e0 (g := (mkF m 1 #[.val (.ref x), .val (.ref b), .val (.int (0 : Int32)), .val (.int (1 : Int32)), .val .null, .unset] [(.ref x)])) rfl (by rw [hml]; rfl) rfl (hb hby d3_1) (by decide) (W := 0) (by show 2 * 0 + _ ≤ _; exact Nat.le_of_eq rfl) (by decide)
  obtain ⟨T2, X2, e2, st2⟩ := getS2 X1 hx hZ hown (host := "") (Or.inl (own_w hw 53 rfl)) Via.refl e1 (S_C.ext O0.2) (g := (mkF m 27 #[.val (.ref x), .val (.ref b), .val (.int (0 : Int32)), .val (.int (1 : Int32)), .val .null, .unset] [])) rfl (hb hby d3_27)
  obtain ⟨_, _, ⟨T3, L3, k3, n3⟩, -, X3, ⟨Lc3, hQ3, l3, y3, z3⟩, st3⟩ := Jvm.LawKit.callS X2 hx (y := (⟨"java/lang/StringUTF16", "compress", "([CII)[B"⟩ : MethodName)) hown (mvT hZ (own_w hw 89 rfl)) (mvT hZ (own_w hw 90 rfl)) (mvT hZ (own_w hw 91 rfl)) (mvT hZ (own_w hw 92 rfl)) (by decide) (backOf (W := 0) (rm_cp1 l Z a0 hw [] b kb c0 h0 n0 O0 A_b la_c0) hZ (own_w hw 92 rfl) (own_w hw 91 rfl) (by decide) (by decide)) (g := (mkF m 36 #[.val (.ref x), .val (.ref b), .val (.int (0 : Int32)), .val (.int (1 : Int32)), .val .null, .unset] [(.int (1 : Int32)), (.int (0 : Int32)), (.ref b)])) rfl (by rw [hml]; rfl) (argsL := [(.ref b), (.int (0 : Int32)), (.int (1 : Int32))]) (rest := []) (lenOf pd_2 rfl) rfl (by show 2 * 0 + _ ≤ _; exact Nat.le_of_eq rfl) (hb hby d3_36) (fun _ _ => ⟨rfl, e2, (by decide : 0 + 1 ≤ _), (by decide : 0 + 1 ≤ _)⟩)
  dsimp only [Pt.U, Pt.locs, Pt.cells, Pt.slots] at X3 l3 y3 z3 st3 hQ3
  subst l3 y3 z3
  obtain ⟨x4, x5, rfl, N6, k7, f8, f9, f10⟩ := hQ3
  have N11 := Fr.app N0 N6
  have ge12 : n0 ≤ x4 := by rw [← O0.1]; exact Nat.le_trans O0.2.1 f8
  have sz12 : h0.size ≤ x4 := Nat.le_trans K0.1 f8
  have ne13 : x ≠ x4 := Nat.ne_of_lt (Nat.lt_of_lt_of_le (Exa.lt E_x) f8)
  have ne14 : b ≠ x4 := Nat.ne_of_lt (Nat.lt_of_lt_of_le (Arv.lt A_b) f8)
  have O15 := O0.keep k7 all0
  have K16 : Keep h0 T3.heap [x] := K0.trans k7 all0
  obtain ⟨_, _, ⟨T17, L17, k17, n17⟩, -, X17, ⟨Lc17, hQ17, l17, y17, z17⟩, st17⟩ := Jvm.LawKit.callS X3 hx (y := (⟨"java/lang/StringUTF16", "coderFromArrayLen", "([BI)B"⟩ : MethodName)) hown (mvT hZ (own_w hw 96 rfl)) (mvT hZ (own_w hw 97 rfl)) (mvT hZ (own_w hw 91 rfl)) (mvT hZ (own_w hw 98 rfl)) (by decide) (backOf (W := 1) (rm_cf1 l Z a0 hw [] x4 x5 c0 T3.heap n0 O15 f10) hZ (own_w hw 98 rfl) (own_w hw 91 rfl) (by decide) (by decide)) (g := (mkF m 45 #[.val (.ref x), .val (.ref b), .val (.int (0 : Int32)), .val (.int (1 : Int32)), .val .null, .val (.ref x4)] [(.int (1 : Int32)), (.ref x4), (.ref x)])) rfl (by rw [hml]; rfl) (argsL := [(.ref x4), (.int (1 : Int32))]) (rest := [(.ref x)]) (lenOf pd_3 rfl) rfl (by show 2 * 0 + _ ≤ _; exact Nat.le_of_eq rfl) (hb hby d3_45) (fun _ _ => ⟨rfl, rfl, (by decide : 1 + 0 ≤ _), (by decide : 1 + 0 ≤ _)⟩)
  dsimp only [Pt.U, Pt.locs, Pt.cells, Pt.slots] at X17 l17 y17 z17 st17 hQ17
  subst l17 y17 z17
  obtain ⟨rfl, N18, k19⟩ := hQ17
  have N20 := Fr.app N11 N18
  have f21 := (Fld.keep C_x k7 nin0)
  have f22 := (Exa.keep E_x k7)
  obtain ⟨T23, h23, X23, e23, W23, st23⟩ := putFN X17 hx hZ hown (own_w hw 25 rfl) Via.refl k19 f21 f22 (Or.inr ⟨(own_w hw 21 rfl), rfl, hnm⟩) (own_w hw 6 rfl) (ty := .byte) (v' := (.int (0 : Int32))) (by decide) rfl rfl (g := (mkF m 48 #[.val (.ref x), .val (.ref b), .val (.int (0 : Int32)), .val (.int (1 : Int32)), .val .null, .val (.ref x4)] [(.int (0 : Int32)), (.ref x)])) rfl rfl (hb hby d3_48)
  have O24 := O15.wr W23 g_x
  have K25 : Keep h0 h23 [x] := K16.wr W23 (Or.inl (List.mem_of_getElem? (i := 0) rfl))
  have N26 := Fr.snoc X23 N20 g_x
  have F23 : Fld Z h23 x "java/lang/String" "coder" "B" (.int (0 : Int32)) := Fld.same W23 f21
  have f27 := (Fld.other W23 (Fld.keep V_x k7 nin0) (Or.inr (slot_ne (Or.inr (own_w hw 20 rfl)) (Or.inr (own_w hw 21 rfl)) (by decide) (t := (.array .byte)) (t' := .byte) (by decide) (by decide))))
  have f28 := (Exa.wr W23 f22)
  obtain ⟨T29, h29, X29, e29, W29, st29⟩ := putF X23 hx hZ hown (host := "") (Or.inl (own_w hw 24 rfl)) Via.refl e23 f27 f28 (Or.inr ⟨(own_w hw 20 rfl), rfl, hnm⟩) (own_w hw 6 rfl) (ty := (.array .byte)) (by decide) rfl rfl (g := (mkF m 54 #[.val (.ref x), .val (.ref b), .val (.int (0 : Int32)), .val (.int (1 : Int32)), .val .null, .val (.ref x4)] [(.ref x4), (.ref x)])) rfl rfl (hb hby d3_54)
  have O30 := O24.wr W29 g_x
  have K31 : Keep h0 h29 [x] := K25.wr W29 (Or.inl (List.mem_of_getElem? (i := 0) rfl))
  have N32 := Fr.snoc X29 N26 g_x
  have F29 : Fld Z h29 x "java/lang/String" "value" "[B" (.ref x4) := Fld.same W29 f27
  have S33 : ∀ t, Steps p.tables e below (T29.setTop (mkF m 57 #[.val (.ref x), .val (.ref b), .val (.int (0 : Int32)), .val (.int (1 : Int32)), .val .null, .val (.ref x4)] [])) t → Steps p.tables e below (s₁.setTop (mkF m 0 #[.val (.ref x), .val (.ref b), .val (.int (0 : Int32)), .val (.int (1 : Int32)), .val .null, .unset] [])) t := by
    intro t kt
    refine XS.aloadN X0.here hx rfl (hb hby d3_0) rfl rfl ?_
    show Steps p.tables e below (s₁.setTop (mkF m 1 #[.val (.ref x), .val (.ref b), .val (.int (0 : Int32)), .val (.int (1 : Int32)), .val .null, .unset] [(.ref x)])) _
    refine st1 _ ?_
    refine XS.iloadN X1.here hx rfl (hb hby d3_4) rfl ?_
    refine XS.ifYes X1.here hx rfl (pc0 := 5) (pc' := 27) rfl (hb hby d3_5) rfl ((if0 _ _).trans (feq ((by decide) : ¬ ((1 : Int32) = (0 : Int32)))).2) (by decide) (by decide) ?_
    show Steps p.tables e below (T1.setTop (mkF m 27 #[.val (.ref x), .val (.ref b), .val (.int (0 : Int32)), .val (.int (1 : Int32)), .val .null, .unset] [])) _
    refine st2 _ ?_
    refine XS.ifNo X2.here hx rfl (hb hby d3_30) rfl ((if0 _ _).trans (feq (hzc : ¬ (zc = (0 : Int32)))).1) ?_
    refine XS.aloadN X2.here hx rfl (hb hby d3_33) rfl rfl ?_
    refine XS.iloadN X2.here hx rfl (hb hby d3_34) rfl ?_
    refine XS.iloadN X2.here hx rfl (hb hby d3_35) rfl ?_
    show Steps p.tables e below (T2.setTop (mkF m 36 #[.val (.ref x), .val (.ref b), .val (.int (0 : Int32)), .val (.int (1 : Int32)), .val .null, .unset] [(.int (1 : Int32)), (.int (0 : Int32)), (.ref b)])) _
    refine st3 _ ?_
    refine XS.astore X3.here hx rfl (hb hby d3_39) rfl rfl (l' := #[.val (.ref x), .val (.ref b), .val (.int (0 : Int32)), .val (.int (1 : Int32)), .val .null, .val (.ref x4)]) rfl ?_
    refine XS.aloadN X3.here hx rfl (hb hby d3_41) rfl rfl ?_
    refine XS.aload X3.here hx rfl (hb hby d3_42) rfl rfl ?_
    refine XS.iloadN X3.here hx rfl (hb hby d3_44) rfl ?_
    show Steps p.tables e below (T3.setTop (mkF m 45 #[.val (.ref x), .val (.ref b), .val (.int (0 : Int32)), .val (.int (1 : Int32)), .val .null, .val (.ref x4)] [(.int (1 : Int32)), (.ref x4), (.ref x)])) _
    refine st17 _ ?_
    show Steps p.tables e below (T17.setTop (mkF m 48 #[.val (.ref x), .val (.ref b), .val (.int (0 : Int32)), .val (.int (1 : Int32)), .val .null, .val (.ref x4)] [(.int (0 : Int32)), (.ref x)])) _
    refine st23 _ ?_
    refine XS.aloadN X23.here hx rfl (hb hby d3_51) rfl rfl ?_
    refine XS.aload X23.here hx rfl (hb hby d3_52) rfl rfl ?_
    show Steps p.tables e below (T23.setTop (mkF m 54 #[.val (.ref x), .val (.ref b), .val (.int (0 : Int32)), .val (.int (1 : Int32)), .val .null, .val (.ref x4)] [(.ref x4), (.ref x)])) _
    refine st29 _ ?_
    exact kt
  obtain ⟨fs, hr, hrun, hended, hW, hsame⟩ := X29.leave (v := none) (fun _ => rfl)
  have f34 := (Exa.wr W29 f28)
  have f35 := (Fld.other W29 F23 (Or.inr (slot_ne (Or.inr (own_w hw 21 rfl)) (Or.inr (own_w hw 20 rfl)) (by decide) (t := .byte) (t' := (.array .byte)) (by decide) (by decide))))
  have f36 := (Fld.other W29 (Fld.other W23 (Fld.keep H_x k7 nin0) (Or.inr (slot_ne (Or.inl (own_w hw 45 rfl)) (Or.inr (own_w hw 21 rfl)) (by decide) (t := .int) (t' := .byte) (by decide) (by decide)))) (Or.inr (slot_ne (Or.inl (own_w hw 45 rfl)) (Or.inr (own_w hw 20 rfl)) (by decide) (t := .int) (t' := (.array .byte)) (by decide) (by decide))))
  have f37 := (Fld.other W29 (Fld.other W23 (Fld.keep Z_x k7 nin0) (Or.inr (slot_ne (Or.inl (own_w hw 47 rfl)) (Or.inr (own_w hw 21 rfl)) (by decide) (t := .boolean) (t' := .byte) (by decide) (by decide)))) (Or.inr (slot_ne (Or.inl (own_w hw 47 rfl)) (Or.inr (own_w hw 20 rfl)) (by decide) (t := .boolean) (t' := (.array .byte)) (by decide) (by decide))))
  have f38 := (Exa.wr W29 (Exa.wr W23 f9))
  have f39 := (Arv.other (Arv.other f10 W23 (Ne.symm ne13)) W29 (Ne.symm ne13))
  refine ⟨_, _, pre0 _ (S33 _ ?_), hrun, hended, _, _, rfl, ?_, ⟨_, rfl⟩, hW, hsame.mono (by decide) (by decide)⟩
  · exact X29.returnOut hx Bd.returns (hb hby d3_57) hr
  · show Q_rm_siv1 Z x b kb c0 zc h0 n0 _ T29.heap _
    rw [e29]
    exact ⟨x4, x5, rfl, N32, K31, f34, F29, f35, f36, f37, f38, f39⟩
theorem ef_rm_sin1 (m : MethodId) (x0 : Addr) (x1 : Addr) : entryFrame m #[(.ref x0), (.ref x1)] 2 = mkF m 0 #[.val (.ref x0), .val (.ref x1)] [] := by first | (simp [entryFrame, mkF, argsToLocals, Value.category]; done) | rfl
def Q_rm_sin1 (Z : State) (x : Addr) (b : Addr) (kb : ClassId) (c0 : Int32) (zc : Int32) (h0 : Heap) (n0 : Nat) (v : Option Value) (h : Heap) (L : List Loc) : Prop := (∃ (tb : Addr) (kt : ClassId), (v = none) ∧ (Fr n0 L) ∧ (Keep h0 h [x]) ∧ (Exa Z h x "java/lang/String") ∧ (Fld Z h x "java/lang/String" "value" "[B" (.ref tb)) ∧ (Fld Z h x "java/lang/String" "coder" "B" (.int (0 : Int32))) ∧ (Fld Z h x "java/lang/String" "hash" "I" (.int (0 : Int32))) ∧ (Fld Z h x "java/lang/String" "hashIsZero" "Z" (.int (0 : Int32))) ∧ (Exa Z h tb "[B") ∧ (Arv Z h tb kt .byte (1 : Int32) [(.int c0.toInt8.toInt32)] (.int (0 : Int32))))
set_option maxRecDepth 65536 in
set_option maxHeartbeats 40000000 in
theorem rm_sin1 (l : Launch) (Z : State) (a0 : Array Value) (hw : ∀ d ∈ tables_1, d.before a0 Z = true) (ws : List Jvm.Cond) (x : Addr) (b : Addr) (kb : ClassId) (c0 : Int32) (zc : Int32) (h0 : Heap) (n0 : Nat) (O0 : Old Z n0 h0) (E_x : Exa Z h0 x "java/lang/String") (V_x : Fld Z h0 x "java/lang/String" "value" "[B" .null) (C_x : Fld Z h0 x "java/lang/String" "coder" "B" (.int (0 : Int32))) (H_x : Fld Z h0 x "java/lang/String" "hash" "I" (.int (0 : Int32))) (Z_x : Fld Z h0 x "java/lang/String" "hashIsZero" "Z" (.int (0 : Int32))) (g_x : n0 ≤ x) (A_b : Arv Z h0 b kb .char (1 : Int32) [(.int c0)] (.int (0 : Int32))) (la_c0 : ¬ (c0 < (0 : Int32)) ∧ ¬ ((255 : Int32) < c0)) (S_C : Sta Z Z.heap "java/lang/String" "COMPACT_STRINGS" "Z" (.int zc)) (hzc : ¬ (zc = (0 : Int32))) :
    MetFree l (⟨"java/lang/String", "<init>", "([C)V"⟩ : MethodName) (head1 (Jvm.Cond.code (⟨"java/lang/String", "<init>", "([C)V"⟩ : MethodName) jdk_42_method_3_code 2 none :: ws) ({ frames := 3, cells := 1, slots := 1, locals := 52 } : Room)) (fun a U => a = #[(.ref x), (.ref b)] ∧ Z.Warmed39 U.vm ∧ U.heap = h0) (fun _ _ _ _ _ => True) (fun _ U o U' => ∃ v L, o = .returned v ∧ Q_rm_sin1 Z x b kb c0 zc h0 n0 v U'.heap L ∧ FrameEnd U o U' L ({ frames := 3, cells := 1, slots := 1, locals := 52 } : Room).cells ({ frames := 3, cells := 1, slots := 1, locals := 52 } : Room).slots) := by
  refine MetFree.of_bodySF (plainFor_of_name pn_1) hisR ?_
  intro p e s m args below meth c s₁ Bd hml0 hP hK
  obtain ⟨rfl, hZ, hh⟩ := hP
  have hx := Bd.exec
  have hby := Bd.bytes
  have hml : c.maxLocals = 2 := hml0
  have hown : s.vm.findClass "java/lang/String" = some m.cls := findClass_of_methodNamed Bd.named
  have hnm := (name_of_methodNamed Bd.named Bd.method).1
  have X0 : Stand p l e ({ frames := 3, cells := 1, slots := 1, locals := 52 } : Room) s m #[(.ref x), (.ref b)] below meth c s₁ [] 0 0 := Stand.of_body Bd
  have e0 : s₁.heap = h0 := by rw [← hh, Bd.state]; rfl
  have N0 := Fr.nil n0
  have hwl : ∀ d ∈ StrChars.Road.wordsLen, d.before a0 Z = true := fun d hd => hw d (own_wordsLen d hd)
  have hwc : ∀ d ∈ StrChars.Road.wordsChN, d.before a0 Z = true := fun d hd => hw d (own_wordsChN d hd)
  have hwq : ∀ d ∈ StrChars.Road.wordsEq, d.before a0 Z = true := fun d hd => hw d (own_wordsEq d hd)
  have K0 : Keep h0 h0 [x] := Keep.refl _ _
  have pre0 : ∀ t, Steps p.tables e below (s₁.setTop (mkF m 0 #[.val (.ref x), .val (.ref b)] [])) t → Steps p.tables e below (s₁.setTop (entryFrame m #[(.ref x), (.ref b)] 2)) t := fun t k => castTop (ef_rm_sin1 m x b) k
  obtain ⟨cl1, Ar1, -, Sz1, Nn1, -, -⟩ := id A_b
  obtain ⟨_, _, ⟨T2, L2, k2, n2⟩, -, X2, ⟨Lc2, hQ2, l2, y2, z2⟩, st2⟩ := X0.specialBack hx (y := (⟨"java/lang/String", "<init>", "([CIILjava/lang/Void;)V"⟩ : MethodName)) rfl hown (mvT hZ (own_w hw 11 rfl)) (mvT hZ (own_w hw 12 rfl)) (mvT hZ (own_w hw 14 rfl)) (by decide) (backOf (W := 0) (rm_siv1 l Z a0 hw [] x b kb c0 zc h0 n0 O0 E_x V_x C_x H_x Z_x g_x A_b la_c0 S_C hzc) hZ (own_w hw 14 rfl) (own_w hw 7 rfl) (by decide) (by decide)) (g := (mkF m 6 #[.val (.ref x), .val (.ref b)] [.null, (.int (1 : Int32)), (.int (0 : Int32)), (.ref b), (.ref x)])) rfl (by rw [hml]; rfl) (Steps.refl _) (a := x) (argsL := [(.ref b), (.int (0 : Int32)), (.int (1 : Int32)), .null]) (rest := []) (lenOf pd_1 rfl) rfl (by show 2 * 0 + _ ≤ _; exact Nat.le_of_eq rfl) (hb hby d4_6) (fun _ _ => ⟨rfl, e0, (by decide : 0 + 1 ≤ _), (by decide : 0 + 1 ≤ _)⟩)
  dsimp only [Pt.U, Pt.locs, Pt.cells, Pt.slots] at X2 l2 y2 z2 st2 hQ2
  subst l2 y2 z2
  obtain ⟨x3, x4, rfl, N5, k6, f7, f8, f9, f10, f11, f12, f13⟩ := hQ2
  have N14 := Fr.app N0 N5
  have O15 := O0.keep k6 (allS g_x all0)
  have K16 : Keep h0 T2.heap [x] := K0.trans k6 (allS (Or.inl (List.mem_of_getElem? (i := 0) rfl)) all0)
  have S17 : ∀ t, Steps p.tables e below (T2.setTop (mkF m 9 #[.val (.ref x), .val (.ref b)] [])) t → Steps p.tables e below (s₁.setTop (mkF m 0 #[.val (.ref x), .val (.ref b)] [])) t := by
    intro t kt
    refine XS.aloadN X0.here hx rfl (hb hby d4_0) rfl rfl ?_
    refine XS.aloadN X0.here hx rfl (hb hby d4_1) rfl rfl ?_
    refine XS.iconst X0.here hx rfl (hb hby d4_2) ?_
    refine XS.aloadN X0.here hx rfl (hb hby d4_3) rfl rfl ?_
    show Steps p.tables e below (s₁.setTop (mkF m 4 #[.val (.ref x), .val (.ref b)] [(.ref b), (.int (0 : Int32)), (.ref b), (.ref x)])) _
    refine X0.arraylength hx (by rw [e0]; exact Ar1.1) (State.isArrayOf_alike hZ.alike Ar1.2.1) (g := (mkF m 4 #[.val (.ref x), .val (.ref b)] [(.ref b), (.int (0 : Int32)), (.ref b), (.ref x)])) rfl rfl (hb hby d4_4) _ ?_
    rw [len_of Sz1 Nn1]
    refine XS.aconstNull X0.here hx rfl (hb hby d4_5) ?_
    show Steps p.tables e below (s₁.setTop (mkF m 6 #[.val (.ref x), .val (.ref b)] [.null, (.int (1 : Int32)), (.int (0 : Int32)), (.ref b), (.ref x)])) _
    refine st2.trans ?_
    exact kt
  obtain ⟨fs, hr, hrun, hended, hW, hsame⟩ := X2.leave (v := none) (fun _ => rfl)
  refine ⟨_, _, pre0 _ (S17 _ ?_), hrun, hended, _, _, rfl, ?_, ⟨_, rfl⟩, hW, hsame.mono (by decide) (by decide)⟩
  · exact X2.returnOut hx Bd.returns (hb hby d4_9) hr
  · show Q_rm_sin1 Z x b kb c0 zc h0 n0 _ T2.heap _
    exact ⟨x3, x4, rfl, N14, K16, f7, f8, f9, f10, f11, f12, f13⟩
theorem ef_rm_siv2 (m : MethodId) (x0 : Addr) (x1 : Addr) (x2 : Int32) (x3 : Int32) : entryFrame m #[(.ref x0), (.ref x1), (.int x2), (.int x3), .null] 6 = mkF m 0 #[.val (.ref x0), .val (.ref x1), .val (.int x2), .val (.int x3), .val .null, .unset] [] := by first | (simp [entryFrame, mkF, argsToLocals, Value.category]; done) | rfl
def Q_rm_siv2 (Z : State) (x : Addr) (b : Addr) (kb : ClassId) (c0 : Int32) (c1 : Int32) (zc : Int32) (h0 : Heap) (n0 : Nat) (v : Option Value) (h : Heap) (L : List Loc) : Prop := (∃ (tb : Addr) (kt : ClassId), (v = none) ∧ (Fr n0 L) ∧ (Keep h0 h [x]) ∧ (Exa Z h x "java/lang/String") ∧ (Fld Z h x "java/lang/String" "value" "[B" (.ref tb)) ∧ (Fld Z h x "java/lang/String" "coder" "B" (.int (0 : Int32))) ∧ (Fld Z h x "java/lang/String" "hash" "I" (.int (0 : Int32))) ∧ (Fld Z h x "java/lang/String" "hashIsZero" "Z" (.int (0 : Int32))) ∧ (Exa Z h tb "[B") ∧ (Arv Z h tb kt .byte (2 : Int32) [(.int c0.toInt8.toInt32), (.int c1.toInt8.toInt32)] (.int (0 : Int32))))
set_option maxRecDepth 65536 in
set_option maxHeartbeats 40000000 in
theorem rm_siv2 (l : Launch) (Z : State) (a0 : Array Value) (hw : ∀ d ∈ tables_1, d.before a0 Z = true) (ws : List Jvm.Cond) (x : Addr) (b : Addr) (kb : ClassId) (c0 : Int32) (c1 : Int32) (zc : Int32) (h0 : Heap) (n0 : Nat) (O0 : Old Z n0 h0) (E_x : Exa Z h0 x "java/lang/String") (V_x : Fld Z h0 x "java/lang/String" "value" "[B" .null) (C_x : Fld Z h0 x "java/lang/String" "coder" "B" (.int (0 : Int32))) (H_x : Fld Z h0 x "java/lang/String" "hash" "I" (.int (0 : Int32))) (Z_x : Fld Z h0 x "java/lang/String" "hashIsZero" "Z" (.int (0 : Int32))) (g_x : n0 ≤ x) (A_b : Arv Z h0 b kb .char (2 : Int32) [(.int c0), (.int c1)] (.int (0 : Int32))) (la_c0 : ¬ (c0 < (0 : Int32)) ∧ ¬ ((255 : Int32) < c0)) (la_c1 : ¬ (c1 < (0 : Int32)) ∧ ¬ ((255 : Int32) < c1)) (S_C : Sta Z Z.heap "java/lang/String" "COMPACT_STRINGS" "Z" (.int zc)) (hzc : ¬ (zc = (0 : Int32))) :
    MetFree l (⟨"java/lang/String", "<init>", "([CIILjava/lang/Void;)V"⟩ : MethodName) (head1 (Jvm.Cond.code (⟨"java/lang/String", "<init>", "([CIILjava/lang/Void;)V"⟩ : MethodName) jdk_42_method_149_code 6 none :: ws) ({ frames := 2, cells := 1, slots := 2, locals := 35 } : Room)) (fun a U => a = #[(.ref x), (.ref b), (.int (0 : Int32)), (.int (2 : Int32)), .null] ∧ Z.Warmed39 U.vm ∧ U.heap = h0) (fun _ _ _ _ _ => True) (fun _ U o U' => ∃ v L, o = .returned v ∧ Q_rm_siv2 Z x b kb c0 c1 zc h0 n0 v U'.heap L ∧ FrameEnd U o U' L ({ frames := 2, cells := 1, slots := 2, locals := 35 } : Room).cells ({ frames := 2, cells := 1, slots := 2, locals := 35 } : Room).slots) := by
  refine MetFree.of_bodySF (plainFor_of_name pn_1) hisR ?_
  intro p e s m args below meth c s₁ Bd hml0 hP hK
  obtain ⟨rfl, hZ, hh⟩ := hP
  have hx := Bd.exec
  have hby := Bd.bytes
  have hml : c.maxLocals = 6 := hml0
  have hown : s.vm.findClass "java/lang/String" = some m.cls := findClass_of_methodNamed Bd.named
  have hnm := (name_of_methodNamed Bd.named Bd.method).1
  have X0 : Stand p l e ({ frames := 2, cells := 1, slots := 2, locals := 35 } : Room) s m #[(.ref x), (.ref b), (.int (0 : Int32)), (.int (2 : Int32)), .null] below meth c s₁ [] 0 0 := Stand.of_body Bd
  have e0 : s₁.heap = h0 := by rw [← hh, Bd.state]; rfl
  have N0 := Fr.nil n0
  have hwl : ∀ d ∈ StrChars.Road.wordsLen, d.before a0 Z = true := fun d hd => hw d (own_wordsLen d hd)
  have hwc : ∀ d ∈ StrChars.Road.wordsChN, d.before a0 Z = true := fun d hd => hw d (own_wordsChN d hd)
  have hwq : ∀ d ∈ StrChars.Road.wordsEq, d.before a0 Z = true := fun d hd => hw d (own_wordsEq d hd)
  have K0 : Keep h0 h0 [x] := Keep.refl _ _
  have pre0 : ∀ t, Steps p.tables e below (s₁.setTop (mkF m 0 #[.val (.ref x), .val (.ref b), .val (.int (0 : Int32)), .val (.int (2 : Int32)), .val .null, .unset] [])) t → Steps p.tables e below (s₁.setTop (entryFrame m #[(.ref x), (.ref b), (.int (0 : Int32)), (.int (2 : Int32)), .null] 6)) t := fun t k => castTop (ef_rm_siv2 m x b (0 : Int32) (2 : Int32)) k
  obtain ⟨T1, X1, e1, st1⟩ := initO X0 hx hZ hown (own_w hw 15 rfl) (own_w hw 16 rfl) (own_w hw 17 rfl) e0 (g := (mkF m 1 #[.val (.ref x), .val (.ref b), .val (.int (0 : Int32)), .val (.int (2 : Int32)), .val .null, .unset] [(.ref x)])) rfl (by rw [hml]; rfl) rfl (hb hby d3_1) (by decide) (W := 0) (by show 2 * 0 + _ ≤ _; exact Nat.le_of_eq rfl) (by decide)
  obtain ⟨T2, X2, e2, st2⟩ := getS2 X1 hx hZ hown (host := "") (Or.inl (own_w hw 53 rfl)) Via.refl e1 (S_C.ext O0.2) (g := (mkF m 27 #[.val (.ref x), .val (.ref b), .val (.int (0 : Int32)), .val (.int (2 : Int32)), .val .null, .unset] [])) rfl (hb hby d3_27)
  obtain ⟨_, _, ⟨T3, L3, k3, n3⟩, -, X3, ⟨Lc3, hQ3, l3, y3, z3⟩, st3⟩ := Jvm.LawKit.callS X2 hx (y := (⟨"java/lang/StringUTF16", "compress", "([CII)[B"⟩ : MethodName)) hown (mvT hZ (own_w hw 89 rfl)) (mvT hZ (own_w hw 90 rfl)) (mvT hZ (own_w hw 91 rfl)) (mvT hZ (own_w hw 92 rfl)) (by decide) (backOf (W := 0) (rm_cp2 l Z a0 hw [] b kb c0 c1 h0 n0 O0 A_b la_c0 la_c1) hZ (own_w hw 92 rfl) (own_w hw 91 rfl) (by decide) (by decide)) (g := (mkF m 36 #[.val (.ref x), .val (.ref b), .val (.int (0 : Int32)), .val (.int (2 : Int32)), .val .null, .unset] [(.int (2 : Int32)), (.int (0 : Int32)), (.ref b)])) rfl (by rw [hml]; rfl) (argsL := [(.ref b), (.int (0 : Int32)), (.int (2 : Int32))]) (rest := []) (lenOf pd_2 rfl) rfl (by show 2 * 0 + _ ≤ _; exact Nat.le_of_eq rfl) (hb hby d3_36) (fun _ _ => ⟨rfl, e2, (by decide : 0 + 1 ≤ _), (by decide : 0 + 2 ≤ _)⟩)
  dsimp only [Pt.U, Pt.locs, Pt.cells, Pt.slots] at X3 l3 y3 z3 st3 hQ3
  subst l3 y3 z3
  obtain ⟨x4, x5, rfl, N6, k7, f8, f9, f10⟩ := hQ3
  have N11 := Fr.app N0 N6
  have ge12 : n0 ≤ x4 := by rw [← O0.1]; exact Nat.le_trans O0.2.1 f8
  have sz12 : h0.size ≤ x4 := Nat.le_trans K0.1 f8
  have ne13 : x ≠ x4 := Nat.ne_of_lt (Nat.lt_of_lt_of_le (Exa.lt E_x) f8)
  have ne14 : b ≠ x4 := Nat.ne_of_lt (Nat.lt_of_lt_of_le (Arv.lt A_b) f8)
  have O15 := O0.keep k7 all0
  have K16 : Keep h0 T3.heap [x] := K0.trans k7 all0
  obtain ⟨_, _, ⟨T17, L17, k17, n17⟩, -, X17, ⟨Lc17, hQ17, l17, y17, z17⟩, st17⟩ := Jvm.LawKit.callS X3 hx (y := (⟨"java/lang/StringUTF16", "coderFromArrayLen", "([BI)B"⟩ : MethodName)) hown (mvT hZ (own_w hw 96 rfl)) (mvT hZ (own_w hw 97 rfl)) (mvT hZ (own_w hw 91 rfl)) (mvT hZ (own_w hw 98 rfl)) (by decide) (backOf (W := 1) (rm_cf2 l Z a0 hw [] x4 x5 c0 c1 T3.heap n0 O15 f10) hZ (own_w hw 98 rfl) (own_w hw 91 rfl) (by decide) (by decide)) (g := (mkF m 45 #[.val (.ref x), .val (.ref b), .val (.int (0 : Int32)), .val (.int (2 : Int32)), .val .null, .val (.ref x4)] [(.int (2 : Int32)), (.ref x4), (.ref x)])) rfl (by rw [hml]; rfl) (argsL := [(.ref x4), (.int (2 : Int32))]) (rest := [(.ref x)]) (lenOf pd_3 rfl) rfl (by show 2 * 0 + _ ≤ _; exact Nat.le_of_eq rfl) (hb hby d3_45) (fun _ _ => ⟨rfl, rfl, (by decide : 1 + 0 ≤ _), (by decide : 2 + 0 ≤ _)⟩)
  dsimp only [Pt.U, Pt.locs, Pt.cells, Pt.slots] at X17 l17 y17 z17 st17 hQ17
  subst l17 y17 z17
  obtain ⟨rfl, N18, k19⟩ := hQ17
  have N20 := Fr.app N11 N18
  have f21 := (Fld.keep C_x k7 nin0)
  have f22 := (Exa.keep E_x k7)
  obtain ⟨T23, h23, X23, e23, W23, st23⟩ := putFN X17 hx hZ hown (own_w hw 25 rfl) Via.refl k19 f21 f22 (Or.inr ⟨(own_w hw 21 rfl), rfl, hnm⟩) (own_w hw 6 rfl) (ty := .byte) (v' := (.int (0 : Int32))) (by decide) rfl rfl (g := (mkF m 48 #[.val (.ref x), .val (.ref b), .val (.int (0 : Int32)), .val (.int (2 : Int32)), .val .null, .val (.ref x4)] [(.int (0 : Int32)), (.ref x)])) rfl rfl (hb hby d3_48)
  have O24 := O15.wr W23 g_x
  have K25 : Keep h0 h23 [x] := K16.wr W23 (Or.inl (List.mem_of_getElem? (i := 0) rfl))
  have N26 := Fr.snoc X23 N20 g_x
  have F23 : Fld Z h23 x "java/lang/String" "coder" "B" (.int (0 : Int32)) := Fld.same W23 f21
  have f27 := (Fld.other W23 (Fld.keep V_x k7 nin0) (Or.inr (slot_ne (Or.inr (own_w hw 20 rfl)) (Or.inr (own_w hw 21 rfl)) (by decide) (t := (.array .byte)) (t' := .byte) (by decide) (by decide))))
  have f28 := (Exa.wr W23 f22)
  obtain ⟨T29, h29, X29, e29, W29, st29⟩ := putF X23 hx hZ hown (host := "") (Or.inl (own_w hw 24 rfl)) Via.refl e23 f27 f28 (Or.inr ⟨(own_w hw 20 rfl), rfl, hnm⟩) (own_w hw 6 rfl) (ty := (.array .byte)) (by decide) rfl rfl (g := (mkF m 54 #[.val (.ref x), .val (.ref b), .val (.int (0 : Int32)), .val (.int (2 : Int32)), .val .null, .val (.ref x4)] [(.ref x4), (.ref x)])) rfl rfl (hb hby d3_54)
  have O30 := O24.wr W29 g_x
  have K31 : Keep h0 h29 [x] := K25.wr W29 (Or.inl (List.mem_of_getElem? (i := 0) rfl))
  have N32 := Fr.snoc X29 N26 g_x
  have F29 : Fld Z h29 x "java/lang/String" "value" "[B" (.ref x4) := Fld.same W29 f27
  have S33 : ∀ t, Steps p.tables e below (T29.setTop (mkF m 57 #[.val (.ref x), .val (.ref b), .val (.int (0 : Int32)), .val (.int (2 : Int32)), .val .null, .val (.ref x4)] [])) t → Steps p.tables e below (s₁.setTop (mkF m 0 #[.val (.ref x), .val (.ref b), .val (.int (0 : Int32)), .val (.int (2 : Int32)), .val .null, .unset] [])) t := by
    intro t kt
    refine XS.aloadN X0.here hx rfl (hb hby d3_0) rfl rfl ?_
    show Steps p.tables e below (s₁.setTop (mkF m 1 #[.val (.ref x), .val (.ref b), .val (.int (0 : Int32)), .val (.int (2 : Int32)), .val .null, .unset] [(.ref x)])) _
    refine st1 _ ?_
    refine XS.iloadN X1.here hx rfl (hb hby d3_4) rfl ?_
    refine XS.ifYes X1.here hx rfl (pc0 := 5) (pc' := 27) rfl (hb hby d3_5) rfl ((if0 _ _).trans (feq ((by decide) : ¬ ((2 : Int32) = (0 : Int32)))).2) (by decide) (by decide) ?_
    show Steps p.tables e below (T1.setTop (mkF m 27 #[.val (.ref x), .val (.ref b), .val (.int (0 : Int32)), .val (.int (2 : Int32)), .val .null, .unset] [])) _
    refine st2 _ ?_
    refine XS.ifNo X2.here hx rfl (hb hby d3_30) rfl ((if0 _ _).trans (feq (hzc : ¬ (zc = (0 : Int32)))).1) ?_
    refine XS.aloadN X2.here hx rfl (hb hby d3_33) rfl rfl ?_
    refine XS.iloadN X2.here hx rfl (hb hby d3_34) rfl ?_
    refine XS.iloadN X2.here hx rfl (hb hby d3_35) rfl ?_
    show Steps p.tables e below (T2.setTop (mkF m 36 #[.val (.ref x), .val (.ref b), .val (.int (0 : Int32)), .val (.int (2 : Int32)), .val .null, .unset] [(.int (2 : Int32)), (.int (0 : Int32)), (.ref b)])) _
    refine st3 _ ?_
    refine XS.astore X3.here hx rfl (hb hby d3_39) rfl rfl (l' := #[.val (.ref x), .val (.ref b), .val (.int (0 : Int32)), .val (.int (2 : Int32)), .val .null, .val (.ref x4)]) rfl ?_
    refine XS.aloadN X3.here hx rfl (hb hby d3_41) rfl rfl ?_
    refine XS.aload X3.here hx rfl (hb hby d3_42) rfl rfl ?_
    refine XS.iloadN X3.here hx rfl (hb hby d3_44) rfl ?_
    show Steps p.tables e below (T3.setTop (mkF m 45 #[.val (.ref x), .val (.ref b), .val (.int (0 : Int32)), .val (.int (2 : Int32)), .val .null, .val (.ref x4)] [(.int (2 : Int32)), (.ref x4), (.ref x)])) _
    refine st17 _ ?_
    show Steps p.tables e below (T17.setTop (mkF m 48 #[.val (.ref x), .val (.ref b), .val (.int (0 : Int32)), .val (.int (2 : Int32)), .val .null, .val (.ref x4)] [(.int (0 : Int32)), (.ref x)])) _
    refine st23 _ ?_
    refine XS.aloadN X23.here hx rfl (hb hby d3_51) rfl rfl ?_
    refine XS.aload X23.here hx rfl (hb hby d3_52) rfl rfl ?_
    show Steps p.tables e below (T23.setTop (mkF m 54 #[.val (.ref x), .val (.ref b), .val (.int (0 : Int32)), .val (.int (2 : Int32)), .val .null, .val (.ref x4)] [(.ref x4), (.ref x)])) _
    refine st29 _ ?_
    exact kt
  obtain ⟨fs, hr, hrun, hended, hW, hsame⟩ := X29.leave (v := none) (fun _ => rfl)
  have f34 := (Exa.wr W29 f28)
  have f35 := (Fld.other W29 F23 (Or.inr (slot_ne (Or.inr (own_w hw 21 rfl)) (Or.inr (own_w hw 20 rfl)) (by decide) (t := .byte) (t' := (.array .byte)) (by decide) (by decide))))
  have f36 := (Fld.other W29 (Fld.other W23 (Fld.keep H_x k7 nin0) (Or.inr (slot_ne (Or.inl (own_w hw 45 rfl)) (Or.inr (own_w hw 21 rfl)) (by decide) (t := .int) (t' := .byte) (by decide) (by decide)))) (Or.inr (slot_ne (Or.inl (own_w hw 45 rfl)) (Or.inr (own_w hw 20 rfl)) (by decide) (t := .int) (t' := (.array .byte)) (by decide) (by decide))))
  have f37 := (Fld.other W29 (Fld.other W23 (Fld.keep Z_x k7 nin0) (Or.inr (slot_ne (Or.inl (own_w hw 47 rfl)) (Or.inr (own_w hw 21 rfl)) (by decide) (t := .boolean) (t' := .byte) (by decide) (by decide)))) (Or.inr (slot_ne (Or.inl (own_w hw 47 rfl)) (Or.inr (own_w hw 20 rfl)) (by decide) (t := .boolean) (t' := (.array .byte)) (by decide) (by decide))))
  have f38 := (Exa.wr W29 (Exa.wr W23 f9))
  have f39 := (Arv.other (Arv.other f10 W23 (Ne.symm ne13)) W29 (Ne.symm ne13))
  refine ⟨_, _, pre0 _ (S33 _ ?_), hrun, hended, _, _, rfl, ?_, ⟨_, rfl⟩, hW, hsame.mono (by decide) (by decide)⟩
  · exact X29.returnOut hx Bd.returns (hb hby d3_57) hr
  · show Q_rm_siv2 Z x b kb c0 c1 zc h0 n0 _ T29.heap _
    rw [e29]
    exact ⟨x4, x5, rfl, N32, K31, f34, F29, f35, f36, f37, f38, f39⟩
theorem ef_rm_sin2 (m : MethodId) (x0 : Addr) (x1 : Addr) : entryFrame m #[(.ref x0), (.ref x1)] 2 = mkF m 0 #[.val (.ref x0), .val (.ref x1)] [] := by first | (simp [entryFrame, mkF, argsToLocals, Value.category]; done) | rfl
def Q_rm_sin2 (Z : State) (x : Addr) (b : Addr) (kb : ClassId) (c0 : Int32) (c1 : Int32) (zc : Int32) (h0 : Heap) (n0 : Nat) (v : Option Value) (h : Heap) (L : List Loc) : Prop := (∃ (tb : Addr) (kt : ClassId), (v = none) ∧ (Fr n0 L) ∧ (Keep h0 h [x]) ∧ (Exa Z h x "java/lang/String") ∧ (Fld Z h x "java/lang/String" "value" "[B" (.ref tb)) ∧ (Fld Z h x "java/lang/String" "coder" "B" (.int (0 : Int32))) ∧ (Fld Z h x "java/lang/String" "hash" "I" (.int (0 : Int32))) ∧ (Fld Z h x "java/lang/String" "hashIsZero" "Z" (.int (0 : Int32))) ∧ (Exa Z h tb "[B") ∧ (Arv Z h tb kt .byte (2 : Int32) [(.int c0.toInt8.toInt32), (.int c1.toInt8.toInt32)] (.int (0 : Int32))))
set_option maxRecDepth 65536 in
set_option maxHeartbeats 40000000 in
theorem rm_sin2 (l : Launch) (Z : State) (a0 : Array Value) (hw : ∀ d ∈ tables_1, d.before a0 Z = true) (ws : List Jvm.Cond) (x : Addr) (b : Addr) (kb : ClassId) (c0 : Int32) (c1 : Int32) (zc : Int32) (h0 : Heap) (n0 : Nat) (O0 : Old Z n0 h0) (E_x : Exa Z h0 x "java/lang/String") (V_x : Fld Z h0 x "java/lang/String" "value" "[B" .null) (C_x : Fld Z h0 x "java/lang/String" "coder" "B" (.int (0 : Int32))) (H_x : Fld Z h0 x "java/lang/String" "hash" "I" (.int (0 : Int32))) (Z_x : Fld Z h0 x "java/lang/String" "hashIsZero" "Z" (.int (0 : Int32))) (g_x : n0 ≤ x) (A_b : Arv Z h0 b kb .char (2 : Int32) [(.int c0), (.int c1)] (.int (0 : Int32))) (la_c0 : ¬ (c0 < (0 : Int32)) ∧ ¬ ((255 : Int32) < c0)) (la_c1 : ¬ (c1 < (0 : Int32)) ∧ ¬ ((255 : Int32) < c1)) (S_C : Sta Z Z.heap "java/lang/String" "COMPACT_STRINGS" "Z" (.int zc)) (hzc : ¬ (zc = (0 : Int32))) :
    MetFree l (⟨"java/lang/String", "<init>", "([C)V"⟩ : MethodName) (head1 (Jvm.Cond.code (⟨"java/lang/String", "<init>", "([C)V"⟩ : MethodName) jdk_42_method_3_code 2 none :: ws) ({ frames := 3, cells := 1, slots := 2, locals := 52 } : Room)) (fun a U => a = #[(.ref x), (.ref b)] ∧ Z.Warmed39 U.vm ∧ U.heap = h0) (fun _ _ _ _ _ => True) (fun _ U o U' => ∃ v L, o = .returned v ∧ Q_rm_sin2 Z x b kb c0 c1 zc h0 n0 v U'.heap L ∧ FrameEnd U o U' L ({ frames := 3, cells := 1, slots := 2, locals := 52 } : Room).cells ({ frames := 3, cells := 1, slots := 2, locals := 52 } : Room).slots) := by
  refine MetFree.of_bodySF (plainFor_of_name pn_1) hisR ?_
  intro p e s m args below meth c s₁ Bd hml0 hP hK
  obtain ⟨rfl, hZ, hh⟩ := hP
  have hx := Bd.exec
  have hby := Bd.bytes
  have hml : c.maxLocals = 2 := hml0
  have hown : s.vm.findClass "java/lang/String" = some m.cls := findClass_of_methodNamed Bd.named
  have hnm := (name_of_methodNamed Bd.named Bd.method).1
  have X0 : Stand p l e ({ frames := 3, cells := 1, slots := 2, locals := 52 } : Room) s m #[(.ref x), (.ref b)] below meth c s₁ [] 0 0 := Stand.of_body Bd
  have e0 : s₁.heap = h0 := by rw [← hh, Bd.state]; rfl
  have N0 := Fr.nil n0
  have hwl : ∀ d ∈ StrChars.Road.wordsLen, d.before a0 Z = true := fun d hd => hw d (own_wordsLen d hd)
  have hwc : ∀ d ∈ StrChars.Road.wordsChN, d.before a0 Z = true := fun d hd => hw d (own_wordsChN d hd)
  have hwq : ∀ d ∈ StrChars.Road.wordsEq, d.before a0 Z = true := fun d hd => hw d (own_wordsEq d hd)
  have K0 : Keep h0 h0 [x] := Keep.refl _ _
  have pre0 : ∀ t, Steps p.tables e below (s₁.setTop (mkF m 0 #[.val (.ref x), .val (.ref b)] [])) t → Steps p.tables e below (s₁.setTop (entryFrame m #[(.ref x), (.ref b)] 2)) t := fun t k => castTop (ef_rm_sin2 m x b) k
  obtain ⟨cl1, Ar1, -, Sz1, Nn1, -, -⟩ := id A_b
  obtain ⟨_, _, ⟨T2, L2, k2, n2⟩, -, X2, ⟨Lc2, hQ2, l2, y2, z2⟩, st2⟩ := X0.specialBack hx (y := (⟨"java/lang/String", "<init>", "([CIILjava/lang/Void;)V"⟩ : MethodName)) rfl hown (mvT hZ (own_w hw 11 rfl)) (mvT hZ (own_w hw 12 rfl)) (mvT hZ (own_w hw 14 rfl)) (by decide) (backOf (W := 0) (rm_siv2 l Z a0 hw [] x b kb c0 c1 zc h0 n0 O0 E_x V_x C_x H_x Z_x g_x A_b la_c0 la_c1 S_C hzc) hZ (own_w hw 14 rfl) (own_w hw 7 rfl) (by decide) (by decide)) (g := (mkF m 6 #[.val (.ref x), .val (.ref b)] [.null, (.int (2 : Int32)), (.int (0 : Int32)), (.ref b), (.ref x)])) rfl (by rw [hml]; rfl) (Steps.refl _) (a := x) (argsL := [(.ref b), (.int (0 : Int32)), (.int (2 : Int32)), .null]) (rest := []) (lenOf pd_1 rfl) rfl (by show 2 * 0 + _ ≤ _; exact Nat.le_of_eq rfl) (hb hby d4_6) (fun _ _ => ⟨rfl, e0, (by decide : 0 + 1 ≤ _), (by decide : 0 + 2 ≤ _)⟩)
  dsimp only [Pt.U, Pt.locs, Pt.cells, Pt.slots] at X2 l2 y2 z2 st2 hQ2
  subst l2 y2 z2
  obtain ⟨x3, x4, rfl, N5, k6, f7, f8, f9, f10, f11, f12, f13⟩ := hQ2
  have N14 := Fr.app N0 N5
  have O15 := O0.keep k6 (allS g_x all0)
  have K16 : Keep h0 T2.heap [x] := K0.trans k6 (allS (Or.inl (List.mem_of_getElem? (i := 0) rfl)) all0)
  have S17 : ∀ t, Steps p.tables e below (T2.setTop (mkF m 9 #[.val (.ref x), .val (.ref b)] [])) t → Steps p.tables e below (s₁.setTop (mkF m 0 #[.val (.ref x), .val (.ref b)] [])) t := by
    intro t kt
    refine XS.aloadN X0.here hx rfl (hb hby d4_0) rfl rfl ?_
    refine XS.aloadN X0.here hx rfl (hb hby d4_1) rfl rfl ?_
    refine XS.iconst X0.here hx rfl (hb hby d4_2) ?_
    refine XS.aloadN X0.here hx rfl (hb hby d4_3) rfl rfl ?_
    show Steps p.tables e below (s₁.setTop (mkF m 4 #[.val (.ref x), .val (.ref b)] [(.ref b), (.int (0 : Int32)), (.ref b), (.ref x)])) _
    refine X0.arraylength hx (by rw [e0]; exact Ar1.1) (State.isArrayOf_alike hZ.alike Ar1.2.1) (g := (mkF m 4 #[.val (.ref x), .val (.ref b)] [(.ref b), (.int (0 : Int32)), (.ref b), (.ref x)])) rfl rfl (hb hby d4_4) _ ?_
    rw [len_of Sz1 Nn1]
    refine XS.aconstNull X0.here hx rfl (hb hby d4_5) ?_
    show Steps p.tables e below (s₁.setTop (mkF m 6 #[.val (.ref x), .val (.ref b)] [.null, (.int (2 : Int32)), (.int (0 : Int32)), (.ref b), (.ref x)])) _
    refine st2.trans ?_
    exact kt
  obtain ⟨fs, hr, hrun, hended, hW, hsame⟩ := X2.leave (v := none) (fun _ => rfl)
  refine ⟨_, _, pre0 _ (S17 _ ?_), hrun, hended, _, _, rfl, ?_, ⟨_, rfl⟩, hW, hsame.mono (by decide) (by decide)⟩
  · exact X2.returnOut hx Bd.returns (hb hby d4_9) hr
  · show Q_rm_sin2 Z x b kb c0 c1 zc h0 n0 _ T2.heap _
    exact ⟨x3, x4, rfl, N14, K16, f7, f8, f9, f10, f11, f12, f13⟩
theorem own_m3 (x jv : Int32) (h : jv = ((x &&& (3 : Int32)) % (3 : Int32))) : jv = (0 : Int32) ∨ jv = (1 : Int32) ∨ jv = (2 : Int32) := by
  have a1 := c_and x 3 (by decide)
  have e3 : (3 : Int32).toInt = 3 := by decide
  have a2 := (c_iremV (x &&& (3 : Int32)) (3 : Int32)).1 a1.1 (by decide)
  rw [← h, e3] at a2
  have b1 : 0 ≤ jv.toInt := a2.1
  have b2 : jv.toInt < 3 := a2.2.1
  have key : ∀ n : Nat, n < 3 → jv.toInt = (n : Int) → jv = Int32.ofNat n := by
    intro n hn hi
    apply Int32.toInt_inj.mp
    rw [hi, Int32.toInt_ofNat_of_lt (by omega)]
  obtain ⟨n, hn⟩ := Int.eq_ofNat_of_zero_le b1
  have hlt : n < 3 := by omega
  have hk := key n hlt hn
  clear key hn b1 b2 h
  match n, hlt with
  | 0, _ => exact Or.inl hk
  | 1, _ => exact Or.inr (Or.inl hk)
  | 2, _ => exact Or.inr (Or.inr hk)
theorem own_cs0 (x : Int32) (h : (0 : Int32) = ((x &&& (3 : Int32)) % (3 : Int32))) : own_cs x = [] := by unfold own_cs; rw [if_pos h.symm]
theorem own_cs1 (x : Int32) (h : (1 : Int32) = ((x &&& (3 : Int32)) % (3 : Int32))) : own_cs x = [(((x.toUInt32 >>> ((8 : Int32) &&& 31).toUInt32).toInt32) &&& (255 : Int32))] := by unfold own_cs; rw [← h, if_neg (by decide), if_pos rfl]
theorem own_cs2 (x : Int32) (h : (2 : Int32) = ((x &&& (3 : Int32)) % (3 : Int32))) : own_cs x = [(((x.toUInt32 >>> ((8 : Int32) &&& 31).toUInt32).toInt32) &&& (255 : Int32)), (((x.toUInt32 >>> ((16 : Int32) &&& 31).toUInt32).toInt32) &&& (255 : Int32))] := by unfold own_cs; rw [← h, if_neg (by decide), if_neg (by decide)]
theorem d5_0 : decode method_2_code 0 = .ok (.iload_n 0, 1) := by decide +kernel
theorem d5_1 : decode method_2_code 1 = .ok (.iconst 3, 1) := by decide +kernel
theorem d5_2 : decode method_2_code 2 = .ok (.iand, 1) := by decide +kernel
theorem d5_3 : decode method_2_code 3 = .ok (.iconst 3, 1) := by decide +kernel
theorem d5_4 : decode method_2_code 4 = .ok (.irem, 1) := by decide +kernel
theorem d5_5 : decode method_2_code 5 = .ok (.istore_n 1, 1) := by decide +kernel
theorem d5_6 : decode method_2_code 6 = .ok (.iload_n 1, 1) := by decide +kernel
theorem d5_7 : decode method_2_code 7 = .ok (.newarray .char, 2) := by decide +kernel
theorem d5_9 : decode method_2_code 9 = .ok (.astore_n 2, 1) := by decide +kernel
theorem d5_10 : decode method_2_code 10 = .ok (.iload_n 1, 1) := by decide +kernel
theorem d5_11 : decode method_2_code 11 = .ok (.iconst 1, 1) := by decide +kernel
theorem d5_12 : decode method_2_code 12 = .ok (.if_icmp .lt 15, 3) := by decide +kernel
theorem d5_27 : decode method_2_code 27 = .ok (.iload_n 1, 1) := by decide +kernel
theorem d5_28 : decode method_2_code 28 = .ok (.iconst 2, 1) := by decide +kernel
theorem d5_29 : decode method_2_code 29 = .ok (.if_icmp .lt 15, 3) := by decide +kernel
theorem d5_44 : decode method_2_code 44 = .ok (.new 7, 3) := by decide +kernel
theorem d5_47 : decode method_2_code 47 = .ok (.dup, 1) := by decide +kernel
theorem d5_48 : decode method_2_code 48 = .ok (.aload_n 2, 1) := by decide +kernel
theorem d5_49 : decode method_2_code 49 = .ok (.invokespecial 9, 3) := by decide +kernel
theorem pd_4 : parseMethodDescriptor "([C)V" = some ⟨[(.array .char)], none⟩ := by decide +kernel
theorem d5_52 : decode method_2_code 52 = .ok (.areturn, 1) := by decide +kernel
theorem d5_15 : decode method_2_code 15 = .ok (.aload_n 2, 1) := by decide +kernel
theorem d5_16 : decode method_2_code 16 = .ok (.iconst 0, 1) := by decide +kernel
theorem d5_17 : decode method_2_code 17 = .ok (.iload_n 0, 1) := by decide +kernel
theorem d5_18 : decode method_2_code 18 = .ok (.bipush 8, 2) := by decide +kernel
theorem d5_20 : decode method_2_code 20 = .ok (.iushr, 1) := by decide +kernel
theorem d5_21 : decode method_2_code 21 = .ok (.sipush 255, 3) := by decide +kernel
theorem d5_24 : decode method_2_code 24 = .ok (.iand, 1) := by decide +kernel
theorem d5_25 : decode method_2_code 25 = .ok (.i2c, 1) := by decide +kernel
theorem d5_26 : decode method_2_code 26 = .ok (.castore, 1) := by decide +kernel
theorem d5_32 : decode method_2_code 32 = .ok (.aload_n 2, 1) := by decide +kernel
theorem d5_33 : decode method_2_code 33 = .ok (.iconst 1, 1) := by decide +kernel
theorem d5_34 : decode method_2_code 34 = .ok (.iload_n 0, 1) := by decide +kernel
theorem d5_35 : decode method_2_code 35 = .ok (.bipush 16, 2) := by decide +kernel
theorem d5_37 : decode method_2_code 37 = .ok (.iushr, 1) := by decide +kernel
theorem d5_38 : decode method_2_code 38 = .ok (.sipush 255, 3) := by decide +kernel
theorem d5_41 : decode method_2_code 41 = .ok (.iand, 1) := by decide +kernel
theorem d5_42 : decode method_2_code 42 = .ok (.i2c, 1) := by decide +kernel
theorem d5_43 : decode method_2_code 43 = .ok (.castore, 1) := by decide +kernel
theorem pn_2 : plainName "com/example/typecheck/typecheck/model/QNameEqualsPinLaw" = true := by first | (simp [plainName, overriddenIn]; done) | decide +kernel
theorem ef_rm_str (m : MethodId) (x0 : Int32) : entryFrame m #[(.int x0)] 3 = mkF m 0 #[.val (.int x0), .unset, .unset] [] := by first | (simp [entryFrame, mkF, argsToLocals, Value.category]; done) | rfl
def Q_rm_str (Z : State) (pp : Int32) (zc : Int32) (h0 : Heap) (n0 : Nat) (v : Option Value) (h : Heap) (L : List Loc) : Prop := (∃ (x : Addr) (tx : Addr) (kx : ClassId), (v = some (.ref x)) ∧ (Fr n0 L) ∧ (Keep h0 h []) ∧ (h0.size ≤ x) ∧ (Exa Z h x "java/lang/String") ∧ (Fld Z h x "java/lang/String" "value" "[B" (.ref tx)) ∧ (Fld Z h x "java/lang/String" "coder" "B" (.int (0 : Int32))) ∧ (Exa Z h tx "[B") ∧ (Arv Z h tx kx .byte (own_len (own_cs pp)) (own_vs (own_cs pp)) (.int (0 : Int32))) ∧ (Fld Z h x "java/lang/String" "hash" "I" (.int (0 : Int32))) ∧ (Fld Z h x "java/lang/String" "hashIsZero" "Z" (.int (0 : Int32))))
set_option maxRecDepth 65536 in
set_option maxHeartbeats 40000000 in
theorem rm_str (l : Launch) (Z : State) (a0 : Array Value) (hw : ∀ d ∈ tables_1, d.before a0 Z = true) (ws : List Jvm.Cond) (pp : Int32) (zc : Int32) (h0 : Heap) (n0 : Nat) (O0 : Old Z n0 h0) (S_C : Sta Z Z.heap "java/lang/String" "COMPACT_STRINGS" "Z" (.int zc)) (hzc : ¬ (zc = (0 : Int32))) :
    MetFree l (⟨"com/example/typecheck/typecheck/model/QNameEqualsPinLaw", "str", "(I)Ljava/lang/String;"⟩ : MethodName) (head1 (Jvm.Cond.code (⟨"com/example/typecheck/typecheck/model/QNameEqualsPinLaw", "str", "(I)Ljava/lang/String;"⟩ : MethodName) method_2_code 3 (some (.object "java/lang/String")) :: ws) ({ frames := 4, cells := 6, slots := 12, locals := 66 } : Room)) (fun a U => a = #[(.int pp)] ∧ Z.Warmed39 U.vm ∧ U.heap = h0 ∧ CHv Z own_EL U.vm h0 ∧ ∀ own_y ∈ ([] : List Addr), Safe Z own_EL U.vm h0 own_y) (fun _ _ _ _ _ => True) (fun _ U o U' => ∃ v L, o = .returned v ∧ Q_rm_str Z pp zc h0 n0 v U'.heap L ∧ CHr Z own_EL U.vm U.heap U'.vm U'.heap ∧ ReturnedEndW U o U' L ({ frames := 4, cells := 6, slots := 12, locals := 66 } : Room).cells ({ frames := 4, cells := 6, slots := 12, locals := 66 } : Room).slots) := by
  refine MetFree.of_bodySF (plainFor_of_name pn_2) hisR ?_
  intro p e s m args below meth c s₁ Bd hml0 hP hK
  obtain ⟨rfl, hZ, hh, hCH, hSf⟩ := hP
  have hx := Bd.exec
  have hby := Bd.bytes
  have hml : c.maxLocals = 3 := hml0
  have hown : s.vm.findClass "com/example/typecheck/typecheck/model/QNameEqualsPinLaw" = some m.cls := findClass_of_methodNamed Bd.named
  have hnm := (name_of_methodNamed Bd.named Bd.method).1
  have X0 : Stand p l e ({ frames := 4, cells := 6, slots := 12, locals := 66 } : Room) (s.setVm s.vm) m #[(.int pp)] below meth c s₁ [] 0 0 := Stand.of_body Bd
  have e0 : s₁.heap = h0 := by rw [← hh, Bd.state]; rfl
  have N0 := Fr.nil n0
  have hZ0 := hZ
  have ho0 := hown
  have hS0 : s.Since s.vm 0 := (State.WarmedH.refl s).since 0
  have hk0 : 0 ≤ h0.size := Nat.zero_le _
  have CR0 : CHr Z own_EL s.vm h0 s.vm h0 := CHr.refl hCH
  have own_at : ∀ d ∈ Bundle.stringAtoms, d.before a0 Z = true := fun d hd => hw d (own_atoms d hd)
  have own_ew : EW Z a0 own_EL := own_EWof hw
  have hwl : ∀ d ∈ StrChars.Road.wordsLen, d.before a0 Z = true := fun d hd => hw d (own_wordsLen d hd)
  have hwc : ∀ d ∈ StrChars.Road.wordsChN, d.before a0 Z = true := fun d hd => hw d (own_wordsChN d hd)
  have hwq : ∀ d ∈ StrChars.Road.wordsEq, d.before a0 Z = true := fun d hd => hw d (own_wordsEq d hd)
  have K0 : Keep h0 h0 [] := Keep.refl _ _
  have pre0 : ∀ t, Steps p.tables e below (s₁.setTop (mkF m 0 #[.val (.int pp), .unset, .unset] [])) t → Steps p.tables e below (s₁.setTop (entryFrame m #[(.int pp)] 3)) t := fun t k => castTop (ef_rm_str m pp) k
  have S1 : ∀ t, Steps p.tables e below (s₁.setTop (mkF m 5 #[.val (.int pp), .unset, .unset] [(.int ((pp &&& (3 : Int32)) % (3 : Int32)))])) t → Steps p.tables e below (s₁.setTop (mkF m 0 #[.val (.int pp), .unset, .unset] [])) t := by
    intro t kt
    refine XS.iloadN X0.here hx rfl (hb hby d5_0) rfl ?_
    refine XS.iconst X0.here hx rfl (hb hby d5_1) ?_
    refine XS.iand X0.here hx rfl (hb hby d5_2) rfl ?_
    refine XS.iconst X0.here hx rfl (hb hby d5_3) ?_
    show Steps p.tables e below (s₁.setTop (mkF m 4 #[.val (.int pp), .unset, .unset] [(.int (3 : Int32)), (.int (pp &&& (3 : Int32)))])) _
    refine Jvm.RoadKit.iremM (g := (mkF m 4 #[.val (.int pp), .unset, .unset] [(.int (3 : Int32)), (.int (pp &&& (3 : Int32)))])) X0 hx rfl (hb hby d5_4) rfl (by decide) ?_
    exact kt
  obtain ⟨jv, h_jv⟩ : ∃ z, z = ((pp &&& (3 : Int32)) % (3 : Int32)) := ⟨_, rfl⟩
  have S2 : ∀ t, Steps p.tables e below (s₁.setTop (mkF m 5 #[.val (.int pp), .unset, .unset] [(.int jv)])) t → Steps p.tables e below (s₁.setTop (mkF m 0 #[.val (.int pp), .unset, .unset] [])) t := by rw [h_jv]; exact S1
  rcases own_m3 pp jv h_jv with rfl | rfl | rfl
  · obtain ⟨T3, h3, k3, X3, e3, E3, A3, B3, st3⟩ := newPE X0 hx hZ0 (own_w hw 4 rfl) e0 (g := (mkF m 7 #[.val (.int pp), .val (.int (0 : Int32)), .unset] [(.int (0 : Int32))])) rfl (hb hby d5_7) rfl (by decide) (cap := 0) (by decide) (by decide) (by decide) (by decide) (ad := "[C") (by first | rfl | decide)
    obtain ⟨b3, g3⟩ : ∃ z, z = h0.size := ⟨_, rfl⟩
    have ge_b3 : n0 ≤ b3 := by rw [g3, ← O0.1]; exact O0.2.1
    have sz_b3 : h0.size ≤ b3 := by rw [g3]; exact K0.1
    rw [← g3] at A3 B3 st3
    have CR4 := CR0.trans (CHr.ext E3 CR0.1)
    have hk5 := Nat.le_trans hk0 E3.1
    have O6 := O0.ext E3
    have K7 : Keep h0 h3 [] := K0.ext E3
    have F3 : Arv Z h3 b3 k3 .char (0 : Int32) [] (.int (0 : Int32)) := (Arv.new A3 (by decide)).pad (pad_rep [] (.int (0 : Int32)) 0)
    obtain ⟨T8, h8, X8, e8, E8, A8, D8, -, st8⟩ := newO X3 hx hZ0 ho0 (own_w hw 5 rfl) (own_w hw 6 rfl) (own_w hw 7 rfl) e3 (g := (mkF m 44 #[.val (.int pp), .val (.int (0 : Int32)), .val (.ref b3)] [])) rfl (hb hby d5_44) (by decide) (by decide)
    obtain ⟨b8, g8⟩ : ∃ z, z = h3.size := ⟨_, rfl⟩
    have ge_b8 : n0 ≤ b8 := by rw [g8, ← O6.1]; exact O6.2.1
    have sz_b8 : h0.size ≤ b8 := by rw [g8]; exact K7.1
    have ne9 : b3 ≠ b8 := Nat.ne_of_lt (Nat.lt_of_lt_of_le (Exa.lt B3) (Nat.le_of_eq g8.symm))
    have sf10 : Safe Z own_EL s.vm h3 b8 := Safe.new (Nat.le_of_eq g8.symm)
    rw [← g8] at A8 D8 st8
    have CR11 := CR4.trans (CHr.ext E8 CR4.1)
    have hk12 := Nat.le_trans hk5 E8.1
    have sf13 := Safe.ext E8 CR4.1 sf10
    have O14 := O6.ext E8
    have K15 : Keep h0 h8 [] := K7.ext E8
    have F16 : Fld Z h8 b8 "java/lang/String" "value" "[B" .null := D8 (Or.inr (own_w hw 20 rfl)) (ty := (.array .byte)) (by decide)
    have F17 : Fld Z h8 b8 "java/lang/String" "coder" "B" (.int (0 : Int32)) := D8 (Or.inr (own_w hw 21 rfl)) (ty := .byte) (by decide)
    have F18 : Fld Z h8 b8 "java/lang/String" "hash" "I" (.int (0 : Int32)) := D8 (Or.inl (own_w hw 45 rfl)) (ty := .int) (by decide)
    have F19 : Fld Z h8 b8 "java/lang/String" "hashIsZero" "Z" (.int (0 : Int32)) := D8 (Or.inl (own_w hw 47 rfl)) (ty := .boolean) (by decide)
    have f21 := (Arv.ext F3 E8)
    obtain ⟨_, _, ⟨T20, L20, k20, n20⟩, -, Xq20, hSq20, hgq20, ⟨Lc20, hQ20, l20, y20, z20, C20⟩, st20⟩ := X8.specialBackS hx (y := (⟨"java/lang/String", "<init>", "([C)V"⟩ : MethodName)) rfl ho0 (mvT hZ0 (own_w hw 8 rfl)) (mvT hZ0 (own_w hw 9 rfl)) (mvT hZ0 (own_w hw 10 rfl)) (by decide) (own_backS (W := 1) (rm := ({ frames := 2, cells := 4, slots := 8, locals := 29 } : Room)) (xs := [b8]) (rm_sin0 l Z a0 hw [] b8 b3 k3 h8 n0 O14 A8 F16 F17 F18 F19 ge_b8 f21) hZ0 (own_w hw 10 rfl) (own_w hw 7 rfl) (by decide) (by decide) own_ew CR11.1 (allS (P := fun x => x < h8.size ∧ Safe Z own_EL s.vm h8 x) ⟨(Exa.lt A8), sf13⟩ all0)) (g := (mkF m 49 #[.val (.int pp), .val (.int (0 : Int32)), .val (.ref b3)] [(.ref b3), (.ref b8), (.ref b8)])) rfl (by rw [hml]; rfl) (Steps.refl _) (a := b8) (argsL := [(.ref b3)]) (rest := [(.ref b8)]) (lenOf pd_4 rfl) rfl (by show 2 * 0 + _ ≤ _; exact Nat.le_of_eq rfl) (hb hby d5_49) (fun _ _ => ⟨rfl, e8, (by decide : 2 + 4 ≤ _), (by decide : 4 + 8 ≤ _)⟩)
    dsimp only [Pt.U, Pt.locs, Pt.cells, Pt.slots] at Xq20 hSq20 hgq20 l20 y20 z20 st20 hQ20 C20
    obtain ⟨X20, hS20, hZ20, ho20⟩ := rebS hS0 (by rw [e8]; exact hk12) Xq20 hSq20 hgq20 hZ0 ho0
    subst l20 y20 z20
    obtain ⟨x22, x23, rfl, N24, k25, f26, f27, f28, f29, f30, f31, f32⟩ := hQ20
    have N33 := Fr.app N0 N24
    have sf34 := CHr.safe C20 (Exa.lt A8) sf13
    have CR35 := CR11.trans C20
    have hk36 : T20.heap.size ≤ T20.heap.size := Nat.le_refl _
    have O37 := O14.keep k25 (allS ge_b8 all0)
    have K38 : Keep h0 T20.heap [] := K15.trans k25 (allS (Or.inr sz_b8) all0)
    have S39 : ∀ t, Steps p.tables e below (T20.setTop (mkF m 52 #[.val (.int pp), .val (.int (0 : Int32)), .val (.ref b3)] [(.ref b8)])) t → Steps p.tables e below (s₁.setTop (mkF m 0 #[.val (.int pp), .unset, .unset] [])) t := by
      intro t kt
      refine S2 t ?_
      refine XS.istoreN X0.here hx rfl (hb hby d5_5) rfl (l' := #[.val (.int pp), .val (.int (0 : Int32)), .unset]) rfl ?_
      refine XS.iloadN X0.here hx rfl (hb hby d5_6) rfl ?_
      show Steps p.tables e below (s₁.setTop (mkF m 7 #[.val (.int pp), .val (.int (0 : Int32)), .unset] [(.int (0 : Int32))])) _
      refine st3 _ ?_
      refine XS.astoreN X3.here hx rfl (hb hby d5_9) rfl rfl (l' := #[.val (.int pp), .val (.int (0 : Int32)), .val (.ref b3)]) rfl ?_
      refine XS.iloadN X3.here hx rfl (hb hby d5_10) rfl ?_
      refine XS.iconst X3.here hx rfl (hb hby d5_11) ?_
      refine XS.icmpYes X3.here hx rfl (pc0 := 12) (pc' := 27) rfl (hb hby d5_12) rfl (tlt ((by decide) : (0 : Int32) < (1 : Int32))).1 (by decide) (by decide) ?_
      refine XS.iloadN X3.here hx rfl (hb hby d5_27) rfl ?_
      show Steps p.tables e below (T3.setTop (mkF m 28 #[.val (.int pp), .val (.int (0 : Int32)), .val (.ref b3)] [(.int (0 : Int32))])) _
      refine XS.iconst X3.here hx rfl (hb hby d5_28) ?_
      refine XS.icmpYes X3.here hx rfl (pc0 := 29) (pc' := 44) rfl (hb hby d5_29) rfl (tlt ((by decide) : (0 : Int32) < (2 : Int32))).1 (by decide) (by decide) ?_
      show Steps p.tables e below (T3.setTop (mkF m 44 #[.val (.int pp), .val (.int (0 : Int32)), .val (.ref b3)] [])) _
      refine st8 _ ?_
      refine XS.dup X8.here hx rfl (hb hby d5_47) rfl rfl ?_
      refine XS.aloadN X8.here hx rfl (hb hby d5_48) rfl rfl ?_
      show Steps p.tables e below (T8.setTop (mkF m 49 #[.val (.int pp), .val (.int (0 : Int32)), .val (.ref b3)] [(.ref b3), (.ref b8), (.ref b8)])) _
      refine st20.trans ?_
      exact kt
    have K40 : Arv Z T20.heap x22 x23 .byte (own_len (own_cs pp)) (own_vs (own_cs pp)) (.int (0 : Int32)) := by rw [own_cs0 pp h_jv]; exact f32
    obtain ⟨fs, hr, hrun, hended, hRW⟩ := X20.leaveW hS20 (by exact hk36) (v := some (.ref b8)) (fun h => by rw [Bd.returns] at h; cases h)
    refine ⟨_, _, pre0 _ (S39 _ ?_), hrun, hended, _, _, rfl, ?_, ?_, hRW.1, hRW.2.1, hRW.2.2.1, hRW.2.2.2.mono (by decide) (by decide)⟩
    · exact retOut X20 hx Bd.returns rfl (Or.inr (Or.inr (Or.inr (Or.inr ⟨rfl, rfl, rfl⟩)))) (hb hby d5_52) hr
    · show Q_rm_str Z pp zc h0 n0 _ T20.heap _
      exact ⟨b8, x22, x23, rfl, N33, K38, sz_b8, f26, f27, f28, f31, K40, f29, f30⟩
    · show CHr Z own_EL s.vm s.heap T20.vm T20.heap
      rw [hh]
      exact CR35.trans (CHv.at X20 hZ20 own_ew CR35.1)
  · obtain ⟨T41, h41, k41, X41, e41, E41, A41, B41, st41⟩ := newPE X0 hx hZ0 (own_w hw 4 rfl) e0 (g := (mkF m 7 #[.val (.int pp), .val (.int (1 : Int32)), .unset] [(.int (1 : Int32))])) rfl (hb hby d5_7) rfl (by decide) (cap := 1) (by decide) (by decide) (by decide) (by decide) (ad := "[C") (by first | rfl | decide)
    obtain ⟨b41, g41⟩ : ∃ z, z = h0.size := ⟨_, rfl⟩
    have ge_b41 : n0 ≤ b41 := by rw [g41, ← O0.1]; exact O0.2.1
    have sz_b41 : h0.size ≤ b41 := by rw [g41]; exact K0.1
    rw [← g41] at A41 B41 st41
    have CR42 := CR0.trans (CHr.ext E41 CR0.1)
    have hk43 := Nat.le_trans hk0 E41.1
    have O44 := O0.ext E41
    have K45 : Keep h0 h41 [] := K0.ext E41
    have F41 : Arv Z h41 b41 k41 .char (1 : Int32) [(.int (0 : Int32))] (.int (0 : Int32)) := (Arv.new A41 (by decide)).pad (pad_rep [] (.int (0 : Int32)) 1)
    obtain ⟨cl46, Ar46, q46, Sz46, Nn46, Hh46, Gg46⟩ := id F41
    have in46 : ¬ ((0 : Int32) < 0 ∨ cl46.slots.size ≤ ((0 : Int32)).toNatClampNeg) := inb_of Sz46 ⟨by decide, by decide⟩
    obtain ⟨T46, h46, X46, e46, W46, st46⟩ := stC X41 hx hZ0 e41 Ar46 (j := (0 : Int32)) in46 (g := (mkF m 26 #[.val (.int pp), .val (.int (1 : Int32)), .val (.ref b41)] [(.int (((pp.toUInt32 >>> ((8 : Int32) &&& 31).toUInt32).toInt32) &&& (255 : Int32))), (.int (0 : Int32)), (.ref b41)])) rfl rfl (hb hby d5_26)
    rw [show nar .char (((pp.toUInt32 >>> ((8 : Int32) &&& 31).toUInt32).toInt32) &&& (255 : Int32)) = (((pp.toUInt32 >>> ((8 : Int32) &&& 31).toUInt32).toInt32) &&& (255 : Int32)) from i2c_mask _] at W46
    have CR47 := CR42.trans (CHr.wr W46 (Safe.exa hZ0.alike B41 (by decide) (by decide)) CR42.1)
    have hk48 := Nat.le_trans hk43 (Keep.of_wr W46).1
    have O49 := O44.wr W46 ge_b41
    have K50 : Keep h0 h46 [] := K45.wr W46 (Or.inr sz_b41)
    have N51 := Fr.snoc X46 N0 ge_b41
    have F46 : Arv Z h46 b41 k41 .char (1 : Int32) [(.int (((pp.toUInt32 >>> ((8 : Int32) &&& 31).toUInt32).toInt32) &&& (255 : Int32)))] (.int (0 : Int32)) := Arv.set Ar46 q46 Sz46 Nn46 Hh46 Gg46 (by rw [← (i2c_mask _ : nar .char (((pp.toUInt32 >>> ((8 : Int32) &&& 31).toUInt32).toInt32) &&& (255 : Int32)) = (((pp.toUInt32 >>> ((8 : Int32) &&& 31).toUInt32).toInt32) &&& (255 : Int32)))]; exact fits_nar_char _) W46 0 rfl (Nat.le_of_ble_eq_true rfl)
    obtain ⟨T52, h52, X52, e52, E52, A52, D52, -, st52⟩ := newO X46 hx hZ0 ho0 (own_w hw 5 rfl) (own_w hw 6 rfl) (own_w hw 7 rfl) e46 (g := (mkF m 44 #[.val (.int pp), .val (.int (1 : Int32)), .val (.ref b41)] [])) rfl (hb hby d5_44) (by decide) (by decide)
    obtain ⟨b52, g52⟩ : ∃ z, z = h46.size := ⟨_, rfl⟩
    have ge_b52 : n0 ≤ b52 := by rw [g52, ← O49.1]; exact O49.2.1
    have sz_b52 : h0.size ≤ b52 := by rw [g52]; exact K50.1
    have f53 := (Exa.wr W46 B41)
    have ne54 : b41 ≠ b52 := Nat.ne_of_lt (Nat.lt_of_lt_of_le (Exa.lt f53) (Nat.le_of_eq g52.symm))
    have sf55 : Safe Z own_EL s.vm h46 b52 := Safe.new (Nat.le_of_eq g52.symm)
    rw [← g52] at A52 D52 st52
    have CR56 := CR47.trans (CHr.ext E52 CR47.1)
    have hk57 := Nat.le_trans hk48 E52.1
    have sf58 := Safe.ext E52 CR47.1 sf55
    have O59 := O49.ext E52
    have K60 : Keep h0 h52 [] := K50.ext E52
    have F61 : Fld Z h52 b52 "java/lang/String" "value" "[B" .null := D52 (Or.inr (own_w hw 20 rfl)) (ty := (.array .byte)) (by decide)
    have F62 : Fld Z h52 b52 "java/lang/String" "coder" "B" (.int (0 : Int32)) := D52 (Or.inr (own_w hw 21 rfl)) (ty := .byte) (by decide)
    have F63 : Fld Z h52 b52 "java/lang/String" "hash" "I" (.int (0 : Int32)) := D52 (Or.inl (own_w hw 45 rfl)) (ty := .int) (by decide)
    have F64 : Fld Z h52 b52 "java/lang/String" "hashIsZero" "Z" (.int (0 : Int32)) := D52 (Or.inl (own_w hw 47 rfl)) (ty := .boolean) (by decide)
    have f66 := (Arv.ext F46 E52)
    obtain ⟨_, _, ⟨T65, L65, k65, n65⟩, -, X65, ⟨Lc65, hQ65, l65, y65, z65⟩, st65⟩ := X52.specialBack hx (y := (⟨"java/lang/String", "<init>", "([C)V"⟩ : MethodName)) rfl ho0 (mvT hZ0 (own_w hw 8 rfl)) (mvT hZ0 (own_w hw 9 rfl)) (mvT hZ0 (own_w hw 10 rfl)) (by decide) (backOf (W := 1) (rm_sin1 l Z a0 hw [] b52 b41 k41 (((pp.toUInt32 >>> ((8 : Int32) &&& 31).toUInt32).toInt32) &&& (255 : Int32)) zc h52 n0 O59 A52 F61 F62 F63 F64 ge_b52 f66 (own_lat _) S_C hzc) hZ0 (own_w hw 10 rfl) (own_w hw 7 rfl) (by decide) (by decide)) (g := (mkF m 49 #[.val (.int pp), .val (.int (1 : Int32)), .val (.ref b41)] [(.ref b41), (.ref b52), (.ref b52)])) rfl (by rw [hml]; rfl) (Steps.refl _) (a := b52) (argsL := [(.ref b41)]) (rest := [(.ref b52)]) (lenOf pd_4 rfl) rfl (by show 2 * 0 + _ ≤ _; exact Nat.le_of_eq rfl) (hb hby d5_49) (fun _ _ => ⟨rfl, e52, (by decide : 2 + 1 ≤ _), (by decide : 5 + 1 ≤ _)⟩)
    dsimp only [Pt.U, Pt.locs, Pt.cells, Pt.slots] at X65 l65 y65 z65 st65 hQ65
    subst l65 y65 z65
    obtain ⟨x67, x68, rfl, N69, k70, f71, f72, f73, f74, f75, f76, f77⟩ := hQ65
    have N78 := Fr.app N51 N69
    have CR79 := CR56.trans (CHr.keep k70 (sfS sf58 sf0) CR56.1)
    have hk80 := Nat.le_trans hk57 k70.1
    have sf81 := Safe.keep k70 (sfS sf58 sf0) CR56.1 sf58
    have O82 := O59.keep k70 (allS ge_b52 all0)
    have K83 : Keep h0 T65.heap [] := K60.trans k70 (allS (Or.inr sz_b52) all0)
    have S84 : ∀ t, Steps p.tables e below (T65.setTop (mkF m 52 #[.val (.int pp), .val (.int (1 : Int32)), .val (.ref b41)] [(.ref b52)])) t → Steps p.tables e below (s₁.setTop (mkF m 0 #[.val (.int pp), .unset, .unset] [])) t := by
      intro t kt
      refine S2 t ?_
      refine XS.istoreN X0.here hx rfl (hb hby d5_5) rfl (l' := #[.val (.int pp), .val (.int (1 : Int32)), .unset]) rfl ?_
      refine XS.iloadN X0.here hx rfl (hb hby d5_6) rfl ?_
      show Steps p.tables e below (s₁.setTop (mkF m 7 #[.val (.int pp), .val (.int (1 : Int32)), .unset] [(.int (1 : Int32))])) _
      refine st41 _ ?_
      refine XS.astoreN X41.here hx rfl (hb hby d5_9) rfl rfl (l' := #[.val (.int pp), .val (.int (1 : Int32)), .val (.ref b41)]) rfl ?_
      refine XS.iloadN X41.here hx rfl (hb hby d5_10) rfl ?_
      refine XS.iconst X41.here hx rfl (hb hby d5_11) ?_
      refine XS.icmpNo X41.here hx rfl (hb hby d5_12) rfl (flt ((by decide) : ¬ ((1 : Int32) < (1 : Int32)))).1 ?_
      refine XS.aloadN X41.here hx rfl (hb hby d5_15) rfl rfl ?_
      show Steps p.tables e below (T41.setTop (mkF m 16 #[.val (.int pp), .val (.int (1 : Int32)), .val (.ref b41)] [(.ref b41)])) _
      refine XS.iconst X41.here hx rfl (hb hby d5_16) ?_
      refine XS.iloadN X41.here hx rfl (hb hby d5_17) rfl ?_
      refine XS.bipush X41.here hx rfl (hb hby d5_18) ?_
      refine XS.iushr X41.here hx rfl (hb hby d5_20) rfl ?_
      refine XS.sipush X41.here hx rfl (hb hby d5_21) ?_
      refine XS.iand X41.here hx rfl (hb hby d5_24) rfl ?_
      show Steps p.tables e below (T41.setTop (mkF m 25 #[.val (.int pp), .val (.int (1 : Int32)), .val (.ref b41)] [(.int (((pp.toUInt32 >>> ((8 : Int32) &&& 31).toUInt32).toInt32) &&& (255 : Int32))), (.int (0 : Int32)), (.ref b41)])) _
      refine XS.i2c X41.here hx rfl (hb hby d5_25) rfl ?_
      change Steps p.tables e below (T41.setTop (mkF m 26 #[.val (.int pp), .val (.int (1 : Int32)), .val (.ref b41)] [(.int ((((pp.toUInt32 >>> ((8 : Int32) &&& 31).toUInt32).toInt32) &&& (255 : Int32)).toUInt32.toUInt16.toUInt32.toInt32)), (.int (0 : Int32)), (.ref b41)])) _
      rw [i2c_mask]
      show Steps p.tables e below (T41.setTop (mkF m 26 #[.val (.int pp), .val (.int (1 : Int32)), .val (.ref b41)] [(.int (((pp.toUInt32 >>> ((8 : Int32) &&& 31).toUInt32).toInt32) &&& (255 : Int32))), (.int (0 : Int32)), (.ref b41)])) _
      refine st46 _ ?_
      refine XS.iloadN X46.here hx rfl (hb hby d5_27) rfl ?_
      refine XS.iconst X46.here hx rfl (hb hby d5_28) ?_
      refine XS.icmpYes X46.here hx rfl (pc0 := 29) (pc' := 44) rfl (hb hby d5_29) rfl (tlt ((by decide) : (1 : Int32) < (2 : Int32))).1 (by decide) (by decide) ?_
      show Steps p.tables e below (T46.setTop (mkF m 44 #[.val (.int pp), .val (.int (1 : Int32)), .val (.ref b41)] [])) _
      refine st52 _ ?_
      refine XS.dup X52.here hx rfl (hb hby d5_47) rfl rfl ?_
      refine XS.aloadN X52.here hx rfl (hb hby d5_48) rfl rfl ?_
      show Steps p.tables e below (T52.setTop (mkF m 49 #[.val (.int pp), .val (.int (1 : Int32)), .val (.ref b41)] [(.ref b41), (.ref b52), (.ref b52)])) _
      refine st65.trans ?_
      exact kt
    have K85 : Arv Z T65.heap x67 x68 .byte (own_len (own_cs pp)) (own_vs (own_cs pp)) (.int (0 : Int32)) := by rw [own_cs1 pp h_jv]; exact f77
    obtain ⟨fs, hr, hrun, hended, hRW⟩ := X65.leaveW hS0 (by exact hk80) (v := some (.ref b52)) (fun h => by rw [Bd.returns] at h; cases h)
    refine ⟨_, _, pre0 _ (S84 _ ?_), hrun, hended, _, _, rfl, ?_, ?_, hRW.1, hRW.2.1, hRW.2.2.1, hRW.2.2.2.mono (by decide) (by decide)⟩
    · exact retOut X65 hx Bd.returns rfl (Or.inr (Or.inr (Or.inr (Or.inr ⟨rfl, rfl, rfl⟩)))) (hb hby d5_52) hr
    · show Q_rm_str Z pp zc h0 n0 _ T65.heap _
      exact ⟨b52, x67, x68, rfl, N78, K83, sz_b52, f71, f72, f73, f76, K85, f74, f75⟩
    · show CHr Z own_EL s.vm s.heap T65.vm T65.heap
      rw [hh]
      exact CR79.trans (CHv.at X65 hZ0 own_ew CR79.1)
  · obtain ⟨T86, h86, k86, X86, e86, E86, A86, B86, st86⟩ := newPE X0 hx hZ0 (own_w hw 4 rfl) e0 (g := (mkF m 7 #[.val (.int pp), .val (.int (2 : Int32)), .unset] [(.int (2 : Int32))])) rfl (hb hby d5_7) rfl (by decide) (cap := 2) (by decide) (by decide) (by decide) (by decide) (ad := "[C") (by first | rfl | decide)
    obtain ⟨b86, g86⟩ : ∃ z, z = h0.size := ⟨_, rfl⟩
    have ge_b86 : n0 ≤ b86 := by rw [g86, ← O0.1]; exact O0.2.1
    have sz_b86 : h0.size ≤ b86 := by rw [g86]; exact K0.1
    rw [← g86] at A86 B86 st86
    have CR87 := CR0.trans (CHr.ext E86 CR0.1)
    have hk88 := Nat.le_trans hk0 E86.1
    have O89 := O0.ext E86
    have K90 : Keep h0 h86 [] := K0.ext E86
    have F86 : Arv Z h86 b86 k86 .char (2 : Int32) [(.int (0 : Int32)), (.int (0 : Int32))] (.int (0 : Int32)) := (Arv.new A86 (by decide)).pad (pad_rep [] (.int (0 : Int32)) 2)
    obtain ⟨cl91, Ar91, q91, Sz91, Nn91, Hh91, Gg91⟩ := id F86
    have in91 : ¬ ((0 : Int32) < 0 ∨ cl91.slots.size ≤ ((0 : Int32)).toNatClampNeg) := inb_of Sz91 ⟨by decide, by decide⟩
    obtain ⟨T91, h91, X91, e91, W91, st91⟩ := stC X86 hx hZ0 e86 Ar91 (j := (0 : Int32)) in91 (g := (mkF m 26 #[.val (.int pp), .val (.int (2 : Int32)), .val (.ref b86)] [(.int (((pp.toUInt32 >>> ((8 : Int32) &&& 31).toUInt32).toInt32) &&& (255 : Int32))), (.int (0 : Int32)), (.ref b86)])) rfl rfl (hb hby d5_26)
    rw [show nar .char (((pp.toUInt32 >>> ((8 : Int32) &&& 31).toUInt32).toInt32) &&& (255 : Int32)) = (((pp.toUInt32 >>> ((8 : Int32) &&& 31).toUInt32).toInt32) &&& (255 : Int32)) from i2c_mask _] at W91
    have CR92 := CR87.trans (CHr.wr W91 (Safe.exa hZ0.alike B86 (by decide) (by decide)) CR87.1)
    have hk93 := Nat.le_trans hk88 (Keep.of_wr W91).1
    have O94 := O89.wr W91 ge_b86
    have K95 : Keep h0 h91 [] := K90.wr W91 (Or.inr sz_b86)
    have N96 := Fr.snoc X91 N0 ge_b86
    have F91 : Arv Z h91 b86 k86 .char (2 : Int32) [(.int (((pp.toUInt32 >>> ((8 : Int32) &&& 31).toUInt32).toInt32) &&& (255 : Int32))), (.int (0 : Int32))] (.int (0 : Int32)) := Arv.set Ar91 q91 Sz91 Nn91 Hh91 Gg91 (by rw [← (i2c_mask _ : nar .char (((pp.toUInt32 >>> ((8 : Int32) &&& 31).toUInt32).toInt32) &&& (255 : Int32)) = (((pp.toUInt32 >>> ((8 : Int32) &&& 31).toUInt32).toInt32) &&& (255 : Int32)))]; exact fits_nar_char _) W91 0 rfl (Nat.le_of_ble_eq_true rfl)
    obtain ⟨cl97, Ar97, q97, Sz97, Nn97, Hh97, Gg97⟩ := id F91
    have in97 : ¬ ((1 : Int32) < 0 ∨ cl97.slots.size ≤ ((1 : Int32)).toNatClampNeg) := inb_of Sz97 ⟨by decide, by decide⟩
    obtain ⟨T97, h97, X97, e97, W97, st97⟩ := stC X91 hx hZ0 e91 Ar97 (j := (1 : Int32)) in97 (g := (mkF m 43 #[.val (.int pp), .val (.int (2 : Int32)), .val (.ref b86)] [(.int (((pp.toUInt32 >>> ((16 : Int32) &&& 31).toUInt32).toInt32) &&& (255 : Int32))), (.int (1 : Int32)), (.ref b86)])) rfl rfl (hb hby d5_43)
    rw [show nar .char (((pp.toUInt32 >>> ((16 : Int32) &&& 31).toUInt32).toInt32) &&& (255 : Int32)) = (((pp.toUInt32 >>> ((16 : Int32) &&& 31).toUInt32).toInt32) &&& (255 : Int32)) from i2c_mask _] at W97
    have f98 := (Exa.wr W91 B86)
    have CR99 := CR92.trans (CHr.wr W97 (Safe.exa hZ0.alike f98 (by decide) (by decide)) CR92.1)
    have hk100 := Nat.le_trans hk93 (Keep.of_wr W97).1
    have O101 := O94.wr W97 ge_b86
    have K102 : Keep h0 h97 [] := K95.wr W97 (Or.inr sz_b86)
    have N103 := Fr.snoc X97 N96 ge_b86
    have F97 : Arv Z h97 b86 k86 .char (2 : Int32) [(.int (((pp.toUInt32 >>> ((8 : Int32) &&& 31).toUInt32).toInt32) &&& (255 : Int32))), (.int (((pp.toUInt32 >>> ((16 : Int32) &&& 31).toUInt32).toInt32) &&& (255 : Int32)))] (.int (0 : Int32)) := Arv.set Ar97 q97 Sz97 Nn97 Hh97 Gg97 (by rw [← (i2c_mask _ : nar .char (((pp.toUInt32 >>> ((16 : Int32) &&& 31).toUInt32).toInt32) &&& (255 : Int32)) = (((pp.toUInt32 >>> ((16 : Int32) &&& 31).toUInt32).toInt32) &&& (255 : Int32)))]; exact fits_nar_char _) W97 1 rfl (Nat.le_of_ble_eq_true rfl)
    obtain ⟨T104, h104, X104, e104, E104, A104, D104, -, st104⟩ := newO X97 hx hZ0 ho0 (own_w hw 5 rfl) (own_w hw 6 rfl) (own_w hw 7 rfl) e97 (g := (mkF m 44 #[.val (.int pp), .val (.int (2 : Int32)), .val (.ref b86)] [])) rfl (hb hby d5_44) (by decide) (by decide)
    obtain ⟨b104, g104⟩ : ∃ z, z = h97.size := ⟨_, rfl⟩
    have ge_b104 : n0 ≤ b104 := by rw [g104, ← O101.1]; exact O101.2.1
    have sz_b104 : h0.size ≤ b104 := by rw [g104]; exact K102.1
    have f105 := (Exa.wr W97 f98)
    have ne106 : b86 ≠ b104 := Nat.ne_of_lt (Nat.lt_of_lt_of_le (Exa.lt f105) (Nat.le_of_eq g104.symm))
    have sf107 : Safe Z own_EL s.vm h97 b104 := Safe.new (Nat.le_of_eq g104.symm)
    rw [← g104] at A104 D104 st104
    have CR108 := CR99.trans (CHr.ext E104 CR99.1)
    have hk109 := Nat.le_trans hk100 E104.1
    have sf110 := Safe.ext E104 CR99.1 sf107
    have O111 := O101.ext E104
    have K112 : Keep h0 h104 [] := K102.ext E104
    have F113 : Fld Z h104 b104 "java/lang/String" "value" "[B" .null := D104 (Or.inr (own_w hw 20 rfl)) (ty := (.array .byte)) (by decide)
    have F114 : Fld Z h104 b104 "java/lang/String" "coder" "B" (.int (0 : Int32)) := D104 (Or.inr (own_w hw 21 rfl)) (ty := .byte) (by decide)
    have F115 : Fld Z h104 b104 "java/lang/String" "hash" "I" (.int (0 : Int32)) := D104 (Or.inl (own_w hw 45 rfl)) (ty := .int) (by decide)
    have F116 : Fld Z h104 b104 "java/lang/String" "hashIsZero" "Z" (.int (0 : Int32)) := D104 (Or.inl (own_w hw 47 rfl)) (ty := .boolean) (by decide)
    have f118 := (Arv.ext F97 E104)
    obtain ⟨_, _, ⟨T117, L117, k117, n117⟩, -, X117, ⟨Lc117, hQ117, l117, y117, z117⟩, st117⟩ := X104.specialBack hx (y := (⟨"java/lang/String", "<init>", "([C)V"⟩ : MethodName)) rfl ho0 (mvT hZ0 (own_w hw 8 rfl)) (mvT hZ0 (own_w hw 9 rfl)) (mvT hZ0 (own_w hw 10 rfl)) (by decide) (backOf (W := 1) (rm_sin2 l Z a0 hw [] b104 b86 k86 (((pp.toUInt32 >>> ((8 : Int32) &&& 31).toUInt32).toInt32) &&& (255 : Int32)) (((pp.toUInt32 >>> ((16 : Int32) &&& 31).toUInt32).toInt32) &&& (255 : Int32)) zc h104 n0 O111 A104 F113 F114 F115 F116 ge_b104 f118 (own_lat _) (own_lat _) S_C hzc) hZ0 (own_w hw 10 rfl) (own_w hw 7 rfl) (by decide) (by decide)) (g := (mkF m 49 #[.val (.int pp), .val (.int (2 : Int32)), .val (.ref b86)] [(.ref b86), (.ref b104), (.ref b104)])) rfl (by rw [hml]; rfl) (Steps.refl _) (a := b104) (argsL := [(.ref b86)]) (rest := [(.ref b104)]) (lenOf pd_4 rfl) rfl (by show 2 * 0 + _ ≤ _; exact Nat.le_of_eq rfl) (hb hby d5_49) (fun _ _ => ⟨rfl, e104, (by decide : 2 + 1 ≤ _), (by decide : 6 + 2 ≤ _)⟩)
    dsimp only [Pt.U, Pt.locs, Pt.cells, Pt.slots] at X117 l117 y117 z117 st117 hQ117
    subst l117 y117 z117
    obtain ⟨x119, x120, rfl, N121, k122, f123, f124, f125, f126, f127, f128, f129⟩ := hQ117
    have N130 := Fr.app N103 N121
    have CR131 := CR108.trans (CHr.keep k122 (sfS sf110 sf0) CR108.1)
    have hk132 := Nat.le_trans hk109 k122.1
    have sf133 := Safe.keep k122 (sfS sf110 sf0) CR108.1 sf110
    have O134 := O111.keep k122 (allS ge_b104 all0)
    have K135 : Keep h0 T117.heap [] := K112.trans k122 (allS (Or.inr sz_b104) all0)
    have S136 : ∀ t, Steps p.tables e below (T117.setTop (mkF m 52 #[.val (.int pp), .val (.int (2 : Int32)), .val (.ref b86)] [(.ref b104)])) t → Steps p.tables e below (s₁.setTop (mkF m 0 #[.val (.int pp), .unset, .unset] [])) t := by
      intro t kt
      refine S2 t ?_
      refine XS.istoreN X0.here hx rfl (hb hby d5_5) rfl (l' := #[.val (.int pp), .val (.int (2 : Int32)), .unset]) rfl ?_
      refine XS.iloadN X0.here hx rfl (hb hby d5_6) rfl ?_
      show Steps p.tables e below (s₁.setTop (mkF m 7 #[.val (.int pp), .val (.int (2 : Int32)), .unset] [(.int (2 : Int32))])) _
      refine st86 _ ?_
      refine XS.astoreN X86.here hx rfl (hb hby d5_9) rfl rfl (l' := #[.val (.int pp), .val (.int (2 : Int32)), .val (.ref b86)]) rfl ?_
      refine XS.iloadN X86.here hx rfl (hb hby d5_10) rfl ?_
      refine XS.iconst X86.here hx rfl (hb hby d5_11) ?_
      refine XS.icmpNo X86.here hx rfl (hb hby d5_12) rfl (flt ((by decide) : ¬ ((2 : Int32) < (1 : Int32)))).1 ?_
      refine XS.aloadN X86.here hx rfl (hb hby d5_15) rfl rfl ?_
      show Steps p.tables e below (T86.setTop (mkF m 16 #[.val (.int pp), .val (.int (2 : Int32)), .val (.ref b86)] [(.ref b86)])) _
      refine XS.iconst X86.here hx rfl (hb hby d5_16) ?_
      refine XS.iloadN X86.here hx rfl (hb hby d5_17) rfl ?_
      refine XS.bipush X86.here hx rfl (hb hby d5_18) ?_
      refine XS.iushr X86.here hx rfl (hb hby d5_20) rfl ?_
      refine XS.sipush X86.here hx rfl (hb hby d5_21) ?_
      refine XS.iand X86.here hx rfl (hb hby d5_24) rfl ?_
      show Steps p.tables e below (T86.setTop (mkF m 25 #[.val (.int pp), .val (.int (2 : Int32)), .val (.ref b86)] [(.int (((pp.toUInt32 >>> ((8 : Int32) &&& 31).toUInt32).toInt32) &&& (255 : Int32))), (.int (0 : Int32)), (.ref b86)])) _
      refine XS.i2c X86.here hx rfl (hb hby d5_25) rfl ?_
      change Steps p.tables e below (T86.setTop (mkF m 26 #[.val (.int pp), .val (.int (2 : Int32)), .val (.ref b86)] [(.int ((((pp.toUInt32 >>> ((8 : Int32) &&& 31).toUInt32).toInt32) &&& (255 : Int32)).toUInt32.toUInt16.toUInt32.toInt32)), (.int (0 : Int32)), (.ref b86)])) _
      rw [i2c_mask]
      show Steps p.tables e below (T86.setTop (mkF m 26 #[.val (.int pp), .val (.int (2 : Int32)), .val (.ref b86)] [(.int (((pp.toUInt32 >>> ((8 : Int32) &&& 31).toUInt32).toInt32) &&& (255 : Int32))), (.int (0 : Int32)), (.ref b86)])) _
      refine st91 _ ?_
      refine XS.iloadN X91.here hx rfl (hb hby d5_27) rfl ?_
      refine XS.iconst X91.here hx rfl (hb hby d5_28) ?_
      refine XS.icmpNo X91.here hx rfl (hb hby d5_29) rfl (flt ((by decide) : ¬ ((2 : Int32) < (2 : Int32)))).1 ?_
      refine XS.aloadN X91.here hx rfl (hb hby d5_32) rfl rfl ?_
      refine XS.iconst X91.here hx rfl (hb hby d5_33) ?_
      show Steps p.tables e below (T91.setTop (mkF m 34 #[.val (.int pp), .val (.int (2 : Int32)), .val (.ref b86)] [(.int (1 : Int32)), (.ref b86)])) _
      refine XS.iloadN X91.here hx rfl (hb hby d5_34) rfl ?_
      refine XS.bipush X91.here hx rfl (hb hby d5_35) ?_
      refine XS.iushr X91.here hx rfl (hb hby d5_37) rfl ?_
      refine XS.sipush X91.here hx rfl (hb hby d5_38) ?_
      refine XS.iand X91.here hx rfl (hb hby d5_41) rfl ?_
      refine XS.i2c X91.here hx rfl (hb hby d5_42) rfl ?_
      change Steps p.tables e below (T91.setTop (mkF m 43 #[.val (.int pp), .val (.int (2 : Int32)), .val (.ref b86)] [(.int ((((pp.toUInt32 >>> ((16 : Int32) &&& 31).toUInt32).toInt32) &&& (255 : Int32)).toUInt32.toUInt16.toUInt32.toInt32)), (.int (1 : Int32)), (.ref b86)])) _
      rw [i2c_mask]
      show Steps p.tables e below (T91.setTop (mkF m 43 #[.val (.int pp), .val (.int (2 : Int32)), .val (.ref b86)] [(.int (((pp.toUInt32 >>> ((16 : Int32) &&& 31).toUInt32).toInt32) &&& (255 : Int32))), (.int (1 : Int32)), (.ref b86)])) _
      refine st97 _ ?_
      show Steps p.tables e below (T97.setTop (mkF m 44 #[.val (.int pp), .val (.int (2 : Int32)), .val (.ref b86)] [])) _
      refine st104 _ ?_
      refine XS.dup X104.here hx rfl (hb hby d5_47) rfl rfl ?_
      refine XS.aloadN X104.here hx rfl (hb hby d5_48) rfl rfl ?_
      show Steps p.tables e below (T104.setTop (mkF m 49 #[.val (.int pp), .val (.int (2 : Int32)), .val (.ref b86)] [(.ref b86), (.ref b104), (.ref b104)])) _
      refine st117.trans ?_
      exact kt
    have K137 : Arv Z T117.heap x119 x120 .byte (own_len (own_cs pp)) (own_vs (own_cs pp)) (.int (0 : Int32)) := by rw [own_cs2 pp h_jv]; exact f129
    obtain ⟨fs, hr, hrun, hended, hRW⟩ := X117.leaveW hS0 (by exact hk132) (v := some (.ref b104)) (fun h => by rw [Bd.returns] at h; cases h)
    refine ⟨_, _, pre0 _ (S136 _ ?_), hrun, hended, _, _, rfl, ?_, ?_, hRW.1, hRW.2.1, hRW.2.2.1, hRW.2.2.2.mono (by decide) (by decide)⟩
    · exact retOut X117 hx Bd.returns rfl (Or.inr (Or.inr (Or.inr (Or.inr ⟨rfl, rfl, rfl⟩)))) (hb hby d5_52) hr
    · show Q_rm_str Z pp zc h0 n0 _ T117.heap _
      exact ⟨b104, x119, x120, rfl, N130, K135, sz_b104, f123, f124, f125, f128, K137, f126, f127⟩
    · show CHr Z own_EL s.vm s.heap T117.vm T117.heap
      rw [hh]
      exact CR131.trans (CHv.at X117 hZ0 own_ew CR131.1)
theorem d6_0 : decode jdk_42_method_154_code 0 = .ok (.getstatic 38, 3) := by decide +kernel
theorem d6_3 : decode jdk_42_method_154_code 3 = .ok (.ifCond .eq 14, 3) := by decide +kernel
theorem d6_6 : decode jdk_42_method_154_code 6 = .ok (.aload_n 0, 1) := by decide +kernel
theorem d6_7 : decode jdk_42_method_154_code 7 = .ok (.getfield 15, 3) := by decide +kernel
theorem d6_10 : decode jdk_42_method_154_code 10 = .ok (.ifCond .ne 7, 3) := by decide +kernel
theorem d6_13 : decode jdk_42_method_154_code 13 = .ok (.iconst 1, 1) := by decide +kernel
theorem d6_14 : decode jdk_42_method_154_code 14 = .ok (.goto 4, 3) := by decide +kernel
theorem d6_18 : decode jdk_42_method_154_code 18 = .ok (.ireturn, 1) := by decide +kernel
theorem ef_rm_isl (m : MethodId) (x0 : Addr) : entryFrame m #[(.ref x0)] 1 = mkF m 0 #[.val (.ref x0)] [] := by first | (simp [entryFrame, mkF, argsToLocals, Value.category]; done) | rfl
def Q_rm_isl (Z : State) (x : Addr) (zc : Int32) (h0 : Heap) (n0 : Nat) (v : Option Value) (h : Heap) (L : List Loc) : Prop := ((v = some (.int (1 : Int32))) ∧ (Fr n0 L) ∧ (h = h0))
set_option maxRecDepth 65536 in
set_option maxHeartbeats 40000000 in
theorem rm_isl (l : Launch) (Z : State) (a0 : Array Value) (hw : ∀ d ∈ tables_1, d.before a0 Z = true) (ws : List Jvm.Cond) (x : Addr) (zc : Int32) (h0 : Heap) (n0 : Nat) (O0 : Old Z n0 h0) (C_x : Fld Z h0 x "java/lang/String" "coder" "B" (.int (0 : Int32))) (S_C : Sta Z Z.heap "java/lang/String" "COMPACT_STRINGS" "Z" (.int zc)) (hzc : ¬ (zc = (0 : Int32))) :
    MetFree l (⟨"java/lang/String", "isLatin1", "()Z"⟩ : MethodName) (head1 (Jvm.Cond.code (⟨"java/lang/String", "isLatin1", "()Z"⟩ : MethodName) jdk_42_method_154_code 1 (some .boolean) :: ws) ({ frames := 0, cells := 0, slots := 0, locals := 0 } : Room)) (fun a U => a = #[(.ref x)] ∧ Z.Warmed39 U.vm ∧ U.heap = h0) (fun _ _ _ _ _ => True) (fun _ U o U' => ∃ v L, o = .returned v ∧ Q_rm_isl Z x zc h0 n0 v U'.heap L ∧ FrameEnd U o U' L ({ frames := 0, cells := 0, slots := 0, locals := 0 } : Room).cells ({ frames := 0, cells := 0, slots := 0, locals := 0 } : Room).slots) := by
  refine MetFree.of_bodySF (plainFor_of_name pn_1) hisR ?_
  intro p e s m args below meth c s₁ Bd hml0 hP hK
  obtain ⟨rfl, hZ, hh⟩ := hP
  have hx := Bd.exec
  have hby := Bd.bytes
  have hml : c.maxLocals = 1 := hml0
  have hown : s.vm.findClass "java/lang/String" = some m.cls := findClass_of_methodNamed Bd.named
  have hnm := (name_of_methodNamed Bd.named Bd.method).1
  have X0 : Stand p l e ({ frames := 0, cells := 0, slots := 0, locals := 0 } : Room) s m #[(.ref x)] below meth c s₁ [] 0 0 := Stand.of_body Bd
  have e0 : s₁.heap = h0 := by rw [← hh, Bd.state]; rfl
  have N0 := Fr.nil n0
  have hwl : ∀ d ∈ StrChars.Road.wordsLen, d.before a0 Z = true := fun d hd => hw d (own_wordsLen d hd)
  have hwc : ∀ d ∈ StrChars.Road.wordsChN, d.before a0 Z = true := fun d hd => hw d (own_wordsChN d hd)
  have hwq : ∀ d ∈ StrChars.Road.wordsEq, d.before a0 Z = true := fun d hd => hw d (own_wordsEq d hd)
  have pre0 : ∀ t, Steps p.tables e below (s₁.setTop (mkF m 0 #[.val (.ref x)] [])) t → Steps p.tables e below (s₁.setTop (entryFrame m #[(.ref x)] 1)) t := fun t k => castTop (ef_rm_isl m x) k
  obtain ⟨T1, X1, e1, st1⟩ := getS2 X0 hx hZ hown (host := "") (Or.inl (own_w hw 53 rfl)) Via.refl e0 (S_C.ext O0.2) (g := (mkF m 0 #[.val (.ref x)] [])) rfl (hb hby d6_0)
  obtain ⟨T2, X2, e2, st2⟩ := getF X1 hx hZ hown (host := "") (Or.inl (own_w hw 25 rfl)) Via.refl e1 C_x (g := (mkF m 7 #[.val (.ref x)] [(.ref x)])) rfl rfl (hb hby d6_7)
  have S3 : ∀ t, Steps p.tables e below (T2.setTop (mkF m 18 #[.val (.ref x)] [(.int (1 : Int32))])) t → Steps p.tables e below (s₁.setTop (mkF m 0 #[.val (.ref x)] [])) t := by
    intro t kt
    refine st1 _ ?_
    refine XS.ifNo X1.here hx rfl (hb hby d6_3) rfl ((if0 _ _).trans (feq (hzc : ¬ (zc = (0 : Int32)))).1) ?_
    refine XS.aloadN X1.here hx rfl (hb hby d6_6) rfl rfl ?_
    show Steps p.tables e below (T1.setTop (mkF m 7 #[.val (.ref x)] [(.ref x)])) _
    refine st2 _ ?_
    refine XS.ifNo X2.here hx rfl (hb hby d6_10) rfl ((if0 _ _).trans (teq ((by decide) : (0 : Int32) = (0 : Int32))).2) ?_
    refine XS.iconst X2.here hx rfl (hb hby d6_13) ?_
    refine XS.goto X2.here hx rfl (pc0 := 14) (pc' := 18) rfl (hb hby d6_14) (by decide) (by decide) ?_
    exact kt
  obtain ⟨fs, hr, hrun, hended, hW, hsame⟩ := X2.leave (v := some (.int (1 : Int32))) (fun h => by rw [Bd.returns] at h; cases h)
  refine ⟨_, _, pre0 _ (S3 _ ?_), hrun, hended, _, _, rfl, ?_, ⟨_, rfl⟩, hW, hsame.mono (by decide) (by decide)⟩
  · exact retN X2 hx (t := .boolean) Bd.returns (by simp) (hb hby d6_18) hr
  · show Q_rm_isl Z x zc h0 n0 _ T2.heap _
    rw [e2]
    exact ⟨rfl, N0, rfl⟩
theorem d7_0 : decode jdk_48_method_5_code 0 = .ok (.iload_n 2, 1) := by decide +kernel
theorem d7_1 : decode jdk_48_method_5_code 1 = .ok (.iload_n 3, 1) := by decide +kernel
theorem d7_2 : decode jdk_48_method_5_code 2 = .ok (.iadd, 1) := by decide +kernel
theorem d7_3 : decode jdk_48_method_5_code 3 = .ok (.istore 4, 2) := by decide +kernel
theorem d7_5 : decode jdk_48_method_5_code 5 = .ok (.iload_n 2, 1) := by decide +kernel
theorem d7_6 : decode jdk_48_method_5_code 6 = .ok (.istore 5, 2) := by decide +kernel
theorem d7_8 : decode jdk_48_method_5_code 8 = .ok (.iload 5, 2) := by decide +kernel
theorem d7_10 : decode jdk_48_method_5_code 10 = .ok (.iload 4, 2) := by decide +kernel
theorem d7_12 : decode jdk_48_method_5_code 12 = .ok (.if_icmp .ge 23, 3) := by decide +kernel
theorem d7_15 : decode jdk_48_method_5_code 15 = .ok (.bipush 31, 2) := by decide +kernel
theorem d7_17 : decode jdk_48_method_5_code 17 = .ok (.iload_n 0, 1) := by decide +kernel
theorem d7_18 : decode jdk_48_method_5_code 18 = .ok (.imul, 1) := by decide +kernel
theorem d7_19 : decode jdk_48_method_5_code 19 = .ok (.aload_n 1, 1) := by decide +kernel
theorem d7_20 : decode jdk_48_method_5_code 20 = .ok (.iload 5, 2) := by decide +kernel
theorem d7_22 : decode jdk_48_method_5_code 22 = .ok (.baload, 1) := by decide +kernel
theorem d7_23 : decode jdk_48_method_5_code 23 = .ok (.sipush 255, 3) := by decide +kernel
theorem d7_26 : decode jdk_48_method_5_code 26 = .ok (.iand, 1) := by decide +kernel
theorem d7_27 : decode jdk_48_method_5_code 27 = .ok (.iadd, 1) := by decide +kernel
theorem d7_28 : decode jdk_48_method_5_code 28 = .ok (.istore_n 0, 1) := by decide +kernel
theorem d7_29 : decode jdk_48_method_5_code 29 = .ok (.iinc 5 1, 3) := by decide +kernel
theorem d7_32 : decode jdk_48_method_5_code 32 = .ok (.goto (-24), 3) := by decide +kernel
theorem d7_35 : decode jdk_48_method_5_code 35 = .ok (.iload_n 0, 1) := by decide +kernel
theorem d7_36 : decode jdk_48_method_5_code 36 = .ok (.ireturn, 1) := by decide +kernel
theorem pn_3 : plainName "jdk/internal/util/ArraysSupport" = true := by first | (simp [plainName, overriddenIn]; done) | decide +kernel
theorem ef_rm_sgh (m : MethodId) (x0 : Int32) (x1 : Addr) (x2 : Int32) (x3 : Int32) : entryFrame m #[(.int x0), (.ref x1), (.int x2), (.int x3)] 6 = mkF m 0 #[.val (.int x0), .val (.ref x1), .val (.int x2), .val (.int x3), .unset, .unset] [] := by first | (simp [entryFrame, mkF, argsToLocals, Value.category]; done) | rfl
def Q_rm_sgh (Z : State) (d : Addr) (kd : ClassId) (c0 : Int32) (c1 : Int32) (h0 : Heap) (n0 : Nat) (v : Option Value) (h : Heap) (L : List Loc) : Prop := ((v = some (.int (own_H [c0, c1]))) ∧ (Fr n0 L) ∧ (h = h0))
set_option maxRecDepth 65536 in
set_option maxHeartbeats 40000000 in
theorem rm_sgh (l : Launch) (Z : State) (a0 : Array Value) (hw : ∀ d ∈ tables_1, d.before a0 Z = true) (ws : List Jvm.Cond) (d : Addr) (kd : ClassId) (c0 : Int32) (c1 : Int32) (h0 : Heap) (n0 : Nat) (O0 : Old Z n0 h0) (A_d : Arv Z h0 d kd .byte (2 : Int32) [(.int c0.toInt8.toInt32), (.int c1.toInt8.toInt32)] (.int (0 : Int32))) :
    MetFree l (⟨"jdk/internal/util/ArraysSupport", "signedHashCode", "(I[BII)I"⟩ : MethodName) (head1 (Jvm.Cond.code (⟨"jdk/internal/util/ArraysSupport", "signedHashCode", "(I[BII)I"⟩ : MethodName) jdk_48_method_5_code 6 (some .int) :: ws) ({ frames := 0, cells := 0, slots := 0, locals := 0 } : Room)) (fun a U => a = #[(.int (0 : Int32)), (.ref d), (.int (0 : Int32)), (.int (2 : Int32))] ∧ Z.Warmed39 U.vm ∧ U.heap = h0) (fun _ _ _ _ _ => True) (fun _ U o U' => ∃ v L, o = .returned v ∧ Q_rm_sgh Z d kd c0 c1 h0 n0 v U'.heap L ∧ FrameEnd U o U' L ({ frames := 0, cells := 0, slots := 0, locals := 0 } : Room).cells ({ frames := 0, cells := 0, slots := 0, locals := 0 } : Room).slots) := by
  refine MetFree.of_bodySF (plainFor_of_name pn_3) hisR ?_
  intro p e s m args below meth c s₁ Bd hml0 hP hK
  obtain ⟨rfl, hZ, hh⟩ := hP
  have hx := Bd.exec
  have hby := Bd.bytes
  have hml : c.maxLocals = 6 := hml0
  have hown : s.vm.findClass "jdk/internal/util/ArraysSupport" = some m.cls := findClass_of_methodNamed Bd.named
  have hnm := (name_of_methodNamed Bd.named Bd.method).1
  have X0 : Stand p l e ({ frames := 0, cells := 0, slots := 0, locals := 0 } : Room) s m #[(.int (0 : Int32)), (.ref d), (.int (0 : Int32)), (.int (2 : Int32))] below meth c s₁ [] 0 0 := Stand.of_body Bd
  have e0 : s₁.heap = h0 := by rw [← hh, Bd.state]; rfl
  have N0 := Fr.nil n0
  have hwl : ∀ d ∈ StrChars.Road.wordsLen, d.before a0 Z = true := fun d hd => hw d (own_wordsLen d hd)
  have hwc : ∀ d ∈ StrChars.Road.wordsChN, d.before a0 Z = true := fun d hd => hw d (own_wordsChN d hd)
  have hwq : ∀ d ∈ StrChars.Road.wordsEq, d.before a0 Z = true := fun d hd => hw d (own_wordsEq d hd)
  have pre0 : ∀ t, Steps p.tables e below (s₁.setTop (mkF m 0 #[.val (.int (0 : Int32)), .val (.ref d), .val (.int (0 : Int32)), .val (.int (2 : Int32)), .unset, .unset] [])) t → Steps p.tables e below (s₁.setTop (entryFrame m #[(.int (0 : Int32)), (.ref d), (.int (0 : Int32)), (.int (2 : Int32))] 6)) t := fun t k => castTop (ef_rm_sgh m (0 : Int32) d (0 : Int32) (2 : Int32)) k
  obtain ⟨cl1, Ar1, q1, Sz1, Nn1, Hh1, Gg1⟩ := id A_d
  have in1 : ¬ ((0 : Int32) < 0 ∨ cl1.slots.size ≤ ((0 : Int32)).toNatClampNeg) := by exact inb_of Sz1 ⟨by decide, by decide⟩
  have at1 : cl1.slots[((0 : Int32)).toNatClampNeg]? = some (.int c0.toInt8.toInt32) := by
    refine Has.at Hh1 in1 ?_
    rfl
  obtain ⟨cl2, Ar2, q2, Sz2, Nn2, Hh2, Gg2⟩ := id A_d
  have in2 : ¬ ((1 : Int32) < 0 ∨ cl2.slots.size ≤ ((1 : Int32)).toNatClampNeg) := by exact inb_of Sz2 ⟨by decide, by decide⟩
  have at2 : cl2.slots[((1 : Int32)).toNatClampNeg]? = some (.int c1.toInt8.toInt32) := by
    refine Has.at Hh2 in2 ?_
    rfl
  have S3 : ∀ t, Steps p.tables e below (s₁.setTop (mkF m 36 #[.val (.int (((31 : Int32) * ((0 : Int32) + (c0.toInt8.toInt32 &&& (255 : Int32)))) + (c1.toInt8.toInt32 &&& (255 : Int32)))), .val (.ref d), .val (.int (0 : Int32)), .val (.int (2 : Int32)), .val (.int (2 : Int32)), .val (.int (2 : Int32))] [(.int (((31 : Int32) * ((0 : Int32) + (c0.toInt8.toInt32 &&& (255 : Int32)))) + (c1.toInt8.toInt32 &&& (255 : Int32))))])) t → Steps p.tables e below (s₁.setTop (mkF m 0 #[.val (.int (0 : Int32)), .val (.ref d), .val (.int (0 : Int32)), .val (.int (2 : Int32)), .unset, .unset] [])) t := by
    intro t kt
    refine XS.iloadN X0.here hx rfl (hb hby d7_0) rfl ?_
    refine XS.iloadN X0.here hx rfl (hb hby d7_1) rfl ?_
    refine XS.iadd X0.here hx rfl (hb hby d7_2) rfl ?_
    refine XS.istore X0.here hx rfl (hb hby d7_3) rfl (l' := #[.val (.int (0 : Int32)), .val (.ref d), .val (.int (0 : Int32)), .val (.int (2 : Int32)), .val (.int (2 : Int32)), .unset]) rfl ?_
    refine XS.iloadN X0.here hx rfl (hb hby d7_5) rfl ?_
    refine XS.istore X0.here hx rfl (hb hby d7_6) rfl (l' := #[.val (.int (0 : Int32)), .val (.ref d), .val (.int (0 : Int32)), .val (.int (2 : Int32)), .val (.int (2 : Int32)), .val (.int (0 : Int32))]) rfl ?_
    show Steps p.tables e below (s₁.setTop (mkF m 8 #[.val (.int (0 : Int32)), .val (.ref d), .val (.int (0 : Int32)), .val (.int (2 : Int32)), .val (.int (2 : Int32)), .val (.int (0 : Int32))] [])) _
    refine XS.iload X0.here hx rfl (hb hby d7_8) rfl ?_
    refine XS.iload X0.here hx rfl (hb hby d7_10) rfl ?_
    refine XS.icmpNo X0.here hx rfl (hb hby d7_12) rfl (tlt ((by decide) : (0 : Int32) < (2 : Int32))).2.1 ?_
    refine XS.bipush X0.here hx rfl (hb hby d7_15) ?_
    refine XS.iloadN X0.here hx rfl (hb hby d7_17) rfl ?_
    refine XS.imul X0.here hx rfl (hb hby d7_18) rfl ?_
    show Steps p.tables e below (s₁.setTop (mkF m 19 #[.val (.int (0 : Int32)), .val (.ref d), .val (.int (0 : Int32)), .val (.int (2 : Int32)), .val (.int (2 : Int32)), .val (.int (0 : Int32))] [(.int (0 : Int32))])) _
    refine XS.aloadN X0.here hx rfl (hb hby d7_19) rfl rfl ?_
    refine XS.iload X0.here hx rfl (hb hby d7_20) rfl ?_
    show Steps p.tables e below (s₁.setTop (mkF m 22 #[.val (.int (0 : Int32)), .val (.ref d), .val (.int (0 : Int32)), .val (.int (2 : Int32)), .val (.int (2 : Int32)), .val (.int (0 : Int32))] [(.int (0 : Int32)), (.ref d), (.int (0 : Int32))])) _
    refine X0.baloadBytes hx (j := (0 : Int32)) (v := (.int c0.toInt8.toInt32)) (by rw [e0]; exact Ar1.1) (State.isArrayOf_alike hZ.alike Ar1.2.1) Ar1.2.2 in1 at1 (g := (mkF m 22 #[.val (.int (0 : Int32)), .val (.ref d), .val (.int (0 : Int32)), .val (.int (2 : Int32)), .val (.int (2 : Int32)), .val (.int (0 : Int32))] [(.int (0 : Int32)), (.ref d), (.int (0 : Int32))])) rfl rfl (hb hby d7_22) _ ?_
    refine XS.sipush X0.here hx rfl (hb hby d7_23) ?_
    refine XS.iand X0.here hx rfl (hb hby d7_26) rfl ?_
    refine XS.iadd X0.here hx rfl (hb hby d7_27) rfl ?_
    refine XS.istoreN X0.here hx rfl (hb hby d7_28) rfl (l' := #[.val (.int ((0 : Int32) + (c0.toInt8.toInt32 &&& (255 : Int32)))), .val (.ref d), .val (.int (0 : Int32)), .val (.int (2 : Int32)), .val (.int (2 : Int32)), .val (.int (0 : Int32))]) rfl ?_
    refine XS.iinc X0.here hx rfl (hb hby d7_29) rfl (l' := #[.val (.int ((0 : Int32) + (c0.toInt8.toInt32 &&& (255 : Int32)))), .val (.ref d), .val (.int (0 : Int32)), .val (.int (2 : Int32)), .val (.int (2 : Int32)), .val (.int (1 : Int32))]) rfl ?_
    show Steps p.tables e below (s₁.setTop (mkF m 32 #[.val (.int ((0 : Int32) + (c0.toInt8.toInt32 &&& (255 : Int32)))), .val (.ref d), .val (.int (0 : Int32)), .val (.int (2 : Int32)), .val (.int (2 : Int32)), .val (.int (1 : Int32))] [])) _
    refine XS.goto X0.here hx rfl (pc0 := 32) (pc' := 8) rfl (hb hby d7_32) (by decide) (by decide) ?_
    refine XS.iload X0.here hx rfl (hb hby d7_8) rfl ?_
    refine XS.iload X0.here hx rfl (hb hby d7_10) rfl ?_
    refine XS.icmpNo X0.here hx rfl (hb hby d7_12) rfl (tlt ((by decide) : (1 : Int32) < (2 : Int32))).2.1 ?_
    refine XS.bipush X0.here hx rfl (hb hby d7_15) ?_
    refine XS.iloadN X0.here hx rfl (hb hby d7_17) rfl ?_
    show Steps p.tables e below (s₁.setTop (mkF m 18 #[.val (.int ((0 : Int32) + (c0.toInt8.toInt32 &&& (255 : Int32)))), .val (.ref d), .val (.int (0 : Int32)), .val (.int (2 : Int32)), .val (.int (2 : Int32)), .val (.int (1 : Int32))] [(.int ((0 : Int32) + (c0.toInt8.toInt32 &&& (255 : Int32)))), (.int (31 : Int32))])) _
    refine XS.imul X0.here hx rfl (hb hby d7_18) rfl ?_
    refine XS.aloadN X0.here hx rfl (hb hby d7_19) rfl rfl ?_
    refine XS.iload X0.here hx rfl (hb hby d7_20) rfl ?_
    show Steps p.tables e below (s₁.setTop (mkF m 22 #[.val (.int ((0 : Int32) + (c0.toInt8.toInt32 &&& (255 : Int32)))), .val (.ref d), .val (.int (0 : Int32)), .val (.int (2 : Int32)), .val (.int (2 : Int32)), .val (.int (1 : Int32))] [(.int (1 : Int32)), (.ref d), (.int ((31 : Int32) * ((0 : Int32) + (c0.toInt8.toInt32 &&& (255 : Int32)))))])) _
    refine X0.baloadBytes hx (j := (1 : Int32)) (v := (.int c1.toInt8.toInt32)) (by rw [e0]; exact Ar2.1) (State.isArrayOf_alike hZ.alike Ar2.2.1) Ar2.2.2 in2 at2 (g := (mkF m 22 #[.val (.int ((0 : Int32) + (c0.toInt8.toInt32 &&& (255 : Int32)))), .val (.ref d), .val (.int (0 : Int32)), .val (.int (2 : Int32)), .val (.int (2 : Int32)), .val (.int (1 : Int32))] [(.int (1 : Int32)), (.ref d), (.int ((31 : Int32) * ((0 : Int32) + (c0.toInt8.toInt32 &&& (255 : Int32)))))])) rfl rfl (hb hby d7_22) _ ?_
    refine XS.sipush X0.here hx rfl (hb hby d7_23) ?_
    refine XS.iand X0.here hx rfl (hb hby d7_26) rfl ?_
    refine XS.iadd X0.here hx rfl (hb hby d7_27) rfl ?_
    refine XS.istoreN X0.here hx rfl (hb hby d7_28) rfl (l' := #[.val (.int (((31 : Int32) * ((0 : Int32) + (c0.toInt8.toInt32 &&& (255 : Int32)))) + (c1.toInt8.toInt32 &&& (255 : Int32)))), .val (.ref d), .val (.int (0 : Int32)), .val (.int (2 : Int32)), .val (.int (2 : Int32)), .val (.int (1 : Int32))]) rfl ?_
    refine XS.iinc X0.here hx rfl (hb hby d7_29) rfl (l' := #[.val (.int (((31 : Int32) * ((0 : Int32) + (c0.toInt8.toInt32 &&& (255 : Int32)))) + (c1.toInt8.toInt32 &&& (255 : Int32)))), .val (.ref d), .val (.int (0 : Int32)), .val (.int (2 : Int32)), .val (.int (2 : Int32)), .val (.int (2 : Int32))]) rfl ?_
    show Steps p.tables e below (s₁.setTop (mkF m 32 #[.val (.int (((31 : Int32) * ((0 : Int32) + (c0.toInt8.toInt32 &&& (255 : Int32)))) + (c1.toInt8.toInt32 &&& (255 : Int32)))), .val (.ref d), .val (.int (0 : Int32)), .val (.int (2 : Int32)), .val (.int (2 : Int32)), .val (.int (2 : Int32))] [])) _
    refine XS.goto X0.here hx rfl (pc0 := 32) (pc' := 8) rfl (hb hby d7_32) (by decide) (by decide) ?_
    refine XS.iload X0.here hx rfl (hb hby d7_8) rfl ?_
    refine XS.iload X0.here hx rfl (hb hby d7_10) rfl ?_
    refine XS.icmpYes X0.here hx rfl (pc0 := 12) (pc' := 35) rfl (hb hby d7_12) rfl (flt ((by decide) : ¬ ((2 : Int32) < (2 : Int32)))).2.1 (by decide) (by decide) ?_
    refine XS.iloadN X0.here hx rfl (hb hby d7_35) rfl ?_
    exact kt
  obtain ⟨fs, hr, hrun, hended, hW, hsame⟩ := X0.leave (v := some (.int (((31 : Int32) * ((0 : Int32) + (c0.toInt8.toInt32 &&& (255 : Int32)))) + (c1.toInt8.toInt32 &&& (255 : Int32))))) (fun h => by rw [Bd.returns] at h; cases h)
  refine ⟨_, _, pre0 _ (S3 _ ?_), hrun, hended, _, _, rfl, ?_, ⟨_, rfl⟩, hW, hsame.mono (by decide) (by decide)⟩
  · exact retOut X0 hx Bd.returns rfl (Or.inl ⟨rfl, Or.inl rfl, _, rfl⟩) (hb hby d7_36) hr
  · show Q_rm_sgh Z d kd c0 c1 h0 n0 _ s₁.heap _
    rw [e0]
    exact ⟨rfl, N0, rfl⟩
theorem d8_0 : decode jdk_48_method_4_code 0 = .ok (.iload 4, 2) := by decide +kernel
theorem d8_2 : decode jdk_48_method_4_code 2 = .ok (.tableswitch 127 4 10 #[42, 55, 127, 127, 88, 101, 114], 42) := by decide +kernel
theorem d8_44 : decode jdk_48_method_4_code 44 = .ok (.iload_n 3, 1) := by decide +kernel
theorem d8_45 : decode jdk_48_method_4_code 45 = .ok (.aload_n 0, 1) := by decide +kernel
theorem d8_46 : decode jdk_48_method_4_code 46 = .ok (.checkcast 60, 3) := by decide +kernel
theorem d8_49 : decode jdk_48_method_4_code 49 = .ok (.iload_n 1, 1) := by decide +kernel
theorem d8_50 : decode jdk_48_method_4_code 50 = .ok (.iload_n 2, 1) := by decide +kernel
theorem d8_51 : decode jdk_48_method_4_code 51 = .ok (.invokestatic 62, 3) := by decide +kernel
theorem pd_5 : parseMethodDescriptor "(I[BII)I" = some ⟨[.int, (.array .byte), .int, .int], some .int⟩ := by decide +kernel
theorem d8_54 : decode jdk_48_method_4_code 54 = .ok (.goto 103, 3) := by decide +kernel
theorem d8_157 : decode jdk_48_method_4_code 157 = .ok (.ireturn, 1) := by decide +kernel
theorem ef_rm_vhc (m : MethodId) (x0 : Addr) (x1 : Int32) (x2 : Int32) (x3 : Int32) (x4 : Int32) : entryFrame m #[(.ref x0), (.int x1), (.int x2), (.int x3), (.int x4)] 5 = mkF m 0 #[.val (.ref x0), .val (.int x1), .val (.int x2), .val (.int x3), .val (.int x4)] [] := by first | (simp [entryFrame, mkF, argsToLocals, Value.category]; done) | rfl
def Q_rm_vhc (Z : State) (d : Addr) (kd : ClassId) (c0 : Int32) (c1 : Int32) (h0 : Heap) (n0 : Nat) (v : Option Value) (h : Heap) (L : List Loc) : Prop := ((v = some (.int (own_H [c0, c1]))) ∧ (Fr n0 L) ∧ (h = h0))
set_option maxRecDepth 65536 in
set_option maxHeartbeats 40000000 in
theorem rm_vhc (l : Launch) (Z : State) (a0 : Array Value) (hw : ∀ d ∈ tables_1, d.before a0 Z = true) (ws : List Jvm.Cond) (d : Addr) (kd : ClassId) (c0 : Int32) (c1 : Int32) (h0 : Heap) (n0 : Nat) (O0 : Old Z n0 h0) (E_d : Exa Z h0 d "[B") (A_d : Arv Z h0 d kd .byte (2 : Int32) [(.int c0.toInt8.toInt32), (.int c1.toInt8.toInt32)] (.int (0 : Int32))) :
    MetFree l (⟨"jdk/internal/util/ArraysSupport", "vectorizedHashCode", "(Ljava/lang/Object;IIII)I"⟩ : MethodName) (head1 (Jvm.Cond.code (⟨"jdk/internal/util/ArraysSupport", "vectorizedHashCode", "(Ljava/lang/Object;IIII)I"⟩ : MethodName) jdk_48_method_4_code 5 (some .int) :: ws) ({ frames := 1, cells := 0, slots := 0, locals := 17 } : Room)) (fun a U => a = #[(.ref d), (.int (0 : Int32)), (.int (2 : Int32)), (.int (0 : Int32)), (.int (4 : Int32))] ∧ Z.Warmed39 U.vm ∧ U.heap = h0) (fun _ _ _ _ _ => True) (fun _ U o U' => ∃ v L, o = .returned v ∧ Q_rm_vhc Z d kd c0 c1 h0 n0 v U'.heap L ∧ FrameEnd U o U' L ({ frames := 1, cells := 0, slots := 0, locals := 17 } : Room).cells ({ frames := 1, cells := 0, slots := 0, locals := 17 } : Room).slots) := by
  refine MetFree.of_bodySF (plainFor_of_name pn_3) hisR ?_
  intro p e s m args below meth c s₁ Bd hml0 hP hK
  obtain ⟨rfl, hZ, hh⟩ := hP
  have hx := Bd.exec
  have hby := Bd.bytes
  have hml : c.maxLocals = 5 := hml0
  have hown : s.vm.findClass "jdk/internal/util/ArraysSupport" = some m.cls := findClass_of_methodNamed Bd.named
  have hnm := (name_of_methodNamed Bd.named Bd.method).1
  have X0 : Stand p l e ({ frames := 1, cells := 0, slots := 0, locals := 17 } : Room) s m #[(.ref d), (.int (0 : Int32)), (.int (2 : Int32)), (.int (0 : Int32)), (.int (4 : Int32))] below meth c s₁ [] 0 0 := Stand.of_body Bd
  have e0 : s₁.heap = h0 := by rw [← hh, Bd.state]; rfl
  have N0 := Fr.nil n0
  have hwl : ∀ d ∈ StrChars.Road.wordsLen, d.before a0 Z = true := fun d hd => hw d (own_wordsLen d hd)
  have hwc : ∀ d ∈ StrChars.Road.wordsChN, d.before a0 Z = true := fun d hd => hw d (own_wordsChN d hd)
  have hwq : ∀ d ∈ StrChars.Road.wordsEq, d.before a0 Z = true := fun d hd => hw d (own_wordsEq d hd)
  have pre0 : ∀ t, Steps p.tables e below (s₁.setTop (mkF m 0 #[.val (.ref d), .val (.int (0 : Int32)), .val (.int (2 : Int32)), .val (.int (0 : Int32)), .val (.int (4 : Int32))] [])) t → Steps p.tables e below (s₁.setTop (entryFrame m #[(.ref d), (.int (0 : Int32)), (.int (2 : Int32)), (.int (0 : Int32)), (.int (4 : Int32))] 5)) t := fun t k => castTop (ef_rm_vhc m d (0 : Int32) (2 : Int32) (0 : Int32) (4 : Int32)) k
  obtain ⟨T1, X1, e1, st1⟩ := castY X0 hx hZ hown (own_w hw 103 rfl) e0 (Ins.self E_d) (g := (mkF m 46 #[.val (.ref d), .val (.int (0 : Int32)), .val (.int (2 : Int32)), .val (.int (0 : Int32)), .val (.int (4 : Int32))] [(.ref d), (.int (0 : Int32))])) rfl rfl (hb hby d8_46)
  obtain ⟨_, _, ⟨T2, L2, k2, n2⟩, -, X2, ⟨Lc2, hQ2, l2, y2, z2⟩, st2⟩ := Jvm.LawKit.callS X1 hx (y := (⟨"jdk/internal/util/ArraysSupport", "signedHashCode", "(I[BII)I"⟩ : MethodName)) hown (mvT hZ (own_w hw 105 rfl)) (mvT hZ (own_w hw 106 rfl)) (mvT hZ (own_w hw 101 rfl)) (mvT hZ (own_w hw 107 rfl)) (by decide) (backOf (W := 0) (rm_sgh l Z a0 hw [] d kd c0 c1 h0 n0 O0 A_d) hZ (own_w hw 107 rfl) (own_w hw 101 rfl) (by decide) (by decide)) (g := (mkF m 51 #[.val (.ref d), .val (.int (0 : Int32)), .val (.int (2 : Int32)), .val (.int (0 : Int32)), .val (.int (4 : Int32))] [(.int (2 : Int32)), (.int (0 : Int32)), (.ref d), (.int (0 : Int32))])) rfl (by rw [hml]; rfl) (argsL := [(.int (0 : Int32)), (.ref d), (.int (0 : Int32)), (.int (2 : Int32))]) (rest := []) (lenOf pd_5 rfl) rfl (by show 2 * 0 + _ ≤ _; exact Nat.le_of_eq rfl) (hb hby d8_51) (fun _ _ => ⟨rfl, e1, (by decide : 0 + 0 ≤ _), (by decide : 0 + 0 ≤ _)⟩)
  dsimp only [Pt.U, Pt.locs, Pt.cells, Pt.slots] at X2 l2 y2 z2 st2 hQ2
  subst l2 y2 z2
  obtain ⟨rfl, N3, k4⟩ := hQ2
  have N5 := Fr.app N0 N3
  have S6 : ∀ t, Steps p.tables e below (T2.setTop (mkF m 157 #[.val (.ref d), .val (.int (0 : Int32)), .val (.int (2 : Int32)), .val (.int (0 : Int32)), .val (.int (4 : Int32))] [(.int (own_H [c0, c1]))])) t → Steps p.tables e below (s₁.setTop (mkF m 0 #[.val (.ref d), .val (.int (0 : Int32)), .val (.int (2 : Int32)), .val (.int (0 : Int32)), .val (.int (4 : Int32))] [])) t := by
    intro t kt
    refine XS.iload X0.here hx rfl (hb hby d8_0) rfl ?_
    refine XS.tswIn X0.here hx rfl (pc0 := 2) (pc' := 44) rfl (hb hby d8_2) rfl (by decide) (o := 42) (by decide) (by decide) (by decide) ?_
    refine XS.iloadN X0.here hx rfl (hb hby d8_44) rfl ?_
    refine XS.aloadN X0.here hx rfl (hb hby d8_45) rfl rfl ?_
    show Steps p.tables e below (s₁.setTop (mkF m 46 #[.val (.ref d), .val (.int (0 : Int32)), .val (.int (2 : Int32)), .val (.int (0 : Int32)), .val (.int (4 : Int32))] [(.ref d), (.int (0 : Int32))])) _
    refine st1 _ ?_
    refine XS.iloadN X1.here hx rfl (hb hby d8_49) rfl ?_
    refine XS.iloadN X1.here hx rfl (hb hby d8_50) rfl ?_
    show Steps p.tables e below (T1.setTop (mkF m 51 #[.val (.ref d), .val (.int (0 : Int32)), .val (.int (2 : Int32)), .val (.int (0 : Int32)), .val (.int (4 : Int32))] [(.int (2 : Int32)), (.int (0 : Int32)), (.ref d), (.int (0 : Int32))])) _
    refine st2 _ ?_
    refine XS.goto X2.here hx rfl (pc0 := 54) (pc' := 157) rfl (hb hby d8_54) (by decide) (by decide) ?_
    exact kt
  obtain ⟨fs, hr, hrun, hended, hW, hsame⟩ := X2.leave (v := some (.int (own_H [c0, c1]))) (fun h => by rw [Bd.returns] at h; cases h)
  refine ⟨_, _, pre0 _ (S6 _ ?_), hrun, hended, _, _, rfl, ?_, ⟨_, rfl⟩, hW, hsame.mono (by decide) (by decide)⟩
  · exact retOut X2 hx Bd.returns rfl (Or.inl ⟨rfl, Or.inl rfl, _, rfl⟩) (hb hby d8_157) hr
  · show Q_rm_vhc Z d kd c0 c1 h0 n0 _ T2.heap _
    rw [k4]
    exact ⟨rfl, N5, rfl⟩
theorem d9_0 : decode jdk_43_method_21_code 0 = .ok (.aload_n 0, 1) := by decide +kernel
theorem d9_1 : decode jdk_43_method_21_code 1 = .ok (.arraylength, 1) := by decide +kernel
theorem d9_2 : decode jdk_43_method_21_code 2 = .ok (.lookupswitch 40 #[(0, 26), (1, 30)], 26) := by decide +kernel
theorem d9_28 : decode jdk_43_method_21_code 28 = .ok (.iconst 0, 1) := by decide +kernel
theorem d9_29 : decode jdk_43_method_21_code 29 = .ok (.goto 22, 3) := by decide +kernel
theorem d9_51 : decode jdk_43_method_21_code 51 = .ok (.ireturn, 1) := by decide +kernel
theorem pn_4 : plainName "java/lang/StringLatin1" = true := by first | (simp [plainName, overriddenIn]; done) | decide +kernel
theorem ef_rm_slh0 (m : MethodId) (x0 : Addr) : entryFrame m #[(.ref x0)] 1 = mkF m 0 #[.val (.ref x0)] [] := by first | (simp [entryFrame, mkF, argsToLocals, Value.category]; done) | rfl
def Q_rm_slh0 (Z : State) (d : Addr) (kd : ClassId) (h0 : Heap) (n0 : Nat) (v : Option Value) (h : Heap) (L : List Loc) : Prop := ((v = some (.int (0 : Int32))) ∧ (Fr n0 L) ∧ (h = h0))
set_option maxRecDepth 65536 in
set_option maxHeartbeats 40000000 in
theorem rm_slh0 (l : Launch) (Z : State) (a0 : Array Value) (hw : ∀ d ∈ tables_1, d.before a0 Z = true) (ws : List Jvm.Cond) (d : Addr) (kd : ClassId) (h0 : Heap) (n0 : Nat) (O0 : Old Z n0 h0) (E_d : Exa Z h0 d "[B") (A_d : Arv Z h0 d kd .byte (0 : Int32) [] (.int (0 : Int32))) :
    MetFree l (⟨"java/lang/StringLatin1", "hashCode", "([B)I"⟩ : MethodName) (head1 (Jvm.Cond.code (⟨"java/lang/StringLatin1", "hashCode", "([B)I"⟩ : MethodName) jdk_43_method_21_code 1 (some .int) :: ws) ({ frames := 0, cells := 0, slots := 0, locals := 0 } : Room)) (fun a U => a = #[(.ref d)] ∧ Z.Warmed39 U.vm ∧ U.heap = h0) (fun _ _ _ _ _ => True) (fun _ U o U' => ∃ v L, o = .returned v ∧ Q_rm_slh0 Z d kd h0 n0 v U'.heap L ∧ FrameEnd U o U' L ({ frames := 0, cells := 0, slots := 0, locals := 0 } : Room).cells ({ frames := 0, cells := 0, slots := 0, locals := 0 } : Room).slots) := by
  refine MetFree.of_bodySF (plainFor_of_name pn_4) hisR ?_
  intro p e s m args below meth c s₁ Bd hml0 hP hK
  obtain ⟨rfl, hZ, hh⟩ := hP
  have hx := Bd.exec
  have hby := Bd.bytes
  have hml : c.maxLocals = 1 := hml0
  have hown : s.vm.findClass "java/lang/StringLatin1" = some m.cls := findClass_of_methodNamed Bd.named
  have hnm := (name_of_methodNamed Bd.named Bd.method).1
  have X0 : Stand p l e ({ frames := 0, cells := 0, slots := 0, locals := 0 } : Room) s m #[(.ref d)] below meth c s₁ [] 0 0 := Stand.of_body Bd
  have e0 : s₁.heap = h0 := by rw [← hh, Bd.state]; rfl
  have N0 := Fr.nil n0
  have hwl : ∀ d ∈ StrChars.Road.wordsLen, d.before a0 Z = true := fun d hd => hw d (own_wordsLen d hd)
  have hwc : ∀ d ∈ StrChars.Road.wordsChN, d.before a0 Z = true := fun d hd => hw d (own_wordsChN d hd)
  have hwq : ∀ d ∈ StrChars.Road.wordsEq, d.before a0 Z = true := fun d hd => hw d (own_wordsEq d hd)
  have pre0 : ∀ t, Steps p.tables e below (s₁.setTop (mkF m 0 #[.val (.ref d)] [])) t → Steps p.tables e below (s₁.setTop (entryFrame m #[(.ref d)] 1)) t := fun t k => castTop (ef_rm_slh0 m d) k
  obtain ⟨cl1, Ar1, -, Sz1, Nn1, -, -⟩ := id A_d
  have S2 : ∀ t, Steps p.tables e below (s₁.setTop (mkF m 51 #[.val (.ref d)] [(.int (0 : Int32))])) t → Steps p.tables e below (s₁.setTop (mkF m 0 #[.val (.ref d)] [])) t := by
    intro t kt
    refine XS.aloadN X0.here hx rfl (hb hby d9_0) rfl rfl ?_
    show Steps p.tables e below (s₁.setTop (mkF m 1 #[.val (.ref d)] [(.ref d)])) _
    refine X0.arraylength hx (by rw [e0]; exact Ar1.1) (State.isArrayOf_alike hZ.alike Ar1.2.1) (g := (mkF m 1 #[.val (.ref d)] [(.ref d)])) rfl rfl (hb hby d9_1) _ ?_
    rw [len_of Sz1 Nn1]
    show Steps p.tables e below (s₁.setTop (mkF m 2 #[.val (.ref d)] [(.int (0 : Int32))])) _
    refine X0.lookupswitchHit hx (g := (mkF m 2 #[.val (.ref d)] [(.int (0 : Int32))])) rfl rfl (hb hby d9_2) (by decide) (a := 0) (off := 26) (by decide) (by show (0 : Int) ≤ ((2 : Nat) : Int) + 26; decide) _ ?_
    refine XS.iconst X0.here hx rfl (hb hby d9_28) ?_
    refine XS.goto X0.here hx rfl (pc0 := 29) (pc' := 51) rfl (hb hby d9_29) (by decide) (by decide) ?_
    exact kt
  obtain ⟨fs, hr, hrun, hended, hW, hsame⟩ := X0.leave (v := some (.int (0 : Int32))) (fun h => by rw [Bd.returns] at h; cases h)
  refine ⟨_, _, pre0 _ (S2 _ ?_), hrun, hended, _, _, rfl, ?_, ⟨_, rfl⟩, hW, hsame.mono (by decide) (by decide)⟩
  · exact retOut X0 hx Bd.returns rfl (Or.inl ⟨rfl, Or.inl rfl, _, rfl⟩) (hb hby d9_51) hr
  · show Q_rm_slh0 Z d kd h0 n0 _ s₁.heap _
    rw [e0]
    exact ⟨rfl, N0, rfl⟩
theorem d9_32 : decode jdk_43_method_21_code 32 = .ok (.aload_n 0, 1) := by decide +kernel
theorem d9_33 : decode jdk_43_method_21_code 33 = .ok (.iconst 0, 1) := by decide +kernel
theorem d9_34 : decode jdk_43_method_21_code 34 = .ok (.baload, 1) := by decide +kernel
theorem d9_35 : decode jdk_43_method_21_code 35 = .ok (.sipush 255, 3) := by decide +kernel
theorem d9_38 : decode jdk_43_method_21_code 38 = .ok (.iand, 1) := by decide +kernel
theorem d9_39 : decode jdk_43_method_21_code 39 = .ok (.goto 12, 3) := by decide +kernel
theorem ef_rm_slh1 (m : MethodId) (x0 : Addr) : entryFrame m #[(.ref x0)] 1 = mkF m 0 #[.val (.ref x0)] [] := by first | (simp [entryFrame, mkF, argsToLocals, Value.category]; done) | rfl
def Q_rm_slh1 (Z : State) (d : Addr) (kd : ClassId) (c0 : Int32) (h0 : Heap) (n0 : Nat) (v : Option Value) (h : Heap) (L : List Loc) : Prop := ((v = some (.int (own_H [c0]))) ∧ (Fr n0 L) ∧ (h = h0))
set_option maxRecDepth 65536 in
set_option maxHeartbeats 40000000 in
theorem rm_slh1 (l : Launch) (Z : State) (a0 : Array Value) (hw : ∀ d ∈ tables_1, d.before a0 Z = true) (ws : List Jvm.Cond) (d : Addr) (kd : ClassId) (c0 : Int32) (h0 : Heap) (n0 : Nat) (O0 : Old Z n0 h0) (E_d : Exa Z h0 d "[B") (A_d : Arv Z h0 d kd .byte (1 : Int32) [(.int c0.toInt8.toInt32)] (.int (0 : Int32))) :
    MetFree l (⟨"java/lang/StringLatin1", "hashCode", "([B)I"⟩ : MethodName) (head1 (Jvm.Cond.code (⟨"java/lang/StringLatin1", "hashCode", "([B)I"⟩ : MethodName) jdk_43_method_21_code 1 (some .int) :: ws) ({ frames := 0, cells := 0, slots := 0, locals := 0 } : Room)) (fun a U => a = #[(.ref d)] ∧ Z.Warmed39 U.vm ∧ U.heap = h0) (fun _ _ _ _ _ => True) (fun _ U o U' => ∃ v L, o = .returned v ∧ Q_rm_slh1 Z d kd c0 h0 n0 v U'.heap L ∧ FrameEnd U o U' L ({ frames := 0, cells := 0, slots := 0, locals := 0 } : Room).cells ({ frames := 0, cells := 0, slots := 0, locals := 0 } : Room).slots) := by
  refine MetFree.of_bodySF (plainFor_of_name pn_4) hisR ?_
  intro p e s m args below meth c s₁ Bd hml0 hP hK
  obtain ⟨rfl, hZ, hh⟩ := hP
  have hx := Bd.exec
  have hby := Bd.bytes
  have hml : c.maxLocals = 1 := hml0
  have hown : s.vm.findClass "java/lang/StringLatin1" = some m.cls := findClass_of_methodNamed Bd.named
  have hnm := (name_of_methodNamed Bd.named Bd.method).1
  have X0 : Stand p l e ({ frames := 0, cells := 0, slots := 0, locals := 0 } : Room) s m #[(.ref d)] below meth c s₁ [] 0 0 := Stand.of_body Bd
  have e0 : s₁.heap = h0 := by rw [← hh, Bd.state]; rfl
  have N0 := Fr.nil n0
  have hwl : ∀ d ∈ StrChars.Road.wordsLen, d.before a0 Z = true := fun d hd => hw d (own_wordsLen d hd)
  have hwc : ∀ d ∈ StrChars.Road.wordsChN, d.before a0 Z = true := fun d hd => hw d (own_wordsChN d hd)
  have hwq : ∀ d ∈ StrChars.Road.wordsEq, d.before a0 Z = true := fun d hd => hw d (own_wordsEq d hd)
  have pre0 : ∀ t, Steps p.tables e below (s₁.setTop (mkF m 0 #[.val (.ref d)] [])) t → Steps p.tables e below (s₁.setTop (entryFrame m #[(.ref d)] 1)) t := fun t k => castTop (ef_rm_slh1 m d) k
  obtain ⟨cl1, Ar1, -, Sz1, Nn1, -, -⟩ := id A_d
  obtain ⟨cl2, Ar2, q2, Sz2, Nn2, Hh2, Gg2⟩ := id A_d
  have in2 : ¬ ((0 : Int32) < 0 ∨ cl2.slots.size ≤ ((0 : Int32)).toNatClampNeg) := by exact inb_of Sz2 ⟨by decide, by decide⟩
  have at2 : cl2.slots[((0 : Int32)).toNatClampNeg]? = some (.int c0.toInt8.toInt32) := by
    refine Has.at Hh2 in2 ?_
    rfl
  have S3 : ∀ t, Steps p.tables e below (s₁.setTop (mkF m 51 #[.val (.ref d)] [(.int (c0.toInt8.toInt32 &&& (255 : Int32)))])) t → Steps p.tables e below (s₁.setTop (mkF m 0 #[.val (.ref d)] [])) t := by
    intro t kt
    refine XS.aloadN X0.here hx rfl (hb hby d9_0) rfl rfl ?_
    show Steps p.tables e below (s₁.setTop (mkF m 1 #[.val (.ref d)] [(.ref d)])) _
    refine X0.arraylength hx (by rw [e0]; exact Ar1.1) (State.isArrayOf_alike hZ.alike Ar1.2.1) (g := (mkF m 1 #[.val (.ref d)] [(.ref d)])) rfl rfl (hb hby d9_1) _ ?_
    rw [len_of Sz1 Nn1]
    show Steps p.tables e below (s₁.setTop (mkF m 2 #[.val (.ref d)] [(.int (1 : Int32))])) _
    refine X0.lookupswitchHit hx (g := (mkF m 2 #[.val (.ref d)] [(.int (1 : Int32))])) rfl rfl (hb hby d9_2) (by decide) (a := 1) (off := 30) (by decide) (by show (0 : Int) ≤ ((2 : Nat) : Int) + 30; decide) _ ?_
    refine XS.aloadN X0.here hx rfl (hb hby d9_32) rfl rfl ?_
    refine XS.iconst X0.here hx rfl (hb hby d9_33) ?_
    show Steps p.tables e below (s₁.setTop (mkF m 34 #[.val (.ref d)] [(.int (0 : Int32)), (.ref d)])) _
    refine X0.baloadBytes hx (j := (0 : Int32)) (v := (.int c0.toInt8.toInt32)) (by rw [e0]; exact Ar2.1) (State.isArrayOf_alike hZ.alike Ar2.2.1) Ar2.2.2 in2 at2 (g := (mkF m 34 #[.val (.ref d)] [(.int (0 : Int32)), (.ref d)])) rfl rfl (hb hby d9_34) _ ?_
    refine XS.sipush X0.here hx rfl (hb hby d9_35) ?_
    refine XS.iand X0.here hx rfl (hb hby d9_38) rfl ?_
    refine XS.goto X0.here hx rfl (pc0 := 39) (pc' := 51) rfl (hb hby d9_39) (by decide) (by decide) ?_
    exact kt
  obtain ⟨fs, hr, hrun, hended, hW, hsame⟩ := X0.leave (v := some (.int (c0.toInt8.toInt32 &&& (255 : Int32)))) (fun h => by rw [Bd.returns] at h; cases h)
  refine ⟨_, _, pre0 _ (S3 _ ?_), hrun, hended, _, _, rfl, ?_, ⟨_, rfl⟩, hW, hsame.mono (by decide) (by decide)⟩
  · exact retOut X0 hx Bd.returns rfl (Or.inl ⟨rfl, Or.inl rfl, _, rfl⟩) (hb hby d9_51) hr
  · show Q_rm_slh1 Z d kd c0 h0 n0 _ s₁.heap _
    rw [e0]
    exact ⟨rfl, N0, rfl⟩
theorem d9_42 : decode jdk_43_method_21_code 42 = .ok (.aload_n 0, 1) := by decide +kernel
theorem d9_43 : decode jdk_43_method_21_code 43 = .ok (.iconst 0, 1) := by decide +kernel
theorem d9_44 : decode jdk_43_method_21_code 44 = .ok (.aload_n 0, 1) := by decide +kernel
theorem d9_45 : decode jdk_43_method_21_code 45 = .ok (.arraylength, 1) := by decide +kernel
theorem d9_46 : decode jdk_43_method_21_code 46 = .ok (.iconst 0, 1) := by decide +kernel
theorem d9_47 : decode jdk_43_method_21_code 47 = .ok (.iconst 4, 1) := by decide +kernel
theorem d9_48 : decode jdk_43_method_21_code 48 = .ok (.invokestatic 84, 3) := by decide +kernel
theorem pd_6 : parseMethodDescriptor "(Ljava/lang/Object;IIII)I" = some ⟨[(.object "java/lang/Object"), .int, .int, .int, .int], some .int⟩ := by decide +kernel
theorem ef_rm_slh2 (m : MethodId) (x0 : Addr) : entryFrame m #[(.ref x0)] 1 = mkF m 0 #[.val (.ref x0)] [] := by first | (simp [entryFrame, mkF, argsToLocals, Value.category]; done) | rfl
def Q_rm_slh2 (Z : State) (d : Addr) (kd : ClassId) (c0 : Int32) (c1 : Int32) (h0 : Heap) (n0 : Nat) (v : Option Value) (h : Heap) (L : List Loc) : Prop := ((v = some (.int (own_H [c0, c1]))) ∧ (Fr n0 L) ∧ (h = h0))
set_option maxRecDepth 65536 in
set_option maxHeartbeats 40000000 in
theorem rm_slh2 (l : Launch) (Z : State) (a0 : Array Value) (hw : ∀ d ∈ tables_1, d.before a0 Z = true) (ws : List Jvm.Cond) (d : Addr) (kd : ClassId) (c0 : Int32) (c1 : Int32) (h0 : Heap) (n0 : Nat) (O0 : Old Z n0 h0) (E_d : Exa Z h0 d "[B") (A_d : Arv Z h0 d kd .byte (2 : Int32) [(.int c0.toInt8.toInt32), (.int c1.toInt8.toInt32)] (.int (0 : Int32))) :
    MetFree l (⟨"java/lang/StringLatin1", "hashCode", "([B)I"⟩ : MethodName) (head1 (Jvm.Cond.code (⟨"java/lang/StringLatin1", "hashCode", "([B)I"⟩ : MethodName) jdk_43_method_21_code 1 (some .int) :: ws) ({ frames := 2, cells := 0, slots := 0, locals := 33 } : Room)) (fun a U => a = #[(.ref d)] ∧ Z.Warmed39 U.vm ∧ U.heap = h0) (fun _ _ _ _ _ => True) (fun _ U o U' => ∃ v L, o = .returned v ∧ Q_rm_slh2 Z d kd c0 c1 h0 n0 v U'.heap L ∧ FrameEnd U o U' L ({ frames := 2, cells := 0, slots := 0, locals := 33 } : Room).cells ({ frames := 2, cells := 0, slots := 0, locals := 33 } : Room).slots) := by
  refine MetFree.of_bodySF (plainFor_of_name pn_4) hisR ?_
  intro p e s m args below meth c s₁ Bd hml0 hP hK
  obtain ⟨rfl, hZ, hh⟩ := hP
  have hx := Bd.exec
  have hby := Bd.bytes
  have hml : c.maxLocals = 1 := hml0
  have hown : s.vm.findClass "java/lang/StringLatin1" = some m.cls := findClass_of_methodNamed Bd.named
  have hnm := (name_of_methodNamed Bd.named Bd.method).1
  have X0 : Stand p l e ({ frames := 2, cells := 0, slots := 0, locals := 33 } : Room) s m #[(.ref d)] below meth c s₁ [] 0 0 := Stand.of_body Bd
  have e0 : s₁.heap = h0 := by rw [← hh, Bd.state]; rfl
  have N0 := Fr.nil n0
  have hwl : ∀ d ∈ StrChars.Road.wordsLen, d.before a0 Z = true := fun d hd => hw d (own_wordsLen d hd)
  have hwc : ∀ d ∈ StrChars.Road.wordsChN, d.before a0 Z = true := fun d hd => hw d (own_wordsChN d hd)
  have hwq : ∀ d ∈ StrChars.Road.wordsEq, d.before a0 Z = true := fun d hd => hw d (own_wordsEq d hd)
  have pre0 : ∀ t, Steps p.tables e below (s₁.setTop (mkF m 0 #[.val (.ref d)] [])) t → Steps p.tables e below (s₁.setTop (entryFrame m #[(.ref d)] 1)) t := fun t k => castTop (ef_rm_slh2 m d) k
  obtain ⟨cl1, Ar1, -, Sz1, Nn1, -, -⟩ := id A_d
  obtain ⟨cl2, Ar2, -, Sz2, Nn2, -, -⟩ := id A_d
  obtain ⟨_, _, ⟨T3, L3, k3, n3⟩, -, X3, ⟨Lc3, hQ3, l3, y3, z3⟩, st3⟩ := Jvm.LawKit.callS X0 hx (y := (⟨"jdk/internal/util/ArraysSupport", "vectorizedHashCode", "(Ljava/lang/Object;IIII)I"⟩ : MethodName)) hown (mvT hZ (own_w hw 99 rfl)) (mvT hZ (own_w hw 100 rfl)) (mvT hZ (own_w hw 101 rfl)) (mvT hZ (own_w hw 102 rfl)) (by decide) (backOf (W := 0) (rm_vhc l Z a0 hw [] d kd c0 c1 h0 n0 O0 E_d A_d) hZ (own_w hw 102 rfl) (own_w hw 101 rfl) (by decide) (by decide)) (g := (mkF m 48 #[.val (.ref d)] [(.int (4 : Int32)), (.int (0 : Int32)), (.int (2 : Int32)), (.int (0 : Int32)), (.ref d)])) rfl (by rw [hml]; rfl) (argsL := [(.ref d), (.int (0 : Int32)), (.int (2 : Int32)), (.int (0 : Int32)), (.int (4 : Int32))]) (rest := []) (lenOf pd_6 rfl) rfl (by show 2 * 0 + _ ≤ _; exact Nat.le_of_eq rfl) (hb hby d9_48) (fun _ _ => ⟨rfl, e0, (by decide : 0 + 0 ≤ _), (by decide : 0 + 0 ≤ _)⟩)
  dsimp only [Pt.U, Pt.locs, Pt.cells, Pt.slots] at X3 l3 y3 z3 st3 hQ3
  subst l3 y3 z3
  obtain ⟨rfl, N4, k5⟩ := hQ3
  have N6 := Fr.app N0 N4
  have S7 : ∀ t, Steps p.tables e below (T3.setTop (mkF m 51 #[.val (.ref d)] [(.int (own_H [c0, c1]))])) t → Steps p.tables e below (s₁.setTop (mkF m 0 #[.val (.ref d)] [])) t := by
    intro t kt
    refine XS.aloadN X0.here hx rfl (hb hby d9_0) rfl rfl ?_
    show Steps p.tables e below (s₁.setTop (mkF m 1 #[.val (.ref d)] [(.ref d)])) _
    refine X0.arraylength hx (by rw [e0]; exact Ar1.1) (State.isArrayOf_alike hZ.alike Ar1.2.1) (g := (mkF m 1 #[.val (.ref d)] [(.ref d)])) rfl rfl (hb hby d9_1) _ ?_
    rw [len_of Sz1 Nn1]
    show Steps p.tables e below (s₁.setTop (mkF m 2 #[.val (.ref d)] [(.int (2 : Int32))])) _
    refine X0.lookupswitchMiss hx (g := (mkF m 2 #[.val (.ref d)] [(.int (2 : Int32))])) rfl rfl (hb hby d9_2) (by decide) (by decide) (by show (0 : Int) ≤ ((2 : Nat) : Int) + 40; decide) _ ?_
    refine XS.aloadN X0.here hx rfl (hb hby d9_42) rfl rfl ?_
    refine XS.iconst X0.here hx rfl (hb hby d9_43) ?_
    refine XS.aloadN X0.here hx rfl (hb hby d9_44) rfl rfl ?_
    show Steps p.tables e below (s₁.setTop (mkF m 45 #[.val (.ref d)] [(.ref d), (.int (0 : Int32)), (.ref d)])) _
    refine X0.arraylength hx (by rw [e0]; exact Ar2.1) (State.isArrayOf_alike hZ.alike Ar2.2.1) (g := (mkF m 45 #[.val (.ref d)] [(.ref d), (.int (0 : Int32)), (.ref d)])) rfl rfl (hb hby d9_45) _ ?_
    rw [len_of Sz2 Nn2]
    refine XS.iconst X0.here hx rfl (hb hby d9_46) ?_
    refine XS.iconst X0.here hx rfl (hb hby d9_47) ?_
    show Steps p.tables e below (s₁.setTop (mkF m 48 #[.val (.ref d)] [(.int (4 : Int32)), (.int (0 : Int32)), (.int (2 : Int32)), (.int (0 : Int32)), (.ref d)])) _
    refine st3 _ ?_
    exact kt
  obtain ⟨fs, hr, hrun, hended, hW, hsame⟩ := X3.leave (v := some (.int (own_H [c0, c1]))) (fun h => by rw [Bd.returns] at h; cases h)
  refine ⟨_, _, pre0 _ (S7 _ ?_), hrun, hended, _, _, rfl, ?_, ⟨_, rfl⟩, hW, hsame.mono (by decide) (by decide)⟩
  · exact retOut X3 hx Bd.returns rfl (Or.inl ⟨rfl, Or.inl rfl, _, rfl⟩) (hb hby d9_51) hr
  · show Q_rm_slh2 Z d kd c0 c1 h0 n0 _ T3.heap _
    rw [k5]
    exact ⟨rfl, N6, rfl⟩
theorem d10_0 : decode jdk_42_method_78_code 0 = .ok (.aload_n 0, 1) := by decide +kernel
theorem d10_1 : decode jdk_42_method_78_code 1 = .ok (.getfield 19, 3) := by decide +kernel
theorem d10_4 : decode jdk_42_method_78_code 4 = .ok (.istore_n 1, 1) := by decide +kernel
theorem d10_5 : decode jdk_42_method_78_code 5 = .ok (.iload_n 1, 1) := by decide +kernel
theorem d10_6 : decode jdk_42_method_78_code 6 = .ok (.ifCond .ne 52, 3) := by decide +kernel
theorem d10_9 : decode jdk_42_method_78_code 9 = .ok (.aload_n 0, 1) := by decide +kernel
theorem d10_10 : decode jdk_42_method_78_code 10 = .ok (.getfield 23, 3) := by decide +kernel
theorem d10_13 : decode jdk_42_method_78_code 13 = .ok (.ifCond .ne 45, 3) := by decide +kernel
theorem d10_16 : decode jdk_42_method_78_code 16 = .ok (.aload_n 0, 1) := by decide +kernel
theorem d10_17 : decode jdk_42_method_78_code 17 = .ok (.invokevirtual 492, 3) := by decide +kernel
theorem pd_7 : parseMethodDescriptor "()Z" = some ⟨[], some .boolean⟩ := by decide +kernel
theorem d10_20 : decode jdk_42_method_78_code 20 = .ok (.ifCond .eq 13, 3) := by decide +kernel
theorem d10_23 : decode jdk_42_method_78_code 23 = .ok (.aload_n 0, 1) := by decide +kernel
theorem d10_24 : decode jdk_42_method_78_code 24 = .ok (.getfield 9, 3) := by decide +kernel
theorem d10_27 : decode jdk_42_method_78_code 27 = .ok (.invokestatic 628, 3) := by decide +kernel
theorem pd_8 : parseMethodDescriptor "([B)I" = some ⟨[(.array .byte)], some .int⟩ := by decide +kernel
theorem d10_30 : decode jdk_42_method_78_code 30 = .ok (.goto 10, 3) := by decide +kernel
theorem d10_40 : decode jdk_42_method_78_code 40 = .ok (.istore_n 1, 1) := by decide +kernel
theorem d10_41 : decode jdk_42_method_78_code 41 = .ok (.iload_n 1, 1) := by decide +kernel
theorem d10_42 : decode jdk_42_method_78_code 42 = .ok (.ifCond .ne 11, 3) := by decide +kernel
theorem d10_45 : decode jdk_42_method_78_code 45 = .ok (.aload_n 0, 1) := by decide +kernel
theorem d10_46 : decode jdk_42_method_78_code 46 = .ok (.iconst 1, 1) := by decide +kernel
theorem d10_47 : decode jdk_42_method_78_code 47 = .ok (.putfield 23, 3) := by decide +kernel
theorem d10_50 : decode jdk_42_method_78_code 50 = .ok (.goto 8, 3) := by decide +kernel
theorem d10_58 : decode jdk_42_method_78_code 58 = .ok (.iload_n 1, 1) := by decide +kernel
theorem d10_59 : decode jdk_42_method_78_code 59 = .ok (.ireturn, 1) := by decide +kernel
theorem ef_rm_hash0 (m : MethodId) (x0 : Addr) : entryFrame m #[(.ref x0)] 2 = mkF m 0 #[.val (.ref x0), .unset] [] := by first | (simp [entryFrame, mkF, argsToLocals, Value.category]; done) | rfl
def Q_rm_hash0 (Z : State) (x : Addr) (tx : Addr) (kx : ClassId) (zc : Int32) (h0 : Heap) (n0 : Nat) (v : Option Value) (h : Heap) (L : List Loc) : Prop := ((v = some (.int (own_H ([] : List Int32)))) ∧ (Fr n0 L) ∧ (Keep h0 h [x]) ∧ (Exa Z h x "java/lang/String") ∧ (Fld Z h x "java/lang/String" "value" "[B" (.ref tx)) ∧ (Fld Z h x "java/lang/String" "coder" "B" (.int (0 : Int32))))
set_option maxRecDepth 65536 in
set_option maxHeartbeats 40000000 in
theorem rm_hash0 (l : Launch) (Z : State) (a0 : Array Value) (hw : ∀ d ∈ tables_1, d.before a0 Z = true) (ws : List Jvm.Cond) (x : Addr) (tx : Addr) (kx : ClassId) (zc : Int32) (h0 : Heap) (n0 : Nat) (O0 : Old Z n0 h0) (E_x : Exa Z h0 x "java/lang/String") (V_x : Fld Z h0 x "java/lang/String" "value" "[B" (.ref tx)) (C_x : Fld Z h0 x "java/lang/String" "coder" "B" (.int (0 : Int32))) (T_x : Exa Z h0 tx "[B") (K_x : Arv Z h0 tx kx .byte (0 : Int32) [] (.int (0 : Int32))) (H_x : Fld Z h0 x "java/lang/String" "hash" "I" (.int (0 : Int32))) (Z_x : Fld Z h0 x "java/lang/String" "hashIsZero" "Z" (.int (0 : Int32))) (g_x : n0 ≤ x) (S_C : Sta Z Z.heap "java/lang/String" "COMPACT_STRINGS" "Z" (.int zc)) (hzc : ¬ (zc = (0 : Int32))) :
    MetFree l (⟨"java/lang/String", "hashCode", "()I"⟩ : MethodName) (head1 (Jvm.Cond.code (⟨"java/lang/String", "hashCode", "()I"⟩ : MethodName) jdk_42_method_78_code 2 (some .int) :: ws) ({ frames := 3, cells := 0, slots := 0, locals := 45 } : Room)) (fun a U => a = #[(.ref x)] ∧ Z.Warmed39 U.vm ∧ U.heap = h0) (fun _ _ _ _ _ => True) (fun _ U o U' => ∃ v L, o = .returned v ∧ Q_rm_hash0 Z x tx kx zc h0 n0 v U'.heap L ∧ FrameEnd U o U' L ({ frames := 3, cells := 0, slots := 0, locals := 45 } : Room).cells ({ frames := 3, cells := 0, slots := 0, locals := 45 } : Room).slots) := by
  refine MetFree.of_bodySF (plainFor_of_name pn_1) hisR ?_
  intro p e s m args below meth c s₁ Bd hml0 hP hK
  obtain ⟨rfl, hZ, hh⟩ := hP
  have hx := Bd.exec
  have hby := Bd.bytes
  have hml : c.maxLocals = 2 := hml0
  have hown : s.vm.findClass "java/lang/String" = some m.cls := findClass_of_methodNamed Bd.named
  have hnm := (name_of_methodNamed Bd.named Bd.method).1
  have X0 : Stand p l e ({ frames := 3, cells := 0, slots := 0, locals := 45 } : Room) s m #[(.ref x)] below meth c s₁ [] 0 0 := Stand.of_body Bd
  have e0 : s₁.heap = h0 := by rw [← hh, Bd.state]; rfl
  have N0 := Fr.nil n0
  have hwl : ∀ d ∈ StrChars.Road.wordsLen, d.before a0 Z = true := fun d hd => hw d (own_wordsLen d hd)
  have hwc : ∀ d ∈ StrChars.Road.wordsChN, d.before a0 Z = true := fun d hd => hw d (own_wordsChN d hd)
  have hwq : ∀ d ∈ StrChars.Road.wordsEq, d.before a0 Z = true := fun d hd => hw d (own_wordsEq d hd)
  have K0 : Keep h0 h0 [x] := Keep.refl _ _
  have pre0 : ∀ t, Steps p.tables e below (s₁.setTop (mkF m 0 #[.val (.ref x), .unset] [])) t → Steps p.tables e below (s₁.setTop (entryFrame m #[(.ref x)] 2)) t := fun t k => castTop (ef_rm_hash0 m x) k
  obtain ⟨T1, X1, e1, st1⟩ := getF X0 hx hZ hown (host := "") (Or.inl (own_w hw 44 rfl)) Via.refl e0 H_x (g := (mkF m 1 #[.val (.ref x), .unset] [(.ref x)])) rfl rfl (hb hby d10_1)
  obtain ⟨T2, X2, e2, st2⟩ := getF X1 hx hZ hown (host := "") (Or.inl (own_w hw 46 rfl)) Via.refl e1 Z_x (g := (mkF m 10 #[.val (.ref x), .val (.int (0 : Int32))] [(.ref x)])) rfl rfl (hb hby d10_10)
  obtain ⟨cq3, kq3, q3a, q3b, q3c⟩ := isOf hZ e2 E_x
  obtain ⟨_, _, ⟨T3, L3, k3, n3⟩, -, X3, ⟨Lc3, hQ3, l3, y3, z3⟩, st3⟩ := X2.virtualBack hx (y := (⟨"java/lang/String", "isLatin1", "()Z"⟩ : MethodName)) (z := (⟨"java/lang/String", "isLatin1", "()Z"⟩ : MethodName)) hown (mvT hZ (own_w hw 48 rfl)) (mvT hZ (own_w hw 49 rfl)) (notFace_of_selects (args := #[]) (mvT hZ (own_w hw 51 rfl))) (mvT hZ (own_w hw 51 rfl)) (mvT hZ (own_w hw 50 rfl)) (by decide) (backOf (W := 0) (rm_isl l Z a0 hw [] x zc h0 n0 O0 C_x S_C hzc) hZ (own_w hw 52 rfl) (own_w hw 7 rfl) (by decide) (by decide)) q3a q3c (g := (mkF m 17 #[.val (.ref x), .val (.int (0 : Int32))] [(.ref x)])) rfl (by rw [hml]; rfl) (Steps.refl _) (argsL := []) (rest := []) (lenOf pd_7 rfl) rfl (by show 2 * 0 + _ ≤ _; exact Nat.le_of_eq rfl) (hb hby d10_17) (fun _ _ => ⟨rfl, e2, (by decide : 0 + 0 ≤ _), (by decide : 0 + 0 ≤ _)⟩)
  dsimp only [Pt.U, Pt.locs, Pt.cells, Pt.slots] at X3 l3 y3 z3 st3 hQ3
  subst l3 y3 z3
  obtain ⟨rfl, N4, k5⟩ := hQ3
  have N6 := Fr.app N0 N4
  obtain ⟨T7, X7, e7, st7⟩ := getF X3 hx hZ hown (host := "") (Or.inl (own_w hw 24 rfl)) Via.refl k5 V_x (g := (mkF m 24 #[.val (.ref x), .val (.int (0 : Int32))] [(.ref x)])) rfl rfl (hb hby d10_24)
  obtain ⟨_, _, ⟨T8, L8, k8, n8⟩, -, X8, ⟨Lc8, hQ8, l8, y8, z8⟩, st8⟩ := Jvm.LawKit.callS X7 hx (y := (⟨"java/lang/StringLatin1", "hashCode", "([B)I"⟩ : MethodName)) hown (mvT hZ (own_w hw 54 rfl)) (mvT hZ (own_w hw 55 rfl)) (mvT hZ (own_w hw 56 rfl)) (mvT hZ (own_w hw 57 rfl)) (by decide) (backOf (W := 0) (rm_slh0 l Z a0 hw [] tx kx h0 n0 O0 T_x K_x) hZ (own_w hw 57 rfl) (own_w hw 56 rfl) (by decide) (by decide)) (g := (mkF m 27 #[.val (.ref x), .val (.int (0 : Int32))] [(.ref tx)])) rfl (by rw [hml]; rfl) (argsL := [(.ref tx)]) (rest := []) (lenOf pd_8 rfl) rfl (by show 2 * 0 + _ ≤ _; exact Nat.le_of_eq rfl) (hb hby d10_27) (fun _ _ => ⟨rfl, e7, (by decide : 0 + 0 ≤ _), (by decide : 0 + 0 ≤ _)⟩)
  dsimp only [Pt.U, Pt.locs, Pt.cells, Pt.slots] at X8 l8 y8 z8 st8 hQ8
  subst l8 y8 z8
  obtain ⟨rfl, N9, k10⟩ := hQ8
  have N11 := Fr.app N6 N9
  obtain ⟨T12, h12, X12, e12, W12, st12⟩ := putFN X8 hx hZ hown (own_w hw 46 rfl) Via.refl k10 Z_x E_x (Or.inl (own_w hw 47 rfl)) (own_w hw 6 rfl) (ty := .boolean) (v' := (.int (1 : Int32))) (by decide) rfl rfl (g := (mkF m 47 #[.val (.ref x), .val (.int (0 : Int32))] [(.int (1 : Int32)), (.ref x)])) rfl rfl (hb hby d10_47)
  have O13 := O0.wr W12 g_x
  have K14 : Keep h0 h12 [x] := K0.wr W12 (Or.inl (List.mem_of_getElem? (i := 0) rfl))
  have N15 := Fr.snoc X12 N11 g_x
  have F12 : Fld Z h12 x "java/lang/String" "hashIsZero" "Z" (.int (1 : Int32)) := Fld.same W12 Z_x
  have S16 : ∀ t, Steps p.tables e below (T12.setTop (mkF m 59 #[.val (.ref x), .val (.int (0 : Int32))] [(.int (0 : Int32))])) t → Steps p.tables e below (s₁.setTop (mkF m 0 #[.val (.ref x), .unset] [])) t := by
    intro t kt
    refine XS.aloadN X0.here hx rfl (hb hby d10_0) rfl rfl ?_
    show Steps p.tables e below (s₁.setTop (mkF m 1 #[.val (.ref x), .unset] [(.ref x)])) _
    refine st1 _ ?_
    refine XS.istoreN X1.here hx rfl (hb hby d10_4) rfl (l' := #[.val (.ref x), .val (.int (0 : Int32))]) rfl ?_
    refine XS.iloadN X1.here hx rfl (hb hby d10_5) rfl ?_
    refine XS.ifNo X1.here hx rfl (hb hby d10_6) rfl ((if0 _ _).trans (teq ((by decide) : (0 : Int32) = (0 : Int32))).2) ?_
    refine XS.aloadN X1.here hx rfl (hb hby d10_9) rfl rfl ?_
    show Steps p.tables e below (T1.setTop (mkF m 10 #[.val (.ref x), .val (.int (0 : Int32))] [(.ref x)])) _
    refine st2 _ ?_
    refine XS.ifNo X2.here hx rfl (hb hby d10_13) rfl ((if0 _ _).trans (teq ((by decide) : (0 : Int32) = (0 : Int32))).2) ?_
    refine XS.aloadN X2.here hx rfl (hb hby d10_16) rfl rfl ?_
    show Steps p.tables e below (T2.setTop (mkF m 17 #[.val (.ref x), .val (.int (0 : Int32))] [(.ref x)])) _
    refine st3.trans ?_
    refine XS.ifNo X3.here hx rfl (hb hby d10_20) rfl ((if0 _ _).trans (feq ((by decide) : ¬ ((1 : Int32) = (0 : Int32)))).1) ?_
    refine XS.aloadN X3.here hx rfl (hb hby d10_23) rfl rfl ?_
    show Steps p.tables e below (T3.setTop (mkF m 24 #[.val (.ref x), .val (.int (0 : Int32))] [(.ref x)])) _
    refine st7 _ ?_
    show Steps p.tables e below (T7.setTop (mkF m 27 #[.val (.ref x), .val (.int (0 : Int32))] [(.ref tx)])) _
    refine st8 _ ?_
    refine XS.goto X8.here hx rfl (pc0 := 30) (pc' := 40) rfl (hb hby d10_30) (by decide) (by decide) ?_
    refine XS.istoreN X8.here hx rfl (hb hby d10_40) rfl (l' := #[.val (.ref x), .val (.int (0 : Int32))]) rfl ?_
    refine XS.iloadN X8.here hx rfl (hb hby d10_41) rfl ?_
    refine XS.ifNo X8.here hx rfl (hb hby d10_42) rfl ((if0 _ _).trans (teq ((by decide) : (0 : Int32) = (0 : Int32))).2) ?_
    refine XS.aloadN X8.here hx rfl (hb hby d10_45) rfl rfl ?_
    show Steps p.tables e below (T8.setTop (mkF m 46 #[.val (.ref x), .val (.int (0 : Int32))] [(.ref x)])) _
    refine XS.iconst X8.here hx rfl (hb hby d10_46) ?_
    show Steps p.tables e below (T8.setTop (mkF m 47 #[.val (.ref x), .val (.int (0 : Int32))] [(.int (1 : Int32)), (.ref x)])) _
    refine st12 _ ?_
    refine XS.goto X12.here hx rfl (pc0 := 50) (pc' := 58) rfl (hb hby d10_50) (by decide) (by decide) ?_
    refine XS.iloadN X12.here hx rfl (hb hby d10_58) rfl ?_
    exact kt
  obtain ⟨fs, hr, hrun, hended, hW, hsame⟩ := X12.leave (v := some (.int (0 : Int32))) (fun h => by rw [Bd.returns] at h; cases h)
  have f17 := (Exa.wr W12 E_x)
  have f18 := (Fld.other W12 V_x (Or.inr (slot_ne (Or.inr (own_w hw 20 rfl)) (Or.inl (own_w hw 47 rfl)) (by decide) (t := (.array .byte)) (t' := .boolean) (by decide) (by decide))))
  have f19 := (Fld.other W12 C_x (Or.inr (slot_ne (Or.inr (own_w hw 21 rfl)) (Or.inl (own_w hw 47 rfl)) (by decide) (t := .byte) (t' := .boolean) (by decide) (by decide))))
  refine ⟨_, _, pre0 _ (S16 _ ?_), hrun, hended, _, _, rfl, ?_, ⟨_, rfl⟩, hW, hsame.mono (by decide) (by decide)⟩
  · exact retOut X12 hx Bd.returns rfl (Or.inl ⟨rfl, Or.inl rfl, _, rfl⟩) (hb hby d10_59) hr
  · show Q_rm_hash0 Z x tx kx zc h0 n0 _ T12.heap _
    rw [e12]
    exact ⟨rfl, N15, K14, f17, f18, f19⟩
theorem d10_53 : decode jdk_42_method_78_code 53 = .ok (.aload_n 0, 1) := by decide +kernel
theorem d10_54 : decode jdk_42_method_78_code 54 = .ok (.iload_n 1, 1) := by decide +kernel
theorem d10_55 : decode jdk_42_method_78_code 55 = .ok (.putfield 19, 3) := by decide +kernel
theorem ef_rm_hash1 (m : MethodId) (x0 : Addr) : entryFrame m #[(.ref x0)] 2 = mkF m 0 #[.val (.ref x0), .unset] [] := by first | (simp [entryFrame, mkF, argsToLocals, Value.category]; done) | rfl
def Q_rm_hash1 (Z : State) (x : Addr) (tx : Addr) (kx : ClassId) (c0 : Int32) (zc : Int32) (h0 : Heap) (n0 : Nat) (v : Option Value) (h : Heap) (L : List Loc) : Prop := ((v = some (.int (own_H ([c0] : List Int32)))) ∧ (Fr n0 L) ∧ (Keep h0 h [x]) ∧ (Exa Z h x "java/lang/String") ∧ (Fld Z h x "java/lang/String" "value" "[B" (.ref tx)) ∧ (Fld Z h x "java/lang/String" "coder" "B" (.int (0 : Int32))))
set_option maxRecDepth 65536 in
set_option maxHeartbeats 40000000 in
theorem rm_hash1 (l : Launch) (Z : State) (a0 : Array Value) (hw : ∀ d ∈ tables_1, d.before a0 Z = true) (ws : List Jvm.Cond) (x : Addr) (tx : Addr) (kx : ClassId) (c0 : Int32) (zc : Int32) (h0 : Heap) (n0 : Nat) (O0 : Old Z n0 h0) (E_x : Exa Z h0 x "java/lang/String") (V_x : Fld Z h0 x "java/lang/String" "value" "[B" (.ref tx)) (C_x : Fld Z h0 x "java/lang/String" "coder" "B" (.int (0 : Int32))) (T_x : Exa Z h0 tx "[B") (K_x : Arv Z h0 tx kx .byte (1 : Int32) [(.int c0.toInt8.toInt32)] (.int (0 : Int32))) (H_x : Fld Z h0 x "java/lang/String" "hash" "I" (.int (0 : Int32))) (Z_x : Fld Z h0 x "java/lang/String" "hashIsZero" "Z" (.int (0 : Int32))) (g_x : n0 ≤ x) (S_C : Sta Z Z.heap "java/lang/String" "COMPACT_STRINGS" "Z" (.int zc)) (hzc : ¬ (zc = (0 : Int32))) :
    MetFree l (⟨"java/lang/String", "hashCode", "()I"⟩ : MethodName) (head1 (Jvm.Cond.code (⟨"java/lang/String", "hashCode", "()I"⟩ : MethodName) jdk_42_method_78_code 2 (some .int) :: ws) ({ frames := 3, cells := 0, slots := 0, locals := 45 } : Room)) (fun a U => a = #[(.ref x)] ∧ Z.Warmed39 U.vm ∧ U.heap = h0) (fun _ _ _ _ _ => True) (fun _ U o U' => ∃ v L, o = .returned v ∧ Q_rm_hash1 Z x tx kx c0 zc h0 n0 v U'.heap L ∧ FrameEnd U o U' L ({ frames := 3, cells := 0, slots := 0, locals := 45 } : Room).cells ({ frames := 3, cells := 0, slots := 0, locals := 45 } : Room).slots) := by
  refine MetFree.of_bodySF (plainFor_of_name pn_1) hisR ?_
  intro p e s m args below meth c s₁ Bd hml0 hP hK
  obtain ⟨rfl, hZ, hh⟩ := hP
  have hx := Bd.exec
  have hby := Bd.bytes
  have hml : c.maxLocals = 2 := hml0
  have hown : s.vm.findClass "java/lang/String" = some m.cls := findClass_of_methodNamed Bd.named
  have hnm := (name_of_methodNamed Bd.named Bd.method).1
  have X0 : Stand p l e ({ frames := 3, cells := 0, slots := 0, locals := 45 } : Room) s m #[(.ref x)] below meth c s₁ [] 0 0 := Stand.of_body Bd
  have e0 : s₁.heap = h0 := by rw [← hh, Bd.state]; rfl
  have N0 := Fr.nil n0
  have hwl : ∀ d ∈ StrChars.Road.wordsLen, d.before a0 Z = true := fun d hd => hw d (own_wordsLen d hd)
  have hwc : ∀ d ∈ StrChars.Road.wordsChN, d.before a0 Z = true := fun d hd => hw d (own_wordsChN d hd)
  have hwq : ∀ d ∈ StrChars.Road.wordsEq, d.before a0 Z = true := fun d hd => hw d (own_wordsEq d hd)
  have K0 : Keep h0 h0 [x] := Keep.refl _ _
  have pre0 : ∀ t, Steps p.tables e below (s₁.setTop (mkF m 0 #[.val (.ref x), .unset] [])) t → Steps p.tables e below (s₁.setTop (entryFrame m #[(.ref x)] 2)) t := fun t k => castTop (ef_rm_hash1 m x) k
  obtain ⟨T1, X1, e1, st1⟩ := getF X0 hx hZ hown (host := "") (Or.inl (own_w hw 44 rfl)) Via.refl e0 H_x (g := (mkF m 1 #[.val (.ref x), .unset] [(.ref x)])) rfl rfl (hb hby d10_1)
  obtain ⟨T2, X2, e2, st2⟩ := getF X1 hx hZ hown (host := "") (Or.inl (own_w hw 46 rfl)) Via.refl e1 Z_x (g := (mkF m 10 #[.val (.ref x), .val (.int (0 : Int32))] [(.ref x)])) rfl rfl (hb hby d10_10)
  obtain ⟨cq3, kq3, q3a, q3b, q3c⟩ := isOf hZ e2 E_x
  obtain ⟨_, _, ⟨T3, L3, k3, n3⟩, -, X3, ⟨Lc3, hQ3, l3, y3, z3⟩, st3⟩ := X2.virtualBack hx (y := (⟨"java/lang/String", "isLatin1", "()Z"⟩ : MethodName)) (z := (⟨"java/lang/String", "isLatin1", "()Z"⟩ : MethodName)) hown (mvT hZ (own_w hw 48 rfl)) (mvT hZ (own_w hw 49 rfl)) (notFace_of_selects (args := #[]) (mvT hZ (own_w hw 51 rfl))) (mvT hZ (own_w hw 51 rfl)) (mvT hZ (own_w hw 50 rfl)) (by decide) (backOf (W := 0) (rm_isl l Z a0 hw [] x zc h0 n0 O0 C_x S_C hzc) hZ (own_w hw 52 rfl) (own_w hw 7 rfl) (by decide) (by decide)) q3a q3c (g := (mkF m 17 #[.val (.ref x), .val (.int (0 : Int32))] [(.ref x)])) rfl (by rw [hml]; rfl) (Steps.refl _) (argsL := []) (rest := []) (lenOf pd_7 rfl) rfl (by show 2 * 0 + _ ≤ _; exact Nat.le_of_eq rfl) (hb hby d10_17) (fun _ _ => ⟨rfl, e2, (by decide : 0 + 0 ≤ _), (by decide : 0 + 0 ≤ _)⟩)
  dsimp only [Pt.U, Pt.locs, Pt.cells, Pt.slots] at X3 l3 y3 z3 st3 hQ3
  subst l3 y3 z3
  obtain ⟨rfl, N4, k5⟩ := hQ3
  have N6 := Fr.app N0 N4
  obtain ⟨T7, X7, e7, st7⟩ := getF X3 hx hZ hown (host := "") (Or.inl (own_w hw 24 rfl)) Via.refl k5 V_x (g := (mkF m 24 #[.val (.ref x), .val (.int (0 : Int32))] [(.ref x)])) rfl rfl (hb hby d10_24)
  obtain ⟨_, _, ⟨T8, L8, k8, n8⟩, -, X8, ⟨Lc8, hQ8, l8, y8, z8⟩, st8⟩ := Jvm.LawKit.callS X7 hx (y := (⟨"java/lang/StringLatin1", "hashCode", "([B)I"⟩ : MethodName)) hown (mvT hZ (own_w hw 54 rfl)) (mvT hZ (own_w hw 55 rfl)) (mvT hZ (own_w hw 56 rfl)) (mvT hZ (own_w hw 57 rfl)) (by decide) (backOf (W := 0) (rm_slh1 l Z a0 hw [] tx kx c0 h0 n0 O0 T_x K_x) hZ (own_w hw 57 rfl) (own_w hw 56 rfl) (by decide) (by decide)) (g := (mkF m 27 #[.val (.ref x), .val (.int (0 : Int32))] [(.ref tx)])) rfl (by rw [hml]; rfl) (argsL := [(.ref tx)]) (rest := []) (lenOf pd_8 rfl) rfl (by show 2 * 0 + _ ≤ _; exact Nat.le_of_eq rfl) (hb hby d10_27) (fun _ _ => ⟨rfl, e7, (by decide : 0 + 0 ≤ _), (by decide : 0 + 0 ≤ _)⟩)
  dsimp only [Pt.U, Pt.locs, Pt.cells, Pt.slots] at X8 l8 y8 z8 st8 hQ8
  subst l8 y8 z8
  obtain ⟨rfl, N9, k10⟩ := hQ8
  have N11 := Fr.app N6 N9
  have S12 : ∀ t, Steps p.tables e below (T8.setTop (mkF m 42 #[.val (.ref x), .val (.int (own_H [c0]))] [(.int (own_H [c0]))])) t → Steps p.tables e below (s₁.setTop (mkF m 0 #[.val (.ref x), .unset] [])) t := by
    intro t kt
    refine XS.aloadN X0.here hx rfl (hb hby d10_0) rfl rfl ?_
    show Steps p.tables e below (s₁.setTop (mkF m 1 #[.val (.ref x), .unset] [(.ref x)])) _
    refine st1 _ ?_
    refine XS.istoreN X1.here hx rfl (hb hby d10_4) rfl (l' := #[.val (.ref x), .val (.int (0 : Int32))]) rfl ?_
    refine XS.iloadN X1.here hx rfl (hb hby d10_5) rfl ?_
    refine XS.ifNo X1.here hx rfl (hb hby d10_6) rfl ((if0 _ _).trans (teq ((by decide) : (0 : Int32) = (0 : Int32))).2) ?_
    refine XS.aloadN X1.here hx rfl (hb hby d10_9) rfl rfl ?_
    show Steps p.tables e below (T1.setTop (mkF m 10 #[.val (.ref x), .val (.int (0 : Int32))] [(.ref x)])) _
    refine st2 _ ?_
    refine XS.ifNo X2.here hx rfl (hb hby d10_13) rfl ((if0 _ _).trans (teq ((by decide) : (0 : Int32) = (0 : Int32))).2) ?_
    refine XS.aloadN X2.here hx rfl (hb hby d10_16) rfl rfl ?_
    show Steps p.tables e below (T2.setTop (mkF m 17 #[.val (.ref x), .val (.int (0 : Int32))] [(.ref x)])) _
    refine st3.trans ?_
    refine XS.ifNo X3.here hx rfl (hb hby d10_20) rfl ((if0 _ _).trans (feq ((by decide) : ¬ ((1 : Int32) = (0 : Int32)))).1) ?_
    refine XS.aloadN X3.here hx rfl (hb hby d10_23) rfl rfl ?_
    show Steps p.tables e below (T3.setTop (mkF m 24 #[.val (.ref x), .val (.int (0 : Int32))] [(.ref x)])) _
    refine st7 _ ?_
    show Steps p.tables e below (T7.setTop (mkF m 27 #[.val (.ref x), .val (.int (0 : Int32))] [(.ref tx)])) _
    refine st8 _ ?_
    refine XS.goto X8.here hx rfl (pc0 := 30) (pc' := 40) rfl (hb hby d10_30) (by decide) (by decide) ?_
    refine XS.istoreN X8.here hx rfl (hb hby d10_40) rfl (l' := #[.val (.ref x), .val (.int (own_H [c0]))]) rfl ?_
    refine XS.iloadN X8.here hx rfl (hb hby d10_41) rfl ?_
    exact kt
  rcases Decidable.em ((own_H [c0]) = (0 : Int32)) with c13 | c13
  · obtain ⟨T14, h14, X14, e14, W14, st14⟩ := putFN X8 hx hZ hown (own_w hw 46 rfl) Via.refl k10 Z_x E_x (Or.inl (own_w hw 47 rfl)) (own_w hw 6 rfl) (ty := .boolean) (v' := (.int (1 : Int32))) (by decide) rfl rfl (g := (mkF m 47 #[.val (.ref x), .val (.int (own_H [c0]))] [(.int (1 : Int32)), (.ref x)])) rfl rfl (hb hby d10_47)
    have O15 := O0.wr W14 g_x
    have K16 : Keep h0 h14 [x] := K0.wr W14 (Or.inl (List.mem_of_getElem? (i := 0) rfl))
    have N17 := Fr.snoc X14 N11 g_x
    have F14 : Fld Z h14 x "java/lang/String" "hashIsZero" "Z" (.int (1 : Int32)) := Fld.same W14 Z_x
    have S18 : ∀ t, Steps p.tables e below (T14.setTop (mkF m 59 #[.val (.ref x), .val (.int (own_H [c0]))] [(.int (own_H [c0]))])) t → Steps p.tables e below (s₁.setTop (mkF m 0 #[.val (.ref x), .unset] [])) t := by
      intro t kt
      refine S12 t ?_
      refine XS.ifNo X8.here hx rfl (hb hby d10_42) rfl ((if0 _ _).trans (teq (c13 : (own_H [c0]) = (0 : Int32))).2) ?_
      refine XS.aloadN X8.here hx rfl (hb hby d10_45) rfl rfl ?_
      refine XS.iconst X8.here hx rfl (hb hby d10_46) ?_
      show Steps p.tables e below (T8.setTop (mkF m 47 #[.val (.ref x), .val (.int (own_H [c0]))] [(.int (1 : Int32)), (.ref x)])) _
      refine st14 _ ?_
      refine XS.goto X14.here hx rfl (pc0 := 50) (pc' := 58) rfl (hb hby d10_50) (by decide) (by decide) ?_
      refine XS.iloadN X14.here hx rfl (hb hby d10_58) rfl ?_
      exact kt
    obtain ⟨fs, hr, hrun, hended, hW, hsame⟩ := X14.leave (v := some (.int (own_H [c0]))) (fun h => by rw [Bd.returns] at h; cases h)
    have f19 := (Exa.wr W14 E_x)
    have f20 := (Fld.other W14 V_x (Or.inr (slot_ne (Or.inr (own_w hw 20 rfl)) (Or.inl (own_w hw 47 rfl)) (by decide) (t := (.array .byte)) (t' := .boolean) (by decide) (by decide))))
    have f21 := (Fld.other W14 C_x (Or.inr (slot_ne (Or.inr (own_w hw 21 rfl)) (Or.inl (own_w hw 47 rfl)) (by decide) (t := .byte) (t' := .boolean) (by decide) (by decide))))
    refine ⟨_, _, pre0 _ (S18 _ ?_), hrun, hended, _, _, rfl, ?_, ⟨_, rfl⟩, hW, hsame.mono (by decide) (by decide)⟩
    · exact retOut X14 hx Bd.returns rfl (Or.inl ⟨rfl, Or.inl rfl, _, rfl⟩) (hb hby d10_59) hr
    · show Q_rm_hash1 Z x tx kx c0 zc h0 n0 _ T14.heap _
      rw [e14]
      exact ⟨rfl, N17, K16, f19, f20, f21⟩
  · obtain ⟨T22, h22, X22, e22, W22, st22⟩ := putF X8 hx hZ hown (host := "") (Or.inl (own_w hw 44 rfl)) Via.refl k10 H_x E_x (Or.inl (own_w hw 45 rfl)) (own_w hw 6 rfl) (ty := .int) (by decide) rfl rfl (g := (mkF m 55 #[.val (.ref x), .val (.int (own_H [c0]))] [(.int (own_H [c0])), (.ref x)])) rfl rfl (hb hby d10_55)
    have O23 := O0.wr W22 g_x
    have K24 : Keep h0 h22 [x] := K0.wr W22 (Or.inl (List.mem_of_getElem? (i := 0) rfl))
    have N25 := Fr.snoc X22 N11 g_x
    have F22 : Fld Z h22 x "java/lang/String" "hash" "I" (.int (own_H [c0])) := Fld.same W22 H_x
    have S26 : ∀ t, Steps p.tables e below (T22.setTop (mkF m 59 #[.val (.ref x), .val (.int (own_H [c0]))] [(.int (own_H [c0]))])) t → Steps p.tables e below (s₁.setTop (mkF m 0 #[.val (.ref x), .unset] [])) t := by
      intro t kt
      refine S12 t ?_
      refine XS.ifYes X8.here hx rfl (pc0 := 42) (pc' := 53) rfl (hb hby d10_42) rfl ((if0 _ _).trans (feq (c13 : ¬ ((own_H [c0]) = (0 : Int32)))).2) (by decide) (by decide) ?_
      refine XS.aloadN X8.here hx rfl (hb hby d10_53) rfl rfl ?_
      refine XS.iloadN X8.here hx rfl (hb hby d10_54) rfl ?_
      show Steps p.tables e below (T8.setTop (mkF m 55 #[.val (.ref x), .val (.int (own_H [c0]))] [(.int (own_H [c0])), (.ref x)])) _
      refine st22 _ ?_
      refine XS.iloadN X22.here hx rfl (hb hby d10_58) rfl ?_
      exact kt
    obtain ⟨fs, hr, hrun, hended, hW, hsame⟩ := X22.leave (v := some (.int (own_H [c0]))) (fun h => by rw [Bd.returns] at h; cases h)
    have f27 := (Exa.wr W22 E_x)
    have f28 := (Fld.other W22 V_x (Or.inr (slot_ne (Or.inr (own_w hw 20 rfl)) (Or.inl (own_w hw 45 rfl)) (by decide) (t := (.array .byte)) (t' := .int) (by decide) (by decide))))
    have f29 := (Fld.other W22 C_x (Or.inr (slot_ne (Or.inr (own_w hw 21 rfl)) (Or.inl (own_w hw 45 rfl)) (by decide) (t := .byte) (t' := .int) (by decide) (by decide))))
    refine ⟨_, _, pre0 _ (S26 _ ?_), hrun, hended, _, _, rfl, ?_, ⟨_, rfl⟩, hW, hsame.mono (by decide) (by decide)⟩
    · exact retOut X22 hx Bd.returns rfl (Or.inl ⟨rfl, Or.inl rfl, _, rfl⟩) (hb hby d10_59) hr
    · show Q_rm_hash1 Z x tx kx c0 zc h0 n0 _ T22.heap _
      rw [e22]
      exact ⟨rfl, N25, K24, f27, f28, f29⟩
theorem ef_rm_hash2 (m : MethodId) (x0 : Addr) : entryFrame m #[(.ref x0)] 2 = mkF m 0 #[.val (.ref x0), .unset] [] := by first | (simp [entryFrame, mkF, argsToLocals, Value.category]; done) | rfl
def Q_rm_hash2 (Z : State) (x : Addr) (tx : Addr) (kx : ClassId) (c0 : Int32) (c1 : Int32) (zc : Int32) (h0 : Heap) (n0 : Nat) (v : Option Value) (h : Heap) (L : List Loc) : Prop := ((v = some (.int (own_H ([c0, c1] : List Int32)))) ∧ (Fr n0 L) ∧ (Keep h0 h [x]) ∧ (Exa Z h x "java/lang/String") ∧ (Fld Z h x "java/lang/String" "value" "[B" (.ref tx)) ∧ (Fld Z h x "java/lang/String" "coder" "B" (.int (0 : Int32))))
set_option maxRecDepth 65536 in
set_option maxHeartbeats 40000000 in
theorem rm_hash2 (l : Launch) (Z : State) (a0 : Array Value) (hw : ∀ d ∈ tables_1, d.before a0 Z = true) (ws : List Jvm.Cond) (x : Addr) (tx : Addr) (kx : ClassId) (c0 : Int32) (c1 : Int32) (zc : Int32) (h0 : Heap) (n0 : Nat) (O0 : Old Z n0 h0) (E_x : Exa Z h0 x "java/lang/String") (V_x : Fld Z h0 x "java/lang/String" "value" "[B" (.ref tx)) (C_x : Fld Z h0 x "java/lang/String" "coder" "B" (.int (0 : Int32))) (T_x : Exa Z h0 tx "[B") (K_x : Arv Z h0 tx kx .byte (2 : Int32) [(.int c0.toInt8.toInt32), (.int c1.toInt8.toInt32)] (.int (0 : Int32))) (H_x : Fld Z h0 x "java/lang/String" "hash" "I" (.int (0 : Int32))) (Z_x : Fld Z h0 x "java/lang/String" "hashIsZero" "Z" (.int (0 : Int32))) (g_x : n0 ≤ x) (S_C : Sta Z Z.heap "java/lang/String" "COMPACT_STRINGS" "Z" (.int zc)) (hzc : ¬ (zc = (0 : Int32))) :
    MetFree l (⟨"java/lang/String", "hashCode", "()I"⟩ : MethodName) (head1 (Jvm.Cond.code (⟨"java/lang/String", "hashCode", "()I"⟩ : MethodName) jdk_42_method_78_code 2 (some .int) :: ws) ({ frames := 3, cells := 0, slots := 0, locals := 45 } : Room)) (fun a U => a = #[(.ref x)] ∧ Z.Warmed39 U.vm ∧ U.heap = h0) (fun _ _ _ _ _ => True) (fun _ U o U' => ∃ v L, o = .returned v ∧ Q_rm_hash2 Z x tx kx c0 c1 zc h0 n0 v U'.heap L ∧ FrameEnd U o U' L ({ frames := 3, cells := 0, slots := 0, locals := 45 } : Room).cells ({ frames := 3, cells := 0, slots := 0, locals := 45 } : Room).slots) := by
  refine MetFree.of_bodySF (plainFor_of_name pn_1) hisR ?_
  intro p e s m args below meth c s₁ Bd hml0 hP hK
  obtain ⟨rfl, hZ, hh⟩ := hP
  have hx := Bd.exec
  have hby := Bd.bytes
  have hml : c.maxLocals = 2 := hml0
  have hown : s.vm.findClass "java/lang/String" = some m.cls := findClass_of_methodNamed Bd.named
  have hnm := (name_of_methodNamed Bd.named Bd.method).1
  have X0 : Stand p l e ({ frames := 3, cells := 0, slots := 0, locals := 45 } : Room) s m #[(.ref x)] below meth c s₁ [] 0 0 := Stand.of_body Bd
  have e0 : s₁.heap = h0 := by rw [← hh, Bd.state]; rfl
  have N0 := Fr.nil n0
  have hwl : ∀ d ∈ StrChars.Road.wordsLen, d.before a0 Z = true := fun d hd => hw d (own_wordsLen d hd)
  have hwc : ∀ d ∈ StrChars.Road.wordsChN, d.before a0 Z = true := fun d hd => hw d (own_wordsChN d hd)
  have hwq : ∀ d ∈ StrChars.Road.wordsEq, d.before a0 Z = true := fun d hd => hw d (own_wordsEq d hd)
  have K0 : Keep h0 h0 [x] := Keep.refl _ _
  have pre0 : ∀ t, Steps p.tables e below (s₁.setTop (mkF m 0 #[.val (.ref x), .unset] [])) t → Steps p.tables e below (s₁.setTop (entryFrame m #[(.ref x)] 2)) t := fun t k => castTop (ef_rm_hash2 m x) k
  obtain ⟨T1, X1, e1, st1⟩ := getF X0 hx hZ hown (host := "") (Or.inl (own_w hw 44 rfl)) Via.refl e0 H_x (g := (mkF m 1 #[.val (.ref x), .unset] [(.ref x)])) rfl rfl (hb hby d10_1)
  obtain ⟨T2, X2, e2, st2⟩ := getF X1 hx hZ hown (host := "") (Or.inl (own_w hw 46 rfl)) Via.refl e1 Z_x (g := (mkF m 10 #[.val (.ref x), .val (.int (0 : Int32))] [(.ref x)])) rfl rfl (hb hby d10_10)
  obtain ⟨cq3, kq3, q3a, q3b, q3c⟩ := isOf hZ e2 E_x
  obtain ⟨_, _, ⟨T3, L3, k3, n3⟩, -, X3, ⟨Lc3, hQ3, l3, y3, z3⟩, st3⟩ := X2.virtualBack hx (y := (⟨"java/lang/String", "isLatin1", "()Z"⟩ : MethodName)) (z := (⟨"java/lang/String", "isLatin1", "()Z"⟩ : MethodName)) hown (mvT hZ (own_w hw 48 rfl)) (mvT hZ (own_w hw 49 rfl)) (notFace_of_selects (args := #[]) (mvT hZ (own_w hw 51 rfl))) (mvT hZ (own_w hw 51 rfl)) (mvT hZ (own_w hw 50 rfl)) (by decide) (backOf (W := 0) (rm_isl l Z a0 hw [] x zc h0 n0 O0 C_x S_C hzc) hZ (own_w hw 52 rfl) (own_w hw 7 rfl) (by decide) (by decide)) q3a q3c (g := (mkF m 17 #[.val (.ref x), .val (.int (0 : Int32))] [(.ref x)])) rfl (by rw [hml]; rfl) (Steps.refl _) (argsL := []) (rest := []) (lenOf pd_7 rfl) rfl (by show 2 * 0 + _ ≤ _; exact Nat.le_of_eq rfl) (hb hby d10_17) (fun _ _ => ⟨rfl, e2, (by decide : 0 + 0 ≤ _), (by decide : 0 + 0 ≤ _)⟩)
  dsimp only [Pt.U, Pt.locs, Pt.cells, Pt.slots] at X3 l3 y3 z3 st3 hQ3
  subst l3 y3 z3
  obtain ⟨rfl, N4, k5⟩ := hQ3
  have N6 := Fr.app N0 N4
  obtain ⟨T7, X7, e7, st7⟩ := getF X3 hx hZ hown (host := "") (Or.inl (own_w hw 24 rfl)) Via.refl k5 V_x (g := (mkF m 24 #[.val (.ref x), .val (.int (0 : Int32))] [(.ref x)])) rfl rfl (hb hby d10_24)
  obtain ⟨_, _, ⟨T8, L8, k8, n8⟩, -, X8, ⟨Lc8, hQ8, l8, y8, z8⟩, st8⟩ := Jvm.LawKit.callS X7 hx (y := (⟨"java/lang/StringLatin1", "hashCode", "([B)I"⟩ : MethodName)) hown (mvT hZ (own_w hw 54 rfl)) (mvT hZ (own_w hw 55 rfl)) (mvT hZ (own_w hw 56 rfl)) (mvT hZ (own_w hw 57 rfl)) (by decide) (backOf (W := 0) (rm_slh2 l Z a0 hw [] tx kx c0 c1 h0 n0 O0 T_x K_x) hZ (own_w hw 57 rfl) (own_w hw 56 rfl) (by decide) (by decide)) (g := (mkF m 27 #[.val (.ref x), .val (.int (0 : Int32))] [(.ref tx)])) rfl (by rw [hml]; rfl) (argsL := [(.ref tx)]) (rest := []) (lenOf pd_8 rfl) rfl (by show 2 * 0 + _ ≤ _; exact Nat.le_of_eq rfl) (hb hby d10_27) (fun _ _ => ⟨rfl, e7, (by decide : 0 + 0 ≤ _), (by decide : 0 + 0 ≤ _)⟩)
  dsimp only [Pt.U, Pt.locs, Pt.cells, Pt.slots] at X8 l8 y8 z8 st8 hQ8
  subst l8 y8 z8
  obtain ⟨rfl, N9, k10⟩ := hQ8
  have N11 := Fr.app N6 N9
  have S12 : ∀ t, Steps p.tables e below (T8.setTop (mkF m 42 #[.val (.ref x), .val (.int (own_H [c0, c1]))] [(.int (own_H [c0, c1]))])) t → Steps p.tables e below (s₁.setTop (mkF m 0 #[.val (.ref x), .unset] [])) t := by
    intro t kt
    refine XS.aloadN X0.here hx rfl (hb hby d10_0) rfl rfl ?_
    show Steps p.tables e below (s₁.setTop (mkF m 1 #[.val (.ref x), .unset] [(.ref x)])) _
    refine st1 _ ?_
    refine XS.istoreN X1.here hx rfl (hb hby d10_4) rfl (l' := #[.val (.ref x), .val (.int (0 : Int32))]) rfl ?_
    refine XS.iloadN X1.here hx rfl (hb hby d10_5) rfl ?_
    refine XS.ifNo X1.here hx rfl (hb hby d10_6) rfl ((if0 _ _).trans (teq ((by decide) : (0 : Int32) = (0 : Int32))).2) ?_
    refine XS.aloadN X1.here hx rfl (hb hby d10_9) rfl rfl ?_
    show Steps p.tables e below (T1.setTop (mkF m 10 #[.val (.ref x), .val (.int (0 : Int32))] [(.ref x)])) _
    refine st2 _ ?_
    refine XS.ifNo X2.here hx rfl (hb hby d10_13) rfl ((if0 _ _).trans (teq ((by decide) : (0 : Int32) = (0 : Int32))).2) ?_
    refine XS.aloadN X2.here hx rfl (hb hby d10_16) rfl rfl ?_
    show Steps p.tables e below (T2.setTop (mkF m 17 #[.val (.ref x), .val (.int (0 : Int32))] [(.ref x)])) _
    refine st3.trans ?_
    refine XS.ifNo X3.here hx rfl (hb hby d10_20) rfl ((if0 _ _).trans (feq ((by decide) : ¬ ((1 : Int32) = (0 : Int32)))).1) ?_
    refine XS.aloadN X3.here hx rfl (hb hby d10_23) rfl rfl ?_
    show Steps p.tables e below (T3.setTop (mkF m 24 #[.val (.ref x), .val (.int (0 : Int32))] [(.ref x)])) _
    refine st7 _ ?_
    show Steps p.tables e below (T7.setTop (mkF m 27 #[.val (.ref x), .val (.int (0 : Int32))] [(.ref tx)])) _
    refine st8 _ ?_
    refine XS.goto X8.here hx rfl (pc0 := 30) (pc' := 40) rfl (hb hby d10_30) (by decide) (by decide) ?_
    refine XS.istoreN X8.here hx rfl (hb hby d10_40) rfl (l' := #[.val (.ref x), .val (.int (own_H [c0, c1]))]) rfl ?_
    refine XS.iloadN X8.here hx rfl (hb hby d10_41) rfl ?_
    exact kt
  rcases Decidable.em ((own_H [c0, c1]) = (0 : Int32)) with c13 | c13
  · obtain ⟨T14, h14, X14, e14, W14, st14⟩ := putFN X8 hx hZ hown (own_w hw 46 rfl) Via.refl k10 Z_x E_x (Or.inl (own_w hw 47 rfl)) (own_w hw 6 rfl) (ty := .boolean) (v' := (.int (1 : Int32))) (by decide) rfl rfl (g := (mkF m 47 #[.val (.ref x), .val (.int (own_H [c0, c1]))] [(.int (1 : Int32)), (.ref x)])) rfl rfl (hb hby d10_47)
    have O15 := O0.wr W14 g_x
    have K16 : Keep h0 h14 [x] := K0.wr W14 (Or.inl (List.mem_of_getElem? (i := 0) rfl))
    have N17 := Fr.snoc X14 N11 g_x
    have F14 : Fld Z h14 x "java/lang/String" "hashIsZero" "Z" (.int (1 : Int32)) := Fld.same W14 Z_x
    have S18 : ∀ t, Steps p.tables e below (T14.setTop (mkF m 59 #[.val (.ref x), .val (.int (own_H [c0, c1]))] [(.int (own_H [c0, c1]))])) t → Steps p.tables e below (s₁.setTop (mkF m 0 #[.val (.ref x), .unset] [])) t := by
      intro t kt
      refine S12 t ?_
      refine XS.ifNo X8.here hx rfl (hb hby d10_42) rfl ((if0 _ _).trans (teq (c13 : (own_H [c0, c1]) = (0 : Int32))).2) ?_
      refine XS.aloadN X8.here hx rfl (hb hby d10_45) rfl rfl ?_
      refine XS.iconst X8.here hx rfl (hb hby d10_46) ?_
      show Steps p.tables e below (T8.setTop (mkF m 47 #[.val (.ref x), .val (.int (own_H [c0, c1]))] [(.int (1 : Int32)), (.ref x)])) _
      refine st14 _ ?_
      refine XS.goto X14.here hx rfl (pc0 := 50) (pc' := 58) rfl (hb hby d10_50) (by decide) (by decide) ?_
      refine XS.iloadN X14.here hx rfl (hb hby d10_58) rfl ?_
      exact kt
    obtain ⟨fs, hr, hrun, hended, hW, hsame⟩ := X14.leave (v := some (.int (own_H [c0, c1]))) (fun h => by rw [Bd.returns] at h; cases h)
    have f19 := (Exa.wr W14 E_x)
    have f20 := (Fld.other W14 V_x (Or.inr (slot_ne (Or.inr (own_w hw 20 rfl)) (Or.inl (own_w hw 47 rfl)) (by decide) (t := (.array .byte)) (t' := .boolean) (by decide) (by decide))))
    have f21 := (Fld.other W14 C_x (Or.inr (slot_ne (Or.inr (own_w hw 21 rfl)) (Or.inl (own_w hw 47 rfl)) (by decide) (t := .byte) (t' := .boolean) (by decide) (by decide))))
    refine ⟨_, _, pre0 _ (S18 _ ?_), hrun, hended, _, _, rfl, ?_, ⟨_, rfl⟩, hW, hsame.mono (by decide) (by decide)⟩
    · exact retOut X14 hx Bd.returns rfl (Or.inl ⟨rfl, Or.inl rfl, _, rfl⟩) (hb hby d10_59) hr
    · show Q_rm_hash2 Z x tx kx c0 c1 zc h0 n0 _ T14.heap _
      rw [e14]
      exact ⟨rfl, N17, K16, f19, f20, f21⟩
  · obtain ⟨T22, h22, X22, e22, W22, st22⟩ := putF X8 hx hZ hown (host := "") (Or.inl (own_w hw 44 rfl)) Via.refl k10 H_x E_x (Or.inl (own_w hw 45 rfl)) (own_w hw 6 rfl) (ty := .int) (by decide) rfl rfl (g := (mkF m 55 #[.val (.ref x), .val (.int (own_H [c0, c1]))] [(.int (own_H [c0, c1])), (.ref x)])) rfl rfl (hb hby d10_55)
    have O23 := O0.wr W22 g_x
    have K24 : Keep h0 h22 [x] := K0.wr W22 (Or.inl (List.mem_of_getElem? (i := 0) rfl))
    have N25 := Fr.snoc X22 N11 g_x
    have F22 : Fld Z h22 x "java/lang/String" "hash" "I" (.int (own_H [c0, c1])) := Fld.same W22 H_x
    have S26 : ∀ t, Steps p.tables e below (T22.setTop (mkF m 59 #[.val (.ref x), .val (.int (own_H [c0, c1]))] [(.int (own_H [c0, c1]))])) t → Steps p.tables e below (s₁.setTop (mkF m 0 #[.val (.ref x), .unset] [])) t := by
      intro t kt
      refine S12 t ?_
      refine XS.ifYes X8.here hx rfl (pc0 := 42) (pc' := 53) rfl (hb hby d10_42) rfl ((if0 _ _).trans (feq (c13 : ¬ ((own_H [c0, c1]) = (0 : Int32)))).2) (by decide) (by decide) ?_
      refine XS.aloadN X8.here hx rfl (hb hby d10_53) rfl rfl ?_
      refine XS.iloadN X8.here hx rfl (hb hby d10_54) rfl ?_
      show Steps p.tables e below (T8.setTop (mkF m 55 #[.val (.ref x), .val (.int (own_H [c0, c1]))] [(.int (own_H [c0, c1])), (.ref x)])) _
      refine st22 _ ?_
      refine XS.iloadN X22.here hx rfl (hb hby d10_58) rfl ?_
      exact kt
    obtain ⟨fs, hr, hrun, hended, hW, hsame⟩ := X22.leave (v := some (.int (own_H [c0, c1]))) (fun h => by rw [Bd.returns] at h; cases h)
    have f27 := (Exa.wr W22 E_x)
    have f28 := (Fld.other W22 V_x (Or.inr (slot_ne (Or.inr (own_w hw 20 rfl)) (Or.inl (own_w hw 45 rfl)) (by decide) (t := (.array .byte)) (t' := .int) (by decide) (by decide))))
    have f29 := (Fld.other W22 C_x (Or.inr (slot_ne (Or.inr (own_w hw 21 rfl)) (Or.inl (own_w hw 45 rfl)) (by decide) (t := .byte) (t' := .int) (by decide) (by decide))))
    refine ⟨_, _, pre0 _ (S26 _ ?_), hrun, hended, _, _, rfl, ?_, ⟨_, rfl⟩, hW, hsame.mono (by decide) (by decide)⟩
    · exact retOut X22 hx Bd.returns rfl (Or.inl ⟨rfl, Or.inl rfl, _, rfl⟩) (hb hby d10_59) hr
    · show Q_rm_hash2 Z x tx kx c0 c1 zc h0 n0 _ T22.heap _
      rw [e22]
      exact ⟨rfl, N25, K24, f27, f28, f29⟩
def Q_rm_hash (Z : State) (x : Addr) (tx : Addr) (kx : ClassId) (cs : List Int32) (zc : Int32) (h0 : Heap) (n0 : Nat) (v : Option Value) (h : Heap) (L : List Loc) : Prop := ((v = some (.int (own_H cs))) ∧ (Fr n0 L) ∧ (Keep h0 h [x]) ∧ (Exa Z h x "java/lang/String") ∧ (Fld Z h x "java/lang/String" "value" "[B" (.ref tx)) ∧ (Fld Z h x "java/lang/String" "coder" "B" (.int (0 : Int32))))
set_option maxRecDepth 65536 in
set_option maxHeartbeats 40000000 in
theorem rm_hash (l : Launch) (Z : State) (a0 : Array Value) (hw : ∀ d ∈ tables_1, d.before a0 Z = true) (ws : List Jvm.Cond) (x : Addr) (tx : Addr) (kx : ClassId) (cs : List Int32) (zc : Int32) (h0 : Heap) (n0 : Nat) (O0 : Old Z n0 h0) (E_x : Exa Z h0 x "java/lang/String") (V_x : Fld Z h0 x "java/lang/String" "value" "[B" (.ref tx)) (C_x : Fld Z h0 x "java/lang/String" "coder" "B" (.int (0 : Int32))) (T_x : Exa Z h0 tx "[B") (K_x : Arv Z h0 tx kx .byte (own_len cs) (own_vs cs) (.int (0 : Int32))) (H_x : Fld Z h0 x "java/lang/String" "hash" "I" (.int (0 : Int32))) (Z_x : Fld Z h0 x "java/lang/String" "hashIsZero" "Z" (.int (0 : Int32))) (g_x : n0 ≤ x) (ok : own_ok cs) (S_C : Sta Z Z.heap "java/lang/String" "COMPACT_STRINGS" "Z" (.int zc)) (hzc : ¬ (zc = (0 : Int32))) :
    MetFree l (⟨"java/lang/String", "hashCode", "()I"⟩ : MethodName) (head1 (Jvm.Cond.code (⟨"java/lang/String", "hashCode", "()I"⟩ : MethodName) jdk_42_method_78_code 2 (some .int) :: ws) ({ frames := 3, cells := 0, slots := 0, locals := 45 } : Room)) (fun a U => a = #[(.ref x)] ∧ Z.Warmed39 U.vm ∧ U.heap = h0) (fun _ _ _ _ _ => True) (fun _ U o U' => ∃ v L, o = .returned v ∧ Q_rm_hash Z x tx kx cs zc h0 n0 v U'.heap L ∧ FrameEnd U o U' L ({ frames := 3, cells := 0, slots := 0, locals := 45 } : Room).cells ({ frames := 3, cells := 0, slots := 0, locals := 45 } : Room).slots) := by
  rcases own_split ok with rfl | ⟨c0, rfl⟩ | ⟨c0, c1, rfl⟩
  · exact rm_hash0 l Z a0 hw ws x tx kx  zc h0 n0 O0 E_x V_x C_x T_x K_x H_x Z_x g_x S_C hzc
  · exact rm_hash1 l Z a0 hw ws x tx kx c0 zc h0 n0 O0 E_x V_x C_x T_x K_x H_x Z_x g_x S_C hzc
  · exact rm_hash2 l Z a0 hw ws x tx kx c0 c1 zc h0 n0 O0 E_x V_x C_x T_x K_x H_x Z_x g_x S_C hzc
theorem d11_0 : decode method_3_code 0 = .ok (.aload_n 0, 1) := by decide +kernel
theorem d11_1 : decode method_3_code 1 = .ok (.invokevirtual 12, 3) := by decide +kernel
theorem pd_9 : parseMethodDescriptor "()I" = some ⟨[], some .int⟩ := by decide +kernel
theorem d11_4 : decode method_3_code 4 = .ok (.aload_n 1, 1) := by decide +kernel
theorem d11_5 : decode method_3_code 5 = .ok (.invokevirtual 12, 3) := by decide +kernel
theorem d11_8 : decode method_3_code 8 = .ok (.if_icmp .eq 5, 3) := by decide +kernel
theorem d11_13 : decode method_3_code 13 = .ok (.aload_n 0, 1) := by decide +kernel
theorem d11_14 : decode method_3_code 14 = .ok (.invokevirtual 12, 3) := by decide +kernel
theorem d11_17 : decode method_3_code 17 = .ok (.iconst 1, 1) := by decide +kernel
theorem d11_18 : decode method_3_code 18 = .ok (.if_icmp .lt 18, 3) := by decide +kernel
theorem d11_36 : decode method_3_code 36 = .ok (.aload_n 0, 1) := by decide +kernel
theorem d11_37 : decode method_3_code 37 = .ok (.invokevirtual 12, 3) := by decide +kernel
theorem d11_40 : decode method_3_code 40 = .ok (.iconst 2, 1) := by decide +kernel
theorem d11_41 : decode method_3_code 41 = .ok (.if_icmp .lt 18, 3) := by decide +kernel
theorem d11_59 : decode method_3_code 59 = .ok (.iconst 1, 1) := by decide +kernel
theorem d11_60 : decode method_3_code 60 = .ok (.ireturn, 1) := by decide +kernel
theorem ef_rm_same00 (m : MethodId) (x0 : Addr) (x1 : Addr) : entryFrame m #[(.ref x0), (.ref x1)] 2 = mkF m 0 #[.val (.ref x0), .val (.ref x1)] [] := by first | (simp [entryFrame, mkF, argsToLocals, Value.category]; done) | rfl
def Q_rm_same00 (Z : State) (x : Addr) (tx : Addr) (kx : ClassId) (y : Addr) (ty : Addr) (ky : ClassId) (zc : Int32) (fm : Value) (h0 : Heap) (n0 : Nat) (v : Option Value) (h : Heap) (L : List Loc) : Prop := ((v = some (.int (own_eqI ([] : List Int32) []))) ∧ (Fr n0 L) ∧ (h = h0))
set_option maxRecDepth 65536 in
set_option maxHeartbeats 40000000 in
theorem rm_same00 (l : Launch) (Z : State) (a0 : Array Value) (hw : ∀ d ∈ tables_1, d.before a0 Z = true) (ws : List Jvm.Cond) (x : Addr) (tx : Addr) (kx : ClassId) (y : Addr) (ty : Addr) (ky : ClassId) (zc : Int32) (fm : Value) (h0 : Heap) (n0 : Nat) (O0 : Old Z n0 h0) (E_x : Exa Z h0 x "java/lang/String") (V_x : Fld Z h0 x "java/lang/String" "value" "[B" (.ref tx)) (C_x : Fld Z h0 x "java/lang/String" "coder" "B" (.int (0 : Int32))) (K_x : Arv Z h0 tx kx .byte (0 : Int32) [] (.int (0 : Int32))) (E_y : Exa Z h0 y "java/lang/String") (V_y : Fld Z h0 y "java/lang/String" "value" "[B" (.ref ty)) (C_y : Fld Z h0 y "java/lang/String" "coder" "B" (.int (0 : Int32))) (K_y : Arv Z h0 ty ky .byte (0 : Int32) [] (.int (0 : Int32))) (S_C : Sta Z Z.heap "java/lang/String" "COMPACT_STRINGS" "Z" (.int zc)) (hzc : ¬ (zc = (0 : Int32))) (S_F : Sta Z Z.heap "jdk/internal/util/Preconditions" "SIOOBE_FORMATTER" "Ljava/util/function/BiFunction;" fm) (hfm : fm.isRef = true) :
    MetFree l (⟨"com/example/typecheck/typecheck/model/QNameEqualsPinLaw", "same", "(Ljava/lang/String;Ljava/lang/String;)Z"⟩ : MethodName) (head1 (Jvm.Cond.code (⟨"com/example/typecheck/typecheck/model/QNameEqualsPinLaw", "same", "(Ljava/lang/String;Ljava/lang/String;)Z"⟩ : MethodName) method_3_code 2 (some .boolean) :: ws) ({ frames := 5, cells := 0, slots := 0, locals := 70 } : Room)) (fun a U => a = #[(.ref x), (.ref y)] ∧ Z.Warmed39 U.vm ∧ U.heap = h0) (fun _ _ _ _ _ => True) (fun _ U o U' => ∃ v L, o = .returned v ∧ Q_rm_same00 Z x tx kx y ty ky zc fm h0 n0 v U'.heap L ∧ FrameEnd U o U' L ({ frames := 5, cells := 0, slots := 0, locals := 70 } : Room).cells ({ frames := 5, cells := 0, slots := 0, locals := 70 } : Room).slots) := by
  refine MetFree.of_bodySF (plainFor_of_name pn_2) hisR ?_
  intro p e s m args below meth c s₁ Bd hml0 hP hK
  obtain ⟨rfl, hZ, hh⟩ := hP
  have hx := Bd.exec
  have hby := Bd.bytes
  have hml : c.maxLocals = 2 := hml0
  have hown : s.vm.findClass "com/example/typecheck/typecheck/model/QNameEqualsPinLaw" = some m.cls := findClass_of_methodNamed Bd.named
  have hnm := (name_of_methodNamed Bd.named Bd.method).1
  have X0 : Stand p l e ({ frames := 5, cells := 0, slots := 0, locals := 70 } : Room) s m #[(.ref x), (.ref y)] below meth c s₁ [] 0 0 := Stand.of_body Bd
  have e0 : s₁.heap = h0 := by rw [← hh, Bd.state]; rfl
  have N0 := Fr.nil n0
  have hwl : ∀ d ∈ StrChars.Road.wordsLen, d.before a0 Z = true := fun d hd => hw d (own_wordsLen d hd)
  have hwc : ∀ d ∈ StrChars.Road.wordsChN, d.before a0 Z = true := fun d hd => hw d (own_wordsChN d hd)
  have hwq : ∀ d ∈ StrChars.Road.wordsEq, d.before a0 Z = true := fun d hd => hw d (own_wordsEq d hd)
  have pre0 : ∀ t, Steps p.tables e below (s₁.setTop (mkF m 0 #[.val (.ref x), .val (.ref y)] [])) t → Steps p.tables e below (s₁.setTop (entryFrame m #[(.ref x), (.ref y)] 2)) t := fun t k => castTop (ef_rm_same00 m x y) k
  have la2 : ∀ c ∈ ([] : List Int32), ¬ c < 0 ∧ ¬ (255 : Int32) < c := fun c hc => nomatch hc
  have cd2 : StrChars.Road.CodA ([] : List Int32) 0 (0 : Int32) [] := StrChars.Road.codOf (n := 0) rfl (fun x hx => (la2 x hx).2)
  have bd2 := own_up la2
  obtain ⟨cq1, kq1, q1a, q1b, q1c⟩ := isOf hZ e0 E_x
  obtain ⟨_, _, ⟨T1, L1, k1, n1⟩, -, X1, ⟨Lc1, hQ1, l1, y1, z1⟩, st1⟩ := X0.virtualBack hx (y := (⟨"java/lang/String", "length", "()I"⟩ : MethodName)) (z := (⟨"java/lang/String", "length", "()I"⟩ : MethodName)) hown (mvT hZ (own_w hw 63 rfl)) (mvT hZ (own_w hw 64 rfl)) (notFace_of_selects (args := #[]) (mvT hZ (own_w hw 66 rfl))) (mvT hZ (own_w hw 66 rfl)) (mvT hZ (own_w hw 65 rfl)) (by decide) (StrChars.Road.lenW (W := 0) hZ hwl (kI := 4) (own_w hw 6 rfl) (cs := []) E_x V_x C_x K_x cd2 bd2 (S_C.ext O0.2) hzc (by show 0 ≤ 4000; decide) (by decide) (by decide)) q1a q1c (g := (mkF m 1 #[.val (.ref x), .val (.ref y)] [(.ref x)])) rfl (by rw [hml]; rfl) (Steps.refl _) (argsL := []) (rest := []) (lenOf pd_9 rfl) rfl (by show 2 * 0 + _ ≤ _; exact Nat.le_of_eq rfl) (hb hby d11_1) (fun _ _ => ⟨rfl, e0, (by decide : 0 + 0 ≤ _), (by decide : 0 + 0 ≤ _)⟩)
  dsimp only [Pt.U, Pt.locs, Pt.cells, Pt.slots] at X1 l1 y1 z1 st1 hQ1
  subst l1 y1 z1
  obtain ⟨rfl, rfl, k3⟩ := hQ1
  have N4 := Fr.app N0 (Fr.nil n0)
  obtain ⟨cq5, kq5, q5a, q5b, q5c⟩ := isOf hZ k3 E_y
  obtain ⟨_, _, ⟨T5, L5, k5, n5⟩, -, X5, ⟨Lc5, hQ5, l5, y5, z5⟩, st5⟩ := X1.virtualBack hx (y := (⟨"java/lang/String", "length", "()I"⟩ : MethodName)) (z := (⟨"java/lang/String", "length", "()I"⟩ : MethodName)) hown (mvT hZ (own_w hw 63 rfl)) (mvT hZ (own_w hw 64 rfl)) (notFace_of_selects (args := #[]) (mvT hZ (own_w hw 66 rfl))) (mvT hZ (own_w hw 66 rfl)) (mvT hZ (own_w hw 65 rfl)) (by decide) (StrChars.Road.lenW (W := 1) hZ hwl (kI := 4) (own_w hw 6 rfl) (cs := []) E_y V_y C_y K_y cd2 bd2 (S_C.ext O0.2) hzc (by show 0 ≤ 4000; decide) (by decide) (by decide)) q5a q5c (g := (mkF m 5 #[.val (.ref x), .val (.ref y)] [(.ref y), (.int (0 : Int32))])) rfl (by rw [hml]; rfl) (Steps.refl _) (argsL := []) (rest := [(.int (0 : Int32))]) (lenOf pd_9 rfl) rfl (by show 2 * 0 + _ ≤ _; exact Nat.le_of_eq rfl) (hb hby d11_5) (fun _ _ => ⟨rfl, k3, (by decide : 0 + 0 ≤ _), (by decide : 0 + 0 ≤ _)⟩)
  dsimp only [Pt.U, Pt.locs, Pt.cells, Pt.slots] at X5 l5 y5 z5 st5 hQ5
  subst l5 y5 z5
  obtain ⟨rfl, rfl, k6⟩ := hQ5
  have N7 := Fr.app N4 (Fr.nil n0)
  obtain ⟨cq8, kq8, q8a, q8b, q8c⟩ := isOf hZ k6 E_x
  obtain ⟨_, _, ⟨T8, L8, k8, n8⟩, -, X8, ⟨Lc8, hQ8, l8, y8, z8⟩, st8⟩ := X5.virtualBack hx (y := (⟨"java/lang/String", "length", "()I"⟩ : MethodName)) (z := (⟨"java/lang/String", "length", "()I"⟩ : MethodName)) hown (mvT hZ (own_w hw 63 rfl)) (mvT hZ (own_w hw 64 rfl)) (notFace_of_selects (args := #[]) (mvT hZ (own_w hw 66 rfl))) (mvT hZ (own_w hw 66 rfl)) (mvT hZ (own_w hw 65 rfl)) (by decide) (StrChars.Road.lenW (W := 0) hZ hwl (kI := 4) (own_w hw 6 rfl) (cs := []) E_x V_x C_x K_x cd2 bd2 (S_C.ext O0.2) hzc (by show 0 ≤ 4000; decide) (by decide) (by decide)) q8a q8c (g := (mkF m 14 #[.val (.ref x), .val (.ref y)] [(.ref x)])) rfl (by rw [hml]; rfl) (Steps.refl _) (argsL := []) (rest := []) (lenOf pd_9 rfl) rfl (by show 2 * 0 + _ ≤ _; exact Nat.le_of_eq rfl) (hb hby d11_14) (fun _ _ => ⟨rfl, k6, (by decide : 0 + 0 ≤ _), (by decide : 0 + 0 ≤ _)⟩)
  dsimp only [Pt.U, Pt.locs, Pt.cells, Pt.slots] at X8 l8 y8 z8 st8 hQ8
  subst l8 y8 z8
  obtain ⟨rfl, rfl, k9⟩ := hQ8
  have N10 := Fr.app N7 (Fr.nil n0)
  obtain ⟨cq11, kq11, q11a, q11b, q11c⟩ := isOf hZ k9 E_x
  obtain ⟨_, _, ⟨T11, L11, k11, n11⟩, -, X11, ⟨Lc11, hQ11, l11, y11, z11⟩, st11⟩ := X8.virtualBack hx (y := (⟨"java/lang/String", "length", "()I"⟩ : MethodName)) (z := (⟨"java/lang/String", "length", "()I"⟩ : MethodName)) hown (mvT hZ (own_w hw 63 rfl)) (mvT hZ (own_w hw 64 rfl)) (notFace_of_selects (args := #[]) (mvT hZ (own_w hw 66 rfl))) (mvT hZ (own_w hw 66 rfl)) (mvT hZ (own_w hw 65 rfl)) (by decide) (StrChars.Road.lenW (W := 0) hZ hwl (kI := 4) (own_w hw 6 rfl) (cs := []) E_x V_x C_x K_x cd2 bd2 (S_C.ext O0.2) hzc (by show 0 ≤ 4000; decide) (by decide) (by decide)) q11a q11c (g := (mkF m 37 #[.val (.ref x), .val (.ref y)] [(.ref x)])) rfl (by rw [hml]; rfl) (Steps.refl _) (argsL := []) (rest := []) (lenOf pd_9 rfl) rfl (by show 2 * 0 + _ ≤ _; exact Nat.le_of_eq rfl) (hb hby d11_37) (fun _ _ => ⟨rfl, k9, (by decide : 0 + 0 ≤ _), (by decide : 0 + 0 ≤ _)⟩)
  dsimp only [Pt.U, Pt.locs, Pt.cells, Pt.slots] at X11 l11 y11 z11 st11 hQ11
  subst l11 y11 z11
  obtain ⟨rfl, rfl, k12⟩ := hQ11
  have N13 := Fr.app N10 (Fr.nil n0)
  have S14 : ∀ t, Steps p.tables e below (T11.setTop (mkF m 60 #[.val (.ref x), .val (.ref y)] [(.int (1 : Int32))])) t → Steps p.tables e below (s₁.setTop (mkF m 0 #[.val (.ref x), .val (.ref y)] [])) t := by
    intro t kt
    refine XS.aloadN X0.here hx rfl (hb hby d11_0) rfl rfl ?_
    show Steps p.tables e below (s₁.setTop (mkF m 1 #[.val (.ref x), .val (.ref y)] [(.ref x)])) _
    refine st1.trans ?_
    refine XS.aloadN X1.here hx rfl (hb hby d11_4) rfl rfl ?_
    show Steps p.tables e below (T1.setTop (mkF m 5 #[.val (.ref x), .val (.ref y)] [(.ref y), (.int (0 : Int32))])) _
    refine st5.trans ?_
    refine XS.icmpYes X5.here hx rfl (pc0 := 8) (pc' := 13) rfl (hb hby d11_8) rfl (teq ((by decide) : (0 : Int32) = (0 : Int32))).1 (by decide) (by decide) ?_
    refine XS.aloadN X5.here hx rfl (hb hby d11_13) rfl rfl ?_
    show Steps p.tables e below (T5.setTop (mkF m 14 #[.val (.ref x), .val (.ref y)] [(.ref x)])) _
    refine st8.trans ?_
    refine XS.iconst X8.here hx rfl (hb hby d11_17) ?_
    refine XS.icmpYes X8.here hx rfl (pc0 := 18) (pc' := 36) rfl (hb hby d11_18) rfl (tlt ((by decide) : (0 : Int32) < (1 : Int32))).1 (by decide) (by decide) ?_
    refine XS.aloadN X8.here hx rfl (hb hby d11_36) rfl rfl ?_
    show Steps p.tables e below (T8.setTop (mkF m 37 #[.val (.ref x), .val (.ref y)] [(.ref x)])) _
    refine st11.trans ?_
    refine XS.iconst X11.here hx rfl (hb hby d11_40) ?_
    refine XS.icmpYes X11.here hx rfl (pc0 := 41) (pc' := 59) rfl (hb hby d11_41) rfl (tlt ((by decide) : (0 : Int32) < (2 : Int32))).1 (by decide) (by decide) ?_
    refine XS.iconst X11.here hx rfl (hb hby d11_59) ?_
    exact kt
  obtain ⟨fs, hr, hrun, hended, hW, hsame⟩ := X11.leave (v := some (.int (1 : Int32))) (fun h => by rw [Bd.returns] at h; cases h)
  refine ⟨_, _, pre0 _ (S14 _ ?_), hrun, hended, _, _, rfl, ?_, ⟨_, rfl⟩, hW, hsame.mono (by decide) (by decide)⟩
  · exact retN X11 hx (t := .boolean) Bd.returns (by simp) (hb hby d11_60) hr
  · show Q_rm_same00 Z x tx kx y ty ky zc fm h0 n0 _ T11.heap _
    rw [k12]
    exact ⟨(congrArg (fun z => some (Value.int z)) (if_pos rfl).symm), N13, rfl⟩
theorem d11_11 : decode method_3_code 11 = .ok (.iconst 0, 1) := by decide +kernel
theorem d11_12 : decode method_3_code 12 = .ok (.ireturn, 1) := by decide +kernel
theorem ef_rm_same01 (m : MethodId) (x0 : Addr) (x1 : Addr) : entryFrame m #[(.ref x0), (.ref x1)] 2 = mkF m 0 #[.val (.ref x0), .val (.ref x1)] [] := by first | (simp [entryFrame, mkF, argsToLocals, Value.category]; done) | rfl
def Q_rm_same01 (Z : State) (x : Addr) (tx : Addr) (kx : ClassId) (y : Addr) (ty : Addr) (ky : ClassId) (d0 : Int32) (zc : Int32) (fm : Value) (h0 : Heap) (n0 : Nat) (v : Option Value) (h : Heap) (L : List Loc) : Prop := ((v = some (.int (own_eqI ([] : List Int32) [d0]))) ∧ (Fr n0 L) ∧ (h = h0))
set_option maxRecDepth 65536 in
set_option maxHeartbeats 40000000 in
theorem rm_same01 (l : Launch) (Z : State) (a0 : Array Value) (hw : ∀ d ∈ tables_1, d.before a0 Z = true) (ws : List Jvm.Cond) (x : Addr) (tx : Addr) (kx : ClassId) (y : Addr) (ty : Addr) (ky : ClassId) (d0 : Int32) (zc : Int32) (fm : Value) (h0 : Heap) (n0 : Nat) (O0 : Old Z n0 h0) (E_x : Exa Z h0 x "java/lang/String") (V_x : Fld Z h0 x "java/lang/String" "value" "[B" (.ref tx)) (C_x : Fld Z h0 x "java/lang/String" "coder" "B" (.int (0 : Int32))) (K_x : Arv Z h0 tx kx .byte (0 : Int32) [] (.int (0 : Int32))) (E_y : Exa Z h0 y "java/lang/String") (V_y : Fld Z h0 y "java/lang/String" "value" "[B" (.ref ty)) (C_y : Fld Z h0 y "java/lang/String" "coder" "B" (.int (0 : Int32))) (K_y : Arv Z h0 ty ky .byte (1 : Int32) [(.int d0.toInt8.toInt32)] (.int (0 : Int32))) (la_d0 : ¬ (d0 < (0 : Int32)) ∧ ¬ ((255 : Int32) < d0)) (S_C : Sta Z Z.heap "java/lang/String" "COMPACT_STRINGS" "Z" (.int zc)) (hzc : ¬ (zc = (0 : Int32))) (S_F : Sta Z Z.heap "jdk/internal/util/Preconditions" "SIOOBE_FORMATTER" "Ljava/util/function/BiFunction;" fm) (hfm : fm.isRef = true) :
    MetFree l (⟨"com/example/typecheck/typecheck/model/QNameEqualsPinLaw", "same", "(Ljava/lang/String;Ljava/lang/String;)Z"⟩ : MethodName) (head1 (Jvm.Cond.code (⟨"com/example/typecheck/typecheck/model/QNameEqualsPinLaw", "same", "(Ljava/lang/String;Ljava/lang/String;)Z"⟩ : MethodName) method_3_code 2 (some .boolean) :: ws) ({ frames := 5, cells := 0, slots := 0, locals := 70 } : Room)) (fun a U => a = #[(.ref x), (.ref y)] ∧ Z.Warmed39 U.vm ∧ U.heap = h0) (fun _ _ _ _ _ => True) (fun _ U o U' => ∃ v L, o = .returned v ∧ Q_rm_same01 Z x tx kx y ty ky d0 zc fm h0 n0 v U'.heap L ∧ FrameEnd U o U' L ({ frames := 5, cells := 0, slots := 0, locals := 70 } : Room).cells ({ frames := 5, cells := 0, slots := 0, locals := 70 } : Room).slots) := by
  refine MetFree.of_bodySF (plainFor_of_name pn_2) hisR ?_
  intro p e s m args below meth c s₁ Bd hml0 hP hK
  obtain ⟨rfl, hZ, hh⟩ := hP
  have hx := Bd.exec
  have hby := Bd.bytes
  have hml : c.maxLocals = 2 := hml0
  have hown : s.vm.findClass "com/example/typecheck/typecheck/model/QNameEqualsPinLaw" = some m.cls := findClass_of_methodNamed Bd.named
  have hnm := (name_of_methodNamed Bd.named Bd.method).1
  have X0 : Stand p l e ({ frames := 5, cells := 0, slots := 0, locals := 70 } : Room) s m #[(.ref x), (.ref y)] below meth c s₁ [] 0 0 := Stand.of_body Bd
  have e0 : s₁.heap = h0 := by rw [← hh, Bd.state]; rfl
  have N0 := Fr.nil n0
  have hwl : ∀ d ∈ StrChars.Road.wordsLen, d.before a0 Z = true := fun d hd => hw d (own_wordsLen d hd)
  have hwc : ∀ d ∈ StrChars.Road.wordsChN, d.before a0 Z = true := fun d hd => hw d (own_wordsChN d hd)
  have hwq : ∀ d ∈ StrChars.Road.wordsEq, d.before a0 Z = true := fun d hd => hw d (own_wordsEq d hd)
  have pre0 : ∀ t, Steps p.tables e below (s₁.setTop (mkF m 0 #[.val (.ref x), .val (.ref y)] [])) t → Steps p.tables e below (s₁.setTop (entryFrame m #[(.ref x), (.ref y)] 2)) t := fun t k => castTop (ef_rm_same01 m x y) k
  have la2 : ∀ c ∈ ([] : List Int32), ¬ c < 0 ∧ ¬ (255 : Int32) < c := fun c hc => nomatch hc
  have cd2 : StrChars.Road.CodA ([] : List Int32) 0 (0 : Int32) [] := StrChars.Road.codOf (n := 0) rfl (fun x hx => (la2 x hx).2)
  have bd2 := own_up la2
  obtain ⟨cq1, kq1, q1a, q1b, q1c⟩ := isOf hZ e0 E_x
  obtain ⟨_, _, ⟨T1, L1, k1, n1⟩, -, X1, ⟨Lc1, hQ1, l1, y1, z1⟩, st1⟩ := X0.virtualBack hx (y := (⟨"java/lang/String", "length", "()I"⟩ : MethodName)) (z := (⟨"java/lang/String", "length", "()I"⟩ : MethodName)) hown (mvT hZ (own_w hw 63 rfl)) (mvT hZ (own_w hw 64 rfl)) (notFace_of_selects (args := #[]) (mvT hZ (own_w hw 66 rfl))) (mvT hZ (own_w hw 66 rfl)) (mvT hZ (own_w hw 65 rfl)) (by decide) (StrChars.Road.lenW (W := 0) hZ hwl (kI := 4) (own_w hw 6 rfl) (cs := []) E_x V_x C_x K_x cd2 bd2 (S_C.ext O0.2) hzc (by show 0 ≤ 4000; decide) (by decide) (by decide)) q1a q1c (g := (mkF m 1 #[.val (.ref x), .val (.ref y)] [(.ref x)])) rfl (by rw [hml]; rfl) (Steps.refl _) (argsL := []) (rest := []) (lenOf pd_9 rfl) rfl (by show 2 * 0 + _ ≤ _; exact Nat.le_of_eq rfl) (hb hby d11_1) (fun _ _ => ⟨rfl, e0, (by decide : 0 + 0 ≤ _), (by decide : 0 + 0 ≤ _)⟩)
  dsimp only [Pt.U, Pt.locs, Pt.cells, Pt.slots] at X1 l1 y1 z1 st1 hQ1
  subst l1 y1 z1
  obtain ⟨rfl, rfl, k3⟩ := hQ1
  have N4 := Fr.app N0 (Fr.nil n0)
  have la6 : ∀ c ∈ ([d0] : List Int32), ¬ c < 0 ∧ ¬ (255 : Int32) < c := by
    intro c hc
    simp only [List.mem_cons, List.not_mem_nil, or_false] at hc
    rcases hc with rfl
    · exact la_d0
  have cd6 : StrChars.Road.CodA ([d0] : List Int32) 0 (1 : Int32) [(.int d0.toInt8.toInt32)] := StrChars.Road.codOf (n := 1) rfl (fun x hx => (la6 x hx).2)
  have bd6 := own_up la6
  obtain ⟨cq5, kq5, q5a, q5b, q5c⟩ := isOf hZ k3 E_y
  obtain ⟨_, _, ⟨T5, L5, k5, n5⟩, -, X5, ⟨Lc5, hQ5, l5, y5, z5⟩, st5⟩ := X1.virtualBack hx (y := (⟨"java/lang/String", "length", "()I"⟩ : MethodName)) (z := (⟨"java/lang/String", "length", "()I"⟩ : MethodName)) hown (mvT hZ (own_w hw 63 rfl)) (mvT hZ (own_w hw 64 rfl)) (notFace_of_selects (args := #[]) (mvT hZ (own_w hw 66 rfl))) (mvT hZ (own_w hw 66 rfl)) (mvT hZ (own_w hw 65 rfl)) (by decide) (StrChars.Road.lenW (W := 1) hZ hwl (kI := 4) (own_w hw 6 rfl) (cs := [d0]) E_y V_y C_y K_y cd6 bd6 (S_C.ext O0.2) hzc (by show 1 ≤ 4000; decide) (by decide) (by decide)) q5a q5c (g := (mkF m 5 #[.val (.ref x), .val (.ref y)] [(.ref y), (.int (0 : Int32))])) rfl (by rw [hml]; rfl) (Steps.refl _) (argsL := []) (rest := [(.int (0 : Int32))]) (lenOf pd_9 rfl) rfl (by show 2 * 0 + _ ≤ _; exact Nat.le_of_eq rfl) (hb hby d11_5) (fun _ _ => ⟨rfl, k3, (by decide : 0 + 0 ≤ _), (by decide : 0 + 0 ≤ _)⟩)
  dsimp only [Pt.U, Pt.locs, Pt.cells, Pt.slots] at X5 l5 y5 z5 st5 hQ5
  subst l5 y5 z5
  obtain ⟨rfl, rfl, k7⟩ := hQ5
  have N8 := Fr.app N4 (Fr.nil n0)
  have S9 : ∀ t, Steps p.tables e below (T5.setTop (mkF m 12 #[.val (.ref x), .val (.ref y)] [(.int (0 : Int32))])) t → Steps p.tables e below (s₁.setTop (mkF m 0 #[.val (.ref x), .val (.ref y)] [])) t := by
    intro t kt
    refine XS.aloadN X0.here hx rfl (hb hby d11_0) rfl rfl ?_
    show Steps p.tables e below (s₁.setTop (mkF m 1 #[.val (.ref x), .val (.ref y)] [(.ref x)])) _
    refine st1.trans ?_
    refine XS.aloadN X1.here hx rfl (hb hby d11_4) rfl rfl ?_
    show Steps p.tables e below (T1.setTop (mkF m 5 #[.val (.ref x), .val (.ref y)] [(.ref y), (.int (0 : Int32))])) _
    refine st5.trans ?_
    refine XS.icmpNo X5.here hx rfl (hb hby d11_8) rfl (feq ((by decide) : ¬ ((0 : Int32) = (1 : Int32)))).1 ?_
    refine XS.iconst X5.here hx rfl (hb hby d11_11) ?_
    exact kt
  obtain ⟨fs, hr, hrun, hended, hW, hsame⟩ := X5.leave (v := some (.int (0 : Int32))) (fun h => by rw [Bd.returns] at h; cases h)
  refine ⟨_, _, pre0 _ (S9 _ ?_), hrun, hended, _, _, rfl, ?_, ⟨_, rfl⟩, hW, hsame.mono (by decide) (by decide)⟩
  · exact retN X5 hx (t := .boolean) Bd.returns (by simp) (hb hby d11_12) hr
  · show Q_rm_same01 Z x tx kx y ty ky d0 zc fm h0 n0 _ T5.heap _
    rw [k7]
    exact ⟨(congrArg (fun z => some (Value.int z)) (if_neg (fun q => by have := congrArg List.length q; simp at this)).symm), N8, rfl⟩
theorem ef_rm_same02 (m : MethodId) (x0 : Addr) (x1 : Addr) : entryFrame m #[(.ref x0), (.ref x1)] 2 = mkF m 0 #[.val (.ref x0), .val (.ref x1)] [] := by first | (simp [entryFrame, mkF, argsToLocals, Value.category]; done) | rfl
def Q_rm_same02 (Z : State) (x : Addr) (tx : Addr) (kx : ClassId) (y : Addr) (ty : Addr) (ky : ClassId) (d0 : Int32) (d1 : Int32) (zc : Int32) (fm : Value) (h0 : Heap) (n0 : Nat) (v : Option Value) (h : Heap) (L : List Loc) : Prop := ((v = some (.int (own_eqI ([] : List Int32) [d0, d1]))) ∧ (Fr n0 L) ∧ (h = h0))
set_option maxRecDepth 65536 in
set_option maxHeartbeats 40000000 in
theorem rm_same02 (l : Launch) (Z : State) (a0 : Array Value) (hw : ∀ d ∈ tables_1, d.before a0 Z = true) (ws : List Jvm.Cond) (x : Addr) (tx : Addr) (kx : ClassId) (y : Addr) (ty : Addr) (ky : ClassId) (d0 : Int32) (d1 : Int32) (zc : Int32) (fm : Value) (h0 : Heap) (n0 : Nat) (O0 : Old Z n0 h0) (E_x : Exa Z h0 x "java/lang/String") (V_x : Fld Z h0 x "java/lang/String" "value" "[B" (.ref tx)) (C_x : Fld Z h0 x "java/lang/String" "coder" "B" (.int (0 : Int32))) (K_x : Arv Z h0 tx kx .byte (0 : Int32) [] (.int (0 : Int32))) (E_y : Exa Z h0 y "java/lang/String") (V_y : Fld Z h0 y "java/lang/String" "value" "[B" (.ref ty)) (C_y : Fld Z h0 y "java/lang/String" "coder" "B" (.int (0 : Int32))) (K_y : Arv Z h0 ty ky .byte (2 : Int32) [(.int d0.toInt8.toInt32), (.int d1.toInt8.toInt32)] (.int (0 : Int32))) (la_d0 : ¬ (d0 < (0 : Int32)) ∧ ¬ ((255 : Int32) < d0)) (la_d1 : ¬ (d1 < (0 : Int32)) ∧ ¬ ((255 : Int32) < d1)) (S_C : Sta Z Z.heap "java/lang/String" "COMPACT_STRINGS" "Z" (.int zc)) (hzc : ¬ (zc = (0 : Int32))) (S_F : Sta Z Z.heap "jdk/internal/util/Preconditions" "SIOOBE_FORMATTER" "Ljava/util/function/BiFunction;" fm) (hfm : fm.isRef = true) :
    MetFree l (⟨"com/example/typecheck/typecheck/model/QNameEqualsPinLaw", "same", "(Ljava/lang/String;Ljava/lang/String;)Z"⟩ : MethodName) (head1 (Jvm.Cond.code (⟨"com/example/typecheck/typecheck/model/QNameEqualsPinLaw", "same", "(Ljava/lang/String;Ljava/lang/String;)Z"⟩ : MethodName) method_3_code 2 (some .boolean) :: ws) ({ frames := 5, cells := 0, slots := 0, locals := 70 } : Room)) (fun a U => a = #[(.ref x), (.ref y)] ∧ Z.Warmed39 U.vm ∧ U.heap = h0) (fun _ _ _ _ _ => True) (fun _ U o U' => ∃ v L, o = .returned v ∧ Q_rm_same02 Z x tx kx y ty ky d0 d1 zc fm h0 n0 v U'.heap L ∧ FrameEnd U o U' L ({ frames := 5, cells := 0, slots := 0, locals := 70 } : Room).cells ({ frames := 5, cells := 0, slots := 0, locals := 70 } : Room).slots) := by
  refine MetFree.of_bodySF (plainFor_of_name pn_2) hisR ?_
  intro p e s m args below meth c s₁ Bd hml0 hP hK
  obtain ⟨rfl, hZ, hh⟩ := hP
  have hx := Bd.exec
  have hby := Bd.bytes
  have hml : c.maxLocals = 2 := hml0
  have hown : s.vm.findClass "com/example/typecheck/typecheck/model/QNameEqualsPinLaw" = some m.cls := findClass_of_methodNamed Bd.named
  have hnm := (name_of_methodNamed Bd.named Bd.method).1
  have X0 : Stand p l e ({ frames := 5, cells := 0, slots := 0, locals := 70 } : Room) s m #[(.ref x), (.ref y)] below meth c s₁ [] 0 0 := Stand.of_body Bd
  have e0 : s₁.heap = h0 := by rw [← hh, Bd.state]; rfl
  have N0 := Fr.nil n0
  have hwl : ∀ d ∈ StrChars.Road.wordsLen, d.before a0 Z = true := fun d hd => hw d (own_wordsLen d hd)
  have hwc : ∀ d ∈ StrChars.Road.wordsChN, d.before a0 Z = true := fun d hd => hw d (own_wordsChN d hd)
  have hwq : ∀ d ∈ StrChars.Road.wordsEq, d.before a0 Z = true := fun d hd => hw d (own_wordsEq d hd)
  have pre0 : ∀ t, Steps p.tables e below (s₁.setTop (mkF m 0 #[.val (.ref x), .val (.ref y)] [])) t → Steps p.tables e below (s₁.setTop (entryFrame m #[(.ref x), (.ref y)] 2)) t := fun t k => castTop (ef_rm_same02 m x y) k
  have la2 : ∀ c ∈ ([] : List Int32), ¬ c < 0 ∧ ¬ (255 : Int32) < c := fun c hc => nomatch hc
  have cd2 : StrChars.Road.CodA ([] : List Int32) 0 (0 : Int32) [] := StrChars.Road.codOf (n := 0) rfl (fun x hx => (la2 x hx).2)
  have bd2 := own_up la2
  obtain ⟨cq1, kq1, q1a, q1b, q1c⟩ := isOf hZ e0 E_x
  obtain ⟨_, _, ⟨T1, L1, k1, n1⟩, -, X1, ⟨Lc1, hQ1, l1, y1, z1⟩, st1⟩ := X0.virtualBack hx (y := (⟨"java/lang/String", "length", "()I"⟩ : MethodName)) (z := (⟨"java/lang/String", "length", "()I"⟩ : MethodName)) hown (mvT hZ (own_w hw 63 rfl)) (mvT hZ (own_w hw 64 rfl)) (notFace_of_selects (args := #[]) (mvT hZ (own_w hw 66 rfl))) (mvT hZ (own_w hw 66 rfl)) (mvT hZ (own_w hw 65 rfl)) (by decide) (StrChars.Road.lenW (W := 0) hZ hwl (kI := 4) (own_w hw 6 rfl) (cs := []) E_x V_x C_x K_x cd2 bd2 (S_C.ext O0.2) hzc (by show 0 ≤ 4000; decide) (by decide) (by decide)) q1a q1c (g := (mkF m 1 #[.val (.ref x), .val (.ref y)] [(.ref x)])) rfl (by rw [hml]; rfl) (Steps.refl _) (argsL := []) (rest := []) (lenOf pd_9 rfl) rfl (by show 2 * 0 + _ ≤ _; exact Nat.le_of_eq rfl) (hb hby d11_1) (fun _ _ => ⟨rfl, e0, (by decide : 0 + 0 ≤ _), (by decide : 0 + 0 ≤ _)⟩)
  dsimp only [Pt.U, Pt.locs, Pt.cells, Pt.slots] at X1 l1 y1 z1 st1 hQ1
  subst l1 y1 z1
  obtain ⟨rfl, rfl, k3⟩ := hQ1
  have N4 := Fr.app N0 (Fr.nil n0)
  have la6 : ∀ c ∈ ([d0, d1] : List Int32), ¬ c < 0 ∧ ¬ (255 : Int32) < c := by
    intro c hc
    simp only [List.mem_cons, List.not_mem_nil, or_false] at hc
    rcases hc with rfl | rfl
    · exact la_d0
    · exact la_d1
  have cd6 : StrChars.Road.CodA ([d0, d1] : List Int32) 0 (2 : Int32) [(.int d0.toInt8.toInt32), (.int d1.toInt8.toInt32)] := StrChars.Road.codOf (n := 2) rfl (fun x hx => (la6 x hx).2)
  have bd6 := own_up la6
  obtain ⟨cq5, kq5, q5a, q5b, q5c⟩ := isOf hZ k3 E_y
  obtain ⟨_, _, ⟨T5, L5, k5, n5⟩, -, X5, ⟨Lc5, hQ5, l5, y5, z5⟩, st5⟩ := X1.virtualBack hx (y := (⟨"java/lang/String", "length", "()I"⟩ : MethodName)) (z := (⟨"java/lang/String", "length", "()I"⟩ : MethodName)) hown (mvT hZ (own_w hw 63 rfl)) (mvT hZ (own_w hw 64 rfl)) (notFace_of_selects (args := #[]) (mvT hZ (own_w hw 66 rfl))) (mvT hZ (own_w hw 66 rfl)) (mvT hZ (own_w hw 65 rfl)) (by decide) (StrChars.Road.lenW (W := 1) hZ hwl (kI := 4) (own_w hw 6 rfl) (cs := [d0, d1]) E_y V_y C_y K_y cd6 bd6 (S_C.ext O0.2) hzc (by show 2 ≤ 4000; decide) (by decide) (by decide)) q5a q5c (g := (mkF m 5 #[.val (.ref x), .val (.ref y)] [(.ref y), (.int (0 : Int32))])) rfl (by rw [hml]; rfl) (Steps.refl _) (argsL := []) (rest := [(.int (0 : Int32))]) (lenOf pd_9 rfl) rfl (by show 2 * 0 + _ ≤ _; exact Nat.le_of_eq rfl) (hb hby d11_5) (fun _ _ => ⟨rfl, k3, (by decide : 0 + 0 ≤ _), (by decide : 0 + 0 ≤ _)⟩)
  dsimp only [Pt.U, Pt.locs, Pt.cells, Pt.slots] at X5 l5 y5 z5 st5 hQ5
  subst l5 y5 z5
  obtain ⟨rfl, rfl, k7⟩ := hQ5
  have N8 := Fr.app N4 (Fr.nil n0)
  have S9 : ∀ t, Steps p.tables e below (T5.setTop (mkF m 12 #[.val (.ref x), .val (.ref y)] [(.int (0 : Int32))])) t → Steps p.tables e below (s₁.setTop (mkF m 0 #[.val (.ref x), .val (.ref y)] [])) t := by
    intro t kt
    refine XS.aloadN X0.here hx rfl (hb hby d11_0) rfl rfl ?_
    show Steps p.tables e below (s₁.setTop (mkF m 1 #[.val (.ref x), .val (.ref y)] [(.ref x)])) _
    refine st1.trans ?_
    refine XS.aloadN X1.here hx rfl (hb hby d11_4) rfl rfl ?_
    show Steps p.tables e below (T1.setTop (mkF m 5 #[.val (.ref x), .val (.ref y)] [(.ref y), (.int (0 : Int32))])) _
    refine st5.trans ?_
    refine XS.icmpNo X5.here hx rfl (hb hby d11_8) rfl (feq ((by decide) : ¬ ((0 : Int32) = (2 : Int32)))).1 ?_
    refine XS.iconst X5.here hx rfl (hb hby d11_11) ?_
    exact kt
  obtain ⟨fs, hr, hrun, hended, hW, hsame⟩ := X5.leave (v := some (.int (0 : Int32))) (fun h => by rw [Bd.returns] at h; cases h)
  refine ⟨_, _, pre0 _ (S9 _ ?_), hrun, hended, _, _, rfl, ?_, ⟨_, rfl⟩, hW, hsame.mono (by decide) (by decide)⟩
  · exact retN X5 hx (t := .boolean) Bd.returns (by simp) (hb hby d11_12) hr
  · show Q_rm_same02 Z x tx kx y ty ky d0 d1 zc fm h0 n0 _ T5.heap _
    rw [k7]
    exact ⟨(congrArg (fun z => some (Value.int z)) (if_neg (fun q => by have := congrArg List.length q; simp at this)).symm), N8, rfl⟩
theorem ef_rm_same10 (m : MethodId) (x0 : Addr) (x1 : Addr) : entryFrame m #[(.ref x0), (.ref x1)] 2 = mkF m 0 #[.val (.ref x0), .val (.ref x1)] [] := by first | (simp [entryFrame, mkF, argsToLocals, Value.category]; done) | rfl
def Q_rm_same10 (Z : State) (x : Addr) (tx : Addr) (kx : ClassId) (y : Addr) (ty : Addr) (ky : ClassId) (c0 : Int32) (zc : Int32) (fm : Value) (h0 : Heap) (n0 : Nat) (v : Option Value) (h : Heap) (L : List Loc) : Prop := ((v = some (.int (own_eqI ([c0] : List Int32) []))) ∧ (Fr n0 L) ∧ (h = h0))
set_option maxRecDepth 65536 in
set_option maxHeartbeats 40000000 in
theorem rm_same10 (l : Launch) (Z : State) (a0 : Array Value) (hw : ∀ d ∈ tables_1, d.before a0 Z = true) (ws : List Jvm.Cond) (x : Addr) (tx : Addr) (kx : ClassId) (y : Addr) (ty : Addr) (ky : ClassId) (c0 : Int32) (zc : Int32) (fm : Value) (h0 : Heap) (n0 : Nat) (O0 : Old Z n0 h0) (E_x : Exa Z h0 x "java/lang/String") (V_x : Fld Z h0 x "java/lang/String" "value" "[B" (.ref tx)) (C_x : Fld Z h0 x "java/lang/String" "coder" "B" (.int (0 : Int32))) (K_x : Arv Z h0 tx kx .byte (1 : Int32) [(.int c0.toInt8.toInt32)] (.int (0 : Int32))) (E_y : Exa Z h0 y "java/lang/String") (V_y : Fld Z h0 y "java/lang/String" "value" "[B" (.ref ty)) (C_y : Fld Z h0 y "java/lang/String" "coder" "B" (.int (0 : Int32))) (K_y : Arv Z h0 ty ky .byte (0 : Int32) [] (.int (0 : Int32))) (la_c0 : ¬ (c0 < (0 : Int32)) ∧ ¬ ((255 : Int32) < c0)) (S_C : Sta Z Z.heap "java/lang/String" "COMPACT_STRINGS" "Z" (.int zc)) (hzc : ¬ (zc = (0 : Int32))) (S_F : Sta Z Z.heap "jdk/internal/util/Preconditions" "SIOOBE_FORMATTER" "Ljava/util/function/BiFunction;" fm) (hfm : fm.isRef = true) :
    MetFree l (⟨"com/example/typecheck/typecheck/model/QNameEqualsPinLaw", "same", "(Ljava/lang/String;Ljava/lang/String;)Z"⟩ : MethodName) (head1 (Jvm.Cond.code (⟨"com/example/typecheck/typecheck/model/QNameEqualsPinLaw", "same", "(Ljava/lang/String;Ljava/lang/String;)Z"⟩ : MethodName) method_3_code 2 (some .boolean) :: ws) ({ frames := 5, cells := 0, slots := 0, locals := 70 } : Room)) (fun a U => a = #[(.ref x), (.ref y)] ∧ Z.Warmed39 U.vm ∧ U.heap = h0) (fun _ _ _ _ _ => True) (fun _ U o U' => ∃ v L, o = .returned v ∧ Q_rm_same10 Z x tx kx y ty ky c0 zc fm h0 n0 v U'.heap L ∧ FrameEnd U o U' L ({ frames := 5, cells := 0, slots := 0, locals := 70 } : Room).cells ({ frames := 5, cells := 0, slots := 0, locals := 70 } : Room).slots) := by
  refine MetFree.of_bodySF (plainFor_of_name pn_2) hisR ?_
  intro p e s m args below meth c s₁ Bd hml0 hP hK
  obtain ⟨rfl, hZ, hh⟩ := hP
  have hx := Bd.exec
  have hby := Bd.bytes
  have hml : c.maxLocals = 2 := hml0
  have hown : s.vm.findClass "com/example/typecheck/typecheck/model/QNameEqualsPinLaw" = some m.cls := findClass_of_methodNamed Bd.named
  have hnm := (name_of_methodNamed Bd.named Bd.method).1
  have X0 : Stand p l e ({ frames := 5, cells := 0, slots := 0, locals := 70 } : Room) s m #[(.ref x), (.ref y)] below meth c s₁ [] 0 0 := Stand.of_body Bd
  have e0 : s₁.heap = h0 := by rw [← hh, Bd.state]; rfl
  have N0 := Fr.nil n0
  have hwl : ∀ d ∈ StrChars.Road.wordsLen, d.before a0 Z = true := fun d hd => hw d (own_wordsLen d hd)
  have hwc : ∀ d ∈ StrChars.Road.wordsChN, d.before a0 Z = true := fun d hd => hw d (own_wordsChN d hd)
  have hwq : ∀ d ∈ StrChars.Road.wordsEq, d.before a0 Z = true := fun d hd => hw d (own_wordsEq d hd)
  have pre0 : ∀ t, Steps p.tables e below (s₁.setTop (mkF m 0 #[.val (.ref x), .val (.ref y)] [])) t → Steps p.tables e below (s₁.setTop (entryFrame m #[(.ref x), (.ref y)] 2)) t := fun t k => castTop (ef_rm_same10 m x y) k
  have la2 : ∀ c ∈ ([c0] : List Int32), ¬ c < 0 ∧ ¬ (255 : Int32) < c := by
    intro c hc
    simp only [List.mem_cons, List.not_mem_nil, or_false] at hc
    rcases hc with rfl
    · exact la_c0
  have cd2 : StrChars.Road.CodA ([c0] : List Int32) 0 (1 : Int32) [(.int c0.toInt8.toInt32)] := StrChars.Road.codOf (n := 1) rfl (fun x hx => (la2 x hx).2)
  have bd2 := own_up la2
  obtain ⟨cq1, kq1, q1a, q1b, q1c⟩ := isOf hZ e0 E_x
  obtain ⟨_, _, ⟨T1, L1, k1, n1⟩, -, X1, ⟨Lc1, hQ1, l1, y1, z1⟩, st1⟩ := X0.virtualBack hx (y := (⟨"java/lang/String", "length", "()I"⟩ : MethodName)) (z := (⟨"java/lang/String", "length", "()I"⟩ : MethodName)) hown (mvT hZ (own_w hw 63 rfl)) (mvT hZ (own_w hw 64 rfl)) (notFace_of_selects (args := #[]) (mvT hZ (own_w hw 66 rfl))) (mvT hZ (own_w hw 66 rfl)) (mvT hZ (own_w hw 65 rfl)) (by decide) (StrChars.Road.lenW (W := 0) hZ hwl (kI := 4) (own_w hw 6 rfl) (cs := [c0]) E_x V_x C_x K_x cd2 bd2 (S_C.ext O0.2) hzc (by show 1 ≤ 4000; decide) (by decide) (by decide)) q1a q1c (g := (mkF m 1 #[.val (.ref x), .val (.ref y)] [(.ref x)])) rfl (by rw [hml]; rfl) (Steps.refl _) (argsL := []) (rest := []) (lenOf pd_9 rfl) rfl (by show 2 * 0 + _ ≤ _; exact Nat.le_of_eq rfl) (hb hby d11_1) (fun _ _ => ⟨rfl, e0, (by decide : 0 + 0 ≤ _), (by decide : 0 + 0 ≤ _)⟩)
  dsimp only [Pt.U, Pt.locs, Pt.cells, Pt.slots] at X1 l1 y1 z1 st1 hQ1
  subst l1 y1 z1
  obtain ⟨rfl, rfl, k3⟩ := hQ1
  have N4 := Fr.app N0 (Fr.nil n0)
  have la6 : ∀ c ∈ ([] : List Int32), ¬ c < 0 ∧ ¬ (255 : Int32) < c := fun c hc => nomatch hc
  have cd6 : StrChars.Road.CodA ([] : List Int32) 0 (0 : Int32) [] := StrChars.Road.codOf (n := 0) rfl (fun x hx => (la6 x hx).2)
  have bd6 := own_up la6
  obtain ⟨cq5, kq5, q5a, q5b, q5c⟩ := isOf hZ k3 E_y
  obtain ⟨_, _, ⟨T5, L5, k5, n5⟩, -, X5, ⟨Lc5, hQ5, l5, y5, z5⟩, st5⟩ := X1.virtualBack hx (y := (⟨"java/lang/String", "length", "()I"⟩ : MethodName)) (z := (⟨"java/lang/String", "length", "()I"⟩ : MethodName)) hown (mvT hZ (own_w hw 63 rfl)) (mvT hZ (own_w hw 64 rfl)) (notFace_of_selects (args := #[]) (mvT hZ (own_w hw 66 rfl))) (mvT hZ (own_w hw 66 rfl)) (mvT hZ (own_w hw 65 rfl)) (by decide) (StrChars.Road.lenW (W := 1) hZ hwl (kI := 4) (own_w hw 6 rfl) (cs := []) E_y V_y C_y K_y cd6 bd6 (S_C.ext O0.2) hzc (by show 0 ≤ 4000; decide) (by decide) (by decide)) q5a q5c (g := (mkF m 5 #[.val (.ref x), .val (.ref y)] [(.ref y), (.int (1 : Int32))])) rfl (by rw [hml]; rfl) (Steps.refl _) (argsL := []) (rest := [(.int (1 : Int32))]) (lenOf pd_9 rfl) rfl (by show 2 * 0 + _ ≤ _; exact Nat.le_of_eq rfl) (hb hby d11_5) (fun _ _ => ⟨rfl, k3, (by decide : 0 + 0 ≤ _), (by decide : 0 + 0 ≤ _)⟩)
  dsimp only [Pt.U, Pt.locs, Pt.cells, Pt.slots] at X5 l5 y5 z5 st5 hQ5
  subst l5 y5 z5
  obtain ⟨rfl, rfl, k7⟩ := hQ5
  have N8 := Fr.app N4 (Fr.nil n0)
  have S9 : ∀ t, Steps p.tables e below (T5.setTop (mkF m 12 #[.val (.ref x), .val (.ref y)] [(.int (0 : Int32))])) t → Steps p.tables e below (s₁.setTop (mkF m 0 #[.val (.ref x), .val (.ref y)] [])) t := by
    intro t kt
    refine XS.aloadN X0.here hx rfl (hb hby d11_0) rfl rfl ?_
    show Steps p.tables e below (s₁.setTop (mkF m 1 #[.val (.ref x), .val (.ref y)] [(.ref x)])) _
    refine st1.trans ?_
    refine XS.aloadN X1.here hx rfl (hb hby d11_4) rfl rfl ?_
    show Steps p.tables e below (T1.setTop (mkF m 5 #[.val (.ref x), .val (.ref y)] [(.ref y), (.int (1 : Int32))])) _
    refine st5.trans ?_
    refine XS.icmpNo X5.here hx rfl (hb hby d11_8) rfl (feq ((by decide) : ¬ ((1 : Int32) = (0 : Int32)))).1 ?_
    refine XS.iconst X5.here hx rfl (hb hby d11_11) ?_
    exact kt
  obtain ⟨fs, hr, hrun, hended, hW, hsame⟩ := X5.leave (v := some (.int (0 : Int32))) (fun h => by rw [Bd.returns] at h; cases h)
  refine ⟨_, _, pre0 _ (S9 _ ?_), hrun, hended, _, _, rfl, ?_, ⟨_, rfl⟩, hW, hsame.mono (by decide) (by decide)⟩
  · exact retN X5 hx (t := .boolean) Bd.returns (by simp) (hb hby d11_12) hr
  · show Q_rm_same10 Z x tx kx y ty ky c0 zc fm h0 n0 _ T5.heap _
    rw [k7]
    exact ⟨(congrArg (fun z => some (Value.int z)) (if_neg (fun q => by have := congrArg List.length q; simp at this)).symm), N8, rfl⟩
theorem d11_21 : decode method_3_code 21 = .ok (.aload_n 0, 1) := by decide +kernel
theorem d11_22 : decode method_3_code 22 = .ok (.iconst 0, 1) := by decide +kernel
theorem d11_23 : decode method_3_code 23 = .ok (.invokevirtual 16, 3) := by decide +kernel
theorem pd_10 : parseMethodDescriptor "(I)C" = some ⟨[.int], some .char⟩ := by decide +kernel
theorem d11_26 : decode method_3_code 26 = .ok (.aload_n 1, 1) := by decide +kernel
theorem d11_27 : decode method_3_code 27 = .ok (.iconst 0, 1) := by decide +kernel
theorem d11_28 : decode method_3_code 28 = .ok (.invokevirtual 16, 3) := by decide +kernel
theorem d11_31 : decode method_3_code 31 = .ok (.if_icmp .eq 5, 3) := by decide +kernel
theorem d11_34 : decode method_3_code 34 = .ok (.iconst 0, 1) := by decide +kernel
theorem d11_35 : decode method_3_code 35 = .ok (.ireturn, 1) := by decide +kernel
theorem ef_rm_same11 (m : MethodId) (x0 : Addr) (x1 : Addr) : entryFrame m #[(.ref x0), (.ref x1)] 2 = mkF m 0 #[.val (.ref x0), .val (.ref x1)] [] := by first | (simp [entryFrame, mkF, argsToLocals, Value.category]; done) | rfl
def Q_rm_same11 (Z : State) (x : Addr) (tx : Addr) (kx : ClassId) (y : Addr) (ty : Addr) (ky : ClassId) (c0 : Int32) (d0 : Int32) (zc : Int32) (fm : Value) (h0 : Heap) (n0 : Nat) (v : Option Value) (h : Heap) (L : List Loc) : Prop := ((v = some (.int (own_eqI ([c0] : List Int32) [d0]))) ∧ (Fr n0 L) ∧ (h = h0))
set_option maxRecDepth 65536 in
set_option maxHeartbeats 40000000 in
theorem rm_same11 (l : Launch) (Z : State) (a0 : Array Value) (hw : ∀ d ∈ tables_1, d.before a0 Z = true) (ws : List Jvm.Cond) (x : Addr) (tx : Addr) (kx : ClassId) (y : Addr) (ty : Addr) (ky : ClassId) (c0 : Int32) (d0 : Int32) (zc : Int32) (fm : Value) (h0 : Heap) (n0 : Nat) (O0 : Old Z n0 h0) (E_x : Exa Z h0 x "java/lang/String") (V_x : Fld Z h0 x "java/lang/String" "value" "[B" (.ref tx)) (C_x : Fld Z h0 x "java/lang/String" "coder" "B" (.int (0 : Int32))) (K_x : Arv Z h0 tx kx .byte (1 : Int32) [(.int c0.toInt8.toInt32)] (.int (0 : Int32))) (E_y : Exa Z h0 y "java/lang/String") (V_y : Fld Z h0 y "java/lang/String" "value" "[B" (.ref ty)) (C_y : Fld Z h0 y "java/lang/String" "coder" "B" (.int (0 : Int32))) (K_y : Arv Z h0 ty ky .byte (1 : Int32) [(.int d0.toInt8.toInt32)] (.int (0 : Int32))) (la_c0 : ¬ (c0 < (0 : Int32)) ∧ ¬ ((255 : Int32) < c0)) (la_d0 : ¬ (d0 < (0 : Int32)) ∧ ¬ ((255 : Int32) < d0)) (S_C : Sta Z Z.heap "java/lang/String" "COMPACT_STRINGS" "Z" (.int zc)) (hzc : ¬ (zc = (0 : Int32))) (S_F : Sta Z Z.heap "jdk/internal/util/Preconditions" "SIOOBE_FORMATTER" "Ljava/util/function/BiFunction;" fm) (hfm : fm.isRef = true) :
    MetFree l (⟨"com/example/typecheck/typecheck/model/QNameEqualsPinLaw", "same", "(Ljava/lang/String;Ljava/lang/String;)Z"⟩ : MethodName) (head1 (Jvm.Cond.code (⟨"com/example/typecheck/typecheck/model/QNameEqualsPinLaw", "same", "(Ljava/lang/String;Ljava/lang/String;)Z"⟩ : MethodName) method_3_code 2 (some .boolean) :: ws) ({ frames := 5, cells := 0, slots := 0, locals := 70 } : Room)) (fun a U => a = #[(.ref x), (.ref y)] ∧ Z.Warmed39 U.vm ∧ U.heap = h0) (fun _ _ _ _ _ => True) (fun _ U o U' => ∃ v L, o = .returned v ∧ Q_rm_same11 Z x tx kx y ty ky c0 d0 zc fm h0 n0 v U'.heap L ∧ FrameEnd U o U' L ({ frames := 5, cells := 0, slots := 0, locals := 70 } : Room).cells ({ frames := 5, cells := 0, slots := 0, locals := 70 } : Room).slots) := by
  refine MetFree.of_bodySF (plainFor_of_name pn_2) hisR ?_
  intro p e s m args below meth c s₁ Bd hml0 hP hK
  obtain ⟨rfl, hZ, hh⟩ := hP
  have hx := Bd.exec
  have hby := Bd.bytes
  have hml : c.maxLocals = 2 := hml0
  have hown : s.vm.findClass "com/example/typecheck/typecheck/model/QNameEqualsPinLaw" = some m.cls := findClass_of_methodNamed Bd.named
  have hnm := (name_of_methodNamed Bd.named Bd.method).1
  have X0 : Stand p l e ({ frames := 5, cells := 0, slots := 0, locals := 70 } : Room) s m #[(.ref x), (.ref y)] below meth c s₁ [] 0 0 := Stand.of_body Bd
  have e0 : s₁.heap = h0 := by rw [← hh, Bd.state]; rfl
  have N0 := Fr.nil n0
  have hwl : ∀ d ∈ StrChars.Road.wordsLen, d.before a0 Z = true := fun d hd => hw d (own_wordsLen d hd)
  have hwc : ∀ d ∈ StrChars.Road.wordsChN, d.before a0 Z = true := fun d hd => hw d (own_wordsChN d hd)
  have hwq : ∀ d ∈ StrChars.Road.wordsEq, d.before a0 Z = true := fun d hd => hw d (own_wordsEq d hd)
  have pre0 : ∀ t, Steps p.tables e below (s₁.setTop (mkF m 0 #[.val (.ref x), .val (.ref y)] [])) t → Steps p.tables e below (s₁.setTop (entryFrame m #[(.ref x), (.ref y)] 2)) t := fun t k => castTop (ef_rm_same11 m x y) k
  have la2 : ∀ c ∈ ([c0] : List Int32), ¬ c < 0 ∧ ¬ (255 : Int32) < c := by
    intro c hc
    simp only [List.mem_cons, List.not_mem_nil, or_false] at hc
    rcases hc with rfl
    · exact la_c0
  have cd2 : StrChars.Road.CodA ([c0] : List Int32) 0 (1 : Int32) [(.int c0.toInt8.toInt32)] := StrChars.Road.codOf (n := 1) rfl (fun x hx => (la2 x hx).2)
  have bd2 := own_up la2
  obtain ⟨cq1, kq1, q1a, q1b, q1c⟩ := isOf hZ e0 E_x
  obtain ⟨_, _, ⟨T1, L1, k1, n1⟩, -, X1, ⟨Lc1, hQ1, l1, y1, z1⟩, st1⟩ := X0.virtualBack hx (y := (⟨"java/lang/String", "length", "()I"⟩ : MethodName)) (z := (⟨"java/lang/String", "length", "()I"⟩ : MethodName)) hown (mvT hZ (own_w hw 63 rfl)) (mvT hZ (own_w hw 64 rfl)) (notFace_of_selects (args := #[]) (mvT hZ (own_w hw 66 rfl))) (mvT hZ (own_w hw 66 rfl)) (mvT hZ (own_w hw 65 rfl)) (by decide) (StrChars.Road.lenW (W := 0) hZ hwl (kI := 4) (own_w hw 6 rfl) (cs := [c0]) E_x V_x C_x K_x cd2 bd2 (S_C.ext O0.2) hzc (by show 1 ≤ 4000; decide) (by decide) (by decide)) q1a q1c (g := (mkF m 1 #[.val (.ref x), .val (.ref y)] [(.ref x)])) rfl (by rw [hml]; rfl) (Steps.refl _) (argsL := []) (rest := []) (lenOf pd_9 rfl) rfl (by show 2 * 0 + _ ≤ _; exact Nat.le_of_eq rfl) (hb hby d11_1) (fun _ _ => ⟨rfl, e0, (by decide : 0 + 0 ≤ _), (by decide : 0 + 0 ≤ _)⟩)
  dsimp only [Pt.U, Pt.locs, Pt.cells, Pt.slots] at X1 l1 y1 z1 st1 hQ1
  subst l1 y1 z1
  obtain ⟨rfl, rfl, k3⟩ := hQ1
  have N4 := Fr.app N0 (Fr.nil n0)
  have la6 : ∀ c ∈ ([d0] : List Int32), ¬ c < 0 ∧ ¬ (255 : Int32) < c := by
    intro c hc
    simp only [List.mem_cons, List.not_mem_nil, or_false] at hc
    rcases hc with rfl
    · exact la_d0
  have cd6 : StrChars.Road.CodA ([d0] : List Int32) 0 (1 : Int32) [(.int d0.toInt8.toInt32)] := StrChars.Road.codOf (n := 1) rfl (fun x hx => (la6 x hx).2)
  have bd6 := own_up la6
  obtain ⟨cq5, kq5, q5a, q5b, q5c⟩ := isOf hZ k3 E_y
  obtain ⟨_, _, ⟨T5, L5, k5, n5⟩, -, X5, ⟨Lc5, hQ5, l5, y5, z5⟩, st5⟩ := X1.virtualBack hx (y := (⟨"java/lang/String", "length", "()I"⟩ : MethodName)) (z := (⟨"java/lang/String", "length", "()I"⟩ : MethodName)) hown (mvT hZ (own_w hw 63 rfl)) (mvT hZ (own_w hw 64 rfl)) (notFace_of_selects (args := #[]) (mvT hZ (own_w hw 66 rfl))) (mvT hZ (own_w hw 66 rfl)) (mvT hZ (own_w hw 65 rfl)) (by decide) (StrChars.Road.lenW (W := 1) hZ hwl (kI := 4) (own_w hw 6 rfl) (cs := [d0]) E_y V_y C_y K_y cd6 bd6 (S_C.ext O0.2) hzc (by show 1 ≤ 4000; decide) (by decide) (by decide)) q5a q5c (g := (mkF m 5 #[.val (.ref x), .val (.ref y)] [(.ref y), (.int (1 : Int32))])) rfl (by rw [hml]; rfl) (Steps.refl _) (argsL := []) (rest := [(.int (1 : Int32))]) (lenOf pd_9 rfl) rfl (by show 2 * 0 + _ ≤ _; exact Nat.le_of_eq rfl) (hb hby d11_5) (fun _ _ => ⟨rfl, k3, (by decide : 0 + 0 ≤ _), (by decide : 0 + 0 ≤ _)⟩)
  dsimp only [Pt.U, Pt.locs, Pt.cells, Pt.slots] at X5 l5 y5 z5 st5 hQ5
  subst l5 y5 z5
  obtain ⟨rfl, rfl, k7⟩ := hQ5
  have N8 := Fr.app N4 (Fr.nil n0)
  obtain ⟨cq9, kq9, q9a, q9b, q9c⟩ := isOf hZ k7 E_x
  obtain ⟨_, _, ⟨T9, L9, k9, n9⟩, -, X9, ⟨Lc9, hQ9, l9, y9, z9⟩, st9⟩ := X5.virtualBack hx (y := (⟨"java/lang/String", "length", "()I"⟩ : MethodName)) (z := (⟨"java/lang/String", "length", "()I"⟩ : MethodName)) hown (mvT hZ (own_w hw 63 rfl)) (mvT hZ (own_w hw 64 rfl)) (notFace_of_selects (args := #[]) (mvT hZ (own_w hw 66 rfl))) (mvT hZ (own_w hw 66 rfl)) (mvT hZ (own_w hw 65 rfl)) (by decide) (StrChars.Road.lenW (W := 0) hZ hwl (kI := 4) (own_w hw 6 rfl) (cs := [c0]) E_x V_x C_x K_x cd2 bd2 (S_C.ext O0.2) hzc (by show 1 ≤ 4000; decide) (by decide) (by decide)) q9a q9c (g := (mkF m 14 #[.val (.ref x), .val (.ref y)] [(.ref x)])) rfl (by rw [hml]; rfl) (Steps.refl _) (argsL := []) (rest := []) (lenOf pd_9 rfl) rfl (by show 2 * 0 + _ ≤ _; exact Nat.le_of_eq rfl) (hb hby d11_14) (fun _ _ => ⟨rfl, k7, (by decide : 0 + 0 ≤ _), (by decide : 0 + 0 ≤ _)⟩)
  dsimp only [Pt.U, Pt.locs, Pt.cells, Pt.slots] at X9 l9 y9 z9 st9 hQ9
  subst l9 y9 z9
  obtain ⟨rfl, rfl, k10⟩ := hQ9
  have N11 := Fr.app N8 (Fr.nil n0)
  obtain ⟨cq12, kq12, q12a, q12b, q12c⟩ := isOf hZ k10 E_x
  obtain ⟨_, _, ⟨T12, L12, k12, n12⟩, -, X12, ⟨Lc12, hQ12, l12, y12, z12⟩, st12⟩ := X9.virtualBack hx (y := (⟨"java/lang/String", "charAt", "(I)C"⟩ : MethodName)) (z := (⟨"java/lang/String", "charAt", "(I)C"⟩ : MethodName)) hown (mvT hZ (own_w hw 108 rfl)) (mvT hZ (own_w hw 109 rfl)) (notFace_of_selects (args := #[]) (mvT hZ (own_w hw 111 rfl))) (mvT hZ (own_w hw 111 rfl)) (mvT hZ (own_w hw 110 rfl)) (by decide) (StrChars.Road.chN (W := 0) hZ hwc (kI := 4) (own_w hw 6 rfl) (cs := [c0]) (i := 0) (j := (0 : Int32)) E_x V_x C_x K_x cd2 bd2 (S_C.ext O0.2) hzc (S_F.ext O0.2) hfm (by show 1 ≤ 4000; decide) (by show 0 < 1; decide) rfl (by decide) (by decide)) q12a q12c (g := (mkF m 23 #[.val (.ref x), .val (.ref y)] [(.int (0 : Int32)), (.ref x)])) rfl (by rw [hml]; rfl) (Steps.refl _) (argsL := [(.int (0 : Int32))]) (rest := []) (lenOf pd_10 rfl) rfl (by show 2 * 0 + _ ≤ _; exact Nat.le_of_eq rfl) (hb hby d11_23) (fun _ _ => ⟨rfl, k10, (by decide : 0 + 0 ≤ _), (by decide : 0 + 0 ≤ _)⟩)
  dsimp only [Pt.U, Pt.locs, Pt.cells, Pt.slots] at X12 l12 y12 z12 st12 hQ12
  subst l12 y12 z12
  obtain ⟨rfl, rfl, k13⟩ := hQ12
  have N14 := Fr.app N11 (Fr.nil n0)
  obtain ⟨cq15, kq15, q15a, q15b, q15c⟩ := isOf hZ k13 E_y
  obtain ⟨_, _, ⟨T15, L15, k15, n15⟩, -, X15, ⟨Lc15, hQ15, l15, y15, z15⟩, st15⟩ := X12.virtualBack hx (y := (⟨"java/lang/String", "charAt", "(I)C"⟩ : MethodName)) (z := (⟨"java/lang/String", "charAt", "(I)C"⟩ : MethodName)) hown (mvT hZ (own_w hw 108 rfl)) (mvT hZ (own_w hw 109 rfl)) (notFace_of_selects (args := #[]) (mvT hZ (own_w hw 111 rfl))) (mvT hZ (own_w hw 111 rfl)) (mvT hZ (own_w hw 110 rfl)) (by decide) (StrChars.Road.chN (W := 1) hZ hwc (kI := 4) (own_w hw 6 rfl) (cs := [d0]) (i := 0) (j := (0 : Int32)) E_y V_y C_y K_y cd6 bd6 (S_C.ext O0.2) hzc (S_F.ext O0.2) hfm (by show 1 ≤ 4000; decide) (by show 0 < 1; decide) rfl (by decide) (by decide)) q15a q15c (g := (mkF m 28 #[.val (.ref x), .val (.ref y)] [(.int (0 : Int32)), (.ref y), (.int c0)])) rfl (by rw [hml]; rfl) (Steps.refl _) (argsL := [(.int (0 : Int32))]) (rest := [(.int c0)]) (lenOf pd_10 rfl) rfl (by show 2 * 0 + _ ≤ _; exact Nat.le_of_eq rfl) (hb hby d11_28) (fun _ _ => ⟨rfl, k13, (by decide : 0 + 0 ≤ _), (by decide : 0 + 0 ≤ _)⟩)
  dsimp only [Pt.U, Pt.locs, Pt.cells, Pt.slots] at X15 l15 y15 z15 st15 hQ15
  subst l15 y15 z15
  obtain ⟨rfl, rfl, k16⟩ := hQ15
  have N17 := Fr.app N14 (Fr.nil n0)
  have S18 : ∀ t, Steps p.tables e below (T15.setTop (mkF m 31 #[.val (.ref x), .val (.ref y)] [(.int d0), (.int c0)])) t → Steps p.tables e below (s₁.setTop (mkF m 0 #[.val (.ref x), .val (.ref y)] [])) t := by
    intro t kt
    refine XS.aloadN X0.here hx rfl (hb hby d11_0) rfl rfl ?_
    show Steps p.tables e below (s₁.setTop (mkF m 1 #[.val (.ref x), .val (.ref y)] [(.ref x)])) _
    refine st1.trans ?_
    refine XS.aloadN X1.here hx rfl (hb hby d11_4) rfl rfl ?_
    show Steps p.tables e below (T1.setTop (mkF m 5 #[.val (.ref x), .val (.ref y)] [(.ref y), (.int (1 : Int32))])) _
    refine st5.trans ?_
    refine XS.icmpYes X5.here hx rfl (pc0 := 8) (pc' := 13) rfl (hb hby d11_8) rfl (teq ((by decide) : (1 : Int32) = (1 : Int32))).1 (by decide) (by decide) ?_
    refine XS.aloadN X5.here hx rfl (hb hby d11_13) rfl rfl ?_
    show Steps p.tables e below (T5.setTop (mkF m 14 #[.val (.ref x), .val (.ref y)] [(.ref x)])) _
    refine st9.trans ?_
    refine XS.iconst X9.here hx rfl (hb hby d11_17) ?_
    refine XS.icmpNo X9.here hx rfl (hb hby d11_18) rfl (flt ((by decide) : ¬ ((1 : Int32) < (1 : Int32)))).1 ?_
    refine XS.aloadN X9.here hx rfl (hb hby d11_21) rfl rfl ?_
    refine XS.iconst X9.here hx rfl (hb hby d11_22) ?_
    show Steps p.tables e below (T9.setTop (mkF m 23 #[.val (.ref x), .val (.ref y)] [(.int (0 : Int32)), (.ref x)])) _
    refine st12.trans ?_
    refine XS.aloadN X12.here hx rfl (hb hby d11_26) rfl rfl ?_
    refine XS.iconst X12.here hx rfl (hb hby d11_27) ?_
    show Steps p.tables e below (T12.setTop (mkF m 28 #[.val (.ref x), .val (.ref y)] [(.int (0 : Int32)), (.ref y), (.int c0)])) _
    refine st15.trans ?_
    exact kt
  rcases Decidable.em (c0 = d0) with c19 | c19
  · obtain ⟨cq20, kq20, q20a, q20b, q20c⟩ := isOf hZ k16 E_x
    obtain ⟨_, _, ⟨T20, L20, k20, n20⟩, -, X20, ⟨Lc20, hQ20, l20, y20, z20⟩, st20⟩ := X15.virtualBack hx (y := (⟨"java/lang/String", "length", "()I"⟩ : MethodName)) (z := (⟨"java/lang/String", "length", "()I"⟩ : MethodName)) hown (mvT hZ (own_w hw 63 rfl)) (mvT hZ (own_w hw 64 rfl)) (notFace_of_selects (args := #[]) (mvT hZ (own_w hw 66 rfl))) (mvT hZ (own_w hw 66 rfl)) (mvT hZ (own_w hw 65 rfl)) (by decide) (StrChars.Road.lenW (W := 0) hZ hwl (kI := 4) (own_w hw 6 rfl) (cs := [c0]) E_x V_x C_x K_x cd2 bd2 (S_C.ext O0.2) hzc (by show 1 ≤ 4000; decide) (by decide) (by decide)) q20a q20c (g := (mkF m 37 #[.val (.ref x), .val (.ref y)] [(.ref x)])) rfl (by rw [hml]; rfl) (Steps.refl _) (argsL := []) (rest := []) (lenOf pd_9 rfl) rfl (by show 2 * 0 + _ ≤ _; exact Nat.le_of_eq rfl) (hb hby d11_37) (fun _ _ => ⟨rfl, k16, (by decide : 0 + 0 ≤ _), (by decide : 0 + 0 ≤ _)⟩)
    dsimp only [Pt.U, Pt.locs, Pt.cells, Pt.slots] at X20 l20 y20 z20 st20 hQ20
    subst l20 y20 z20
    obtain ⟨rfl, rfl, k21⟩ := hQ20
    have N22 := Fr.app N17 (Fr.nil n0)
    have S23 : ∀ t, Steps p.tables e below (T20.setTop (mkF m 60 #[.val (.ref x), .val (.ref y)] [(.int (1 : Int32))])) t → Steps p.tables e below (s₁.setTop (mkF m 0 #[.val (.ref x), .val (.ref y)] [])) t := by
      intro t kt
      refine S18 t ?_
      refine XS.icmpYes X15.here hx rfl (pc0 := 31) (pc' := 36) rfl (hb hby d11_31) rfl (teq (c19 : c0 = d0)).1 (by decide) (by decide) ?_
      refine XS.aloadN X15.here hx rfl (hb hby d11_36) rfl rfl ?_
      show Steps p.tables e below (T15.setTop (mkF m 37 #[.val (.ref x), .val (.ref y)] [(.ref x)])) _
      refine st20.trans ?_
      refine XS.iconst X20.here hx rfl (hb hby d11_40) ?_
      refine XS.icmpYes X20.here hx rfl (pc0 := 41) (pc' := 59) rfl (hb hby d11_41) rfl (tlt ((by decide) : (1 : Int32) < (2 : Int32))).1 (by decide) (by decide) ?_
      refine XS.iconst X20.here hx rfl (hb hby d11_59) ?_
      exact kt
    obtain ⟨fs, hr, hrun, hended, hW, hsame⟩ := X20.leave (v := some (.int (1 : Int32))) (fun h => by rw [Bd.returns] at h; cases h)
    refine ⟨_, _, pre0 _ (S23 _ ?_), hrun, hended, _, _, rfl, ?_, ⟨_, rfl⟩, hW, hsame.mono (by decide) (by decide)⟩
    · exact retN X20 hx (t := .boolean) Bd.returns (by simp) (hb hby d11_60) hr
    · show Q_rm_same11 Z x tx kx y ty ky c0 d0 zc fm h0 n0 _ T20.heap _
      rw [k21]
      exact ⟨(congrArg (fun z => some (Value.int z)) (if_pos (by rw [(c19 : c0 = d0)])).symm), N22, rfl⟩
  · have S24 : ∀ t, Steps p.tables e below (T15.setTop (mkF m 35 #[.val (.ref x), .val (.ref y)] [(.int (0 : Int32))])) t → Steps p.tables e below (s₁.setTop (mkF m 0 #[.val (.ref x), .val (.ref y)] [])) t := by
      intro t kt
      refine S18 t ?_
      refine XS.icmpNo X15.here hx rfl (hb hby d11_31) rfl (feq (c19 : ¬ (c0 = d0))).1 ?_
      refine XS.iconst X15.here hx rfl (hb hby d11_34) ?_
      exact kt
    obtain ⟨fs, hr, hrun, hended, hW, hsame⟩ := X15.leave (v := some (.int (0 : Int32))) (fun h => by rw [Bd.returns] at h; cases h)
    refine ⟨_, _, pre0 _ (S24 _ ?_), hrun, hended, _, _, rfl, ?_, ⟨_, rfl⟩, hW, hsame.mono (by decide) (by decide)⟩
    · exact retN X15 hx (t := .boolean) Bd.returns (by simp) (hb hby d11_35) hr
    · show Q_rm_same11 Z x tx kx y ty ky c0 d0 zc fm h0 n0 _ T15.heap _
      rw [k16]
      exact ⟨(congrArg (fun z => some (Value.int z)) (if_neg (fun q => (c19 : ¬ (c0 = d0)) (congrArg (fun l => l.getD 0 0) q))).symm), N17, rfl⟩
theorem ef_rm_same12 (m : MethodId) (x0 : Addr) (x1 : Addr) : entryFrame m #[(.ref x0), (.ref x1)] 2 = mkF m 0 #[.val (.ref x0), .val (.ref x1)] [] := by first | (simp [entryFrame, mkF, argsToLocals, Value.category]; done) | rfl
def Q_rm_same12 (Z : State) (x : Addr) (tx : Addr) (kx : ClassId) (y : Addr) (ty : Addr) (ky : ClassId) (c0 : Int32) (d0 : Int32) (d1 : Int32) (zc : Int32) (fm : Value) (h0 : Heap) (n0 : Nat) (v : Option Value) (h : Heap) (L : List Loc) : Prop := ((v = some (.int (own_eqI ([c0] : List Int32) [d0, d1]))) ∧ (Fr n0 L) ∧ (h = h0))
set_option maxRecDepth 65536 in
set_option maxHeartbeats 40000000 in
theorem rm_same12 (l : Launch) (Z : State) (a0 : Array Value) (hw : ∀ d ∈ tables_1, d.before a0 Z = true) (ws : List Jvm.Cond) (x : Addr) (tx : Addr) (kx : ClassId) (y : Addr) (ty : Addr) (ky : ClassId) (c0 : Int32) (d0 : Int32) (d1 : Int32) (zc : Int32) (fm : Value) (h0 : Heap) (n0 : Nat) (O0 : Old Z n0 h0) (E_x : Exa Z h0 x "java/lang/String") (V_x : Fld Z h0 x "java/lang/String" "value" "[B" (.ref tx)) (C_x : Fld Z h0 x "java/lang/String" "coder" "B" (.int (0 : Int32))) (K_x : Arv Z h0 tx kx .byte (1 : Int32) [(.int c0.toInt8.toInt32)] (.int (0 : Int32))) (E_y : Exa Z h0 y "java/lang/String") (V_y : Fld Z h0 y "java/lang/String" "value" "[B" (.ref ty)) (C_y : Fld Z h0 y "java/lang/String" "coder" "B" (.int (0 : Int32))) (K_y : Arv Z h0 ty ky .byte (2 : Int32) [(.int d0.toInt8.toInt32), (.int d1.toInt8.toInt32)] (.int (0 : Int32))) (la_c0 : ¬ (c0 < (0 : Int32)) ∧ ¬ ((255 : Int32) < c0)) (la_d0 : ¬ (d0 < (0 : Int32)) ∧ ¬ ((255 : Int32) < d0)) (la_d1 : ¬ (d1 < (0 : Int32)) ∧ ¬ ((255 : Int32) < d1)) (S_C : Sta Z Z.heap "java/lang/String" "COMPACT_STRINGS" "Z" (.int zc)) (hzc : ¬ (zc = (0 : Int32))) (S_F : Sta Z Z.heap "jdk/internal/util/Preconditions" "SIOOBE_FORMATTER" "Ljava/util/function/BiFunction;" fm) (hfm : fm.isRef = true) :
    MetFree l (⟨"com/example/typecheck/typecheck/model/QNameEqualsPinLaw", "same", "(Ljava/lang/String;Ljava/lang/String;)Z"⟩ : MethodName) (head1 (Jvm.Cond.code (⟨"com/example/typecheck/typecheck/model/QNameEqualsPinLaw", "same", "(Ljava/lang/String;Ljava/lang/String;)Z"⟩ : MethodName) method_3_code 2 (some .boolean) :: ws) ({ frames := 5, cells := 0, slots := 0, locals := 70 } : Room)) (fun a U => a = #[(.ref x), (.ref y)] ∧ Z.Warmed39 U.vm ∧ U.heap = h0) (fun _ _ _ _ _ => True) (fun _ U o U' => ∃ v L, o = .returned v ∧ Q_rm_same12 Z x tx kx y ty ky c0 d0 d1 zc fm h0 n0 v U'.heap L ∧ FrameEnd U o U' L ({ frames := 5, cells := 0, slots := 0, locals := 70 } : Room).cells ({ frames := 5, cells := 0, slots := 0, locals := 70 } : Room).slots) := by
  refine MetFree.of_bodySF (plainFor_of_name pn_2) hisR ?_
  intro p e s m args below meth c s₁ Bd hml0 hP hK
  obtain ⟨rfl, hZ, hh⟩ := hP
  have hx := Bd.exec
  have hby := Bd.bytes
  have hml : c.maxLocals = 2 := hml0
  have hown : s.vm.findClass "com/example/typecheck/typecheck/model/QNameEqualsPinLaw" = some m.cls := findClass_of_methodNamed Bd.named
  have hnm := (name_of_methodNamed Bd.named Bd.method).1
  have X0 : Stand p l e ({ frames := 5, cells := 0, slots := 0, locals := 70 } : Room) s m #[(.ref x), (.ref y)] below meth c s₁ [] 0 0 := Stand.of_body Bd
  have e0 : s₁.heap = h0 := by rw [← hh, Bd.state]; rfl
  have N0 := Fr.nil n0
  have hwl : ∀ d ∈ StrChars.Road.wordsLen, d.before a0 Z = true := fun d hd => hw d (own_wordsLen d hd)
  have hwc : ∀ d ∈ StrChars.Road.wordsChN, d.before a0 Z = true := fun d hd => hw d (own_wordsChN d hd)
  have hwq : ∀ d ∈ StrChars.Road.wordsEq, d.before a0 Z = true := fun d hd => hw d (own_wordsEq d hd)
  have pre0 : ∀ t, Steps p.tables e below (s₁.setTop (mkF m 0 #[.val (.ref x), .val (.ref y)] [])) t → Steps p.tables e below (s₁.setTop (entryFrame m #[(.ref x), (.ref y)] 2)) t := fun t k => castTop (ef_rm_same12 m x y) k
  have la2 : ∀ c ∈ ([c0] : List Int32), ¬ c < 0 ∧ ¬ (255 : Int32) < c := by
    intro c hc
    simp only [List.mem_cons, List.not_mem_nil, or_false] at hc
    rcases hc with rfl
    · exact la_c0
  have cd2 : StrChars.Road.CodA ([c0] : List Int32) 0 (1 : Int32) [(.int c0.toInt8.toInt32)] := StrChars.Road.codOf (n := 1) rfl (fun x hx => (la2 x hx).2)
  have bd2 := own_up la2
  obtain ⟨cq1, kq1, q1a, q1b, q1c⟩ := isOf hZ e0 E_x
  obtain ⟨_, _, ⟨T1, L1, k1, n1⟩, -, X1, ⟨Lc1, hQ1, l1, y1, z1⟩, st1⟩ := X0.virtualBack hx (y := (⟨"java/lang/String", "length", "()I"⟩ : MethodName)) (z := (⟨"java/lang/String", "length", "()I"⟩ : MethodName)) hown (mvT hZ (own_w hw 63 rfl)) (mvT hZ (own_w hw 64 rfl)) (notFace_of_selects (args := #[]) (mvT hZ (own_w hw 66 rfl))) (mvT hZ (own_w hw 66 rfl)) (mvT hZ (own_w hw 65 rfl)) (by decide) (StrChars.Road.lenW (W := 0) hZ hwl (kI := 4) (own_w hw 6 rfl) (cs := [c0]) E_x V_x C_x K_x cd2 bd2 (S_C.ext O0.2) hzc (by show 1 ≤ 4000; decide) (by decide) (by decide)) q1a q1c (g := (mkF m 1 #[.val (.ref x), .val (.ref y)] [(.ref x)])) rfl (by rw [hml]; rfl) (Steps.refl _) (argsL := []) (rest := []) (lenOf pd_9 rfl) rfl (by show 2 * 0 + _ ≤ _; exact Nat.le_of_eq rfl) (hb hby d11_1) (fun _ _ => ⟨rfl, e0, (by decide : 0 + 0 ≤ _), (by decide : 0 + 0 ≤ _)⟩)
  dsimp only [Pt.U, Pt.locs, Pt.cells, Pt.slots] at X1 l1 y1 z1 st1 hQ1
  subst l1 y1 z1
  obtain ⟨rfl, rfl, k3⟩ := hQ1
  have N4 := Fr.app N0 (Fr.nil n0)
  have la6 : ∀ c ∈ ([d0, d1] : List Int32), ¬ c < 0 ∧ ¬ (255 : Int32) < c := by
    intro c hc
    simp only [List.mem_cons, List.not_mem_nil, or_false] at hc
    rcases hc with rfl | rfl
    · exact la_d0
    · exact la_d1
  have cd6 : StrChars.Road.CodA ([d0, d1] : List Int32) 0 (2 : Int32) [(.int d0.toInt8.toInt32), (.int d1.toInt8.toInt32)] := StrChars.Road.codOf (n := 2) rfl (fun x hx => (la6 x hx).2)
  have bd6 := own_up la6
  obtain ⟨cq5, kq5, q5a, q5b, q5c⟩ := isOf hZ k3 E_y
  obtain ⟨_, _, ⟨T5, L5, k5, n5⟩, -, X5, ⟨Lc5, hQ5, l5, y5, z5⟩, st5⟩ := X1.virtualBack hx (y := (⟨"java/lang/String", "length", "()I"⟩ : MethodName)) (z := (⟨"java/lang/String", "length", "()I"⟩ : MethodName)) hown (mvT hZ (own_w hw 63 rfl)) (mvT hZ (own_w hw 64 rfl)) (notFace_of_selects (args := #[]) (mvT hZ (own_w hw 66 rfl))) (mvT hZ (own_w hw 66 rfl)) (mvT hZ (own_w hw 65 rfl)) (by decide) (StrChars.Road.lenW (W := 1) hZ hwl (kI := 4) (own_w hw 6 rfl) (cs := [d0, d1]) E_y V_y C_y K_y cd6 bd6 (S_C.ext O0.2) hzc (by show 2 ≤ 4000; decide) (by decide) (by decide)) q5a q5c (g := (mkF m 5 #[.val (.ref x), .val (.ref y)] [(.ref y), (.int (1 : Int32))])) rfl (by rw [hml]; rfl) (Steps.refl _) (argsL := []) (rest := [(.int (1 : Int32))]) (lenOf pd_9 rfl) rfl (by show 2 * 0 + _ ≤ _; exact Nat.le_of_eq rfl) (hb hby d11_5) (fun _ _ => ⟨rfl, k3, (by decide : 0 + 0 ≤ _), (by decide : 0 + 0 ≤ _)⟩)
  dsimp only [Pt.U, Pt.locs, Pt.cells, Pt.slots] at X5 l5 y5 z5 st5 hQ5
  subst l5 y5 z5
  obtain ⟨rfl, rfl, k7⟩ := hQ5
  have N8 := Fr.app N4 (Fr.nil n0)
  have S9 : ∀ t, Steps p.tables e below (T5.setTop (mkF m 12 #[.val (.ref x), .val (.ref y)] [(.int (0 : Int32))])) t → Steps p.tables e below (s₁.setTop (mkF m 0 #[.val (.ref x), .val (.ref y)] [])) t := by
    intro t kt
    refine XS.aloadN X0.here hx rfl (hb hby d11_0) rfl rfl ?_
    show Steps p.tables e below (s₁.setTop (mkF m 1 #[.val (.ref x), .val (.ref y)] [(.ref x)])) _
    refine st1.trans ?_
    refine XS.aloadN X1.here hx rfl (hb hby d11_4) rfl rfl ?_
    show Steps p.tables e below (T1.setTop (mkF m 5 #[.val (.ref x), .val (.ref y)] [(.ref y), (.int (1 : Int32))])) _
    refine st5.trans ?_
    refine XS.icmpNo X5.here hx rfl (hb hby d11_8) rfl (feq ((by decide) : ¬ ((1 : Int32) = (2 : Int32)))).1 ?_
    refine XS.iconst X5.here hx rfl (hb hby d11_11) ?_
    exact kt
  obtain ⟨fs, hr, hrun, hended, hW, hsame⟩ := X5.leave (v := some (.int (0 : Int32))) (fun h => by rw [Bd.returns] at h; cases h)
  refine ⟨_, _, pre0 _ (S9 _ ?_), hrun, hended, _, _, rfl, ?_, ⟨_, rfl⟩, hW, hsame.mono (by decide) (by decide)⟩
  · exact retN X5 hx (t := .boolean) Bd.returns (by simp) (hb hby d11_12) hr
  · show Q_rm_same12 Z x tx kx y ty ky c0 d0 d1 zc fm h0 n0 _ T5.heap _
    rw [k7]
    exact ⟨(congrArg (fun z => some (Value.int z)) (if_neg (fun q => by have := congrArg List.length q; simp at this)).symm), N8, rfl⟩
theorem ef_rm_same20 (m : MethodId) (x0 : Addr) (x1 : Addr) : entryFrame m #[(.ref x0), (.ref x1)] 2 = mkF m 0 #[.val (.ref x0), .val (.ref x1)] [] := by first | (simp [entryFrame, mkF, argsToLocals, Value.category]; done) | rfl
def Q_rm_same20 (Z : State) (x : Addr) (tx : Addr) (kx : ClassId) (y : Addr) (ty : Addr) (ky : ClassId) (c0 : Int32) (c1 : Int32) (zc : Int32) (fm : Value) (h0 : Heap) (n0 : Nat) (v : Option Value) (h : Heap) (L : List Loc) : Prop := ((v = some (.int (own_eqI ([c0, c1] : List Int32) []))) ∧ (Fr n0 L) ∧ (h = h0))
set_option maxRecDepth 65536 in
set_option maxHeartbeats 40000000 in
theorem rm_same20 (l : Launch) (Z : State) (a0 : Array Value) (hw : ∀ d ∈ tables_1, d.before a0 Z = true) (ws : List Jvm.Cond) (x : Addr) (tx : Addr) (kx : ClassId) (y : Addr) (ty : Addr) (ky : ClassId) (c0 : Int32) (c1 : Int32) (zc : Int32) (fm : Value) (h0 : Heap) (n0 : Nat) (O0 : Old Z n0 h0) (E_x : Exa Z h0 x "java/lang/String") (V_x : Fld Z h0 x "java/lang/String" "value" "[B" (.ref tx)) (C_x : Fld Z h0 x "java/lang/String" "coder" "B" (.int (0 : Int32))) (K_x : Arv Z h0 tx kx .byte (2 : Int32) [(.int c0.toInt8.toInt32), (.int c1.toInt8.toInt32)] (.int (0 : Int32))) (E_y : Exa Z h0 y "java/lang/String") (V_y : Fld Z h0 y "java/lang/String" "value" "[B" (.ref ty)) (C_y : Fld Z h0 y "java/lang/String" "coder" "B" (.int (0 : Int32))) (K_y : Arv Z h0 ty ky .byte (0 : Int32) [] (.int (0 : Int32))) (la_c0 : ¬ (c0 < (0 : Int32)) ∧ ¬ ((255 : Int32) < c0)) (la_c1 : ¬ (c1 < (0 : Int32)) ∧ ¬ ((255 : Int32) < c1)) (S_C : Sta Z Z.heap "java/lang/String" "COMPACT_STRINGS" "Z" (.int zc)) (hzc : ¬ (zc = (0 : Int32))) (S_F : Sta Z Z.heap "jdk/internal/util/Preconditions" "SIOOBE_FORMATTER" "Ljava/util/function/BiFunction;" fm) (hfm : fm.isRef = true) :
    MetFree l (⟨"com/example/typecheck/typecheck/model/QNameEqualsPinLaw", "same", "(Ljava/lang/String;Ljava/lang/String;)Z"⟩ : MethodName) (head1 (Jvm.Cond.code (⟨"com/example/typecheck/typecheck/model/QNameEqualsPinLaw", "same", "(Ljava/lang/String;Ljava/lang/String;)Z"⟩ : MethodName) method_3_code 2 (some .boolean) :: ws) ({ frames := 5, cells := 0, slots := 0, locals := 70 } : Room)) (fun a U => a = #[(.ref x), (.ref y)] ∧ Z.Warmed39 U.vm ∧ U.heap = h0) (fun _ _ _ _ _ => True) (fun _ U o U' => ∃ v L, o = .returned v ∧ Q_rm_same20 Z x tx kx y ty ky c0 c1 zc fm h0 n0 v U'.heap L ∧ FrameEnd U o U' L ({ frames := 5, cells := 0, slots := 0, locals := 70 } : Room).cells ({ frames := 5, cells := 0, slots := 0, locals := 70 } : Room).slots) := by
  refine MetFree.of_bodySF (plainFor_of_name pn_2) hisR ?_
  intro p e s m args below meth c s₁ Bd hml0 hP hK
  obtain ⟨rfl, hZ, hh⟩ := hP
  have hx := Bd.exec
  have hby := Bd.bytes
  have hml : c.maxLocals = 2 := hml0
  have hown : s.vm.findClass "com/example/typecheck/typecheck/model/QNameEqualsPinLaw" = some m.cls := findClass_of_methodNamed Bd.named
  have hnm := (name_of_methodNamed Bd.named Bd.method).1
  have X0 : Stand p l e ({ frames := 5, cells := 0, slots := 0, locals := 70 } : Room) s m #[(.ref x), (.ref y)] below meth c s₁ [] 0 0 := Stand.of_body Bd
  have e0 : s₁.heap = h0 := by rw [← hh, Bd.state]; rfl
  have N0 := Fr.nil n0
  have hwl : ∀ d ∈ StrChars.Road.wordsLen, d.before a0 Z = true := fun d hd => hw d (own_wordsLen d hd)
  have hwc : ∀ d ∈ StrChars.Road.wordsChN, d.before a0 Z = true := fun d hd => hw d (own_wordsChN d hd)
  have hwq : ∀ d ∈ StrChars.Road.wordsEq, d.before a0 Z = true := fun d hd => hw d (own_wordsEq d hd)
  have pre0 : ∀ t, Steps p.tables e below (s₁.setTop (mkF m 0 #[.val (.ref x), .val (.ref y)] [])) t → Steps p.tables e below (s₁.setTop (entryFrame m #[(.ref x), (.ref y)] 2)) t := fun t k => castTop (ef_rm_same20 m x y) k
  have la2 : ∀ c ∈ ([c0, c1] : List Int32), ¬ c < 0 ∧ ¬ (255 : Int32) < c := by
    intro c hc
    simp only [List.mem_cons, List.not_mem_nil, or_false] at hc
    rcases hc with rfl | rfl
    · exact la_c0
    · exact la_c1
  have cd2 : StrChars.Road.CodA ([c0, c1] : List Int32) 0 (2 : Int32) [(.int c0.toInt8.toInt32), (.int c1.toInt8.toInt32)] := StrChars.Road.codOf (n := 2) rfl (fun x hx => (la2 x hx).2)
  have bd2 := own_up la2
  obtain ⟨cq1, kq1, q1a, q1b, q1c⟩ := isOf hZ e0 E_x
  obtain ⟨_, _, ⟨T1, L1, k1, n1⟩, -, X1, ⟨Lc1, hQ1, l1, y1, z1⟩, st1⟩ := X0.virtualBack hx (y := (⟨"java/lang/String", "length", "()I"⟩ : MethodName)) (z := (⟨"java/lang/String", "length", "()I"⟩ : MethodName)) hown (mvT hZ (own_w hw 63 rfl)) (mvT hZ (own_w hw 64 rfl)) (notFace_of_selects (args := #[]) (mvT hZ (own_w hw 66 rfl))) (mvT hZ (own_w hw 66 rfl)) (mvT hZ (own_w hw 65 rfl)) (by decide) (StrChars.Road.lenW (W := 0) hZ hwl (kI := 4) (own_w hw 6 rfl) (cs := [c0, c1]) E_x V_x C_x K_x cd2 bd2 (S_C.ext O0.2) hzc (by show 2 ≤ 4000; decide) (by decide) (by decide)) q1a q1c (g := (mkF m 1 #[.val (.ref x), .val (.ref y)] [(.ref x)])) rfl (by rw [hml]; rfl) (Steps.refl _) (argsL := []) (rest := []) (lenOf pd_9 rfl) rfl (by show 2 * 0 + _ ≤ _; exact Nat.le_of_eq rfl) (hb hby d11_1) (fun _ _ => ⟨rfl, e0, (by decide : 0 + 0 ≤ _), (by decide : 0 + 0 ≤ _)⟩)
  dsimp only [Pt.U, Pt.locs, Pt.cells, Pt.slots] at X1 l1 y1 z1 st1 hQ1
  subst l1 y1 z1
  obtain ⟨rfl, rfl, k3⟩ := hQ1
  have N4 := Fr.app N0 (Fr.nil n0)
  have la6 : ∀ c ∈ ([] : List Int32), ¬ c < 0 ∧ ¬ (255 : Int32) < c := fun c hc => nomatch hc
  have cd6 : StrChars.Road.CodA ([] : List Int32) 0 (0 : Int32) [] := StrChars.Road.codOf (n := 0) rfl (fun x hx => (la6 x hx).2)
  have bd6 := own_up la6
  obtain ⟨cq5, kq5, q5a, q5b, q5c⟩ := isOf hZ k3 E_y
  obtain ⟨_, _, ⟨T5, L5, k5, n5⟩, -, X5, ⟨Lc5, hQ5, l5, y5, z5⟩, st5⟩ := X1.virtualBack hx (y := (⟨"java/lang/String", "length", "()I"⟩ : MethodName)) (z := (⟨"java/lang/String", "length", "()I"⟩ : MethodName)) hown (mvT hZ (own_w hw 63 rfl)) (mvT hZ (own_w hw 64 rfl)) (notFace_of_selects (args := #[]) (mvT hZ (own_w hw 66 rfl))) (mvT hZ (own_w hw 66 rfl)) (mvT hZ (own_w hw 65 rfl)) (by decide) (StrChars.Road.lenW (W := 1) hZ hwl (kI := 4) (own_w hw 6 rfl) (cs := []) E_y V_y C_y K_y cd6 bd6 (S_C.ext O0.2) hzc (by show 0 ≤ 4000; decide) (by decide) (by decide)) q5a q5c (g := (mkF m 5 #[.val (.ref x), .val (.ref y)] [(.ref y), (.int (2 : Int32))])) rfl (by rw [hml]; rfl) (Steps.refl _) (argsL := []) (rest := [(.int (2 : Int32))]) (lenOf pd_9 rfl) rfl (by show 2 * 0 + _ ≤ _; exact Nat.le_of_eq rfl) (hb hby d11_5) (fun _ _ => ⟨rfl, k3, (by decide : 0 + 0 ≤ _), (by decide : 0 + 0 ≤ _)⟩)
  dsimp only [Pt.U, Pt.locs, Pt.cells, Pt.slots] at X5 l5 y5 z5 st5 hQ5
  subst l5 y5 z5
  obtain ⟨rfl, rfl, k7⟩ := hQ5
  have N8 := Fr.app N4 (Fr.nil n0)
  have S9 : ∀ t, Steps p.tables e below (T5.setTop (mkF m 12 #[.val (.ref x), .val (.ref y)] [(.int (0 : Int32))])) t → Steps p.tables e below (s₁.setTop (mkF m 0 #[.val (.ref x), .val (.ref y)] [])) t := by
    intro t kt
    refine XS.aloadN X0.here hx rfl (hb hby d11_0) rfl rfl ?_
    show Steps p.tables e below (s₁.setTop (mkF m 1 #[.val (.ref x), .val (.ref y)] [(.ref x)])) _
    refine st1.trans ?_
    refine XS.aloadN X1.here hx rfl (hb hby d11_4) rfl rfl ?_
    show Steps p.tables e below (T1.setTop (mkF m 5 #[.val (.ref x), .val (.ref y)] [(.ref y), (.int (2 : Int32))])) _
    refine st5.trans ?_
    refine XS.icmpNo X5.here hx rfl (hb hby d11_8) rfl (feq ((by decide) : ¬ ((2 : Int32) = (0 : Int32)))).1 ?_
    refine XS.iconst X5.here hx rfl (hb hby d11_11) ?_
    exact kt
  obtain ⟨fs, hr, hrun, hended, hW, hsame⟩ := X5.leave (v := some (.int (0 : Int32))) (fun h => by rw [Bd.returns] at h; cases h)
  refine ⟨_, _, pre0 _ (S9 _ ?_), hrun, hended, _, _, rfl, ?_, ⟨_, rfl⟩, hW, hsame.mono (by decide) (by decide)⟩
  · exact retN X5 hx (t := .boolean) Bd.returns (by simp) (hb hby d11_12) hr
  · show Q_rm_same20 Z x tx kx y ty ky c0 c1 zc fm h0 n0 _ T5.heap _
    rw [k7]
    exact ⟨(congrArg (fun z => some (Value.int z)) (if_neg (fun q => by have := congrArg List.length q; simp at this)).symm), N8, rfl⟩
theorem ef_rm_same21 (m : MethodId) (x0 : Addr) (x1 : Addr) : entryFrame m #[(.ref x0), (.ref x1)] 2 = mkF m 0 #[.val (.ref x0), .val (.ref x1)] [] := by first | (simp [entryFrame, mkF, argsToLocals, Value.category]; done) | rfl
def Q_rm_same21 (Z : State) (x : Addr) (tx : Addr) (kx : ClassId) (y : Addr) (ty : Addr) (ky : ClassId) (c0 : Int32) (c1 : Int32) (d0 : Int32) (zc : Int32) (fm : Value) (h0 : Heap) (n0 : Nat) (v : Option Value) (h : Heap) (L : List Loc) : Prop := ((v = some (.int (own_eqI ([c0, c1] : List Int32) [d0]))) ∧ (Fr n0 L) ∧ (h = h0))
set_option maxRecDepth 65536 in
set_option maxHeartbeats 40000000 in
theorem rm_same21 (l : Launch) (Z : State) (a0 : Array Value) (hw : ∀ d ∈ tables_1, d.before a0 Z = true) (ws : List Jvm.Cond) (x : Addr) (tx : Addr) (kx : ClassId) (y : Addr) (ty : Addr) (ky : ClassId) (c0 : Int32) (c1 : Int32) (d0 : Int32) (zc : Int32) (fm : Value) (h0 : Heap) (n0 : Nat) (O0 : Old Z n0 h0) (E_x : Exa Z h0 x "java/lang/String") (V_x : Fld Z h0 x "java/lang/String" "value" "[B" (.ref tx)) (C_x : Fld Z h0 x "java/lang/String" "coder" "B" (.int (0 : Int32))) (K_x : Arv Z h0 tx kx .byte (2 : Int32) [(.int c0.toInt8.toInt32), (.int c1.toInt8.toInt32)] (.int (0 : Int32))) (E_y : Exa Z h0 y "java/lang/String") (V_y : Fld Z h0 y "java/lang/String" "value" "[B" (.ref ty)) (C_y : Fld Z h0 y "java/lang/String" "coder" "B" (.int (0 : Int32))) (K_y : Arv Z h0 ty ky .byte (1 : Int32) [(.int d0.toInt8.toInt32)] (.int (0 : Int32))) (la_c0 : ¬ (c0 < (0 : Int32)) ∧ ¬ ((255 : Int32) < c0)) (la_c1 : ¬ (c1 < (0 : Int32)) ∧ ¬ ((255 : Int32) < c1)) (la_d0 : ¬ (d0 < (0 : Int32)) ∧ ¬ ((255 : Int32) < d0)) (S_C : Sta Z Z.heap "java/lang/String" "COMPACT_STRINGS" "Z" (.int zc)) (hzc : ¬ (zc = (0 : Int32))) (S_F : Sta Z Z.heap "jdk/internal/util/Preconditions" "SIOOBE_FORMATTER" "Ljava/util/function/BiFunction;" fm) (hfm : fm.isRef = true) :
    MetFree l (⟨"com/example/typecheck/typecheck/model/QNameEqualsPinLaw", "same", "(Ljava/lang/String;Ljava/lang/String;)Z"⟩ : MethodName) (head1 (Jvm.Cond.code (⟨"com/example/typecheck/typecheck/model/QNameEqualsPinLaw", "same", "(Ljava/lang/String;Ljava/lang/String;)Z"⟩ : MethodName) method_3_code 2 (some .boolean) :: ws) ({ frames := 5, cells := 0, slots := 0, locals := 70 } : Room)) (fun a U => a = #[(.ref x), (.ref y)] ∧ Z.Warmed39 U.vm ∧ U.heap = h0) (fun _ _ _ _ _ => True) (fun _ U o U' => ∃ v L, o = .returned v ∧ Q_rm_same21 Z x tx kx y ty ky c0 c1 d0 zc fm h0 n0 v U'.heap L ∧ FrameEnd U o U' L ({ frames := 5, cells := 0, slots := 0, locals := 70 } : Room).cells ({ frames := 5, cells := 0, slots := 0, locals := 70 } : Room).slots) := by
  refine MetFree.of_bodySF (plainFor_of_name pn_2) hisR ?_
  intro p e s m args below meth c s₁ Bd hml0 hP hK
  obtain ⟨rfl, hZ, hh⟩ := hP
  have hx := Bd.exec
  have hby := Bd.bytes
  have hml : c.maxLocals = 2 := hml0
  have hown : s.vm.findClass "com/example/typecheck/typecheck/model/QNameEqualsPinLaw" = some m.cls := findClass_of_methodNamed Bd.named
  have hnm := (name_of_methodNamed Bd.named Bd.method).1
  have X0 : Stand p l e ({ frames := 5, cells := 0, slots := 0, locals := 70 } : Room) s m #[(.ref x), (.ref y)] below meth c s₁ [] 0 0 := Stand.of_body Bd
  have e0 : s₁.heap = h0 := by rw [← hh, Bd.state]; rfl
  have N0 := Fr.nil n0
  have hwl : ∀ d ∈ StrChars.Road.wordsLen, d.before a0 Z = true := fun d hd => hw d (own_wordsLen d hd)
  have hwc : ∀ d ∈ StrChars.Road.wordsChN, d.before a0 Z = true := fun d hd => hw d (own_wordsChN d hd)
  have hwq : ∀ d ∈ StrChars.Road.wordsEq, d.before a0 Z = true := fun d hd => hw d (own_wordsEq d hd)
  have pre0 : ∀ t, Steps p.tables e below (s₁.setTop (mkF m 0 #[.val (.ref x), .val (.ref y)] [])) t → Steps p.tables e below (s₁.setTop (entryFrame m #[(.ref x), (.ref y)] 2)) t := fun t k => castTop (ef_rm_same21 m x y) k
  have la2 : ∀ c ∈ ([c0, c1] : List Int32), ¬ c < 0 ∧ ¬ (255 : Int32) < c := by
    intro c hc
    simp only [List.mem_cons, List.not_mem_nil, or_false] at hc
    rcases hc with rfl | rfl
    · exact la_c0
    · exact la_c1
  have cd2 : StrChars.Road.CodA ([c0, c1] : List Int32) 0 (2 : Int32) [(.int c0.toInt8.toInt32), (.int c1.toInt8.toInt32)] := StrChars.Road.codOf (n := 2) rfl (fun x hx => (la2 x hx).2)
  have bd2 := own_up la2
  obtain ⟨cq1, kq1, q1a, q1b, q1c⟩ := isOf hZ e0 E_x
  obtain ⟨_, _, ⟨T1, L1, k1, n1⟩, -, X1, ⟨Lc1, hQ1, l1, y1, z1⟩, st1⟩ := X0.virtualBack hx (y := (⟨"java/lang/String", "length", "()I"⟩ : MethodName)) (z := (⟨"java/lang/String", "length", "()I"⟩ : MethodName)) hown (mvT hZ (own_w hw 63 rfl)) (mvT hZ (own_w hw 64 rfl)) (notFace_of_selects (args := #[]) (mvT hZ (own_w hw 66 rfl))) (mvT hZ (own_w hw 66 rfl)) (mvT hZ (own_w hw 65 rfl)) (by decide) (StrChars.Road.lenW (W := 0) hZ hwl (kI := 4) (own_w hw 6 rfl) (cs := [c0, c1]) E_x V_x C_x K_x cd2 bd2 (S_C.ext O0.2) hzc (by show 2 ≤ 4000; decide) (by decide) (by decide)) q1a q1c (g := (mkF m 1 #[.val (.ref x), .val (.ref y)] [(.ref x)])) rfl (by rw [hml]; rfl) (Steps.refl _) (argsL := []) (rest := []) (lenOf pd_9 rfl) rfl (by show 2 * 0 + _ ≤ _; exact Nat.le_of_eq rfl) (hb hby d11_1) (fun _ _ => ⟨rfl, e0, (by decide : 0 + 0 ≤ _), (by decide : 0 + 0 ≤ _)⟩)
  dsimp only [Pt.U, Pt.locs, Pt.cells, Pt.slots] at X1 l1 y1 z1 st1 hQ1
  subst l1 y1 z1
  obtain ⟨rfl, rfl, k3⟩ := hQ1
  have N4 := Fr.app N0 (Fr.nil n0)
  have la6 : ∀ c ∈ ([d0] : List Int32), ¬ c < 0 ∧ ¬ (255 : Int32) < c := by
    intro c hc
    simp only [List.mem_cons, List.not_mem_nil, or_false] at hc
    rcases hc with rfl
    · exact la_d0
  have cd6 : StrChars.Road.CodA ([d0] : List Int32) 0 (1 : Int32) [(.int d0.toInt8.toInt32)] := StrChars.Road.codOf (n := 1) rfl (fun x hx => (la6 x hx).2)
  have bd6 := own_up la6
  obtain ⟨cq5, kq5, q5a, q5b, q5c⟩ := isOf hZ k3 E_y
  obtain ⟨_, _, ⟨T5, L5, k5, n5⟩, -, X5, ⟨Lc5, hQ5, l5, y5, z5⟩, st5⟩ := X1.virtualBack hx (y := (⟨"java/lang/String", "length", "()I"⟩ : MethodName)) (z := (⟨"java/lang/String", "length", "()I"⟩ : MethodName)) hown (mvT hZ (own_w hw 63 rfl)) (mvT hZ (own_w hw 64 rfl)) (notFace_of_selects (args := #[]) (mvT hZ (own_w hw 66 rfl))) (mvT hZ (own_w hw 66 rfl)) (mvT hZ (own_w hw 65 rfl)) (by decide) (StrChars.Road.lenW (W := 1) hZ hwl (kI := 4) (own_w hw 6 rfl) (cs := [d0]) E_y V_y C_y K_y cd6 bd6 (S_C.ext O0.2) hzc (by show 1 ≤ 4000; decide) (by decide) (by decide)) q5a q5c (g := (mkF m 5 #[.val (.ref x), .val (.ref y)] [(.ref y), (.int (2 : Int32))])) rfl (by rw [hml]; rfl) (Steps.refl _) (argsL := []) (rest := [(.int (2 : Int32))]) (lenOf pd_9 rfl) rfl (by show 2 * 0 + _ ≤ _; exact Nat.le_of_eq rfl) (hb hby d11_5) (fun _ _ => ⟨rfl, k3, (by decide : 0 + 0 ≤ _), (by decide : 0 + 0 ≤ _)⟩)
  dsimp only [Pt.U, Pt.locs, Pt.cells, Pt.slots] at X5 l5 y5 z5 st5 hQ5
  subst l5 y5 z5
  obtain ⟨rfl, rfl, k7⟩ := hQ5
  have N8 := Fr.app N4 (Fr.nil n0)
  have S9 : ∀ t, Steps p.tables e below (T5.setTop (mkF m 12 #[.val (.ref x), .val (.ref y)] [(.int (0 : Int32))])) t → Steps p.tables e below (s₁.setTop (mkF m 0 #[.val (.ref x), .val (.ref y)] [])) t := by
    intro t kt
    refine XS.aloadN X0.here hx rfl (hb hby d11_0) rfl rfl ?_
    show Steps p.tables e below (s₁.setTop (mkF m 1 #[.val (.ref x), .val (.ref y)] [(.ref x)])) _
    refine st1.trans ?_
    refine XS.aloadN X1.here hx rfl (hb hby d11_4) rfl rfl ?_
    show Steps p.tables e below (T1.setTop (mkF m 5 #[.val (.ref x), .val (.ref y)] [(.ref y), (.int (2 : Int32))])) _
    refine st5.trans ?_
    refine XS.icmpNo X5.here hx rfl (hb hby d11_8) rfl (feq ((by decide) : ¬ ((2 : Int32) = (1 : Int32)))).1 ?_
    refine XS.iconst X5.here hx rfl (hb hby d11_11) ?_
    exact kt
  obtain ⟨fs, hr, hrun, hended, hW, hsame⟩ := X5.leave (v := some (.int (0 : Int32))) (fun h => by rw [Bd.returns] at h; cases h)
  refine ⟨_, _, pre0 _ (S9 _ ?_), hrun, hended, _, _, rfl, ?_, ⟨_, rfl⟩, hW, hsame.mono (by decide) (by decide)⟩
  · exact retN X5 hx (t := .boolean) Bd.returns (by simp) (hb hby d11_12) hr
  · show Q_rm_same21 Z x tx kx y ty ky c0 c1 d0 zc fm h0 n0 _ T5.heap _
    rw [k7]
    exact ⟨(congrArg (fun z => some (Value.int z)) (if_neg (fun q => by have := congrArg List.length q; simp at this)).symm), N8, rfl⟩
theorem d11_44 : decode method_3_code 44 = .ok (.aload_n 0, 1) := by decide +kernel
theorem d11_45 : decode method_3_code 45 = .ok (.iconst 1, 1) := by decide +kernel
theorem d11_46 : decode method_3_code 46 = .ok (.invokevirtual 16, 3) := by decide +kernel
theorem d11_49 : decode method_3_code 49 = .ok (.aload_n 1, 1) := by decide +kernel
theorem d11_50 : decode method_3_code 50 = .ok (.iconst 1, 1) := by decide +kernel
theorem d11_51 : decode method_3_code 51 = .ok (.invokevirtual 16, 3) := by decide +kernel
theorem d11_54 : decode method_3_code 54 = .ok (.if_icmp .eq 5, 3) := by decide +kernel
theorem d11_57 : decode method_3_code 57 = .ok (.iconst 0, 1) := by decide +kernel
theorem d11_58 : decode method_3_code 58 = .ok (.ireturn, 1) := by decide +kernel
theorem ef_rm_same22 (m : MethodId) (x0 : Addr) (x1 : Addr) : entryFrame m #[(.ref x0), (.ref x1)] 2 = mkF m 0 #[.val (.ref x0), .val (.ref x1)] [] := by first | (simp [entryFrame, mkF, argsToLocals, Value.category]; done) | rfl
def Q_rm_same22 (Z : State) (x : Addr) (tx : Addr) (kx : ClassId) (y : Addr) (ty : Addr) (ky : ClassId) (c0 : Int32) (c1 : Int32) (d0 : Int32) (d1 : Int32) (zc : Int32) (fm : Value) (h0 : Heap) (n0 : Nat) (v : Option Value) (h : Heap) (L : List Loc) : Prop := ((v = some (.int (own_eqI ([c0, c1] : List Int32) [d0, d1]))) ∧ (Fr n0 L) ∧ (h = h0))
set_option maxRecDepth 65536 in
set_option maxHeartbeats 40000000 in
theorem rm_same22 (l : Launch) (Z : State) (a0 : Array Value) (hw : ∀ d ∈ tables_1, d.before a0 Z = true) (ws : List Jvm.Cond) (x : Addr) (tx : Addr) (kx : ClassId) (y : Addr) (ty : Addr) (ky : ClassId) (c0 : Int32) (c1 : Int32) (d0 : Int32) (d1 : Int32) (zc : Int32) (fm : Value) (h0 : Heap) (n0 : Nat) (O0 : Old Z n0 h0) (E_x : Exa Z h0 x "java/lang/String") (V_x : Fld Z h0 x "java/lang/String" "value" "[B" (.ref tx)) (C_x : Fld Z h0 x "java/lang/String" "coder" "B" (.int (0 : Int32))) (K_x : Arv Z h0 tx kx .byte (2 : Int32) [(.int c0.toInt8.toInt32), (.int c1.toInt8.toInt32)] (.int (0 : Int32))) (E_y : Exa Z h0 y "java/lang/String") (V_y : Fld Z h0 y "java/lang/String" "value" "[B" (.ref ty)) (C_y : Fld Z h0 y "java/lang/String" "coder" "B" (.int (0 : Int32))) (K_y : Arv Z h0 ty ky .byte (2 : Int32) [(.int d0.toInt8.toInt32), (.int d1.toInt8.toInt32)] (.int (0 : Int32))) (la_c0 : ¬ (c0 < (0 : Int32)) ∧ ¬ ((255 : Int32) < c0)) (la_c1 : ¬ (c1 < (0 : Int32)) ∧ ¬ ((255 : Int32) < c1)) (la_d0 : ¬ (d0 < (0 : Int32)) ∧ ¬ ((255 : Int32) < d0)) (la_d1 : ¬ (d1 < (0 : Int32)) ∧ ¬ ((255 : Int32) < d1)) (S_C : Sta Z Z.heap "java/lang/String" "COMPACT_STRINGS" "Z" (.int zc)) (hzc : ¬ (zc = (0 : Int32))) (S_F : Sta Z Z.heap "jdk/internal/util/Preconditions" "SIOOBE_FORMATTER" "Ljava/util/function/BiFunction;" fm) (hfm : fm.isRef = true) :
    MetFree l (⟨"com/example/typecheck/typecheck/model/QNameEqualsPinLaw", "same", "(Ljava/lang/String;Ljava/lang/String;)Z"⟩ : MethodName) (head1 (Jvm.Cond.code (⟨"com/example/typecheck/typecheck/model/QNameEqualsPinLaw", "same", "(Ljava/lang/String;Ljava/lang/String;)Z"⟩ : MethodName) method_3_code 2 (some .boolean) :: ws) ({ frames := 5, cells := 0, slots := 0, locals := 70 } : Room)) (fun a U => a = #[(.ref x), (.ref y)] ∧ Z.Warmed39 U.vm ∧ U.heap = h0) (fun _ _ _ _ _ => True) (fun _ U o U' => ∃ v L, o = .returned v ∧ Q_rm_same22 Z x tx kx y ty ky c0 c1 d0 d1 zc fm h0 n0 v U'.heap L ∧ FrameEnd U o U' L ({ frames := 5, cells := 0, slots := 0, locals := 70 } : Room).cells ({ frames := 5, cells := 0, slots := 0, locals := 70 } : Room).slots) := by
  refine MetFree.of_bodySF (plainFor_of_name pn_2) hisR ?_
  intro p e s m args below meth c s₁ Bd hml0 hP hK
  obtain ⟨rfl, hZ, hh⟩ := hP
  have hx := Bd.exec
  have hby := Bd.bytes
  have hml : c.maxLocals = 2 := hml0
  have hown : s.vm.findClass "com/example/typecheck/typecheck/model/QNameEqualsPinLaw" = some m.cls := findClass_of_methodNamed Bd.named
  have hnm := (name_of_methodNamed Bd.named Bd.method).1
  have X0 : Stand p l e ({ frames := 5, cells := 0, slots := 0, locals := 70 } : Room) s m #[(.ref x), (.ref y)] below meth c s₁ [] 0 0 := Stand.of_body Bd
  have e0 : s₁.heap = h0 := by rw [← hh, Bd.state]; rfl
  have N0 := Fr.nil n0
  have hwl : ∀ d ∈ StrChars.Road.wordsLen, d.before a0 Z = true := fun d hd => hw d (own_wordsLen d hd)
  have hwc : ∀ d ∈ StrChars.Road.wordsChN, d.before a0 Z = true := fun d hd => hw d (own_wordsChN d hd)
  have hwq : ∀ d ∈ StrChars.Road.wordsEq, d.before a0 Z = true := fun d hd => hw d (own_wordsEq d hd)
  have pre0 : ∀ t, Steps p.tables e below (s₁.setTop (mkF m 0 #[.val (.ref x), .val (.ref y)] [])) t → Steps p.tables e below (s₁.setTop (entryFrame m #[(.ref x), (.ref y)] 2)) t := fun t k => castTop (ef_rm_same22 m x y) k
  have la2 : ∀ c ∈ ([c0, c1] : List Int32), ¬ c < 0 ∧ ¬ (255 : Int32) < c := by
    intro c hc
    simp only [List.mem_cons, List.not_mem_nil, or_false] at hc
    rcases hc with rfl | rfl
    · exact la_c0
    · exact la_c1
  have cd2 : StrChars.Road.CodA ([c0, c1] : List Int32) 0 (2 : Int32) [(.int c0.toInt8.toInt32), (.int c1.toInt8.toInt32)] := StrChars.Road.codOf (n := 2) rfl (fun x hx => (la2 x hx).2)
  have bd2 := own_up la2
  obtain ⟨cq1, kq1, q1a, q1b, q1c⟩ := isOf hZ e0 E_x
  obtain ⟨_, _, ⟨T1, L1, k1, n1⟩, -, X1, ⟨Lc1, hQ1, l1, y1, z1⟩, st1⟩ := X0.virtualBack hx (y := (⟨"java/lang/String", "length", "()I"⟩ : MethodName)) (z := (⟨"java/lang/String", "length", "()I"⟩ : MethodName)) hown (mvT hZ (own_w hw 63 rfl)) (mvT hZ (own_w hw 64 rfl)) (notFace_of_selects (args := #[]) (mvT hZ (own_w hw 66 rfl))) (mvT hZ (own_w hw 66 rfl)) (mvT hZ (own_w hw 65 rfl)) (by decide) (StrChars.Road.lenW (W := 0) hZ hwl (kI := 4) (own_w hw 6 rfl) (cs := [c0, c1]) E_x V_x C_x K_x cd2 bd2 (S_C.ext O0.2) hzc (by show 2 ≤ 4000; decide) (by decide) (by decide)) q1a q1c (g := (mkF m 1 #[.val (.ref x), .val (.ref y)] [(.ref x)])) rfl (by rw [hml]; rfl) (Steps.refl _) (argsL := []) (rest := []) (lenOf pd_9 rfl) rfl (by show 2 * 0 + _ ≤ _; exact Nat.le_of_eq rfl) (hb hby d11_1) (fun _ _ => ⟨rfl, e0, (by decide : 0 + 0 ≤ _), (by decide : 0 + 0 ≤ _)⟩)
  dsimp only [Pt.U, Pt.locs, Pt.cells, Pt.slots] at X1 l1 y1 z1 st1 hQ1
  subst l1 y1 z1
  obtain ⟨rfl, rfl, k3⟩ := hQ1
  have N4 := Fr.app N0 (Fr.nil n0)
  have la6 : ∀ c ∈ ([d0, d1] : List Int32), ¬ c < 0 ∧ ¬ (255 : Int32) < c := by
    intro c hc
    simp only [List.mem_cons, List.not_mem_nil, or_false] at hc
    rcases hc with rfl | rfl
    · exact la_d0
    · exact la_d1
  have cd6 : StrChars.Road.CodA ([d0, d1] : List Int32) 0 (2 : Int32) [(.int d0.toInt8.toInt32), (.int d1.toInt8.toInt32)] := StrChars.Road.codOf (n := 2) rfl (fun x hx => (la6 x hx).2)
  have bd6 := own_up la6
  obtain ⟨cq5, kq5, q5a, q5b, q5c⟩ := isOf hZ k3 E_y
  obtain ⟨_, _, ⟨T5, L5, k5, n5⟩, -, X5, ⟨Lc5, hQ5, l5, y5, z5⟩, st5⟩ := X1.virtualBack hx (y := (⟨"java/lang/String", "length", "()I"⟩ : MethodName)) (z := (⟨"java/lang/String", "length", "()I"⟩ : MethodName)) hown (mvT hZ (own_w hw 63 rfl)) (mvT hZ (own_w hw 64 rfl)) (notFace_of_selects (args := #[]) (mvT hZ (own_w hw 66 rfl))) (mvT hZ (own_w hw 66 rfl)) (mvT hZ (own_w hw 65 rfl)) (by decide) (StrChars.Road.lenW (W := 1) hZ hwl (kI := 4) (own_w hw 6 rfl) (cs := [d0, d1]) E_y V_y C_y K_y cd6 bd6 (S_C.ext O0.2) hzc (by show 2 ≤ 4000; decide) (by decide) (by decide)) q5a q5c (g := (mkF m 5 #[.val (.ref x), .val (.ref y)] [(.ref y), (.int (2 : Int32))])) rfl (by rw [hml]; rfl) (Steps.refl _) (argsL := []) (rest := [(.int (2 : Int32))]) (lenOf pd_9 rfl) rfl (by show 2 * 0 + _ ≤ _; exact Nat.le_of_eq rfl) (hb hby d11_5) (fun _ _ => ⟨rfl, k3, (by decide : 0 + 0 ≤ _), (by decide : 0 + 0 ≤ _)⟩)
  dsimp only [Pt.U, Pt.locs, Pt.cells, Pt.slots] at X5 l5 y5 z5 st5 hQ5
  subst l5 y5 z5
  obtain ⟨rfl, rfl, k7⟩ := hQ5
  have N8 := Fr.app N4 (Fr.nil n0)
  obtain ⟨cq9, kq9, q9a, q9b, q9c⟩ := isOf hZ k7 E_x
  obtain ⟨_, _, ⟨T9, L9, k9, n9⟩, -, X9, ⟨Lc9, hQ9, l9, y9, z9⟩, st9⟩ := X5.virtualBack hx (y := (⟨"java/lang/String", "length", "()I"⟩ : MethodName)) (z := (⟨"java/lang/String", "length", "()I"⟩ : MethodName)) hown (mvT hZ (own_w hw 63 rfl)) (mvT hZ (own_w hw 64 rfl)) (notFace_of_selects (args := #[]) (mvT hZ (own_w hw 66 rfl))) (mvT hZ (own_w hw 66 rfl)) (mvT hZ (own_w hw 65 rfl)) (by decide) (StrChars.Road.lenW (W := 0) hZ hwl (kI := 4) (own_w hw 6 rfl) (cs := [c0, c1]) E_x V_x C_x K_x cd2 bd2 (S_C.ext O0.2) hzc (by show 2 ≤ 4000; decide) (by decide) (by decide)) q9a q9c (g := (mkF m 14 #[.val (.ref x), .val (.ref y)] [(.ref x)])) rfl (by rw [hml]; rfl) (Steps.refl _) (argsL := []) (rest := []) (lenOf pd_9 rfl) rfl (by show 2 * 0 + _ ≤ _; exact Nat.le_of_eq rfl) (hb hby d11_14) (fun _ _ => ⟨rfl, k7, (by decide : 0 + 0 ≤ _), (by decide : 0 + 0 ≤ _)⟩)
  dsimp only [Pt.U, Pt.locs, Pt.cells, Pt.slots] at X9 l9 y9 z9 st9 hQ9
  subst l9 y9 z9
  obtain ⟨rfl, rfl, k10⟩ := hQ9
  have N11 := Fr.app N8 (Fr.nil n0)
  obtain ⟨cq12, kq12, q12a, q12b, q12c⟩ := isOf hZ k10 E_x
  obtain ⟨_, _, ⟨T12, L12, k12, n12⟩, -, X12, ⟨Lc12, hQ12, l12, y12, z12⟩, st12⟩ := X9.virtualBack hx (y := (⟨"java/lang/String", "charAt", "(I)C"⟩ : MethodName)) (z := (⟨"java/lang/String", "charAt", "(I)C"⟩ : MethodName)) hown (mvT hZ (own_w hw 108 rfl)) (mvT hZ (own_w hw 109 rfl)) (notFace_of_selects (args := #[]) (mvT hZ (own_w hw 111 rfl))) (mvT hZ (own_w hw 111 rfl)) (mvT hZ (own_w hw 110 rfl)) (by decide) (StrChars.Road.chN (W := 0) hZ hwc (kI := 4) (own_w hw 6 rfl) (cs := [c0, c1]) (i := 0) (j := (0 : Int32)) E_x V_x C_x K_x cd2 bd2 (S_C.ext O0.2) hzc (S_F.ext O0.2) hfm (by show 2 ≤ 4000; decide) (by show 0 < 2; decide) rfl (by decide) (by decide)) q12a q12c (g := (mkF m 23 #[.val (.ref x), .val (.ref y)] [(.int (0 : Int32)), (.ref x)])) rfl (by rw [hml]; rfl) (Steps.refl _) (argsL := [(.int (0 : Int32))]) (rest := []) (lenOf pd_10 rfl) rfl (by show 2 * 0 + _ ≤ _; exact Nat.le_of_eq rfl) (hb hby d11_23) (fun _ _ => ⟨rfl, k10, (by decide : 0 + 0 ≤ _), (by decide : 0 + 0 ≤ _)⟩)
  dsimp only [Pt.U, Pt.locs, Pt.cells, Pt.slots] at X12 l12 y12 z12 st12 hQ12
  subst l12 y12 z12
  obtain ⟨rfl, rfl, k13⟩ := hQ12
  have N14 := Fr.app N11 (Fr.nil n0)
  obtain ⟨cq15, kq15, q15a, q15b, q15c⟩ := isOf hZ k13 E_y
  obtain ⟨_, _, ⟨T15, L15, k15, n15⟩, -, X15, ⟨Lc15, hQ15, l15, y15, z15⟩, st15⟩ := X12.virtualBack hx (y := (⟨"java/lang/String", "charAt", "(I)C"⟩ : MethodName)) (z := (⟨"java/lang/String", "charAt", "(I)C"⟩ : MethodName)) hown (mvT hZ (own_w hw 108 rfl)) (mvT hZ (own_w hw 109 rfl)) (notFace_of_selects (args := #[]) (mvT hZ (own_w hw 111 rfl))) (mvT hZ (own_w hw 111 rfl)) (mvT hZ (own_w hw 110 rfl)) (by decide) (StrChars.Road.chN (W := 1) hZ hwc (kI := 4) (own_w hw 6 rfl) (cs := [d0, d1]) (i := 0) (j := (0 : Int32)) E_y V_y C_y K_y cd6 bd6 (S_C.ext O0.2) hzc (S_F.ext O0.2) hfm (by show 2 ≤ 4000; decide) (by show 0 < 2; decide) rfl (by decide) (by decide)) q15a q15c (g := (mkF m 28 #[.val (.ref x), .val (.ref y)] [(.int (0 : Int32)), (.ref y), (.int c0)])) rfl (by rw [hml]; rfl) (Steps.refl _) (argsL := [(.int (0 : Int32))]) (rest := [(.int c0)]) (lenOf pd_10 rfl) rfl (by show 2 * 0 + _ ≤ _; exact Nat.le_of_eq rfl) (hb hby d11_28) (fun _ _ => ⟨rfl, k13, (by decide : 0 + 0 ≤ _), (by decide : 0 + 0 ≤ _)⟩)
  dsimp only [Pt.U, Pt.locs, Pt.cells, Pt.slots] at X15 l15 y15 z15 st15 hQ15
  subst l15 y15 z15
  obtain ⟨rfl, rfl, k16⟩ := hQ15
  have N17 := Fr.app N14 (Fr.nil n0)
  have S18 : ∀ t, Steps p.tables e below (T15.setTop (mkF m 31 #[.val (.ref x), .val (.ref y)] [(.int d0), (.int c0)])) t → Steps p.tables e below (s₁.setTop (mkF m 0 #[.val (.ref x), .val (.ref y)] [])) t := by
    intro t kt
    refine XS.aloadN X0.here hx rfl (hb hby d11_0) rfl rfl ?_
    show Steps p.tables e below (s₁.setTop (mkF m 1 #[.val (.ref x), .val (.ref y)] [(.ref x)])) _
    refine st1.trans ?_
    refine XS.aloadN X1.here hx rfl (hb hby d11_4) rfl rfl ?_
    show Steps p.tables e below (T1.setTop (mkF m 5 #[.val (.ref x), .val (.ref y)] [(.ref y), (.int (2 : Int32))])) _
    refine st5.trans ?_
    refine XS.icmpYes X5.here hx rfl (pc0 := 8) (pc' := 13) rfl (hb hby d11_8) rfl (teq ((by decide) : (2 : Int32) = (2 : Int32))).1 (by decide) (by decide) ?_
    refine XS.aloadN X5.here hx rfl (hb hby d11_13) rfl rfl ?_
    show Steps p.tables e below (T5.setTop (mkF m 14 #[.val (.ref x), .val (.ref y)] [(.ref x)])) _
    refine st9.trans ?_
    refine XS.iconst X9.here hx rfl (hb hby d11_17) ?_
    refine XS.icmpNo X9.here hx rfl (hb hby d11_18) rfl (flt ((by decide) : ¬ ((2 : Int32) < (1 : Int32)))).1 ?_
    refine XS.aloadN X9.here hx rfl (hb hby d11_21) rfl rfl ?_
    refine XS.iconst X9.here hx rfl (hb hby d11_22) ?_
    show Steps p.tables e below (T9.setTop (mkF m 23 #[.val (.ref x), .val (.ref y)] [(.int (0 : Int32)), (.ref x)])) _
    refine st12.trans ?_
    refine XS.aloadN X12.here hx rfl (hb hby d11_26) rfl rfl ?_
    refine XS.iconst X12.here hx rfl (hb hby d11_27) ?_
    show Steps p.tables e below (T12.setTop (mkF m 28 #[.val (.ref x), .val (.ref y)] [(.int (0 : Int32)), (.ref y), (.int c0)])) _
    refine st15.trans ?_
    exact kt
  rcases Decidable.em (c0 = d0) with c19 | c19
  · obtain ⟨cq20, kq20, q20a, q20b, q20c⟩ := isOf hZ k16 E_x
    obtain ⟨_, _, ⟨T20, L20, k20, n20⟩, -, X20, ⟨Lc20, hQ20, l20, y20, z20⟩, st20⟩ := X15.virtualBack hx (y := (⟨"java/lang/String", "length", "()I"⟩ : MethodName)) (z := (⟨"java/lang/String", "length", "()I"⟩ : MethodName)) hown (mvT hZ (own_w hw 63 rfl)) (mvT hZ (own_w hw 64 rfl)) (notFace_of_selects (args := #[]) (mvT hZ (own_w hw 66 rfl))) (mvT hZ (own_w hw 66 rfl)) (mvT hZ (own_w hw 65 rfl)) (by decide) (StrChars.Road.lenW (W := 0) hZ hwl (kI := 4) (own_w hw 6 rfl) (cs := [c0, c1]) E_x V_x C_x K_x cd2 bd2 (S_C.ext O0.2) hzc (by show 2 ≤ 4000; decide) (by decide) (by decide)) q20a q20c (g := (mkF m 37 #[.val (.ref x), .val (.ref y)] [(.ref x)])) rfl (by rw [hml]; rfl) (Steps.refl _) (argsL := []) (rest := []) (lenOf pd_9 rfl) rfl (by show 2 * 0 + _ ≤ _; exact Nat.le_of_eq rfl) (hb hby d11_37) (fun _ _ => ⟨rfl, k16, (by decide : 0 + 0 ≤ _), (by decide : 0 + 0 ≤ _)⟩)
    dsimp only [Pt.U, Pt.locs, Pt.cells, Pt.slots] at X20 l20 y20 z20 st20 hQ20
    subst l20 y20 z20
    obtain ⟨rfl, rfl, k21⟩ := hQ20
    have N22 := Fr.app N17 (Fr.nil n0)
    obtain ⟨cq23, kq23, q23a, q23b, q23c⟩ := isOf hZ k21 E_x
    obtain ⟨_, _, ⟨T23, L23, k23, n23⟩, -, X23, ⟨Lc23, hQ23, l23, y23, z23⟩, st23⟩ := X20.virtualBack hx (y := (⟨"java/lang/String", "charAt", "(I)C"⟩ : MethodName)) (z := (⟨"java/lang/String", "charAt", "(I)C"⟩ : MethodName)) hown (mvT hZ (own_w hw 108 rfl)) (mvT hZ (own_w hw 109 rfl)) (notFace_of_selects (args := #[]) (mvT hZ (own_w hw 111 rfl))) (mvT hZ (own_w hw 111 rfl)) (mvT hZ (own_w hw 110 rfl)) (by decide) (StrChars.Road.chN (W := 0) hZ hwc (kI := 4) (own_w hw 6 rfl) (cs := [c0, c1]) (i := 1) (j := (1 : Int32)) E_x V_x C_x K_x cd2 bd2 (S_C.ext O0.2) hzc (S_F.ext O0.2) hfm (by show 2 ≤ 4000; decide) (by show 1 < 2; decide) rfl (by decide) (by decide)) q23a q23c (g := (mkF m 46 #[.val (.ref x), .val (.ref y)] [(.int (1 : Int32)), (.ref x)])) rfl (by rw [hml]; rfl) (Steps.refl _) (argsL := [(.int (1 : Int32))]) (rest := []) (lenOf pd_10 rfl) rfl (by show 2 * 0 + _ ≤ _; exact Nat.le_of_eq rfl) (hb hby d11_46) (fun _ _ => ⟨rfl, k21, (by decide : 0 + 0 ≤ _), (by decide : 0 + 0 ≤ _)⟩)
    dsimp only [Pt.U, Pt.locs, Pt.cells, Pt.slots] at X23 l23 y23 z23 st23 hQ23
    subst l23 y23 z23
    obtain ⟨rfl, rfl, k24⟩ := hQ23
    have N25 := Fr.app N22 (Fr.nil n0)
    obtain ⟨cq26, kq26, q26a, q26b, q26c⟩ := isOf hZ k24 E_y
    obtain ⟨_, _, ⟨T26, L26, k26, n26⟩, -, X26, ⟨Lc26, hQ26, l26, y26, z26⟩, st26⟩ := X23.virtualBack hx (y := (⟨"java/lang/String", "charAt", "(I)C"⟩ : MethodName)) (z := (⟨"java/lang/String", "charAt", "(I)C"⟩ : MethodName)) hown (mvT hZ (own_w hw 108 rfl)) (mvT hZ (own_w hw 109 rfl)) (notFace_of_selects (args := #[]) (mvT hZ (own_w hw 111 rfl))) (mvT hZ (own_w hw 111 rfl)) (mvT hZ (own_w hw 110 rfl)) (by decide) (StrChars.Road.chN (W := 1) hZ hwc (kI := 4) (own_w hw 6 rfl) (cs := [d0, d1]) (i := 1) (j := (1 : Int32)) E_y V_y C_y K_y cd6 bd6 (S_C.ext O0.2) hzc (S_F.ext O0.2) hfm (by show 2 ≤ 4000; decide) (by show 1 < 2; decide) rfl (by decide) (by decide)) q26a q26c (g := (mkF m 51 #[.val (.ref x), .val (.ref y)] [(.int (1 : Int32)), (.ref y), (.int c1)])) rfl (by rw [hml]; rfl) (Steps.refl _) (argsL := [(.int (1 : Int32))]) (rest := [(.int c1)]) (lenOf pd_10 rfl) rfl (by show 2 * 0 + _ ≤ _; exact Nat.le_of_eq rfl) (hb hby d11_51) (fun _ _ => ⟨rfl, k24, (by decide : 0 + 0 ≤ _), (by decide : 0 + 0 ≤ _)⟩)
    dsimp only [Pt.U, Pt.locs, Pt.cells, Pt.slots] at X26 l26 y26 z26 st26 hQ26
    subst l26 y26 z26
    obtain ⟨rfl, rfl, k27⟩ := hQ26
    have N28 := Fr.app N25 (Fr.nil n0)
    have S29 : ∀ t, Steps p.tables e below (T26.setTop (mkF m 54 #[.val (.ref x), .val (.ref y)] [(.int d1), (.int c1)])) t → Steps p.tables e below (s₁.setTop (mkF m 0 #[.val (.ref x), .val (.ref y)] [])) t := by
      intro t kt
      refine S18 t ?_
      refine XS.icmpYes X15.here hx rfl (pc0 := 31) (pc' := 36) rfl (hb hby d11_31) rfl (teq (c19 : c0 = d0)).1 (by decide) (by decide) ?_
      refine XS.aloadN X15.here hx rfl (hb hby d11_36) rfl rfl ?_
      show Steps p.tables e below (T15.setTop (mkF m 37 #[.val (.ref x), .val (.ref y)] [(.ref x)])) _
      refine st20.trans ?_
      refine XS.iconst X20.here hx rfl (hb hby d11_40) ?_
      refine XS.icmpNo X20.here hx rfl (hb hby d11_41) rfl (flt ((by decide) : ¬ ((2 : Int32) < (2 : Int32)))).1 ?_
      refine XS.aloadN X20.here hx rfl (hb hby d11_44) rfl rfl ?_
      refine XS.iconst X20.here hx rfl (hb hby d11_45) ?_
      show Steps p.tables e below (T20.setTop (mkF m 46 #[.val (.ref x), .val (.ref y)] [(.int (1 : Int32)), (.ref x)])) _
      refine st23.trans ?_
      refine XS.aloadN X23.here hx rfl (hb hby d11_49) rfl rfl ?_
      refine XS.iconst X23.here hx rfl (hb hby d11_50) ?_
      show Steps p.tables e below (T23.setTop (mkF m 51 #[.val (.ref x), .val (.ref y)] [(.int (1 : Int32)), (.ref y), (.int c1)])) _
      refine st26.trans ?_
      exact kt
    rcases Decidable.em (c1 = d1) with c30 | c30
    · have S31 : ∀ t, Steps p.tables e below (T26.setTop (mkF m 60 #[.val (.ref x), .val (.ref y)] [(.int (1 : Int32))])) t → Steps p.tables e below (s₁.setTop (mkF m 0 #[.val (.ref x), .val (.ref y)] [])) t := by
        intro t kt
        refine S29 t ?_
        refine XS.icmpYes X26.here hx rfl (pc0 := 54) (pc' := 59) rfl (hb hby d11_54) rfl (teq (c30 : c1 = d1)).1 (by decide) (by decide) ?_
        refine XS.iconst X26.here hx rfl (hb hby d11_59) ?_
        exact kt
      obtain ⟨fs, hr, hrun, hended, hW, hsame⟩ := X26.leave (v := some (.int (1 : Int32))) (fun h => by rw [Bd.returns] at h; cases h)
      refine ⟨_, _, pre0 _ (S31 _ ?_), hrun, hended, _, _, rfl, ?_, ⟨_, rfl⟩, hW, hsame.mono (by decide) (by decide)⟩
      · exact retN X26 hx (t := .boolean) Bd.returns (by simp) (hb hby d11_60) hr
      · show Q_rm_same22 Z x tx kx y ty ky c0 c1 d0 d1 zc fm h0 n0 _ T26.heap _
        rw [k27]
        exact ⟨(congrArg (fun z => some (Value.int z)) (if_pos (by rw [(c19 : c0 = d0), (c30 : c1 = d1)])).symm), N28, rfl⟩
    · have S32 : ∀ t, Steps p.tables e below (T26.setTop (mkF m 58 #[.val (.ref x), .val (.ref y)] [(.int (0 : Int32))])) t → Steps p.tables e below (s₁.setTop (mkF m 0 #[.val (.ref x), .val (.ref y)] [])) t := by
        intro t kt
        refine S29 t ?_
        refine XS.icmpNo X26.here hx rfl (hb hby d11_54) rfl (feq (c30 : ¬ (c1 = d1))).1 ?_
        refine XS.iconst X26.here hx rfl (hb hby d11_57) ?_
        exact kt
      obtain ⟨fs, hr, hrun, hended, hW, hsame⟩ := X26.leave (v := some (.int (0 : Int32))) (fun h => by rw [Bd.returns] at h; cases h)
      refine ⟨_, _, pre0 _ (S32 _ ?_), hrun, hended, _, _, rfl, ?_, ⟨_, rfl⟩, hW, hsame.mono (by decide) (by decide)⟩
      · exact retN X26 hx (t := .boolean) Bd.returns (by simp) (hb hby d11_58) hr
      · show Q_rm_same22 Z x tx kx y ty ky c0 c1 d0 d1 zc fm h0 n0 _ T26.heap _
        rw [k27]
        exact ⟨(congrArg (fun z => some (Value.int z)) (if_neg (fun q => (c30 : ¬ (c1 = d1)) (congrArg (fun l => l.getD 1 0) q))).symm), N28, rfl⟩
  · have S33 : ∀ t, Steps p.tables e below (T15.setTop (mkF m 35 #[.val (.ref x), .val (.ref y)] [(.int (0 : Int32))])) t → Steps p.tables e below (s₁.setTop (mkF m 0 #[.val (.ref x), .val (.ref y)] [])) t := by
      intro t kt
      refine S18 t ?_
      refine XS.icmpNo X15.here hx rfl (hb hby d11_31) rfl (feq (c19 : ¬ (c0 = d0))).1 ?_
      refine XS.iconst X15.here hx rfl (hb hby d11_34) ?_
      exact kt
    obtain ⟨fs, hr, hrun, hended, hW, hsame⟩ := X15.leave (v := some (.int (0 : Int32))) (fun h => by rw [Bd.returns] at h; cases h)
    refine ⟨_, _, pre0 _ (S33 _ ?_), hrun, hended, _, _, rfl, ?_, ⟨_, rfl⟩, hW, hsame.mono (by decide) (by decide)⟩
    · exact retN X15 hx (t := .boolean) Bd.returns (by simp) (hb hby d11_35) hr
    · show Q_rm_same22 Z x tx kx y ty ky c0 c1 d0 d1 zc fm h0 n0 _ T15.heap _
      rw [k16]
      exact ⟨(congrArg (fun z => some (Value.int z)) (if_neg (fun q => (c19 : ¬ (c0 = d0)) (congrArg (fun l => l.getD 0 0) q))).symm), N17, rfl⟩
def Q_rm_same (Z : State) (x : Addr) (tx : Addr) (kx : ClassId) (cs : List Int32) (y : Addr) (ty : Addr) (ky : ClassId) (ds : List Int32) (zc : Int32) (fm : Value) (h0 : Heap) (n0 : Nat) (v : Option Value) (h : Heap) (L : List Loc) : Prop := ((v = some (.int (own_eqI cs ds))) ∧ (Fr n0 L) ∧ (h = h0))
set_option maxRecDepth 65536 in
set_option maxHeartbeats 40000000 in
theorem rm_same (l : Launch) (Z : State) (a0 : Array Value) (hw : ∀ d ∈ tables_1, d.before a0 Z = true) (ws : List Jvm.Cond) (x : Addr) (tx : Addr) (kx : ClassId) (cs : List Int32) (y : Addr) (ty : Addr) (ky : ClassId) (ds : List Int32) (zc : Int32) (fm : Value) (h0 : Heap) (n0 : Nat) (O0 : Old Z n0 h0) (E_x : Exa Z h0 x "java/lang/String") (V_x : Fld Z h0 x "java/lang/String" "value" "[B" (.ref tx)) (C_x : Fld Z h0 x "java/lang/String" "coder" "B" (.int (0 : Int32))) (T_x : Exa Z h0 tx "[B") (K_x : Arv Z h0 tx kx .byte (own_len cs) (own_vs cs) (.int (0 : Int32))) (E_y : Exa Z h0 y "java/lang/String") (V_y : Fld Z h0 y "java/lang/String" "value" "[B" (.ref ty)) (C_y : Fld Z h0 y "java/lang/String" "coder" "B" (.int (0 : Int32))) (T_y : Exa Z h0 ty "[B") (K_y : Arv Z h0 ty ky .byte (own_len ds) (own_vs ds) (.int (0 : Int32))) (okx : own_ok cs) (oky : own_ok ds) (S_C : Sta Z Z.heap "java/lang/String" "COMPACT_STRINGS" "Z" (.int zc)) (hzc : ¬ (zc = (0 : Int32))) (S_F : Sta Z Z.heap "jdk/internal/util/Preconditions" "SIOOBE_FORMATTER" "Ljava/util/function/BiFunction;" fm) (hfm : fm.isRef = true) :
    MetFree l (⟨"com/example/typecheck/typecheck/model/QNameEqualsPinLaw", "same", "(Ljava/lang/String;Ljava/lang/String;)Z"⟩ : MethodName) (head1 (Jvm.Cond.code (⟨"com/example/typecheck/typecheck/model/QNameEqualsPinLaw", "same", "(Ljava/lang/String;Ljava/lang/String;)Z"⟩ : MethodName) method_3_code 2 (some .boolean) :: ws) ({ frames := 5, cells := 0, slots := 0, locals := 70 } : Room)) (fun a U => a = #[(.ref x), (.ref y)] ∧ Z.Warmed39 U.vm ∧ U.heap = h0) (fun _ _ _ _ _ => True) (fun _ U o U' => ∃ v L, o = .returned v ∧ Q_rm_same Z x tx kx cs y ty ky ds zc fm h0 n0 v U'.heap L ∧ FrameEnd U o U' L ({ frames := 5, cells := 0, slots := 0, locals := 70 } : Room).cells ({ frames := 5, cells := 0, slots := 0, locals := 70 } : Room).slots) := by
  rcases own_split okx with rfl | ⟨c0, rfl⟩ | ⟨c0, c1, rfl⟩
  · rcases own_split oky with rfl | ⟨d0, rfl⟩ | ⟨d0, d1, rfl⟩
    · exact rm_same00 l Z a0 hw ws x tx kx y ty ky  zc fm h0 n0 O0 E_x V_x C_x K_x E_y V_y C_y K_y  S_C hzc S_F hfm
    · exact rm_same01 l Z a0 hw ws x tx kx y ty ky d0 zc fm h0 n0 O0 E_x V_x C_x K_x E_y V_y C_y K_y (oky.2 d0 (by simp)) S_C hzc S_F hfm
    · exact rm_same02 l Z a0 hw ws x tx kx y ty ky d0 d1 zc fm h0 n0 O0 E_x V_x C_x K_x E_y V_y C_y K_y (oky.2 d0 (by simp)) (oky.2 d1 (by simp)) S_C hzc S_F hfm
  · rcases own_split oky with rfl | ⟨d0, rfl⟩ | ⟨d0, d1, rfl⟩
    · exact rm_same10 l Z a0 hw ws x tx kx y ty ky c0 zc fm h0 n0 O0 E_x V_x C_x K_x E_y V_y C_y K_y (okx.2 c0 (by simp)) S_C hzc S_F hfm
    · exact rm_same11 l Z a0 hw ws x tx kx y ty ky c0 d0 zc fm h0 n0 O0 E_x V_x C_x K_x E_y V_y C_y K_y (okx.2 c0 (by simp)) (oky.2 d0 (by simp)) S_C hzc S_F hfm
    · exact rm_same12 l Z a0 hw ws x tx kx y ty ky c0 d0 d1 zc fm h0 n0 O0 E_x V_x C_x K_x E_y V_y C_y K_y (okx.2 c0 (by simp)) (oky.2 d0 (by simp)) (oky.2 d1 (by simp)) S_C hzc S_F hfm
  · rcases own_split oky with rfl | ⟨d0, rfl⟩ | ⟨d0, d1, rfl⟩
    · exact rm_same20 l Z a0 hw ws x tx kx y ty ky c0 c1 zc fm h0 n0 O0 E_x V_x C_x K_x E_y V_y C_y K_y (okx.2 c0 (by simp)) (okx.2 c1 (by simp)) S_C hzc S_F hfm
    · exact rm_same21 l Z a0 hw ws x tx kx y ty ky c0 c1 d0 zc fm h0 n0 O0 E_x V_x C_x K_x E_y V_y C_y K_y (okx.2 c0 (by simp)) (okx.2 c1 (by simp)) (oky.2 d0 (by simp)) S_C hzc S_F hfm
    · exact rm_same22 l Z a0 hw ws x tx kx y ty ky c0 c1 d0 d1 zc fm h0 n0 O0 E_x V_x C_x K_x E_y V_y C_y K_y (okx.2 c0 (by simp)) (okx.2 c1 (by simp)) (oky.2 d0 (by simp)) (oky.2 d1 (by simp)) S_C hzc S_F hfm
theorem d12_0 : decode prog_176_method_1_code 0 = .ok (.aload_n 0, 1) := by decide +kernel
theorem d12_1 : decode prog_176_method_1_code 1 = .ok (.invokespecial 1, 3) := by decide +kernel
theorem d12_4 : decode prog_176_method_1_code 4 = .ok (.aload_n 0, 1) := by decide +kernel
theorem d12_5 : decode prog_176_method_1_code 5 = .ok (.aload_n 1, 1) := by decide +kernel
theorem d12_6 : decode prog_176_method_1_code 6 = .ok (.putfield 7, 3) := by decide +kernel
theorem d12_9 : decode prog_176_method_1_code 9 = .ok (.aload_n 0, 1) := by decide +kernel
theorem d12_10 : decode prog_176_method_1_code 10 = .ok (.aload_n 2, 1) := by decide +kernel
theorem d12_11 : decode prog_176_method_1_code 11 = .ok (.putfield 13, 3) := by decide +kernel
theorem d12_14 : decode prog_176_method_1_code 14 = .ok (.aload_n 0, 1) := by decide +kernel
theorem d12_15 : decode prog_176_method_1_code 15 = .ok (.aload_n 3, 1) := by decide +kernel
theorem d12_16 : decode prog_176_method_1_code 16 = .ok (.putfield 16, 3) := by decide +kernel
theorem d12_19 : decode prog_176_method_1_code 19 = .ok (.aload_n 0, 1) := by decide +kernel
theorem d12_20 : decode prog_176_method_1_code 20 = .ok (.bipush 31, 2) := by decide +kernel
theorem d12_22 : decode prog_176_method_1_code 22 = .ok (.aload_n 2, 1) := by decide +kernel
theorem d12_23 : decode prog_176_method_1_code 23 = .ok (.invokevirtual 19, 3) := by decide +kernel
theorem d12_26 : decode prog_176_method_1_code 26 = .ok (.imul, 1) := by decide +kernel
theorem d12_27 : decode prog_176_method_1_code 27 = .ok (.aload_n 3, 1) := by decide +kernel
theorem d12_28 : decode prog_176_method_1_code 28 = .ok (.invokevirtual 19, 3) := by decide +kernel
theorem d12_31 : decode prog_176_method_1_code 31 = .ok (.iadd, 1) := by decide +kernel
theorem d12_32 : decode prog_176_method_1_code 32 = .ok (.putfield 25, 3) := by decide +kernel
theorem d12_35 : decode prog_176_method_1_code 35 = .ok (.return_, 1) := by decide +kernel
theorem pn_5 : plainName "com/example/typecheck/typecheck/model/QName" = true := by first | (simp [plainName, overriddenIn]; done) | decide +kernel
theorem ef_rm_qini (m : MethodId) (x0 : Addr) (x1 : Addr) (x2 : Addr) (x3 : Addr) : entryFrame m #[(.ref x0), (.ref x1), (.ref x2), (.ref x3)] 4 = mkF m 0 #[.val (.ref x0), .val (.ref x1), .val (.ref x2), .val (.ref x3)] [] := by first | (simp [entryFrame, mkF, argsToLocals, Value.category]; done) | rfl
def Q_rm_qini (Z : State) (q : Addr) (pf : Addr) (x : Addr) (tx : Addr) (kx : ClassId) (cs : List Int32) (y : Addr) (ty : Addr) (ky : ClassId) (ds : List Int32) (zc : Int32) (h0 : Heap) (n0 : Nat) (v : Option Value) (h : Heap) (L : List Loc) : Prop := ((v = none) ∧ (Fr n0 L) ∧ (Keep h0 h [q, x, y]) ∧ (Exa Z h q "com/example/typecheck/typecheck/model/QName") ∧ (Fld Z h q "com/example/typecheck/typecheck/model/QName" "namespace" "Ljava/lang/String;" (.ref x)) ∧ (Fld Z h q "com/example/typecheck/typecheck/model/QName" "localName" "Ljava/lang/String;" (.ref y)) ∧ (Fld Z h q "com/example/typecheck/typecheck/model/QName" "hash" "I" (.int (((31 : Int32) * (own_H cs)) + (own_H ds)))) ∧ (Exa Z h x "java/lang/String") ∧ (Fld Z h x "java/lang/String" "value" "[B" (.ref tx)) ∧ (Fld Z h x "java/lang/String" "coder" "B" (.int (0 : Int32))) ∧ (Exa Z h y "java/lang/String") ∧ (Fld Z h y "java/lang/String" "value" "[B" (.ref ty)) ∧ (Fld Z h y "java/lang/String" "coder" "B" (.int (0 : Int32))))
set_option maxRecDepth 65536 in
set_option maxHeartbeats 40000000 in
theorem rm_qini (l : Launch) (Z : State) (a0 : Array Value) (hw : ∀ d ∈ tables_1, d.before a0 Z = true) (ws : List Jvm.Cond) (q : Addr) (pf : Addr) (x : Addr) (tx : Addr) (kx : ClassId) (cs : List Int32) (y : Addr) (ty : Addr) (ky : ClassId) (ds : List Int32) (zc : Int32) (h0 : Heap) (n0 : Nat) (O0 : Old Z n0 h0) (E_q : Exa Z h0 q "com/example/typecheck/typecheck/model/QName") (g_q : n0 ≤ q) (F_prefix : Fld Z h0 q "com/example/typecheck/typecheck/model/QName" "prefix" "Ljava/lang/String;" .null) (F_namespace : Fld Z h0 q "com/example/typecheck/typecheck/model/QName" "namespace" "Ljava/lang/String;" .null) (F_localName : Fld Z h0 q "com/example/typecheck/typecheck/model/QName" "localName" "Ljava/lang/String;" .null) (F_hash : Fld Z h0 q "com/example/typecheck/typecheck/model/QName" "hash" "I" (.int (0 : Int32))) (E_x : Exa Z h0 x "java/lang/String") (V_x : Fld Z h0 x "java/lang/String" "value" "[B" (.ref tx)) (C_x : Fld Z h0 x "java/lang/String" "coder" "B" (.int (0 : Int32))) (T_x : Exa Z h0 tx "[B") (K_x : Arv Z h0 tx kx .byte (own_len cs) (own_vs cs) (.int (0 : Int32))) (H_x : Fld Z h0 x "java/lang/String" "hash" "I" (.int (0 : Int32))) (Z_x : Fld Z h0 x "java/lang/String" "hashIsZero" "Z" (.int (0 : Int32))) (g_x : n0 ≤ x) (E_y : Exa Z h0 y "java/lang/String") (V_y : Fld Z h0 y "java/lang/String" "value" "[B" (.ref ty)) (C_y : Fld Z h0 y "java/lang/String" "coder" "B" (.int (0 : Int32))) (T_y : Exa Z h0 ty "[B") (K_y : Arv Z h0 ty ky .byte (own_len ds) (own_vs ds) (.int (0 : Int32))) (H_y : Fld Z h0 y "java/lang/String" "hash" "I" (.int (0 : Int32))) (Z_y : Fld Z h0 y "java/lang/String" "hashIsZero" "Z" (.int (0 : Int32))) (g_y : n0 ≤ y) (ne_xy : x ≠ y) (okx : own_ok cs) (oky : own_ok ds) (S_C : Sta Z Z.heap "java/lang/String" "COMPACT_STRINGS" "Z" (.int zc)) (hzc : ¬ (zc = (0 : Int32))) :
    MetFree l (⟨"com/example/typecheck/typecheck/model/QName", "<init>", "(Ljava/lang/String;Ljava/lang/String;Ljava/lang/String;)V"⟩ : MethodName) (head1 (Jvm.Cond.code (⟨"com/example/typecheck/typecheck/model/QName", "<init>", "(Ljava/lang/String;Ljava/lang/String;Ljava/lang/String;)V"⟩ : MethodName) prog_176_method_1_code 4 none :: ws) ({ frames := 4, cells := 0, slots := 0, locals := 60 } : Room)) (fun a U => a = #[(.ref q), (.ref pf), (.ref x), (.ref y)] ∧ Z.Warmed39 U.vm ∧ U.heap = h0) (fun _ _ _ _ _ => True) (fun _ U o U' => ∃ v L, o = .returned v ∧ Q_rm_qini Z q pf x tx kx cs y ty ky ds zc h0 n0 v U'.heap L ∧ FrameEnd U o U' L ({ frames := 4, cells := 0, slots := 0, locals := 60 } : Room).cells ({ frames := 4, cells := 0, slots := 0, locals := 60 } : Room).slots) := by
  refine MetFree.of_bodySF (plainFor_of_name pn_5) hisR ?_
  intro p e s m args below meth c s₁ Bd hml0 hP hK
  obtain ⟨rfl, hZ, hh⟩ := hP
  have hx := Bd.exec
  have hby := Bd.bytes
  have hml : c.maxLocals = 4 := hml0
  have hown : s.vm.findClass "com/example/typecheck/typecheck/model/QName" = some m.cls := findClass_of_methodNamed Bd.named
  have hnm := (name_of_methodNamed Bd.named Bd.method).1
  have X0 : Stand p l e ({ frames := 4, cells := 0, slots := 0, locals := 60 } : Room) s m #[(.ref q), (.ref pf), (.ref x), (.ref y)] below meth c s₁ [] 0 0 := Stand.of_body Bd
  have e0 : s₁.heap = h0 := by rw [← hh, Bd.state]; rfl
  have N0 := Fr.nil n0
  have hwl : ∀ d ∈ StrChars.Road.wordsLen, d.before a0 Z = true := fun d hd => hw d (own_wordsLen d hd)
  have hwc : ∀ d ∈ StrChars.Road.wordsChN, d.before a0 Z = true := fun d hd => hw d (own_wordsChN d hd)
  have hwq : ∀ d ∈ StrChars.Road.wordsEq, d.before a0 Z = true := fun d hd => hw d (own_wordsEq d hd)
  have K0 : Keep h0 h0 [q, x, y] := Keep.refl _ _
  have pre0 : ∀ t, Steps p.tables e below (s₁.setTop (mkF m 0 #[.val (.ref q), .val (.ref pf), .val (.ref x), .val (.ref y)] [])) t → Steps p.tables e below (s₁.setTop (entryFrame m #[(.ref q), (.ref pf), (.ref x), (.ref y)] 4)) t := fun t k => castTop (ef_rm_qini m q pf x y) k
  obtain ⟨T1, X1, e1, st1⟩ := initO X0 hx hZ hown (own_w hw 32 rfl) (own_w hw 16 rfl) (own_w hw 17 rfl) e0 (g := (mkF m 1 #[.val (.ref q), .val (.ref pf), .val (.ref x), .val (.ref y)] [(.ref q)])) rfl (by rw [hml]; rfl) rfl (hb hby d12_1) (by decide) (W := 0) (by show 2 * 0 + _ ≤ _; exact Nat.le_of_eq rfl) (by decide)
  obtain ⟨T2, h2, X2, e2, W2, st2⟩ := putF X1 hx hZ hown (host := "") (Or.inl (own_w hw 33 rfl)) Via.refl e1 F_prefix E_q (Or.inr ⟨(own_w hw 34 rfl), rfl, hnm⟩) (own_w hw 27 rfl) (ty := (.object "java/lang/String")) (by decide) rfl rfl (g := (mkF m 6 #[.val (.ref q), .val (.ref pf), .val (.ref x), .val (.ref y)] [(.ref pf), (.ref q)])) rfl rfl (hb hby d12_6)
  have O3 := O0.wr W2 g_q
  have K4 : Keep h0 h2 [q, x, y] := K0.wr W2 (Or.inl (List.mem_of_getElem? (i := 0) rfl))
  have N5 := Fr.snoc X2 N0 g_q
  have F2 : Fld Z h2 q "com/example/typecheck/typecheck/model/QName" "prefix" "Ljava/lang/String;" (.ref pf) := Fld.same W2 F_prefix
  have f6 := (Fld.other W2 F_namespace (Or.inr (slot_ne (Or.inr (own_w hw 36 rfl)) (Or.inr (own_w hw 34 rfl)) (by decide) (t := (.object "java/lang/String")) (t' := (.object "java/lang/String")) (by decide) (by decide))))
  have f7 := (Exa.wr W2 E_q)
  obtain ⟨T8, h8, X8, e8, W8, st8⟩ := putF X2 hx hZ hown (host := "") (Or.inl (own_w hw 35 rfl)) Via.refl e2 f6 f7 (Or.inr ⟨(own_w hw 36 rfl), rfl, hnm⟩) (own_w hw 27 rfl) (ty := (.object "java/lang/String")) (by decide) rfl rfl (g := (mkF m 11 #[.val (.ref q), .val (.ref pf), .val (.ref x), .val (.ref y)] [(.ref x), (.ref q)])) rfl rfl (hb hby d12_11)
  have O9 := O3.wr W8 g_q
  have K10 : Keep h0 h8 [q, x, y] := K4.wr W8 (Or.inl (List.mem_of_getElem? (i := 0) rfl))
  have N11 := Fr.snoc X8 N5 g_q
  have F8 : Fld Z h8 q "com/example/typecheck/typecheck/model/QName" "namespace" "Ljava/lang/String;" (.ref x) := Fld.same W8 f6
  have f12 := (Fld.other W8 (Fld.other W2 F_localName (Or.inr (slot_ne (Or.inr (own_w hw 38 rfl)) (Or.inr (own_w hw 34 rfl)) (by decide) (t := (.object "java/lang/String")) (t' := (.object "java/lang/String")) (by decide) (by decide)))) (Or.inr (slot_ne (Or.inr (own_w hw 38 rfl)) (Or.inr (own_w hw 36 rfl)) (by decide) (t := (.object "java/lang/String")) (t' := (.object "java/lang/String")) (by decide) (by decide))))
  have f13 := (Exa.wr W8 f7)
  obtain ⟨T14, h14, X14, e14, W14, st14⟩ := putF X8 hx hZ hown (host := "") (Or.inl (own_w hw 37 rfl)) Via.refl e8 f12 f13 (Or.inr ⟨(own_w hw 38 rfl), rfl, hnm⟩) (own_w hw 27 rfl) (ty := (.object "java/lang/String")) (by decide) rfl rfl (g := (mkF m 16 #[.val (.ref q), .val (.ref pf), .val (.ref x), .val (.ref y)] [(.ref y), (.ref q)])) rfl rfl (hb hby d12_16)
  have O15 := O9.wr W14 g_q
  have K16 : Keep h0 h14 [q, x, y] := K10.wr W14 (Or.inl (List.mem_of_getElem? (i := 0) rfl))
  have N17 := Fr.snoc X14 N11 g_q
  have F14 : Fld Z h14 q "com/example/typecheck/typecheck/model/QName" "localName" "Ljava/lang/String;" (.ref y) := Fld.same W14 f12
  have f19 := (Exa.wr W14 (Exa.wr W8 (Exa.wr W2 E_x)))
  have f20 := (Exa.wr W14 f13)
  have f21 := (Fld.other W14 (Fld.other W8 (Fld.other W2 V_x (Or.inl (own_exane f19 f20 (by decide)))) (Or.inl (own_exane f19 f20 (by decide)))) (Or.inl (own_exane f19 f20 (by decide))))
  have f22 := (Fld.other W14 (Fld.other W8 (Fld.other W2 C_x (Or.inl (own_exane f19 f20 (by decide)))) (Or.inl (own_exane f19 f20 (by decide)))) (Or.inl (own_exane f19 f20 (by decide))))
  have f23 := (Exa.wr W14 (Exa.wr W8 (Exa.wr W2 T_x)))
  have f24 := (Arv.other (Arv.other (Arv.other K_x W2 (own_exane f23 f20 (by decide))) W8 (own_exane f23 f20 (by decide))) W14 (own_exane f23 f20 (by decide)))
  have f25 := (Fld.other W14 (Fld.other W8 (Fld.other W2 H_x (Or.inl (own_exane f19 f20 (by decide)))) (Or.inl (own_exane f19 f20 (by decide)))) (Or.inl (own_exane f19 f20 (by decide))))
  have f26 := (Fld.other W14 (Fld.other W8 (Fld.other W2 Z_x (Or.inl (own_exane f19 f20 (by decide)))) (Or.inl (own_exane f19 f20 (by decide)))) (Or.inl (own_exane f19 f20 (by decide))))
  obtain ⟨cq18, kq18, q18a, q18b, q18c⟩ := isOf hZ e14 f19
  obtain ⟨_, _, ⟨T18, L18, k18, n18⟩, -, X18, ⟨Lc18, hQ18, l18, y18, z18⟩, st18⟩ := X14.virtualBack hx (y := (⟨"java/lang/String", "hashCode", "()I"⟩ : MethodName)) (z := (⟨"java/lang/String", "hashCode", "()I"⟩ : MethodName)) hown (mvT hZ (own_w hw 39 rfl)) (mvT hZ (own_w hw 40 rfl)) (notFace_of_selects (args := #[]) (mvT hZ (own_w hw 42 rfl))) (mvT hZ (own_w hw 42 rfl)) (mvT hZ (own_w hw 41 rfl)) (by decide) (backOf (W := 2) (rm_hash l Z a0 hw [] x tx kx cs zc h14 n0 O15 f19 f21 f22 f23 f24 f25 f26 g_x okx S_C hzc) hZ (own_w hw 43 rfl) (own_w hw 7 rfl) (by decide) (by decide)) q18a q18c (g := (mkF m 23 #[.val (.ref q), .val (.ref pf), .val (.ref x), .val (.ref y)] [(.ref x), (.int (31 : Int32)), (.ref q)])) rfl (by rw [hml]; rfl) (Steps.refl _) (argsL := []) (rest := [(.int (31 : Int32)), (.ref q)]) (lenOf pd_9 rfl) rfl (by show 2 * 0 + _ ≤ _; exact Nat.le_of_eq rfl) (hb hby d12_23) (fun _ _ => ⟨rfl, e14, (by decide : 0 + 0 ≤ _), (by decide : 0 + 0 ≤ _)⟩)
  dsimp only [Pt.U, Pt.locs, Pt.cells, Pt.slots] at X18 l18 y18 z18 st18 hQ18
  subst l18 y18 z18
  obtain ⟨rfl, N27, k28, f29, f30, f31⟩ := hQ18
  have N32 := Fr.app N17 N27
  have O33 := O15.keep k28 (allS g_x all0)
  have K34 : Keep h0 T18.heap [q, x, y] := K16.trans k28 (allS (Or.inl (List.mem_of_getElem? (i := 1) rfl)) all0)
  have f36 := (Exa.keep (Exa.wr W14 (Exa.wr W8 (Exa.wr W2 E_y))) k28)
  have f37 := (Exa.keep f20 k28)
  have f38 := (Fld.keep (Fld.other W14 (Fld.other W8 (Fld.other W2 V_y (Or.inl (own_exane f36 f37 (by decide)))) (Or.inl (own_exane f36 f37 (by decide)))) (Or.inl (own_exane f36 f37 (by decide)))) k28 (ninS (Ne.symm ne_xy) nin0))
  have f39 := (Fld.keep (Fld.other W14 (Fld.other W8 (Fld.other W2 C_y (Or.inl (own_exane f36 f37 (by decide)))) (Or.inl (own_exane f36 f37 (by decide)))) (Or.inl (own_exane f36 f37 (by decide)))) k28 (ninS (Ne.symm ne_xy) nin0))
  have f40 := (Exa.keep (Exa.wr W14 (Exa.wr W8 (Exa.wr W2 T_y))) k28)
  have f41 := (Arv.keep (Arv.other (Arv.other (Arv.other K_y W2 (own_exane f40 f37 (by decide))) W8 (own_exane f40 f37 (by decide))) W14 (own_exane f40 f37 (by decide))) k28 (ninS (own_exane f40 f29 (by decide)) nin0))
  have f42 := (Fld.keep (Fld.other W14 (Fld.other W8 (Fld.other W2 H_y (Or.inl (own_exane f36 f37 (by decide)))) (Or.inl (own_exane f36 f37 (by decide)))) (Or.inl (own_exane f36 f37 (by decide)))) k28 (ninS (Ne.symm ne_xy) nin0))
  have f43 := (Fld.keep (Fld.other W14 (Fld.other W8 (Fld.other W2 Z_y (Or.inl (own_exane f36 f37 (by decide)))) (Or.inl (own_exane f36 f37 (by decide)))) (Or.inl (own_exane f36 f37 (by decide)))) k28 (ninS (Ne.symm ne_xy) nin0))
  obtain ⟨cq35, kq35, q35a, q35b, q35c⟩ := isOf hZ rfl f36
  obtain ⟨_, _, ⟨T35, L35, k35, n35⟩, -, X35, ⟨Lc35, hQ35, l35, y35, z35⟩, st35⟩ := X18.virtualBack hx (y := (⟨"java/lang/String", "hashCode", "()I"⟩ : MethodName)) (z := (⟨"java/lang/String", "hashCode", "()I"⟩ : MethodName)) hown (mvT hZ (own_w hw 39 rfl)) (mvT hZ (own_w hw 40 rfl)) (notFace_of_selects (args := #[]) (mvT hZ (own_w hw 42 rfl))) (mvT hZ (own_w hw 42 rfl)) (mvT hZ (own_w hw 41 rfl)) (by decide) (backOf (W := 2) (rm_hash l Z a0 hw [] y ty ky ds zc T18.heap n0 O33 f36 f38 f39 f40 f41 f42 f43 g_y oky S_C hzc) hZ (own_w hw 43 rfl) (own_w hw 7 rfl) (by decide) (by decide)) q35a q35c (g := (mkF m 28 #[.val (.ref q), .val (.ref pf), .val (.ref x), .val (.ref y)] [(.ref y), (.int ((31 : Int32) * (own_H cs))), (.ref q)])) rfl (by rw [hml]; rfl) (Steps.refl _) (argsL := []) (rest := [(.int ((31 : Int32) * (own_H cs))), (.ref q)]) (lenOf pd_9 rfl) rfl (by show 2 * 0 + _ ≤ _; exact Nat.le_of_eq rfl) (hb hby d12_28) (fun _ _ => ⟨rfl, rfl, (by decide : 0 + 0 ≤ _), (by decide : 0 + 0 ≤ _)⟩)
  dsimp only [Pt.U, Pt.locs, Pt.cells, Pt.slots] at X35 l35 y35 z35 st35 hQ35
  subst l35 y35 z35
  obtain ⟨rfl, N44, k45, f46, f47, f48⟩ := hQ35
  have N49 := Fr.app N32 N44
  have O50 := O33.keep k45 (allS g_y all0)
  have K51 : Keep h0 T35.heap [q, x, y] := K34.trans k45 (allS (Or.inl (List.mem_of_getElem? (i := 2) rfl)) all0)
  have f52 := (Exa.keep f37 k45)
  have f53 := (Exa.keep f29 k45)
  have f54 := (Fld.keep (Fld.keep (Fld.other W14 (Fld.other W8 (Fld.other W2 F_hash (Or.inr (slot_ne (Or.inr (own_w hw 59 rfl)) (Or.inr (own_w hw 34 rfl)) (by decide) (t := .int) (t' := (.object "java/lang/String")) (by decide) (by decide)))) (Or.inr (slot_ne (Or.inr (own_w hw 59 rfl)) (Or.inr (own_w hw 36 rfl)) (by decide) (t := .int) (t' := (.object "java/lang/String")) (by decide) (by decide)))) (Or.inr (slot_ne (Or.inr (own_w hw 59 rfl)) (Or.inr (own_w hw 38 rfl)) (by decide) (t := .int) (t' := (.object "java/lang/String")) (by decide) (by decide)))) k28 (ninS (own_exane f52 f53 (by decide)) nin0)) k45 (ninS (own_exane f52 f46 (by decide)) nin0))
  obtain ⟨T55, h55, X55, e55, W55, st55⟩ := putF X35 hx hZ hown (host := "") (Or.inl (own_w hw 58 rfl)) Via.refl rfl f54 f52 (Or.inr ⟨(own_w hw 59 rfl), rfl, hnm⟩) (own_w hw 27 rfl) (ty := .int) (by decide) rfl rfl (g := (mkF m 32 #[.val (.ref q), .val (.ref pf), .val (.ref x), .val (.ref y)] [(.int (((31 : Int32) * (own_H cs)) + (own_H ds))), (.ref q)])) rfl rfl (hb hby d12_32)
  have O56 := O50.wr W55 g_q
  have K57 : Keep h0 h55 [q, x, y] := K51.wr W55 (Or.inl (List.mem_of_getElem? (i := 0) rfl))
  have N58 := Fr.snoc X55 N49 g_q
  have F55 : Fld Z h55 q "com/example/typecheck/typecheck/model/QName" "hash" "I" (.int (((31 : Int32) * (own_H cs)) + (own_H ds))) := Fld.same W55 f54
  have S59 : ∀ t, Steps p.tables e below (T55.setTop (mkF m 35 #[.val (.ref q), .val (.ref pf), .val (.ref x), .val (.ref y)] [])) t → Steps p.tables e below (s₁.setTop (mkF m 0 #[.val (.ref q), .val (.ref pf), .val (.ref x), .val (.ref y)] [])) t := by
    intro t kt
    refine XS.aloadN X0.here hx rfl (hb hby d12_0) rfl rfl ?_
    show Steps p.tables e below (s₁.setTop (mkF m 1 #[.val (.ref q), .val (.ref pf), .val (.ref x), .val (.ref y)] [(.ref q)])) _
    refine st1 _ ?_
    refine XS.aloadN X1.here hx rfl (hb hby d12_4) rfl rfl ?_
    refine XS.aloadN X1.here hx rfl (hb hby d12_5) rfl rfl ?_
    show Steps p.tables e below (T1.setTop (mkF m 6 #[.val (.ref q), .val (.ref pf), .val (.ref x), .val (.ref y)] [(.ref pf), (.ref q)])) _
    refine st2 _ ?_
    refine XS.aloadN X2.here hx rfl (hb hby d12_9) rfl rfl ?_
    refine XS.aloadN X2.here hx rfl (hb hby d12_10) rfl rfl ?_
    show Steps p.tables e below (T2.setTop (mkF m 11 #[.val (.ref q), .val (.ref pf), .val (.ref x), .val (.ref y)] [(.ref x), (.ref q)])) _
    refine st8 _ ?_
    refine XS.aloadN X8.here hx rfl (hb hby d12_14) rfl rfl ?_
    refine XS.aloadN X8.here hx rfl (hb hby d12_15) rfl rfl ?_
    show Steps p.tables e below (T8.setTop (mkF m 16 #[.val (.ref q), .val (.ref pf), .val (.ref x), .val (.ref y)] [(.ref y), (.ref q)])) _
    refine st14 _ ?_
    refine XS.aloadN X14.here hx rfl (hb hby d12_19) rfl rfl ?_
    refine XS.bipush X14.here hx rfl (hb hby d12_20) ?_
    refine XS.aloadN X14.here hx rfl (hb hby d12_22) rfl rfl ?_
    show Steps p.tables e below (T14.setTop (mkF m 23 #[.val (.ref q), .val (.ref pf), .val (.ref x), .val (.ref y)] [(.ref x), (.int (31 : Int32)), (.ref q)])) _
    refine st18.trans ?_
    refine XS.imul X18.here hx rfl (hb hby d12_26) rfl ?_
    refine XS.aloadN X18.here hx rfl (hb hby d12_27) rfl rfl ?_
    show Steps p.tables e below (T18.setTop (mkF m 28 #[.val (.ref q), .val (.ref pf), .val (.ref x), .val (.ref y)] [(.ref y), (.int ((31 : Int32) * (own_H cs))), (.ref q)])) _
    refine st35.trans ?_
    refine XS.iadd X35.here hx rfl (hb hby d12_31) rfl ?_
    show Steps p.tables e below (T35.setTop (mkF m 32 #[.val (.ref q), .val (.ref pf), .val (.ref x), .val (.ref y)] [(.int (((31 : Int32) * (own_H cs)) + (own_H ds))), (.ref q)])) _
    refine st55 _ ?_
    exact kt
  obtain ⟨fs, hr, hrun, hended, hW, hsame⟩ := X55.leave (v := none) (fun _ => rfl)
  have f60 := (Exa.wr W55 f52)
  have f61 := (Exa.wr W55 f53)
  have f62 := (Exa.wr W55 f46)
  have f63 := (Fld.other W55 (Fld.keep (Fld.keep (Fld.other W14 F8 (Or.inr (slot_ne (Or.inr (own_w hw 36 rfl)) (Or.inr (own_w hw 38 rfl)) (by decide) (t := (.object "java/lang/String")) (t' := (.object "java/lang/String")) (by decide) (by decide)))) k28 (ninS (own_exane f60 f61 (by decide)) nin0)) k45 (ninS (own_exane f60 f62 (by decide)) nin0)) (Or.inr (slot_ne (Or.inr (own_w hw 36 rfl)) (Or.inr (own_w hw 59 rfl)) (by decide) (t := (.object "java/lang/String")) (t' := .int) (by decide) (by decide))))
  have f64 := (Fld.other W55 (Fld.keep (Fld.keep F14 k28 (ninS (own_exane f60 f61 (by decide)) nin0)) k45 (ninS (own_exane f60 f62 (by decide)) nin0)) (Or.inr (slot_ne (Or.inr (own_w hw 38 rfl)) (Or.inr (own_w hw 59 rfl)) (by decide) (t := (.object "java/lang/String")) (t' := .int) (by decide) (by decide))))
  have f65 := (Fld.other W55 (Fld.keep f30 k45 (ninS ne_xy nin0)) (Or.inl (own_exane f61 f60 (by decide))))
  have f66 := (Fld.other W55 (Fld.keep f31 k45 (ninS ne_xy nin0)) (Or.inl (own_exane f61 f60 (by decide))))
  have f67 := (Fld.other W55 f47 (Or.inl (own_exane f62 f60 (by decide))))
  have f68 := (Fld.other W55 f48 (Or.inl (own_exane f62 f60 (by decide))))
  refine ⟨_, _, pre0 _ (S59 _ ?_), hrun, hended, _, _, rfl, ?_, ⟨_, rfl⟩, hW, hsame.mono (by decide) (by decide)⟩
  · exact X55.returnOut hx Bd.returns (hb hby d12_35) hr
  · show Q_rm_qini Z q pf x tx kx cs y ty ky ds zc h0 n0 _ T55.heap _
    rw [e55]
    exact ⟨rfl, N58, K57, f60, f63, f64, F55, f61, f65, f66, f62, f67, f68⟩
theorem d13_0 : decode prog_176_method_10_code 0 = .ok (.aload_n 1, 1) := by decide +kernel
theorem d13_1 : decode prog_176_method_10_code 1 = .ok (.aload_n 0, 1) := by decide +kernel
theorem d13_2 : decode prog_176_method_10_code 2 = .ok (.if_acmp .eq 54, 3) := by decide +kernel
theorem d13_56 : decode prog_176_method_10_code 56 = .ok (.iconst 1, 1) := by decide +kernel
theorem d13_57 : decode prog_176_method_10_code 57 = .ok (.goto 4, 3) := by decide +kernel
theorem d13_61 : decode prog_176_method_10_code 61 = .ok (.ireturn, 1) := by decide +kernel
theorem ef_rm_qeqs (m : MethodId) (x0 : Addr) (x1 : Addr) : entryFrame m #[(.ref x0), (.ref x1)] 3 = mkF m 0 #[.val (.ref x0), .val (.ref x1), .unset] [] := by first | (simp [entryFrame, mkF, argsToLocals, Value.category]; done) | rfl
def Q_rm_qeqs (Z : State) (q : Addr) (h0 : Heap) (n0 : Nat) (v : Option Value) (h : Heap) (L : List Loc) : Prop := ((v = some (.int (1 : Int32))) ∧ (Fr n0 L) ∧ (h = h0))
set_option maxRecDepth 65536 in
set_option maxHeartbeats 40000000 in
theorem rm_qeqs (l : Launch) (Z : State) (a0 : Array Value) (hw : ∀ d ∈ tables_1, d.before a0 Z = true) (ws : List Jvm.Cond) (q : Addr) (h0 : Heap) (n0 : Nat) (O0 : Old Z n0 h0) :
    MetFree l (⟨"com/example/typecheck/typecheck/model/QName", "equals", "(Ljava/lang/Object;)Z"⟩ : MethodName) (head1 (Jvm.Cond.code (⟨"com/example/typecheck/typecheck/model/QName", "equals", "(Ljava/lang/Object;)Z"⟩ : MethodName) prog_176_method_10_code 3 (some .boolean) :: ws) ({ frames := 0, cells := 0, slots := 0, locals := 0 } : Room)) (fun a U => a = #[(.ref q), (.ref q)] ∧ Z.Warmed39 U.vm ∧ U.heap = h0) (fun _ _ _ _ _ => True) (fun _ U o U' => ∃ v L, o = .returned v ∧ Q_rm_qeqs Z q h0 n0 v U'.heap L ∧ FrameEnd U o U' L ({ frames := 0, cells := 0, slots := 0, locals := 0 } : Room).cells ({ frames := 0, cells := 0, slots := 0, locals := 0 } : Room).slots) := by
  refine MetFree.of_bodySF (plainFor_of_name pn_5) hisR ?_
  intro p e s m args below meth c s₁ Bd hml0 hP hK
  obtain ⟨rfl, hZ, hh⟩ := hP
  have hx := Bd.exec
  have hby := Bd.bytes
  have hml : c.maxLocals = 3 := hml0
  have hown : s.vm.findClass "com/example/typecheck/typecheck/model/QName" = some m.cls := findClass_of_methodNamed Bd.named
  have hnm := (name_of_methodNamed Bd.named Bd.method).1
  have X0 : Stand p l e ({ frames := 0, cells := 0, slots := 0, locals := 0 } : Room) s m #[(.ref q), (.ref q)] below meth c s₁ [] 0 0 := Stand.of_body Bd
  have e0 : s₁.heap = h0 := by rw [← hh, Bd.state]; rfl
  have N0 := Fr.nil n0
  have hwl : ∀ d ∈ StrChars.Road.wordsLen, d.before a0 Z = true := fun d hd => hw d (own_wordsLen d hd)
  have hwc : ∀ d ∈ StrChars.Road.wordsChN, d.before a0 Z = true := fun d hd => hw d (own_wordsChN d hd)
  have hwq : ∀ d ∈ StrChars.Road.wordsEq, d.before a0 Z = true := fun d hd => hw d (own_wordsEq d hd)
  have pre0 : ∀ t, Steps p.tables e below (s₁.setTop (mkF m 0 #[.val (.ref q), .val (.ref q), .unset] [])) t → Steps p.tables e below (s₁.setTop (entryFrame m #[(.ref q), (.ref q)] 3)) t := fun t k => castTop (ef_rm_qeqs m q q) k
  have S1 : ∀ t, Steps p.tables e below (s₁.setTop (mkF m 61 #[.val (.ref q), .val (.ref q), .unset] [(.int (1 : Int32))])) t → Steps p.tables e below (s₁.setTop (mkF m 0 #[.val (.ref q), .val (.ref q), .unset] [])) t := by
    intro t kt
    refine XS.aloadN X0.here hx rfl (hb hby d13_0) rfl rfl ?_
    refine XS.aloadN X0.here hx rfl (hb hby d13_1) rfl rfl ?_
    show Steps p.tables e below (s₁.setTop (mkF m 2 #[.val (.ref q), .val (.ref q), .unset] [(.ref q), (.ref q)])) _
    refine Jvm.RoadKit.acmp (g := (mkF m 2 #[.val (.ref q), .val (.ref q), .unset] [(.ref q), (.ref q)])) X0 hx rfl rfl rfl (pc0 := 2) (pc' := 56) (same := true) rfl (hb hby d13_2) rfl (decide_eq_true rfl) (by decide) (by decide) ?_
    refine XS.iconst X0.here hx rfl (hb hby d13_56) ?_
    refine XS.goto X0.here hx rfl (pc0 := 57) (pc' := 61) rfl (hb hby d13_57) (by decide) (by decide) ?_
    exact kt
  obtain ⟨fs, hr, hrun, hended, hW, hsame⟩ := X0.leave (v := some (.int (1 : Int32))) (fun h => by rw [Bd.returns] at h; cases h)
  refine ⟨_, _, pre0 _ (S1 _ ?_), hrun, hended, _, _, rfl, ?_, ⟨_, rfl⟩, hW, hsame.mono (by decide) (by decide)⟩
  · exact retN X0 hx (t := .boolean) Bd.returns (by simp) (hb hby d13_61) hr
  · show Q_rm_qeqs Z q h0 n0 _ s₁.heap _
    rw [e0]
    exact ⟨rfl, N0, rfl⟩
theorem d13_5 : decode prog_176_method_10_code 5 = .ok (.aload_n 1, 1) := by decide +kernel
theorem d13_6 : decode prog_176_method_10_code 6 = .ok (.instanceof 8, 3) := by decide +kernel
theorem d13_9 : decode prog_176_method_10_code 9 = .ok (.ifCond .eq 51, 3) := by decide +kernel
theorem d13_60 : decode prog_176_method_10_code 60 = .ok (.iconst 0, 1) := by decide +kernel
theorem ef_rm_qeqn (m : MethodId) (x0 : Addr) : entryFrame m #[(.ref x0), .null] 3 = mkF m 0 #[.val (.ref x0), .val .null, .unset] [] := by first | (simp [entryFrame, mkF, argsToLocals, Value.category]; done) | rfl
def Q_rm_qeqn (Z : State) (q : Addr) (h0 : Heap) (n0 : Nat) (v : Option Value) (h : Heap) (L : List Loc) : Prop := ((v = some (.int (0 : Int32))) ∧ (Fr n0 L) ∧ (h = h0))
set_option maxRecDepth 65536 in
set_option maxHeartbeats 40000000 in
theorem rm_qeqn (l : Launch) (Z : State) (a0 : Array Value) (hw : ∀ d ∈ tables_1, d.before a0 Z = true) (ws : List Jvm.Cond) (q : Addr) (h0 : Heap) (n0 : Nat) (O0 : Old Z n0 h0) :
    MetFree l (⟨"com/example/typecheck/typecheck/model/QName", "equals", "(Ljava/lang/Object;)Z"⟩ : MethodName) (head1 (Jvm.Cond.code (⟨"com/example/typecheck/typecheck/model/QName", "equals", "(Ljava/lang/Object;)Z"⟩ : MethodName) prog_176_method_10_code 3 (some .boolean) :: ws) ({ frames := 0, cells := 0, slots := 0, locals := 0 } : Room)) (fun a U => a = #[(.ref q), .null] ∧ Z.Warmed39 U.vm ∧ U.heap = h0) (fun _ _ _ _ _ => True) (fun _ U o U' => ∃ v L, o = .returned v ∧ Q_rm_qeqn Z q h0 n0 v U'.heap L ∧ FrameEnd U o U' L ({ frames := 0, cells := 0, slots := 0, locals := 0 } : Room).cells ({ frames := 0, cells := 0, slots := 0, locals := 0 } : Room).slots) := by
  refine MetFree.of_bodySF (plainFor_of_name pn_5) hisR ?_
  intro p e s m args below meth c s₁ Bd hml0 hP hK
  obtain ⟨rfl, hZ, hh⟩ := hP
  have hx := Bd.exec
  have hby := Bd.bytes
  have hml : c.maxLocals = 3 := hml0
  have hown : s.vm.findClass "com/example/typecheck/typecheck/model/QName" = some m.cls := findClass_of_methodNamed Bd.named
  have hnm := (name_of_methodNamed Bd.named Bd.method).1
  have X0 : Stand p l e ({ frames := 0, cells := 0, slots := 0, locals := 0 } : Room) s m #[(.ref q), .null] below meth c s₁ [] 0 0 := Stand.of_body Bd
  have e0 : s₁.heap = h0 := by rw [← hh, Bd.state]; rfl
  have N0 := Fr.nil n0
  have hwl : ∀ d ∈ StrChars.Road.wordsLen, d.before a0 Z = true := fun d hd => hw d (own_wordsLen d hd)
  have hwc : ∀ d ∈ StrChars.Road.wordsChN, d.before a0 Z = true := fun d hd => hw d (own_wordsChN d hd)
  have hwq : ∀ d ∈ StrChars.Road.wordsEq, d.before a0 Z = true := fun d hd => hw d (own_wordsEq d hd)
  have pre0 : ∀ t, Steps p.tables e below (s₁.setTop (mkF m 0 #[.val (.ref q), .val .null, .unset] [])) t → Steps p.tables e below (s₁.setTop (entryFrame m #[(.ref q), .null] 3)) t := fun t k => castTop (ef_rm_qeqn m q) k
  have S1 : ∀ t, Steps p.tables e below (s₁.setTop (mkF m 61 #[.val (.ref q), .val .null, .unset] [(.int (0 : Int32))])) t → Steps p.tables e below (s₁.setTop (mkF m 0 #[.val (.ref q), .val .null, .unset] [])) t := by
    intro t kt
    refine XS.aloadN X0.here hx rfl (hb hby d13_0) rfl rfl ?_
    refine XS.aloadN X0.here hx rfl (hb hby d13_1) rfl rfl ?_
    show Steps p.tables e below (s₁.setTop (mkF m 2 #[.val (.ref q), .val .null, .unset] [(.ref q), .null])) _
    refine Jvm.RoadKit.acmp (g := (mkF m 2 #[.val (.ref q), .val .null, .unset] [(.ref q), .null])) X0 hx rfl rfl rfl (pc0 := 2) (pc' := 5) (same := false) rfl (hb hby d13_2) rfl (decide_eq_false nofun) (by decide) (by decide) ?_
    refine XS.aloadN X0.here hx rfl (hb hby d13_5) rfl rfl ?_
    show Steps p.tables e below (s₁.setTop (mkF m 6 #[.val (.ref q), .val .null, .unset] [.null])) _
    refine X0.instanceofNull hx (g := (mkF m 6 #[.val (.ref q), .val .null, .unset] [.null])) rfl rfl (hb hby d13_6) _ ?_
    refine XS.ifYes X0.here hx rfl (pc0 := 9) (pc' := 60) rfl (hb hby d13_9) rfl ((if0 _ _).trans (teq ((by decide) : (0 : Int32) = (0 : Int32))).1) (by decide) (by decide) ?_
    refine XS.iconst X0.here hx rfl (hb hby d13_60) ?_
    exact kt
  obtain ⟨fs, hr, hrun, hended, hW, hsame⟩ := X0.leave (v := some (.int (0 : Int32))) (fun h => by rw [Bd.returns] at h; cases h)
  refine ⟨_, _, pre0 _ (S1 _ ?_), hrun, hended, _, _, rfl, ?_, ⟨_, rfl⟩, hW, hsame.mono (by decide) (by decide)⟩
  · exact retN X0 hx (t := .boolean) Bd.returns (by simp) (hb hby d13_61) hr
  · show Q_rm_qeqn Z q h0 n0 _ s₁.heap _
    rw [e0]
    exact ⟨rfl, N0, rfl⟩
theorem own_ns {Z : State} {a0 : Array Value} (hw : ∀ d ∈ tables_1, d.before a0 Z = true) : ∃ c t, Z.vm.findClass "java/lang/String" = some c ∧ Z.vm.findClass "com/example/typecheck/typecheck/model/QName" = some t ∧ Z.vm.assignable c t = false := by
  obtain ⟨t, kt, g0, g2, g5, g7, -⟩ := Cond.instantiable_spec ((own_w hw 27 rfl) : (Jvm.Cond.instantiable "com/example/typecheck/typecheck/model/QName" 4).before a0 Z = true)
  have g7' : kt.isInterface = false := by simp only [Bool.or_eq_false_iff] at g7; exact g7.1
  obtain ⟨o, ko, o1, o2, o3, -, -⟩ := Cond.noSuperclass_spec ((own_w hw 125 rfl) : (Jvm.Cond.noSuperclass "java/lang/Object").before a0 Z = true)
  have w : (Jvm.Cond.superclass "java/lang/String" "java/lang/Object").before a0 Z = true := (own_w hw 124 rfl)
  obtain ⟨c, h0⟩ := found_sup w
  obtain ⟨p, k, kp, h1, h2, h3, h4, h5, -, h7⟩ := Cond.superclass_spec h0 w
  cases o1.symm.trans h1
  have ne1 := ids_ne o1 g0 (by decide)
  have ne2 := ids_ne h0 g0 (by decide)
  have n3 : ∀ fuel, Z.vm.isSubclassAux fuel c t = false := fun fuel => by
    cases fuel with
    | zero => rfl
    | succ f =>
      cases f with
      | zero => simp [Vm.isSubclassAux, ne2, h2, h4]
      | succ f => simp [Vm.isSubclassAux, ne2, h2, h4, ne1, o2, o3]
  refine ⟨c, t, h0, g0, ?_⟩
  show Z.vm.assignableAux (255 + 1) c t = false
  simp [Vm.assignableAux, ne2, h2, g2, h5, g5, g7', Vm.isSubclass, n3]
theorem ef_rm_qeqt (m : MethodId) (x0 : Addr) (x1 : Addr) : entryFrame m #[(.ref x0), (.ref x1)] 3 = mkF m 0 #[.val (.ref x0), .val (.ref x1), .unset] [] := by first | (simp [entryFrame, mkF, argsToLocals, Value.category]; done) | rfl
def Q_rm_qeqt (Z : State) (q : Addr) (x : Addr) (h0 : Heap) (n0 : Nat) (v : Option Value) (h : Heap) (L : List Loc) : Prop := ((v = some (.int (0 : Int32))) ∧ (Fr n0 L) ∧ (h = h0))
set_option maxRecDepth 65536 in
set_option maxHeartbeats 40000000 in
theorem rm_qeqt (l : Launch) (Z : State) (a0 : Array Value) (hw : ∀ d ∈ tables_1, d.before a0 Z = true) (ws : List Jvm.Cond) (q : Addr) (x : Addr) (h0 : Heap) (n0 : Nat) (O0 : Old Z n0 h0) (E_q : Exa Z h0 q "com/example/typecheck/typecheck/model/QName") (E_x : Exa Z h0 x "java/lang/String") :
    MetFree l (⟨"com/example/typecheck/typecheck/model/QName", "equals", "(Ljava/lang/Object;)Z"⟩ : MethodName) (head1 (Jvm.Cond.code (⟨"com/example/typecheck/typecheck/model/QName", "equals", "(Ljava/lang/Object;)Z"⟩ : MethodName) prog_176_method_10_code 3 (some .boolean) :: ws) ({ frames := 0, cells := 0, slots := 0, locals := 0 } : Room)) (fun a U => a = #[(.ref q), (.ref x)] ∧ Z.Warmed39 U.vm ∧ U.heap = h0) (fun _ _ _ _ _ => True) (fun _ U o U' => ∃ v L, o = .returned v ∧ Q_rm_qeqt Z q x h0 n0 v U'.heap L ∧ FrameEnd U o U' L ({ frames := 0, cells := 0, slots := 0, locals := 0 } : Room).cells ({ frames := 0, cells := 0, slots := 0, locals := 0 } : Room).slots) := by
  refine MetFree.of_bodySF (plainFor_of_name pn_5) hisR ?_
  intro p e s m args below meth c s₁ Bd hml0 hP hK
  obtain ⟨rfl, hZ, hh⟩ := hP
  have hx := Bd.exec
  have hby := Bd.bytes
  have hml : c.maxLocals = 3 := hml0
  have hown : s.vm.findClass "com/example/typecheck/typecheck/model/QName" = some m.cls := findClass_of_methodNamed Bd.named
  have hnm := (name_of_methodNamed Bd.named Bd.method).1
  have X0 : Stand p l e ({ frames := 0, cells := 0, slots := 0, locals := 0 } : Room) s m #[(.ref q), (.ref x)] below meth c s₁ [] 0 0 := Stand.of_body Bd
  have e0 : s₁.heap = h0 := by rw [← hh, Bd.state]; rfl
  have N0 := Fr.nil n0
  have hwl : ∀ d ∈ StrChars.Road.wordsLen, d.before a0 Z = true := fun d hd => hw d (own_wordsLen d hd)
  have hwc : ∀ d ∈ StrChars.Road.wordsChN, d.before a0 Z = true := fun d hd => hw d (own_wordsChN d hd)
  have hwq : ∀ d ∈ StrChars.Road.wordsEq, d.before a0 Z = true := fun d hd => hw d (own_wordsEq d hd)
  have pre0 : ∀ t, Steps p.tables e below (s₁.setTop (mkF m 0 #[.val (.ref q), .val (.ref x), .unset] [])) t → Steps p.tables e below (s₁.setTop (entryFrame m #[(.ref q), (.ref x)] 3)) t := fun t k => castTop (ef_rm_qeqt m q x) k
  obtain ⟨T1, X1, e1, st1⟩ := instNo X0 hx hZ hown (own_w hw 78 rfl) e0 E_x (own_ns hw) (g := (mkF m 6 #[.val (.ref q), .val (.ref x), .unset] [(.ref x)])) rfl rfl (hb hby d13_6)
  have S2 : ∀ t, Steps p.tables e below (T1.setTop (mkF m 61 #[.val (.ref q), .val (.ref x), .unset] [(.int (0 : Int32))])) t → Steps p.tables e below (s₁.setTop (mkF m 0 #[.val (.ref q), .val (.ref x), .unset] [])) t := by
    intro t kt
    refine XS.aloadN X0.here hx rfl (hb hby d13_0) rfl rfl ?_
    refine XS.aloadN X0.here hx rfl (hb hby d13_1) rfl rfl ?_
    show Steps p.tables e below (s₁.setTop (mkF m 2 #[.val (.ref q), .val (.ref x), .unset] [(.ref q), (.ref x)])) _
    refine Jvm.RoadKit.acmp (g := (mkF m 2 #[.val (.ref q), .val (.ref x), .unset] [(.ref q), (.ref x)])) X0 hx rfl rfl rfl (pc0 := 2) (pc' := 5) (same := false) rfl (hb hby d13_2) rfl (decide_eq_false fun q => (own_exane E_x E_q (by decide)) (Value.ref.inj q)) (by decide) (by decide) ?_
    refine XS.aloadN X0.here hx rfl (hb hby d13_5) rfl rfl ?_
    show Steps p.tables e below (s₁.setTop (mkF m 6 #[.val (.ref q), .val (.ref x), .unset] [(.ref x)])) _
    refine st1 _ ?_
    refine XS.ifYes X1.here hx rfl (pc0 := 9) (pc' := 60) rfl (hb hby d13_9) rfl ((if0 _ _).trans (teq ((by decide) : (0 : Int32) = (0 : Int32))).1) (by decide) (by decide) ?_
    refine XS.iconst X1.here hx rfl (hb hby d13_60) ?_
    exact kt
  obtain ⟨fs, hr, hrun, hended, hW, hsame⟩ := X1.leave (v := some (.int (0 : Int32))) (fun h => by rw [Bd.returns] at h; cases h)
  refine ⟨_, _, pre0 _ (S2 _ ?_), hrun, hended, _, _, rfl, ?_, ⟨_, rfl⟩, hW, hsame.mono (by decide) (by decide)⟩
  · exact retN X1 hx (t := .boolean) Bd.returns (by simp) (hb hby d13_61) hr
  · show Q_rm_qeqt Z q x h0 n0 _ T1.heap _
    rw [e1]
    exact ⟨rfl, N0, rfl⟩
theorem d13_12 : decode prog_176_method_10_code 12 = .ok (.aload_n 1, 1) := by decide +kernel
theorem d13_13 : decode prog_176_method_10_code 13 = .ok (.checkcast 8, 3) := by decide +kernel
theorem d13_16 : decode prog_176_method_10_code 16 = .ok (.astore_n 2, 1) := by decide +kernel
theorem d13_17 : decode prog_176_method_10_code 17 = .ok (.aload_n 0, 1) := by decide +kernel
theorem d13_18 : decode prog_176_method_10_code 18 = .ok (.getfield 25, 3) := by decide +kernel
theorem d13_21 : decode prog_176_method_10_code 21 = .ok (.aload_n 2, 1) := by decide +kernel
theorem d13_22 : decode prog_176_method_10_code 22 = .ok (.getfield 25, 3) := by decide +kernel
theorem d13_25 : decode prog_176_method_10_code 25 = .ok (.if_icmp .ne 35, 3) := by decide +kernel
theorem d13_28 : decode prog_176_method_10_code 28 = .ok (.aload_n 0, 1) := by decide +kernel
theorem d13_29 : decode prog_176_method_10_code 29 = .ok (.getfield 16, 3) := by decide +kernel
theorem d13_32 : decode prog_176_method_10_code 32 = .ok (.aload_n 2, 1) := by decide +kernel
theorem d13_33 : decode prog_176_method_10_code 33 = .ok (.getfield 16, 3) := by decide +kernel
theorem d13_36 : decode prog_176_method_10_code 36 = .ok (.invokevirtual 52, 3) := by decide +kernel
theorem pd_11 : parseMethodDescriptor "(Ljava/lang/Object;)Z" = some ⟨[(.object "java/lang/Object")], some .boolean⟩ := by decide +kernel
theorem d13_39 : decode prog_176_method_10_code 39 = .ok (.ifCond .eq 21, 3) := by decide +kernel
theorem d13_42 : decode prog_176_method_10_code 42 = .ok (.aload_n 0, 1) := by decide +kernel
theorem d13_43 : decode prog_176_method_10_code 43 = .ok (.getfield 13, 3) := by decide +kernel
theorem d13_46 : decode prog_176_method_10_code 46 = .ok (.aload_n 2, 1) := by decide +kernel
theorem d13_47 : decode prog_176_method_10_code 47 = .ok (.getfield 13, 3) := by decide +kernel
theorem d13_50 : decode prog_176_method_10_code 50 = .ok (.invokevirtual 52, 3) := by decide +kernel
theorem d13_53 : decode prog_176_method_10_code 53 = .ok (.ifCond .eq 7, 3) := by decide +kernel
theorem ef_rm_qeq (m : MethodId) (x0 : Addr) (x1 : Addr) : entryFrame m #[(.ref x0), (.ref x1)] 3 = mkF m 0 #[.val (.ref x0), .val (.ref x1), .unset] [] := by first | (simp [entryFrame, mkF, argsToLocals, Value.category]; done) | rfl
def Q_rm_qeq (Z : State) (q1 : Addr) (hh1 : Int32) (x1 : Addr) (tx1 : Addr) (kx1 : ClassId) (cs1 : List Int32) (y1 : Addr) (ty1 : Addr) (ky1 : ClassId) (ds1 : List Int32) (q2 : Addr) (hh2 : Int32) (x2 : Addr) (tx2 : Addr) (kx2 : ClassId) (cs2 : List Int32) (y2 : Addr) (ty2 : Addr) (ky2 : ClassId) (ds2 : List Int32) (zc : Int32) (h0 : Heap) (n0 : Nat) (v : Option Value) (h : Heap) (L : List Loc) : Prop := ((ds1 = ds2) ∧ (cs1 = cs2) ∧ (v = some (.int (1 : Int32))) ∧ (Fr n0 L) ∧ (h = h0)) ∨ ((¬ (hh1 = hh2)) ∧ (v = some (.int (0 : Int32))) ∧ (Fr n0 L) ∧ (h = h0)) ∨ ((¬ (ds1 = ds2)) ∧ (v = some (.int (0 : Int32))) ∧ (Fr n0 L) ∧ (h = h0)) ∨ ((¬ (cs1 = cs2)) ∧ (v = some (.int (0 : Int32))) ∧ (Fr n0 L) ∧ (h = h0))
set_option maxRecDepth 65536 in
set_option maxHeartbeats 40000000 in
theorem rm_qeq (l : Launch) (Z : State) (a0 : Array Value) (hw : ∀ d ∈ tables_1, d.before a0 Z = true) (ws : List Jvm.Cond) (q1 : Addr) (hh1 : Int32) (x1 : Addr) (tx1 : Addr) (kx1 : ClassId) (cs1 : List Int32) (y1 : Addr) (ty1 : Addr) (ky1 : ClassId) (ds1 : List Int32) (q2 : Addr) (hh2 : Int32) (x2 : Addr) (tx2 : Addr) (kx2 : ClassId) (cs2 : List Int32) (y2 : Addr) (ty2 : Addr) (ky2 : ClassId) (ds2 : List Int32) (zc : Int32) (h0 : Heap) (n0 : Nat) (O0 : Old Z n0 h0) (E_q1 : Exa Z h0 q1 "com/example/typecheck/typecheck/model/QName") (Fh1 : Fld Z h0 q1 "com/example/typecheck/typecheck/model/QName" "hash" "I" (.int hh1)) (Fn1 : Fld Z h0 q1 "com/example/typecheck/typecheck/model/QName" "namespace" "Ljava/lang/String;" (.ref x1)) (Fl1 : Fld Z h0 q1 "com/example/typecheck/typecheck/model/QName" "localName" "Ljava/lang/String;" (.ref y1)) (E_x1 : Exa Z h0 x1 "java/lang/String") (V_x1 : Fld Z h0 x1 "java/lang/String" "value" "[B" (.ref tx1)) (C_x1 : Fld Z h0 x1 "java/lang/String" "coder" "B" (.int (0 : Int32))) (T_x1 : Exa Z h0 tx1 "[B") (K_x1 : Arv Z h0 tx1 kx1 .byte (own_len cs1) (own_vs cs1) (.int (0 : Int32))) (E_y1 : Exa Z h0 y1 "java/lang/String") (V_y1 : Fld Z h0 y1 "java/lang/String" "value" "[B" (.ref ty1)) (C_y1 : Fld Z h0 y1 "java/lang/String" "coder" "B" (.int (0 : Int32))) (T_y1 : Exa Z h0 ty1 "[B") (K_y1 : Arv Z h0 ty1 ky1 .byte (own_len ds1) (own_vs ds1) (.int (0 : Int32))) (okx1 : own_ok cs1) (oky1 : own_ok ds1) (E_q2 : Exa Z h0 q2 "com/example/typecheck/typecheck/model/QName") (Fh2 : Fld Z h0 q2 "com/example/typecheck/typecheck/model/QName" "hash" "I" (.int hh2)) (Fn2 : Fld Z h0 q2 "com/example/typecheck/typecheck/model/QName" "namespace" "Ljava/lang/String;" (.ref x2)) (Fl2 : Fld Z h0 q2 "com/example/typecheck/typecheck/model/QName" "localName" "Ljava/lang/String;" (.ref y2)) (E_x2 : Exa Z h0 x2 "java/lang/String") (V_x2 : Fld Z h0 x2 "java/lang/String" "value" "[B" (.ref tx2)) (C_x2 : Fld Z h0 x2 "java/lang/String" "coder" "B" (.int (0 : Int32))) (T_x2 : Exa Z h0 tx2 "[B") (K_x2 : Arv Z h0 tx2 kx2 .byte (own_len cs2) (own_vs cs2) (.int (0 : Int32))) (E_y2 : Exa Z h0 y2 "java/lang/String") (V_y2 : Fld Z h0 y2 "java/lang/String" "value" "[B" (.ref ty2)) (C_y2 : Fld Z h0 y2 "java/lang/String" "coder" "B" (.int (0 : Int32))) (T_y2 : Exa Z h0 ty2 "[B") (K_y2 : Arv Z h0 ty2 ky2 .byte (own_len ds2) (own_vs ds2) (.int (0 : Int32))) (okx2 : own_ok cs2) (oky2 : own_ok ds2) (neq : q1 ≠ q2) (S_C : Sta Z Z.heap "java/lang/String" "COMPACT_STRINGS" "Z" (.int zc)) (hzc : ¬ (zc = (0 : Int32))) :
    MetFree l (⟨"com/example/typecheck/typecheck/model/QName", "equals", "(Ljava/lang/Object;)Z"⟩ : MethodName) (head1 (Jvm.Cond.code (⟨"com/example/typecheck/typecheck/model/QName", "equals", "(Ljava/lang/Object;)Z"⟩ : MethodName) prog_176_method_10_code 3 (some .boolean) :: ws) ({ frames := 2, cells := 0, slots := 0, locals := 28 } : Room)) (fun a U => a = #[(.ref q1), (.ref q2)] ∧ Z.Warmed39 U.vm ∧ U.heap = h0) (fun _ _ _ _ _ => True) (fun _ U o U' => ∃ v L, o = .returned v ∧ Q_rm_qeq Z q1 hh1 x1 tx1 kx1 cs1 y1 ty1 ky1 ds1 q2 hh2 x2 tx2 kx2 cs2 y2 ty2 ky2 ds2 zc h0 n0 v U'.heap L ∧ FrameEnd U o U' L ({ frames := 2, cells := 0, slots := 0, locals := 28 } : Room).cells ({ frames := 2, cells := 0, slots := 0, locals := 28 } : Room).slots) := by
  refine MetFree.of_bodySF (plainFor_of_name pn_5) hisR ?_
  intro p e s m args below meth c s₁ Bd hml0 hP hK
  obtain ⟨rfl, hZ, hh⟩ := hP
  have hx := Bd.exec
  have hby := Bd.bytes
  have hml : c.maxLocals = 3 := hml0
  have hown : s.vm.findClass "com/example/typecheck/typecheck/model/QName" = some m.cls := findClass_of_methodNamed Bd.named
  have hnm := (name_of_methodNamed Bd.named Bd.method).1
  have X0 : Stand p l e ({ frames := 2, cells := 0, slots := 0, locals := 28 } : Room) s m #[(.ref q1), (.ref q2)] below meth c s₁ [] 0 0 := Stand.of_body Bd
  have e0 : s₁.heap = h0 := by rw [← hh, Bd.state]; rfl
  have N0 := Fr.nil n0
  have hwl : ∀ d ∈ StrChars.Road.wordsLen, d.before a0 Z = true := fun d hd => hw d (own_wordsLen d hd)
  have hwc : ∀ d ∈ StrChars.Road.wordsChN, d.before a0 Z = true := fun d hd => hw d (own_wordsChN d hd)
  have hwq : ∀ d ∈ StrChars.Road.wordsEq, d.before a0 Z = true := fun d hd => hw d (own_wordsEq d hd)
  have pre0 : ∀ t, Steps p.tables e below (s₁.setTop (mkF m 0 #[.val (.ref q1), .val (.ref q2), .unset] [])) t → Steps p.tables e below (s₁.setTop (entryFrame m #[(.ref q1), (.ref q2)] 3)) t := fun t k => castTop (ef_rm_qeq m q1 q2) k
  obtain ⟨T1, X1, e1, st1⟩ := instY X0 hx hZ hown (own_w hw 78 rfl) e0 (Ins.self E_q2) (g := (mkF m 6 #[.val (.ref q1), .val (.ref q2), .unset] [(.ref q2)])) rfl rfl (hb hby d13_6)
  obtain ⟨T2, X2, e2, st2⟩ := castY X1 hx hZ hown (own_w hw 78 rfl) e1 (Ins.self E_q2) (g := (mkF m 13 #[.val (.ref q1), .val (.ref q2), .unset] [(.ref q2)])) rfl rfl (hb hby d13_13)
  obtain ⟨T3, X3, e3, st3⟩ := getF X2 hx hZ hown (host := "") (Or.inl (own_w hw 58 rfl)) Via.refl e2 Fh1 (g := (mkF m 18 #[.val (.ref q1), .val (.ref q2), .val (.ref q2)] [(.ref q1)])) rfl rfl (hb hby d13_18)
  obtain ⟨T4, X4, e4, st4⟩ := getF X3 hx hZ hown (host := "") (Or.inl (own_w hw 58 rfl)) Via.refl e3 Fh2 (g := (mkF m 22 #[.val (.ref q1), .val (.ref q2), .val (.ref q2)] [(.ref q2), (.int hh1)])) rfl rfl (hb hby d13_22)
  have S5 : ∀ t, Steps p.tables e below (T4.setTop (mkF m 25 #[.val (.ref q1), .val (.ref q2), .val (.ref q2)] [(.int hh2), (.int hh1)])) t → Steps p.tables e below (s₁.setTop (mkF m 0 #[.val (.ref q1), .val (.ref q2), .unset] [])) t := by
    intro t kt
    refine XS.aloadN X0.here hx rfl (hb hby d13_0) rfl rfl ?_
    refine XS.aloadN X0.here hx rfl (hb hby d13_1) rfl rfl ?_
    show Steps p.tables e below (s₁.setTop (mkF m 2 #[.val (.ref q1), .val (.ref q2), .unset] [(.ref q1), (.ref q2)])) _
    refine Jvm.RoadKit.acmp (g := (mkF m 2 #[.val (.ref q1), .val (.ref q2), .unset] [(.ref q1), (.ref q2)])) X0 hx rfl rfl rfl (pc0 := 2) (pc' := 5) (same := false) rfl (hb hby d13_2) rfl (decide_eq_false fun q => (Ne.symm neq) (Value.ref.inj q)) (by decide) (by decide) ?_
    refine XS.aloadN X0.here hx rfl (hb hby d13_5) rfl rfl ?_
    show Steps p.tables e below (s₁.setTop (mkF m 6 #[.val (.ref q1), .val (.ref q2), .unset] [(.ref q2)])) _
    refine st1 _ ?_
    refine XS.ifNo X1.here hx rfl (hb hby d13_9) rfl ((if0 _ _).trans (feq ((by decide) : ¬ ((1 : Int32) = (0 : Int32)))).1) ?_
    refine XS.aloadN X1.here hx rfl (hb hby d13_12) rfl rfl ?_
    show Steps p.tables e below (T1.setTop (mkF m 13 #[.val (.ref q1), .val (.ref q2), .unset] [(.ref q2)])) _
    refine st2 _ ?_
    refine XS.astoreN X2.here hx rfl (hb hby d13_16) rfl rfl (l' := #[.val (.ref q1), .val (.ref q2), .val (.ref q2)]) rfl ?_
    refine XS.aloadN X2.here hx rfl (hb hby d13_17) rfl rfl ?_
    show Steps p.tables e below (T2.setTop (mkF m 18 #[.val (.ref q1), .val (.ref q2), .val (.ref q2)] [(.ref q1)])) _
    refine st3 _ ?_
    refine XS.aloadN X3.here hx rfl (hb hby d13_21) rfl rfl ?_
    show Steps p.tables e below (T3.setTop (mkF m 22 #[.val (.ref q1), .val (.ref q2), .val (.ref q2)] [(.ref q2), (.int hh1)])) _
    refine st4 _ ?_
    exact kt
  rcases Decidable.em (hh1 = hh2) with c6 | c6
  · obtain ⟨T7, X7, e7, st7⟩ := getF X4 hx hZ hown (host := "") (Or.inl (own_w hw 37 rfl)) Via.refl e4 Fl1 (g := (mkF m 29 #[.val (.ref q1), .val (.ref q2), .val (.ref q2)] [(.ref q1)])) rfl rfl (hb hby d13_29)
    obtain ⟨T8, X8, e8, st8⟩ := getF X7 hx hZ hown (host := "") (Or.inl (own_w hw 37 rfl)) Via.refl e7 Fl2 (g := (mkF m 33 #[.val (.ref q1), .val (.ref q2), .val (.ref q2)] [(.ref q2), (.ref y1)])) rfl rfl (hb hby d13_33)
    obtain ⟨cq9, kq9, q9a, q9b, q9c⟩ := isOf hZ e8 E_y1
    obtain ⟨_, _, ⟨T9, L9, k9, n9⟩, -, X9, ⟨Lc9, hQ9, l9, y9, z9⟩, st9⟩ := X8.virtualBack hx (y := (⟨"java/lang/String", "equals", "(Ljava/lang/Object;)Z"⟩ : MethodName)) (z := (⟨"java/lang/String", "equals", "(Ljava/lang/Object;)Z"⟩ : MethodName)) hown (mvT hZ (own_w hw 80 rfl)) (mvT hZ (own_w hw 81 rfl)) (notFace_of_selects (args := #[]) (mvT hZ (own_w hw 83 rfl))) (mvT hZ (own_w hw 83 rfl)) (mvT hZ (own_w hw 82 rfl)) (by decide) (StrChars.Road.eqW (W := 0) hZ hwq (kI := 4) (own_w hw 6 rfl) (cs := ds1) E_y1 V_y1 C_y1 K_y1 (Or.inl ⟨rfl, rfl, rfl, fun c hc => (oky1.2 c hc).2⟩ : StrChars.Road.CodA ds1 0 (own_len ds1) (own_vs ds1)) (own_up oky1.2) (Nat.le_trans oky1.1 (by decide)) (ds := ds2) E_y2 V_y2 C_y2 K_y2 (Or.inl ⟨rfl, rfl, rfl, fun c hc => (oky2.2 c hc).2⟩ : StrChars.Road.CodA ds2 0 (own_len ds2) (own_vs ds2)) (own_up oky2.2) (Nat.le_trans oky2.1 (by decide)) (S_C.ext O0.2) hzc (by decide) (by decide)) q9a q9c (g := (mkF m 36 #[.val (.ref q1), .val (.ref q2), .val (.ref q2)] [(.ref y2), (.ref y1)])) rfl (by rw [hml]; rfl) (Steps.refl _) (argsL := [(.ref y2)]) (rest := []) (lenOf pd_11 rfl) rfl (by show 2 * 0 + _ ≤ _; exact Nat.le_of_eq rfl) (hb hby d13_36) (fun _ _ => ⟨rfl, e8, (by decide : 0 + 0 ≤ _), (by decide : 0 + 0 ≤ _)⟩)
    dsimp only [Pt.U, Pt.locs, Pt.cells, Pt.slots] at X9 l9 y9 z9 st9 hQ9
    subst l9 y9 z9
    obtain ⟨hQ9, rfl, k10⟩ := hQ9
    have N12 := Fr.app N0 (Fr.nil n0)
    rcases hQ9 with ⟨rfl, c11⟩ | ⟨rfl, c11⟩
    · obtain ⟨T13, X13, e13, st13⟩ := getF X9 hx hZ hown (host := "") (Or.inl (own_w hw 35 rfl)) Via.refl k10 Fn1 (g := (mkF m 43 #[.val (.ref q1), .val (.ref q2), .val (.ref q2)] [(.ref q1)])) rfl rfl (hb hby d13_43)
      obtain ⟨T14, X14, e14, st14⟩ := getF X13 hx hZ hown (host := "") (Or.inl (own_w hw 35 rfl)) Via.refl e13 Fn2 (g := (mkF m 47 #[.val (.ref q1), .val (.ref q2), .val (.ref q2)] [(.ref q2), (.ref x1)])) rfl rfl (hb hby d13_47)
      obtain ⟨cq15, kq15, q15a, q15b, q15c⟩ := isOf hZ e14 E_x1
      obtain ⟨_, _, ⟨T15, L15, k15, n15⟩, -, X15, ⟨Lc15, hQ15, l15, y15, z15⟩, st15⟩ := X14.virtualBack hx (y := (⟨"java/lang/String", "equals", "(Ljava/lang/Object;)Z"⟩ : MethodName)) (z := (⟨"java/lang/String", "equals", "(Ljava/lang/Object;)Z"⟩ : MethodName)) hown (mvT hZ (own_w hw 80 rfl)) (mvT hZ (own_w hw 81 rfl)) (notFace_of_selects (args := #[]) (mvT hZ (own_w hw 83 rfl))) (mvT hZ (own_w hw 83 rfl)) (mvT hZ (own_w hw 82 rfl)) (by decide) (StrChars.Road.eqW (W := 0) hZ hwq (kI := 4) (own_w hw 6 rfl) (cs := cs1) E_x1 V_x1 C_x1 K_x1 (Or.inl ⟨rfl, rfl, rfl, fun c hc => (okx1.2 c hc).2⟩ : StrChars.Road.CodA cs1 0 (own_len cs1) (own_vs cs1)) (own_up okx1.2) (Nat.le_trans okx1.1 (by decide)) (ds := cs2) E_x2 V_x2 C_x2 K_x2 (Or.inl ⟨rfl, rfl, rfl, fun c hc => (okx2.2 c hc).2⟩ : StrChars.Road.CodA cs2 0 (own_len cs2) (own_vs cs2)) (own_up okx2.2) (Nat.le_trans okx2.1 (by decide)) (S_C.ext O0.2) hzc (by decide) (by decide)) q15a q15c (g := (mkF m 50 #[.val (.ref q1), .val (.ref q2), .val (.ref q2)] [(.ref x2), (.ref x1)])) rfl (by rw [hml]; rfl) (Steps.refl _) (argsL := [(.ref x2)]) (rest := []) (lenOf pd_11 rfl) rfl (by show 2 * 0 + _ ≤ _; exact Nat.le_of_eq rfl) (hb hby d13_50) (fun _ _ => ⟨rfl, e14, (by decide : 0 + 0 ≤ _), (by decide : 0 + 0 ≤ _)⟩)
      dsimp only [Pt.U, Pt.locs, Pt.cells, Pt.slots] at X15 l15 y15 z15 st15 hQ15
      subst l15 y15 z15
      obtain ⟨hQ15, rfl, k16⟩ := hQ15
      have N18 := Fr.app N12 (Fr.nil n0)
      rcases hQ15 with ⟨rfl, c17⟩ | ⟨rfl, c17⟩
      · have S19 : ∀ t, Steps p.tables e below (T15.setTop (mkF m 61 #[.val (.ref q1), .val (.ref q2), .val (.ref q2)] [(.int (1 : Int32))])) t → Steps p.tables e below (s₁.setTop (mkF m 0 #[.val (.ref q1), .val (.ref q2), .unset] [])) t := by
          intro t kt
          refine S5 t ?_
          refine XS.icmpNo X4.here hx rfl (hb hby d13_25) rfl (teq (c6 : hh1 = hh2)).2 ?_
          refine XS.aloadN X4.here hx rfl (hb hby d13_28) rfl rfl ?_
          show Steps p.tables e below (T4.setTop (mkF m 29 #[.val (.ref q1), .val (.ref q2), .val (.ref q2)] [(.ref q1)])) _
          refine st7 _ ?_
          refine XS.aloadN X7.here hx rfl (hb hby d13_32) rfl rfl ?_
          show Steps p.tables e below (T7.setTop (mkF m 33 #[.val (.ref q1), .val (.ref q2), .val (.ref q2)] [(.ref q2), (.ref y1)])) _
          refine st8 _ ?_
          show Steps p.tables e below (T8.setTop (mkF m 36 #[.val (.ref q1), .val (.ref q2), .val (.ref q2)] [(.ref y2), (.ref y1)])) _
          refine st9.trans ?_
          refine XS.ifNo X9.here hx rfl (hb hby d13_39) rfl ((if0 _ _).trans (feq ((by decide) : ¬ ((1 : Int32) = (0 : Int32)))).1) ?_
          refine XS.aloadN X9.here hx rfl (hb hby d13_42) rfl rfl ?_
          show Steps p.tables e below (T9.setTop (mkF m 43 #[.val (.ref q1), .val (.ref q2), .val (.ref q2)] [(.ref q1)])) _
          refine st13 _ ?_
          refine XS.aloadN X13.here hx rfl (hb hby d13_46) rfl rfl ?_
          show Steps p.tables e below (T13.setTop (mkF m 47 #[.val (.ref q1), .val (.ref q2), .val (.ref q2)] [(.ref q2), (.ref x1)])) _
          refine st14 _ ?_
          show Steps p.tables e below (T14.setTop (mkF m 50 #[.val (.ref q1), .val (.ref q2), .val (.ref q2)] [(.ref x2), (.ref x1)])) _
          refine st15.trans ?_
          refine XS.ifNo X15.here hx rfl (hb hby d13_53) rfl ((if0 _ _).trans (feq ((by decide) : ¬ ((1 : Int32) = (0 : Int32)))).1) ?_
          refine XS.iconst X15.here hx rfl (hb hby d13_56) ?_
          refine XS.goto X15.here hx rfl (pc0 := 57) (pc' := 61) rfl (hb hby d13_57) (by decide) (by decide) ?_
          exact kt
        obtain ⟨fs, hr, hrun, hended, hW, hsame⟩ := X15.leave (v := some (.int (1 : Int32))) (fun h => by rw [Bd.returns] at h; cases h)
        refine ⟨_, _, pre0 _ (S19 _ ?_), hrun, hended, _, _, rfl, ?_, ⟨_, rfl⟩, hW, hsame.mono (by decide) (by decide)⟩
        · exact retN X15 hx (t := .boolean) Bd.returns (by simp) (hb hby d13_61) hr
        · show Q_rm_qeq Z q1 hh1 x1 tx1 kx1 cs1 y1 ty1 ky1 ds1 q2 hh2 x2 tx2 kx2 cs2 y2 ty2 ky2 ds2 zc h0 n0 _ T15.heap _
          rw [k16]
          exact Or.inl ⟨c11, c17, rfl, N18, rfl⟩
      · have S20 : ∀ t, Steps p.tables e below (T15.setTop (mkF m 61 #[.val (.ref q1), .val (.ref q2), .val (.ref q2)] [(.int (0 : Int32))])) t → Steps p.tables e below (s₁.setTop (mkF m 0 #[.val (.ref q1), .val (.ref q2), .unset] [])) t := by
          intro t kt
          refine S5 t ?_
          refine XS.icmpNo X4.here hx rfl (hb hby d13_25) rfl (teq (c6 : hh1 = hh2)).2 ?_
          refine XS.aloadN X4.here hx rfl (hb hby d13_28) rfl rfl ?_
          show Steps p.tables e below (T4.setTop (mkF m 29 #[.val (.ref q1), .val (.ref q2), .val (.ref q2)] [(.ref q1)])) _
          refine st7 _ ?_
          refine XS.aloadN X7.here hx rfl (hb hby d13_32) rfl rfl ?_
          show Steps p.tables e below (T7.setTop (mkF m 33 #[.val (.ref q1), .val (.ref q2), .val (.ref q2)] [(.ref q2), (.ref y1)])) _
          refine st8 _ ?_
          show Steps p.tables e below (T8.setTop (mkF m 36 #[.val (.ref q1), .val (.ref q2), .val (.ref q2)] [(.ref y2), (.ref y1)])) _
          refine st9.trans ?_
          refine XS.ifNo X9.here hx rfl (hb hby d13_39) rfl ((if0 _ _).trans (feq ((by decide) : ¬ ((1 : Int32) = (0 : Int32)))).1) ?_
          refine XS.aloadN X9.here hx rfl (hb hby d13_42) rfl rfl ?_
          show Steps p.tables e below (T9.setTop (mkF m 43 #[.val (.ref q1), .val (.ref q2), .val (.ref q2)] [(.ref q1)])) _
          refine st13 _ ?_
          refine XS.aloadN X13.here hx rfl (hb hby d13_46) rfl rfl ?_
          show Steps p.tables e below (T13.setTop (mkF m 47 #[.val (.ref q1), .val (.ref q2), .val (.ref q2)] [(.ref q2), (.ref x1)])) _
          refine st14 _ ?_
          show Steps p.tables e below (T14.setTop (mkF m 50 #[.val (.ref q1), .val (.ref q2), .val (.ref q2)] [(.ref x2), (.ref x1)])) _
          refine st15.trans ?_
          refine XS.ifYes X15.here hx rfl (pc0 := 53) (pc' := 60) rfl (hb hby d13_53) rfl ((if0 _ _).trans (teq ((by decide) : (0 : Int32) = (0 : Int32))).1) (by decide) (by decide) ?_
          refine XS.iconst X15.here hx rfl (hb hby d13_60) ?_
          exact kt
        obtain ⟨fs, hr, hrun, hended, hW, hsame⟩ := X15.leave (v := some (.int (0 : Int32))) (fun h => by rw [Bd.returns] at h; cases h)
        refine ⟨_, _, pre0 _ (S20 _ ?_), hrun, hended, _, _, rfl, ?_, ⟨_, rfl⟩, hW, hsame.mono (by decide) (by decide)⟩
        · exact retN X15 hx (t := .boolean) Bd.returns (by simp) (hb hby d13_61) hr
        · show Q_rm_qeq Z q1 hh1 x1 tx1 kx1 cs1 y1 ty1 ky1 ds1 q2 hh2 x2 tx2 kx2 cs2 y2 ty2 ky2 ds2 zc h0 n0 _ T15.heap _
          rw [k16]
          exact Or.inr (Or.inr (Or.inr (⟨c17, rfl, N18, rfl⟩)))
    · have S21 : ∀ t, Steps p.tables e below (T9.setTop (mkF m 61 #[.val (.ref q1), .val (.ref q2), .val (.ref q2)] [(.int (0 : Int32))])) t → Steps p.tables e below (s₁.setTop (mkF m 0 #[.val (.ref q1), .val (.ref q2), .unset] [])) t := by
        intro t kt
        refine S5 t ?_
        refine XS.icmpNo X4.here hx rfl (hb hby d13_25) rfl (teq (c6 : hh1 = hh2)).2 ?_
        refine XS.aloadN X4.here hx rfl (hb hby d13_28) rfl rfl ?_
        show Steps p.tables e below (T4.setTop (mkF m 29 #[.val (.ref q1), .val (.ref q2), .val (.ref q2)] [(.ref q1)])) _
        refine st7 _ ?_
        refine XS.aloadN X7.here hx rfl (hb hby d13_32) rfl rfl ?_
        show Steps p.tables e below (T7.setTop (mkF m 33 #[.val (.ref q1), .val (.ref q2), .val (.ref q2)] [(.ref q2), (.ref y1)])) _
        refine st8 _ ?_
        show Steps p.tables e below (T8.setTop (mkF m 36 #[.val (.ref q1), .val (.ref q2), .val (.ref q2)] [(.ref y2), (.ref y1)])) _
        refine st9.trans ?_
        refine XS.ifYes X9.here hx rfl (pc0 := 39) (pc' := 60) rfl (hb hby d13_39) rfl ((if0 _ _).trans (teq ((by decide) : (0 : Int32) = (0 : Int32))).1) (by decide) (by decide) ?_
        refine XS.iconst X9.here hx rfl (hb hby d13_60) ?_
        exact kt
      obtain ⟨fs, hr, hrun, hended, hW, hsame⟩ := X9.leave (v := some (.int (0 : Int32))) (fun h => by rw [Bd.returns] at h; cases h)
      refine ⟨_, _, pre0 _ (S21 _ ?_), hrun, hended, _, _, rfl, ?_, ⟨_, rfl⟩, hW, hsame.mono (by decide) (by decide)⟩
      · exact retN X9 hx (t := .boolean) Bd.returns (by simp) (hb hby d13_61) hr
      · show Q_rm_qeq Z q1 hh1 x1 tx1 kx1 cs1 y1 ty1 ky1 ds1 q2 hh2 x2 tx2 kx2 cs2 y2 ty2 ky2 ds2 zc h0 n0 _ T9.heap _
        rw [k10]
        exact Or.inr (Or.inr (Or.inl ⟨c11, rfl, N12, rfl⟩))
  · have S22 : ∀ t, Steps p.tables e below (T4.setTop (mkF m 61 #[.val (.ref q1), .val (.ref q2), .val (.ref q2)] [(.int (0 : Int32))])) t → Steps p.tables e below (s₁.setTop (mkF m 0 #[.val (.ref q1), .val (.ref q2), .unset] [])) t := by
      intro t kt
      refine S5 t ?_
      refine XS.icmpYes X4.here hx rfl (pc0 := 25) (pc' := 60) rfl (hb hby d13_25) rfl (feq (c6 : ¬ (hh1 = hh2))).2 (by decide) (by decide) ?_
      refine XS.iconst X4.here hx rfl (hb hby d13_60) ?_
      exact kt
    obtain ⟨fs, hr, hrun, hended, hW, hsame⟩ := X4.leave (v := some (.int (0 : Int32))) (fun h => by rw [Bd.returns] at h; cases h)
    refine ⟨_, _, pre0 _ (S22 _ ?_), hrun, hended, _, _, rfl, ?_, ⟨_, rfl⟩, hW, hsame.mono (by decide) (by decide)⟩
    · exact retN X4 hx (t := .boolean) Bd.returns (by simp) (hb hby d13_61) hr
    · show Q_rm_qeq Z q1 hh1 x1 tx1 kx1 cs1 y1 ty1 ky1 ds1 q2 hh2 x2 tx2 kx2 cs2 y2 ty2 ky2 ds2 zc h0 n0 _ T4.heap _
      rw [e4]
      exact Or.inr (Or.inl ⟨c6, rfl, N0, rfl⟩)
theorem own_eq1 {cs ds : List Int32} (h : cs = ds) : ¬ (own_eqI cs ds = (0 : Int32)) := by rw [own_eqI, if_pos h]; decide
theorem own_eq0 {cs ds : List Int32} (h : ¬ (cs = ds)) : own_eqI cs ds = (0 : Int32) := by rw [own_eqI, if_neg h]
theorem own_hq {a b c d : List Int32} (h : a = c) (k : b = d) : (((31 : Int32) * (own_H a)) + (own_H b)) = (((31 : Int32) * (own_H c)) + (own_H d)) := by rw [h, k]
theorem pd_12 : parseMethodDescriptor "(I)Ljava/lang/String;" = some ⟨[.int], some (.object "java/lang/String")⟩ := by decide +kernel
theorem pd_13 : parseMethodDescriptor "(Ljava/lang/String;Ljava/lang/String;Ljava/lang/String;)V" = some ⟨[(.object "java/lang/String"), (.object "java/lang/String"), (.object "java/lang/String")], none⟩ := by decide +kernel
theorem pd_14 : parseMethodDescriptor "(Ljava/lang/String;Ljava/lang/String;)Z" = some ⟨[(.object "java/lang/String"), (.object "java/lang/String")], some .boolean⟩ := by decide +kernel
theorem ef_rm_law (m : MethodId) (x0 : Int32) (x1 : Int32) (x2 : Int32) (x3 : Int32) (x4 : Int32) (x5 : Int32) : entryFrame m #[(.int x0), (.int x1), (.int x2), (.int x3), (.int x4), (.int x5)] maxLocals = mkF m 0 #[.val (.int x0), .val (.int x1), .val (.int x2), .val (.int x3), .val (.int x4), .val (.int x5), .unset, .unset, .unset, .unset, .unset, .unset, .unset, .unset, .unset, .unset] [] := by first | (simp [entryFrame, mkF, argsToLocals, Value.category, maxLocals]; done) | rfl
def Q_rm_law (Z : State) (p1 : Int32) (p2 : Int32) (p3 : Int32) (p4 : Int32) (p5 : Int32) (p6 : Int32) (zc : Int32) (fm : Value) (h0 : Heap) (n0 : Nat) (v : Option Value) (h : Heap) (L : List Loc) : Prop := ((v = some (.int (1 : Int32))) ∧ (Fr n0 L))
set_option maxRecDepth 65536 in
set_option maxHeartbeats 40000000 in
theorem rm_law (l : Launch) (Z : State) (a0 : Array Value) (hw : ∀ d ∈ tables_1, d.before a0 Z = true) (ws : List Jvm.Cond) (p1 : Int32) (p2 : Int32) (p3 : Int32) (p4 : Int32) (p5 : Int32) (p6 : Int32) (zc : Int32) (fm : Value) (h0 : Heap) (n0 : Nat) (O0 : Old Z n0 h0) (S_C : Sta Z Z.heap "java/lang/String" "COMPACT_STRINGS" "Z" (.int zc)) (hzc : ¬ (zc = (0 : Int32))) (S_F : Sta Z Z.heap "jdk/internal/util/Preconditions" "SIOOBE_FORMATTER" "Ljava/util/function/BiFunction;" fm) (hfm : fm.isRef = true) :
    MetFree l x (head1 (Jvm.Cond.code x code maxLocals ret :: ws) room_1) (fun a U => a = #[(.int p1), (.int p2), (.int p3), (.int p4), (.int p5), (.int p6)] ∧ Z.Warmed39 U.vm ∧ U.heap = h0 ∧ CHv Z own_EL U.vm h0 ∧ ∀ own_y ∈ ([] : List Addr), Safe Z own_EL U.vm h0 own_y) (fun _ _ _ _ _ => True) (fun _ U o U' => ∃ v L, o = .returned v ∧ Q_rm_law Z p1 p2 p3 p4 p5 p6 zc fm h0 n0 v U'.heap L ∧ ReturnedEndW U o U' L room_1.cells room_1.slots) := by
  refine MetFree.of_bodySF (plainFor_of_name pn_2) hisR ?_
  intro p e s m args below meth c s₁ Bd hml0 hP hK
  obtain ⟨rfl, hZ, hh, hCH, hSf⟩ := hP
  have hx := Bd.exec
  have hby := Bd.bytes
  have hml : c.maxLocals = 16 := hml0
  have hown : s.vm.findClass "com/example/typecheck/typecheck/model/QNameEqualsPinLaw" = some m.cls := findClass_of_methodNamed Bd.named
  have hnm := (name_of_methodNamed Bd.named Bd.method).1
  have X0 : Stand p l e room_1 (s.setVm s.vm) m #[(.int p1), (.int p2), (.int p3), (.int p4), (.int p5), (.int p6)] below meth c s₁ [] 0 0 := Stand.of_body Bd
  have e0 : s₁.heap = h0 := by rw [← hh, Bd.state]; rfl
  have N0 := Fr.nil n0
  have hZ0 := hZ
  have ho0 := hown
  have hS0 : s.Since s.vm 0 := (State.WarmedH.refl s).since 0
  have hk0 : 0 ≤ h0.size := Nat.zero_le _
  have CR0 : CHr Z own_EL s.vm h0 s.vm h0 := CHr.refl hCH
  have own_at : ∀ d ∈ Bundle.stringAtoms, d.before a0 Z = true := fun d hd => hw d (own_atoms d hd)
  have own_ew : EW Z a0 own_EL := own_EWof hw
  have hwl : ∀ d ∈ StrChars.Road.wordsLen, d.before a0 Z = true := fun d hd => hw d (own_wordsLen d hd)
  have hwc : ∀ d ∈ StrChars.Road.wordsChN, d.before a0 Z = true := fun d hd => hw d (own_wordsChN d hd)
  have hwq : ∀ d ∈ StrChars.Road.wordsEq, d.before a0 Z = true := fun d hd => hw d (own_wordsEq d hd)
  have pre0 : ∀ t, Steps p.tables e below (s₁.setTop (mkF m 0 #[.val (.int p1), .val (.int p2), .val (.int p3), .val (.int p4), .val (.int p5), .val (.int p6), .unset, .unset, .unset, .unset, .unset, .unset, .unset, .unset, .unset, .unset] [])) t → Steps p.tables e below (s₁.setTop (entryFrame m #[(.int p1), (.int p2), (.int p3), (.int p4), (.int p5), (.int p6)] maxLocals)) t := fun t k => castTop (ef_rm_law m p1 p2 p3 p4 p5 p6) k
  obtain ⟨_, _, ⟨T1, L1, k1, n1⟩, -, Xq1, hSq1, hgq1, ⟨Lc1, hQ1, l1, y1, z1, C1⟩, st1⟩ := callSS X0 hx (y := (⟨"com/example/typecheck/typecheck/model/QNameEqualsPinLaw", "str", "(I)Ljava/lang/String;"⟩ : MethodName)) ho0 (mvT hZ0 (own_w hw 0 rfl)) (mvT hZ0 (own_w hw 1 rfl)) (mvT hZ0 (own_w hw 2 rfl)) (mvT hZ0 (own_w hw 3 rfl)) (by decide) (own_backS (W := 0) (rm := ({ frames := 4, cells := 6, slots := 12, locals := 66 } : Room)) (xs := []) (rm_str l Z a0 hw [] p1 zc h0 n0 O0 S_C hzc) hZ0 (own_w hw 3 rfl) (own_w hw 2 rfl) (by decide) (by decide) own_ew CR0.1 all0) (g := (mkF m 1 #[.val (.int p1), .val (.int p2), .val (.int p3), .val (.int p4), .val (.int p5), .val (.int p6), .unset, .unset, .unset, .unset, .unset, .unset, .unset, .unset, .unset, .unset] [(.int p1)])) rfl (by rw [hml]; rfl) (argsL := [(.int p1)]) (rest := []) (lenOf pd_12 rfl) rfl (by show 2 * 0 + _ ≤ _; exact Nat.le_of_eq rfl) (hb hby at_1) (fun _ _ => ⟨rfl, e0, (by decide : 0 + 6 ≤ _), (by decide : 0 + 12 ≤ _)⟩)
  dsimp only [Pt.U, Pt.locs, Pt.cells, Pt.slots] at Xq1 hSq1 hgq1 l1 y1 z1 st1 hQ1 C1
  obtain ⟨X1, hS1, hZ1, ho1⟩ := rebS hS0 (by rw [e0]; exact hk0) Xq1 hSq1 hgq1 hZ0 ho0
  subst l1 y1 z1
  obtain ⟨x2, x3, x4, rfl, N5, k6, f7, f8, f9, f10, f11, f12, f13, f14⟩ := hQ1
  have N15 := Fr.app N0 N5
  have ge16 : n0 ≤ x2 := by rw [← O0.1]; exact Nat.le_trans O0.2.1 f7
  have CR17 := CR0.trans C1
  have hk18 : T1.heap.size ≤ T1.heap.size := Nat.le_refl _
  have O19 := O0.keep k6 all0
  obtain ⟨_, _, ⟨T20, L20, k20, n20⟩, -, Xq20, hSq20, hgq20, ⟨Lc20, hQ20, l20, y20, z20, C20⟩, st20⟩ := callSS X1 hx (y := (⟨"com/example/typecheck/typecheck/model/QNameEqualsPinLaw", "str", "(I)Ljava/lang/String;"⟩ : MethodName)) ho1 (mvT hZ1 (own_w hw 0 rfl)) (mvT hZ1 (own_w hw 1 rfl)) (mvT hZ1 (own_w hw 2 rfl)) (mvT hZ1 (own_w hw 3 rfl)) (by decide) (own_backS (W := 0) (rm := ({ frames := 4, cells := 6, slots := 12, locals := 66 } : Room)) (xs := []) (rm_str l Z a0 hw [] p2 zc T1.heap n0 O19 S_C hzc) hZ1 (own_w hw 3 rfl) (own_w hw 2 rfl) (by decide) (by decide) own_ew CR17.1 all0) (g := (mkF m 7 #[.val (.int p1), .val (.int p2), .val (.int p3), .val (.int p4), .val (.int p5), .val (.int p6), .val (.ref x2), .unset, .unset, .unset, .unset, .unset, .unset, .unset, .unset, .unset] [(.int p2)])) rfl (by rw [hml]; rfl) (argsL := [(.int p2)]) (rest := []) (lenOf pd_12 rfl) rfl (by show 2 * 0 + _ ≤ _; exact Nat.le_of_eq rfl) (hb hby at_7) (fun _ _ => ⟨rfl, rfl, (by decide : 6 + 6 ≤ _), (by decide : 12 + 12 ≤ _)⟩)
  dsimp only [Pt.U, Pt.locs, Pt.cells, Pt.slots] at Xq20 hSq20 hgq20 l20 y20 z20 st20 hQ20 C20
  obtain ⟨X20, hS20, hZ20, ho20⟩ := rebS hS1 (by exact hk18) Xq20 hSq20 hgq20 hZ1 ho1
  subst l20 y20 z20
  obtain ⟨x21, x22, x23, rfl, N24, k25, f26, f27, f28, f29, f30, f31, f32, f33⟩ := hQ20
  have N34 := Fr.app N15 N24
  have ge35 : n0 ≤ x21 := by rw [← O19.1]; exact Nat.le_trans O19.2.1 f26
  have ne36 : x2 ≠ x21 := Nat.ne_of_lt (Nat.lt_of_lt_of_le (Exa.lt f8) f26)
  have ne37 : x3 ≠ x21 := Nat.ne_of_lt (Nat.lt_of_lt_of_le (Exa.lt f11) f26)
  have CR38 := CR17.trans C20
  have hk39 : T20.heap.size ≤ T20.heap.size := Nat.le_refl _
  have O40 := O19.keep k25 all0
  have S41 : ∀ t, Steps p.tables e below (T20.setTop (mkF m 16 #[.val (.int p1), .val (.int p2), .val (.int p3), .val (.int p4), .val (.int p5), .val (.int p6), .val (.ref x2), .val (.ref x21), .unset, .unset, .unset, .unset, .unset, .unset, .unset, .unset] [(.int (p6 &&& (1 : Int32)))])) t → Steps p.tables e below (s₁.setTop (mkF m 0 #[.val (.int p1), .val (.int p2), .val (.int p3), .val (.int p4), .val (.int p5), .val (.int p6), .unset, .unset, .unset, .unset, .unset, .unset, .unset, .unset, .unset, .unset] [])) t := by
    intro t kt
    refine XS.iloadN X0.here hx rfl (hb hby at_0) rfl ?_
    show Steps p.tables e below (s₁.setTop (mkF m 1 #[.val (.int p1), .val (.int p2), .val (.int p3), .val (.int p4), .val (.int p5), .val (.int p6), .unset, .unset, .unset, .unset, .unset, .unset, .unset, .unset, .unset, .unset] [(.int p1)])) _
    refine st1.trans ?_
    refine XS.astore X1.here hx rfl (hb hby at_4) rfl rfl (l' := #[.val (.int p1), .val (.int p2), .val (.int p3), .val (.int p4), .val (.int p5), .val (.int p6), .val (.ref x2), .unset, .unset, .unset, .unset, .unset, .unset, .unset, .unset, .unset]) rfl ?_
    refine XS.iloadN X1.here hx rfl (hb hby at_6) rfl ?_
    show Steps p.tables e below (T1.setTop (mkF m 7 #[.val (.int p1), .val (.int p2), .val (.int p3), .val (.int p4), .val (.int p5), .val (.int p6), .val (.ref x2), .unset, .unset, .unset, .unset, .unset, .unset, .unset, .unset, .unset] [(.int p2)])) _
    refine st20.trans ?_
    refine XS.astore X20.here hx rfl (hb hby at_10) rfl rfl (l' := #[.val (.int p1), .val (.int p2), .val (.int p3), .val (.int p4), .val (.int p5), .val (.int p6), .val (.ref x2), .val (.ref x21), .unset, .unset, .unset, .unset, .unset, .unset, .unset, .unset]) rfl ?_
    refine XS.iload X20.here hx rfl (hb hby at_12) rfl ?_
    refine XS.iconst X20.here hx rfl (hb hby at_14) ?_
    refine XS.iand X20.here hx rfl (hb hby at_15) rfl ?_
    exact kt
  rcases Decidable.em ((p6 &&& (1 : Int32)) = (0 : Int32)) with c42 | c42
  · obtain ⟨_, _, ⟨T43, L43, k43, n43⟩, -, Xq43, hSq43, hgq43, ⟨Lc43, hQ43, l43, y43, z43, C43⟩, st43⟩ := callSS X20 hx (y := (⟨"com/example/typecheck/typecheck/model/QNameEqualsPinLaw", "str", "(I)Ljava/lang/String;"⟩ : MethodName)) ho20 (mvT hZ20 (own_w hw 0 rfl)) (mvT hZ20 (own_w hw 1 rfl)) (mvT hZ20 (own_w hw 2 rfl)) (mvT hZ20 (own_w hw 3 rfl)) (by decide) (own_backS (W := 0) (rm := ({ frames := 4, cells := 6, slots := 12, locals := 66 } : Room)) (xs := []) (rm_str l Z a0 hw [] p3 zc T20.heap n0 O40 S_C hzc) hZ20 (own_w hw 3 rfl) (own_w hw 2 rfl) (by decide) (by decide) own_ew CR38.1 all0) (g := (mkF m 27 #[.val (.int p1), .val (.int p2), .val (.int p3), .val (.int p4), .val (.int p5), .val (.int p6), .val (.ref x2), .val (.ref x21), .unset, .unset, .unset, .unset, .unset, .unset, .unset, .unset] [(.int p3)])) rfl (by rw [hml]; rfl) (argsL := [(.int p3)]) (rest := []) (lenOf pd_12 rfl) rfl (by show 2 * 0 + _ ≤ _; exact Nat.le_of_eq rfl) (hb hby at_27) (fun _ _ => ⟨rfl, rfl, (by decide : 12 + 6 ≤ _), (by decide : 24 + 12 ≤ _)⟩)
    dsimp only [Pt.U, Pt.locs, Pt.cells, Pt.slots] at Xq43 hSq43 hgq43 l43 y43 z43 st43 hQ43 C43
    obtain ⟨X43, hS43, hZ43, ho43⟩ := rebS hS20 (by exact hk39) Xq43 hSq43 hgq43 hZ20 ho20
    subst l43 y43 z43
    obtain ⟨x44, x45, x46, rfl, N47, k48, f49, f50, f51, f52, f53, f54, f55, f56⟩ := hQ43
    have N57 := Fr.app N34 N47
    have ge58 : n0 ≤ x44 := by rw [← O40.1]; exact Nat.le_trans O40.2.1 f49
    have f59 := (Exa.keep f8 k25)
    have ne60 : x2 ≠ x44 := Nat.ne_of_lt (Nat.lt_of_lt_of_le (Exa.lt f59) f49)
    have f61 := (Exa.keep f11 k25)
    have ne62 : x3 ≠ x44 := Nat.ne_of_lt (Nat.lt_of_lt_of_le (Exa.lt f61) f49)
    have ne63 : x21 ≠ x44 := Nat.ne_of_lt (Nat.lt_of_lt_of_le (Exa.lt f27) f49)
    have ne64 : x22 ≠ x44 := Nat.ne_of_lt (Nat.lt_of_lt_of_le (Exa.lt f30) f49)
    have CR65 := CR38.trans C43
    have hk66 : T43.heap.size ≤ T43.heap.size := Nat.le_refl _
    have O67 := O40.keep k48 all0
    have S68 : ∀ t, Steps p.tables e below (T43.setTop (mkF m 36 #[.val (.int p1), .val (.int p2), .val (.int p3), .val (.int p4), .val (.int p5), .val (.int p6), .val (.ref x2), .val (.ref x21), .val (.ref x44), .unset, .unset, .unset, .unset, .unset, .unset, .unset] [(.int (p6 &&& (2 : Int32)))])) t → Steps p.tables e below (s₁.setTop (mkF m 0 #[.val (.int p1), .val (.int p2), .val (.int p3), .val (.int p4), .val (.int p5), .val (.int p6), .unset, .unset, .unset, .unset, .unset, .unset, .unset, .unset, .unset, .unset] [])) t := by
      intro t kt
      refine S41 t ?_
      refine XS.ifYes X20.here hx rfl (pc0 := 16) (pc' := 26) rfl (hb hby at_16) rfl ((if0 _ _).trans (teq (c42 : (p6 &&& (1 : Int32)) = (0 : Int32))).1) (by decide) (by decide) ?_
      refine XS.iloadN X20.here hx rfl (hb hby at_26) rfl ?_
      show Steps p.tables e below (T20.setTop (mkF m 27 #[.val (.int p1), .val (.int p2), .val (.int p3), .val (.int p4), .val (.int p5), .val (.int p6), .val (.ref x2), .val (.ref x21), .unset, .unset, .unset, .unset, .unset, .unset, .unset, .unset] [(.int p3)])) _
      refine st43.trans ?_
      refine XS.astore X43.here hx rfl (hb hby at_30) rfl rfl (l' := #[.val (.int p1), .val (.int p2), .val (.int p3), .val (.int p4), .val (.int p5), .val (.int p6), .val (.ref x2), .val (.ref x21), .val (.ref x44), .unset, .unset, .unset, .unset, .unset, .unset, .unset]) rfl ?_
      refine XS.iload X43.here hx rfl (hb hby at_32) rfl ?_
      refine XS.iconst X43.here hx rfl (hb hby at_34) ?_
      refine XS.iand X43.here hx rfl (hb hby at_35) rfl ?_
      exact kt
    rcases Decidable.em ((p6 &&& (2 : Int32)) = (0 : Int32)) with c69 | c69
    · obtain ⟨_, _, ⟨T70, L70, k70, n70⟩, -, Xq70, hSq70, hgq70, ⟨Lc70, hQ70, l70, y70, z70, C70⟩, st70⟩ := callSS X43 hx (y := (⟨"com/example/typecheck/typecheck/model/QNameEqualsPinLaw", "str", "(I)Ljava/lang/String;"⟩ : MethodName)) ho43 (mvT hZ43 (own_w hw 0 rfl)) (mvT hZ43 (own_w hw 1 rfl)) (mvT hZ43 (own_w hw 2 rfl)) (mvT hZ43 (own_w hw 3 rfl)) (by decide) (own_backS (W := 0) (rm := ({ frames := 4, cells := 6, slots := 12, locals := 66 } : Room)) (xs := []) (rm_str l Z a0 hw [] p4 zc T43.heap n0 O67 S_C hzc) hZ43 (own_w hw 3 rfl) (own_w hw 2 rfl) (by decide) (by decide) own_ew CR65.1 all0) (g := (mkF m 47 #[.val (.int p1), .val (.int p2), .val (.int p3), .val (.int p4), .val (.int p5), .val (.int p6), .val (.ref x2), .val (.ref x21), .val (.ref x44), .unset, .unset, .unset, .unset, .unset, .unset, .unset] [(.int p4)])) rfl (by rw [hml]; rfl) (argsL := [(.int p4)]) (rest := []) (lenOf pd_12 rfl) rfl (by show 2 * 0 + _ ≤ _; exact Nat.le_of_eq rfl) (hb hby at_47) (fun _ _ => ⟨rfl, rfl, (by decide : 18 + 6 ≤ _), (by decide : 36 + 12 ≤ _)⟩)
      dsimp only [Pt.U, Pt.locs, Pt.cells, Pt.slots] at Xq70 hSq70 hgq70 l70 y70 z70 st70 hQ70 C70
      obtain ⟨X70, hS70, hZ70, ho70⟩ := rebS hS43 (by exact hk66) Xq70 hSq70 hgq70 hZ43 ho43
      subst l70 y70 z70
      obtain ⟨x71, x72, x73, rfl, N74, k75, f76, f77, f78, f79, f80, f81, f82, f83⟩ := hQ70
      have N84 := Fr.app N57 N74
      have ge85 : n0 ≤ x71 := by rw [← O67.1]; exact Nat.le_trans O67.2.1 f76
      have f86 := (Exa.keep f59 k48)
      have ne87 : x2 ≠ x71 := Nat.ne_of_lt (Nat.lt_of_lt_of_le (Exa.lt f86) f76)
      have f88 := (Exa.keep f61 k48)
      have ne89 : x3 ≠ x71 := Nat.ne_of_lt (Nat.lt_of_lt_of_le (Exa.lt f88) f76)
      have f90 := (Exa.keep f27 k48)
      have ne91 : x21 ≠ x71 := Nat.ne_of_lt (Nat.lt_of_lt_of_le (Exa.lt f90) f76)
      have f92 := (Exa.keep f30 k48)
      have ne93 : x22 ≠ x71 := Nat.ne_of_lt (Nat.lt_of_lt_of_le (Exa.lt f92) f76)
      have ne94 : x44 ≠ x71 := Nat.ne_of_lt (Nat.lt_of_lt_of_le (Exa.lt f50) f76)
      have ne95 : x45 ≠ x71 := Nat.ne_of_lt (Nat.lt_of_lt_of_le (Exa.lt f53) f76)
      have CR96 := CR65.trans C70
      have hk97 : T70.heap.size ≤ T70.heap.size := Nat.le_refl _
      have O98 := O67.keep k75 all0
      obtain ⟨_, _, ⟨T99, L99, k99, n99⟩, -, Xq99, hSq99, hgq99, ⟨Lc99, hQ99, l99, y99, z99, C99⟩, st99⟩ := callSS X70 hx (y := (⟨"com/example/typecheck/typecheck/model/QNameEqualsPinLaw", "str", "(I)Ljava/lang/String;"⟩ : MethodName)) ho70 (mvT hZ70 (own_w hw 0 rfl)) (mvT hZ70 (own_w hw 1 rfl)) (mvT hZ70 (own_w hw 2 rfl)) (mvT hZ70 (own_w hw 3 rfl)) (by decide) (own_backS (W := 0) (rm := ({ frames := 4, cells := 6, slots := 12, locals := 66 } : Room)) (xs := []) (rm_str l Z a0 hw [] p5 zc T70.heap n0 O98 S_C hzc) hZ70 (own_w hw 3 rfl) (own_w hw 2 rfl) (by decide) (by decide) own_ew CR96.1 all0) (g := (mkF m 54 #[.val (.int p1), .val (.int p2), .val (.int p3), .val (.int p4), .val (.int p5), .val (.int p6), .val (.ref x2), .val (.ref x21), .val (.ref x44), .val (.ref x71), .unset, .unset, .unset, .unset, .unset, .unset] [(.int p5)])) rfl (by rw [hml]; rfl) (argsL := [(.int p5)]) (rest := []) (lenOf pd_12 rfl) rfl (by show 2 * 0 + _ ≤ _; exact Nat.le_of_eq rfl) (hb hby at_54) (fun _ _ => ⟨rfl, rfl, (by decide : 24 + 6 ≤ _), (by decide : 48 + 12 ≤ _)⟩)
      dsimp only [Pt.U, Pt.locs, Pt.cells, Pt.slots] at Xq99 hSq99 hgq99 l99 y99 z99 st99 hQ99 C99
      obtain ⟨X99, hS99, hZ99, ho99⟩ := rebS hS70 (by exact hk97) Xq99 hSq99 hgq99 hZ70 ho70
      subst l99 y99 z99
      obtain ⟨x100, x101, x102, rfl, N103, k104, f105, f106, f107, f108, f109, f110, f111, f112⟩ := hQ99
      have N113 := Fr.app N84 N103
      have ge114 : n0 ≤ x100 := by rw [← O98.1]; exact Nat.le_trans O98.2.1 f105
      have f115 := (Exa.keep f86 k75)
      have ne116 : x2 ≠ x100 := Nat.ne_of_lt (Nat.lt_of_lt_of_le (Exa.lt f115) f105)
      have f117 := (Exa.keep f88 k75)
      have ne118 : x3 ≠ x100 := Nat.ne_of_lt (Nat.lt_of_lt_of_le (Exa.lt f117) f105)
      have f119 := (Exa.keep f90 k75)
      have ne120 : x21 ≠ x100 := Nat.ne_of_lt (Nat.lt_of_lt_of_le (Exa.lt f119) f105)
      have f121 := (Exa.keep f92 k75)
      have ne122 : x22 ≠ x100 := Nat.ne_of_lt (Nat.lt_of_lt_of_le (Exa.lt f121) f105)
      have f123 := (Exa.keep f50 k75)
      have ne124 : x44 ≠ x100 := Nat.ne_of_lt (Nat.lt_of_lt_of_le (Exa.lt f123) f105)
      have f125 := (Exa.keep f53 k75)
      have ne126 : x45 ≠ x100 := Nat.ne_of_lt (Nat.lt_of_lt_of_le (Exa.lt f125) f105)
      have ne127 : x71 ≠ x100 := Nat.ne_of_lt (Nat.lt_of_lt_of_le (Exa.lt f77) f105)
      have ne128 : x72 ≠ x100 := Nat.ne_of_lt (Nat.lt_of_lt_of_le (Exa.lt f80) f105)
      have CR129 := CR96.trans C99
      have hk130 : T99.heap.size ≤ T99.heap.size := Nat.le_refl _
      have O131 := O98.keep k104 all0
      obtain ⟨_, _, ⟨T132, L132, k132, n132⟩, -, Xq132, hSq132, hgq132, ⟨Lc132, hQ132, l132, y132, z132, C132⟩, st132⟩ := callSS X99 hx (y := (⟨"com/example/typecheck/typecheck/model/QNameEqualsPinLaw", "str", "(I)Ljava/lang/String;"⟩ : MethodName)) ho99 (mvT hZ99 (own_w hw 0 rfl)) (mvT hZ99 (own_w hw 1 rfl)) (mvT hZ99 (own_w hw 2 rfl)) (mvT hZ99 (own_w hw 3 rfl)) (by decide) (own_backS (W := 0) (rm := ({ frames := 4, cells := 6, slots := 12, locals := 66 } : Room)) (xs := []) (rm_str l Z a0 hw [] ((p6.toUInt32 >>> ((4 : Int32) &&& 31).toUInt32).toInt32) zc T99.heap n0 O131 S_C hzc) hZ99 (own_w hw 3 rfl) (own_w hw 2 rfl) (by decide) (by decide) own_ew CR129.1 all0) (g := (mkF m 63 #[.val (.int p1), .val (.int p2), .val (.int p3), .val (.int p4), .val (.int p5), .val (.int p6), .val (.ref x2), .val (.ref x21), .val (.ref x44), .val (.ref x71), .val (.ref x100), .unset, .unset, .unset, .unset, .unset] [(.int ((p6.toUInt32 >>> ((4 : Int32) &&& 31).toUInt32).toInt32))])) rfl (by rw [hml]; rfl) (argsL := [(.int ((p6.toUInt32 >>> ((4 : Int32) &&& 31).toUInt32).toInt32))]) (rest := []) (lenOf pd_12 rfl) rfl (by show 2 * 0 + _ ≤ _; exact Nat.le_of_eq rfl) (hb hby at_63) (fun _ _ => ⟨rfl, rfl, (by decide : 30 + 6 ≤ _), (by decide : 60 + 12 ≤ _)⟩)
      dsimp only [Pt.U, Pt.locs, Pt.cells, Pt.slots] at Xq132 hSq132 hgq132 l132 y132 z132 st132 hQ132 C132
      obtain ⟨X132, hS132, hZ132, ho132⟩ := rebS hS99 (by exact hk130) Xq132 hSq132 hgq132 hZ99 ho99
      subst l132 y132 z132
      obtain ⟨x133, x134, x135, rfl, N136, k137, f138, f139, f140, f141, f142, f143, f144, f145⟩ := hQ132
      have N146 := Fr.app N113 N136
      have ge147 : n0 ≤ x133 := by rw [← O131.1]; exact Nat.le_trans O131.2.1 f138
      have f148 := (Exa.keep f115 k104)
      have ne149 : x2 ≠ x133 := Nat.ne_of_lt (Nat.lt_of_lt_of_le (Exa.lt f148) f138)
      have f150 := (Exa.keep f117 k104)
      have ne151 : x3 ≠ x133 := Nat.ne_of_lt (Nat.lt_of_lt_of_le (Exa.lt f150) f138)
      have f152 := (Exa.keep f119 k104)
      have ne153 : x21 ≠ x133 := Nat.ne_of_lt (Nat.lt_of_lt_of_le (Exa.lt f152) f138)
      have f154 := (Exa.keep f121 k104)
      have ne155 : x22 ≠ x133 := Nat.ne_of_lt (Nat.lt_of_lt_of_le (Exa.lt f154) f138)
      have f156 := (Exa.keep f123 k104)
      have ne157 : x44 ≠ x133 := Nat.ne_of_lt (Nat.lt_of_lt_of_le (Exa.lt f156) f138)
      have f158 := (Exa.keep f125 k104)
      have ne159 : x45 ≠ x133 := Nat.ne_of_lt (Nat.lt_of_lt_of_le (Exa.lt f158) f138)
      have f160 := (Exa.keep f77 k104)
      have ne161 : x71 ≠ x133 := Nat.ne_of_lt (Nat.lt_of_lt_of_le (Exa.lt f160) f138)
      have f162 := (Exa.keep f80 k104)
      have ne163 : x72 ≠ x133 := Nat.ne_of_lt (Nat.lt_of_lt_of_le (Exa.lt f162) f138)
      have ne164 : x100 ≠ x133 := Nat.ne_of_lt (Nat.lt_of_lt_of_le (Exa.lt f106) f138)
      have ne165 : x101 ≠ x133 := Nat.ne_of_lt (Nat.lt_of_lt_of_le (Exa.lt f109) f138)
      have CR166 := CR129.trans C132
      have hk167 : T132.heap.size ≤ T132.heap.size := Nat.le_refl _
      have O168 := O131.keep k137 all0
      have S169 : ∀ t, Steps p.tables e below (T132.setTop (mkF m 68 #[.val (.int p1), .val (.int p2), .val (.int p3), .val (.int p4), .val (.int p5), .val (.int p6), .val (.ref x2), .val (.ref x21), .val (.ref x44), .val (.ref x71), .val (.ref x100), .val (.ref x133), .unset, .unset, .unset, .unset] [])) t → Steps p.tables e below (s₁.setTop (mkF m 0 #[.val (.int p1), .val (.int p2), .val (.int p3), .val (.int p4), .val (.int p5), .val (.int p6), .unset, .unset, .unset, .unset, .unset, .unset, .unset, .unset, .unset, .unset] [])) t := by
        intro t kt
        refine S68 t ?_
        refine XS.ifYes X43.here hx rfl (pc0 := 36) (pc' := 46) rfl (hb hby at_36) rfl ((if0 _ _).trans (teq (c69 : (p6 &&& (2 : Int32)) = (0 : Int32))).1) (by decide) (by decide) ?_
        refine XS.iloadN X43.here hx rfl (hb hby at_46) rfl ?_
        show Steps p.tables e below (T43.setTop (mkF m 47 #[.val (.int p1), .val (.int p2), .val (.int p3), .val (.int p4), .val (.int p5), .val (.int p6), .val (.ref x2), .val (.ref x21), .val (.ref x44), .unset, .unset, .unset, .unset, .unset, .unset, .unset] [(.int p4)])) _
        refine st70.trans ?_
        refine XS.astore X70.here hx rfl (hb hby at_50) rfl rfl (l' := #[.val (.int p1), .val (.int p2), .val (.int p3), .val (.int p4), .val (.int p5), .val (.int p6), .val (.ref x2), .val (.ref x21), .val (.ref x44), .val (.ref x71), .unset, .unset, .unset, .unset, .unset, .unset]) rfl ?_
        refine XS.iload X70.here hx rfl (hb hby at_52) rfl ?_
        show Steps p.tables e below (T70.setTop (mkF m 54 #[.val (.int p1), .val (.int p2), .val (.int p3), .val (.int p4), .val (.int p5), .val (.int p6), .val (.ref x2), .val (.ref x21), .val (.ref x44), .val (.ref x71), .unset, .unset, .unset, .unset, .unset, .unset] [(.int p5)])) _
        refine st99.trans ?_
        refine XS.astore X99.here hx rfl (hb hby at_57) rfl rfl (l' := #[.val (.int p1), .val (.int p2), .val (.int p3), .val (.int p4), .val (.int p5), .val (.int p6), .val (.ref x2), .val (.ref x21), .val (.ref x44), .val (.ref x71), .val (.ref x100), .unset, .unset, .unset, .unset, .unset]) rfl ?_
        refine XS.iload X99.here hx rfl (hb hby at_59) rfl ?_
        refine XS.iconst X99.here hx rfl (hb hby at_61) ?_
        refine XS.iushr X99.here hx rfl (hb hby at_62) rfl ?_
        show Steps p.tables e below (T99.setTop (mkF m 63 #[.val (.int p1), .val (.int p2), .val (.int p3), .val (.int p4), .val (.int p5), .val (.int p6), .val (.ref x2), .val (.ref x21), .val (.ref x44), .val (.ref x71), .val (.ref x100), .unset, .unset, .unset, .unset, .unset] [(.int ((p6.toUInt32 >>> ((4 : Int32) &&& 31).toUInt32).toInt32))])) _
        refine st132.trans ?_
        refine XS.astore X132.here hx rfl (hb hby at_66) rfl rfl (l' := #[.val (.int p1), .val (.int p2), .val (.int p3), .val (.int p4), .val (.int p5), .val (.int p6), .val (.ref x2), .val (.ref x21), .val (.ref x44), .val (.ref x71), .val (.ref x100), .val (.ref x133), .unset, .unset, .unset, .unset]) rfl ?_
        exact kt
      obtain ⟨T170, h170, X170, e170, E170, A170, D170, -, st170⟩ := newO X132 hx hZ132 ho132 (own_w hw 26 rfl) (own_w hw 27 rfl) (own_w hw 28 rfl) rfl (g := (mkF m 68 #[.val (.int p1), .val (.int p2), .val (.int p3), .val (.int p4), .val (.int p5), .val (.int p6), .val (.ref x2), .val (.ref x21), .val (.ref x44), .val (.ref x71), .val (.ref x100), .val (.ref x133), .unset, .unset, .unset, .unset] [])) rfl (hb hby at_68) (by decide) (by decide)
      obtain ⟨b170, g170⟩ : ∃ z, z = T132.heap.size := ⟨_, rfl⟩
      have ge_b170 : n0 ≤ b170 := by rw [g170, ← O168.1]; exact O168.2.1
      have f171 := (Exa.keep f148 k137)
      have ne172 : x2 ≠ b170 := Nat.ne_of_lt (Nat.lt_of_lt_of_le (Exa.lt f171) (Nat.le_of_eq g170.symm))
      have f173 := (Exa.keep f150 k137)
      have ne174 : x3 ≠ b170 := Nat.ne_of_lt (Nat.lt_of_lt_of_le (Exa.lt f173) (Nat.le_of_eq g170.symm))
      have f175 := (Exa.keep f152 k137)
      have ne176 : x21 ≠ b170 := Nat.ne_of_lt (Nat.lt_of_lt_of_le (Exa.lt f175) (Nat.le_of_eq g170.symm))
      have f177 := (Exa.keep f154 k137)
      have ne178 : x22 ≠ b170 := Nat.ne_of_lt (Nat.lt_of_lt_of_le (Exa.lt f177) (Nat.le_of_eq g170.symm))
      have f179 := (Exa.keep f156 k137)
      have ne180 : x44 ≠ b170 := Nat.ne_of_lt (Nat.lt_of_lt_of_le (Exa.lt f179) (Nat.le_of_eq g170.symm))
      have f181 := (Exa.keep f158 k137)
      have ne182 : x45 ≠ b170 := Nat.ne_of_lt (Nat.lt_of_lt_of_le (Exa.lt f181) (Nat.le_of_eq g170.symm))
      have f183 := (Exa.keep f160 k137)
      have ne184 : x71 ≠ b170 := Nat.ne_of_lt (Nat.lt_of_lt_of_le (Exa.lt f183) (Nat.le_of_eq g170.symm))
      have f185 := (Exa.keep f162 k137)
      have ne186 : x72 ≠ b170 := Nat.ne_of_lt (Nat.lt_of_lt_of_le (Exa.lt f185) (Nat.le_of_eq g170.symm))
      have f187 := (Exa.keep f106 k137)
      have ne188 : x100 ≠ b170 := Nat.ne_of_lt (Nat.lt_of_lt_of_le (Exa.lt f187) (Nat.le_of_eq g170.symm))
      have f189 := (Exa.keep f109 k137)
      have ne190 : x101 ≠ b170 := Nat.ne_of_lt (Nat.lt_of_lt_of_le (Exa.lt f189) (Nat.le_of_eq g170.symm))
      have ne191 : x133 ≠ b170 := Nat.ne_of_lt (Nat.lt_of_lt_of_le (Exa.lt f139) (Nat.le_of_eq g170.symm))
      have ne192 : x134 ≠ b170 := Nat.ne_of_lt (Nat.lt_of_lt_of_le (Exa.lt f142) (Nat.le_of_eq g170.symm))
      rw [← g170] at A170 D170 st170
      have hk193 := Nat.le_trans hk167 E170.1
      have O194 := O168.ext E170
      have F195 : Fld Z h170 b170 "com/example/typecheck/typecheck/model/QName" "prefix" "Ljava/lang/String;" .null := D170 (Or.inr (own_w hw 34 rfl)) (ty := (.object "java/lang/String")) (by decide)
      have F196 : Fld Z h170 b170 "com/example/typecheck/typecheck/model/QName" "namespace" "Ljava/lang/String;" .null := D170 (Or.inr (own_w hw 36 rfl)) (ty := (.object "java/lang/String")) (by decide)
      have F197 : Fld Z h170 b170 "com/example/typecheck/typecheck/model/QName" "localName" "Ljava/lang/String;" .null := D170 (Or.inr (own_w hw 38 rfl)) (ty := (.object "java/lang/String")) (by decide)
      have F198 : Fld Z h170 b170 "com/example/typecheck/typecheck/model/QName" "hash" "I" (.int (0 : Int32)) := D170 (Or.inr (own_w hw 59 rfl)) (ty := .int) (by decide)
      have f200 := (Exa.ext E170 f171)
      have f201 := (Fld.ext E170 (Fld.keep (Fld.keep (Fld.keep (Fld.keep (Fld.keep f9 k25 nin0) k48 nin0) k75 nin0) k104 nin0) k137 nin0))
      have f202 := (Fld.ext E170 (Fld.keep (Fld.keep (Fld.keep (Fld.keep (Fld.keep f10 k25 nin0) k48 nin0) k75 nin0) k104 nin0) k137 nin0))
      have f203 := (Exa.ext E170 f173)
      have f204 := (Arv.ext (Arv.keep (Arv.keep (Arv.keep (Arv.keep (Arv.keep f12 k25 nin0) k48 nin0) k75 nin0) k104 nin0) k137 nin0) E170)
      have f205 := (Fld.ext E170 (Fld.keep (Fld.keep (Fld.keep (Fld.keep (Fld.keep f13 k25 nin0) k48 nin0) k75 nin0) k104 nin0) k137 nin0))
      have f206 := (Fld.ext E170 (Fld.keep (Fld.keep (Fld.keep (Fld.keep (Fld.keep f14 k25 nin0) k48 nin0) k75 nin0) k104 nin0) k137 nin0))
      have f207 := (Exa.ext E170 f175)
      have f208 := (Fld.ext E170 (Fld.keep (Fld.keep (Fld.keep (Fld.keep f28 k48 nin0) k75 nin0) k104 nin0) k137 nin0))
      have f209 := (Fld.ext E170 (Fld.keep (Fld.keep (Fld.keep (Fld.keep f29 k48 nin0) k75 nin0) k104 nin0) k137 nin0))
      have f210 := (Exa.ext E170 f177)
      have f211 := (Arv.ext (Arv.keep (Arv.keep (Arv.keep (Arv.keep f31 k48 nin0) k75 nin0) k104 nin0) k137 nin0) E170)
      have f212 := (Fld.ext E170 (Fld.keep (Fld.keep (Fld.keep (Fld.keep f32 k48 nin0) k75 nin0) k104 nin0) k137 nin0))
      have f213 := (Fld.ext E170 (Fld.keep (Fld.keep (Fld.keep (Fld.keep f33 k48 nin0) k75 nin0) k104 nin0) k137 nin0))
      obtain ⟨_, _, ⟨T199, L199, k199, n199⟩, -, X199, ⟨Lc199, hQ199, l199, y199, z199⟩, st199⟩ := X170.specialBack hx (y := (⟨"com/example/typecheck/typecheck/model/QName", "<init>", "(Ljava/lang/String;Ljava/lang/String;Ljava/lang/String;)V"⟩ : MethodName)) rfl ho132 (mvT hZ132 (own_w hw 29 rfl)) (mvT hZ132 (own_w hw 30 rfl)) (mvT hZ132 (own_w hw 31 rfl)) (by decide) (backOf (W := 1) (rm_qini l Z a0 hw [] b170 x100 x2 x3 x4 (own_cs p1) x21 x22 x23 (own_cs p2) zc h170 n0 O194 A170 ge_b170 F195 F196 F197 F198 f200 f201 f202 f203 f204 f205 f206 ge16 f207 f208 f209 f210 f211 f212 f213 ge35 ne36 (own_csok p1) (own_csok p2) S_C hzc) hZ132 (own_w hw 31 rfl) (own_w hw 28 rfl) (by decide) (by decide)) (g := (mkF m 78 #[.val (.int p1), .val (.int p2), .val (.int p3), .val (.int p4), .val (.int p5), .val (.int p6), .val (.ref x2), .val (.ref x21), .val (.ref x44), .val (.ref x71), .val (.ref x100), .val (.ref x133), .unset, .unset, .unset, .unset] [(.ref x21), (.ref x2), (.ref x100), (.ref b170), (.ref b170)])) rfl (by rw [hml]; rfl) (Steps.refl _) (a := b170) (argsL := [(.ref x100), (.ref x2), (.ref x21)]) (rest := [(.ref b170)]) (lenOf pd_13 rfl) rfl (by show 2 * 0 + _ ≤ _; exact Nat.le_of_eq rfl) (hb hby at_78) (fun _ _ => ⟨rfl, e170, (by decide : 37 + 0 ≤ _), (by decide : 76 + 0 ≤ _)⟩)
      dsimp only [Pt.U, Pt.locs, Pt.cells, Pt.slots] at X199 l199 y199 z199 st199 hQ199
      subst l199 y199 z199
      obtain ⟨rfl, N214, k215, f216, f217, f218, f219, f220, f221, f222, f223, f224, f225⟩ := hQ199
      have N226 := Fr.app N146 N214
      have hk227 := Nat.le_trans hk193 k215.1
      have O228 := O194.keep k215 (allS ge_b170 (allS ge16 (allS ge35 all0)))
      obtain ⟨T229, h229, X229, e229, E229, A229, D229, -, st229⟩ := newO X199 hx hZ132 ho132 (own_w hw 26 rfl) (own_w hw 27 rfl) (own_w hw 28 rfl) rfl (g := (mkF m 83 #[.val (.int p1), .val (.int p2), .val (.int p3), .val (.int p4), .val (.int p5), .val (.int p6), .val (.ref x2), .val (.ref x21), .val (.ref x44), .val (.ref x71), .val (.ref x100), .val (.ref x133), .val (.ref b170), .unset, .unset, .unset] [])) rfl (hb hby at_83) (by decide) (by decide)
      obtain ⟨b229, g229⟩ : ∃ z, z = T199.heap.size := ⟨_, rfl⟩
      have ge_b229 : n0 ≤ b229 := by rw [g229, ← O228.1]; exact O228.2.1
      have ne230 : x2 ≠ b229 := Nat.ne_of_lt (Nat.lt_of_lt_of_le (Exa.lt f220) (Nat.le_of_eq g229.symm))
      have f231 := (Exa.keep f203 k215)
      have ne232 : x3 ≠ b229 := Nat.ne_of_lt (Nat.lt_of_lt_of_le (Exa.lt f231) (Nat.le_of_eq g229.symm))
      have ne233 : x21 ≠ b229 := Nat.ne_of_lt (Nat.lt_of_lt_of_le (Exa.lt f223) (Nat.le_of_eq g229.symm))
      have f234 := (Exa.keep f210 k215)
      have ne235 : x22 ≠ b229 := Nat.ne_of_lt (Nat.lt_of_lt_of_le (Exa.lt f234) (Nat.le_of_eq g229.symm))
      have f236 := (Exa.keep (Exa.ext E170 f179) k215)
      have ne237 : x44 ≠ b229 := Nat.ne_of_lt (Nat.lt_of_lt_of_le (Exa.lt f236) (Nat.le_of_eq g229.symm))
      have f238 := (Exa.keep (Exa.ext E170 f181) k215)
      have ne239 : x45 ≠ b229 := Nat.ne_of_lt (Nat.lt_of_lt_of_le (Exa.lt f238) (Nat.le_of_eq g229.symm))
      have f240 := (Exa.keep (Exa.ext E170 f183) k215)
      have ne241 : x71 ≠ b229 := Nat.ne_of_lt (Nat.lt_of_lt_of_le (Exa.lt f240) (Nat.le_of_eq g229.symm))
      have f242 := (Exa.keep (Exa.ext E170 f185) k215)
      have ne243 : x72 ≠ b229 := Nat.ne_of_lt (Nat.lt_of_lt_of_le (Exa.lt f242) (Nat.le_of_eq g229.symm))
      have f244 := (Exa.keep (Exa.ext E170 f187) k215)
      have ne245 : x100 ≠ b229 := Nat.ne_of_lt (Nat.lt_of_lt_of_le (Exa.lt f244) (Nat.le_of_eq g229.symm))
      have f246 := (Exa.keep (Exa.ext E170 f189) k215)
      have ne247 : x101 ≠ b229 := Nat.ne_of_lt (Nat.lt_of_lt_of_le (Exa.lt f246) (Nat.le_of_eq g229.symm))
      have f248 := (Exa.keep (Exa.ext E170 f139) k215)
      have ne249 : x133 ≠ b229 := Nat.ne_of_lt (Nat.lt_of_lt_of_le (Exa.lt f248) (Nat.le_of_eq g229.symm))
      have f250 := (Exa.keep (Exa.ext E170 f142) k215)
      have ne251 : x134 ≠ b229 := Nat.ne_of_lt (Nat.lt_of_lt_of_le (Exa.lt f250) (Nat.le_of_eq g229.symm))
      have ne252 : b170 ≠ b229 := Nat.ne_of_lt (Nat.lt_of_lt_of_le (Exa.lt f216) (Nat.le_of_eq g229.symm))
      rw [← g229] at A229 D229 st229
      have hk253 := Nat.le_trans hk227 E229.1
      have O254 := O228.ext E229
      have F255 : Fld Z h229 b229 "com/example/typecheck/typecheck/model/QName" "prefix" "Ljava/lang/String;" .null := D229 (Or.inr (own_w hw 34 rfl)) (ty := (.object "java/lang/String")) (by decide)
      have F256 : Fld Z h229 b229 "com/example/typecheck/typecheck/model/QName" "namespace" "Ljava/lang/String;" .null := D229 (Or.inr (own_w hw 36 rfl)) (ty := (.object "java/lang/String")) (by decide)
      have F257 : Fld Z h229 b229 "com/example/typecheck/typecheck/model/QName" "localName" "Ljava/lang/String;" .null := D229 (Or.inr (own_w hw 38 rfl)) (ty := (.object "java/lang/String")) (by decide)
      have F258 : Fld Z h229 b229 "com/example/typecheck/typecheck/model/QName" "hash" "I" (.int (0 : Int32)) := D229 (Or.inr (own_w hw 59 rfl)) (ty := .int) (by decide)
      have f260 := (Exa.ext E229 f236)
      have f261 := (Fld.ext E229 (Fld.keep (Fld.ext E170 (Fld.keep (Fld.keep (Fld.keep f51 k75 nin0) k104 nin0) k137 nin0)) k215 (ninS ne180 (ninS (Ne.symm ne60) (ninS (Ne.symm ne63) nin0)))))
      have f262 := (Fld.ext E229 (Fld.keep (Fld.ext E170 (Fld.keep (Fld.keep (Fld.keep f52 k75 nin0) k104 nin0) k137 nin0)) k215 (ninS ne180 (ninS (Ne.symm ne60) (ninS (Ne.symm ne63) nin0)))))
      have f263 := (Exa.ext E229 f238)
      have f264 := (Exa.ext E229 f220)
      have f265 := (Exa.ext E229 f223)
      have f266 := (Arv.ext (Arv.keep (Arv.ext (Arv.keep (Arv.keep (Arv.keep f54 k75 nin0) k104 nin0) k137 nin0) E170) k215 (ninS ne182 (ninS (own_exane f263 f264 (by decide)) (ninS (own_exane f263 f265 (by decide)) nin0)))) E229)
      have f267 := (Fld.ext E229 (Fld.keep (Fld.ext E170 (Fld.keep (Fld.keep (Fld.keep f55 k75 nin0) k104 nin0) k137 nin0)) k215 (ninS ne180 (ninS (Ne.symm ne60) (ninS (Ne.symm ne63) nin0)))))
      have f268 := (Fld.ext E229 (Fld.keep (Fld.ext E170 (Fld.keep (Fld.keep (Fld.keep f56 k75 nin0) k104 nin0) k137 nin0)) k215 (ninS ne180 (ninS (Ne.symm ne60) (ninS (Ne.symm ne63) nin0)))))
      have f269 := (Exa.ext E229 f240)
      have f270 := (Fld.ext E229 (Fld.keep (Fld.ext E170 (Fld.keep (Fld.keep f78 k104 nin0) k137 nin0)) k215 (ninS ne184 (ninS (Ne.symm ne87) (ninS (Ne.symm ne91) nin0)))))
      have f271 := (Fld.ext E229 (Fld.keep (Fld.ext E170 (Fld.keep (Fld.keep f79 k104 nin0) k137 nin0)) k215 (ninS ne184 (ninS (Ne.symm ne87) (ninS (Ne.symm ne91) nin0)))))
      have f272 := (Exa.ext E229 f242)
      have f273 := (Arv.ext (Arv.keep (Arv.ext (Arv.keep (Arv.keep f81 k104 nin0) k137 nin0) E170) k215 (ninS ne186 (ninS (own_exane f272 f264 (by decide)) (ninS (own_exane f272 f265 (by decide)) nin0)))) E229)
      have f274 := (Fld.ext E229 (Fld.keep (Fld.ext E170 (Fld.keep (Fld.keep f82 k104 nin0) k137 nin0)) k215 (ninS ne184 (ninS (Ne.symm ne87) (ninS (Ne.symm ne91) nin0)))))
      have f275 := (Fld.ext E229 (Fld.keep (Fld.ext E170 (Fld.keep (Fld.keep f83 k104 nin0) k137 nin0)) k215 (ninS ne184 (ninS (Ne.symm ne87) (ninS (Ne.symm ne91) nin0)))))
      obtain ⟨_, _, ⟨T259, L259, k259, n259⟩, -, X259, ⟨Lc259, hQ259, l259, y259, z259⟩, st259⟩ := X229.specialBack hx (y := (⟨"com/example/typecheck/typecheck/model/QName", "<init>", "(Ljava/lang/String;Ljava/lang/String;Ljava/lang/String;)V"⟩ : MethodName)) rfl ho132 (mvT hZ132 (own_w hw 29 rfl)) (mvT hZ132 (own_w hw 30 rfl)) (mvT hZ132 (own_w hw 31 rfl)) (by decide) (backOf (W := 1) (rm_qini l Z a0 hw [] b229 x133 x44 x45 x46 (own_cs p3) x71 x72 x73 (own_cs p4) zc h229 n0 O254 A229 ge_b229 F255 F256 F257 F258 f260 f261 f262 f263 f266 f267 f268 ge58 f269 f270 f271 f272 f273 f274 f275 ge85 ne94 (own_csok p3) (own_csok p4) S_C hzc) hZ132 (own_w hw 31 rfl) (own_w hw 28 rfl) (by decide) (by decide)) (g := (mkF m 93 #[.val (.int p1), .val (.int p2), .val (.int p3), .val (.int p4), .val (.int p5), .val (.int p6), .val (.ref x2), .val (.ref x21), .val (.ref x44), .val (.ref x71), .val (.ref x100), .val (.ref x133), .val (.ref b170), .unset, .unset, .unset] [(.ref x71), (.ref x44), (.ref x133), (.ref b229), (.ref b229)])) rfl (by rw [hml]; rfl) (Steps.refl _) (a := b229) (argsL := [(.ref x133), (.ref x44), (.ref x71)]) (rest := [(.ref b229)]) (lenOf pd_13 rfl) rfl (by show 2 * 0 + _ ≤ _; exact Nat.le_of_eq rfl) (hb hby at_93) (fun _ _ => ⟨rfl, e229, (by decide : 38 + 0 ≤ _), (by decide : 80 + 0 ≤ _)⟩)
      dsimp only [Pt.U, Pt.locs, Pt.cells, Pt.slots] at X259 l259 y259 z259 st259 hQ259
      subst l259 y259 z259
      obtain ⟨rfl, N276, k277, f278, f279, f280, f281, f282, f283, f284, f285, f286, f287⟩ := hQ259
      have N288 := Fr.app N226 N276
      have hk289 := Nat.le_trans hk253 k277.1
      have O290 := O254.keep k277 (allS ge_b229 (allS ge58 (allS ge85 all0)))
      have S291 : ∀ t, Steps p.tables e below (T259.setTop (mkF m 108 #[.val (.int p1), .val (.int p2), .val (.int p3), .val (.int p4), .val (.int p5), .val (.int p6), .val (.ref x2), .val (.ref x21), .val (.ref x44), .val (.ref x71), .val (.ref x100), .val (.ref x133), .val (.ref b170), .val (.ref b229), .val (.int (((p6.toUInt32 >>> ((2 : Int32) &&& 31).toUInt32).toInt32) &&& (3 : Int32))), .unset] [(.int (((p6.toUInt32 >>> ((2 : Int32) &&& 31).toUInt32).toInt32) &&& (3 : Int32)))])) t → Steps p.tables e below (s₁.setTop (mkF m 0 #[.val (.int p1), .val (.int p2), .val (.int p3), .val (.int p4), .val (.int p5), .val (.int p6), .unset, .unset, .unset, .unset, .unset, .unset, .unset, .unset, .unset, .unset] [])) t := by
        intro t kt
        refine S169 t ?_
        refine st170 _ ?_
        refine XS.dup X170.here hx rfl (hb hby at_71) rfl rfl ?_
        refine XS.aload X170.here hx rfl (hb hby at_72) rfl rfl ?_
        refine XS.aload X170.here hx rfl (hb hby at_74) rfl rfl ?_
        refine XS.aload X170.here hx rfl (hb hby at_76) rfl rfl ?_
        show Steps p.tables e below (T170.setTop (mkF m 78 #[.val (.int p1), .val (.int p2), .val (.int p3), .val (.int p4), .val (.int p5), .val (.int p6), .val (.ref x2), .val (.ref x21), .val (.ref x44), .val (.ref x71), .val (.ref x100), .val (.ref x133), .unset, .unset, .unset, .unset] [(.ref x21), (.ref x2), (.ref x100), (.ref b170), (.ref b170)])) _
        refine st199.trans ?_
        refine XS.astore X199.here hx rfl (hb hby at_81) rfl rfl (l' := #[.val (.int p1), .val (.int p2), .val (.int p3), .val (.int p4), .val (.int p5), .val (.int p6), .val (.ref x2), .val (.ref x21), .val (.ref x44), .val (.ref x71), .val (.ref x100), .val (.ref x133), .val (.ref b170), .unset, .unset, .unset]) rfl ?_
        show Steps p.tables e below (T199.setTop (mkF m 83 #[.val (.int p1), .val (.int p2), .val (.int p3), .val (.int p4), .val (.int p5), .val (.int p6), .val (.ref x2), .val (.ref x21), .val (.ref x44), .val (.ref x71), .val (.ref x100), .val (.ref x133), .val (.ref b170), .unset, .unset, .unset] [])) _
        refine st229 _ ?_
        refine XS.dup X229.here hx rfl (hb hby at_86) rfl rfl ?_
        refine XS.aload X229.here hx rfl (hb hby at_87) rfl rfl ?_
        refine XS.aload X229.here hx rfl (hb hby at_89) rfl rfl ?_
        refine XS.aload X229.here hx rfl (hb hby at_91) rfl rfl ?_
        show Steps p.tables e below (T229.setTop (mkF m 93 #[.val (.int p1), .val (.int p2), .val (.int p3), .val (.int p4), .val (.int p5), .val (.int p6), .val (.ref x2), .val (.ref x21), .val (.ref x44), .val (.ref x71), .val (.ref x100), .val (.ref x133), .val (.ref b170), .unset, .unset, .unset] [(.ref x71), (.ref x44), (.ref x133), (.ref b229), (.ref b229)])) _
        refine st259.trans ?_
        refine XS.astore X259.here hx rfl (hb hby at_96) rfl rfl (l' := #[.val (.int p1), .val (.int p2), .val (.int p3), .val (.int p4), .val (.int p5), .val (.int p6), .val (.ref x2), .val (.ref x21), .val (.ref x44), .val (.ref x71), .val (.ref x100), .val (.ref x133), .val (.ref b170), .val (.ref b229), .unset, .unset]) rfl ?_
        refine XS.iload X259.here hx rfl (hb hby at_98) rfl ?_
        refine XS.iconst X259.here hx rfl (hb hby at_100) ?_
        refine XS.iushr X259.here hx rfl (hb hby at_101) rfl ?_
        refine XS.iconst X259.here hx rfl (hb hby at_102) ?_
        show Steps p.tables e below (T259.setTop (mkF m 103 #[.val (.int p1), .val (.int p2), .val (.int p3), .val (.int p4), .val (.int p5), .val (.int p6), .val (.ref x2), .val (.ref x21), .val (.ref x44), .val (.ref x71), .val (.ref x100), .val (.ref x133), .val (.ref b170), .val (.ref b229), .unset, .unset] [(.int (3 : Int32)), (.int ((p6.toUInt32 >>> ((2 : Int32) &&& 31).toUInt32).toInt32))])) _
        refine XS.iand X259.here hx rfl (hb hby at_103) rfl ?_
        refine XS.istore X259.here hx rfl (hb hby at_104) rfl (l' := #[.val (.int p1), .val (.int p2), .val (.int p3), .val (.int p4), .val (.int p5), .val (.int p6), .val (.ref x2), .val (.ref x21), .val (.ref x44), .val (.ref x71), .val (.ref x100), .val (.ref x133), .val (.ref b170), .val (.ref b229), .val (.int (((p6.toUInt32 >>> ((2 : Int32) &&& 31).toUInt32).toInt32) &&& (3 : Int32))), .unset]) rfl ?_
        refine XS.iload X259.here hx rfl (hb hby at_106) rfl ?_
        exact kt
      rcases Decidable.em ((((p6.toUInt32 >>> ((2 : Int32) &&& 31).toUInt32).toInt32) &&& (3 : Int32)) = (0 : Int32)) with c292 | c292
      · have f294 := (Exa.keep f264 k277)
        have f295 := (Fld.keep (Fld.ext E229 f221) k277 (ninS ne230 (ninS ne60 (ninS ne87 nin0))))
        have f296 := (Fld.keep (Fld.ext E229 f222) k277 (ninS ne230 (ninS ne60 (ninS ne87 nin0))))
        have f297 := (Exa.keep (Exa.ext E229 f231) k277)
        have f298 := (Arv.keep (Arv.ext (Arv.keep f204 k215 (ninS ne174 (ninS (own_exane f297 f294 (by decide)) (ninS ne37 nin0)))) E229) k277 (ninS ne232 (ninS ne62 (ninS ne89 nin0))))
        have f299 := (Exa.keep f263 k277)
        have f300 := (Arv.keep f266 k277 (ninS ne239 (ninS (own_exane f299 f282 (by decide)) (ninS ne95 nin0))))
        obtain ⟨_, _, ⟨T293, L293, k293, n293⟩, -, X293, ⟨Lc293, hQ293, l293, y293, z293⟩, st293⟩ := Jvm.LawKit.callS X259 hx (y := (⟨"com/example/typecheck/typecheck/model/QNameEqualsPinLaw", "same", "(Ljava/lang/String;Ljava/lang/String;)Z"⟩ : MethodName)) ho132 (mvT hZ132 (own_w hw 60 rfl)) (mvT hZ132 (own_w hw 61 rfl)) (mvT hZ132 (own_w hw 2 rfl)) (mvT hZ132 (own_w hw 62 rfl)) (by decide) (backOf (W := 0) (rm_same l Z a0 hw [] x2 x3 x4 (own_cs p1) x44 x45 x46 (own_cs p3) zc fm T259.heap n0 O290 f294 f295 f296 f297 f298 f282 f283 f284 f299 f300 (own_csok p1) (own_csok p3) S_C hzc S_F hfm) hZ132 (own_w hw 62 rfl) (own_w hw 2 rfl) (by decide) (by decide)) (g := (mkF m 115 #[.val (.int p1), .val (.int p2), .val (.int p3), .val (.int p4), .val (.int p5), .val (.int p6), .val (.ref x2), .val (.ref x21), .val (.ref x44), .val (.ref x71), .val (.ref x100), .val (.ref x133), .val (.ref b170), .val (.ref b229), .val (.int (((p6.toUInt32 >>> ((2 : Int32) &&& 31).toUInt32).toInt32) &&& (3 : Int32))), .unset] [(.ref x44), (.ref x2)])) rfl (by rw [hml]; rfl) (argsL := [(.ref x2), (.ref x44)]) (rest := []) (lenOf pd_14 rfl) rfl (by show 2 * 0 + _ ≤ _; exact Nat.le_of_eq rfl) (hb hby at_115) (fun _ _ => ⟨rfl, rfl, (by decide : 38 + 0 ≤ _), (by decide : 80 + 0 ≤ _)⟩)
        dsimp only [Pt.U, Pt.locs, Pt.cells, Pt.slots] at X293 l293 y293 z293 st293 hQ293
        subst l293 y293 z293
        obtain ⟨rfl, N301, k302⟩ := hQ293
        have N303 := Fr.app N288 N301
        have S304 : ∀ t, Steps p.tables e below (T293.setTop (mkF m 118 #[.val (.int p1), .val (.int p2), .val (.int p3), .val (.int p4), .val (.int p5), .val (.int p6), .val (.ref x2), .val (.ref x21), .val (.ref x44), .val (.ref x71), .val (.ref x100), .val (.ref x133), .val (.ref b170), .val (.ref b229), .val (.int (((p6.toUInt32 >>> ((2 : Int32) &&& 31).toUInt32).toInt32) &&& (3 : Int32))), .unset] [(.int (own_eqI (own_cs p1) (own_cs p3)))])) t → Steps p.tables e below (s₁.setTop (mkF m 0 #[.val (.int p1), .val (.int p2), .val (.int p3), .val (.int p4), .val (.int p5), .val (.int p6), .unset, .unset, .unset, .unset, .unset, .unset, .unset, .unset, .unset, .unset] [])) t := by
          intro t kt
          refine S291 t ?_
          refine XS.ifNo X259.here hx rfl (hb hby at_108) rfl ((if0 _ _).trans (teq (c292 : (((p6.toUInt32 >>> ((2 : Int32) &&& 31).toUInt32).toInt32) &&& (3 : Int32)) = (0 : Int32))).2) ?_
          refine XS.aload X259.here hx rfl (hb hby at_111) rfl rfl ?_
          refine XS.aload X259.here hx rfl (hb hby at_113) rfl rfl ?_
          show Steps p.tables e below (T259.setTop (mkF m 115 #[.val (.int p1), .val (.int p2), .val (.int p3), .val (.int p4), .val (.int p5), .val (.int p6), .val (.ref x2), .val (.ref x21), .val (.ref x44), .val (.ref x71), .val (.ref x100), .val (.ref x133), .val (.ref b170), .val (.ref b229), .val (.int (((p6.toUInt32 >>> ((2 : Int32) &&& 31).toUInt32).toInt32) &&& (3 : Int32))), .unset] [(.ref x44), (.ref x2)])) _
          refine st293 _ ?_
          exact kt
        rcases Decidable.em ((own_cs p1) = (own_cs p3)) with c305 | c305
        · have f307 := (Exa.keep f265 k277)
          have f308 := (Fld.keep (Fld.ext E229 f224) k277 (ninS ne233 (ninS ne63 (ninS ne91 nin0))))
          have f309 := (Fld.keep (Fld.ext E229 f225) k277 (ninS ne233 (ninS ne63 (ninS ne91 nin0))))
          have f310 := (Exa.keep (Exa.ext E229 f234) k277)
          have f311 := (Arv.keep (Arv.ext (Arv.keep f211 k215 (ninS ne178 (ninS (own_exane f310 f294 (by decide)) (ninS (own_exane f310 f307 (by decide)) nin0)))) E229) k277 (ninS ne235 (ninS ne64 (ninS ne93 nin0))))
          have f312 := (Exa.keep f272 k277)
          have f313 := (Arv.keep f273 k277 (ninS ne243 (ninS (own_exane f312 f282 (by decide)) (ninS (own_exane f312 f285 (by decide)) nin0))))
          obtain ⟨_, _, ⟨T306, L306, k306, n306⟩, -, X306, ⟨Lc306, hQ306, l306, y306, z306⟩, st306⟩ := Jvm.LawKit.callS X293 hx (y := (⟨"com/example/typecheck/typecheck/model/QNameEqualsPinLaw", "same", "(Ljava/lang/String;Ljava/lang/String;)Z"⟩ : MethodName)) ho132 (mvT hZ132 (own_w hw 60 rfl)) (mvT hZ132 (own_w hw 61 rfl)) (mvT hZ132 (own_w hw 2 rfl)) (mvT hZ132 (own_w hw 62 rfl)) (by decide) (backOf (W := 0) (rm_same l Z a0 hw [] x21 x22 x23 (own_cs p2) x71 x72 x73 (own_cs p4) zc fm T259.heap n0 O290 f307 f308 f309 f310 f311 f285 f286 f287 f312 f313 (own_csok p2) (own_csok p4) S_C hzc S_F hfm) hZ132 (own_w hw 62 rfl) (own_w hw 2 rfl) (by decide) (by decide)) (g := (mkF m 125 #[.val (.int p1), .val (.int p2), .val (.int p3), .val (.int p4), .val (.int p5), .val (.int p6), .val (.ref x2), .val (.ref x21), .val (.ref x44), .val (.ref x71), .val (.ref x100), .val (.ref x133), .val (.ref b170), .val (.ref b229), .val (.int (((p6.toUInt32 >>> ((2 : Int32) &&& 31).toUInt32).toInt32) &&& (3 : Int32))), .unset] [(.ref x71), (.ref x21)])) rfl (by rw [hml]; rfl) (argsL := [(.ref x21), (.ref x71)]) (rest := []) (lenOf pd_14 rfl) rfl (by show 2 * 0 + _ ≤ _; exact Nat.le_of_eq rfl) (hb hby at_125) (fun _ _ => ⟨rfl, k302, (by decide : 38 + 0 ≤ _), (by decide : 80 + 0 ≤ _)⟩)
          dsimp only [Pt.U, Pt.locs, Pt.cells, Pt.slots] at X306 l306 y306 z306 st306 hQ306
          subst l306 y306 z306
          obtain ⟨rfl, N314, k315⟩ := hQ306
          have N316 := Fr.app N303 N314
          have S317 : ∀ t, Steps p.tables e below (T306.setTop (mkF m 128 #[.val (.int p1), .val (.int p2), .val (.int p3), .val (.int p4), .val (.int p5), .val (.int p6), .val (.ref x2), .val (.ref x21), .val (.ref x44), .val (.ref x71), .val (.ref x100), .val (.ref x133), .val (.ref b170), .val (.ref b229), .val (.int (((p6.toUInt32 >>> ((2 : Int32) &&& 31).toUInt32).toInt32) &&& (3 : Int32))), .unset] [(.int (own_eqI (own_cs p2) (own_cs p4)))])) t → Steps p.tables e below (s₁.setTop (mkF m 0 #[.val (.int p1), .val (.int p2), .val (.int p3), .val (.int p4), .val (.int p5), .val (.int p6), .unset, .unset, .unset, .unset, .unset, .unset, .unset, .unset, .unset, .unset] [])) t := by
            intro t kt
            refine S304 t ?_
            refine XS.ifNo X293.here hx rfl (hb hby at_118) rfl ((if0 _ _).trans (feq ((own_eq1 c305) : ¬ ((own_eqI (own_cs p1) (own_cs p3)) = (0 : Int32)))).1) ?_
            refine XS.aload X293.here hx rfl (hb hby at_121) rfl rfl ?_
            refine XS.aload X293.here hx rfl (hb hby at_123) rfl rfl ?_
            show Steps p.tables e below (T293.setTop (mkF m 125 #[.val (.int p1), .val (.int p2), .val (.int p3), .val (.int p4), .val (.int p5), .val (.int p6), .val (.ref x2), .val (.ref x21), .val (.ref x44), .val (.ref x71), .val (.ref x100), .val (.ref x133), .val (.ref b170), .val (.ref b229), .val (.int (((p6.toUInt32 >>> ((2 : Int32) &&& 31).toUInt32).toInt32) &&& (3 : Int32))), .unset] [(.ref x71), (.ref x21)])) _
            refine st306 _ ?_
            exact kt
          rcases Decidable.em ((own_cs p2) = (own_cs p4)) with c318 | c318
          · have f320 := (Exa.keep (Exa.ext E229 f216) k277)
            have f321 := (Fld.keep (Fld.ext E229 f219) k277 (ninS ne252 (ninS (Ne.symm ne180) (ninS (Ne.symm ne184) nin0))))
            have f322 := (Fld.keep (Fld.ext E229 f217) k277 (ninS ne252 (ninS (Ne.symm ne180) (ninS (Ne.symm ne184) nin0))))
            have f323 := (Fld.keep (Fld.ext E229 f218) k277 (ninS ne252 (ninS (Ne.symm ne180) (ninS (Ne.symm ne184) nin0))))
            obtain ⟨cq319, kq319, q319a, q319b, q319c⟩ := isOf hZ132 k315 f320
            obtain ⟨_, _, ⟨T319, L319, k319, n319⟩, -, X319, ⟨Lc319, hQ319, l319, y319, z319⟩, st319⟩ := X306.virtualBack hx (y := (⟨"com/example/typecheck/typecheck/model/QName", "equals", "(Ljava/lang/Object;)Z"⟩ : MethodName)) (z := (⟨"com/example/typecheck/typecheck/model/QName", "equals", "(Ljava/lang/Object;)Z"⟩ : MethodName)) ho132 (mvT hZ132 (own_w hw 73 rfl)) (mvT hZ132 (own_w hw 74 rfl)) (notFace_of_selects (args := #[]) (mvT hZ132 (own_w hw 76 rfl))) (mvT hZ132 (own_w hw 76 rfl)) (mvT hZ132 (own_w hw 75 rfl)) (by decide) (backOf (W := 0) (rm_qeq l Z a0 hw [] b170 (((31 : Int32) * (own_H (own_cs p1))) + (own_H (own_cs p2))) x2 x3 x4 (own_cs p1) x21 x22 x23 (own_cs p2) b229 (((31 : Int32) * (own_H (own_cs p3))) + (own_H (own_cs p4))) x44 x45 x46 (own_cs p3) x71 x72 x73 (own_cs p4) zc T259.heap n0 O290 f320 f321 f322 f323 f294 f295 f296 f297 f298 f307 f308 f309 f310 f311 (own_csok p1) (own_csok p2) f278 f281 f279 f280 f282 f283 f284 f299 f300 f285 f286 f287 f312 f313 (own_csok p3) (own_csok p4) ne252 S_C hzc) hZ132 (own_w hw 77 rfl) (own_w hw 28 rfl) (by decide) (by decide)) q319a q319c (g := (mkF m 142 #[.val (.int p1), .val (.int p2), .val (.int p3), .val (.int p4), .val (.int p5), .val (.int p6), .val (.ref x2), .val (.ref x21), .val (.ref x44), .val (.ref x71), .val (.ref x100), .val (.ref x133), .val (.ref b170), .val (.ref b229), .val (.int (((p6.toUInt32 >>> ((2 : Int32) &&& 31).toUInt32).toInt32) &&& (3 : Int32))), .val (.int (1 : Int32))] [(.ref b229), (.ref b170)])) rfl (by rw [hml]; rfl) (Steps.refl _) (argsL := [(.ref b229)]) (rest := []) (lenOf pd_11 rfl) rfl (by show 2 * 0 + _ ≤ _; exact Nat.le_of_eq rfl) (hb hby at_142) (fun _ _ => ⟨rfl, k315, (by decide : 38 + 0 ≤ _), (by decide : 80 + 0 ≤ _)⟩)
            dsimp only [Pt.U, Pt.locs, Pt.cells, Pt.slots] at X319 l319 y319 z319 st319 hQ319
            subst l319 y319 z319
            rcases hQ319 with ⟨c324, c325, rfl, N326, k327⟩ | ⟨c328, rfl, N329, k330⟩ | ⟨c331, rfl, N332, k333⟩ | ⟨c334, rfl, N335, k336⟩
            · have N337 := Fr.app N316 N326
              obtain ⟨cq338, kq338, q338a, q338b, q338c⟩ := isOf hZ132 k327 f278
              obtain ⟨_, _, ⟨T338, L338, k338, n338⟩, -, X338, ⟨Lc338, hQ338, l338, y338, z338⟩, st338⟩ := X319.virtualBack hx (y := (⟨"com/example/typecheck/typecheck/model/QName", "equals", "(Ljava/lang/Object;)Z"⟩ : MethodName)) (z := (⟨"com/example/typecheck/typecheck/model/QName", "equals", "(Ljava/lang/Object;)Z"⟩ : MethodName)) ho132 (mvT hZ132 (own_w hw 73 rfl)) (mvT hZ132 (own_w hw 74 rfl)) (notFace_of_selects (args := #[]) (mvT hZ132 (own_w hw 76 rfl))) (mvT hZ132 (own_w hw 76 rfl)) (mvT hZ132 (own_w hw 75 rfl)) (by decide) (backOf (W := 0) (rm_qeq l Z a0 hw [] b229 (((31 : Int32) * (own_H (own_cs p3))) + (own_H (own_cs p4))) x44 x45 x46 (own_cs p3) x71 x72 x73 (own_cs p4) b170 (((31 : Int32) * (own_H (own_cs p1))) + (own_H (own_cs p2))) x2 x3 x4 (own_cs p1) x21 x22 x23 (own_cs p2) zc T259.heap n0 O290 f278 f281 f279 f280 f282 f283 f284 f299 f300 f285 f286 f287 f312 f313 (own_csok p3) (own_csok p4) f320 f321 f322 f323 f294 f295 f296 f297 f298 f307 f308 f309 f310 f311 (own_csok p1) (own_csok p2) (Ne.symm ne252) S_C hzc) hZ132 (own_w hw 77 rfl) (own_w hw 28 rfl) (by decide) (by decide)) q338a q338c (g := (mkF m 154 #[.val (.int p1), .val (.int p2), .val (.int p3), .val (.int p4), .val (.int p5), .val (.int p6), .val (.ref x2), .val (.ref x21), .val (.ref x44), .val (.ref x71), .val (.ref x100), .val (.ref x133), .val (.ref b170), .val (.ref b229), .val (.int (((p6.toUInt32 >>> ((2 : Int32) &&& 31).toUInt32).toInt32) &&& (3 : Int32))), .val (.int (1 : Int32))] [(.ref b170), (.ref b229)])) rfl (by rw [hml]; rfl) (Steps.refl _) (argsL := [(.ref b170)]) (rest := []) (lenOf pd_11 rfl) rfl (by show 2 * 0 + _ ≤ _; exact Nat.le_of_eq rfl) (hb hby at_154) (fun _ _ => ⟨rfl, k327, (by decide : 38 + 0 ≤ _), (by decide : 80 + 0 ≤ _)⟩)
              dsimp only [Pt.U, Pt.locs, Pt.cells, Pt.slots] at X338 l338 y338 z338 st338 hQ338
              subst l338 y338 z338
              rcases hQ338 with ⟨c339, c340, rfl, N341, k342⟩ | ⟨c343, rfl, N344, k345⟩ | ⟨c346, rfl, N347, k348⟩ | ⟨c349, rfl, N350, k351⟩
              · have N352 := Fr.app N337 N341
                have S353 : ∀ t, Steps p.tables e below (T338.setTop (mkF m 167 #[.val (.int p1), .val (.int p2), .val (.int p3), .val (.int p4), .val (.int p5), .val (.int p6), .val (.ref x2), .val (.ref x21), .val (.ref x44), .val (.ref x71), .val (.ref x100), .val (.ref x133), .val (.ref b170), .val (.ref b229), .val (.int (((p6.toUInt32 >>> ((2 : Int32) &&& 31).toUInt32).toInt32) &&& (3 : Int32))), .val (.int (1 : Int32))] [(.int (1 : Int32))])) t → Steps p.tables e below (s₁.setTop (mkF m 0 #[.val (.int p1), .val (.int p2), .val (.int p3), .val (.int p4), .val (.int p5), .val (.int p6), .unset, .unset, .unset, .unset, .unset, .unset, .unset, .unset, .unset, .unset] [])) t := by
                  intro t kt
                  refine S317 t ?_
                  refine XS.ifNo X306.here hx rfl (hb hby at_128) rfl ((if0 _ _).trans (feq ((own_eq1 c318) : ¬ ((own_eqI (own_cs p2) (own_cs p4)) = (0 : Int32)))).1) ?_
                  refine XS.iconst X306.here hx rfl (hb hby at_131) ?_
                  refine XS.goto X306.here hx rfl (pc0 := 132) (pc' := 136) rfl (hb hby at_132) (by decide) (by decide) ?_
                  refine XS.istore X306.here hx rfl (hb hby at_136) rfl (l' := #[.val (.int p1), .val (.int p2), .val (.int p3), .val (.int p4), .val (.int p5), .val (.int p6), .val (.ref x2), .val (.ref x21), .val (.ref x44), .val (.ref x71), .val (.ref x100), .val (.ref x133), .val (.ref b170), .val (.ref b229), .val (.int (((p6.toUInt32 >>> ((2 : Int32) &&& 31).toUInt32).toInt32) &&& (3 : Int32))), .val (.int (1 : Int32))]) rfl ?_
                  refine XS.aload X306.here hx rfl (hb hby at_138) rfl rfl ?_
                  refine XS.aload X306.here hx rfl (hb hby at_140) rfl rfl ?_
                  show Steps p.tables e below (T306.setTop (mkF m 142 #[.val (.int p1), .val (.int p2), .val (.int p3), .val (.int p4), .val (.int p5), .val (.int p6), .val (.ref x2), .val (.ref x21), .val (.ref x44), .val (.ref x71), .val (.ref x100), .val (.ref x133), .val (.ref b170), .val (.ref b229), .val (.int (((p6.toUInt32 >>> ((2 : Int32) &&& 31).toUInt32).toInt32) &&& (3 : Int32))), .val (.int (1 : Int32))] [(.ref b229), (.ref b170)])) _
                  refine st319.trans ?_
                  refine XS.iload X319.here hx rfl (hb hby at_145) rfl ?_
                  refine XS.icmpNo X319.here hx rfl (hb hby at_147) rfl (teq ((by decide) : (1 : Int32) = (1 : Int32))).2 ?_
                  refine XS.aload X319.here hx rfl (hb hby at_150) rfl rfl ?_
                  refine XS.aload X319.here hx rfl (hb hby at_152) rfl rfl ?_
                  show Steps p.tables e below (T319.setTop (mkF m 154 #[.val (.int p1), .val (.int p2), .val (.int p3), .val (.int p4), .val (.int p5), .val (.int p6), .val (.ref x2), .val (.ref x21), .val (.ref x44), .val (.ref x71), .val (.ref x100), .val (.ref x133), .val (.ref b170), .val (.ref b229), .val (.int (((p6.toUInt32 >>> ((2 : Int32) &&& 31).toUInt32).toInt32) &&& (3 : Int32))), .val (.int (1 : Int32))] [(.ref b170), (.ref b229)])) _
                  refine st338.trans ?_
                  refine XS.iload X338.here hx rfl (hb hby at_157) rfl ?_
                  refine XS.icmpNo X338.here hx rfl (hb hby at_159) rfl (teq ((by decide) : (1 : Int32) = (1 : Int32))).2 ?_
                  refine XS.iconst X338.here hx rfl (hb hby at_162) ?_
                  refine XS.goto X338.here hx rfl (pc0 := 163) (pc' := 167) rfl (hb hby at_163) (by decide) (by decide) ?_
                  exact kt
                obtain ⟨fs, hr, hrun, hended, hRW⟩ := X338.leaveW hS132 (by rw [k342]; exact hk289) (v := some (.int (1 : Int32))) (fun h => by rw [Bd.returns] at h; cases h)
                refine ⟨_, _, pre0 _ (S353 _ ?_), hrun, hended, _, _, rfl, ?_, hRW.1, hRW.2.1, hRW.2.2.1, hRW.2.2.2.mono (by decide) (by decide)⟩
                · exact retN X338 hx (t := .boolean) Bd.returns (by simp) (hb hby at_167) hr
                · show Q_rm_law Z p1 p2 p3 p4 p5 p6 zc fm h0 n0 _ T338.heap _
                  rw [k342]
                  exact ⟨rfl, N352⟩
              · exact absurd ((Eq.symm (own_hq c305 c318)) : (((31 : Int32) * (own_H (own_cs p3))) + (own_H (own_cs p4))) = (((31 : Int32) * (own_H (own_cs p1))) + (own_H (own_cs p2)))) c343
              · exact absurd ((Eq.symm c318) : (own_cs p4) = (own_cs p2)) c346
              · exact absurd ((Eq.symm c305) : (own_cs p3) = (own_cs p1)) c349
            · exact absurd ((own_hq c305 c318) : (((31 : Int32) * (own_H (own_cs p1))) + (own_H (own_cs p2))) = (((31 : Int32) * (own_H (own_cs p3))) + (own_H (own_cs p4)))) c328
            · exact absurd (c318 : (own_cs p2) = (own_cs p4)) c331
            · exact absurd (c305 : (own_cs p1) = (own_cs p3)) c334
          · have f355 := (Exa.keep (Exa.ext E229 f216) k277)
            have f356 := (Fld.keep (Fld.ext E229 f219) k277 (ninS ne252 (ninS (Ne.symm ne180) (ninS (Ne.symm ne184) nin0))))
            have f357 := (Fld.keep (Fld.ext E229 f217) k277 (ninS ne252 (ninS (Ne.symm ne180) (ninS (Ne.symm ne184) nin0))))
            have f358 := (Fld.keep (Fld.ext E229 f218) k277 (ninS ne252 (ninS (Ne.symm ne180) (ninS (Ne.symm ne184) nin0))))
            obtain ⟨cq354, kq354, q354a, q354b, q354c⟩ := isOf hZ132 k315 f355
            obtain ⟨_, _, ⟨T354, L354, k354, n354⟩, -, X354, ⟨Lc354, hQ354, l354, y354, z354⟩, st354⟩ := X306.virtualBack hx (y := (⟨"com/example/typecheck/typecheck/model/QName", "equals", "(Ljava/lang/Object;)Z"⟩ : MethodName)) (z := (⟨"com/example/typecheck/typecheck/model/QName", "equals", "(Ljava/lang/Object;)Z"⟩ : MethodName)) ho132 (mvT hZ132 (own_w hw 73 rfl)) (mvT hZ132 (own_w hw 74 rfl)) (notFace_of_selects (args := #[]) (mvT hZ132 (own_w hw 76 rfl))) (mvT hZ132 (own_w hw 76 rfl)) (mvT hZ132 (own_w hw 75 rfl)) (by decide) (backOf (W := 0) (rm_qeq l Z a0 hw [] b170 (((31 : Int32) * (own_H (own_cs p1))) + (own_H (own_cs p2))) x2 x3 x4 (own_cs p1) x21 x22 x23 (own_cs p2) b229 (((31 : Int32) * (own_H (own_cs p3))) + (own_H (own_cs p4))) x44 x45 x46 (own_cs p3) x71 x72 x73 (own_cs p4) zc T259.heap n0 O290 f355 f356 f357 f358 f294 f295 f296 f297 f298 f307 f308 f309 f310 f311 (own_csok p1) (own_csok p2) f278 f281 f279 f280 f282 f283 f284 f299 f300 f285 f286 f287 f312 f313 (own_csok p3) (own_csok p4) ne252 S_C hzc) hZ132 (own_w hw 77 rfl) (own_w hw 28 rfl) (by decide) (by decide)) q354a q354c (g := (mkF m 142 #[.val (.int p1), .val (.int p2), .val (.int p3), .val (.int p4), .val (.int p5), .val (.int p6), .val (.ref x2), .val (.ref x21), .val (.ref x44), .val (.ref x71), .val (.ref x100), .val (.ref x133), .val (.ref b170), .val (.ref b229), .val (.int (((p6.toUInt32 >>> ((2 : Int32) &&& 31).toUInt32).toInt32) &&& (3 : Int32))), .val (.int (0 : Int32))] [(.ref b229), (.ref b170)])) rfl (by rw [hml]; rfl) (Steps.refl _) (argsL := [(.ref b229)]) (rest := []) (lenOf pd_11 rfl) rfl (by show 2 * 0 + _ ≤ _; exact Nat.le_of_eq rfl) (hb hby at_142) (fun _ _ => ⟨rfl, k315, (by decide : 38 + 0 ≤ _), (by decide : 80 + 0 ≤ _)⟩)
            dsimp only [Pt.U, Pt.locs, Pt.cells, Pt.slots] at X354 l354 y354 z354 st354 hQ354
            subst l354 y354 z354
            rcases hQ354 with ⟨c359, c360, rfl, N361, k362⟩ | ⟨c363, rfl, N364, k365⟩ | ⟨c366, rfl, N367, k368⟩ | ⟨c369, rfl, N370, k371⟩
            · exact absurd c359 (c318 : ¬ ((own_cs p2) = (own_cs p4)))
            · have N372 := Fr.app N316 N364
              obtain ⟨cq373, kq373, q373a, q373b, q373c⟩ := isOf hZ132 k365 f278
              obtain ⟨_, _, ⟨T373, L373, k373, n373⟩, -, X373, ⟨Lc373, hQ373, l373, y373, z373⟩, st373⟩ := X354.virtualBack hx (y := (⟨"com/example/typecheck/typecheck/model/QName", "equals", "(Ljava/lang/Object;)Z"⟩ : MethodName)) (z := (⟨"com/example/typecheck/typecheck/model/QName", "equals", "(Ljava/lang/Object;)Z"⟩ : MethodName)) ho132 (mvT hZ132 (own_w hw 73 rfl)) (mvT hZ132 (own_w hw 74 rfl)) (notFace_of_selects (args := #[]) (mvT hZ132 (own_w hw 76 rfl))) (mvT hZ132 (own_w hw 76 rfl)) (mvT hZ132 (own_w hw 75 rfl)) (by decide) (backOf (W := 0) (rm_qeq l Z a0 hw [] b229 (((31 : Int32) * (own_H (own_cs p3))) + (own_H (own_cs p4))) x44 x45 x46 (own_cs p3) x71 x72 x73 (own_cs p4) b170 (((31 : Int32) * (own_H (own_cs p1))) + (own_H (own_cs p2))) x2 x3 x4 (own_cs p1) x21 x22 x23 (own_cs p2) zc T259.heap n0 O290 f278 f281 f279 f280 f282 f283 f284 f299 f300 f285 f286 f287 f312 f313 (own_csok p3) (own_csok p4) f355 f356 f357 f358 f294 f295 f296 f297 f298 f307 f308 f309 f310 f311 (own_csok p1) (own_csok p2) (Ne.symm ne252) S_C hzc) hZ132 (own_w hw 77 rfl) (own_w hw 28 rfl) (by decide) (by decide)) q373a q373c (g := (mkF m 154 #[.val (.int p1), .val (.int p2), .val (.int p3), .val (.int p4), .val (.int p5), .val (.int p6), .val (.ref x2), .val (.ref x21), .val (.ref x44), .val (.ref x71), .val (.ref x100), .val (.ref x133), .val (.ref b170), .val (.ref b229), .val (.int (((p6.toUInt32 >>> ((2 : Int32) &&& 31).toUInt32).toInt32) &&& (3 : Int32))), .val (.int (0 : Int32))] [(.ref b170), (.ref b229)])) rfl (by rw [hml]; rfl) (Steps.refl _) (argsL := [(.ref b170)]) (rest := []) (lenOf pd_11 rfl) rfl (by show 2 * 0 + _ ≤ _; exact Nat.le_of_eq rfl) (hb hby at_154) (fun _ _ => ⟨rfl, k365, (by decide : 38 + 0 ≤ _), (by decide : 80 + 0 ≤ _)⟩)
              dsimp only [Pt.U, Pt.locs, Pt.cells, Pt.slots] at X373 l373 y373 z373 st373 hQ373
              subst l373 y373 z373
              rcases hQ373 with ⟨c374, c375, rfl, N376, k377⟩ | ⟨c378, rfl, N379, k380⟩ | ⟨c381, rfl, N382, k383⟩ | ⟨c384, rfl, N385, k386⟩
              · exact absurd c374 ((fun q => c318 q.symm) : ¬ ((own_cs p4) = (own_cs p2)))
              · have N387 := Fr.app N372 N379
                have S388 : ∀ t, Steps p.tables e below (T373.setTop (mkF m 167 #[.val (.int p1), .val (.int p2), .val (.int p3), .val (.int p4), .val (.int p5), .val (.int p6), .val (.ref x2), .val (.ref x21), .val (.ref x44), .val (.ref x71), .val (.ref x100), .val (.ref x133), .val (.ref b170), .val (.ref b229), .val (.int (((p6.toUInt32 >>> ((2 : Int32) &&& 31).toUInt32).toInt32) &&& (3 : Int32))), .val (.int (0 : Int32))] [(.int (1 : Int32))])) t → Steps p.tables e below (s₁.setTop (mkF m 0 #[.val (.int p1), .val (.int p2), .val (.int p3), .val (.int p4), .val (.int p5), .val (.int p6), .unset, .unset, .unset, .unset, .unset, .unset, .unset, .unset, .unset, .unset] [])) t := by
                  intro t kt
                  refine S317 t ?_
                  refine XS.ifYes X306.here hx rfl (pc0 := 128) (pc' := 135) rfl (hb hby at_128) rfl ((if0 _ _).trans (teq ((own_eq0 c318) : (own_eqI (own_cs p2) (own_cs p4)) = (0 : Int32))).1) (by decide) (by decide) ?_
                  refine XS.iconst X306.here hx rfl (hb hby at_135) ?_
                  refine XS.istore X306.here hx rfl (hb hby at_136) rfl (l' := #[.val (.int p1), .val (.int p2), .val (.int p3), .val (.int p4), .val (.int p5), .val (.int p6), .val (.ref x2), .val (.ref x21), .val (.ref x44), .val (.ref x71), .val (.ref x100), .val (.ref x133), .val (.ref b170), .val (.ref b229), .val (.int (((p6.toUInt32 >>> ((2 : Int32) &&& 31).toUInt32).toInt32) &&& (3 : Int32))), .val (.int (0 : Int32))]) rfl ?_
                  refine XS.aload X306.here hx rfl (hb hby at_138) rfl rfl ?_
                  refine XS.aload X306.here hx rfl (hb hby at_140) rfl rfl ?_
                  show Steps p.tables e below (T306.setTop (mkF m 142 #[.val (.int p1), .val (.int p2), .val (.int p3), .val (.int p4), .val (.int p5), .val (.int p6), .val (.ref x2), .val (.ref x21), .val (.ref x44), .val (.ref x71), .val (.ref x100), .val (.ref x133), .val (.ref b170), .val (.ref b229), .val (.int (((p6.toUInt32 >>> ((2 : Int32) &&& 31).toUInt32).toInt32) &&& (3 : Int32))), .val (.int (0 : Int32))] [(.ref b229), (.ref b170)])) _
                  refine st354.trans ?_
                  refine XS.iload X354.here hx rfl (hb hby at_145) rfl ?_
                  refine XS.icmpNo X354.here hx rfl (hb hby at_147) rfl (teq ((by decide) : (0 : Int32) = (0 : Int32))).2 ?_
                  refine XS.aload X354.here hx rfl (hb hby at_150) rfl rfl ?_
                  refine XS.aload X354.here hx rfl (hb hby at_152) rfl rfl ?_
                  show Steps p.tables e below (T354.setTop (mkF m 154 #[.val (.int p1), .val (.int p2), .val (.int p3), .val (.int p4), .val (.int p5), .val (.int p6), .val (.ref x2), .val (.ref x21), .val (.ref x44), .val (.ref x71), .val (.ref x100), .val (.ref x133), .val (.ref b170), .val (.ref b229), .val (.int (((p6.toUInt32 >>> ((2 : Int32) &&& 31).toUInt32).toInt32) &&& (3 : Int32))), .val (.int (0 : Int32))] [(.ref b170), (.ref b229)])) _
                  refine st373.trans ?_
                  refine XS.iload X373.here hx rfl (hb hby at_157) rfl ?_
                  refine XS.icmpNo X373.here hx rfl (hb hby at_159) rfl (teq ((by decide) : (0 : Int32) = (0 : Int32))).2 ?_
                  refine XS.iconst X373.here hx rfl (hb hby at_162) ?_
                  refine XS.goto X373.here hx rfl (pc0 := 163) (pc' := 167) rfl (hb hby at_163) (by decide) (by decide) ?_
                  exact kt
                obtain ⟨fs, hr, hrun, hended, hRW⟩ := X373.leaveW hS132 (by rw [k380]; exact hk289) (v := some (.int (1 : Int32))) (fun h => by rw [Bd.returns] at h; cases h)
                refine ⟨_, _, pre0 _ (S388 _ ?_), hrun, hended, _, _, rfl, ?_, hRW.1, hRW.2.1, hRW.2.2.1, hRW.2.2.2.mono (by decide) (by decide)⟩
                · exact retN X373 hx (t := .boolean) Bd.returns (by simp) (hb hby at_167) hr
                · show Q_rm_law Z p1 p2 p3 p4 p5 p6 zc fm h0 n0 _ T373.heap _
                  rw [k380]
                  exact ⟨rfl, N387⟩
              · have N389 := Fr.app N372 N382
                have S390 : ∀ t, Steps p.tables e below (T373.setTop (mkF m 167 #[.val (.int p1), .val (.int p2), .val (.int p3), .val (.int p4), .val (.int p5), .val (.int p6), .val (.ref x2), .val (.ref x21), .val (.ref x44), .val (.ref x71), .val (.ref x100), .val (.ref x133), .val (.ref b170), .val (.ref b229), .val (.int (((p6.toUInt32 >>> ((2 : Int32) &&& 31).toUInt32).toInt32) &&& (3 : Int32))), .val (.int (0 : Int32))] [(.int (1 : Int32))])) t → Steps p.tables e below (s₁.setTop (mkF m 0 #[.val (.int p1), .val (.int p2), .val (.int p3), .val (.int p4), .val (.int p5), .val (.int p6), .unset, .unset, .unset, .unset, .unset, .unset, .unset, .unset, .unset, .unset] [])) t := by
                  intro t kt
                  refine S317 t ?_
                  refine XS.ifYes X306.here hx rfl (pc0 := 128) (pc' := 135) rfl (hb hby at_128) rfl ((if0 _ _).trans (teq ((own_eq0 c318) : (own_eqI (own_cs p2) (own_cs p4)) = (0 : Int32))).1) (by decide) (by decide) ?_
                  refine XS.iconst X306.here hx rfl (hb hby at_135) ?_
                  refine XS.istore X306.here hx rfl (hb hby at_136) rfl (l' := #[.val (.int p1), .val (.int p2), .val (.int p3), .val (.int p4), .val (.int p5), .val (.int p6), .val (.ref x2), .val (.ref x21), .val (.ref x44), .val (.ref x71), .val (.ref x100), .val (.ref x133), .val (.ref b170), .val (.ref b229), .val (.int (((p6.toUInt32 >>> ((2 : Int32) &&& 31).toUInt32).toInt32) &&& (3 : Int32))), .val (.int (0 : Int32))]) rfl ?_
                  refine XS.aload X306.here hx rfl (hb hby at_138) rfl rfl ?_
                  refine XS.aload X306.here hx rfl (hb hby at_140) rfl rfl ?_
                  show Steps p.tables e below (T306.setTop (mkF m 142 #[.val (.int p1), .val (.int p2), .val (.int p3), .val (.int p4), .val (.int p5), .val (.int p6), .val (.ref x2), .val (.ref x21), .val (.ref x44), .val (.ref x71), .val (.ref x100), .val (.ref x133), .val (.ref b170), .val (.ref b229), .val (.int (((p6.toUInt32 >>> ((2 : Int32) &&& 31).toUInt32).toInt32) &&& (3 : Int32))), .val (.int (0 : Int32))] [(.ref b229), (.ref b170)])) _
                  refine st354.trans ?_
                  refine XS.iload X354.here hx rfl (hb hby at_145) rfl ?_
                  refine XS.icmpNo X354.here hx rfl (hb hby at_147) rfl (teq ((by decide) : (0 : Int32) = (0 : Int32))).2 ?_
                  refine XS.aload X354.here hx rfl (hb hby at_150) rfl rfl ?_
                  refine XS.aload X354.here hx rfl (hb hby at_152) rfl rfl ?_
                  show Steps p.tables e below (T354.setTop (mkF m 154 #[.val (.int p1), .val (.int p2), .val (.int p3), .val (.int p4), .val (.int p5), .val (.int p6), .val (.ref x2), .val (.ref x21), .val (.ref x44), .val (.ref x71), .val (.ref x100), .val (.ref x133), .val (.ref b170), .val (.ref b229), .val (.int (((p6.toUInt32 >>> ((2 : Int32) &&& 31).toUInt32).toInt32) &&& (3 : Int32))), .val (.int (0 : Int32))] [(.ref b170), (.ref b229)])) _
                  refine st373.trans ?_
                  refine XS.iload X373.here hx rfl (hb hby at_157) rfl ?_
                  refine XS.icmpNo X373.here hx rfl (hb hby at_159) rfl (teq ((by decide) : (0 : Int32) = (0 : Int32))).2 ?_
                  refine XS.iconst X373.here hx rfl (hb hby at_162) ?_
                  refine XS.goto X373.here hx rfl (pc0 := 163) (pc' := 167) rfl (hb hby at_163) (by decide) (by decide) ?_
                  exact kt
                obtain ⟨fs, hr, hrun, hended, hRW⟩ := X373.leaveW hS132 (by rw [k383]; exact hk289) (v := some (.int (1 : Int32))) (fun h => by rw [Bd.returns] at h; cases h)
                refine ⟨_, _, pre0 _ (S390 _ ?_), hrun, hended, _, _, rfl, ?_, hRW.1, hRW.2.1, hRW.2.2.1, hRW.2.2.2.mono (by decide) (by decide)⟩
                · exact retN X373 hx (t := .boolean) Bd.returns (by simp) (hb hby at_167) hr
                · show Q_rm_law Z p1 p2 p3 p4 p5 p6 zc fm h0 n0 _ T373.heap _
                  rw [k383]
                  exact ⟨rfl, N389⟩
              · exact absurd ((Eq.symm c305) : (own_cs p3) = (own_cs p1)) c384
            · have N391 := Fr.app N316 N367
              obtain ⟨cq392, kq392, q392a, q392b, q392c⟩ := isOf hZ132 k368 f278
              obtain ⟨_, _, ⟨T392, L392, k392, n392⟩, -, X392, ⟨Lc392, hQ392, l392, y392, z392⟩, st392⟩ := X354.virtualBack hx (y := (⟨"com/example/typecheck/typecheck/model/QName", "equals", "(Ljava/lang/Object;)Z"⟩ : MethodName)) (z := (⟨"com/example/typecheck/typecheck/model/QName", "equals", "(Ljava/lang/Object;)Z"⟩ : MethodName)) ho132 (mvT hZ132 (own_w hw 73 rfl)) (mvT hZ132 (own_w hw 74 rfl)) (notFace_of_selects (args := #[]) (mvT hZ132 (own_w hw 76 rfl))) (mvT hZ132 (own_w hw 76 rfl)) (mvT hZ132 (own_w hw 75 rfl)) (by decide) (backOf (W := 0) (rm_qeq l Z a0 hw [] b229 (((31 : Int32) * (own_H (own_cs p3))) + (own_H (own_cs p4))) x44 x45 x46 (own_cs p3) x71 x72 x73 (own_cs p4) b170 (((31 : Int32) * (own_H (own_cs p1))) + (own_H (own_cs p2))) x2 x3 x4 (own_cs p1) x21 x22 x23 (own_cs p2) zc T259.heap n0 O290 f278 f281 f279 f280 f282 f283 f284 f299 f300 f285 f286 f287 f312 f313 (own_csok p3) (own_csok p4) f355 f356 f357 f358 f294 f295 f296 f297 f298 f307 f308 f309 f310 f311 (own_csok p1) (own_csok p2) (Ne.symm ne252) S_C hzc) hZ132 (own_w hw 77 rfl) (own_w hw 28 rfl) (by decide) (by decide)) q392a q392c (g := (mkF m 154 #[.val (.int p1), .val (.int p2), .val (.int p3), .val (.int p4), .val (.int p5), .val (.int p6), .val (.ref x2), .val (.ref x21), .val (.ref x44), .val (.ref x71), .val (.ref x100), .val (.ref x133), .val (.ref b170), .val (.ref b229), .val (.int (((p6.toUInt32 >>> ((2 : Int32) &&& 31).toUInt32).toInt32) &&& (3 : Int32))), .val (.int (0 : Int32))] [(.ref b170), (.ref b229)])) rfl (by rw [hml]; rfl) (Steps.refl _) (argsL := [(.ref b170)]) (rest := []) (lenOf pd_11 rfl) rfl (by show 2 * 0 + _ ≤ _; exact Nat.le_of_eq rfl) (hb hby at_154) (fun _ _ => ⟨rfl, k368, (by decide : 38 + 0 ≤ _), (by decide : 80 + 0 ≤ _)⟩)
              dsimp only [Pt.U, Pt.locs, Pt.cells, Pt.slots] at X392 l392 y392 z392 st392 hQ392
              subst l392 y392 z392
              rcases hQ392 with ⟨c393, c394, rfl, N395, k396⟩ | ⟨c397, rfl, N398, k399⟩ | ⟨c400, rfl, N401, k402⟩ | ⟨c403, rfl, N404, k405⟩
              · exact absurd c393 ((fun q => c318 q.symm) : ¬ ((own_cs p4) = (own_cs p2)))
              · have N406 := Fr.app N391 N398
                have S407 : ∀ t, Steps p.tables e below (T392.setTop (mkF m 167 #[.val (.int p1), .val (.int p2), .val (.int p3), .val (.int p4), .val (.int p5), .val (.int p6), .val (.ref x2), .val (.ref x21), .val (.ref x44), .val (.ref x71), .val (.ref x100), .val (.ref x133), .val (.ref b170), .val (.ref b229), .val (.int (((p6.toUInt32 >>> ((2 : Int32) &&& 31).toUInt32).toInt32) &&& (3 : Int32))), .val (.int (0 : Int32))] [(.int (1 : Int32))])) t → Steps p.tables e below (s₁.setTop (mkF m 0 #[.val (.int p1), .val (.int p2), .val (.int p3), .val (.int p4), .val (.int p5), .val (.int p6), .unset, .unset, .unset, .unset, .unset, .unset, .unset, .unset, .unset, .unset] [])) t := by
                  intro t kt
                  refine S317 t ?_
                  refine XS.ifYes X306.here hx rfl (pc0 := 128) (pc' := 135) rfl (hb hby at_128) rfl ((if0 _ _).trans (teq ((own_eq0 c318) : (own_eqI (own_cs p2) (own_cs p4)) = (0 : Int32))).1) (by decide) (by decide) ?_
                  refine XS.iconst X306.here hx rfl (hb hby at_135) ?_
                  refine XS.istore X306.here hx rfl (hb hby at_136) rfl (l' := #[.val (.int p1), .val (.int p2), .val (.int p3), .val (.int p4), .val (.int p5), .val (.int p6), .val (.ref x2), .val (.ref x21), .val (.ref x44), .val (.ref x71), .val (.ref x100), .val (.ref x133), .val (.ref b170), .val (.ref b229), .val (.int (((p6.toUInt32 >>> ((2 : Int32) &&& 31).toUInt32).toInt32) &&& (3 : Int32))), .val (.int (0 : Int32))]) rfl ?_
                  refine XS.aload X306.here hx rfl (hb hby at_138) rfl rfl ?_
                  refine XS.aload X306.here hx rfl (hb hby at_140) rfl rfl ?_
                  show Steps p.tables e below (T306.setTop (mkF m 142 #[.val (.int p1), .val (.int p2), .val (.int p3), .val (.int p4), .val (.int p5), .val (.int p6), .val (.ref x2), .val (.ref x21), .val (.ref x44), .val (.ref x71), .val (.ref x100), .val (.ref x133), .val (.ref b170), .val (.ref b229), .val (.int (((p6.toUInt32 >>> ((2 : Int32) &&& 31).toUInt32).toInt32) &&& (3 : Int32))), .val (.int (0 : Int32))] [(.ref b229), (.ref b170)])) _
                  refine st354.trans ?_
                  refine XS.iload X354.here hx rfl (hb hby at_145) rfl ?_
                  refine XS.icmpNo X354.here hx rfl (hb hby at_147) rfl (teq ((by decide) : (0 : Int32) = (0 : Int32))).2 ?_
                  refine XS.aload X354.here hx rfl (hb hby at_150) rfl rfl ?_
                  refine XS.aload X354.here hx rfl (hb hby at_152) rfl rfl ?_
                  show Steps p.tables e below (T354.setTop (mkF m 154 #[.val (.int p1), .val (.int p2), .val (.int p3), .val (.int p4), .val (.int p5), .val (.int p6), .val (.ref x2), .val (.ref x21), .val (.ref x44), .val (.ref x71), .val (.ref x100), .val (.ref x133), .val (.ref b170), .val (.ref b229), .val (.int (((p6.toUInt32 >>> ((2 : Int32) &&& 31).toUInt32).toInt32) &&& (3 : Int32))), .val (.int (0 : Int32))] [(.ref b170), (.ref b229)])) _
                  refine st392.trans ?_
                  refine XS.iload X392.here hx rfl (hb hby at_157) rfl ?_
                  refine XS.icmpNo X392.here hx rfl (hb hby at_159) rfl (teq ((by decide) : (0 : Int32) = (0 : Int32))).2 ?_
                  refine XS.iconst X392.here hx rfl (hb hby at_162) ?_
                  refine XS.goto X392.here hx rfl (pc0 := 163) (pc' := 167) rfl (hb hby at_163) (by decide) (by decide) ?_
                  exact kt
                obtain ⟨fs, hr, hrun, hended, hRW⟩ := X392.leaveW hS132 (by rw [k399]; exact hk289) (v := some (.int (1 : Int32))) (fun h => by rw [Bd.returns] at h; cases h)
                refine ⟨_, _, pre0 _ (S407 _ ?_), hrun, hended, _, _, rfl, ?_, hRW.1, hRW.2.1, hRW.2.2.1, hRW.2.2.2.mono (by decide) (by decide)⟩
                · exact retN X392 hx (t := .boolean) Bd.returns (by simp) (hb hby at_167) hr
                · show Q_rm_law Z p1 p2 p3 p4 p5 p6 zc fm h0 n0 _ T392.heap _
                  rw [k399]
                  exact ⟨rfl, N406⟩
              · have N408 := Fr.app N391 N401
                have S409 : ∀ t, Steps p.tables e below (T392.setTop (mkF m 167 #[.val (.int p1), .val (.int p2), .val (.int p3), .val (.int p4), .val (.int p5), .val (.int p6), .val (.ref x2), .val (.ref x21), .val (.ref x44), .val (.ref x71), .val (.ref x100), .val (.ref x133), .val (.ref b170), .val (.ref b229), .val (.int (((p6.toUInt32 >>> ((2 : Int32) &&& 31).toUInt32).toInt32) &&& (3 : Int32))), .val (.int (0 : Int32))] [(.int (1 : Int32))])) t → Steps p.tables e below (s₁.setTop (mkF m 0 #[.val (.int p1), .val (.int p2), .val (.int p3), .val (.int p4), .val (.int p5), .val (.int p6), .unset, .unset, .unset, .unset, .unset, .unset, .unset, .unset, .unset, .unset] [])) t := by
                  intro t kt
                  refine S317 t ?_
                  refine XS.ifYes X306.here hx rfl (pc0 := 128) (pc' := 135) rfl (hb hby at_128) rfl ((if0 _ _).trans (teq ((own_eq0 c318) : (own_eqI (own_cs p2) (own_cs p4)) = (0 : Int32))).1) (by decide) (by decide) ?_
                  refine XS.iconst X306.here hx rfl (hb hby at_135) ?_
                  refine XS.istore X306.here hx rfl (hb hby at_136) rfl (l' := #[.val (.int p1), .val (.int p2), .val (.int p3), .val (.int p4), .val (.int p5), .val (.int p6), .val (.ref x2), .val (.ref x21), .val (.ref x44), .val (.ref x71), .val (.ref x100), .val (.ref x133), .val (.ref b170), .val (.ref b229), .val (.int (((p6.toUInt32 >>> ((2 : Int32) &&& 31).toUInt32).toInt32) &&& (3 : Int32))), .val (.int (0 : Int32))]) rfl ?_
                  refine XS.aload X306.here hx rfl (hb hby at_138) rfl rfl ?_
                  refine XS.aload X306.here hx rfl (hb hby at_140) rfl rfl ?_
                  show Steps p.tables e below (T306.setTop (mkF m 142 #[.val (.int p1), .val (.int p2), .val (.int p3), .val (.int p4), .val (.int p5), .val (.int p6), .val (.ref x2), .val (.ref x21), .val (.ref x44), .val (.ref x71), .val (.ref x100), .val (.ref x133), .val (.ref b170), .val (.ref b229), .val (.int (((p6.toUInt32 >>> ((2 : Int32) &&& 31).toUInt32).toInt32) &&& (3 : Int32))), .val (.int (0 : Int32))] [(.ref b229), (.ref b170)])) _
                  refine st354.trans ?_
                  refine XS.iload X354.here hx rfl (hb hby at_145) rfl ?_
                  refine XS.icmpNo X354.here hx rfl (hb hby at_147) rfl (teq ((by decide) : (0 : Int32) = (0 : Int32))).2 ?_
                  refine XS.aload X354.here hx rfl (hb hby at_150) rfl rfl ?_
                  refine XS.aload X354.here hx rfl (hb hby at_152) rfl rfl ?_
                  show Steps p.tables e below (T354.setTop (mkF m 154 #[.val (.int p1), .val (.int p2), .val (.int p3), .val (.int p4), .val (.int p5), .val (.int p6), .val (.ref x2), .val (.ref x21), .val (.ref x44), .val (.ref x71), .val (.ref x100), .val (.ref x133), .val (.ref b170), .val (.ref b229), .val (.int (((p6.toUInt32 >>> ((2 : Int32) &&& 31).toUInt32).toInt32) &&& (3 : Int32))), .val (.int (0 : Int32))] [(.ref b170), (.ref b229)])) _
                  refine st392.trans ?_
                  refine XS.iload X392.here hx rfl (hb hby at_157) rfl ?_
                  refine XS.icmpNo X392.here hx rfl (hb hby at_159) rfl (teq ((by decide) : (0 : Int32) = (0 : Int32))).2 ?_
                  refine XS.iconst X392.here hx rfl (hb hby at_162) ?_
                  refine XS.goto X392.here hx rfl (pc0 := 163) (pc' := 167) rfl (hb hby at_163) (by decide) (by decide) ?_
                  exact kt
                obtain ⟨fs, hr, hrun, hended, hRW⟩ := X392.leaveW hS132 (by rw [k402]; exact hk289) (v := some (.int (1 : Int32))) (fun h => by rw [Bd.returns] at h; cases h)
                refine ⟨_, _, pre0 _ (S409 _ ?_), hrun, hended, _, _, rfl, ?_, hRW.1, hRW.2.1, hRW.2.2.1, hRW.2.2.2.mono (by decide) (by decide)⟩
                · exact retN X392 hx (t := .boolean) Bd.returns (by simp) (hb hby at_167) hr
                · show Q_rm_law Z p1 p2 p3 p4 p5 p6 zc fm h0 n0 _ T392.heap _
                  rw [k402]
                  exact ⟨rfl, N408⟩
              · exact absurd ((Eq.symm c305) : (own_cs p3) = (own_cs p1)) c403
            · exact absurd (c305 : (own_cs p1) = (own_cs p3)) c369
        · have f411 := (Exa.keep (Exa.ext E229 f216) k277)
          have f412 := (Fld.keep (Fld.ext E229 f219) k277 (ninS ne252 (ninS (Ne.symm ne180) (ninS (Ne.symm ne184) nin0))))
          have f413 := (Fld.keep (Fld.ext E229 f217) k277 (ninS ne252 (ninS (Ne.symm ne180) (ninS (Ne.symm ne184) nin0))))
          have f414 := (Fld.keep (Fld.ext E229 f218) k277 (ninS ne252 (ninS (Ne.symm ne180) (ninS (Ne.symm ne184) nin0))))
          have f415 := (Exa.keep f265 k277)
          have f416 := (Fld.keep (Fld.ext E229 f224) k277 (ninS ne233 (ninS ne63 (ninS ne91 nin0))))
          have f417 := (Fld.keep (Fld.ext E229 f225) k277 (ninS ne233 (ninS ne63 (ninS ne91 nin0))))
          have f418 := (Exa.keep (Exa.ext E229 f234) k277)
          have f419 := (Arv.keep (Arv.ext (Arv.keep f211 k215 (ninS ne178 (ninS (own_exane f418 f294 (by decide)) (ninS (own_exane f418 f415 (by decide)) nin0)))) E229) k277 (ninS ne235 (ninS ne64 (ninS ne93 nin0))))
          have f420 := (Exa.keep f272 k277)
          have f421 := (Arv.keep f273 k277 (ninS ne243 (ninS (own_exane f420 f282 (by decide)) (ninS (own_exane f420 f285 (by decide)) nin0))))
          obtain ⟨cq410, kq410, q410a, q410b, q410c⟩ := isOf hZ132 k302 f411
          obtain ⟨_, _, ⟨T410, L410, k410, n410⟩, -, X410, ⟨Lc410, hQ410, l410, y410, z410⟩, st410⟩ := X293.virtualBack hx (y := (⟨"com/example/typecheck/typecheck/model/QName", "equals", "(Ljava/lang/Object;)Z"⟩ : MethodName)) (z := (⟨"com/example/typecheck/typecheck/model/QName", "equals", "(Ljava/lang/Object;)Z"⟩ : MethodName)) ho132 (mvT hZ132 (own_w hw 73 rfl)) (mvT hZ132 (own_w hw 74 rfl)) (notFace_of_selects (args := #[]) (mvT hZ132 (own_w hw 76 rfl))) (mvT hZ132 (own_w hw 76 rfl)) (mvT hZ132 (own_w hw 75 rfl)) (by decide) (backOf (W := 0) (rm_qeq l Z a0 hw [] b170 (((31 : Int32) * (own_H (own_cs p1))) + (own_H (own_cs p2))) x2 x3 x4 (own_cs p1) x21 x22 x23 (own_cs p2) b229 (((31 : Int32) * (own_H (own_cs p3))) + (own_H (own_cs p4))) x44 x45 x46 (own_cs p3) x71 x72 x73 (own_cs p4) zc T259.heap n0 O290 f411 f412 f413 f414 f294 f295 f296 f297 f298 f415 f416 f417 f418 f419 (own_csok p1) (own_csok p2) f278 f281 f279 f280 f282 f283 f284 f299 f300 f285 f286 f287 f420 f421 (own_csok p3) (own_csok p4) ne252 S_C hzc) hZ132 (own_w hw 77 rfl) (own_w hw 28 rfl) (by decide) (by decide)) q410a q410c (g := (mkF m 142 #[.val (.int p1), .val (.int p2), .val (.int p3), .val (.int p4), .val (.int p5), .val (.int p6), .val (.ref x2), .val (.ref x21), .val (.ref x44), .val (.ref x71), .val (.ref x100), .val (.ref x133), .val (.ref b170), .val (.ref b229), .val (.int (((p6.toUInt32 >>> ((2 : Int32) &&& 31).toUInt32).toInt32) &&& (3 : Int32))), .val (.int (0 : Int32))] [(.ref b229), (.ref b170)])) rfl (by rw [hml]; rfl) (Steps.refl _) (argsL := [(.ref b229)]) (rest := []) (lenOf pd_11 rfl) rfl (by show 2 * 0 + _ ≤ _; exact Nat.le_of_eq rfl) (hb hby at_142) (fun _ _ => ⟨rfl, k302, (by decide : 38 + 0 ≤ _), (by decide : 80 + 0 ≤ _)⟩)
          dsimp only [Pt.U, Pt.locs, Pt.cells, Pt.slots] at X410 l410 y410 z410 st410 hQ410
          subst l410 y410 z410
          rcases hQ410 with ⟨c422, c423, rfl, N424, k425⟩ | ⟨c426, rfl, N427, k428⟩ | ⟨c429, rfl, N430, k431⟩ | ⟨c432, rfl, N433, k434⟩
          · exact absurd c423 (c305 : ¬ ((own_cs p1) = (own_cs p3)))
          · have N435 := Fr.app N303 N427
            obtain ⟨cq436, kq436, q436a, q436b, q436c⟩ := isOf hZ132 k428 f278
            obtain ⟨_, _, ⟨T436, L436, k436, n436⟩, -, X436, ⟨Lc436, hQ436, l436, y436, z436⟩, st436⟩ := X410.virtualBack hx (y := (⟨"com/example/typecheck/typecheck/model/QName", "equals", "(Ljava/lang/Object;)Z"⟩ : MethodName)) (z := (⟨"com/example/typecheck/typecheck/model/QName", "equals", "(Ljava/lang/Object;)Z"⟩ : MethodName)) ho132 (mvT hZ132 (own_w hw 73 rfl)) (mvT hZ132 (own_w hw 74 rfl)) (notFace_of_selects (args := #[]) (mvT hZ132 (own_w hw 76 rfl))) (mvT hZ132 (own_w hw 76 rfl)) (mvT hZ132 (own_w hw 75 rfl)) (by decide) (backOf (W := 0) (rm_qeq l Z a0 hw [] b229 (((31 : Int32) * (own_H (own_cs p3))) + (own_H (own_cs p4))) x44 x45 x46 (own_cs p3) x71 x72 x73 (own_cs p4) b170 (((31 : Int32) * (own_H (own_cs p1))) + (own_H (own_cs p2))) x2 x3 x4 (own_cs p1) x21 x22 x23 (own_cs p2) zc T259.heap n0 O290 f278 f281 f279 f280 f282 f283 f284 f299 f300 f285 f286 f287 f420 f421 (own_csok p3) (own_csok p4) f411 f412 f413 f414 f294 f295 f296 f297 f298 f415 f416 f417 f418 f419 (own_csok p1) (own_csok p2) (Ne.symm ne252) S_C hzc) hZ132 (own_w hw 77 rfl) (own_w hw 28 rfl) (by decide) (by decide)) q436a q436c (g := (mkF m 154 #[.val (.int p1), .val (.int p2), .val (.int p3), .val (.int p4), .val (.int p5), .val (.int p6), .val (.ref x2), .val (.ref x21), .val (.ref x44), .val (.ref x71), .val (.ref x100), .val (.ref x133), .val (.ref b170), .val (.ref b229), .val (.int (((p6.toUInt32 >>> ((2 : Int32) &&& 31).toUInt32).toInt32) &&& (3 : Int32))), .val (.int (0 : Int32))] [(.ref b170), (.ref b229)])) rfl (by rw [hml]; rfl) (Steps.refl _) (argsL := [(.ref b170)]) (rest := []) (lenOf pd_11 rfl) rfl (by show 2 * 0 + _ ≤ _; exact Nat.le_of_eq rfl) (hb hby at_154) (fun _ _ => ⟨rfl, k428, (by decide : 38 + 0 ≤ _), (by decide : 80 + 0 ≤ _)⟩)
            dsimp only [Pt.U, Pt.locs, Pt.cells, Pt.slots] at X436 l436 y436 z436 st436 hQ436
            subst l436 y436 z436
            rcases hQ436 with ⟨c437, c438, rfl, N439, k440⟩ | ⟨c441, rfl, N442, k443⟩ | ⟨c444, rfl, N445, k446⟩ | ⟨c447, rfl, N448, k449⟩
            · exact absurd c438 ((fun q => c305 q.symm) : ¬ ((own_cs p3) = (own_cs p1)))
            · have N450 := Fr.app N435 N442
              have S451 : ∀ t, Steps p.tables e below (T436.setTop (mkF m 167 #[.val (.int p1), .val (.int p2), .val (.int p3), .val (.int p4), .val (.int p5), .val (.int p6), .val (.ref x2), .val (.ref x21), .val (.ref x44), .val (.ref x71), .val (.ref x100), .val (.ref x133), .val (.ref b170), .val (.ref b229), .val (.int (((p6.toUInt32 >>> ((2 : Int32) &&& 31).toUInt32).toInt32) &&& (3 : Int32))), .val (.int (0 : Int32))] [(.int (1 : Int32))])) t → Steps p.tables e below (s₁.setTop (mkF m 0 #[.val (.int p1), .val (.int p2), .val (.int p3), .val (.int p4), .val (.int p5), .val (.int p6), .unset, .unset, .unset, .unset, .unset, .unset, .unset, .unset, .unset, .unset] [])) t := by
                intro t kt
                refine S304 t ?_
                refine XS.ifYes X293.here hx rfl (pc0 := 118) (pc' := 135) rfl (hb hby at_118) rfl ((if0 _ _).trans (teq ((own_eq0 c305) : (own_eqI (own_cs p1) (own_cs p3)) = (0 : Int32))).1) (by decide) (by decide) ?_
                refine XS.iconst X293.here hx rfl (hb hby at_135) ?_
                refine XS.istore X293.here hx rfl (hb hby at_136) rfl (l' := #[.val (.int p1), .val (.int p2), .val (.int p3), .val (.int p4), .val (.int p5), .val (.int p6), .val (.ref x2), .val (.ref x21), .val (.ref x44), .val (.ref x71), .val (.ref x100), .val (.ref x133), .val (.ref b170), .val (.ref b229), .val (.int (((p6.toUInt32 >>> ((2 : Int32) &&& 31).toUInt32).toInt32) &&& (3 : Int32))), .val (.int (0 : Int32))]) rfl ?_
                refine XS.aload X293.here hx rfl (hb hby at_138) rfl rfl ?_
                refine XS.aload X293.here hx rfl (hb hby at_140) rfl rfl ?_
                show Steps p.tables e below (T293.setTop (mkF m 142 #[.val (.int p1), .val (.int p2), .val (.int p3), .val (.int p4), .val (.int p5), .val (.int p6), .val (.ref x2), .val (.ref x21), .val (.ref x44), .val (.ref x71), .val (.ref x100), .val (.ref x133), .val (.ref b170), .val (.ref b229), .val (.int (((p6.toUInt32 >>> ((2 : Int32) &&& 31).toUInt32).toInt32) &&& (3 : Int32))), .val (.int (0 : Int32))] [(.ref b229), (.ref b170)])) _
                refine st410.trans ?_
                refine XS.iload X410.here hx rfl (hb hby at_145) rfl ?_
                refine XS.icmpNo X410.here hx rfl (hb hby at_147) rfl (teq ((by decide) : (0 : Int32) = (0 : Int32))).2 ?_
                refine XS.aload X410.here hx rfl (hb hby at_150) rfl rfl ?_
                refine XS.aload X410.here hx rfl (hb hby at_152) rfl rfl ?_
                show Steps p.tables e below (T410.setTop (mkF m 154 #[.val (.int p1), .val (.int p2), .val (.int p3), .val (.int p4), .val (.int p5), .val (.int p6), .val (.ref x2), .val (.ref x21), .val (.ref x44), .val (.ref x71), .val (.ref x100), .val (.ref x133), .val (.ref b170), .val (.ref b229), .val (.int (((p6.toUInt32 >>> ((2 : Int32) &&& 31).toUInt32).toInt32) &&& (3 : Int32))), .val (.int (0 : Int32))] [(.ref b170), (.ref b229)])) _
                refine st436.trans ?_
                refine XS.iload X436.here hx rfl (hb hby at_157) rfl ?_
                refine XS.icmpNo X436.here hx rfl (hb hby at_159) rfl (teq ((by decide) : (0 : Int32) = (0 : Int32))).2 ?_
                refine XS.iconst X436.here hx rfl (hb hby at_162) ?_
                refine XS.goto X436.here hx rfl (pc0 := 163) (pc' := 167) rfl (hb hby at_163) (by decide) (by decide) ?_
                exact kt
              obtain ⟨fs, hr, hrun, hended, hRW⟩ := X436.leaveW hS132 (by rw [k443]; exact hk289) (v := some (.int (1 : Int32))) (fun h => by rw [Bd.returns] at h; cases h)
              refine ⟨_, _, pre0 _ (S451 _ ?_), hrun, hended, _, _, rfl, ?_, hRW.1, hRW.2.1, hRW.2.2.1, hRW.2.2.2.mono (by decide) (by decide)⟩
              · exact retN X436 hx (t := .boolean) Bd.returns (by simp) (hb hby at_167) hr
              · show Q_rm_law Z p1 p2 p3 p4 p5 p6 zc fm h0 n0 _ T436.heap _
                rw [k443]
                exact ⟨rfl, N450⟩
            · have N452 := Fr.app N435 N445
              have S453 : ∀ t, Steps p.tables e below (T436.setTop (mkF m 167 #[.val (.int p1), .val (.int p2), .val (.int p3), .val (.int p4), .val (.int p5), .val (.int p6), .val (.ref x2), .val (.ref x21), .val (.ref x44), .val (.ref x71), .val (.ref x100), .val (.ref x133), .val (.ref b170), .val (.ref b229), .val (.int (((p6.toUInt32 >>> ((2 : Int32) &&& 31).toUInt32).toInt32) &&& (3 : Int32))), .val (.int (0 : Int32))] [(.int (1 : Int32))])) t → Steps p.tables e below (s₁.setTop (mkF m 0 #[.val (.int p1), .val (.int p2), .val (.int p3), .val (.int p4), .val (.int p5), .val (.int p6), .unset, .unset, .unset, .unset, .unset, .unset, .unset, .unset, .unset, .unset] [])) t := by
                intro t kt
                refine S304 t ?_
                refine XS.ifYes X293.here hx rfl (pc0 := 118) (pc' := 135) rfl (hb hby at_118) rfl ((if0 _ _).trans (teq ((own_eq0 c305) : (own_eqI (own_cs p1) (own_cs p3)) = (0 : Int32))).1) (by decide) (by decide) ?_
                refine XS.iconst X293.here hx rfl (hb hby at_135) ?_
                refine XS.istore X293.here hx rfl (hb hby at_136) rfl (l' := #[.val (.int p1), .val (.int p2), .val (.int p3), .val (.int p4), .val (.int p5), .val (.int p6), .val (.ref x2), .val (.ref x21), .val (.ref x44), .val (.ref x71), .val (.ref x100), .val (.ref x133), .val (.ref b170), .val (.ref b229), .val (.int (((p6.toUInt32 >>> ((2 : Int32) &&& 31).toUInt32).toInt32) &&& (3 : Int32))), .val (.int (0 : Int32))]) rfl ?_
                refine XS.aload X293.here hx rfl (hb hby at_138) rfl rfl ?_
                refine XS.aload X293.here hx rfl (hb hby at_140) rfl rfl ?_
                show Steps p.tables e below (T293.setTop (mkF m 142 #[.val (.int p1), .val (.int p2), .val (.int p3), .val (.int p4), .val (.int p5), .val (.int p6), .val (.ref x2), .val (.ref x21), .val (.ref x44), .val (.ref x71), .val (.ref x100), .val (.ref x133), .val (.ref b170), .val (.ref b229), .val (.int (((p6.toUInt32 >>> ((2 : Int32) &&& 31).toUInt32).toInt32) &&& (3 : Int32))), .val (.int (0 : Int32))] [(.ref b229), (.ref b170)])) _
                refine st410.trans ?_
                refine XS.iload X410.here hx rfl (hb hby at_145) rfl ?_
                refine XS.icmpNo X410.here hx rfl (hb hby at_147) rfl (teq ((by decide) : (0 : Int32) = (0 : Int32))).2 ?_
                refine XS.aload X410.here hx rfl (hb hby at_150) rfl rfl ?_
                refine XS.aload X410.here hx rfl (hb hby at_152) rfl rfl ?_
                show Steps p.tables e below (T410.setTop (mkF m 154 #[.val (.int p1), .val (.int p2), .val (.int p3), .val (.int p4), .val (.int p5), .val (.int p6), .val (.ref x2), .val (.ref x21), .val (.ref x44), .val (.ref x71), .val (.ref x100), .val (.ref x133), .val (.ref b170), .val (.ref b229), .val (.int (((p6.toUInt32 >>> ((2 : Int32) &&& 31).toUInt32).toInt32) &&& (3 : Int32))), .val (.int (0 : Int32))] [(.ref b170), (.ref b229)])) _
                refine st436.trans ?_
                refine XS.iload X436.here hx rfl (hb hby at_157) rfl ?_
                refine XS.icmpNo X436.here hx rfl (hb hby at_159) rfl (teq ((by decide) : (0 : Int32) = (0 : Int32))).2 ?_
                refine XS.iconst X436.here hx rfl (hb hby at_162) ?_
                refine XS.goto X436.here hx rfl (pc0 := 163) (pc' := 167) rfl (hb hby at_163) (by decide) (by decide) ?_
                exact kt
              obtain ⟨fs, hr, hrun, hended, hRW⟩ := X436.leaveW hS132 (by rw [k446]; exact hk289) (v := some (.int (1 : Int32))) (fun h => by rw [Bd.returns] at h; cases h)
              refine ⟨_, _, pre0 _ (S453 _ ?_), hrun, hended, _, _, rfl, ?_, hRW.1, hRW.2.1, hRW.2.2.1, hRW.2.2.2.mono (by decide) (by decide)⟩
              · exact retN X436 hx (t := .boolean) Bd.returns (by simp) (hb hby at_167) hr
              · show Q_rm_law Z p1 p2 p3 p4 p5 p6 zc fm h0 n0 _ T436.heap _
                rw [k446]
                exact ⟨rfl, N452⟩
            · have N454 := Fr.app N435 N448
              have S455 : ∀ t, Steps p.tables e below (T436.setTop (mkF m 167 #[.val (.int p1), .val (.int p2), .val (.int p3), .val (.int p4), .val (.int p5), .val (.int p6), .val (.ref x2), .val (.ref x21), .val (.ref x44), .val (.ref x71), .val (.ref x100), .val (.ref x133), .val (.ref b170), .val (.ref b229), .val (.int (((p6.toUInt32 >>> ((2 : Int32) &&& 31).toUInt32).toInt32) &&& (3 : Int32))), .val (.int (0 : Int32))] [(.int (1 : Int32))])) t → Steps p.tables e below (s₁.setTop (mkF m 0 #[.val (.int p1), .val (.int p2), .val (.int p3), .val (.int p4), .val (.int p5), .val (.int p6), .unset, .unset, .unset, .unset, .unset, .unset, .unset, .unset, .unset, .unset] [])) t := by
                intro t kt
                refine S304 t ?_
                refine XS.ifYes X293.here hx rfl (pc0 := 118) (pc' := 135) rfl (hb hby at_118) rfl ((if0 _ _).trans (teq ((own_eq0 c305) : (own_eqI (own_cs p1) (own_cs p3)) = (0 : Int32))).1) (by decide) (by decide) ?_
                refine XS.iconst X293.here hx rfl (hb hby at_135) ?_
                refine XS.istore X293.here hx rfl (hb hby at_136) rfl (l' := #[.val (.int p1), .val (.int p2), .val (.int p3), .val (.int p4), .val (.int p5), .val (.int p6), .val (.ref x2), .val (.ref x21), .val (.ref x44), .val (.ref x71), .val (.ref x100), .val (.ref x133), .val (.ref b170), .val (.ref b229), .val (.int (((p6.toUInt32 >>> ((2 : Int32) &&& 31).toUInt32).toInt32) &&& (3 : Int32))), .val (.int (0 : Int32))]) rfl ?_
                refine XS.aload X293.here hx rfl (hb hby at_138) rfl rfl ?_
                refine XS.aload X293.here hx rfl (hb hby at_140) rfl rfl ?_
                show Steps p.tables e below (T293.setTop (mkF m 142 #[.val (.int p1), .val (.int p2), .val (.int p3), .val (.int p4), .val (.int p5), .val (.int p6), .val (.ref x2), .val (.ref x21), .val (.ref x44), .val (.ref x71), .val (.ref x100), .val (.ref x133), .val (.ref b170), .val (.ref b229), .val (.int (((p6.toUInt32 >>> ((2 : Int32) &&& 31).toUInt32).toInt32) &&& (3 : Int32))), .val (.int (0 : Int32))] [(.ref b229), (.ref b170)])) _
                refine st410.trans ?_
                refine XS.iload X410.here hx rfl (hb hby at_145) rfl ?_
                refine XS.icmpNo X410.here hx rfl (hb hby at_147) rfl (teq ((by decide) : (0 : Int32) = (0 : Int32))).2 ?_
                refine XS.aload X410.here hx rfl (hb hby at_150) rfl rfl ?_
                refine XS.aload X410.here hx rfl (hb hby at_152) rfl rfl ?_
                show Steps p.tables e below (T410.setTop (mkF m 154 #[.val (.int p1), .val (.int p2), .val (.int p3), .val (.int p4), .val (.int p5), .val (.int p6), .val (.ref x2), .val (.ref x21), .val (.ref x44), .val (.ref x71), .val (.ref x100), .val (.ref x133), .val (.ref b170), .val (.ref b229), .val (.int (((p6.toUInt32 >>> ((2 : Int32) &&& 31).toUInt32).toInt32) &&& (3 : Int32))), .val (.int (0 : Int32))] [(.ref b170), (.ref b229)])) _
                refine st436.trans ?_
                refine XS.iload X436.here hx rfl (hb hby at_157) rfl ?_
                refine XS.icmpNo X436.here hx rfl (hb hby at_159) rfl (teq ((by decide) : (0 : Int32) = (0 : Int32))).2 ?_
                refine XS.iconst X436.here hx rfl (hb hby at_162) ?_
                refine XS.goto X436.here hx rfl (pc0 := 163) (pc' := 167) rfl (hb hby at_163) (by decide) (by decide) ?_
                exact kt
              obtain ⟨fs, hr, hrun, hended, hRW⟩ := X436.leaveW hS132 (by rw [k449]; exact hk289) (v := some (.int (1 : Int32))) (fun h => by rw [Bd.returns] at h; cases h)
              refine ⟨_, _, pre0 _ (S455 _ ?_), hrun, hended, _, _, rfl, ?_, hRW.1, hRW.2.1, hRW.2.2.1, hRW.2.2.2.mono (by decide) (by decide)⟩
              · exact retN X436 hx (t := .boolean) Bd.returns (by simp) (hb hby at_167) hr
              · show Q_rm_law Z p1 p2 p3 p4 p5 p6 zc fm h0 n0 _ T436.heap _
                rw [k449]
                exact ⟨rfl, N454⟩
          · have N456 := Fr.app N303 N430
            obtain ⟨cq457, kq457, q457a, q457b, q457c⟩ := isOf hZ132 k431 f278
            obtain ⟨_, _, ⟨T457, L457, k457, n457⟩, -, X457, ⟨Lc457, hQ457, l457, y457, z457⟩, st457⟩ := X410.virtualBack hx (y := (⟨"com/example/typecheck/typecheck/model/QName", "equals", "(Ljava/lang/Object;)Z"⟩ : MethodName)) (z := (⟨"com/example/typecheck/typecheck/model/QName", "equals", "(Ljava/lang/Object;)Z"⟩ : MethodName)) ho132 (mvT hZ132 (own_w hw 73 rfl)) (mvT hZ132 (own_w hw 74 rfl)) (notFace_of_selects (args := #[]) (mvT hZ132 (own_w hw 76 rfl))) (mvT hZ132 (own_w hw 76 rfl)) (mvT hZ132 (own_w hw 75 rfl)) (by decide) (backOf (W := 0) (rm_qeq l Z a0 hw [] b229 (((31 : Int32) * (own_H (own_cs p3))) + (own_H (own_cs p4))) x44 x45 x46 (own_cs p3) x71 x72 x73 (own_cs p4) b170 (((31 : Int32) * (own_H (own_cs p1))) + (own_H (own_cs p2))) x2 x3 x4 (own_cs p1) x21 x22 x23 (own_cs p2) zc T259.heap n0 O290 f278 f281 f279 f280 f282 f283 f284 f299 f300 f285 f286 f287 f420 f421 (own_csok p3) (own_csok p4) f411 f412 f413 f414 f294 f295 f296 f297 f298 f415 f416 f417 f418 f419 (own_csok p1) (own_csok p2) (Ne.symm ne252) S_C hzc) hZ132 (own_w hw 77 rfl) (own_w hw 28 rfl) (by decide) (by decide)) q457a q457c (g := (mkF m 154 #[.val (.int p1), .val (.int p2), .val (.int p3), .val (.int p4), .val (.int p5), .val (.int p6), .val (.ref x2), .val (.ref x21), .val (.ref x44), .val (.ref x71), .val (.ref x100), .val (.ref x133), .val (.ref b170), .val (.ref b229), .val (.int (((p6.toUInt32 >>> ((2 : Int32) &&& 31).toUInt32).toInt32) &&& (3 : Int32))), .val (.int (0 : Int32))] [(.ref b170), (.ref b229)])) rfl (by rw [hml]; rfl) (Steps.refl _) (argsL := [(.ref b170)]) (rest := []) (lenOf pd_11 rfl) rfl (by show 2 * 0 + _ ≤ _; exact Nat.le_of_eq rfl) (hb hby at_154) (fun _ _ => ⟨rfl, k431, (by decide : 38 + 0 ≤ _), (by decide : 80 + 0 ≤ _)⟩)
            dsimp only [Pt.U, Pt.locs, Pt.cells, Pt.slots] at X457 l457 y457 z457 st457 hQ457
            subst l457 y457 z457
            rcases hQ457 with ⟨c458, c459, rfl, N460, k461⟩ | ⟨c462, rfl, N463, k464⟩ | ⟨c465, rfl, N466, k467⟩ | ⟨c468, rfl, N469, k470⟩
            · exact absurd c459 ((fun q => c305 q.symm) : ¬ ((own_cs p3) = (own_cs p1)))
            · have N471 := Fr.app N456 N463
              have S472 : ∀ t, Steps p.tables e below (T457.setTop (mkF m 167 #[.val (.int p1), .val (.int p2), .val (.int p3), .val (.int p4), .val (.int p5), .val (.int p6), .val (.ref x2), .val (.ref x21), .val (.ref x44), .val (.ref x71), .val (.ref x100), .val (.ref x133), .val (.ref b170), .val (.ref b229), .val (.int (((p6.toUInt32 >>> ((2 : Int32) &&& 31).toUInt32).toInt32) &&& (3 : Int32))), .val (.int (0 : Int32))] [(.int (1 : Int32))])) t → Steps p.tables e below (s₁.setTop (mkF m 0 #[.val (.int p1), .val (.int p2), .val (.int p3), .val (.int p4), .val (.int p5), .val (.int p6), .unset, .unset, .unset, .unset, .unset, .unset, .unset, .unset, .unset, .unset] [])) t := by
                intro t kt
                refine S304 t ?_
                refine XS.ifYes X293.here hx rfl (pc0 := 118) (pc' := 135) rfl (hb hby at_118) rfl ((if0 _ _).trans (teq ((own_eq0 c305) : (own_eqI (own_cs p1) (own_cs p3)) = (0 : Int32))).1) (by decide) (by decide) ?_
                refine XS.iconst X293.here hx rfl (hb hby at_135) ?_
                refine XS.istore X293.here hx rfl (hb hby at_136) rfl (l' := #[.val (.int p1), .val (.int p2), .val (.int p3), .val (.int p4), .val (.int p5), .val (.int p6), .val (.ref x2), .val (.ref x21), .val (.ref x44), .val (.ref x71), .val (.ref x100), .val (.ref x133), .val (.ref b170), .val (.ref b229), .val (.int (((p6.toUInt32 >>> ((2 : Int32) &&& 31).toUInt32).toInt32) &&& (3 : Int32))), .val (.int (0 : Int32))]) rfl ?_
                refine XS.aload X293.here hx rfl (hb hby at_138) rfl rfl ?_
                refine XS.aload X293.here hx rfl (hb hby at_140) rfl rfl ?_
                show Steps p.tables e below (T293.setTop (mkF m 142 #[.val (.int p1), .val (.int p2), .val (.int p3), .val (.int p4), .val (.int p5), .val (.int p6), .val (.ref x2), .val (.ref x21), .val (.ref x44), .val (.ref x71), .val (.ref x100), .val (.ref x133), .val (.ref b170), .val (.ref b229), .val (.int (((p6.toUInt32 >>> ((2 : Int32) &&& 31).toUInt32).toInt32) &&& (3 : Int32))), .val (.int (0 : Int32))] [(.ref b229), (.ref b170)])) _
                refine st410.trans ?_
                refine XS.iload X410.here hx rfl (hb hby at_145) rfl ?_
                refine XS.icmpNo X410.here hx rfl (hb hby at_147) rfl (teq ((by decide) : (0 : Int32) = (0 : Int32))).2 ?_
                refine XS.aload X410.here hx rfl (hb hby at_150) rfl rfl ?_
                refine XS.aload X410.here hx rfl (hb hby at_152) rfl rfl ?_
                show Steps p.tables e below (T410.setTop (mkF m 154 #[.val (.int p1), .val (.int p2), .val (.int p3), .val (.int p4), .val (.int p5), .val (.int p6), .val (.ref x2), .val (.ref x21), .val (.ref x44), .val (.ref x71), .val (.ref x100), .val (.ref x133), .val (.ref b170), .val (.ref b229), .val (.int (((p6.toUInt32 >>> ((2 : Int32) &&& 31).toUInt32).toInt32) &&& (3 : Int32))), .val (.int (0 : Int32))] [(.ref b170), (.ref b229)])) _
                refine st457.trans ?_
                refine XS.iload X457.here hx rfl (hb hby at_157) rfl ?_
                refine XS.icmpNo X457.here hx rfl (hb hby at_159) rfl (teq ((by decide) : (0 : Int32) = (0 : Int32))).2 ?_
                refine XS.iconst X457.here hx rfl (hb hby at_162) ?_
                refine XS.goto X457.here hx rfl (pc0 := 163) (pc' := 167) rfl (hb hby at_163) (by decide) (by decide) ?_
                exact kt
              obtain ⟨fs, hr, hrun, hended, hRW⟩ := X457.leaveW hS132 (by rw [k464]; exact hk289) (v := some (.int (1 : Int32))) (fun h => by rw [Bd.returns] at h; cases h)
              refine ⟨_, _, pre0 _ (S472 _ ?_), hrun, hended, _, _, rfl, ?_, hRW.1, hRW.2.1, hRW.2.2.1, hRW.2.2.2.mono (by decide) (by decide)⟩
              · exact retN X457 hx (t := .boolean) Bd.returns (by simp) (hb hby at_167) hr
              · show Q_rm_law Z p1 p2 p3 p4 p5 p6 zc fm h0 n0 _ T457.heap _
                rw [k464]
                exact ⟨rfl, N471⟩
            · have N473 := Fr.app N456 N466
              have S474 : ∀ t, Steps p.tables e below (T457.setTop (mkF m 167 #[.val (.int p1), .val (.int p2), .val (.int p3), .val (.int p4), .val (.int p5), .val (.int p6), .val (.ref x2), .val (.ref x21), .val (.ref x44), .val (.ref x71), .val (.ref x100), .val (.ref x133), .val (.ref b170), .val (.ref b229), .val (.int (((p6.toUInt32 >>> ((2 : Int32) &&& 31).toUInt32).toInt32) &&& (3 : Int32))), .val (.int (0 : Int32))] [(.int (1 : Int32))])) t → Steps p.tables e below (s₁.setTop (mkF m 0 #[.val (.int p1), .val (.int p2), .val (.int p3), .val (.int p4), .val (.int p5), .val (.int p6), .unset, .unset, .unset, .unset, .unset, .unset, .unset, .unset, .unset, .unset] [])) t := by
                intro t kt
                refine S304 t ?_
                refine XS.ifYes X293.here hx rfl (pc0 := 118) (pc' := 135) rfl (hb hby at_118) rfl ((if0 _ _).trans (teq ((own_eq0 c305) : (own_eqI (own_cs p1) (own_cs p3)) = (0 : Int32))).1) (by decide) (by decide) ?_
                refine XS.iconst X293.here hx rfl (hb hby at_135) ?_
                refine XS.istore X293.here hx rfl (hb hby at_136) rfl (l' := #[.val (.int p1), .val (.int p2), .val (.int p3), .val (.int p4), .val (.int p5), .val (.int p6), .val (.ref x2), .val (.ref x21), .val (.ref x44), .val (.ref x71), .val (.ref x100), .val (.ref x133), .val (.ref b170), .val (.ref b229), .val (.int (((p6.toUInt32 >>> ((2 : Int32) &&& 31).toUInt32).toInt32) &&& (3 : Int32))), .val (.int (0 : Int32))]) rfl ?_
                refine XS.aload X293.here hx rfl (hb hby at_138) rfl rfl ?_
                refine XS.aload X293.here hx rfl (hb hby at_140) rfl rfl ?_
                show Steps p.tables e below (T293.setTop (mkF m 142 #[.val (.int p1), .val (.int p2), .val (.int p3), .val (.int p4), .val (.int p5), .val (.int p6), .val (.ref x2), .val (.ref x21), .val (.ref x44), .val (.ref x71), .val (.ref x100), .val (.ref x133), .val (.ref b170), .val (.ref b229), .val (.int (((p6.toUInt32 >>> ((2 : Int32) &&& 31).toUInt32).toInt32) &&& (3 : Int32))), .val (.int (0 : Int32))] [(.ref b229), (.ref b170)])) _
                refine st410.trans ?_
                refine XS.iload X410.here hx rfl (hb hby at_145) rfl ?_
                refine XS.icmpNo X410.here hx rfl (hb hby at_147) rfl (teq ((by decide) : (0 : Int32) = (0 : Int32))).2 ?_
                refine XS.aload X410.here hx rfl (hb hby at_150) rfl rfl ?_
                refine XS.aload X410.here hx rfl (hb hby at_152) rfl rfl ?_
                show Steps p.tables e below (T410.setTop (mkF m 154 #[.val (.int p1), .val (.int p2), .val (.int p3), .val (.int p4), .val (.int p5), .val (.int p6), .val (.ref x2), .val (.ref x21), .val (.ref x44), .val (.ref x71), .val (.ref x100), .val (.ref x133), .val (.ref b170), .val (.ref b229), .val (.int (((p6.toUInt32 >>> ((2 : Int32) &&& 31).toUInt32).toInt32) &&& (3 : Int32))), .val (.int (0 : Int32))] [(.ref b170), (.ref b229)])) _
                refine st457.trans ?_
                refine XS.iload X457.here hx rfl (hb hby at_157) rfl ?_
                refine XS.icmpNo X457.here hx rfl (hb hby at_159) rfl (teq ((by decide) : (0 : Int32) = (0 : Int32))).2 ?_
                refine XS.iconst X457.here hx rfl (hb hby at_162) ?_
                refine XS.goto X457.here hx rfl (pc0 := 163) (pc' := 167) rfl (hb hby at_163) (by decide) (by decide) ?_
                exact kt
              obtain ⟨fs, hr, hrun, hended, hRW⟩ := X457.leaveW hS132 (by rw [k467]; exact hk289) (v := some (.int (1 : Int32))) (fun h => by rw [Bd.returns] at h; cases h)
              refine ⟨_, _, pre0 _ (S474 _ ?_), hrun, hended, _, _, rfl, ?_, hRW.1, hRW.2.1, hRW.2.2.1, hRW.2.2.2.mono (by decide) (by decide)⟩
              · exact retN X457 hx (t := .boolean) Bd.returns (by simp) (hb hby at_167) hr
              · show Q_rm_law Z p1 p2 p3 p4 p5 p6 zc fm h0 n0 _ T457.heap _
                rw [k467]
                exact ⟨rfl, N473⟩
            · have N475 := Fr.app N456 N469
              have S476 : ∀ t, Steps p.tables e below (T457.setTop (mkF m 167 #[.val (.int p1), .val (.int p2), .val (.int p3), .val (.int p4), .val (.int p5), .val (.int p6), .val (.ref x2), .val (.ref x21), .val (.ref x44), .val (.ref x71), .val (.ref x100), .val (.ref x133), .val (.ref b170), .val (.ref b229), .val (.int (((p6.toUInt32 >>> ((2 : Int32) &&& 31).toUInt32).toInt32) &&& (3 : Int32))), .val (.int (0 : Int32))] [(.int (1 : Int32))])) t → Steps p.tables e below (s₁.setTop (mkF m 0 #[.val (.int p1), .val (.int p2), .val (.int p3), .val (.int p4), .val (.int p5), .val (.int p6), .unset, .unset, .unset, .unset, .unset, .unset, .unset, .unset, .unset, .unset] [])) t := by
                intro t kt
                refine S304 t ?_
                refine XS.ifYes X293.here hx rfl (pc0 := 118) (pc' := 135) rfl (hb hby at_118) rfl ((if0 _ _).trans (teq ((own_eq0 c305) : (own_eqI (own_cs p1) (own_cs p3)) = (0 : Int32))).1) (by decide) (by decide) ?_
                refine XS.iconst X293.here hx rfl (hb hby at_135) ?_
                refine XS.istore X293.here hx rfl (hb hby at_136) rfl (l' := #[.val (.int p1), .val (.int p2), .val (.int p3), .val (.int p4), .val (.int p5), .val (.int p6), .val (.ref x2), .val (.ref x21), .val (.ref x44), .val (.ref x71), .val (.ref x100), .val (.ref x133), .val (.ref b170), .val (.ref b229), .val (.int (((p6.toUInt32 >>> ((2 : Int32) &&& 31).toUInt32).toInt32) &&& (3 : Int32))), .val (.int (0 : Int32))]) rfl ?_
                refine XS.aload X293.here hx rfl (hb hby at_138) rfl rfl ?_
                refine XS.aload X293.here hx rfl (hb hby at_140) rfl rfl ?_
                show Steps p.tables e below (T293.setTop (mkF m 142 #[.val (.int p1), .val (.int p2), .val (.int p3), .val (.int p4), .val (.int p5), .val (.int p6), .val (.ref x2), .val (.ref x21), .val (.ref x44), .val (.ref x71), .val (.ref x100), .val (.ref x133), .val (.ref b170), .val (.ref b229), .val (.int (((p6.toUInt32 >>> ((2 : Int32) &&& 31).toUInt32).toInt32) &&& (3 : Int32))), .val (.int (0 : Int32))] [(.ref b229), (.ref b170)])) _
                refine st410.trans ?_
                refine XS.iload X410.here hx rfl (hb hby at_145) rfl ?_
                refine XS.icmpNo X410.here hx rfl (hb hby at_147) rfl (teq ((by decide) : (0 : Int32) = (0 : Int32))).2 ?_
                refine XS.aload X410.here hx rfl (hb hby at_150) rfl rfl ?_
                refine XS.aload X410.here hx rfl (hb hby at_152) rfl rfl ?_
                show Steps p.tables e below (T410.setTop (mkF m 154 #[.val (.int p1), .val (.int p2), .val (.int p3), .val (.int p4), .val (.int p5), .val (.int p6), .val (.ref x2), .val (.ref x21), .val (.ref x44), .val (.ref x71), .val (.ref x100), .val (.ref x133), .val (.ref b170), .val (.ref b229), .val (.int (((p6.toUInt32 >>> ((2 : Int32) &&& 31).toUInt32).toInt32) &&& (3 : Int32))), .val (.int (0 : Int32))] [(.ref b170), (.ref b229)])) _
                refine st457.trans ?_
                refine XS.iload X457.here hx rfl (hb hby at_157) rfl ?_
                refine XS.icmpNo X457.here hx rfl (hb hby at_159) rfl (teq ((by decide) : (0 : Int32) = (0 : Int32))).2 ?_
                refine XS.iconst X457.here hx rfl (hb hby at_162) ?_
                refine XS.goto X457.here hx rfl (pc0 := 163) (pc' := 167) rfl (hb hby at_163) (by decide) (by decide) ?_
                exact kt
              obtain ⟨fs, hr, hrun, hended, hRW⟩ := X457.leaveW hS132 (by rw [k470]; exact hk289) (v := some (.int (1 : Int32))) (fun h => by rw [Bd.returns] at h; cases h)
              refine ⟨_, _, pre0 _ (S476 _ ?_), hrun, hended, _, _, rfl, ?_, hRW.1, hRW.2.1, hRW.2.2.1, hRW.2.2.2.mono (by decide) (by decide)⟩
              · exact retN X457 hx (t := .boolean) Bd.returns (by simp) (hb hby at_167) hr
              · show Q_rm_law Z p1 p2 p3 p4 p5 p6 zc fm h0 n0 _ T457.heap _
                rw [k470]
                exact ⟨rfl, N475⟩
          · have N477 := Fr.app N303 N433
            obtain ⟨cq478, kq478, q478a, q478b, q478c⟩ := isOf hZ132 k434 f278
            obtain ⟨_, _, ⟨T478, L478, k478, n478⟩, -, X478, ⟨Lc478, hQ478, l478, y478, z478⟩, st478⟩ := X410.virtualBack hx (y := (⟨"com/example/typecheck/typecheck/model/QName", "equals", "(Ljava/lang/Object;)Z"⟩ : MethodName)) (z := (⟨"com/example/typecheck/typecheck/model/QName", "equals", "(Ljava/lang/Object;)Z"⟩ : MethodName)) ho132 (mvT hZ132 (own_w hw 73 rfl)) (mvT hZ132 (own_w hw 74 rfl)) (notFace_of_selects (args := #[]) (mvT hZ132 (own_w hw 76 rfl))) (mvT hZ132 (own_w hw 76 rfl)) (mvT hZ132 (own_w hw 75 rfl)) (by decide) (backOf (W := 0) (rm_qeq l Z a0 hw [] b229 (((31 : Int32) * (own_H (own_cs p3))) + (own_H (own_cs p4))) x44 x45 x46 (own_cs p3) x71 x72 x73 (own_cs p4) b170 (((31 : Int32) * (own_H (own_cs p1))) + (own_H (own_cs p2))) x2 x3 x4 (own_cs p1) x21 x22 x23 (own_cs p2) zc T259.heap n0 O290 f278 f281 f279 f280 f282 f283 f284 f299 f300 f285 f286 f287 f420 f421 (own_csok p3) (own_csok p4) f411 f412 f413 f414 f294 f295 f296 f297 f298 f415 f416 f417 f418 f419 (own_csok p1) (own_csok p2) (Ne.symm ne252) S_C hzc) hZ132 (own_w hw 77 rfl) (own_w hw 28 rfl) (by decide) (by decide)) q478a q478c (g := (mkF m 154 #[.val (.int p1), .val (.int p2), .val (.int p3), .val (.int p4), .val (.int p5), .val (.int p6), .val (.ref x2), .val (.ref x21), .val (.ref x44), .val (.ref x71), .val (.ref x100), .val (.ref x133), .val (.ref b170), .val (.ref b229), .val (.int (((p6.toUInt32 >>> ((2 : Int32) &&& 31).toUInt32).toInt32) &&& (3 : Int32))), .val (.int (0 : Int32))] [(.ref b170), (.ref b229)])) rfl (by rw [hml]; rfl) (Steps.refl _) (argsL := [(.ref b170)]) (rest := []) (lenOf pd_11 rfl) rfl (by show 2 * 0 + _ ≤ _; exact Nat.le_of_eq rfl) (hb hby at_154) (fun _ _ => ⟨rfl, k434, (by decide : 38 + 0 ≤ _), (by decide : 80 + 0 ≤ _)⟩)
            dsimp only [Pt.U, Pt.locs, Pt.cells, Pt.slots] at X478 l478 y478 z478 st478 hQ478
            subst l478 y478 z478
            rcases hQ478 with ⟨c479, c480, rfl, N481, k482⟩ | ⟨c483, rfl, N484, k485⟩ | ⟨c486, rfl, N487, k488⟩ | ⟨c489, rfl, N490, k491⟩
            · exact absurd c480 ((fun q => c305 q.symm) : ¬ ((own_cs p3) = (own_cs p1)))
            · have N492 := Fr.app N477 N484
              have S493 : ∀ t, Steps p.tables e below (T478.setTop (mkF m 167 #[.val (.int p1), .val (.int p2), .val (.int p3), .val (.int p4), .val (.int p5), .val (.int p6), .val (.ref x2), .val (.ref x21), .val (.ref x44), .val (.ref x71), .val (.ref x100), .val (.ref x133), .val (.ref b170), .val (.ref b229), .val (.int (((p6.toUInt32 >>> ((2 : Int32) &&& 31).toUInt32).toInt32) &&& (3 : Int32))), .val (.int (0 : Int32))] [(.int (1 : Int32))])) t → Steps p.tables e below (s₁.setTop (mkF m 0 #[.val (.int p1), .val (.int p2), .val (.int p3), .val (.int p4), .val (.int p5), .val (.int p6), .unset, .unset, .unset, .unset, .unset, .unset, .unset, .unset, .unset, .unset] [])) t := by
                intro t kt
                refine S304 t ?_
                refine XS.ifYes X293.here hx rfl (pc0 := 118) (pc' := 135) rfl (hb hby at_118) rfl ((if0 _ _).trans (teq ((own_eq0 c305) : (own_eqI (own_cs p1) (own_cs p3)) = (0 : Int32))).1) (by decide) (by decide) ?_
                refine XS.iconst X293.here hx rfl (hb hby at_135) ?_
                refine XS.istore X293.here hx rfl (hb hby at_136) rfl (l' := #[.val (.int p1), .val (.int p2), .val (.int p3), .val (.int p4), .val (.int p5), .val (.int p6), .val (.ref x2), .val (.ref x21), .val (.ref x44), .val (.ref x71), .val (.ref x100), .val (.ref x133), .val (.ref b170), .val (.ref b229), .val (.int (((p6.toUInt32 >>> ((2 : Int32) &&& 31).toUInt32).toInt32) &&& (3 : Int32))), .val (.int (0 : Int32))]) rfl ?_
                refine XS.aload X293.here hx rfl (hb hby at_138) rfl rfl ?_
                refine XS.aload X293.here hx rfl (hb hby at_140) rfl rfl ?_
                show Steps p.tables e below (T293.setTop (mkF m 142 #[.val (.int p1), .val (.int p2), .val (.int p3), .val (.int p4), .val (.int p5), .val (.int p6), .val (.ref x2), .val (.ref x21), .val (.ref x44), .val (.ref x71), .val (.ref x100), .val (.ref x133), .val (.ref b170), .val (.ref b229), .val (.int (((p6.toUInt32 >>> ((2 : Int32) &&& 31).toUInt32).toInt32) &&& (3 : Int32))), .val (.int (0 : Int32))] [(.ref b229), (.ref b170)])) _
                refine st410.trans ?_
                refine XS.iload X410.here hx rfl (hb hby at_145) rfl ?_
                refine XS.icmpNo X410.here hx rfl (hb hby at_147) rfl (teq ((by decide) : (0 : Int32) = (0 : Int32))).2 ?_
                refine XS.aload X410.here hx rfl (hb hby at_150) rfl rfl ?_
                refine XS.aload X410.here hx rfl (hb hby at_152) rfl rfl ?_
                show Steps p.tables e below (T410.setTop (mkF m 154 #[.val (.int p1), .val (.int p2), .val (.int p3), .val (.int p4), .val (.int p5), .val (.int p6), .val (.ref x2), .val (.ref x21), .val (.ref x44), .val (.ref x71), .val (.ref x100), .val (.ref x133), .val (.ref b170), .val (.ref b229), .val (.int (((p6.toUInt32 >>> ((2 : Int32) &&& 31).toUInt32).toInt32) &&& (3 : Int32))), .val (.int (0 : Int32))] [(.ref b170), (.ref b229)])) _
                refine st478.trans ?_
                refine XS.iload X478.here hx rfl (hb hby at_157) rfl ?_
                refine XS.icmpNo X478.here hx rfl (hb hby at_159) rfl (teq ((by decide) : (0 : Int32) = (0 : Int32))).2 ?_
                refine XS.iconst X478.here hx rfl (hb hby at_162) ?_
                refine XS.goto X478.here hx rfl (pc0 := 163) (pc' := 167) rfl (hb hby at_163) (by decide) (by decide) ?_
                exact kt
              obtain ⟨fs, hr, hrun, hended, hRW⟩ := X478.leaveW hS132 (by rw [k485]; exact hk289) (v := some (.int (1 : Int32))) (fun h => by rw [Bd.returns] at h; cases h)
              refine ⟨_, _, pre0 _ (S493 _ ?_), hrun, hended, _, _, rfl, ?_, hRW.1, hRW.2.1, hRW.2.2.1, hRW.2.2.2.mono (by decide) (by decide)⟩
              · exact retN X478 hx (t := .boolean) Bd.returns (by simp) (hb hby at_167) hr
              · show Q_rm_law Z p1 p2 p3 p4 p5 p6 zc fm h0 n0 _ T478.heap _
                rw [k485]
                exact ⟨rfl, N492⟩
            · have N494 := Fr.app N477 N487
              have S495 : ∀ t, Steps p.tables e below (T478.setTop (mkF m 167 #[.val (.int p1), .val (.int p2), .val (.int p3), .val (.int p4), .val (.int p5), .val (.int p6), .val (.ref x2), .val (.ref x21), .val (.ref x44), .val (.ref x71), .val (.ref x100), .val (.ref x133), .val (.ref b170), .val (.ref b229), .val (.int (((p6.toUInt32 >>> ((2 : Int32) &&& 31).toUInt32).toInt32) &&& (3 : Int32))), .val (.int (0 : Int32))] [(.int (1 : Int32))])) t → Steps p.tables e below (s₁.setTop (mkF m 0 #[.val (.int p1), .val (.int p2), .val (.int p3), .val (.int p4), .val (.int p5), .val (.int p6), .unset, .unset, .unset, .unset, .unset, .unset, .unset, .unset, .unset, .unset] [])) t := by
                intro t kt
                refine S304 t ?_
                refine XS.ifYes X293.here hx rfl (pc0 := 118) (pc' := 135) rfl (hb hby at_118) rfl ((if0 _ _).trans (teq ((own_eq0 c305) : (own_eqI (own_cs p1) (own_cs p3)) = (0 : Int32))).1) (by decide) (by decide) ?_
                refine XS.iconst X293.here hx rfl (hb hby at_135) ?_
                refine XS.istore X293.here hx rfl (hb hby at_136) rfl (l' := #[.val (.int p1), .val (.int p2), .val (.int p3), .val (.int p4), .val (.int p5), .val (.int p6), .val (.ref x2), .val (.ref x21), .val (.ref x44), .val (.ref x71), .val (.ref x100), .val (.ref x133), .val (.ref b170), .val (.ref b229), .val (.int (((p6.toUInt32 >>> ((2 : Int32) &&& 31).toUInt32).toInt32) &&& (3 : Int32))), .val (.int (0 : Int32))]) rfl ?_
                refine XS.aload X293.here hx rfl (hb hby at_138) rfl rfl ?_
                refine XS.aload X293.here hx rfl (hb hby at_140) rfl rfl ?_
                show Steps p.tables e below (T293.setTop (mkF m 142 #[.val (.int p1), .val (.int p2), .val (.int p3), .val (.int p4), .val (.int p5), .val (.int p6), .val (.ref x2), .val (.ref x21), .val (.ref x44), .val (.ref x71), .val (.ref x100), .val (.ref x133), .val (.ref b170), .val (.ref b229), .val (.int (((p6.toUInt32 >>> ((2 : Int32) &&& 31).toUInt32).toInt32) &&& (3 : Int32))), .val (.int (0 : Int32))] [(.ref b229), (.ref b170)])) _
                refine st410.trans ?_
                refine XS.iload X410.here hx rfl (hb hby at_145) rfl ?_
                refine XS.icmpNo X410.here hx rfl (hb hby at_147) rfl (teq ((by decide) : (0 : Int32) = (0 : Int32))).2 ?_
                refine XS.aload X410.here hx rfl (hb hby at_150) rfl rfl ?_
                refine XS.aload X410.here hx rfl (hb hby at_152) rfl rfl ?_
                show Steps p.tables e below (T410.setTop (mkF m 154 #[.val (.int p1), .val (.int p2), .val (.int p3), .val (.int p4), .val (.int p5), .val (.int p6), .val (.ref x2), .val (.ref x21), .val (.ref x44), .val (.ref x71), .val (.ref x100), .val (.ref x133), .val (.ref b170), .val (.ref b229), .val (.int (((p6.toUInt32 >>> ((2 : Int32) &&& 31).toUInt32).toInt32) &&& (3 : Int32))), .val (.int (0 : Int32))] [(.ref b170), (.ref b229)])) _
                refine st478.trans ?_
                refine XS.iload X478.here hx rfl (hb hby at_157) rfl ?_
                refine XS.icmpNo X478.here hx rfl (hb hby at_159) rfl (teq ((by decide) : (0 : Int32) = (0 : Int32))).2 ?_
                refine XS.iconst X478.here hx rfl (hb hby at_162) ?_
                refine XS.goto X478.here hx rfl (pc0 := 163) (pc' := 167) rfl (hb hby at_163) (by decide) (by decide) ?_
                exact kt
              obtain ⟨fs, hr, hrun, hended, hRW⟩ := X478.leaveW hS132 (by rw [k488]; exact hk289) (v := some (.int (1 : Int32))) (fun h => by rw [Bd.returns] at h; cases h)
              refine ⟨_, _, pre0 _ (S495 _ ?_), hrun, hended, _, _, rfl, ?_, hRW.1, hRW.2.1, hRW.2.2.1, hRW.2.2.2.mono (by decide) (by decide)⟩
              · exact retN X478 hx (t := .boolean) Bd.returns (by simp) (hb hby at_167) hr
              · show Q_rm_law Z p1 p2 p3 p4 p5 p6 zc fm h0 n0 _ T478.heap _
                rw [k488]
                exact ⟨rfl, N494⟩
            · have N496 := Fr.app N477 N490
              have S497 : ∀ t, Steps p.tables e below (T478.setTop (mkF m 167 #[.val (.int p1), .val (.int p2), .val (.int p3), .val (.int p4), .val (.int p5), .val (.int p6), .val (.ref x2), .val (.ref x21), .val (.ref x44), .val (.ref x71), .val (.ref x100), .val (.ref x133), .val (.ref b170), .val (.ref b229), .val (.int (((p6.toUInt32 >>> ((2 : Int32) &&& 31).toUInt32).toInt32) &&& (3 : Int32))), .val (.int (0 : Int32))] [(.int (1 : Int32))])) t → Steps p.tables e below (s₁.setTop (mkF m 0 #[.val (.int p1), .val (.int p2), .val (.int p3), .val (.int p4), .val (.int p5), .val (.int p6), .unset, .unset, .unset, .unset, .unset, .unset, .unset, .unset, .unset, .unset] [])) t := by
                intro t kt
                refine S304 t ?_
                refine XS.ifYes X293.here hx rfl (pc0 := 118) (pc' := 135) rfl (hb hby at_118) rfl ((if0 _ _).trans (teq ((own_eq0 c305) : (own_eqI (own_cs p1) (own_cs p3)) = (0 : Int32))).1) (by decide) (by decide) ?_
                refine XS.iconst X293.here hx rfl (hb hby at_135) ?_
                refine XS.istore X293.here hx rfl (hb hby at_136) rfl (l' := #[.val (.int p1), .val (.int p2), .val (.int p3), .val (.int p4), .val (.int p5), .val (.int p6), .val (.ref x2), .val (.ref x21), .val (.ref x44), .val (.ref x71), .val (.ref x100), .val (.ref x133), .val (.ref b170), .val (.ref b229), .val (.int (((p6.toUInt32 >>> ((2 : Int32) &&& 31).toUInt32).toInt32) &&& (3 : Int32))), .val (.int (0 : Int32))]) rfl ?_
                refine XS.aload X293.here hx rfl (hb hby at_138) rfl rfl ?_
                refine XS.aload X293.here hx rfl (hb hby at_140) rfl rfl ?_
                show Steps p.tables e below (T293.setTop (mkF m 142 #[.val (.int p1), .val (.int p2), .val (.int p3), .val (.int p4), .val (.int p5), .val (.int p6), .val (.ref x2), .val (.ref x21), .val (.ref x44), .val (.ref x71), .val (.ref x100), .val (.ref x133), .val (.ref b170), .val (.ref b229), .val (.int (((p6.toUInt32 >>> ((2 : Int32) &&& 31).toUInt32).toInt32) &&& (3 : Int32))), .val (.int (0 : Int32))] [(.ref b229), (.ref b170)])) _
                refine st410.trans ?_
                refine XS.iload X410.here hx rfl (hb hby at_145) rfl ?_
                refine XS.icmpNo X410.here hx rfl (hb hby at_147) rfl (teq ((by decide) : (0 : Int32) = (0 : Int32))).2 ?_
                refine XS.aload X410.here hx rfl (hb hby at_150) rfl rfl ?_
                refine XS.aload X410.here hx rfl (hb hby at_152) rfl rfl ?_
                show Steps p.tables e below (T410.setTop (mkF m 154 #[.val (.int p1), .val (.int p2), .val (.int p3), .val (.int p4), .val (.int p5), .val (.int p6), .val (.ref x2), .val (.ref x21), .val (.ref x44), .val (.ref x71), .val (.ref x100), .val (.ref x133), .val (.ref b170), .val (.ref b229), .val (.int (((p6.toUInt32 >>> ((2 : Int32) &&& 31).toUInt32).toInt32) &&& (3 : Int32))), .val (.int (0 : Int32))] [(.ref b170), (.ref b229)])) _
                refine st478.trans ?_
                refine XS.iload X478.here hx rfl (hb hby at_157) rfl ?_
                refine XS.icmpNo X478.here hx rfl (hb hby at_159) rfl (teq ((by decide) : (0 : Int32) = (0 : Int32))).2 ?_
                refine XS.iconst X478.here hx rfl (hb hby at_162) ?_
                refine XS.goto X478.here hx rfl (pc0 := 163) (pc' := 167) rfl (hb hby at_163) (by decide) (by decide) ?_
                exact kt
              obtain ⟨fs, hr, hrun, hended, hRW⟩ := X478.leaveW hS132 (by rw [k491]; exact hk289) (v := some (.int (1 : Int32))) (fun h => by rw [Bd.returns] at h; cases h)
              refine ⟨_, _, pre0 _ (S497 _ ?_), hrun, hended, _, _, rfl, ?_, hRW.1, hRW.2.1, hRW.2.2.1, hRW.2.2.2.mono (by decide) (by decide)⟩
              · exact retN X478 hx (t := .boolean) Bd.returns (by simp) (hb hby at_167) hr
              · show Q_rm_law Z p1 p2 p3 p4 p5 p6 zc fm h0 n0 _ T478.heap _
                rw [k491]
                exact ⟨rfl, N496⟩
      · have S498 : ∀ t, Steps p.tables e below (T259.setTop (mkF m 171 #[.val (.int p1), .val (.int p2), .val (.int p3), .val (.int p4), .val (.int p5), .val (.int p6), .val (.ref x2), .val (.ref x21), .val (.ref x44), .val (.ref x71), .val (.ref x100), .val (.ref x133), .val (.ref b170), .val (.ref b229), .val (.int (((p6.toUInt32 >>> ((2 : Int32) &&& 31).toUInt32).toInt32) &&& (3 : Int32))), .unset] [(.int (1 : Int32)), (.int (((p6.toUInt32 >>> ((2 : Int32) &&& 31).toUInt32).toInt32) &&& (3 : Int32)))])) t → Steps p.tables e below (s₁.setTop (mkF m 0 #[.val (.int p1), .val (.int p2), .val (.int p3), .val (.int p4), .val (.int p5), .val (.int p6), .unset, .unset, .unset, .unset, .unset, .unset, .unset, .unset, .unset, .unset] [])) t := by
          intro t kt
          refine S291 t ?_
          refine XS.ifYes X259.here hx rfl (pc0 := 108) (pc' := 168) rfl (hb hby at_108) rfl ((if0 _ _).trans (feq (c292 : ¬ ((((p6.toUInt32 >>> ((2 : Int32) &&& 31).toUInt32).toInt32) &&& (3 : Int32)) = (0 : Int32)))).2) (by decide) (by decide) ?_
          refine XS.iload X259.here hx rfl (hb hby at_168) rfl ?_
          refine XS.iconst X259.here hx rfl (hb hby at_170) ?_
          exact kt
        rcases Decidable.em ((((p6.toUInt32 >>> ((2 : Int32) &&& 31).toUInt32).toInt32) &&& (3 : Int32)) = (1 : Int32)) with c499 | c499
        · have f501 := (Exa.keep (Exa.ext E229 f216) k277)
          obtain ⟨cq500, kq500, q500a, q500b, q500c⟩ := isOf hZ132 rfl f501
          obtain ⟨_, _, ⟨T500, L500, k500, n500⟩, -, X500, ⟨Lc500, hQ500, l500, y500, z500⟩, st500⟩ := X259.virtualBack hx (y := (⟨"com/example/typecheck/typecheck/model/QName", "equals", "(Ljava/lang/Object;)Z"⟩ : MethodName)) (z := (⟨"com/example/typecheck/typecheck/model/QName", "equals", "(Ljava/lang/Object;)Z"⟩ : MethodName)) ho132 (mvT hZ132 (own_w hw 73 rfl)) (mvT hZ132 (own_w hw 74 rfl)) (notFace_of_selects (args := #[]) (mvT hZ132 (own_w hw 76 rfl))) (mvT hZ132 (own_w hw 76 rfl)) (mvT hZ132 (own_w hw 75 rfl)) (by decide) (backOf (W := 0) (rm_qeqs l Z a0 hw [] b170 T259.heap n0 O290 ) hZ132 (own_w hw 77 rfl) (own_w hw 28 rfl) (by decide) (by decide)) q500a q500c (g := (mkF m 178 #[.val (.int p1), .val (.int p2), .val (.int p3), .val (.int p4), .val (.int p5), .val (.int p6), .val (.ref x2), .val (.ref x21), .val (.ref x44), .val (.ref x71), .val (.ref x100), .val (.ref x133), .val (.ref b170), .val (.ref b229), .val (.int (((p6.toUInt32 >>> ((2 : Int32) &&& 31).toUInt32).toInt32) &&& (3 : Int32))), .unset] [(.ref b170), (.ref b170)])) rfl (by rw [hml]; rfl) (Steps.refl _) (argsL := [(.ref b170)]) (rest := []) (lenOf pd_11 rfl) rfl (by show 2 * 0 + _ ≤ _; exact Nat.le_of_eq rfl) (hb hby at_178) (fun _ _ => ⟨rfl, rfl, (by decide : 38 + 0 ≤ _), (by decide : 80 + 0 ≤ _)⟩)
          dsimp only [Pt.U, Pt.locs, Pt.cells, Pt.slots] at X500 l500 y500 z500 st500 hQ500
          subst l500 y500 z500
          obtain ⟨rfl, N502, k503⟩ := hQ500
          have N504 := Fr.app N288 N502
          have S505 : ∀ t, Steps p.tables e below (T500.setTop (mkF m 181 #[.val (.int p1), .val (.int p2), .val (.int p3), .val (.int p4), .val (.int p5), .val (.int p6), .val (.ref x2), .val (.ref x21), .val (.ref x44), .val (.ref x71), .val (.ref x100), .val (.ref x133), .val (.ref b170), .val (.ref b229), .val (.int (((p6.toUInt32 >>> ((2 : Int32) &&& 31).toUInt32).toInt32) &&& (3 : Int32))), .unset] [(.int (1 : Int32))])) t → Steps p.tables e below (s₁.setTop (mkF m 0 #[.val (.int p1), .val (.int p2), .val (.int p3), .val (.int p4), .val (.int p5), .val (.int p6), .unset, .unset, .unset, .unset, .unset, .unset, .unset, .unset, .unset, .unset] [])) t := by
            intro t kt
            refine S498 t ?_
            refine XS.icmpNo X259.here hx rfl (hb hby at_171) rfl (teq (c499 : (((p6.toUInt32 >>> ((2 : Int32) &&& 31).toUInt32).toInt32) &&& (3 : Int32)) = (1 : Int32))).2 ?_
            refine XS.aload X259.here hx rfl (hb hby at_174) rfl rfl ?_
            refine XS.aload X259.here hx rfl (hb hby at_176) rfl rfl ?_
            show Steps p.tables e below (T259.setTop (mkF m 178 #[.val (.int p1), .val (.int p2), .val (.int p3), .val (.int p4), .val (.int p5), .val (.int p6), .val (.ref x2), .val (.ref x21), .val (.ref x44), .val (.ref x71), .val (.ref x100), .val (.ref x133), .val (.ref b170), .val (.ref b229), .val (.int (((p6.toUInt32 >>> ((2 : Int32) &&& 31).toUInt32).toInt32) &&& (3 : Int32))), .unset] [(.ref b170), (.ref b170)])) _
            refine st500.trans ?_
            exact kt
          obtain ⟨fs, hr, hrun, hended, hRW⟩ := X500.leaveW hS132 (by rw [k503]; exact hk289) (v := some (.int (1 : Int32))) (fun h => by rw [Bd.returns] at h; cases h)
          refine ⟨_, _, pre0 _ (S505 _ ?_), hrun, hended, _, _, rfl, ?_, hRW.1, hRW.2.1, hRW.2.2.1, hRW.2.2.2.mono (by decide) (by decide)⟩
          · exact retN X500 hx (t := .boolean) Bd.returns (by simp) (hb hby at_181) hr
          · show Q_rm_law Z p1 p2 p3 p4 p5 p6 zc fm h0 n0 _ T500.heap _
            rw [k503]
            exact ⟨rfl, N504⟩
        · have S506 : ∀ t, Steps p.tables e below (T259.setTop (mkF m 185 #[.val (.int p1), .val (.int p2), .val (.int p3), .val (.int p4), .val (.int p5), .val (.int p6), .val (.ref x2), .val (.ref x21), .val (.ref x44), .val (.ref x71), .val (.ref x100), .val (.ref x133), .val (.ref b170), .val (.ref b229), .val (.int (((p6.toUInt32 >>> ((2 : Int32) &&& 31).toUInt32).toInt32) &&& (3 : Int32))), .unset] [(.int (2 : Int32)), (.int (((p6.toUInt32 >>> ((2 : Int32) &&& 31).toUInt32).toInt32) &&& (3 : Int32)))])) t → Steps p.tables e below (s₁.setTop (mkF m 0 #[.val (.int p1), .val (.int p2), .val (.int p3), .val (.int p4), .val (.int p5), .val (.int p6), .unset, .unset, .unset, .unset, .unset, .unset, .unset, .unset, .unset, .unset] [])) t := by
            intro t kt
            refine S498 t ?_
            refine XS.icmpYes X259.here hx rfl (pc0 := 171) (pc' := 182) rfl (hb hby at_171) rfl (feq (c499 : ¬ ((((p6.toUInt32 >>> ((2 : Int32) &&& 31).toUInt32).toInt32) &&& (3 : Int32)) = (1 : Int32)))).2 (by decide) (by decide) ?_
            refine XS.iload X259.here hx rfl (hb hby at_182) rfl ?_
            refine XS.iconst X259.here hx rfl (hb hby at_184) ?_
            exact kt
          rcases Decidable.em ((((p6.toUInt32 >>> ((2 : Int32) &&& 31).toUInt32).toInt32) &&& (3 : Int32)) = (2 : Int32)) with c507 | c507
          · have f509 := (Exa.keep (Exa.ext E229 f216) k277)
            obtain ⟨cq508, kq508, q508a, q508b, q508c⟩ := isOf hZ132 rfl f509
            obtain ⟨_, _, ⟨T508, L508, k508, n508⟩, -, X508, ⟨Lc508, hQ508, l508, y508, z508⟩, st508⟩ := X259.virtualBack hx (y := (⟨"com/example/typecheck/typecheck/model/QName", "equals", "(Ljava/lang/Object;)Z"⟩ : MethodName)) (z := (⟨"com/example/typecheck/typecheck/model/QName", "equals", "(Ljava/lang/Object;)Z"⟩ : MethodName)) ho132 (mvT hZ132 (own_w hw 73 rfl)) (mvT hZ132 (own_w hw 74 rfl)) (notFace_of_selects (args := #[]) (mvT hZ132 (own_w hw 76 rfl))) (mvT hZ132 (own_w hw 76 rfl)) (mvT hZ132 (own_w hw 75 rfl)) (by decide) (backOf (W := 0) (rm_qeqn l Z a0 hw [] b170 T259.heap n0 O290 ) hZ132 (own_w hw 77 rfl) (own_w hw 28 rfl) (by decide) (by decide)) q508a q508c (g := (mkF m 191 #[.val (.int p1), .val (.int p2), .val (.int p3), .val (.int p4), .val (.int p5), .val (.int p6), .val (.ref x2), .val (.ref x21), .val (.ref x44), .val (.ref x71), .val (.ref x100), .val (.ref x133), .val (.ref b170), .val (.ref b229), .val (.int (((p6.toUInt32 >>> ((2 : Int32) &&& 31).toUInt32).toInt32) &&& (3 : Int32))), .unset] [.null, (.ref b170)])) rfl (by rw [hml]; rfl) (Steps.refl _) (argsL := [.null]) (rest := []) (lenOf pd_11 rfl) rfl (by show 2 * 0 + _ ≤ _; exact Nat.le_of_eq rfl) (hb hby at_191) (fun _ _ => ⟨rfl, rfl, (by decide : 38 + 0 ≤ _), (by decide : 80 + 0 ≤ _)⟩)
            dsimp only [Pt.U, Pt.locs, Pt.cells, Pt.slots] at X508 l508 y508 z508 st508 hQ508
            subst l508 y508 z508
            obtain ⟨rfl, N510, k511⟩ := hQ508
            have N512 := Fr.app N288 N510
            have S513 : ∀ t, Steps p.tables e below (T508.setTop (mkF m 202 #[.val (.int p1), .val (.int p2), .val (.int p3), .val (.int p4), .val (.int p5), .val (.int p6), .val (.ref x2), .val (.ref x21), .val (.ref x44), .val (.ref x71), .val (.ref x100), .val (.ref x133), .val (.ref b170), .val (.ref b229), .val (.int (((p6.toUInt32 >>> ((2 : Int32) &&& 31).toUInt32).toInt32) &&& (3 : Int32))), .unset] [(.int (1 : Int32))])) t → Steps p.tables e below (s₁.setTop (mkF m 0 #[.val (.int p1), .val (.int p2), .val (.int p3), .val (.int p4), .val (.int p5), .val (.int p6), .unset, .unset, .unset, .unset, .unset, .unset, .unset, .unset, .unset, .unset] [])) t := by
              intro t kt
              refine S506 t ?_
              refine XS.icmpNo X259.here hx rfl (hb hby at_185) rfl (teq (c507 : (((p6.toUInt32 >>> ((2 : Int32) &&& 31).toUInt32).toInt32) &&& (3 : Int32)) = (2 : Int32))).2 ?_
              refine XS.aload X259.here hx rfl (hb hby at_188) rfl rfl ?_
              refine XS.aconstNull X259.here hx rfl (hb hby at_190) ?_
              show Steps p.tables e below (T259.setTop (mkF m 191 #[.val (.int p1), .val (.int p2), .val (.int p3), .val (.int p4), .val (.int p5), .val (.int p6), .val (.ref x2), .val (.ref x21), .val (.ref x44), .val (.ref x71), .val (.ref x100), .val (.ref x133), .val (.ref b170), .val (.ref b229), .val (.int (((p6.toUInt32 >>> ((2 : Int32) &&& 31).toUInt32).toInt32) &&& (3 : Int32))), .unset] [.null, (.ref b170)])) _
              refine st508.trans ?_
              refine XS.ifNo X508.here hx rfl (hb hby at_194) rfl ((if0 _ _).trans (teq ((by decide) : (0 : Int32) = (0 : Int32))).2) ?_
              refine XS.iconst X508.here hx rfl (hb hby at_197) ?_
              refine XS.goto X508.here hx rfl (pc0 := 198) (pc' := 202) rfl (hb hby at_198) (by decide) (by decide) ?_
              exact kt
            obtain ⟨fs, hr, hrun, hended, hRW⟩ := X508.leaveW hS132 (by rw [k511]; exact hk289) (v := some (.int (1 : Int32))) (fun h => by rw [Bd.returns] at h; cases h)
            refine ⟨_, _, pre0 _ (S513 _ ?_), hrun, hended, _, _, rfl, ?_, hRW.1, hRW.2.1, hRW.2.2.1, hRW.2.2.2.mono (by decide) (by decide)⟩
            · exact retN X508 hx (t := .boolean) Bd.returns (by simp) (hb hby at_202) hr
            · show Q_rm_law Z p1 p2 p3 p4 p5 p6 zc fm h0 n0 _ T508.heap _
              rw [k511]
              exact ⟨rfl, N512⟩
          · have f515 := (Exa.keep (Exa.ext E229 f216) k277)
            have f516 := (Exa.keep f265 k277)
            obtain ⟨cq514, kq514, q514a, q514b, q514c⟩ := isOf hZ132 rfl f515
            obtain ⟨_, _, ⟨T514, L514, k514, n514⟩, -, X514, ⟨Lc514, hQ514, l514, y514, z514⟩, st514⟩ := X259.virtualBack hx (y := (⟨"com/example/typecheck/typecheck/model/QName", "equals", "(Ljava/lang/Object;)Z"⟩ : MethodName)) (z := (⟨"com/example/typecheck/typecheck/model/QName", "equals", "(Ljava/lang/Object;)Z"⟩ : MethodName)) ho132 (mvT hZ132 (own_w hw 73 rfl)) (mvT hZ132 (own_w hw 74 rfl)) (notFace_of_selects (args := #[]) (mvT hZ132 (own_w hw 76 rfl))) (mvT hZ132 (own_w hw 76 rfl)) (mvT hZ132 (own_w hw 75 rfl)) (by decide) (backOf (W := 0) (rm_qeqt l Z a0 hw [] b170 x21 T259.heap n0 O290 f515 f516) hZ132 (own_w hw 77 rfl) (own_w hw 28 rfl) (by decide) (by decide)) q514a q514c (g := (mkF m 211 #[.val (.int p1), .val (.int p2), .val (.int p3), .val (.int p4), .val (.int p5), .val (.int p6), .val (.ref x2), .val (.ref x21), .val (.ref x44), .val (.ref x71), .val (.ref x100), .val (.ref x133), .val (.ref b170), .val (.ref b229), .val (.int (((p6.toUInt32 >>> ((2 : Int32) &&& 31).toUInt32).toInt32) &&& (3 : Int32))), .val (.ref x21)] [(.ref x21), (.ref b170)])) rfl (by rw [hml]; rfl) (Steps.refl _) (argsL := [(.ref x21)]) (rest := []) (lenOf pd_11 rfl) rfl (by show 2 * 0 + _ ≤ _; exact Nat.le_of_eq rfl) (hb hby at_211) (fun _ _ => ⟨rfl, rfl, (by decide : 38 + 0 ≤ _), (by decide : 80 + 0 ≤ _)⟩)
            dsimp only [Pt.U, Pt.locs, Pt.cells, Pt.slots] at X514 l514 y514 z514 st514 hQ514
            subst l514 y514 z514
            obtain ⟨rfl, N517, k518⟩ := hQ514
            have N519 := Fr.app N288 N517
            have S520 : ∀ t, Steps p.tables e below (T514.setTop (mkF m 222 #[.val (.int p1), .val (.int p2), .val (.int p3), .val (.int p4), .val (.int p5), .val (.int p6), .val (.ref x2), .val (.ref x21), .val (.ref x44), .val (.ref x71), .val (.ref x100), .val (.ref x133), .val (.ref b170), .val (.ref b229), .val (.int (((p6.toUInt32 >>> ((2 : Int32) &&& 31).toUInt32).toInt32) &&& (3 : Int32))), .val (.ref x21)] [(.int (1 : Int32))])) t → Steps p.tables e below (s₁.setTop (mkF m 0 #[.val (.int p1), .val (.int p2), .val (.int p3), .val (.int p4), .val (.int p5), .val (.int p6), .unset, .unset, .unset, .unset, .unset, .unset, .unset, .unset, .unset, .unset] [])) t := by
              intro t kt
              refine S506 t ?_
              refine XS.icmpYes X259.here hx rfl (pc0 := 185) (pc' := 203) rfl (hb hby at_185) rfl (feq (c507 : ¬ ((((p6.toUInt32 >>> ((2 : Int32) &&& 31).toUInt32).toInt32) &&& (3 : Int32)) = (2 : Int32)))).2 (by decide) (by decide) ?_
              refine XS.aload X259.here hx rfl (hb hby at_203) rfl rfl ?_
              refine XS.astore X259.here hx rfl (hb hby at_205) rfl rfl (l' := #[.val (.int p1), .val (.int p2), .val (.int p3), .val (.int p4), .val (.int p5), .val (.int p6), .val (.ref x2), .val (.ref x21), .val (.ref x44), .val (.ref x71), .val (.ref x100), .val (.ref x133), .val (.ref b170), .val (.ref b229), .val (.int (((p6.toUInt32 >>> ((2 : Int32) &&& 31).toUInt32).toInt32) &&& (3 : Int32))), .val (.ref x21)]) rfl ?_
              refine XS.aload X259.here hx rfl (hb hby at_207) rfl rfl ?_
              refine XS.aload X259.here hx rfl (hb hby at_209) rfl rfl ?_
              show Steps p.tables e below (T259.setTop (mkF m 211 #[.val (.int p1), .val (.int p2), .val (.int p3), .val (.int p4), .val (.int p5), .val (.int p6), .val (.ref x2), .val (.ref x21), .val (.ref x44), .val (.ref x71), .val (.ref x100), .val (.ref x133), .val (.ref b170), .val (.ref b229), .val (.int (((p6.toUInt32 >>> ((2 : Int32) &&& 31).toUInt32).toInt32) &&& (3 : Int32))), .val (.ref x21)] [(.ref x21), (.ref b170)])) _
              refine st514.trans ?_
              refine XS.ifNo X514.here hx rfl (hb hby at_214) rfl ((if0 _ _).trans (teq ((by decide) : (0 : Int32) = (0 : Int32))).2) ?_
              refine XS.iconst X514.here hx rfl (hb hby at_217) ?_
              refine XS.goto X514.here hx rfl (pc0 := 218) (pc' := 222) rfl (hb hby at_218) (by decide) (by decide) ?_
              exact kt
            obtain ⟨fs, hr, hrun, hended, hRW⟩ := X514.leaveW hS132 (by rw [k518]; exact hk289) (v := some (.int (1 : Int32))) (fun h => by rw [Bd.returns] at h; cases h)
            refine ⟨_, _, pre0 _ (S520 _ ?_), hrun, hended, _, _, rfl, ?_, hRW.1, hRW.2.1, hRW.2.2.1, hRW.2.2.2.mono (by decide) (by decide)⟩
            · exact retN X514 hx (t := .boolean) Bd.returns (by simp) (hb hby at_222) hr
            · show Q_rm_law Z p1 p2 p3 p4 p5 p6 zc fm h0 n0 _ T514.heap _
              rw [k518]
              exact ⟨rfl, N519⟩
    · obtain ⟨_, _, ⟨T521, L521, k521, n521⟩, -, Xq521, hSq521, hgq521, ⟨Lc521, hQ521, l521, y521, z521, C521⟩, st521⟩ := callSS X43 hx (y := (⟨"com/example/typecheck/typecheck/model/QNameEqualsPinLaw", "str", "(I)Ljava/lang/String;"⟩ : MethodName)) ho43 (mvT hZ43 (own_w hw 0 rfl)) (mvT hZ43 (own_w hw 1 rfl)) (mvT hZ43 (own_w hw 2 rfl)) (mvT hZ43 (own_w hw 3 rfl)) (by decide) (own_backS (W := 0) (rm := ({ frames := 4, cells := 6, slots := 12, locals := 66 } : Room)) (xs := []) (rm_str l Z a0 hw [] p2 zc T43.heap n0 O67 S_C hzc) hZ43 (own_w hw 3 rfl) (own_w hw 2 rfl) (by decide) (by decide) own_ew CR65.1 all0) (g := (mkF m 40 #[.val (.int p1), .val (.int p2), .val (.int p3), .val (.int p4), .val (.int p5), .val (.int p6), .val (.ref x2), .val (.ref x21), .val (.ref x44), .unset, .unset, .unset, .unset, .unset, .unset, .unset] [(.int p2)])) rfl (by rw [hml]; rfl) (argsL := [(.int p2)]) (rest := []) (lenOf pd_12 rfl) rfl (by show 2 * 0 + _ ≤ _; exact Nat.le_of_eq rfl) (hb hby at_40) (fun _ _ => ⟨rfl, rfl, (by decide : 18 + 6 ≤ _), (by decide : 36 + 12 ≤ _)⟩)
      dsimp only [Pt.U, Pt.locs, Pt.cells, Pt.slots] at Xq521 hSq521 hgq521 l521 y521 z521 st521 hQ521 C521
      obtain ⟨X521, hS521, hZ521, ho521⟩ := rebS hS43 (by exact hk66) Xq521 hSq521 hgq521 hZ43 ho43
      subst l521 y521 z521
      obtain ⟨x522, x523, x524, rfl, N525, k526, f527, f528, f529, f530, f531, f532, f533, f534⟩ := hQ521
      have N535 := Fr.app N57 N525
      have ge536 : n0 ≤ x522 := by rw [← O67.1]; exact Nat.le_trans O67.2.1 f527
      have f537 := (Exa.keep f59 k48)
      have ne538 : x2 ≠ x522 := Nat.ne_of_lt (Nat.lt_of_lt_of_le (Exa.lt f537) f527)
      have f539 := (Exa.keep f61 k48)
      have ne540 : x3 ≠ x522 := Nat.ne_of_lt (Nat.lt_of_lt_of_le (Exa.lt f539) f527)
      have f541 := (Exa.keep f27 k48)
      have ne542 : x21 ≠ x522 := Nat.ne_of_lt (Nat.lt_of_lt_of_le (Exa.lt f541) f527)
      have f543 := (Exa.keep f30 k48)
      have ne544 : x22 ≠ x522 := Nat.ne_of_lt (Nat.lt_of_lt_of_le (Exa.lt f543) f527)
      have ne545 : x44 ≠ x522 := Nat.ne_of_lt (Nat.lt_of_lt_of_le (Exa.lt f50) f527)
      have ne546 : x45 ≠ x522 := Nat.ne_of_lt (Nat.lt_of_lt_of_le (Exa.lt f53) f527)
      have CR547 := CR65.trans C521
      have hk548 : T521.heap.size ≤ T521.heap.size := Nat.le_refl _
      have O549 := O67.keep k526 all0
      obtain ⟨_, _, ⟨T550, L550, k550, n550⟩, -, Xq550, hSq550, hgq550, ⟨Lc550, hQ550, l550, y550, z550, C550⟩, st550⟩ := callSS X521 hx (y := (⟨"com/example/typecheck/typecheck/model/QNameEqualsPinLaw", "str", "(I)Ljava/lang/String;"⟩ : MethodName)) ho521 (mvT hZ521 (own_w hw 0 rfl)) (mvT hZ521 (own_w hw 1 rfl)) (mvT hZ521 (own_w hw 2 rfl)) (mvT hZ521 (own_w hw 3 rfl)) (by decide) (own_backS (W := 0) (rm := ({ frames := 4, cells := 6, slots := 12, locals := 66 } : Room)) (xs := []) (rm_str l Z a0 hw [] p5 zc T521.heap n0 O549 S_C hzc) hZ521 (own_w hw 3 rfl) (own_w hw 2 rfl) (by decide) (by decide) own_ew CR547.1 all0) (g := (mkF m 54 #[.val (.int p1), .val (.int p2), .val (.int p3), .val (.int p4), .val (.int p5), .val (.int p6), .val (.ref x2), .val (.ref x21), .val (.ref x44), .val (.ref x522), .unset, .unset, .unset, .unset, .unset, .unset] [(.int p5)])) rfl (by rw [hml]; rfl) (argsL := [(.int p5)]) (rest := []) (lenOf pd_12 rfl) rfl (by show 2 * 0 + _ ≤ _; exact Nat.le_of_eq rfl) (hb hby at_54) (fun _ _ => ⟨rfl, rfl, (by decide : 24 + 6 ≤ _), (by decide : 48 + 12 ≤ _)⟩)
      dsimp only [Pt.U, Pt.locs, Pt.cells, Pt.slots] at Xq550 hSq550 hgq550 l550 y550 z550 st550 hQ550 C550
      obtain ⟨X550, hS550, hZ550, ho550⟩ := rebS hS521 (by exact hk548) Xq550 hSq550 hgq550 hZ521 ho521
      subst l550 y550 z550
      obtain ⟨x551, x552, x553, rfl, N554, k555, f556, f557, f558, f559, f560, f561, f562, f563⟩ := hQ550
      have N564 := Fr.app N535 N554
      have ge565 : n0 ≤ x551 := by rw [← O549.1]; exact Nat.le_trans O549.2.1 f556
      have f566 := (Exa.keep f537 k526)
      have ne567 : x2 ≠ x551 := Nat.ne_of_lt (Nat.lt_of_lt_of_le (Exa.lt f566) f556)
      have f568 := (Exa.keep f539 k526)
      have ne569 : x3 ≠ x551 := Nat.ne_of_lt (Nat.lt_of_lt_of_le (Exa.lt f568) f556)
      have f570 := (Exa.keep f541 k526)
      have ne571 : x21 ≠ x551 := Nat.ne_of_lt (Nat.lt_of_lt_of_le (Exa.lt f570) f556)
      have f572 := (Exa.keep f543 k526)
      have ne573 : x22 ≠ x551 := Nat.ne_of_lt (Nat.lt_of_lt_of_le (Exa.lt f572) f556)
      have f574 := (Exa.keep f50 k526)
      have ne575 : x44 ≠ x551 := Nat.ne_of_lt (Nat.lt_of_lt_of_le (Exa.lt f574) f556)
      have f576 := (Exa.keep f53 k526)
      have ne577 : x45 ≠ x551 := Nat.ne_of_lt (Nat.lt_of_lt_of_le (Exa.lt f576) f556)
      have ne578 : x522 ≠ x551 := Nat.ne_of_lt (Nat.lt_of_lt_of_le (Exa.lt f528) f556)
      have ne579 : x523 ≠ x551 := Nat.ne_of_lt (Nat.lt_of_lt_of_le (Exa.lt f531) f556)
      have CR580 := CR547.trans C550
      have hk581 : T550.heap.size ≤ T550.heap.size := Nat.le_refl _
      have O582 := O549.keep k555 all0
      obtain ⟨_, _, ⟨T583, L583, k583, n583⟩, -, Xq583, hSq583, hgq583, ⟨Lc583, hQ583, l583, y583, z583, C583⟩, st583⟩ := callSS X550 hx (y := (⟨"com/example/typecheck/typecheck/model/QNameEqualsPinLaw", "str", "(I)Ljava/lang/String;"⟩ : MethodName)) ho550 (mvT hZ550 (own_w hw 0 rfl)) (mvT hZ550 (own_w hw 1 rfl)) (mvT hZ550 (own_w hw 2 rfl)) (mvT hZ550 (own_w hw 3 rfl)) (by decide) (own_backS (W := 0) (rm := ({ frames := 4, cells := 6, slots := 12, locals := 66 } : Room)) (xs := []) (rm_str l Z a0 hw [] ((p6.toUInt32 >>> ((4 : Int32) &&& 31).toUInt32).toInt32) zc T550.heap n0 O582 S_C hzc) hZ550 (own_w hw 3 rfl) (own_w hw 2 rfl) (by decide) (by decide) own_ew CR580.1 all0) (g := (mkF m 63 #[.val (.int p1), .val (.int p2), .val (.int p3), .val (.int p4), .val (.int p5), .val (.int p6), .val (.ref x2), .val (.ref x21), .val (.ref x44), .val (.ref x522), .val (.ref x551), .unset, .unset, .unset, .unset, .unset] [(.int ((p6.toUInt32 >>> ((4 : Int32) &&& 31).toUInt32).toInt32))])) rfl (by rw [hml]; rfl) (argsL := [(.int ((p6.toUInt32 >>> ((4 : Int32) &&& 31).toUInt32).toInt32))]) (rest := []) (lenOf pd_12 rfl) rfl (by show 2 * 0 + _ ≤ _; exact Nat.le_of_eq rfl) (hb hby at_63) (fun _ _ => ⟨rfl, rfl, (by decide : 30 + 6 ≤ _), (by decide : 60 + 12 ≤ _)⟩)
      dsimp only [Pt.U, Pt.locs, Pt.cells, Pt.slots] at Xq583 hSq583 hgq583 l583 y583 z583 st583 hQ583 C583
      obtain ⟨X583, hS583, hZ583, ho583⟩ := rebS hS550 (by exact hk581) Xq583 hSq583 hgq583 hZ550 ho550
      subst l583 y583 z583
      obtain ⟨x584, x585, x586, rfl, N587, k588, f589, f590, f591, f592, f593, f594, f595, f596⟩ := hQ583
      have N597 := Fr.app N564 N587
      have ge598 : n0 ≤ x584 := by rw [← O582.1]; exact Nat.le_trans O582.2.1 f589
      have f599 := (Exa.keep f566 k555)
      have ne600 : x2 ≠ x584 := Nat.ne_of_lt (Nat.lt_of_lt_of_le (Exa.lt f599) f589)
      have f601 := (Exa.keep f568 k555)
      have ne602 : x3 ≠ x584 := Nat.ne_of_lt (Nat.lt_of_lt_of_le (Exa.lt f601) f589)
      have f603 := (Exa.keep f570 k555)
      have ne604 : x21 ≠ x584 := Nat.ne_of_lt (Nat.lt_of_lt_of_le (Exa.lt f603) f589)
      have f605 := (Exa.keep f572 k555)
      have ne606 : x22 ≠ x584 := Nat.ne_of_lt (Nat.lt_of_lt_of_le (Exa.lt f605) f589)
      have f607 := (Exa.keep f574 k555)
      have ne608 : x44 ≠ x584 := Nat.ne_of_lt (Nat.lt_of_lt_of_le (Exa.lt f607) f589)
      have f609 := (Exa.keep f576 k555)
      have ne610 : x45 ≠ x584 := Nat.ne_of_lt (Nat.lt_of_lt_of_le (Exa.lt f609) f589)
      have f611 := (Exa.keep f528 k555)
      have ne612 : x522 ≠ x584 := Nat.ne_of_lt (Nat.lt_of_lt_of_le (Exa.lt f611) f589)
      have f613 := (Exa.keep f531 k555)
      have ne614 : x523 ≠ x584 := Nat.ne_of_lt (Nat.lt_of_lt_of_le (Exa.lt f613) f589)
      have ne615 : x551 ≠ x584 := Nat.ne_of_lt (Nat.lt_of_lt_of_le (Exa.lt f557) f589)
      have ne616 : x552 ≠ x584 := Nat.ne_of_lt (Nat.lt_of_lt_of_le (Exa.lt f560) f589)
      have CR617 := CR580.trans C583
      have hk618 : T583.heap.size ≤ T583.heap.size := Nat.le_refl _
      have O619 := O582.keep k588 all0
      have S620 : ∀ t, Steps p.tables e below (T583.setTop (mkF m 68 #[.val (.int p1), .val (.int p2), .val (.int p3), .val (.int p4), .val (.int p5), .val (.int p6), .val (.ref x2), .val (.ref x21), .val (.ref x44), .val (.ref x522), .val (.ref x551), .val (.ref x584), .unset, .unset, .unset, .unset] [])) t → Steps p.tables e below (s₁.setTop (mkF m 0 #[.val (.int p1), .val (.int p2), .val (.int p3), .val (.int p4), .val (.int p5), .val (.int p6), .unset, .unset, .unset, .unset, .unset, .unset, .unset, .unset, .unset, .unset] [])) t := by
        intro t kt
        refine S68 t ?_
        refine XS.ifNo X43.here hx rfl (hb hby at_36) rfl ((if0 _ _).trans (feq (c69 : ¬ ((p6 &&& (2 : Int32)) = (0 : Int32)))).1) ?_
        refine XS.iloadN X43.here hx rfl (hb hby at_39) rfl ?_
        show Steps p.tables e below (T43.setTop (mkF m 40 #[.val (.int p1), .val (.int p2), .val (.int p3), .val (.int p4), .val (.int p5), .val (.int p6), .val (.ref x2), .val (.ref x21), .val (.ref x44), .unset, .unset, .unset, .unset, .unset, .unset, .unset] [(.int p2)])) _
        refine st521.trans ?_
        refine XS.goto X521.here hx rfl (pc0 := 43) (pc' := 50) rfl (hb hby at_43) (by decide) (by decide) ?_
        refine XS.astore X521.here hx rfl (hb hby at_50) rfl rfl (l' := #[.val (.int p1), .val (.int p2), .val (.int p3), .val (.int p4), .val (.int p5), .val (.int p6), .val (.ref x2), .val (.ref x21), .val (.ref x44), .val (.ref x522), .unset, .unset, .unset, .unset, .unset, .unset]) rfl ?_
        refine XS.iload X521.here hx rfl (hb hby at_52) rfl ?_
        show Steps p.tables e below (T521.setTop (mkF m 54 #[.val (.int p1), .val (.int p2), .val (.int p3), .val (.int p4), .val (.int p5), .val (.int p6), .val (.ref x2), .val (.ref x21), .val (.ref x44), .val (.ref x522), .unset, .unset, .unset, .unset, .unset, .unset] [(.int p5)])) _
        refine st550.trans ?_
        refine XS.astore X550.here hx rfl (hb hby at_57) rfl rfl (l' := #[.val (.int p1), .val (.int p2), .val (.int p3), .val (.int p4), .val (.int p5), .val (.int p6), .val (.ref x2), .val (.ref x21), .val (.ref x44), .val (.ref x522), .val (.ref x551), .unset, .unset, .unset, .unset, .unset]) rfl ?_
        refine XS.iload X550.here hx rfl (hb hby at_59) rfl ?_
        refine XS.iconst X550.here hx rfl (hb hby at_61) ?_
        refine XS.iushr X550.here hx rfl (hb hby at_62) rfl ?_
        show Steps p.tables e below (T550.setTop (mkF m 63 #[.val (.int p1), .val (.int p2), .val (.int p3), .val (.int p4), .val (.int p5), .val (.int p6), .val (.ref x2), .val (.ref x21), .val (.ref x44), .val (.ref x522), .val (.ref x551), .unset, .unset, .unset, .unset, .unset] [(.int ((p6.toUInt32 >>> ((4 : Int32) &&& 31).toUInt32).toInt32))])) _
        refine st583.trans ?_
        refine XS.astore X583.here hx rfl (hb hby at_66) rfl rfl (l' := #[.val (.int p1), .val (.int p2), .val (.int p3), .val (.int p4), .val (.int p5), .val (.int p6), .val (.ref x2), .val (.ref x21), .val (.ref x44), .val (.ref x522), .val (.ref x551), .val (.ref x584), .unset, .unset, .unset, .unset]) rfl ?_
        exact kt
      obtain ⟨T621, h621, X621, e621, E621, A621, D621, -, st621⟩ := newO X583 hx hZ583 ho583 (own_w hw 26 rfl) (own_w hw 27 rfl) (own_w hw 28 rfl) rfl (g := (mkF m 68 #[.val (.int p1), .val (.int p2), .val (.int p3), .val (.int p4), .val (.int p5), .val (.int p6), .val (.ref x2), .val (.ref x21), .val (.ref x44), .val (.ref x522), .val (.ref x551), .val (.ref x584), .unset, .unset, .unset, .unset] [])) rfl (hb hby at_68) (by decide) (by decide)
      obtain ⟨b621, g621⟩ : ∃ z, z = T583.heap.size := ⟨_, rfl⟩
      have ge_b621 : n0 ≤ b621 := by rw [g621, ← O619.1]; exact O619.2.1
      have f622 := (Exa.keep f599 k588)
      have ne623 : x2 ≠ b621 := Nat.ne_of_lt (Nat.lt_of_lt_of_le (Exa.lt f622) (Nat.le_of_eq g621.symm))
      have f624 := (Exa.keep f601 k588)
      have ne625 : x3 ≠ b621 := Nat.ne_of_lt (Nat.lt_of_lt_of_le (Exa.lt f624) (Nat.le_of_eq g621.symm))
      have f626 := (Exa.keep f603 k588)
      have ne627 : x21 ≠ b621 := Nat.ne_of_lt (Nat.lt_of_lt_of_le (Exa.lt f626) (Nat.le_of_eq g621.symm))
      have f628 := (Exa.keep f605 k588)
      have ne629 : x22 ≠ b621 := Nat.ne_of_lt (Nat.lt_of_lt_of_le (Exa.lt f628) (Nat.le_of_eq g621.symm))
      have f630 := (Exa.keep f607 k588)
      have ne631 : x44 ≠ b621 := Nat.ne_of_lt (Nat.lt_of_lt_of_le (Exa.lt f630) (Nat.le_of_eq g621.symm))
      have f632 := (Exa.keep f609 k588)
      have ne633 : x45 ≠ b621 := Nat.ne_of_lt (Nat.lt_of_lt_of_le (Exa.lt f632) (Nat.le_of_eq g621.symm))
      have f634 := (Exa.keep f611 k588)
      have ne635 : x522 ≠ b621 := Nat.ne_of_lt (Nat.lt_of_lt_of_le (Exa.lt f634) (Nat.le_of_eq g621.symm))
      have f636 := (Exa.keep f613 k588)
      have ne637 : x523 ≠ b621 := Nat.ne_of_lt (Nat.lt_of_lt_of_le (Exa.lt f636) (Nat.le_of_eq g621.symm))
      have f638 := (Exa.keep f557 k588)
      have ne639 : x551 ≠ b621 := Nat.ne_of_lt (Nat.lt_of_lt_of_le (Exa.lt f638) (Nat.le_of_eq g621.symm))
      have f640 := (Exa.keep f560 k588)
      have ne641 : x552 ≠ b621 := Nat.ne_of_lt (Nat.lt_of_lt_of_le (Exa.lt f640) (Nat.le_of_eq g621.symm))
      have ne642 : x584 ≠ b621 := Nat.ne_of_lt (Nat.lt_of_lt_of_le (Exa.lt f590) (Nat.le_of_eq g621.symm))
      have ne643 : x585 ≠ b621 := Nat.ne_of_lt (Nat.lt_of_lt_of_le (Exa.lt f593) (Nat.le_of_eq g621.symm))
      rw [← g621] at A621 D621 st621
      have hk644 := Nat.le_trans hk618 E621.1
      have O645 := O619.ext E621
      have F646 : Fld Z h621 b621 "com/example/typecheck/typecheck/model/QName" "prefix" "Ljava/lang/String;" .null := D621 (Or.inr (own_w hw 34 rfl)) (ty := (.object "java/lang/String")) (by decide)
      have F647 : Fld Z h621 b621 "com/example/typecheck/typecheck/model/QName" "namespace" "Ljava/lang/String;" .null := D621 (Or.inr (own_w hw 36 rfl)) (ty := (.object "java/lang/String")) (by decide)
      have F648 : Fld Z h621 b621 "com/example/typecheck/typecheck/model/QName" "localName" "Ljava/lang/String;" .null := D621 (Or.inr (own_w hw 38 rfl)) (ty := (.object "java/lang/String")) (by decide)
      have F649 : Fld Z h621 b621 "com/example/typecheck/typecheck/model/QName" "hash" "I" (.int (0 : Int32)) := D621 (Or.inr (own_w hw 59 rfl)) (ty := .int) (by decide)
      have f651 := (Exa.ext E621 f622)
      have f652 := (Fld.ext E621 (Fld.keep (Fld.keep (Fld.keep (Fld.keep (Fld.keep f9 k25 nin0) k48 nin0) k526 nin0) k555 nin0) k588 nin0))
      have f653 := (Fld.ext E621 (Fld.keep (Fld.keep (Fld.keep (Fld.keep (Fld.keep f10 k25 nin0) k48 nin0) k526 nin0) k555 nin0) k588 nin0))
      have f654 := (Exa.ext E621 f624)
      have f655 := (Arv.ext (Arv.keep (Arv.keep (Arv.keep (Arv.keep (Arv.keep f12 k25 nin0) k48 nin0) k526 nin0) k555 nin0) k588 nin0) E621)
      have f656 := (Fld.ext E621 (Fld.keep (Fld.keep (Fld.keep (Fld.keep (Fld.keep f13 k25 nin0) k48 nin0) k526 nin0) k555 nin0) k588 nin0))
      have f657 := (Fld.ext E621 (Fld.keep (Fld.keep (Fld.keep (Fld.keep (Fld.keep f14 k25 nin0) k48 nin0) k526 nin0) k555 nin0) k588 nin0))
      have f658 := (Exa.ext E621 f626)
      have f659 := (Fld.ext E621 (Fld.keep (Fld.keep (Fld.keep (Fld.keep f28 k48 nin0) k526 nin0) k555 nin0) k588 nin0))
      have f660 := (Fld.ext E621 (Fld.keep (Fld.keep (Fld.keep (Fld.keep f29 k48 nin0) k526 nin0) k555 nin0) k588 nin0))
      have f661 := (Exa.ext E621 f628)
      have f662 := (Arv.ext (Arv.keep (Arv.keep (Arv.keep (Arv.keep f31 k48 nin0) k526 nin0) k555 nin0) k588 nin0) E621)
      have f663 := (Fld.ext E621 (Fld.keep (Fld.keep (Fld.keep (Fld.keep f32 k48 nin0) k526 nin0) k555 nin0) k588 nin0))
      have f664 := (Fld.ext E621 (Fld.keep (Fld.keep (Fld.keep (Fld.keep f33 k48 nin0) k526 nin0) k555 nin0) k588 nin0))
      obtain ⟨_, _, ⟨T650, L650, k650, n650⟩, -, X650, ⟨Lc650, hQ650, l650, y650, z650⟩, st650⟩ := X621.specialBack hx (y := (⟨"com/example/typecheck/typecheck/model/QName", "<init>", "(Ljava/lang/String;Ljava/lang/String;Ljava/lang/String;)V"⟩ : MethodName)) rfl ho583 (mvT hZ583 (own_w hw 29 rfl)) (mvT hZ583 (own_w hw 30 rfl)) (mvT hZ583 (own_w hw 31 rfl)) (by decide) (backOf (W := 1) (rm_qini l Z a0 hw [] b621 x551 x2 x3 x4 (own_cs p1) x21 x22 x23 (own_cs p2) zc h621 n0 O645 A621 ge_b621 F646 F647 F648 F649 f651 f652 f653 f654 f655 f656 f657 ge16 f658 f659 f660 f661 f662 f663 f664 ge35 ne36 (own_csok p1) (own_csok p2) S_C hzc) hZ583 (own_w hw 31 rfl) (own_w hw 28 rfl) (by decide) (by decide)) (g := (mkF m 78 #[.val (.int p1), .val (.int p2), .val (.int p3), .val (.int p4), .val (.int p5), .val (.int p6), .val (.ref x2), .val (.ref x21), .val (.ref x44), .val (.ref x522), .val (.ref x551), .val (.ref x584), .unset, .unset, .unset, .unset] [(.ref x21), (.ref x2), (.ref x551), (.ref b621), (.ref b621)])) rfl (by rw [hml]; rfl) (Steps.refl _) (a := b621) (argsL := [(.ref x551), (.ref x2), (.ref x21)]) (rest := [(.ref b621)]) (lenOf pd_13 rfl) rfl (by show 2 * 0 + _ ≤ _; exact Nat.le_of_eq rfl) (hb hby at_78) (fun _ _ => ⟨rfl, e621, (by decide : 37 + 0 ≤ _), (by decide : 76 + 0 ≤ _)⟩)
      dsimp only [Pt.U, Pt.locs, Pt.cells, Pt.slots] at X650 l650 y650 z650 st650 hQ650
      subst l650 y650 z650
      obtain ⟨rfl, N665, k666, f667, f668, f669, f670, f671, f672, f673, f674, f675, f676⟩ := hQ650
      have N677 := Fr.app N597 N665
      have hk678 := Nat.le_trans hk644 k666.1
      have O679 := O645.keep k666 (allS ge_b621 (allS ge16 (allS ge35 all0)))
      obtain ⟨T680, h680, X680, e680, E680, A680, D680, -, st680⟩ := newO X650 hx hZ583 ho583 (own_w hw 26 rfl) (own_w hw 27 rfl) (own_w hw 28 rfl) rfl (g := (mkF m 83 #[.val (.int p1), .val (.int p2), .val (.int p3), .val (.int p4), .val (.int p5), .val (.int p6), .val (.ref x2), .val (.ref x21), .val (.ref x44), .val (.ref x522), .val (.ref x551), .val (.ref x584), .val (.ref b621), .unset, .unset, .unset] [])) rfl (hb hby at_83) (by decide) (by decide)
      obtain ⟨b680, g680⟩ : ∃ z, z = T650.heap.size := ⟨_, rfl⟩
      have ge_b680 : n0 ≤ b680 := by rw [g680, ← O679.1]; exact O679.2.1
      have ne681 : x2 ≠ b680 := Nat.ne_of_lt (Nat.lt_of_lt_of_le (Exa.lt f671) (Nat.le_of_eq g680.symm))
      have f682 := (Exa.keep f654 k666)
      have ne683 : x3 ≠ b680 := Nat.ne_of_lt (Nat.lt_of_lt_of_le (Exa.lt f682) (Nat.le_of_eq g680.symm))
      have ne684 : x21 ≠ b680 := Nat.ne_of_lt (Nat.lt_of_lt_of_le (Exa.lt f674) (Nat.le_of_eq g680.symm))
      have f685 := (Exa.keep f661 k666)
      have ne686 : x22 ≠ b680 := Nat.ne_of_lt (Nat.lt_of_lt_of_le (Exa.lt f685) (Nat.le_of_eq g680.symm))
      have f687 := (Exa.keep (Exa.ext E621 f630) k666)
      have ne688 : x44 ≠ b680 := Nat.ne_of_lt (Nat.lt_of_lt_of_le (Exa.lt f687) (Nat.le_of_eq g680.symm))
      have f689 := (Exa.keep (Exa.ext E621 f632) k666)
      have ne690 : x45 ≠ b680 := Nat.ne_of_lt (Nat.lt_of_lt_of_le (Exa.lt f689) (Nat.le_of_eq g680.symm))
      have f691 := (Exa.keep (Exa.ext E621 f634) k666)
      have ne692 : x522 ≠ b680 := Nat.ne_of_lt (Nat.lt_of_lt_of_le (Exa.lt f691) (Nat.le_of_eq g680.symm))
      have f693 := (Exa.keep (Exa.ext E621 f636) k666)
      have ne694 : x523 ≠ b680 := Nat.ne_of_lt (Nat.lt_of_lt_of_le (Exa.lt f693) (Nat.le_of_eq g680.symm))
      have f695 := (Exa.keep (Exa.ext E621 f638) k666)
      have ne696 : x551 ≠ b680 := Nat.ne_of_lt (Nat.lt_of_lt_of_le (Exa.lt f695) (Nat.le_of_eq g680.symm))
      have f697 := (Exa.keep (Exa.ext E621 f640) k666)
      have ne698 : x552 ≠ b680 := Nat.ne_of_lt (Nat.lt_of_lt_of_le (Exa.lt f697) (Nat.le_of_eq g680.symm))
      have f699 := (Exa.keep (Exa.ext E621 f590) k666)
      have ne700 : x584 ≠ b680 := Nat.ne_of_lt (Nat.lt_of_lt_of_le (Exa.lt f699) (Nat.le_of_eq g680.symm))
      have f701 := (Exa.keep (Exa.ext E621 f593) k666)
      have ne702 : x585 ≠ b680 := Nat.ne_of_lt (Nat.lt_of_lt_of_le (Exa.lt f701) (Nat.le_of_eq g680.symm))
      have ne703 : b621 ≠ b680 := Nat.ne_of_lt (Nat.lt_of_lt_of_le (Exa.lt f667) (Nat.le_of_eq g680.symm))
      rw [← g680] at A680 D680 st680
      have hk704 := Nat.le_trans hk678 E680.1
      have O705 := O679.ext E680
      have F706 : Fld Z h680 b680 "com/example/typecheck/typecheck/model/QName" "prefix" "Ljava/lang/String;" .null := D680 (Or.inr (own_w hw 34 rfl)) (ty := (.object "java/lang/String")) (by decide)
      have F707 : Fld Z h680 b680 "com/example/typecheck/typecheck/model/QName" "namespace" "Ljava/lang/String;" .null := D680 (Or.inr (own_w hw 36 rfl)) (ty := (.object "java/lang/String")) (by decide)
      have F708 : Fld Z h680 b680 "com/example/typecheck/typecheck/model/QName" "localName" "Ljava/lang/String;" .null := D680 (Or.inr (own_w hw 38 rfl)) (ty := (.object "java/lang/String")) (by decide)
      have F709 : Fld Z h680 b680 "com/example/typecheck/typecheck/model/QName" "hash" "I" (.int (0 : Int32)) := D680 (Or.inr (own_w hw 59 rfl)) (ty := .int) (by decide)
      have f711 := (Exa.ext E680 f687)
      have f712 := (Fld.ext E680 (Fld.keep (Fld.ext E621 (Fld.keep (Fld.keep (Fld.keep f51 k526 nin0) k555 nin0) k588 nin0)) k666 (ninS ne631 (ninS (Ne.symm ne60) (ninS (Ne.symm ne63) nin0)))))
      have f713 := (Fld.ext E680 (Fld.keep (Fld.ext E621 (Fld.keep (Fld.keep (Fld.keep f52 k526 nin0) k555 nin0) k588 nin0)) k666 (ninS ne631 (ninS (Ne.symm ne60) (ninS (Ne.symm ne63) nin0)))))
      have f714 := (Exa.ext E680 f689)
      have f715 := (Exa.ext E680 f671)
      have f716 := (Exa.ext E680 f674)
      have f717 := (Arv.ext (Arv.keep (Arv.ext (Arv.keep (Arv.keep (Arv.keep f54 k526 nin0) k555 nin0) k588 nin0) E621) k666 (ninS ne633 (ninS (own_exane f714 f715 (by decide)) (ninS (own_exane f714 f716 (by decide)) nin0)))) E680)
      have f718 := (Fld.ext E680 (Fld.keep (Fld.ext E621 (Fld.keep (Fld.keep (Fld.keep f55 k526 nin0) k555 nin0) k588 nin0)) k666 (ninS ne631 (ninS (Ne.symm ne60) (ninS (Ne.symm ne63) nin0)))))
      have f719 := (Fld.ext E680 (Fld.keep (Fld.ext E621 (Fld.keep (Fld.keep (Fld.keep f56 k526 nin0) k555 nin0) k588 nin0)) k666 (ninS ne631 (ninS (Ne.symm ne60) (ninS (Ne.symm ne63) nin0)))))
      have f720 := (Exa.ext E680 f691)
      have f721 := (Fld.ext E680 (Fld.keep (Fld.ext E621 (Fld.keep (Fld.keep f529 k555 nin0) k588 nin0)) k666 (ninS ne635 (ninS (Ne.symm ne538) (ninS (Ne.symm ne542) nin0)))))
      have f722 := (Fld.ext E680 (Fld.keep (Fld.ext E621 (Fld.keep (Fld.keep f530 k555 nin0) k588 nin0)) k666 (ninS ne635 (ninS (Ne.symm ne538) (ninS (Ne.symm ne542) nin0)))))
      have f723 := (Exa.ext E680 f693)
      have f724 := (Arv.ext (Arv.keep (Arv.ext (Arv.keep (Arv.keep f532 k555 nin0) k588 nin0) E621) k666 (ninS ne637 (ninS (own_exane f723 f715 (by decide)) (ninS (own_exane f723 f716 (by decide)) nin0)))) E680)
      have f725 := (Fld.ext E680 (Fld.keep (Fld.ext E621 (Fld.keep (Fld.keep f533 k555 nin0) k588 nin0)) k666 (ninS ne635 (ninS (Ne.symm ne538) (ninS (Ne.symm ne542) nin0)))))
      have f726 := (Fld.ext E680 (Fld.keep (Fld.ext E621 (Fld.keep (Fld.keep f534 k555 nin0) k588 nin0)) k666 (ninS ne635 (ninS (Ne.symm ne538) (ninS (Ne.symm ne542) nin0)))))
      obtain ⟨_, _, ⟨T710, L710, k710, n710⟩, -, X710, ⟨Lc710, hQ710, l710, y710, z710⟩, st710⟩ := X680.specialBack hx (y := (⟨"com/example/typecheck/typecheck/model/QName", "<init>", "(Ljava/lang/String;Ljava/lang/String;Ljava/lang/String;)V"⟩ : MethodName)) rfl ho583 (mvT hZ583 (own_w hw 29 rfl)) (mvT hZ583 (own_w hw 30 rfl)) (mvT hZ583 (own_w hw 31 rfl)) (by decide) (backOf (W := 1) (rm_qini l Z a0 hw [] b680 x584 x44 x45 x46 (own_cs p3) x522 x523 x524 (own_cs p2) zc h680 n0 O705 A680 ge_b680 F706 F707 F708 F709 f711 f712 f713 f714 f717 f718 f719 ge58 f720 f721 f722 f723 f724 f725 f726 ge536 ne545 (own_csok p3) (own_csok p2) S_C hzc) hZ583 (own_w hw 31 rfl) (own_w hw 28 rfl) (by decide) (by decide)) (g := (mkF m 93 #[.val (.int p1), .val (.int p2), .val (.int p3), .val (.int p4), .val (.int p5), .val (.int p6), .val (.ref x2), .val (.ref x21), .val (.ref x44), .val (.ref x522), .val (.ref x551), .val (.ref x584), .val (.ref b621), .unset, .unset, .unset] [(.ref x522), (.ref x44), (.ref x584), (.ref b680), (.ref b680)])) rfl (by rw [hml]; rfl) (Steps.refl _) (a := b680) (argsL := [(.ref x584), (.ref x44), (.ref x522)]) (rest := [(.ref b680)]) (lenOf pd_13 rfl) rfl (by show 2 * 0 + _ ≤ _; exact Nat.le_of_eq rfl) (hb hby at_93) (fun _ _ => ⟨rfl, e680, (by decide : 38 + 0 ≤ _), (by decide : 80 + 0 ≤ _)⟩)
      dsimp only [Pt.U, Pt.locs, Pt.cells, Pt.slots] at X710 l710 y710 z710 st710 hQ710
      subst l710 y710 z710
      obtain ⟨rfl, N727, k728, f729, f730, f731, f732, f733, f734, f735, f736, f737, f738⟩ := hQ710
      have N739 := Fr.app N677 N727
      have hk740 := Nat.le_trans hk704 k728.1
      have O741 := O705.keep k728 (allS ge_b680 (allS ge58 (allS ge536 all0)))
      have S742 : ∀ t, Steps p.tables e below (T710.setTop (mkF m 108 #[.val (.int p1), .val (.int p2), .val (.int p3), .val (.int p4), .val (.int p5), .val (.int p6), .val (.ref x2), .val (.ref x21), .val (.ref x44), .val (.ref x522), .val (.ref x551), .val (.ref x584), .val (.ref b621), .val (.ref b680), .val (.int (((p6.toUInt32 >>> ((2 : Int32) &&& 31).toUInt32).toInt32) &&& (3 : Int32))), .unset] [(.int (((p6.toUInt32 >>> ((2 : Int32) &&& 31).toUInt32).toInt32) &&& (3 : Int32)))])) t → Steps p.tables e below (s₁.setTop (mkF m 0 #[.val (.int p1), .val (.int p2), .val (.int p3), .val (.int p4), .val (.int p5), .val (.int p6), .unset, .unset, .unset, .unset, .unset, .unset, .unset, .unset, .unset, .unset] [])) t := by
        intro t kt
        refine S620 t ?_
        refine st621 _ ?_
        refine XS.dup X621.here hx rfl (hb hby at_71) rfl rfl ?_
        refine XS.aload X621.here hx rfl (hb hby at_72) rfl rfl ?_
        refine XS.aload X621.here hx rfl (hb hby at_74) rfl rfl ?_
        refine XS.aload X621.here hx rfl (hb hby at_76) rfl rfl ?_
        show Steps p.tables e below (T621.setTop (mkF m 78 #[.val (.int p1), .val (.int p2), .val (.int p3), .val (.int p4), .val (.int p5), .val (.int p6), .val (.ref x2), .val (.ref x21), .val (.ref x44), .val (.ref x522), .val (.ref x551), .val (.ref x584), .unset, .unset, .unset, .unset] [(.ref x21), (.ref x2), (.ref x551), (.ref b621), (.ref b621)])) _
        refine st650.trans ?_
        refine XS.astore X650.here hx rfl (hb hby at_81) rfl rfl (l' := #[.val (.int p1), .val (.int p2), .val (.int p3), .val (.int p4), .val (.int p5), .val (.int p6), .val (.ref x2), .val (.ref x21), .val (.ref x44), .val (.ref x522), .val (.ref x551), .val (.ref x584), .val (.ref b621), .unset, .unset, .unset]) rfl ?_
        show Steps p.tables e below (T650.setTop (mkF m 83 #[.val (.int p1), .val (.int p2), .val (.int p3), .val (.int p4), .val (.int p5), .val (.int p6), .val (.ref x2), .val (.ref x21), .val (.ref x44), .val (.ref x522), .val (.ref x551), .val (.ref x584), .val (.ref b621), .unset, .unset, .unset] [])) _
        refine st680 _ ?_
        refine XS.dup X680.here hx rfl (hb hby at_86) rfl rfl ?_
        refine XS.aload X680.here hx rfl (hb hby at_87) rfl rfl ?_
        refine XS.aload X680.here hx rfl (hb hby at_89) rfl rfl ?_
        refine XS.aload X680.here hx rfl (hb hby at_91) rfl rfl ?_
        show Steps p.tables e below (T680.setTop (mkF m 93 #[.val (.int p1), .val (.int p2), .val (.int p3), .val (.int p4), .val (.int p5), .val (.int p6), .val (.ref x2), .val (.ref x21), .val (.ref x44), .val (.ref x522), .val (.ref x551), .val (.ref x584), .val (.ref b621), .unset, .unset, .unset] [(.ref x522), (.ref x44), (.ref x584), (.ref b680), (.ref b680)])) _
        refine st710.trans ?_
        refine XS.astore X710.here hx rfl (hb hby at_96) rfl rfl (l' := #[.val (.int p1), .val (.int p2), .val (.int p3), .val (.int p4), .val (.int p5), .val (.int p6), .val (.ref x2), .val (.ref x21), .val (.ref x44), .val (.ref x522), .val (.ref x551), .val (.ref x584), .val (.ref b621), .val (.ref b680), .unset, .unset]) rfl ?_
        refine XS.iload X710.here hx rfl (hb hby at_98) rfl ?_
        refine XS.iconst X710.here hx rfl (hb hby at_100) ?_
        refine XS.iushr X710.here hx rfl (hb hby at_101) rfl ?_
        refine XS.iconst X710.here hx rfl (hb hby at_102) ?_
        show Steps p.tables e below (T710.setTop (mkF m 103 #[.val (.int p1), .val (.int p2), .val (.int p3), .val (.int p4), .val (.int p5), .val (.int p6), .val (.ref x2), .val (.ref x21), .val (.ref x44), .val (.ref x522), .val (.ref x551), .val (.ref x584), .val (.ref b621), .val (.ref b680), .unset, .unset] [(.int (3 : Int32)), (.int ((p6.toUInt32 >>> ((2 : Int32) &&& 31).toUInt32).toInt32))])) _
        refine XS.iand X710.here hx rfl (hb hby at_103) rfl ?_
        refine XS.istore X710.here hx rfl (hb hby at_104) rfl (l' := #[.val (.int p1), .val (.int p2), .val (.int p3), .val (.int p4), .val (.int p5), .val (.int p6), .val (.ref x2), .val (.ref x21), .val (.ref x44), .val (.ref x522), .val (.ref x551), .val (.ref x584), .val (.ref b621), .val (.ref b680), .val (.int (((p6.toUInt32 >>> ((2 : Int32) &&& 31).toUInt32).toInt32) &&& (3 : Int32))), .unset]) rfl ?_
        refine XS.iload X710.here hx rfl (hb hby at_106) rfl ?_
        exact kt
      rcases Decidable.em ((((p6.toUInt32 >>> ((2 : Int32) &&& 31).toUInt32).toInt32) &&& (3 : Int32)) = (0 : Int32)) with c743 | c743
      · have f745 := (Exa.keep f715 k728)
        have f746 := (Fld.keep (Fld.ext E680 f672) k728 (ninS ne681 (ninS ne60 (ninS ne538 nin0))))
        have f747 := (Fld.keep (Fld.ext E680 f673) k728 (ninS ne681 (ninS ne60 (ninS ne538 nin0))))
        have f748 := (Exa.keep (Exa.ext E680 f682) k728)
        have f749 := (Arv.keep (Arv.ext (Arv.keep f655 k666 (ninS ne625 (ninS (own_exane f748 f745 (by decide)) (ninS ne37 nin0)))) E680) k728 (ninS ne683 (ninS ne62 (ninS ne540 nin0))))
        have f750 := (Exa.keep f714 k728)
        have f751 := (Arv.keep f717 k728 (ninS ne690 (ninS (own_exane f750 f733 (by decide)) (ninS ne546 nin0))))
        obtain ⟨_, _, ⟨T744, L744, k744, n744⟩, -, X744, ⟨Lc744, hQ744, l744, y744, z744⟩, st744⟩ := Jvm.LawKit.callS X710 hx (y := (⟨"com/example/typecheck/typecheck/model/QNameEqualsPinLaw", "same", "(Ljava/lang/String;Ljava/lang/String;)Z"⟩ : MethodName)) ho583 (mvT hZ583 (own_w hw 60 rfl)) (mvT hZ583 (own_w hw 61 rfl)) (mvT hZ583 (own_w hw 2 rfl)) (mvT hZ583 (own_w hw 62 rfl)) (by decide) (backOf (W := 0) (rm_same l Z a0 hw [] x2 x3 x4 (own_cs p1) x44 x45 x46 (own_cs p3) zc fm T710.heap n0 O741 f745 f746 f747 f748 f749 f733 f734 f735 f750 f751 (own_csok p1) (own_csok p3) S_C hzc S_F hfm) hZ583 (own_w hw 62 rfl) (own_w hw 2 rfl) (by decide) (by decide)) (g := (mkF m 115 #[.val (.int p1), .val (.int p2), .val (.int p3), .val (.int p4), .val (.int p5), .val (.int p6), .val (.ref x2), .val (.ref x21), .val (.ref x44), .val (.ref x522), .val (.ref x551), .val (.ref x584), .val (.ref b621), .val (.ref b680), .val (.int (((p6.toUInt32 >>> ((2 : Int32) &&& 31).toUInt32).toInt32) &&& (3 : Int32))), .unset] [(.ref x44), (.ref x2)])) rfl (by rw [hml]; rfl) (argsL := [(.ref x2), (.ref x44)]) (rest := []) (lenOf pd_14 rfl) rfl (by show 2 * 0 + _ ≤ _; exact Nat.le_of_eq rfl) (hb hby at_115) (fun _ _ => ⟨rfl, rfl, (by decide : 38 + 0 ≤ _), (by decide : 80 + 0 ≤ _)⟩)
        dsimp only [Pt.U, Pt.locs, Pt.cells, Pt.slots] at X744 l744 y744 z744 st744 hQ744
        subst l744 y744 z744
        obtain ⟨rfl, N752, k753⟩ := hQ744
        have N754 := Fr.app N739 N752
        have S755 : ∀ t, Steps p.tables e below (T744.setTop (mkF m 118 #[.val (.int p1), .val (.int p2), .val (.int p3), .val (.int p4), .val (.int p5), .val (.int p6), .val (.ref x2), .val (.ref x21), .val (.ref x44), .val (.ref x522), .val (.ref x551), .val (.ref x584), .val (.ref b621), .val (.ref b680), .val (.int (((p6.toUInt32 >>> ((2 : Int32) &&& 31).toUInt32).toInt32) &&& (3 : Int32))), .unset] [(.int (own_eqI (own_cs p1) (own_cs p3)))])) t → Steps p.tables e below (s₁.setTop (mkF m 0 #[.val (.int p1), .val (.int p2), .val (.int p3), .val (.int p4), .val (.int p5), .val (.int p6), .unset, .unset, .unset, .unset, .unset, .unset, .unset, .unset, .unset, .unset] [])) t := by
          intro t kt
          refine S742 t ?_
          refine XS.ifNo X710.here hx rfl (hb hby at_108) rfl ((if0 _ _).trans (teq (c743 : (((p6.toUInt32 >>> ((2 : Int32) &&& 31).toUInt32).toInt32) &&& (3 : Int32)) = (0 : Int32))).2) ?_
          refine XS.aload X710.here hx rfl (hb hby at_111) rfl rfl ?_
          refine XS.aload X710.here hx rfl (hb hby at_113) rfl rfl ?_
          show Steps p.tables e below (T710.setTop (mkF m 115 #[.val (.int p1), .val (.int p2), .val (.int p3), .val (.int p4), .val (.int p5), .val (.int p6), .val (.ref x2), .val (.ref x21), .val (.ref x44), .val (.ref x522), .val (.ref x551), .val (.ref x584), .val (.ref b621), .val (.ref b680), .val (.int (((p6.toUInt32 >>> ((2 : Int32) &&& 31).toUInt32).toInt32) &&& (3 : Int32))), .unset] [(.ref x44), (.ref x2)])) _
          refine st744 _ ?_
          exact kt
        rcases Decidable.em ((own_cs p1) = (own_cs p3)) with c756 | c756
        · have f758 := (Exa.keep f716 k728)
          have f759 := (Fld.keep (Fld.ext E680 f675) k728 (ninS ne684 (ninS ne63 (ninS ne542 nin0))))
          have f760 := (Fld.keep (Fld.ext E680 f676) k728 (ninS ne684 (ninS ne63 (ninS ne542 nin0))))
          have f761 := (Exa.keep (Exa.ext E680 f685) k728)
          have f762 := (Arv.keep (Arv.ext (Arv.keep f662 k666 (ninS ne629 (ninS (own_exane f761 f745 (by decide)) (ninS (own_exane f761 f758 (by decide)) nin0)))) E680) k728 (ninS ne686 (ninS ne64 (ninS ne544 nin0))))
          have f763 := (Exa.keep f723 k728)
          have f764 := (Arv.keep f724 k728 (ninS ne694 (ninS (own_exane f763 f733 (by decide)) (ninS (own_exane f763 f736 (by decide)) nin0))))
          obtain ⟨_, _, ⟨T757, L757, k757, n757⟩, -, X757, ⟨Lc757, hQ757, l757, y757, z757⟩, st757⟩ := Jvm.LawKit.callS X744 hx (y := (⟨"com/example/typecheck/typecheck/model/QNameEqualsPinLaw", "same", "(Ljava/lang/String;Ljava/lang/String;)Z"⟩ : MethodName)) ho583 (mvT hZ583 (own_w hw 60 rfl)) (mvT hZ583 (own_w hw 61 rfl)) (mvT hZ583 (own_w hw 2 rfl)) (mvT hZ583 (own_w hw 62 rfl)) (by decide) (backOf (W := 0) (rm_same l Z a0 hw [] x21 x22 x23 (own_cs p2) x522 x523 x524 (own_cs p2) zc fm T710.heap n0 O741 f758 f759 f760 f761 f762 f736 f737 f738 f763 f764 (own_csok p2) (own_csok p2) S_C hzc S_F hfm) hZ583 (own_w hw 62 rfl) (own_w hw 2 rfl) (by decide) (by decide)) (g := (mkF m 125 #[.val (.int p1), .val (.int p2), .val (.int p3), .val (.int p4), .val (.int p5), .val (.int p6), .val (.ref x2), .val (.ref x21), .val (.ref x44), .val (.ref x522), .val (.ref x551), .val (.ref x584), .val (.ref b621), .val (.ref b680), .val (.int (((p6.toUInt32 >>> ((2 : Int32) &&& 31).toUInt32).toInt32) &&& (3 : Int32))), .unset] [(.ref x522), (.ref x21)])) rfl (by rw [hml]; rfl) (argsL := [(.ref x21), (.ref x522)]) (rest := []) (lenOf pd_14 rfl) rfl (by show 2 * 0 + _ ≤ _; exact Nat.le_of_eq rfl) (hb hby at_125) (fun _ _ => ⟨rfl, k753, (by decide : 38 + 0 ≤ _), (by decide : 80 + 0 ≤ _)⟩)
          dsimp only [Pt.U, Pt.locs, Pt.cells, Pt.slots] at X757 l757 y757 z757 st757 hQ757
          subst l757 y757 z757
          obtain ⟨rfl, N765, k766⟩ := hQ757
          have N767 := Fr.app N754 N765
          have f769 := (Exa.keep (Exa.ext E680 f667) k728)
          have f770 := (Fld.keep (Fld.ext E680 f670) k728 (ninS ne703 (ninS (Ne.symm ne631) (ninS (Ne.symm ne635) nin0))))
          have f771 := (Fld.keep (Fld.ext E680 f668) k728 (ninS ne703 (ninS (Ne.symm ne631) (ninS (Ne.symm ne635) nin0))))
          have f772 := (Fld.keep (Fld.ext E680 f669) k728 (ninS ne703 (ninS (Ne.symm ne631) (ninS (Ne.symm ne635) nin0))))
          obtain ⟨cq768, kq768, q768a, q768b, q768c⟩ := isOf hZ583 k766 f769
          obtain ⟨_, _, ⟨T768, L768, k768, n768⟩, -, X768, ⟨Lc768, hQ768, l768, y768, z768⟩, st768⟩ := X757.virtualBack hx (y := (⟨"com/example/typecheck/typecheck/model/QName", "equals", "(Ljava/lang/Object;)Z"⟩ : MethodName)) (z := (⟨"com/example/typecheck/typecheck/model/QName", "equals", "(Ljava/lang/Object;)Z"⟩ : MethodName)) ho583 (mvT hZ583 (own_w hw 73 rfl)) (mvT hZ583 (own_w hw 74 rfl)) (notFace_of_selects (args := #[]) (mvT hZ583 (own_w hw 76 rfl))) (mvT hZ583 (own_w hw 76 rfl)) (mvT hZ583 (own_w hw 75 rfl)) (by decide) (backOf (W := 0) (rm_qeq l Z a0 hw [] b621 (((31 : Int32) * (own_H (own_cs p1))) + (own_H (own_cs p2))) x2 x3 x4 (own_cs p1) x21 x22 x23 (own_cs p2) b680 (((31 : Int32) * (own_H (own_cs p3))) + (own_H (own_cs p2))) x44 x45 x46 (own_cs p3) x522 x523 x524 (own_cs p2) zc T710.heap n0 O741 f769 f770 f771 f772 f745 f746 f747 f748 f749 f758 f759 f760 f761 f762 (own_csok p1) (own_csok p2) f729 f732 f730 f731 f733 f734 f735 f750 f751 f736 f737 f738 f763 f764 (own_csok p3) (own_csok p2) ne703 S_C hzc) hZ583 (own_w hw 77 rfl) (own_w hw 28 rfl) (by decide) (by decide)) q768a q768c (g := (mkF m 142 #[.val (.int p1), .val (.int p2), .val (.int p3), .val (.int p4), .val (.int p5), .val (.int p6), .val (.ref x2), .val (.ref x21), .val (.ref x44), .val (.ref x522), .val (.ref x551), .val (.ref x584), .val (.ref b621), .val (.ref b680), .val (.int (((p6.toUInt32 >>> ((2 : Int32) &&& 31).toUInt32).toInt32) &&& (3 : Int32))), .val (.int (1 : Int32))] [(.ref b680), (.ref b621)])) rfl (by rw [hml]; rfl) (Steps.refl _) (argsL := [(.ref b680)]) (rest := []) (lenOf pd_11 rfl) rfl (by show 2 * 0 + _ ≤ _; exact Nat.le_of_eq rfl) (hb hby at_142) (fun _ _ => ⟨rfl, k766, (by decide : 38 + 0 ≤ _), (by decide : 80 + 0 ≤ _)⟩)
          dsimp only [Pt.U, Pt.locs, Pt.cells, Pt.slots] at X768 l768 y768 z768 st768 hQ768
          subst l768 y768 z768
          rcases hQ768 with ⟨c773, c774, rfl, N775, k776⟩ | ⟨c777, rfl, N778, k779⟩ | ⟨c780, rfl, N781, k782⟩ | ⟨c783, rfl, N784, k785⟩
          · have N786 := Fr.app N767 N775
            obtain ⟨cq787, kq787, q787a, q787b, q787c⟩ := isOf hZ583 k776 f729
            obtain ⟨_, _, ⟨T787, L787, k787, n787⟩, -, X787, ⟨Lc787, hQ787, l787, y787, z787⟩, st787⟩ := X768.virtualBack hx (y := (⟨"com/example/typecheck/typecheck/model/QName", "equals", "(Ljava/lang/Object;)Z"⟩ : MethodName)) (z := (⟨"com/example/typecheck/typecheck/model/QName", "equals", "(Ljava/lang/Object;)Z"⟩ : MethodName)) ho583 (mvT hZ583 (own_w hw 73 rfl)) (mvT hZ583 (own_w hw 74 rfl)) (notFace_of_selects (args := #[]) (mvT hZ583 (own_w hw 76 rfl))) (mvT hZ583 (own_w hw 76 rfl)) (mvT hZ583 (own_w hw 75 rfl)) (by decide) (backOf (W := 0) (rm_qeq l Z a0 hw [] b680 (((31 : Int32) * (own_H (own_cs p3))) + (own_H (own_cs p2))) x44 x45 x46 (own_cs p3) x522 x523 x524 (own_cs p2) b621 (((31 : Int32) * (own_H (own_cs p1))) + (own_H (own_cs p2))) x2 x3 x4 (own_cs p1) x21 x22 x23 (own_cs p2) zc T710.heap n0 O741 f729 f732 f730 f731 f733 f734 f735 f750 f751 f736 f737 f738 f763 f764 (own_csok p3) (own_csok p2) f769 f770 f771 f772 f745 f746 f747 f748 f749 f758 f759 f760 f761 f762 (own_csok p1) (own_csok p2) (Ne.symm ne703) S_C hzc) hZ583 (own_w hw 77 rfl) (own_w hw 28 rfl) (by decide) (by decide)) q787a q787c (g := (mkF m 154 #[.val (.int p1), .val (.int p2), .val (.int p3), .val (.int p4), .val (.int p5), .val (.int p6), .val (.ref x2), .val (.ref x21), .val (.ref x44), .val (.ref x522), .val (.ref x551), .val (.ref x584), .val (.ref b621), .val (.ref b680), .val (.int (((p6.toUInt32 >>> ((2 : Int32) &&& 31).toUInt32).toInt32) &&& (3 : Int32))), .val (.int (1 : Int32))] [(.ref b621), (.ref b680)])) rfl (by rw [hml]; rfl) (Steps.refl _) (argsL := [(.ref b621)]) (rest := []) (lenOf pd_11 rfl) rfl (by show 2 * 0 + _ ≤ _; exact Nat.le_of_eq rfl) (hb hby at_154) (fun _ _ => ⟨rfl, k776, (by decide : 38 + 0 ≤ _), (by decide : 80 + 0 ≤ _)⟩)
            dsimp only [Pt.U, Pt.locs, Pt.cells, Pt.slots] at X787 l787 y787 z787 st787 hQ787
            subst l787 y787 z787
            rcases hQ787 with ⟨c788, c789, rfl, N790, k791⟩ | ⟨c792, rfl, N793, k794⟩ | ⟨c795, rfl, N796, k797⟩ | ⟨c798, rfl, N799, k800⟩
            · have N801 := Fr.app N786 N790
              have S802 : ∀ t, Steps p.tables e below (T787.setTop (mkF m 167 #[.val (.int p1), .val (.int p2), .val (.int p3), .val (.int p4), .val (.int p5), .val (.int p6), .val (.ref x2), .val (.ref x21), .val (.ref x44), .val (.ref x522), .val (.ref x551), .val (.ref x584), .val (.ref b621), .val (.ref b680), .val (.int (((p6.toUInt32 >>> ((2 : Int32) &&& 31).toUInt32).toInt32) &&& (3 : Int32))), .val (.int (1 : Int32))] [(.int (1 : Int32))])) t → Steps p.tables e below (s₁.setTop (mkF m 0 #[.val (.int p1), .val (.int p2), .val (.int p3), .val (.int p4), .val (.int p5), .val (.int p6), .unset, .unset, .unset, .unset, .unset, .unset, .unset, .unset, .unset, .unset] [])) t := by
                intro t kt
                refine S755 t ?_
                refine XS.ifNo X744.here hx rfl (hb hby at_118) rfl ((if0 _ _).trans (feq ((own_eq1 c756) : ¬ ((own_eqI (own_cs p1) (own_cs p3)) = (0 : Int32)))).1) ?_
                refine XS.aload X744.here hx rfl (hb hby at_121) rfl rfl ?_
                refine XS.aload X744.here hx rfl (hb hby at_123) rfl rfl ?_
                show Steps p.tables e below (T744.setTop (mkF m 125 #[.val (.int p1), .val (.int p2), .val (.int p3), .val (.int p4), .val (.int p5), .val (.int p6), .val (.ref x2), .val (.ref x21), .val (.ref x44), .val (.ref x522), .val (.ref x551), .val (.ref x584), .val (.ref b621), .val (.ref b680), .val (.int (((p6.toUInt32 >>> ((2 : Int32) &&& 31).toUInt32).toInt32) &&& (3 : Int32))), .unset] [(.ref x522), (.ref x21)])) _
                refine st757 _ ?_
                refine XS.ifNo X757.here hx rfl (hb hby at_128) rfl ((if0 _ _).trans (feq ((own_eq1 rfl) : ¬ ((own_eqI (own_cs p2) (own_cs p2)) = (0 : Int32)))).1) ?_
                refine XS.iconst X757.here hx rfl (hb hby at_131) ?_
                refine XS.goto X757.here hx rfl (pc0 := 132) (pc' := 136) rfl (hb hby at_132) (by decide) (by decide) ?_
                refine XS.istore X757.here hx rfl (hb hby at_136) rfl (l' := #[.val (.int p1), .val (.int p2), .val (.int p3), .val (.int p4), .val (.int p5), .val (.int p6), .val (.ref x2), .val (.ref x21), .val (.ref x44), .val (.ref x522), .val (.ref x551), .val (.ref x584), .val (.ref b621), .val (.ref b680), .val (.int (((p6.toUInt32 >>> ((2 : Int32) &&& 31).toUInt32).toInt32) &&& (3 : Int32))), .val (.int (1 : Int32))]) rfl ?_
                refine XS.aload X757.here hx rfl (hb hby at_138) rfl rfl ?_
                show Steps p.tables e below (T757.setTop (mkF m 140 #[.val (.int p1), .val (.int p2), .val (.int p3), .val (.int p4), .val (.int p5), .val (.int p6), .val (.ref x2), .val (.ref x21), .val (.ref x44), .val (.ref x522), .val (.ref x551), .val (.ref x584), .val (.ref b621), .val (.ref b680), .val (.int (((p6.toUInt32 >>> ((2 : Int32) &&& 31).toUInt32).toInt32) &&& (3 : Int32))), .val (.int (1 : Int32))] [(.ref b621)])) _
                refine XS.aload X757.here hx rfl (hb hby at_140) rfl rfl ?_
                show Steps p.tables e below (T757.setTop (mkF m 142 #[.val (.int p1), .val (.int p2), .val (.int p3), .val (.int p4), .val (.int p5), .val (.int p6), .val (.ref x2), .val (.ref x21), .val (.ref x44), .val (.ref x522), .val (.ref x551), .val (.ref x584), .val (.ref b621), .val (.ref b680), .val (.int (((p6.toUInt32 >>> ((2 : Int32) &&& 31).toUInt32).toInt32) &&& (3 : Int32))), .val (.int (1 : Int32))] [(.ref b680), (.ref b621)])) _
                refine st768.trans ?_
                refine XS.iload X768.here hx rfl (hb hby at_145) rfl ?_
                refine XS.icmpNo X768.here hx rfl (hb hby at_147) rfl (teq ((by decide) : (1 : Int32) = (1 : Int32))).2 ?_
                refine XS.aload X768.here hx rfl (hb hby at_150) rfl rfl ?_
                refine XS.aload X768.here hx rfl (hb hby at_152) rfl rfl ?_
                show Steps p.tables e below (T768.setTop (mkF m 154 #[.val (.int p1), .val (.int p2), .val (.int p3), .val (.int p4), .val (.int p5), .val (.int p6), .val (.ref x2), .val (.ref x21), .val (.ref x44), .val (.ref x522), .val (.ref x551), .val (.ref x584), .val (.ref b621), .val (.ref b680), .val (.int (((p6.toUInt32 >>> ((2 : Int32) &&& 31).toUInt32).toInt32) &&& (3 : Int32))), .val (.int (1 : Int32))] [(.ref b621), (.ref b680)])) _
                refine st787.trans ?_
                refine XS.iload X787.here hx rfl (hb hby at_157) rfl ?_
                refine XS.icmpNo X787.here hx rfl (hb hby at_159) rfl (teq ((by decide) : (1 : Int32) = (1 : Int32))).2 ?_
                refine XS.iconst X787.here hx rfl (hb hby at_162) ?_
                refine XS.goto X787.here hx rfl (pc0 := 163) (pc' := 167) rfl (hb hby at_163) (by decide) (by decide) ?_
                exact kt
              obtain ⟨fs, hr, hrun, hended, hRW⟩ := X787.leaveW hS583 (by rw [k791]; exact hk740) (v := some (.int (1 : Int32))) (fun h => by rw [Bd.returns] at h; cases h)
              refine ⟨_, _, pre0 _ (S802 _ ?_), hrun, hended, _, _, rfl, ?_, hRW.1, hRW.2.1, hRW.2.2.1, hRW.2.2.2.mono (by decide) (by decide)⟩
              · exact retN X787 hx (t := .boolean) Bd.returns (by simp) (hb hby at_167) hr
              · show Q_rm_law Z p1 p2 p3 p4 p5 p6 zc fm h0 n0 _ T787.heap _
                rw [k791]
                exact ⟨rfl, N801⟩
            · exact absurd ((Eq.symm (own_hq c756 rfl)) : (((31 : Int32) * (own_H (own_cs p3))) + (own_H (own_cs p2))) = (((31 : Int32) * (own_H (own_cs p1))) + (own_H (own_cs p2)))) c792
            · exact absurd (c773 : (own_cs p2) = (own_cs p2)) c795
            · exact absurd ((Eq.symm c756) : (own_cs p3) = (own_cs p1)) c798
          · exact absurd ((own_hq c756 rfl) : (((31 : Int32) * (own_H (own_cs p1))) + (own_H (own_cs p2))) = (((31 : Int32) * (own_H (own_cs p3))) + (own_H (own_cs p2)))) c777
          · exact absurd ((Eq.symm rfl) : (own_cs p2) = (own_cs p2)) c780
          · exact absurd (c756 : (own_cs p1) = (own_cs p3)) c783
        · have f804 := (Exa.keep (Exa.ext E680 f667) k728)
          have f805 := (Fld.keep (Fld.ext E680 f670) k728 (ninS ne703 (ninS (Ne.symm ne631) (ninS (Ne.symm ne635) nin0))))
          have f806 := (Fld.keep (Fld.ext E680 f668) k728 (ninS ne703 (ninS (Ne.symm ne631) (ninS (Ne.symm ne635) nin0))))
          have f807 := (Fld.keep (Fld.ext E680 f669) k728 (ninS ne703 (ninS (Ne.symm ne631) (ninS (Ne.symm ne635) nin0))))
          have f808 := (Exa.keep f716 k728)
          have f809 := (Fld.keep (Fld.ext E680 f675) k728 (ninS ne684 (ninS ne63 (ninS ne542 nin0))))
          have f810 := (Fld.keep (Fld.ext E680 f676) k728 (ninS ne684 (ninS ne63 (ninS ne542 nin0))))
          have f811 := (Exa.keep (Exa.ext E680 f685) k728)
          have f812 := (Arv.keep (Arv.ext (Arv.keep f662 k666 (ninS ne629 (ninS (own_exane f811 f745 (by decide)) (ninS (own_exane f811 f808 (by decide)) nin0)))) E680) k728 (ninS ne686 (ninS ne64 (ninS ne544 nin0))))
          have f813 := (Exa.keep f723 k728)
          have f814 := (Arv.keep f724 k728 (ninS ne694 (ninS (own_exane f813 f733 (by decide)) (ninS (own_exane f813 f736 (by decide)) nin0))))
          obtain ⟨cq803, kq803, q803a, q803b, q803c⟩ := isOf hZ583 k753 f804
          obtain ⟨_, _, ⟨T803, L803, k803, n803⟩, -, X803, ⟨Lc803, hQ803, l803, y803, z803⟩, st803⟩ := X744.virtualBack hx (y := (⟨"com/example/typecheck/typecheck/model/QName", "equals", "(Ljava/lang/Object;)Z"⟩ : MethodName)) (z := (⟨"com/example/typecheck/typecheck/model/QName", "equals", "(Ljava/lang/Object;)Z"⟩ : MethodName)) ho583 (mvT hZ583 (own_w hw 73 rfl)) (mvT hZ583 (own_w hw 74 rfl)) (notFace_of_selects (args := #[]) (mvT hZ583 (own_w hw 76 rfl))) (mvT hZ583 (own_w hw 76 rfl)) (mvT hZ583 (own_w hw 75 rfl)) (by decide) (backOf (W := 0) (rm_qeq l Z a0 hw [] b621 (((31 : Int32) * (own_H (own_cs p1))) + (own_H (own_cs p2))) x2 x3 x4 (own_cs p1) x21 x22 x23 (own_cs p2) b680 (((31 : Int32) * (own_H (own_cs p3))) + (own_H (own_cs p2))) x44 x45 x46 (own_cs p3) x522 x523 x524 (own_cs p2) zc T710.heap n0 O741 f804 f805 f806 f807 f745 f746 f747 f748 f749 f808 f809 f810 f811 f812 (own_csok p1) (own_csok p2) f729 f732 f730 f731 f733 f734 f735 f750 f751 f736 f737 f738 f813 f814 (own_csok p3) (own_csok p2) ne703 S_C hzc) hZ583 (own_w hw 77 rfl) (own_w hw 28 rfl) (by decide) (by decide)) q803a q803c (g := (mkF m 142 #[.val (.int p1), .val (.int p2), .val (.int p3), .val (.int p4), .val (.int p5), .val (.int p6), .val (.ref x2), .val (.ref x21), .val (.ref x44), .val (.ref x522), .val (.ref x551), .val (.ref x584), .val (.ref b621), .val (.ref b680), .val (.int (((p6.toUInt32 >>> ((2 : Int32) &&& 31).toUInt32).toInt32) &&& (3 : Int32))), .val (.int (0 : Int32))] [(.ref b680), (.ref b621)])) rfl (by rw [hml]; rfl) (Steps.refl _) (argsL := [(.ref b680)]) (rest := []) (lenOf pd_11 rfl) rfl (by show 2 * 0 + _ ≤ _; exact Nat.le_of_eq rfl) (hb hby at_142) (fun _ _ => ⟨rfl, k753, (by decide : 38 + 0 ≤ _), (by decide : 80 + 0 ≤ _)⟩)
          dsimp only [Pt.U, Pt.locs, Pt.cells, Pt.slots] at X803 l803 y803 z803 st803 hQ803
          subst l803 y803 z803
          rcases hQ803 with ⟨c815, c816, rfl, N817, k818⟩ | ⟨c819, rfl, N820, k821⟩ | ⟨c822, rfl, N823, k824⟩ | ⟨c825, rfl, N826, k827⟩
          · exact absurd c816 (c756 : ¬ ((own_cs p1) = (own_cs p3)))
          · have N828 := Fr.app N754 N820
            obtain ⟨cq829, kq829, q829a, q829b, q829c⟩ := isOf hZ583 k821 f729
            obtain ⟨_, _, ⟨T829, L829, k829, n829⟩, -, X829, ⟨Lc829, hQ829, l829, y829, z829⟩, st829⟩ := X803.virtualBack hx (y := (⟨"com/example/typecheck/typecheck/model/QName", "equals", "(Ljava/lang/Object;)Z"⟩ : MethodName)) (z := (⟨"com/example/typecheck/typecheck/model/QName", "equals", "(Ljava/lang/Object;)Z"⟩ : MethodName)) ho583 (mvT hZ583 (own_w hw 73 rfl)) (mvT hZ583 (own_w hw 74 rfl)) (notFace_of_selects (args := #[]) (mvT hZ583 (own_w hw 76 rfl))) (mvT hZ583 (own_w hw 76 rfl)) (mvT hZ583 (own_w hw 75 rfl)) (by decide) (backOf (W := 0) (rm_qeq l Z a0 hw [] b680 (((31 : Int32) * (own_H (own_cs p3))) + (own_H (own_cs p2))) x44 x45 x46 (own_cs p3) x522 x523 x524 (own_cs p2) b621 (((31 : Int32) * (own_H (own_cs p1))) + (own_H (own_cs p2))) x2 x3 x4 (own_cs p1) x21 x22 x23 (own_cs p2) zc T710.heap n0 O741 f729 f732 f730 f731 f733 f734 f735 f750 f751 f736 f737 f738 f813 f814 (own_csok p3) (own_csok p2) f804 f805 f806 f807 f745 f746 f747 f748 f749 f808 f809 f810 f811 f812 (own_csok p1) (own_csok p2) (Ne.symm ne703) S_C hzc) hZ583 (own_w hw 77 rfl) (own_w hw 28 rfl) (by decide) (by decide)) q829a q829c (g := (mkF m 154 #[.val (.int p1), .val (.int p2), .val (.int p3), .val (.int p4), .val (.int p5), .val (.int p6), .val (.ref x2), .val (.ref x21), .val (.ref x44), .val (.ref x522), .val (.ref x551), .val (.ref x584), .val (.ref b621), .val (.ref b680), .val (.int (((p6.toUInt32 >>> ((2 : Int32) &&& 31).toUInt32).toInt32) &&& (3 : Int32))), .val (.int (0 : Int32))] [(.ref b621), (.ref b680)])) rfl (by rw [hml]; rfl) (Steps.refl _) (argsL := [(.ref b621)]) (rest := []) (lenOf pd_11 rfl) rfl (by show 2 * 0 + _ ≤ _; exact Nat.le_of_eq rfl) (hb hby at_154) (fun _ _ => ⟨rfl, k821, (by decide : 38 + 0 ≤ _), (by decide : 80 + 0 ≤ _)⟩)
            dsimp only [Pt.U, Pt.locs, Pt.cells, Pt.slots] at X829 l829 y829 z829 st829 hQ829
            subst l829 y829 z829
            rcases hQ829 with ⟨c830, c831, rfl, N832, k833⟩ | ⟨c834, rfl, N835, k836⟩ | ⟨c837, rfl, N838, k839⟩ | ⟨c840, rfl, N841, k842⟩
            · exact absurd c831 ((fun q => c756 q.symm) : ¬ ((own_cs p3) = (own_cs p1)))
            · have N843 := Fr.app N828 N835
              have S844 : ∀ t, Steps p.tables e below (T829.setTop (mkF m 167 #[.val (.int p1), .val (.int p2), .val (.int p3), .val (.int p4), .val (.int p5), .val (.int p6), .val (.ref x2), .val (.ref x21), .val (.ref x44), .val (.ref x522), .val (.ref x551), .val (.ref x584), .val (.ref b621), .val (.ref b680), .val (.int (((p6.toUInt32 >>> ((2 : Int32) &&& 31).toUInt32).toInt32) &&& (3 : Int32))), .val (.int (0 : Int32))] [(.int (1 : Int32))])) t → Steps p.tables e below (s₁.setTop (mkF m 0 #[.val (.int p1), .val (.int p2), .val (.int p3), .val (.int p4), .val (.int p5), .val (.int p6), .unset, .unset, .unset, .unset, .unset, .unset, .unset, .unset, .unset, .unset] [])) t := by
                intro t kt
                refine S755 t ?_
                refine XS.ifYes X744.here hx rfl (pc0 := 118) (pc' := 135) rfl (hb hby at_118) rfl ((if0 _ _).trans (teq ((own_eq0 c756) : (own_eqI (own_cs p1) (own_cs p3)) = (0 : Int32))).1) (by decide) (by decide) ?_
                refine XS.iconst X744.here hx rfl (hb hby at_135) ?_
                refine XS.istore X744.here hx rfl (hb hby at_136) rfl (l' := #[.val (.int p1), .val (.int p2), .val (.int p3), .val (.int p4), .val (.int p5), .val (.int p6), .val (.ref x2), .val (.ref x21), .val (.ref x44), .val (.ref x522), .val (.ref x551), .val (.ref x584), .val (.ref b621), .val (.ref b680), .val (.int (((p6.toUInt32 >>> ((2 : Int32) &&& 31).toUInt32).toInt32) &&& (3 : Int32))), .val (.int (0 : Int32))]) rfl ?_
                refine XS.aload X744.here hx rfl (hb hby at_138) rfl rfl ?_
                refine XS.aload X744.here hx rfl (hb hby at_140) rfl rfl ?_
                show Steps p.tables e below (T744.setTop (mkF m 142 #[.val (.int p1), .val (.int p2), .val (.int p3), .val (.int p4), .val (.int p5), .val (.int p6), .val (.ref x2), .val (.ref x21), .val (.ref x44), .val (.ref x522), .val (.ref x551), .val (.ref x584), .val (.ref b621), .val (.ref b680), .val (.int (((p6.toUInt32 >>> ((2 : Int32) &&& 31).toUInt32).toInt32) &&& (3 : Int32))), .val (.int (0 : Int32))] [(.ref b680), (.ref b621)])) _
                refine st803.trans ?_
                refine XS.iload X803.here hx rfl (hb hby at_145) rfl ?_
                refine XS.icmpNo X803.here hx rfl (hb hby at_147) rfl (teq ((by decide) : (0 : Int32) = (0 : Int32))).2 ?_
                refine XS.aload X803.here hx rfl (hb hby at_150) rfl rfl ?_
                refine XS.aload X803.here hx rfl (hb hby at_152) rfl rfl ?_
                show Steps p.tables e below (T803.setTop (mkF m 154 #[.val (.int p1), .val (.int p2), .val (.int p3), .val (.int p4), .val (.int p5), .val (.int p6), .val (.ref x2), .val (.ref x21), .val (.ref x44), .val (.ref x522), .val (.ref x551), .val (.ref x584), .val (.ref b621), .val (.ref b680), .val (.int (((p6.toUInt32 >>> ((2 : Int32) &&& 31).toUInt32).toInt32) &&& (3 : Int32))), .val (.int (0 : Int32))] [(.ref b621), (.ref b680)])) _
                refine st829.trans ?_
                refine XS.iload X829.here hx rfl (hb hby at_157) rfl ?_
                refine XS.icmpNo X829.here hx rfl (hb hby at_159) rfl (teq ((by decide) : (0 : Int32) = (0 : Int32))).2 ?_
                refine XS.iconst X829.here hx rfl (hb hby at_162) ?_
                refine XS.goto X829.here hx rfl (pc0 := 163) (pc' := 167) rfl (hb hby at_163) (by decide) (by decide) ?_
                exact kt
              obtain ⟨fs, hr, hrun, hended, hRW⟩ := X829.leaveW hS583 (by rw [k836]; exact hk740) (v := some (.int (1 : Int32))) (fun h => by rw [Bd.returns] at h; cases h)
              refine ⟨_, _, pre0 _ (S844 _ ?_), hrun, hended, _, _, rfl, ?_, hRW.1, hRW.2.1, hRW.2.2.1, hRW.2.2.2.mono (by decide) (by decide)⟩
              · exact retN X829 hx (t := .boolean) Bd.returns (by simp) (hb hby at_167) hr
              · show Q_rm_law Z p1 p2 p3 p4 p5 p6 zc fm h0 n0 _ T829.heap _
                rw [k836]
                exact ⟨rfl, N843⟩
            · exact absurd (rfl : (own_cs p2) = (own_cs p2)) c837
            · have N845 := Fr.app N828 N841
              have S846 : ∀ t, Steps p.tables e below (T829.setTop (mkF m 167 #[.val (.int p1), .val (.int p2), .val (.int p3), .val (.int p4), .val (.int p5), .val (.int p6), .val (.ref x2), .val (.ref x21), .val (.ref x44), .val (.ref x522), .val (.ref x551), .val (.ref x584), .val (.ref b621), .val (.ref b680), .val (.int (((p6.toUInt32 >>> ((2 : Int32) &&& 31).toUInt32).toInt32) &&& (3 : Int32))), .val (.int (0 : Int32))] [(.int (1 : Int32))])) t → Steps p.tables e below (s₁.setTop (mkF m 0 #[.val (.int p1), .val (.int p2), .val (.int p3), .val (.int p4), .val (.int p5), .val (.int p6), .unset, .unset, .unset, .unset, .unset, .unset, .unset, .unset, .unset, .unset] [])) t := by
                intro t kt
                refine S755 t ?_
                refine XS.ifYes X744.here hx rfl (pc0 := 118) (pc' := 135) rfl (hb hby at_118) rfl ((if0 _ _).trans (teq ((own_eq0 c756) : (own_eqI (own_cs p1) (own_cs p3)) = (0 : Int32))).1) (by decide) (by decide) ?_
                refine XS.iconst X744.here hx rfl (hb hby at_135) ?_
                refine XS.istore X744.here hx rfl (hb hby at_136) rfl (l' := #[.val (.int p1), .val (.int p2), .val (.int p3), .val (.int p4), .val (.int p5), .val (.int p6), .val (.ref x2), .val (.ref x21), .val (.ref x44), .val (.ref x522), .val (.ref x551), .val (.ref x584), .val (.ref b621), .val (.ref b680), .val (.int (((p6.toUInt32 >>> ((2 : Int32) &&& 31).toUInt32).toInt32) &&& (3 : Int32))), .val (.int (0 : Int32))]) rfl ?_
                refine XS.aload X744.here hx rfl (hb hby at_138) rfl rfl ?_
                refine XS.aload X744.here hx rfl (hb hby at_140) rfl rfl ?_
                show Steps p.tables e below (T744.setTop (mkF m 142 #[.val (.int p1), .val (.int p2), .val (.int p3), .val (.int p4), .val (.int p5), .val (.int p6), .val (.ref x2), .val (.ref x21), .val (.ref x44), .val (.ref x522), .val (.ref x551), .val (.ref x584), .val (.ref b621), .val (.ref b680), .val (.int (((p6.toUInt32 >>> ((2 : Int32) &&& 31).toUInt32).toInt32) &&& (3 : Int32))), .val (.int (0 : Int32))] [(.ref b680), (.ref b621)])) _
                refine st803.trans ?_
                refine XS.iload X803.here hx rfl (hb hby at_145) rfl ?_
                refine XS.icmpNo X803.here hx rfl (hb hby at_147) rfl (teq ((by decide) : (0 : Int32) = (0 : Int32))).2 ?_
                refine XS.aload X803.here hx rfl (hb hby at_150) rfl rfl ?_
                refine XS.aload X803.here hx rfl (hb hby at_152) rfl rfl ?_
                show Steps p.tables e below (T803.setTop (mkF m 154 #[.val (.int p1), .val (.int p2), .val (.int p3), .val (.int p4), .val (.int p5), .val (.int p6), .val (.ref x2), .val (.ref x21), .val (.ref x44), .val (.ref x522), .val (.ref x551), .val (.ref x584), .val (.ref b621), .val (.ref b680), .val (.int (((p6.toUInt32 >>> ((2 : Int32) &&& 31).toUInt32).toInt32) &&& (3 : Int32))), .val (.int (0 : Int32))] [(.ref b621), (.ref b680)])) _
                refine st829.trans ?_
                refine XS.iload X829.here hx rfl (hb hby at_157) rfl ?_
                refine XS.icmpNo X829.here hx rfl (hb hby at_159) rfl (teq ((by decide) : (0 : Int32) = (0 : Int32))).2 ?_
                refine XS.iconst X829.here hx rfl (hb hby at_162) ?_
                refine XS.goto X829.here hx rfl (pc0 := 163) (pc' := 167) rfl (hb hby at_163) (by decide) (by decide) ?_
                exact kt
              obtain ⟨fs, hr, hrun, hended, hRW⟩ := X829.leaveW hS583 (by rw [k842]; exact hk740) (v := some (.int (1 : Int32))) (fun h => by rw [Bd.returns] at h; cases h)
              refine ⟨_, _, pre0 _ (S846 _ ?_), hrun, hended, _, _, rfl, ?_, hRW.1, hRW.2.1, hRW.2.2.1, hRW.2.2.2.mono (by decide) (by decide)⟩
              · exact retN X829 hx (t := .boolean) Bd.returns (by simp) (hb hby at_167) hr
              · show Q_rm_law Z p1 p2 p3 p4 p5 p6 zc fm h0 n0 _ T829.heap _
                rw [k842]
                exact ⟨rfl, N845⟩
          · exact absurd (rfl : (own_cs p2) = (own_cs p2)) c822
          · have N847 := Fr.app N754 N826
            obtain ⟨cq848, kq848, q848a, q848b, q848c⟩ := isOf hZ583 k827 f729
            obtain ⟨_, _, ⟨T848, L848, k848, n848⟩, -, X848, ⟨Lc848, hQ848, l848, y848, z848⟩, st848⟩ := X803.virtualBack hx (y := (⟨"com/example/typecheck/typecheck/model/QName", "equals", "(Ljava/lang/Object;)Z"⟩ : MethodName)) (z := (⟨"com/example/typecheck/typecheck/model/QName", "equals", "(Ljava/lang/Object;)Z"⟩ : MethodName)) ho583 (mvT hZ583 (own_w hw 73 rfl)) (mvT hZ583 (own_w hw 74 rfl)) (notFace_of_selects (args := #[]) (mvT hZ583 (own_w hw 76 rfl))) (mvT hZ583 (own_w hw 76 rfl)) (mvT hZ583 (own_w hw 75 rfl)) (by decide) (backOf (W := 0) (rm_qeq l Z a0 hw [] b680 (((31 : Int32) * (own_H (own_cs p3))) + (own_H (own_cs p2))) x44 x45 x46 (own_cs p3) x522 x523 x524 (own_cs p2) b621 (((31 : Int32) * (own_H (own_cs p1))) + (own_H (own_cs p2))) x2 x3 x4 (own_cs p1) x21 x22 x23 (own_cs p2) zc T710.heap n0 O741 f729 f732 f730 f731 f733 f734 f735 f750 f751 f736 f737 f738 f813 f814 (own_csok p3) (own_csok p2) f804 f805 f806 f807 f745 f746 f747 f748 f749 f808 f809 f810 f811 f812 (own_csok p1) (own_csok p2) (Ne.symm ne703) S_C hzc) hZ583 (own_w hw 77 rfl) (own_w hw 28 rfl) (by decide) (by decide)) q848a q848c (g := (mkF m 154 #[.val (.int p1), .val (.int p2), .val (.int p3), .val (.int p4), .val (.int p5), .val (.int p6), .val (.ref x2), .val (.ref x21), .val (.ref x44), .val (.ref x522), .val (.ref x551), .val (.ref x584), .val (.ref b621), .val (.ref b680), .val (.int (((p6.toUInt32 >>> ((2 : Int32) &&& 31).toUInt32).toInt32) &&& (3 : Int32))), .val (.int (0 : Int32))] [(.ref b621), (.ref b680)])) rfl (by rw [hml]; rfl) (Steps.refl _) (argsL := [(.ref b621)]) (rest := []) (lenOf pd_11 rfl) rfl (by show 2 * 0 + _ ≤ _; exact Nat.le_of_eq rfl) (hb hby at_154) (fun _ _ => ⟨rfl, k827, (by decide : 38 + 0 ≤ _), (by decide : 80 + 0 ≤ _)⟩)
            dsimp only [Pt.U, Pt.locs, Pt.cells, Pt.slots] at X848 l848 y848 z848 st848 hQ848
            subst l848 y848 z848
            rcases hQ848 with ⟨c849, c850, rfl, N851, k852⟩ | ⟨c853, rfl, N854, k855⟩ | ⟨c856, rfl, N857, k858⟩ | ⟨c859, rfl, N860, k861⟩
            · exact absurd c850 ((fun q => c756 q.symm) : ¬ ((own_cs p3) = (own_cs p1)))
            · have N862 := Fr.app N847 N854
              have S863 : ∀ t, Steps p.tables e below (T848.setTop (mkF m 167 #[.val (.int p1), .val (.int p2), .val (.int p3), .val (.int p4), .val (.int p5), .val (.int p6), .val (.ref x2), .val (.ref x21), .val (.ref x44), .val (.ref x522), .val (.ref x551), .val (.ref x584), .val (.ref b621), .val (.ref b680), .val (.int (((p6.toUInt32 >>> ((2 : Int32) &&& 31).toUInt32).toInt32) &&& (3 : Int32))), .val (.int (0 : Int32))] [(.int (1 : Int32))])) t → Steps p.tables e below (s₁.setTop (mkF m 0 #[.val (.int p1), .val (.int p2), .val (.int p3), .val (.int p4), .val (.int p5), .val (.int p6), .unset, .unset, .unset, .unset, .unset, .unset, .unset, .unset, .unset, .unset] [])) t := by
                intro t kt
                refine S755 t ?_
                refine XS.ifYes X744.here hx rfl (pc0 := 118) (pc' := 135) rfl (hb hby at_118) rfl ((if0 _ _).trans (teq ((own_eq0 c756) : (own_eqI (own_cs p1) (own_cs p3)) = (0 : Int32))).1) (by decide) (by decide) ?_
                refine XS.iconst X744.here hx rfl (hb hby at_135) ?_
                refine XS.istore X744.here hx rfl (hb hby at_136) rfl (l' := #[.val (.int p1), .val (.int p2), .val (.int p3), .val (.int p4), .val (.int p5), .val (.int p6), .val (.ref x2), .val (.ref x21), .val (.ref x44), .val (.ref x522), .val (.ref x551), .val (.ref x584), .val (.ref b621), .val (.ref b680), .val (.int (((p6.toUInt32 >>> ((2 : Int32) &&& 31).toUInt32).toInt32) &&& (3 : Int32))), .val (.int (0 : Int32))]) rfl ?_
                refine XS.aload X744.here hx rfl (hb hby at_138) rfl rfl ?_
                refine XS.aload X744.here hx rfl (hb hby at_140) rfl rfl ?_
                show Steps p.tables e below (T744.setTop (mkF m 142 #[.val (.int p1), .val (.int p2), .val (.int p3), .val (.int p4), .val (.int p5), .val (.int p6), .val (.ref x2), .val (.ref x21), .val (.ref x44), .val (.ref x522), .val (.ref x551), .val (.ref x584), .val (.ref b621), .val (.ref b680), .val (.int (((p6.toUInt32 >>> ((2 : Int32) &&& 31).toUInt32).toInt32) &&& (3 : Int32))), .val (.int (0 : Int32))] [(.ref b680), (.ref b621)])) _
                refine st803.trans ?_
                refine XS.iload X803.here hx rfl (hb hby at_145) rfl ?_
                refine XS.icmpNo X803.here hx rfl (hb hby at_147) rfl (teq ((by decide) : (0 : Int32) = (0 : Int32))).2 ?_
                refine XS.aload X803.here hx rfl (hb hby at_150) rfl rfl ?_
                refine XS.aload X803.here hx rfl (hb hby at_152) rfl rfl ?_
                show Steps p.tables e below (T803.setTop (mkF m 154 #[.val (.int p1), .val (.int p2), .val (.int p3), .val (.int p4), .val (.int p5), .val (.int p6), .val (.ref x2), .val (.ref x21), .val (.ref x44), .val (.ref x522), .val (.ref x551), .val (.ref x584), .val (.ref b621), .val (.ref b680), .val (.int (((p6.toUInt32 >>> ((2 : Int32) &&& 31).toUInt32).toInt32) &&& (3 : Int32))), .val (.int (0 : Int32))] [(.ref b621), (.ref b680)])) _
                refine st848.trans ?_
                refine XS.iload X848.here hx rfl (hb hby at_157) rfl ?_
                refine XS.icmpNo X848.here hx rfl (hb hby at_159) rfl (teq ((by decide) : (0 : Int32) = (0 : Int32))).2 ?_
                refine XS.iconst X848.here hx rfl (hb hby at_162) ?_
                refine XS.goto X848.here hx rfl (pc0 := 163) (pc' := 167) rfl (hb hby at_163) (by decide) (by decide) ?_
                exact kt
              obtain ⟨fs, hr, hrun, hended, hRW⟩ := X848.leaveW hS583 (by rw [k855]; exact hk740) (v := some (.int (1 : Int32))) (fun h => by rw [Bd.returns] at h; cases h)
              refine ⟨_, _, pre0 _ (S863 _ ?_), hrun, hended, _, _, rfl, ?_, hRW.1, hRW.2.1, hRW.2.2.1, hRW.2.2.2.mono (by decide) (by decide)⟩
              · exact retN X848 hx (t := .boolean) Bd.returns (by simp) (hb hby at_167) hr
              · show Q_rm_law Z p1 p2 p3 p4 p5 p6 zc fm h0 n0 _ T848.heap _
                rw [k855]
                exact ⟨rfl, N862⟩
            · exact absurd (rfl : (own_cs p2) = (own_cs p2)) c856
            · have N864 := Fr.app N847 N860
              have S865 : ∀ t, Steps p.tables e below (T848.setTop (mkF m 167 #[.val (.int p1), .val (.int p2), .val (.int p3), .val (.int p4), .val (.int p5), .val (.int p6), .val (.ref x2), .val (.ref x21), .val (.ref x44), .val (.ref x522), .val (.ref x551), .val (.ref x584), .val (.ref b621), .val (.ref b680), .val (.int (((p6.toUInt32 >>> ((2 : Int32) &&& 31).toUInt32).toInt32) &&& (3 : Int32))), .val (.int (0 : Int32))] [(.int (1 : Int32))])) t → Steps p.tables e below (s₁.setTop (mkF m 0 #[.val (.int p1), .val (.int p2), .val (.int p3), .val (.int p4), .val (.int p5), .val (.int p6), .unset, .unset, .unset, .unset, .unset, .unset, .unset, .unset, .unset, .unset] [])) t := by
                intro t kt
                refine S755 t ?_
                refine XS.ifYes X744.here hx rfl (pc0 := 118) (pc' := 135) rfl (hb hby at_118) rfl ((if0 _ _).trans (teq ((own_eq0 c756) : (own_eqI (own_cs p1) (own_cs p3)) = (0 : Int32))).1) (by decide) (by decide) ?_
                refine XS.iconst X744.here hx rfl (hb hby at_135) ?_
                refine XS.istore X744.here hx rfl (hb hby at_136) rfl (l' := #[.val (.int p1), .val (.int p2), .val (.int p3), .val (.int p4), .val (.int p5), .val (.int p6), .val (.ref x2), .val (.ref x21), .val (.ref x44), .val (.ref x522), .val (.ref x551), .val (.ref x584), .val (.ref b621), .val (.ref b680), .val (.int (((p6.toUInt32 >>> ((2 : Int32) &&& 31).toUInt32).toInt32) &&& (3 : Int32))), .val (.int (0 : Int32))]) rfl ?_
                refine XS.aload X744.here hx rfl (hb hby at_138) rfl rfl ?_
                refine XS.aload X744.here hx rfl (hb hby at_140) rfl rfl ?_
                show Steps p.tables e below (T744.setTop (mkF m 142 #[.val (.int p1), .val (.int p2), .val (.int p3), .val (.int p4), .val (.int p5), .val (.int p6), .val (.ref x2), .val (.ref x21), .val (.ref x44), .val (.ref x522), .val (.ref x551), .val (.ref x584), .val (.ref b621), .val (.ref b680), .val (.int (((p6.toUInt32 >>> ((2 : Int32) &&& 31).toUInt32).toInt32) &&& (3 : Int32))), .val (.int (0 : Int32))] [(.ref b680), (.ref b621)])) _
                refine st803.trans ?_
                refine XS.iload X803.here hx rfl (hb hby at_145) rfl ?_
                refine XS.icmpNo X803.here hx rfl (hb hby at_147) rfl (teq ((by decide) : (0 : Int32) = (0 : Int32))).2 ?_
                refine XS.aload X803.here hx rfl (hb hby at_150) rfl rfl ?_
                refine XS.aload X803.here hx rfl (hb hby at_152) rfl rfl ?_
                show Steps p.tables e below (T803.setTop (mkF m 154 #[.val (.int p1), .val (.int p2), .val (.int p3), .val (.int p4), .val (.int p5), .val (.int p6), .val (.ref x2), .val (.ref x21), .val (.ref x44), .val (.ref x522), .val (.ref x551), .val (.ref x584), .val (.ref b621), .val (.ref b680), .val (.int (((p6.toUInt32 >>> ((2 : Int32) &&& 31).toUInt32).toInt32) &&& (3 : Int32))), .val (.int (0 : Int32))] [(.ref b621), (.ref b680)])) _
                refine st848.trans ?_
                refine XS.iload X848.here hx rfl (hb hby at_157) rfl ?_
                refine XS.icmpNo X848.here hx rfl (hb hby at_159) rfl (teq ((by decide) : (0 : Int32) = (0 : Int32))).2 ?_
                refine XS.iconst X848.here hx rfl (hb hby at_162) ?_
                refine XS.goto X848.here hx rfl (pc0 := 163) (pc' := 167) rfl (hb hby at_163) (by decide) (by decide) ?_
                exact kt
              obtain ⟨fs, hr, hrun, hended, hRW⟩ := X848.leaveW hS583 (by rw [k861]; exact hk740) (v := some (.int (1 : Int32))) (fun h => by rw [Bd.returns] at h; cases h)
              refine ⟨_, _, pre0 _ (S865 _ ?_), hrun, hended, _, _, rfl, ?_, hRW.1, hRW.2.1, hRW.2.2.1, hRW.2.2.2.mono (by decide) (by decide)⟩
              · exact retN X848 hx (t := .boolean) Bd.returns (by simp) (hb hby at_167) hr
              · show Q_rm_law Z p1 p2 p3 p4 p5 p6 zc fm h0 n0 _ T848.heap _
                rw [k861]
                exact ⟨rfl, N864⟩
      · have S866 : ∀ t, Steps p.tables e below (T710.setTop (mkF m 171 #[.val (.int p1), .val (.int p2), .val (.int p3), .val (.int p4), .val (.int p5), .val (.int p6), .val (.ref x2), .val (.ref x21), .val (.ref x44), .val (.ref x522), .val (.ref x551), .val (.ref x584), .val (.ref b621), .val (.ref b680), .val (.int (((p6.toUInt32 >>> ((2 : Int32) &&& 31).toUInt32).toInt32) &&& (3 : Int32))), .unset] [(.int (1 : Int32)), (.int (((p6.toUInt32 >>> ((2 : Int32) &&& 31).toUInt32).toInt32) &&& (3 : Int32)))])) t → Steps p.tables e below (s₁.setTop (mkF m 0 #[.val (.int p1), .val (.int p2), .val (.int p3), .val (.int p4), .val (.int p5), .val (.int p6), .unset, .unset, .unset, .unset, .unset, .unset, .unset, .unset, .unset, .unset] [])) t := by
          intro t kt
          refine S742 t ?_
          refine XS.ifYes X710.here hx rfl (pc0 := 108) (pc' := 168) rfl (hb hby at_108) rfl ((if0 _ _).trans (feq (c743 : ¬ ((((p6.toUInt32 >>> ((2 : Int32) &&& 31).toUInt32).toInt32) &&& (3 : Int32)) = (0 : Int32)))).2) (by decide) (by decide) ?_
          refine XS.iload X710.here hx rfl (hb hby at_168) rfl ?_
          refine XS.iconst X710.here hx rfl (hb hby at_170) ?_
          exact kt
        rcases Decidable.em ((((p6.toUInt32 >>> ((2 : Int32) &&& 31).toUInt32).toInt32) &&& (3 : Int32)) = (1 : Int32)) with c867 | c867
        · have f869 := (Exa.keep (Exa.ext E680 f667) k728)
          obtain ⟨cq868, kq868, q868a, q868b, q868c⟩ := isOf hZ583 rfl f869
          obtain ⟨_, _, ⟨T868, L868, k868, n868⟩, -, X868, ⟨Lc868, hQ868, l868, y868, z868⟩, st868⟩ := X710.virtualBack hx (y := (⟨"com/example/typecheck/typecheck/model/QName", "equals", "(Ljava/lang/Object;)Z"⟩ : MethodName)) (z := (⟨"com/example/typecheck/typecheck/model/QName", "equals", "(Ljava/lang/Object;)Z"⟩ : MethodName)) ho583 (mvT hZ583 (own_w hw 73 rfl)) (mvT hZ583 (own_w hw 74 rfl)) (notFace_of_selects (args := #[]) (mvT hZ583 (own_w hw 76 rfl))) (mvT hZ583 (own_w hw 76 rfl)) (mvT hZ583 (own_w hw 75 rfl)) (by decide) (backOf (W := 0) (rm_qeqs l Z a0 hw [] b621 T710.heap n0 O741 ) hZ583 (own_w hw 77 rfl) (own_w hw 28 rfl) (by decide) (by decide)) q868a q868c (g := (mkF m 178 #[.val (.int p1), .val (.int p2), .val (.int p3), .val (.int p4), .val (.int p5), .val (.int p6), .val (.ref x2), .val (.ref x21), .val (.ref x44), .val (.ref x522), .val (.ref x551), .val (.ref x584), .val (.ref b621), .val (.ref b680), .val (.int (((p6.toUInt32 >>> ((2 : Int32) &&& 31).toUInt32).toInt32) &&& (3 : Int32))), .unset] [(.ref b621), (.ref b621)])) rfl (by rw [hml]; rfl) (Steps.refl _) (argsL := [(.ref b621)]) (rest := []) (lenOf pd_11 rfl) rfl (by show 2 * 0 + _ ≤ _; exact Nat.le_of_eq rfl) (hb hby at_178) (fun _ _ => ⟨rfl, rfl, (by decide : 38 + 0 ≤ _), (by decide : 80 + 0 ≤ _)⟩)
          dsimp only [Pt.U, Pt.locs, Pt.cells, Pt.slots] at X868 l868 y868 z868 st868 hQ868
          subst l868 y868 z868
          obtain ⟨rfl, N870, k871⟩ := hQ868
          have N872 := Fr.app N739 N870
          have S873 : ∀ t, Steps p.tables e below (T868.setTop (mkF m 181 #[.val (.int p1), .val (.int p2), .val (.int p3), .val (.int p4), .val (.int p5), .val (.int p6), .val (.ref x2), .val (.ref x21), .val (.ref x44), .val (.ref x522), .val (.ref x551), .val (.ref x584), .val (.ref b621), .val (.ref b680), .val (.int (((p6.toUInt32 >>> ((2 : Int32) &&& 31).toUInt32).toInt32) &&& (3 : Int32))), .unset] [(.int (1 : Int32))])) t → Steps p.tables e below (s₁.setTop (mkF m 0 #[.val (.int p1), .val (.int p2), .val (.int p3), .val (.int p4), .val (.int p5), .val (.int p6), .unset, .unset, .unset, .unset, .unset, .unset, .unset, .unset, .unset, .unset] [])) t := by
            intro t kt
            refine S866 t ?_
            refine XS.icmpNo X710.here hx rfl (hb hby at_171) rfl (teq (c867 : (((p6.toUInt32 >>> ((2 : Int32) &&& 31).toUInt32).toInt32) &&& (3 : Int32)) = (1 : Int32))).2 ?_
            refine XS.aload X710.here hx rfl (hb hby at_174) rfl rfl ?_
            refine XS.aload X710.here hx rfl (hb hby at_176) rfl rfl ?_
            show Steps p.tables e below (T710.setTop (mkF m 178 #[.val (.int p1), .val (.int p2), .val (.int p3), .val (.int p4), .val (.int p5), .val (.int p6), .val (.ref x2), .val (.ref x21), .val (.ref x44), .val (.ref x522), .val (.ref x551), .val (.ref x584), .val (.ref b621), .val (.ref b680), .val (.int (((p6.toUInt32 >>> ((2 : Int32) &&& 31).toUInt32).toInt32) &&& (3 : Int32))), .unset] [(.ref b621), (.ref b621)])) _
            refine st868.trans ?_
            exact kt
          obtain ⟨fs, hr, hrun, hended, hRW⟩ := X868.leaveW hS583 (by rw [k871]; exact hk740) (v := some (.int (1 : Int32))) (fun h => by rw [Bd.returns] at h; cases h)
          refine ⟨_, _, pre0 _ (S873 _ ?_), hrun, hended, _, _, rfl, ?_, hRW.1, hRW.2.1, hRW.2.2.1, hRW.2.2.2.mono (by decide) (by decide)⟩
          · exact retN X868 hx (t := .boolean) Bd.returns (by simp) (hb hby at_181) hr
          · show Q_rm_law Z p1 p2 p3 p4 p5 p6 zc fm h0 n0 _ T868.heap _
            rw [k871]
            exact ⟨rfl, N872⟩
        · have S874 : ∀ t, Steps p.tables e below (T710.setTop (mkF m 185 #[.val (.int p1), .val (.int p2), .val (.int p3), .val (.int p4), .val (.int p5), .val (.int p6), .val (.ref x2), .val (.ref x21), .val (.ref x44), .val (.ref x522), .val (.ref x551), .val (.ref x584), .val (.ref b621), .val (.ref b680), .val (.int (((p6.toUInt32 >>> ((2 : Int32) &&& 31).toUInt32).toInt32) &&& (3 : Int32))), .unset] [(.int (2 : Int32)), (.int (((p6.toUInt32 >>> ((2 : Int32) &&& 31).toUInt32).toInt32) &&& (3 : Int32)))])) t → Steps p.tables e below (s₁.setTop (mkF m 0 #[.val (.int p1), .val (.int p2), .val (.int p3), .val (.int p4), .val (.int p5), .val (.int p6), .unset, .unset, .unset, .unset, .unset, .unset, .unset, .unset, .unset, .unset] [])) t := by
            intro t kt
            refine S866 t ?_
            refine XS.icmpYes X710.here hx rfl (pc0 := 171) (pc' := 182) rfl (hb hby at_171) rfl (feq (c867 : ¬ ((((p6.toUInt32 >>> ((2 : Int32) &&& 31).toUInt32).toInt32) &&& (3 : Int32)) = (1 : Int32)))).2 (by decide) (by decide) ?_
            refine XS.iload X710.here hx rfl (hb hby at_182) rfl ?_
            refine XS.iconst X710.here hx rfl (hb hby at_184) ?_
            exact kt
          rcases Decidable.em ((((p6.toUInt32 >>> ((2 : Int32) &&& 31).toUInt32).toInt32) &&& (3 : Int32)) = (2 : Int32)) with c875 | c875
          · have f877 := (Exa.keep (Exa.ext E680 f667) k728)
            obtain ⟨cq876, kq876, q876a, q876b, q876c⟩ := isOf hZ583 rfl f877
            obtain ⟨_, _, ⟨T876, L876, k876, n876⟩, -, X876, ⟨Lc876, hQ876, l876, y876, z876⟩, st876⟩ := X710.virtualBack hx (y := (⟨"com/example/typecheck/typecheck/model/QName", "equals", "(Ljava/lang/Object;)Z"⟩ : MethodName)) (z := (⟨"com/example/typecheck/typecheck/model/QName", "equals", "(Ljava/lang/Object;)Z"⟩ : MethodName)) ho583 (mvT hZ583 (own_w hw 73 rfl)) (mvT hZ583 (own_w hw 74 rfl)) (notFace_of_selects (args := #[]) (mvT hZ583 (own_w hw 76 rfl))) (mvT hZ583 (own_w hw 76 rfl)) (mvT hZ583 (own_w hw 75 rfl)) (by decide) (backOf (W := 0) (rm_qeqn l Z a0 hw [] b621 T710.heap n0 O741 ) hZ583 (own_w hw 77 rfl) (own_w hw 28 rfl) (by decide) (by decide)) q876a q876c (g := (mkF m 191 #[.val (.int p1), .val (.int p2), .val (.int p3), .val (.int p4), .val (.int p5), .val (.int p6), .val (.ref x2), .val (.ref x21), .val (.ref x44), .val (.ref x522), .val (.ref x551), .val (.ref x584), .val (.ref b621), .val (.ref b680), .val (.int (((p6.toUInt32 >>> ((2 : Int32) &&& 31).toUInt32).toInt32) &&& (3 : Int32))), .unset] [.null, (.ref b621)])) rfl (by rw [hml]; rfl) (Steps.refl _) (argsL := [.null]) (rest := []) (lenOf pd_11 rfl) rfl (by show 2 * 0 + _ ≤ _; exact Nat.le_of_eq rfl) (hb hby at_191) (fun _ _ => ⟨rfl, rfl, (by decide : 38 + 0 ≤ _), (by decide : 80 + 0 ≤ _)⟩)
            dsimp only [Pt.U, Pt.locs, Pt.cells, Pt.slots] at X876 l876 y876 z876 st876 hQ876
            subst l876 y876 z876
            obtain ⟨rfl, N878, k879⟩ := hQ876
            have N880 := Fr.app N739 N878
            have S881 : ∀ t, Steps p.tables e below (T876.setTop (mkF m 202 #[.val (.int p1), .val (.int p2), .val (.int p3), .val (.int p4), .val (.int p5), .val (.int p6), .val (.ref x2), .val (.ref x21), .val (.ref x44), .val (.ref x522), .val (.ref x551), .val (.ref x584), .val (.ref b621), .val (.ref b680), .val (.int (((p6.toUInt32 >>> ((2 : Int32) &&& 31).toUInt32).toInt32) &&& (3 : Int32))), .unset] [(.int (1 : Int32))])) t → Steps p.tables e below (s₁.setTop (mkF m 0 #[.val (.int p1), .val (.int p2), .val (.int p3), .val (.int p4), .val (.int p5), .val (.int p6), .unset, .unset, .unset, .unset, .unset, .unset, .unset, .unset, .unset, .unset] [])) t := by
              intro t kt
              refine S874 t ?_
              refine XS.icmpNo X710.here hx rfl (hb hby at_185) rfl (teq (c875 : (((p6.toUInt32 >>> ((2 : Int32) &&& 31).toUInt32).toInt32) &&& (3 : Int32)) = (2 : Int32))).2 ?_
              refine XS.aload X710.here hx rfl (hb hby at_188) rfl rfl ?_
              refine XS.aconstNull X710.here hx rfl (hb hby at_190) ?_
              show Steps p.tables e below (T710.setTop (mkF m 191 #[.val (.int p1), .val (.int p2), .val (.int p3), .val (.int p4), .val (.int p5), .val (.int p6), .val (.ref x2), .val (.ref x21), .val (.ref x44), .val (.ref x522), .val (.ref x551), .val (.ref x584), .val (.ref b621), .val (.ref b680), .val (.int (((p6.toUInt32 >>> ((2 : Int32) &&& 31).toUInt32).toInt32) &&& (3 : Int32))), .unset] [.null, (.ref b621)])) _
              refine st876.trans ?_
              refine XS.ifNo X876.here hx rfl (hb hby at_194) rfl ((if0 _ _).trans (teq ((by decide) : (0 : Int32) = (0 : Int32))).2) ?_
              refine XS.iconst X876.here hx rfl (hb hby at_197) ?_
              refine XS.goto X876.here hx rfl (pc0 := 198) (pc' := 202) rfl (hb hby at_198) (by decide) (by decide) ?_
              exact kt
            obtain ⟨fs, hr, hrun, hended, hRW⟩ := X876.leaveW hS583 (by rw [k879]; exact hk740) (v := some (.int (1 : Int32))) (fun h => by rw [Bd.returns] at h; cases h)
            refine ⟨_, _, pre0 _ (S881 _ ?_), hrun, hended, _, _, rfl, ?_, hRW.1, hRW.2.1, hRW.2.2.1, hRW.2.2.2.mono (by decide) (by decide)⟩
            · exact retN X876 hx (t := .boolean) Bd.returns (by simp) (hb hby at_202) hr
            · show Q_rm_law Z p1 p2 p3 p4 p5 p6 zc fm h0 n0 _ T876.heap _
              rw [k879]
              exact ⟨rfl, N880⟩
          · have f883 := (Exa.keep (Exa.ext E680 f667) k728)
            have f884 := (Exa.keep f716 k728)
            obtain ⟨cq882, kq882, q882a, q882b, q882c⟩ := isOf hZ583 rfl f883
            obtain ⟨_, _, ⟨T882, L882, k882, n882⟩, -, X882, ⟨Lc882, hQ882, l882, y882, z882⟩, st882⟩ := X710.virtualBack hx (y := (⟨"com/example/typecheck/typecheck/model/QName", "equals", "(Ljava/lang/Object;)Z"⟩ : MethodName)) (z := (⟨"com/example/typecheck/typecheck/model/QName", "equals", "(Ljava/lang/Object;)Z"⟩ : MethodName)) ho583 (mvT hZ583 (own_w hw 73 rfl)) (mvT hZ583 (own_w hw 74 rfl)) (notFace_of_selects (args := #[]) (mvT hZ583 (own_w hw 76 rfl))) (mvT hZ583 (own_w hw 76 rfl)) (mvT hZ583 (own_w hw 75 rfl)) (by decide) (backOf (W := 0) (rm_qeqt l Z a0 hw [] b621 x21 T710.heap n0 O741 f883 f884) hZ583 (own_w hw 77 rfl) (own_w hw 28 rfl) (by decide) (by decide)) q882a q882c (g := (mkF m 211 #[.val (.int p1), .val (.int p2), .val (.int p3), .val (.int p4), .val (.int p5), .val (.int p6), .val (.ref x2), .val (.ref x21), .val (.ref x44), .val (.ref x522), .val (.ref x551), .val (.ref x584), .val (.ref b621), .val (.ref b680), .val (.int (((p6.toUInt32 >>> ((2 : Int32) &&& 31).toUInt32).toInt32) &&& (3 : Int32))), .val (.ref x21)] [(.ref x21), (.ref b621)])) rfl (by rw [hml]; rfl) (Steps.refl _) (argsL := [(.ref x21)]) (rest := []) (lenOf pd_11 rfl) rfl (by show 2 * 0 + _ ≤ _; exact Nat.le_of_eq rfl) (hb hby at_211) (fun _ _ => ⟨rfl, rfl, (by decide : 38 + 0 ≤ _), (by decide : 80 + 0 ≤ _)⟩)
            dsimp only [Pt.U, Pt.locs, Pt.cells, Pt.slots] at X882 l882 y882 z882 st882 hQ882
            subst l882 y882 z882
            obtain ⟨rfl, N885, k886⟩ := hQ882
            have N887 := Fr.app N739 N885
            have S888 : ∀ t, Steps p.tables e below (T882.setTop (mkF m 222 #[.val (.int p1), .val (.int p2), .val (.int p3), .val (.int p4), .val (.int p5), .val (.int p6), .val (.ref x2), .val (.ref x21), .val (.ref x44), .val (.ref x522), .val (.ref x551), .val (.ref x584), .val (.ref b621), .val (.ref b680), .val (.int (((p6.toUInt32 >>> ((2 : Int32) &&& 31).toUInt32).toInt32) &&& (3 : Int32))), .val (.ref x21)] [(.int (1 : Int32))])) t → Steps p.tables e below (s₁.setTop (mkF m 0 #[.val (.int p1), .val (.int p2), .val (.int p3), .val (.int p4), .val (.int p5), .val (.int p6), .unset, .unset, .unset, .unset, .unset, .unset, .unset, .unset, .unset, .unset] [])) t := by
              intro t kt
              refine S874 t ?_
              refine XS.icmpYes X710.here hx rfl (pc0 := 185) (pc' := 203) rfl (hb hby at_185) rfl (feq (c875 : ¬ ((((p6.toUInt32 >>> ((2 : Int32) &&& 31).toUInt32).toInt32) &&& (3 : Int32)) = (2 : Int32)))).2 (by decide) (by decide) ?_
              refine XS.aload X710.here hx rfl (hb hby at_203) rfl rfl ?_
              refine XS.astore X710.here hx rfl (hb hby at_205) rfl rfl (l' := #[.val (.int p1), .val (.int p2), .val (.int p3), .val (.int p4), .val (.int p5), .val (.int p6), .val (.ref x2), .val (.ref x21), .val (.ref x44), .val (.ref x522), .val (.ref x551), .val (.ref x584), .val (.ref b621), .val (.ref b680), .val (.int (((p6.toUInt32 >>> ((2 : Int32) &&& 31).toUInt32).toInt32) &&& (3 : Int32))), .val (.ref x21)]) rfl ?_
              refine XS.aload X710.here hx rfl (hb hby at_207) rfl rfl ?_
              refine XS.aload X710.here hx rfl (hb hby at_209) rfl rfl ?_
              show Steps p.tables e below (T710.setTop (mkF m 211 #[.val (.int p1), .val (.int p2), .val (.int p3), .val (.int p4), .val (.int p5), .val (.int p6), .val (.ref x2), .val (.ref x21), .val (.ref x44), .val (.ref x522), .val (.ref x551), .val (.ref x584), .val (.ref b621), .val (.ref b680), .val (.int (((p6.toUInt32 >>> ((2 : Int32) &&& 31).toUInt32).toInt32) &&& (3 : Int32))), .val (.ref x21)] [(.ref x21), (.ref b621)])) _
              refine st882.trans ?_
              refine XS.ifNo X882.here hx rfl (hb hby at_214) rfl ((if0 _ _).trans (teq ((by decide) : (0 : Int32) = (0 : Int32))).2) ?_
              refine XS.iconst X882.here hx rfl (hb hby at_217) ?_
              refine XS.goto X882.here hx rfl (pc0 := 218) (pc' := 222) rfl (hb hby at_218) (by decide) (by decide) ?_
              exact kt
            obtain ⟨fs, hr, hrun, hended, hRW⟩ := X882.leaveW hS583 (by rw [k886]; exact hk740) (v := some (.int (1 : Int32))) (fun h => by rw [Bd.returns] at h; cases h)
            refine ⟨_, _, pre0 _ (S888 _ ?_), hrun, hended, _, _, rfl, ?_, hRW.1, hRW.2.1, hRW.2.2.1, hRW.2.2.2.mono (by decide) (by decide)⟩
            · exact retN X882 hx (t := .boolean) Bd.returns (by simp) (hb hby at_222) hr
            · show Q_rm_law Z p1 p2 p3 p4 p5 p6 zc fm h0 n0 _ T882.heap _
              rw [k886]
              exact ⟨rfl, N887⟩
  · obtain ⟨_, _, ⟨T889, L889, k889, n889⟩, -, Xq889, hSq889, hgq889, ⟨Lc889, hQ889, l889, y889, z889, C889⟩, st889⟩ := callSS X20 hx (y := (⟨"com/example/typecheck/typecheck/model/QNameEqualsPinLaw", "str", "(I)Ljava/lang/String;"⟩ : MethodName)) ho20 (mvT hZ20 (own_w hw 0 rfl)) (mvT hZ20 (own_w hw 1 rfl)) (mvT hZ20 (own_w hw 2 rfl)) (mvT hZ20 (own_w hw 3 rfl)) (by decide) (own_backS (W := 0) (rm := ({ frames := 4, cells := 6, slots := 12, locals := 66 } : Room)) (xs := []) (rm_str l Z a0 hw [] p1 zc T20.heap n0 O40 S_C hzc) hZ20 (own_w hw 3 rfl) (own_w hw 2 rfl) (by decide) (by decide) own_ew CR38.1 all0) (g := (mkF m 20 #[.val (.int p1), .val (.int p2), .val (.int p3), .val (.int p4), .val (.int p5), .val (.int p6), .val (.ref x2), .val (.ref x21), .unset, .unset, .unset, .unset, .unset, .unset, .unset, .unset] [(.int p1)])) rfl (by rw [hml]; rfl) (argsL := [(.int p1)]) (rest := []) (lenOf pd_12 rfl) rfl (by show 2 * 0 + _ ≤ _; exact Nat.le_of_eq rfl) (hb hby at_20) (fun _ _ => ⟨rfl, rfl, (by decide : 12 + 6 ≤ _), (by decide : 24 + 12 ≤ _)⟩)
    dsimp only [Pt.U, Pt.locs, Pt.cells, Pt.slots] at Xq889 hSq889 hgq889 l889 y889 z889 st889 hQ889 C889
    obtain ⟨X889, hS889, hZ889, ho889⟩ := rebS hS20 (by exact hk39) Xq889 hSq889 hgq889 hZ20 ho20
    subst l889 y889 z889
    obtain ⟨x890, x891, x892, rfl, N893, k894, f895, f896, f897, f898, f899, f900, f901, f902⟩ := hQ889
    have N903 := Fr.app N34 N893
    have ge904 : n0 ≤ x890 := by rw [← O40.1]; exact Nat.le_trans O40.2.1 f895
    have f905 := (Exa.keep f8 k25)
    have ne906 : x2 ≠ x890 := Nat.ne_of_lt (Nat.lt_of_lt_of_le (Exa.lt f905) f895)
    have f907 := (Exa.keep f11 k25)
    have ne908 : x3 ≠ x890 := Nat.ne_of_lt (Nat.lt_of_lt_of_le (Exa.lt f907) f895)
    have ne909 : x21 ≠ x890 := Nat.ne_of_lt (Nat.lt_of_lt_of_le (Exa.lt f27) f895)
    have ne910 : x22 ≠ x890 := Nat.ne_of_lt (Nat.lt_of_lt_of_le (Exa.lt f30) f895)
    have CR911 := CR38.trans C889
    have hk912 : T889.heap.size ≤ T889.heap.size := Nat.le_refl _
    have O913 := O40.keep k894 all0
    have S914 : ∀ t, Steps p.tables e below (T889.setTop (mkF m 36 #[.val (.int p1), .val (.int p2), .val (.int p3), .val (.int p4), .val (.int p5), .val (.int p6), .val (.ref x2), .val (.ref x21), .val (.ref x890), .unset, .unset, .unset, .unset, .unset, .unset, .unset] [(.int (p6 &&& (2 : Int32)))])) t → Steps p.tables e below (s₁.setTop (mkF m 0 #[.val (.int p1), .val (.int p2), .val (.int p3), .val (.int p4), .val (.int p5), .val (.int p6), .unset, .unset, .unset, .unset, .unset, .unset, .unset, .unset, .unset, .unset] [])) t := by
      intro t kt
      refine S41 t ?_
      refine XS.ifNo X20.here hx rfl (hb hby at_16) rfl ((if0 _ _).trans (feq (c42 : ¬ ((p6 &&& (1 : Int32)) = (0 : Int32)))).1) ?_
      refine XS.iloadN X20.here hx rfl (hb hby at_19) rfl ?_
      show Steps p.tables e below (T20.setTop (mkF m 20 #[.val (.int p1), .val (.int p2), .val (.int p3), .val (.int p4), .val (.int p5), .val (.int p6), .val (.ref x2), .val (.ref x21), .unset, .unset, .unset, .unset, .unset, .unset, .unset, .unset] [(.int p1)])) _
      refine st889.trans ?_
      refine XS.goto X889.here hx rfl (pc0 := 23) (pc' := 30) rfl (hb hby at_23) (by decide) (by decide) ?_
      refine XS.astore X889.here hx rfl (hb hby at_30) rfl rfl (l' := #[.val (.int p1), .val (.int p2), .val (.int p3), .val (.int p4), .val (.int p5), .val (.int p6), .val (.ref x2), .val (.ref x21), .val (.ref x890), .unset, .unset, .unset, .unset, .unset, .unset, .unset]) rfl ?_
      refine XS.iload X889.here hx rfl (hb hby at_32) rfl ?_
      refine XS.iconst X889.here hx rfl (hb hby at_34) ?_
      refine XS.iand X889.here hx rfl (hb hby at_35) rfl ?_
      exact kt
    rcases Decidable.em ((p6 &&& (2 : Int32)) = (0 : Int32)) with c915 | c915
    · obtain ⟨_, _, ⟨T916, L916, k916, n916⟩, -, Xq916, hSq916, hgq916, ⟨Lc916, hQ916, l916, y916, z916, C916⟩, st916⟩ := callSS X889 hx (y := (⟨"com/example/typecheck/typecheck/model/QNameEqualsPinLaw", "str", "(I)Ljava/lang/String;"⟩ : MethodName)) ho889 (mvT hZ889 (own_w hw 0 rfl)) (mvT hZ889 (own_w hw 1 rfl)) (mvT hZ889 (own_w hw 2 rfl)) (mvT hZ889 (own_w hw 3 rfl)) (by decide) (own_backS (W := 0) (rm := ({ frames := 4, cells := 6, slots := 12, locals := 66 } : Room)) (xs := []) (rm_str l Z a0 hw [] p4 zc T889.heap n0 O913 S_C hzc) hZ889 (own_w hw 3 rfl) (own_w hw 2 rfl) (by decide) (by decide) own_ew CR911.1 all0) (g := (mkF m 47 #[.val (.int p1), .val (.int p2), .val (.int p3), .val (.int p4), .val (.int p5), .val (.int p6), .val (.ref x2), .val (.ref x21), .val (.ref x890), .unset, .unset, .unset, .unset, .unset, .unset, .unset] [(.int p4)])) rfl (by rw [hml]; rfl) (argsL := [(.int p4)]) (rest := []) (lenOf pd_12 rfl) rfl (by show 2 * 0 + _ ≤ _; exact Nat.le_of_eq rfl) (hb hby at_47) (fun _ _ => ⟨rfl, rfl, (by decide : 18 + 6 ≤ _), (by decide : 36 + 12 ≤ _)⟩)
      dsimp only [Pt.U, Pt.locs, Pt.cells, Pt.slots] at Xq916 hSq916 hgq916 l916 y916 z916 st916 hQ916 C916
      obtain ⟨X916, hS916, hZ916, ho916⟩ := rebS hS889 (by exact hk912) Xq916 hSq916 hgq916 hZ889 ho889
      subst l916 y916 z916
      obtain ⟨x917, x918, x919, rfl, N920, k921, f922, f923, f924, f925, f926, f927, f928, f929⟩ := hQ916
      have N930 := Fr.app N903 N920
      have ge931 : n0 ≤ x917 := by rw [← O913.1]; exact Nat.le_trans O913.2.1 f922
      have f932 := (Exa.keep f905 k894)
      have ne933 : x2 ≠ x917 := Nat.ne_of_lt (Nat.lt_of_lt_of_le (Exa.lt f932) f922)
      have f934 := (Exa.keep f907 k894)
      have ne935 : x3 ≠ x917 := Nat.ne_of_lt (Nat.lt_of_lt_of_le (Exa.lt f934) f922)
      have f936 := (Exa.keep f27 k894)
      have ne937 : x21 ≠ x917 := Nat.ne_of_lt (Nat.lt_of_lt_of_le (Exa.lt f936) f922)
      have f938 := (Exa.keep f30 k894)
      have ne939 : x22 ≠ x917 := Nat.ne_of_lt (Nat.lt_of_lt_of_le (Exa.lt f938) f922)
      have ne940 : x890 ≠ x917 := Nat.ne_of_lt (Nat.lt_of_lt_of_le (Exa.lt f896) f922)
      have ne941 : x891 ≠ x917 := Nat.ne_of_lt (Nat.lt_of_lt_of_le (Exa.lt f899) f922)
      have CR942 := CR911.trans C916
      have hk943 : T916.heap.size ≤ T916.heap.size := Nat.le_refl _
      have O944 := O913.keep k921 all0
      obtain ⟨_, _, ⟨T945, L945, k945, n945⟩, -, Xq945, hSq945, hgq945, ⟨Lc945, hQ945, l945, y945, z945, C945⟩, st945⟩ := callSS X916 hx (y := (⟨"com/example/typecheck/typecheck/model/QNameEqualsPinLaw", "str", "(I)Ljava/lang/String;"⟩ : MethodName)) ho916 (mvT hZ916 (own_w hw 0 rfl)) (mvT hZ916 (own_w hw 1 rfl)) (mvT hZ916 (own_w hw 2 rfl)) (mvT hZ916 (own_w hw 3 rfl)) (by decide) (own_backS (W := 0) (rm := ({ frames := 4, cells := 6, slots := 12, locals := 66 } : Room)) (xs := []) (rm_str l Z a0 hw [] p5 zc T916.heap n0 O944 S_C hzc) hZ916 (own_w hw 3 rfl) (own_w hw 2 rfl) (by decide) (by decide) own_ew CR942.1 all0) (g := (mkF m 54 #[.val (.int p1), .val (.int p2), .val (.int p3), .val (.int p4), .val (.int p5), .val (.int p6), .val (.ref x2), .val (.ref x21), .val (.ref x890), .val (.ref x917), .unset, .unset, .unset, .unset, .unset, .unset] [(.int p5)])) rfl (by rw [hml]; rfl) (argsL := [(.int p5)]) (rest := []) (lenOf pd_12 rfl) rfl (by show 2 * 0 + _ ≤ _; exact Nat.le_of_eq rfl) (hb hby at_54) (fun _ _ => ⟨rfl, rfl, (by decide : 24 + 6 ≤ _), (by decide : 48 + 12 ≤ _)⟩)
      dsimp only [Pt.U, Pt.locs, Pt.cells, Pt.slots] at Xq945 hSq945 hgq945 l945 y945 z945 st945 hQ945 C945
      obtain ⟨X945, hS945, hZ945, ho945⟩ := rebS hS916 (by exact hk943) Xq945 hSq945 hgq945 hZ916 ho916
      subst l945 y945 z945
      obtain ⟨x946, x947, x948, rfl, N949, k950, f951, f952, f953, f954, f955, f956, f957, f958⟩ := hQ945
      have N959 := Fr.app N930 N949
      have ge960 : n0 ≤ x946 := by rw [← O944.1]; exact Nat.le_trans O944.2.1 f951
      have f961 := (Exa.keep f932 k921)
      have ne962 : x2 ≠ x946 := Nat.ne_of_lt (Nat.lt_of_lt_of_le (Exa.lt f961) f951)
      have f963 := (Exa.keep f934 k921)
      have ne964 : x3 ≠ x946 := Nat.ne_of_lt (Nat.lt_of_lt_of_le (Exa.lt f963) f951)
      have f965 := (Exa.keep f936 k921)
      have ne966 : x21 ≠ x946 := Nat.ne_of_lt (Nat.lt_of_lt_of_le (Exa.lt f965) f951)
      have f967 := (Exa.keep f938 k921)
      have ne968 : x22 ≠ x946 := Nat.ne_of_lt (Nat.lt_of_lt_of_le (Exa.lt f967) f951)
      have f969 := (Exa.keep f896 k921)
      have ne970 : x890 ≠ x946 := Nat.ne_of_lt (Nat.lt_of_lt_of_le (Exa.lt f969) f951)
      have f971 := (Exa.keep f899 k921)
      have ne972 : x891 ≠ x946 := Nat.ne_of_lt (Nat.lt_of_lt_of_le (Exa.lt f971) f951)
      have ne973 : x917 ≠ x946 := Nat.ne_of_lt (Nat.lt_of_lt_of_le (Exa.lt f923) f951)
      have ne974 : x918 ≠ x946 := Nat.ne_of_lt (Nat.lt_of_lt_of_le (Exa.lt f926) f951)
      have CR975 := CR942.trans C945
      have hk976 : T945.heap.size ≤ T945.heap.size := Nat.le_refl _
      have O977 := O944.keep k950 all0
      obtain ⟨_, _, ⟨T978, L978, k978, n978⟩, -, Xq978, hSq978, hgq978, ⟨Lc978, hQ978, l978, y978, z978, C978⟩, st978⟩ := callSS X945 hx (y := (⟨"com/example/typecheck/typecheck/model/QNameEqualsPinLaw", "str", "(I)Ljava/lang/String;"⟩ : MethodName)) ho945 (mvT hZ945 (own_w hw 0 rfl)) (mvT hZ945 (own_w hw 1 rfl)) (mvT hZ945 (own_w hw 2 rfl)) (mvT hZ945 (own_w hw 3 rfl)) (by decide) (own_backS (W := 0) (rm := ({ frames := 4, cells := 6, slots := 12, locals := 66 } : Room)) (xs := []) (rm_str l Z a0 hw [] ((p6.toUInt32 >>> ((4 : Int32) &&& 31).toUInt32).toInt32) zc T945.heap n0 O977 S_C hzc) hZ945 (own_w hw 3 rfl) (own_w hw 2 rfl) (by decide) (by decide) own_ew CR975.1 all0) (g := (mkF m 63 #[.val (.int p1), .val (.int p2), .val (.int p3), .val (.int p4), .val (.int p5), .val (.int p6), .val (.ref x2), .val (.ref x21), .val (.ref x890), .val (.ref x917), .val (.ref x946), .unset, .unset, .unset, .unset, .unset] [(.int ((p6.toUInt32 >>> ((4 : Int32) &&& 31).toUInt32).toInt32))])) rfl (by rw [hml]; rfl) (argsL := [(.int ((p6.toUInt32 >>> ((4 : Int32) &&& 31).toUInt32).toInt32))]) (rest := []) (lenOf pd_12 rfl) rfl (by show 2 * 0 + _ ≤ _; exact Nat.le_of_eq rfl) (hb hby at_63) (fun _ _ => ⟨rfl, rfl, (by decide : 30 + 6 ≤ _), (by decide : 60 + 12 ≤ _)⟩)
      dsimp only [Pt.U, Pt.locs, Pt.cells, Pt.slots] at Xq978 hSq978 hgq978 l978 y978 z978 st978 hQ978 C978
      obtain ⟨X978, hS978, hZ978, ho978⟩ := rebS hS945 (by exact hk976) Xq978 hSq978 hgq978 hZ945 ho945
      subst l978 y978 z978
      obtain ⟨x979, x980, x981, rfl, N982, k983, f984, f985, f986, f987, f988, f989, f990, f991⟩ := hQ978
      have N992 := Fr.app N959 N982
      have ge993 : n0 ≤ x979 := by rw [← O977.1]; exact Nat.le_trans O977.2.1 f984
      have f994 := (Exa.keep f961 k950)
      have ne995 : x2 ≠ x979 := Nat.ne_of_lt (Nat.lt_of_lt_of_le (Exa.lt f994) f984)
      have f996 := (Exa.keep f963 k950)
      have ne997 : x3 ≠ x979 := Nat.ne_of_lt (Nat.lt_of_lt_of_le (Exa.lt f996) f984)
      have f998 := (Exa.keep f965 k950)
      have ne999 : x21 ≠ x979 := Nat.ne_of_lt (Nat.lt_of_lt_of_le (Exa.lt f998) f984)
      have f1000 := (Exa.keep f967 k950)
      have ne1001 : x22 ≠ x979 := Nat.ne_of_lt (Nat.lt_of_lt_of_le (Exa.lt f1000) f984)
      have f1002 := (Exa.keep f969 k950)
      have ne1003 : x890 ≠ x979 := Nat.ne_of_lt (Nat.lt_of_lt_of_le (Exa.lt f1002) f984)
      have f1004 := (Exa.keep f971 k950)
      have ne1005 : x891 ≠ x979 := Nat.ne_of_lt (Nat.lt_of_lt_of_le (Exa.lt f1004) f984)
      have f1006 := (Exa.keep f923 k950)
      have ne1007 : x917 ≠ x979 := Nat.ne_of_lt (Nat.lt_of_lt_of_le (Exa.lt f1006) f984)
      have f1008 := (Exa.keep f926 k950)
      have ne1009 : x918 ≠ x979 := Nat.ne_of_lt (Nat.lt_of_lt_of_le (Exa.lt f1008) f984)
      have ne1010 : x946 ≠ x979 := Nat.ne_of_lt (Nat.lt_of_lt_of_le (Exa.lt f952) f984)
      have ne1011 : x947 ≠ x979 := Nat.ne_of_lt (Nat.lt_of_lt_of_le (Exa.lt f955) f984)
      have CR1012 := CR975.trans C978
      have hk1013 : T978.heap.size ≤ T978.heap.size := Nat.le_refl _
      have O1014 := O977.keep k983 all0
      have S1015 : ∀ t, Steps p.tables e below (T978.setTop (mkF m 68 #[.val (.int p1), .val (.int p2), .val (.int p3), .val (.int p4), .val (.int p5), .val (.int p6), .val (.ref x2), .val (.ref x21), .val (.ref x890), .val (.ref x917), .val (.ref x946), .val (.ref x979), .unset, .unset, .unset, .unset] [])) t → Steps p.tables e below (s₁.setTop (mkF m 0 #[.val (.int p1), .val (.int p2), .val (.int p3), .val (.int p4), .val (.int p5), .val (.int p6), .unset, .unset, .unset, .unset, .unset, .unset, .unset, .unset, .unset, .unset] [])) t := by
        intro t kt
        refine S914 t ?_
        refine XS.ifYes X889.here hx rfl (pc0 := 36) (pc' := 46) rfl (hb hby at_36) rfl ((if0 _ _).trans (teq (c915 : (p6 &&& (2 : Int32)) = (0 : Int32))).1) (by decide) (by decide) ?_
        refine XS.iloadN X889.here hx rfl (hb hby at_46) rfl ?_
        show Steps p.tables e below (T889.setTop (mkF m 47 #[.val (.int p1), .val (.int p2), .val (.int p3), .val (.int p4), .val (.int p5), .val (.int p6), .val (.ref x2), .val (.ref x21), .val (.ref x890), .unset, .unset, .unset, .unset, .unset, .unset, .unset] [(.int p4)])) _
        refine st916.trans ?_
        refine XS.astore X916.here hx rfl (hb hby at_50) rfl rfl (l' := #[.val (.int p1), .val (.int p2), .val (.int p3), .val (.int p4), .val (.int p5), .val (.int p6), .val (.ref x2), .val (.ref x21), .val (.ref x890), .val (.ref x917), .unset, .unset, .unset, .unset, .unset, .unset]) rfl ?_
        refine XS.iload X916.here hx rfl (hb hby at_52) rfl ?_
        show Steps p.tables e below (T916.setTop (mkF m 54 #[.val (.int p1), .val (.int p2), .val (.int p3), .val (.int p4), .val (.int p5), .val (.int p6), .val (.ref x2), .val (.ref x21), .val (.ref x890), .val (.ref x917), .unset, .unset, .unset, .unset, .unset, .unset] [(.int p5)])) _
        refine st945.trans ?_
        refine XS.astore X945.here hx rfl (hb hby at_57) rfl rfl (l' := #[.val (.int p1), .val (.int p2), .val (.int p3), .val (.int p4), .val (.int p5), .val (.int p6), .val (.ref x2), .val (.ref x21), .val (.ref x890), .val (.ref x917), .val (.ref x946), .unset, .unset, .unset, .unset, .unset]) rfl ?_
        refine XS.iload X945.here hx rfl (hb hby at_59) rfl ?_
        refine XS.iconst X945.here hx rfl (hb hby at_61) ?_
        refine XS.iushr X945.here hx rfl (hb hby at_62) rfl ?_
        show Steps p.tables e below (T945.setTop (mkF m 63 #[.val (.int p1), .val (.int p2), .val (.int p3), .val (.int p4), .val (.int p5), .val (.int p6), .val (.ref x2), .val (.ref x21), .val (.ref x890), .val (.ref x917), .val (.ref x946), .unset, .unset, .unset, .unset, .unset] [(.int ((p6.toUInt32 >>> ((4 : Int32) &&& 31).toUInt32).toInt32))])) _
        refine st978.trans ?_
        refine XS.astore X978.here hx rfl (hb hby at_66) rfl rfl (l' := #[.val (.int p1), .val (.int p2), .val (.int p3), .val (.int p4), .val (.int p5), .val (.int p6), .val (.ref x2), .val (.ref x21), .val (.ref x890), .val (.ref x917), .val (.ref x946), .val (.ref x979), .unset, .unset, .unset, .unset]) rfl ?_
        exact kt
      obtain ⟨T1016, h1016, X1016, e1016, E1016, A1016, D1016, -, st1016⟩ := newO X978 hx hZ978 ho978 (own_w hw 26 rfl) (own_w hw 27 rfl) (own_w hw 28 rfl) rfl (g := (mkF m 68 #[.val (.int p1), .val (.int p2), .val (.int p3), .val (.int p4), .val (.int p5), .val (.int p6), .val (.ref x2), .val (.ref x21), .val (.ref x890), .val (.ref x917), .val (.ref x946), .val (.ref x979), .unset, .unset, .unset, .unset] [])) rfl (hb hby at_68) (by decide) (by decide)
      obtain ⟨b1016, g1016⟩ : ∃ z, z = T978.heap.size := ⟨_, rfl⟩
      have ge_b1016 : n0 ≤ b1016 := by rw [g1016, ← O1014.1]; exact O1014.2.1
      have f1017 := (Exa.keep f994 k983)
      have ne1018 : x2 ≠ b1016 := Nat.ne_of_lt (Nat.lt_of_lt_of_le (Exa.lt f1017) (Nat.le_of_eq g1016.symm))
      have f1019 := (Exa.keep f996 k983)
      have ne1020 : x3 ≠ b1016 := Nat.ne_of_lt (Nat.lt_of_lt_of_le (Exa.lt f1019) (Nat.le_of_eq g1016.symm))
      have f1021 := (Exa.keep f998 k983)
      have ne1022 : x21 ≠ b1016 := Nat.ne_of_lt (Nat.lt_of_lt_of_le (Exa.lt f1021) (Nat.le_of_eq g1016.symm))
      have f1023 := (Exa.keep f1000 k983)
      have ne1024 : x22 ≠ b1016 := Nat.ne_of_lt (Nat.lt_of_lt_of_le (Exa.lt f1023) (Nat.le_of_eq g1016.symm))
      have f1025 := (Exa.keep f1002 k983)
      have ne1026 : x890 ≠ b1016 := Nat.ne_of_lt (Nat.lt_of_lt_of_le (Exa.lt f1025) (Nat.le_of_eq g1016.symm))
      have f1027 := (Exa.keep f1004 k983)
      have ne1028 : x891 ≠ b1016 := Nat.ne_of_lt (Nat.lt_of_lt_of_le (Exa.lt f1027) (Nat.le_of_eq g1016.symm))
      have f1029 := (Exa.keep f1006 k983)
      have ne1030 : x917 ≠ b1016 := Nat.ne_of_lt (Nat.lt_of_lt_of_le (Exa.lt f1029) (Nat.le_of_eq g1016.symm))
      have f1031 := (Exa.keep f1008 k983)
      have ne1032 : x918 ≠ b1016 := Nat.ne_of_lt (Nat.lt_of_lt_of_le (Exa.lt f1031) (Nat.le_of_eq g1016.symm))
      have f1033 := (Exa.keep f952 k983)
      have ne1034 : x946 ≠ b1016 := Nat.ne_of_lt (Nat.lt_of_lt_of_le (Exa.lt f1033) (Nat.le_of_eq g1016.symm))
      have f1035 := (Exa.keep f955 k983)
      have ne1036 : x947 ≠ b1016 := Nat.ne_of_lt (Nat.lt_of_lt_of_le (Exa.lt f1035) (Nat.le_of_eq g1016.symm))
      have ne1037 : x979 ≠ b1016 := Nat.ne_of_lt (Nat.lt_of_lt_of_le (Exa.lt f985) (Nat.le_of_eq g1016.symm))
      have ne1038 : x980 ≠ b1016 := Nat.ne_of_lt (Nat.lt_of_lt_of_le (Exa.lt f988) (Nat.le_of_eq g1016.symm))
      rw [← g1016] at A1016 D1016 st1016
      have hk1039 := Nat.le_trans hk1013 E1016.1
      have O1040 := O1014.ext E1016
      have F1041 : Fld Z h1016 b1016 "com/example/typecheck/typecheck/model/QName" "prefix" "Ljava/lang/String;" .null := D1016 (Or.inr (own_w hw 34 rfl)) (ty := (.object "java/lang/String")) (by decide)
      have F1042 : Fld Z h1016 b1016 "com/example/typecheck/typecheck/model/QName" "namespace" "Ljava/lang/String;" .null := D1016 (Or.inr (own_w hw 36 rfl)) (ty := (.object "java/lang/String")) (by decide)
      have F1043 : Fld Z h1016 b1016 "com/example/typecheck/typecheck/model/QName" "localName" "Ljava/lang/String;" .null := D1016 (Or.inr (own_w hw 38 rfl)) (ty := (.object "java/lang/String")) (by decide)
      have F1044 : Fld Z h1016 b1016 "com/example/typecheck/typecheck/model/QName" "hash" "I" (.int (0 : Int32)) := D1016 (Or.inr (own_w hw 59 rfl)) (ty := .int) (by decide)
      have f1046 := (Exa.ext E1016 f1017)
      have f1047 := (Fld.ext E1016 (Fld.keep (Fld.keep (Fld.keep (Fld.keep (Fld.keep f9 k25 nin0) k894 nin0) k921 nin0) k950 nin0) k983 nin0))
      have f1048 := (Fld.ext E1016 (Fld.keep (Fld.keep (Fld.keep (Fld.keep (Fld.keep f10 k25 nin0) k894 nin0) k921 nin0) k950 nin0) k983 nin0))
      have f1049 := (Exa.ext E1016 f1019)
      have f1050 := (Arv.ext (Arv.keep (Arv.keep (Arv.keep (Arv.keep (Arv.keep f12 k25 nin0) k894 nin0) k921 nin0) k950 nin0) k983 nin0) E1016)
      have f1051 := (Fld.ext E1016 (Fld.keep (Fld.keep (Fld.keep (Fld.keep (Fld.keep f13 k25 nin0) k894 nin0) k921 nin0) k950 nin0) k983 nin0))
      have f1052 := (Fld.ext E1016 (Fld.keep (Fld.keep (Fld.keep (Fld.keep (Fld.keep f14 k25 nin0) k894 nin0) k921 nin0) k950 nin0) k983 nin0))
      have f1053 := (Exa.ext E1016 f1021)
      have f1054 := (Fld.ext E1016 (Fld.keep (Fld.keep (Fld.keep (Fld.keep f28 k894 nin0) k921 nin0) k950 nin0) k983 nin0))
      have f1055 := (Fld.ext E1016 (Fld.keep (Fld.keep (Fld.keep (Fld.keep f29 k894 nin0) k921 nin0) k950 nin0) k983 nin0))
      have f1056 := (Exa.ext E1016 f1023)
      have f1057 := (Arv.ext (Arv.keep (Arv.keep (Arv.keep (Arv.keep f31 k894 nin0) k921 nin0) k950 nin0) k983 nin0) E1016)
      have f1058 := (Fld.ext E1016 (Fld.keep (Fld.keep (Fld.keep (Fld.keep f32 k894 nin0) k921 nin0) k950 nin0) k983 nin0))
      have f1059 := (Fld.ext E1016 (Fld.keep (Fld.keep (Fld.keep (Fld.keep f33 k894 nin0) k921 nin0) k950 nin0) k983 nin0))
      obtain ⟨_, _, ⟨T1045, L1045, k1045, n1045⟩, -, X1045, ⟨Lc1045, hQ1045, l1045, y1045, z1045⟩, st1045⟩ := X1016.specialBack hx (y := (⟨"com/example/typecheck/typecheck/model/QName", "<init>", "(Ljava/lang/String;Ljava/lang/String;Ljava/lang/String;)V"⟩ : MethodName)) rfl ho978 (mvT hZ978 (own_w hw 29 rfl)) (mvT hZ978 (own_w hw 30 rfl)) (mvT hZ978 (own_w hw 31 rfl)) (by decide) (backOf (W := 1) (rm_qini l Z a0 hw [] b1016 x946 x2 x3 x4 (own_cs p1) x21 x22 x23 (own_cs p2) zc h1016 n0 O1040 A1016 ge_b1016 F1041 F1042 F1043 F1044 f1046 f1047 f1048 f1049 f1050 f1051 f1052 ge16 f1053 f1054 f1055 f1056 f1057 f1058 f1059 ge35 ne36 (own_csok p1) (own_csok p2) S_C hzc) hZ978 (own_w hw 31 rfl) (own_w hw 28 rfl) (by decide) (by decide)) (g := (mkF m 78 #[.val (.int p1), .val (.int p2), .val (.int p3), .val (.int p4), .val (.int p5), .val (.int p6), .val (.ref x2), .val (.ref x21), .val (.ref x890), .val (.ref x917), .val (.ref x946), .val (.ref x979), .unset, .unset, .unset, .unset] [(.ref x21), (.ref x2), (.ref x946), (.ref b1016), (.ref b1016)])) rfl (by rw [hml]; rfl) (Steps.refl _) (a := b1016) (argsL := [(.ref x946), (.ref x2), (.ref x21)]) (rest := [(.ref b1016)]) (lenOf pd_13 rfl) rfl (by show 2 * 0 + _ ≤ _; exact Nat.le_of_eq rfl) (hb hby at_78) (fun _ _ => ⟨rfl, e1016, (by decide : 37 + 0 ≤ _), (by decide : 76 + 0 ≤ _)⟩)
      dsimp only [Pt.U, Pt.locs, Pt.cells, Pt.slots] at X1045 l1045 y1045 z1045 st1045 hQ1045
      subst l1045 y1045 z1045
      obtain ⟨rfl, N1060, k1061, f1062, f1063, f1064, f1065, f1066, f1067, f1068, f1069, f1070, f1071⟩ := hQ1045
      have N1072 := Fr.app N992 N1060
      have hk1073 := Nat.le_trans hk1039 k1061.1
      have O1074 := O1040.keep k1061 (allS ge_b1016 (allS ge16 (allS ge35 all0)))
      obtain ⟨T1075, h1075, X1075, e1075, E1075, A1075, D1075, -, st1075⟩ := newO X1045 hx hZ978 ho978 (own_w hw 26 rfl) (own_w hw 27 rfl) (own_w hw 28 rfl) rfl (g := (mkF m 83 #[.val (.int p1), .val (.int p2), .val (.int p3), .val (.int p4), .val (.int p5), .val (.int p6), .val (.ref x2), .val (.ref x21), .val (.ref x890), .val (.ref x917), .val (.ref x946), .val (.ref x979), .val (.ref b1016), .unset, .unset, .unset] [])) rfl (hb hby at_83) (by decide) (by decide)
      obtain ⟨b1075, g1075⟩ : ∃ z, z = T1045.heap.size := ⟨_, rfl⟩
      have ge_b1075 : n0 ≤ b1075 := by rw [g1075, ← O1074.1]; exact O1074.2.1
      have ne1076 : x2 ≠ b1075 := Nat.ne_of_lt (Nat.lt_of_lt_of_le (Exa.lt f1066) (Nat.le_of_eq g1075.symm))
      have f1077 := (Exa.keep f1049 k1061)
      have ne1078 : x3 ≠ b1075 := Nat.ne_of_lt (Nat.lt_of_lt_of_le (Exa.lt f1077) (Nat.le_of_eq g1075.symm))
      have ne1079 : x21 ≠ b1075 := Nat.ne_of_lt (Nat.lt_of_lt_of_le (Exa.lt f1069) (Nat.le_of_eq g1075.symm))
      have f1080 := (Exa.keep f1056 k1061)
      have ne1081 : x22 ≠ b1075 := Nat.ne_of_lt (Nat.lt_of_lt_of_le (Exa.lt f1080) (Nat.le_of_eq g1075.symm))
      have f1082 := (Exa.keep (Exa.ext E1016 f1025) k1061)
      have ne1083 : x890 ≠ b1075 := Nat.ne_of_lt (Nat.lt_of_lt_of_le (Exa.lt f1082) (Nat.le_of_eq g1075.symm))
      have f1084 := (Exa.keep (Exa.ext E1016 f1027) k1061)
      have ne1085 : x891 ≠ b1075 := Nat.ne_of_lt (Nat.lt_of_lt_of_le (Exa.lt f1084) (Nat.le_of_eq g1075.symm))
      have f1086 := (Exa.keep (Exa.ext E1016 f1029) k1061)
      have ne1087 : x917 ≠ b1075 := Nat.ne_of_lt (Nat.lt_of_lt_of_le (Exa.lt f1086) (Nat.le_of_eq g1075.symm))
      have f1088 := (Exa.keep (Exa.ext E1016 f1031) k1061)
      have ne1089 : x918 ≠ b1075 := Nat.ne_of_lt (Nat.lt_of_lt_of_le (Exa.lt f1088) (Nat.le_of_eq g1075.symm))
      have f1090 := (Exa.keep (Exa.ext E1016 f1033) k1061)
      have ne1091 : x946 ≠ b1075 := Nat.ne_of_lt (Nat.lt_of_lt_of_le (Exa.lt f1090) (Nat.le_of_eq g1075.symm))
      have f1092 := (Exa.keep (Exa.ext E1016 f1035) k1061)
      have ne1093 : x947 ≠ b1075 := Nat.ne_of_lt (Nat.lt_of_lt_of_le (Exa.lt f1092) (Nat.le_of_eq g1075.symm))
      have f1094 := (Exa.keep (Exa.ext E1016 f985) k1061)
      have ne1095 : x979 ≠ b1075 := Nat.ne_of_lt (Nat.lt_of_lt_of_le (Exa.lt f1094) (Nat.le_of_eq g1075.symm))
      have f1096 := (Exa.keep (Exa.ext E1016 f988) k1061)
      have ne1097 : x980 ≠ b1075 := Nat.ne_of_lt (Nat.lt_of_lt_of_le (Exa.lt f1096) (Nat.le_of_eq g1075.symm))
      have ne1098 : b1016 ≠ b1075 := Nat.ne_of_lt (Nat.lt_of_lt_of_le (Exa.lt f1062) (Nat.le_of_eq g1075.symm))
      rw [← g1075] at A1075 D1075 st1075
      have hk1099 := Nat.le_trans hk1073 E1075.1
      have O1100 := O1074.ext E1075
      have F1101 : Fld Z h1075 b1075 "com/example/typecheck/typecheck/model/QName" "prefix" "Ljava/lang/String;" .null := D1075 (Or.inr (own_w hw 34 rfl)) (ty := (.object "java/lang/String")) (by decide)
      have F1102 : Fld Z h1075 b1075 "com/example/typecheck/typecheck/model/QName" "namespace" "Ljava/lang/String;" .null := D1075 (Or.inr (own_w hw 36 rfl)) (ty := (.object "java/lang/String")) (by decide)
      have F1103 : Fld Z h1075 b1075 "com/example/typecheck/typecheck/model/QName" "localName" "Ljava/lang/String;" .null := D1075 (Or.inr (own_w hw 38 rfl)) (ty := (.object "java/lang/String")) (by decide)
      have F1104 : Fld Z h1075 b1075 "com/example/typecheck/typecheck/model/QName" "hash" "I" (.int (0 : Int32)) := D1075 (Or.inr (own_w hw 59 rfl)) (ty := .int) (by decide)
      have f1106 := (Exa.ext E1075 f1082)
      have f1107 := (Fld.ext E1075 (Fld.keep (Fld.ext E1016 (Fld.keep (Fld.keep (Fld.keep f897 k921 nin0) k950 nin0) k983 nin0)) k1061 (ninS ne1026 (ninS (Ne.symm ne906) (ninS (Ne.symm ne909) nin0)))))
      have f1108 := (Fld.ext E1075 (Fld.keep (Fld.ext E1016 (Fld.keep (Fld.keep (Fld.keep f898 k921 nin0) k950 nin0) k983 nin0)) k1061 (ninS ne1026 (ninS (Ne.symm ne906) (ninS (Ne.symm ne909) nin0)))))
      have f1109 := (Exa.ext E1075 f1084)
      have f1110 := (Exa.ext E1075 f1066)
      have f1111 := (Exa.ext E1075 f1069)
      have f1112 := (Arv.ext (Arv.keep (Arv.ext (Arv.keep (Arv.keep (Arv.keep f900 k921 nin0) k950 nin0) k983 nin0) E1016) k1061 (ninS ne1028 (ninS (own_exane f1109 f1110 (by decide)) (ninS (own_exane f1109 f1111 (by decide)) nin0)))) E1075)
      have f1113 := (Fld.ext E1075 (Fld.keep (Fld.ext E1016 (Fld.keep (Fld.keep (Fld.keep f901 k921 nin0) k950 nin0) k983 nin0)) k1061 (ninS ne1026 (ninS (Ne.symm ne906) (ninS (Ne.symm ne909) nin0)))))
      have f1114 := (Fld.ext E1075 (Fld.keep (Fld.ext E1016 (Fld.keep (Fld.keep (Fld.keep f902 k921 nin0) k950 nin0) k983 nin0)) k1061 (ninS ne1026 (ninS (Ne.symm ne906) (ninS (Ne.symm ne909) nin0)))))
      have f1115 := (Exa.ext E1075 f1086)
      have f1116 := (Fld.ext E1075 (Fld.keep (Fld.ext E1016 (Fld.keep (Fld.keep f924 k950 nin0) k983 nin0)) k1061 (ninS ne1030 (ninS (Ne.symm ne933) (ninS (Ne.symm ne937) nin0)))))
      have f1117 := (Fld.ext E1075 (Fld.keep (Fld.ext E1016 (Fld.keep (Fld.keep f925 k950 nin0) k983 nin0)) k1061 (ninS ne1030 (ninS (Ne.symm ne933) (ninS (Ne.symm ne937) nin0)))))
      have f1118 := (Exa.ext E1075 f1088)
      have f1119 := (Arv.ext (Arv.keep (Arv.ext (Arv.keep (Arv.keep f927 k950 nin0) k983 nin0) E1016) k1061 (ninS ne1032 (ninS (own_exane f1118 f1110 (by decide)) (ninS (own_exane f1118 f1111 (by decide)) nin0)))) E1075)
      have f1120 := (Fld.ext E1075 (Fld.keep (Fld.ext E1016 (Fld.keep (Fld.keep f928 k950 nin0) k983 nin0)) k1061 (ninS ne1030 (ninS (Ne.symm ne933) (ninS (Ne.symm ne937) nin0)))))
      have f1121 := (Fld.ext E1075 (Fld.keep (Fld.ext E1016 (Fld.keep (Fld.keep f929 k950 nin0) k983 nin0)) k1061 (ninS ne1030 (ninS (Ne.symm ne933) (ninS (Ne.symm ne937) nin0)))))
      obtain ⟨_, _, ⟨T1105, L1105, k1105, n1105⟩, -, X1105, ⟨Lc1105, hQ1105, l1105, y1105, z1105⟩, st1105⟩ := X1075.specialBack hx (y := (⟨"com/example/typecheck/typecheck/model/QName", "<init>", "(Ljava/lang/String;Ljava/lang/String;Ljava/lang/String;)V"⟩ : MethodName)) rfl ho978 (mvT hZ978 (own_w hw 29 rfl)) (mvT hZ978 (own_w hw 30 rfl)) (mvT hZ978 (own_w hw 31 rfl)) (by decide) (backOf (W := 1) (rm_qini l Z a0 hw [] b1075 x979 x890 x891 x892 (own_cs p1) x917 x918 x919 (own_cs p4) zc h1075 n0 O1100 A1075 ge_b1075 F1101 F1102 F1103 F1104 f1106 f1107 f1108 f1109 f1112 f1113 f1114 ge904 f1115 f1116 f1117 f1118 f1119 f1120 f1121 ge931 ne940 (own_csok p1) (own_csok p4) S_C hzc) hZ978 (own_w hw 31 rfl) (own_w hw 28 rfl) (by decide) (by decide)) (g := (mkF m 93 #[.val (.int p1), .val (.int p2), .val (.int p3), .val (.int p4), .val (.int p5), .val (.int p6), .val (.ref x2), .val (.ref x21), .val (.ref x890), .val (.ref x917), .val (.ref x946), .val (.ref x979), .val (.ref b1016), .unset, .unset, .unset] [(.ref x917), (.ref x890), (.ref x979), (.ref b1075), (.ref b1075)])) rfl (by rw [hml]; rfl) (Steps.refl _) (a := b1075) (argsL := [(.ref x979), (.ref x890), (.ref x917)]) (rest := [(.ref b1075)]) (lenOf pd_13 rfl) rfl (by show 2 * 0 + _ ≤ _; exact Nat.le_of_eq rfl) (hb hby at_93) (fun _ _ => ⟨rfl, e1075, (by decide : 38 + 0 ≤ _), (by decide : 80 + 0 ≤ _)⟩)
      dsimp only [Pt.U, Pt.locs, Pt.cells, Pt.slots] at X1105 l1105 y1105 z1105 st1105 hQ1105
      subst l1105 y1105 z1105
      obtain ⟨rfl, N1122, k1123, f1124, f1125, f1126, f1127, f1128, f1129, f1130, f1131, f1132, f1133⟩ := hQ1105
      have N1134 := Fr.app N1072 N1122
      have hk1135 := Nat.le_trans hk1099 k1123.1
      have O1136 := O1100.keep k1123 (allS ge_b1075 (allS ge904 (allS ge931 all0)))
      have S1137 : ∀ t, Steps p.tables e below (T1105.setTop (mkF m 108 #[.val (.int p1), .val (.int p2), .val (.int p3), .val (.int p4), .val (.int p5), .val (.int p6), .val (.ref x2), .val (.ref x21), .val (.ref x890), .val (.ref x917), .val (.ref x946), .val (.ref x979), .val (.ref b1016), .val (.ref b1075), .val (.int (((p6.toUInt32 >>> ((2 : Int32) &&& 31).toUInt32).toInt32) &&& (3 : Int32))), .unset] [(.int (((p6.toUInt32 >>> ((2 : Int32) &&& 31).toUInt32).toInt32) &&& (3 : Int32)))])) t → Steps p.tables e below (s₁.setTop (mkF m 0 #[.val (.int p1), .val (.int p2), .val (.int p3), .val (.int p4), .val (.int p5), .val (.int p6), .unset, .unset, .unset, .unset, .unset, .unset, .unset, .unset, .unset, .unset] [])) t := by
        intro t kt
        refine S1015 t ?_
        refine st1016 _ ?_
        refine XS.dup X1016.here hx rfl (hb hby at_71) rfl rfl ?_
        refine XS.aload X1016.here hx rfl (hb hby at_72) rfl rfl ?_
        refine XS.aload X1016.here hx rfl (hb hby at_74) rfl rfl ?_
        refine XS.aload X1016.here hx rfl (hb hby at_76) rfl rfl ?_
        show Steps p.tables e below (T1016.setTop (mkF m 78 #[.val (.int p1), .val (.int p2), .val (.int p3), .val (.int p4), .val (.int p5), .val (.int p6), .val (.ref x2), .val (.ref x21), .val (.ref x890), .val (.ref x917), .val (.ref x946), .val (.ref x979), .unset, .unset, .unset, .unset] [(.ref x21), (.ref x2), (.ref x946), (.ref b1016), (.ref b1016)])) _
        refine st1045.trans ?_
        refine XS.astore X1045.here hx rfl (hb hby at_81) rfl rfl (l' := #[.val (.int p1), .val (.int p2), .val (.int p3), .val (.int p4), .val (.int p5), .val (.int p6), .val (.ref x2), .val (.ref x21), .val (.ref x890), .val (.ref x917), .val (.ref x946), .val (.ref x979), .val (.ref b1016), .unset, .unset, .unset]) rfl ?_
        show Steps p.tables e below (T1045.setTop (mkF m 83 #[.val (.int p1), .val (.int p2), .val (.int p3), .val (.int p4), .val (.int p5), .val (.int p6), .val (.ref x2), .val (.ref x21), .val (.ref x890), .val (.ref x917), .val (.ref x946), .val (.ref x979), .val (.ref b1016), .unset, .unset, .unset] [])) _
        refine st1075 _ ?_
        refine XS.dup X1075.here hx rfl (hb hby at_86) rfl rfl ?_
        refine XS.aload X1075.here hx rfl (hb hby at_87) rfl rfl ?_
        refine XS.aload X1075.here hx rfl (hb hby at_89) rfl rfl ?_
        refine XS.aload X1075.here hx rfl (hb hby at_91) rfl rfl ?_
        show Steps p.tables e below (T1075.setTop (mkF m 93 #[.val (.int p1), .val (.int p2), .val (.int p3), .val (.int p4), .val (.int p5), .val (.int p6), .val (.ref x2), .val (.ref x21), .val (.ref x890), .val (.ref x917), .val (.ref x946), .val (.ref x979), .val (.ref b1016), .unset, .unset, .unset] [(.ref x917), (.ref x890), (.ref x979), (.ref b1075), (.ref b1075)])) _
        refine st1105.trans ?_
        refine XS.astore X1105.here hx rfl (hb hby at_96) rfl rfl (l' := #[.val (.int p1), .val (.int p2), .val (.int p3), .val (.int p4), .val (.int p5), .val (.int p6), .val (.ref x2), .val (.ref x21), .val (.ref x890), .val (.ref x917), .val (.ref x946), .val (.ref x979), .val (.ref b1016), .val (.ref b1075), .unset, .unset]) rfl ?_
        refine XS.iload X1105.here hx rfl (hb hby at_98) rfl ?_
        refine XS.iconst X1105.here hx rfl (hb hby at_100) ?_
        refine XS.iushr X1105.here hx rfl (hb hby at_101) rfl ?_
        refine XS.iconst X1105.here hx rfl (hb hby at_102) ?_
        show Steps p.tables e below (T1105.setTop (mkF m 103 #[.val (.int p1), .val (.int p2), .val (.int p3), .val (.int p4), .val (.int p5), .val (.int p6), .val (.ref x2), .val (.ref x21), .val (.ref x890), .val (.ref x917), .val (.ref x946), .val (.ref x979), .val (.ref b1016), .val (.ref b1075), .unset, .unset] [(.int (3 : Int32)), (.int ((p6.toUInt32 >>> ((2 : Int32) &&& 31).toUInt32).toInt32))])) _
        refine XS.iand X1105.here hx rfl (hb hby at_103) rfl ?_
        refine XS.istore X1105.here hx rfl (hb hby at_104) rfl (l' := #[.val (.int p1), .val (.int p2), .val (.int p3), .val (.int p4), .val (.int p5), .val (.int p6), .val (.ref x2), .val (.ref x21), .val (.ref x890), .val (.ref x917), .val (.ref x946), .val (.ref x979), .val (.ref b1016), .val (.ref b1075), .val (.int (((p6.toUInt32 >>> ((2 : Int32) &&& 31).toUInt32).toInt32) &&& (3 : Int32))), .unset]) rfl ?_
        refine XS.iload X1105.here hx rfl (hb hby at_106) rfl ?_
        exact kt
      rcases Decidable.em ((((p6.toUInt32 >>> ((2 : Int32) &&& 31).toUInt32).toInt32) &&& (3 : Int32)) = (0 : Int32)) with c1138 | c1138
      · have f1140 := (Exa.keep f1110 k1123)
        have f1141 := (Fld.keep (Fld.ext E1075 f1067) k1123 (ninS ne1076 (ninS ne906 (ninS ne933 nin0))))
        have f1142 := (Fld.keep (Fld.ext E1075 f1068) k1123 (ninS ne1076 (ninS ne906 (ninS ne933 nin0))))
        have f1143 := (Exa.keep (Exa.ext E1075 f1077) k1123)
        have f1144 := (Arv.keep (Arv.ext (Arv.keep f1050 k1061 (ninS ne1020 (ninS (own_exane f1143 f1140 (by decide)) (ninS ne37 nin0)))) E1075) k1123 (ninS ne1078 (ninS ne908 (ninS ne935 nin0))))
        have f1145 := (Exa.keep f1109 k1123)
        have f1146 := (Arv.keep f1112 k1123 (ninS ne1085 (ninS (own_exane f1145 f1128 (by decide)) (ninS ne941 nin0))))
        obtain ⟨_, _, ⟨T1139, L1139, k1139, n1139⟩, -, X1139, ⟨Lc1139, hQ1139, l1139, y1139, z1139⟩, st1139⟩ := Jvm.LawKit.callS X1105 hx (y := (⟨"com/example/typecheck/typecheck/model/QNameEqualsPinLaw", "same", "(Ljava/lang/String;Ljava/lang/String;)Z"⟩ : MethodName)) ho978 (mvT hZ978 (own_w hw 60 rfl)) (mvT hZ978 (own_w hw 61 rfl)) (mvT hZ978 (own_w hw 2 rfl)) (mvT hZ978 (own_w hw 62 rfl)) (by decide) (backOf (W := 0) (rm_same l Z a0 hw [] x2 x3 x4 (own_cs p1) x890 x891 x892 (own_cs p1) zc fm T1105.heap n0 O1136 f1140 f1141 f1142 f1143 f1144 f1128 f1129 f1130 f1145 f1146 (own_csok p1) (own_csok p1) S_C hzc S_F hfm) hZ978 (own_w hw 62 rfl) (own_w hw 2 rfl) (by decide) (by decide)) (g := (mkF m 115 #[.val (.int p1), .val (.int p2), .val (.int p3), .val (.int p4), .val (.int p5), .val (.int p6), .val (.ref x2), .val (.ref x21), .val (.ref x890), .val (.ref x917), .val (.ref x946), .val (.ref x979), .val (.ref b1016), .val (.ref b1075), .val (.int (((p6.toUInt32 >>> ((2 : Int32) &&& 31).toUInt32).toInt32) &&& (3 : Int32))), .unset] [(.ref x890), (.ref x2)])) rfl (by rw [hml]; rfl) (argsL := [(.ref x2), (.ref x890)]) (rest := []) (lenOf pd_14 rfl) rfl (by show 2 * 0 + _ ≤ _; exact Nat.le_of_eq rfl) (hb hby at_115) (fun _ _ => ⟨rfl, rfl, (by decide : 38 + 0 ≤ _), (by decide : 80 + 0 ≤ _)⟩)
        dsimp only [Pt.U, Pt.locs, Pt.cells, Pt.slots] at X1139 l1139 y1139 z1139 st1139 hQ1139
        subst l1139 y1139 z1139
        obtain ⟨rfl, N1147, k1148⟩ := hQ1139
        have N1149 := Fr.app N1134 N1147
        have f1151 := (Exa.keep f1111 k1123)
        have f1152 := (Fld.keep (Fld.ext E1075 f1070) k1123 (ninS ne1079 (ninS ne909 (ninS ne937 nin0))))
        have f1153 := (Fld.keep (Fld.ext E1075 f1071) k1123 (ninS ne1079 (ninS ne909 (ninS ne937 nin0))))
        have f1154 := (Exa.keep (Exa.ext E1075 f1080) k1123)
        have f1155 := (Arv.keep (Arv.ext (Arv.keep f1057 k1061 (ninS ne1024 (ninS (own_exane f1154 f1140 (by decide)) (ninS (own_exane f1154 f1151 (by decide)) nin0)))) E1075) k1123 (ninS ne1081 (ninS ne910 (ninS ne939 nin0))))
        have f1156 := (Exa.keep f1118 k1123)
        have f1157 := (Arv.keep f1119 k1123 (ninS ne1089 (ninS (own_exane f1156 f1128 (by decide)) (ninS (own_exane f1156 f1131 (by decide)) nin0))))
        obtain ⟨_, _, ⟨T1150, L1150, k1150, n1150⟩, -, X1150, ⟨Lc1150, hQ1150, l1150, y1150, z1150⟩, st1150⟩ := Jvm.LawKit.callS X1139 hx (y := (⟨"com/example/typecheck/typecheck/model/QNameEqualsPinLaw", "same", "(Ljava/lang/String;Ljava/lang/String;)Z"⟩ : MethodName)) ho978 (mvT hZ978 (own_w hw 60 rfl)) (mvT hZ978 (own_w hw 61 rfl)) (mvT hZ978 (own_w hw 2 rfl)) (mvT hZ978 (own_w hw 62 rfl)) (by decide) (backOf (W := 0) (rm_same l Z a0 hw [] x21 x22 x23 (own_cs p2) x917 x918 x919 (own_cs p4) zc fm T1105.heap n0 O1136 f1151 f1152 f1153 f1154 f1155 f1131 f1132 f1133 f1156 f1157 (own_csok p2) (own_csok p4) S_C hzc S_F hfm) hZ978 (own_w hw 62 rfl) (own_w hw 2 rfl) (by decide) (by decide)) (g := (mkF m 125 #[.val (.int p1), .val (.int p2), .val (.int p3), .val (.int p4), .val (.int p5), .val (.int p6), .val (.ref x2), .val (.ref x21), .val (.ref x890), .val (.ref x917), .val (.ref x946), .val (.ref x979), .val (.ref b1016), .val (.ref b1075), .val (.int (((p6.toUInt32 >>> ((2 : Int32) &&& 31).toUInt32).toInt32) &&& (3 : Int32))), .unset] [(.ref x917), (.ref x21)])) rfl (by rw [hml]; rfl) (argsL := [(.ref x21), (.ref x917)]) (rest := []) (lenOf pd_14 rfl) rfl (by show 2 * 0 + _ ≤ _; exact Nat.le_of_eq rfl) (hb hby at_125) (fun _ _ => ⟨rfl, k1148, (by decide : 38 + 0 ≤ _), (by decide : 80 + 0 ≤ _)⟩)
        dsimp only [Pt.U, Pt.locs, Pt.cells, Pt.slots] at X1150 l1150 y1150 z1150 st1150 hQ1150
        subst l1150 y1150 z1150
        obtain ⟨rfl, N1158, k1159⟩ := hQ1150
        have N1160 := Fr.app N1149 N1158
        have S1161 : ∀ t, Steps p.tables e below (T1150.setTop (mkF m 128 #[.val (.int p1), .val (.int p2), .val (.int p3), .val (.int p4), .val (.int p5), .val (.int p6), .val (.ref x2), .val (.ref x21), .val (.ref x890), .val (.ref x917), .val (.ref x946), .val (.ref x979), .val (.ref b1016), .val (.ref b1075), .val (.int (((p6.toUInt32 >>> ((2 : Int32) &&& 31).toUInt32).toInt32) &&& (3 : Int32))), .unset] [(.int (own_eqI (own_cs p2) (own_cs p4)))])) t → Steps p.tables e below (s₁.setTop (mkF m 0 #[.val (.int p1), .val (.int p2), .val (.int p3), .val (.int p4), .val (.int p5), .val (.int p6), .unset, .unset, .unset, .unset, .unset, .unset, .unset, .unset, .unset, .unset] [])) t := by
          intro t kt
          refine S1137 t ?_
          refine XS.ifNo X1105.here hx rfl (hb hby at_108) rfl ((if0 _ _).trans (teq (c1138 : (((p6.toUInt32 >>> ((2 : Int32) &&& 31).toUInt32).toInt32) &&& (3 : Int32)) = (0 : Int32))).2) ?_
          refine XS.aload X1105.here hx rfl (hb hby at_111) rfl rfl ?_
          refine XS.aload X1105.here hx rfl (hb hby at_113) rfl rfl ?_
          show Steps p.tables e below (T1105.setTop (mkF m 115 #[.val (.int p1), .val (.int p2), .val (.int p3), .val (.int p4), .val (.int p5), .val (.int p6), .val (.ref x2), .val (.ref x21), .val (.ref x890), .val (.ref x917), .val (.ref x946), .val (.ref x979), .val (.ref b1016), .val (.ref b1075), .val (.int (((p6.toUInt32 >>> ((2 : Int32) &&& 31).toUInt32).toInt32) &&& (3 : Int32))), .unset] [(.ref x890), (.ref x2)])) _
          refine st1139 _ ?_
          refine XS.ifNo X1139.here hx rfl (hb hby at_118) rfl ((if0 _ _).trans (feq ((own_eq1 rfl) : ¬ ((own_eqI (own_cs p1) (own_cs p1)) = (0 : Int32)))).1) ?_
          refine XS.aload X1139.here hx rfl (hb hby at_121) rfl rfl ?_
          refine XS.aload X1139.here hx rfl (hb hby at_123) rfl rfl ?_
          show Steps p.tables e below (T1139.setTop (mkF m 125 #[.val (.int p1), .val (.int p2), .val (.int p3), .val (.int p4), .val (.int p5), .val (.int p6), .val (.ref x2), .val (.ref x21), .val (.ref x890), .val (.ref x917), .val (.ref x946), .val (.ref x979), .val (.ref b1016), .val (.ref b1075), .val (.int (((p6.toUInt32 >>> ((2 : Int32) &&& 31).toUInt32).toInt32) &&& (3 : Int32))), .unset] [(.ref x917), (.ref x21)])) _
          refine st1150 _ ?_
          exact kt
        rcases Decidable.em ((own_cs p2) = (own_cs p4)) with c1162 | c1162
        · have f1164 := (Exa.keep (Exa.ext E1075 f1062) k1123)
          have f1165 := (Fld.keep (Fld.ext E1075 f1065) k1123 (ninS ne1098 (ninS (Ne.symm ne1026) (ninS (Ne.symm ne1030) nin0))))
          have f1166 := (Fld.keep (Fld.ext E1075 f1063) k1123 (ninS ne1098 (ninS (Ne.symm ne1026) (ninS (Ne.symm ne1030) nin0))))
          have f1167 := (Fld.keep (Fld.ext E1075 f1064) k1123 (ninS ne1098 (ninS (Ne.symm ne1026) (ninS (Ne.symm ne1030) nin0))))
          obtain ⟨cq1163, kq1163, q1163a, q1163b, q1163c⟩ := isOf hZ978 k1159 f1164
          obtain ⟨_, _, ⟨T1163, L1163, k1163, n1163⟩, -, X1163, ⟨Lc1163, hQ1163, l1163, y1163, z1163⟩, st1163⟩ := X1150.virtualBack hx (y := (⟨"com/example/typecheck/typecheck/model/QName", "equals", "(Ljava/lang/Object;)Z"⟩ : MethodName)) (z := (⟨"com/example/typecheck/typecheck/model/QName", "equals", "(Ljava/lang/Object;)Z"⟩ : MethodName)) ho978 (mvT hZ978 (own_w hw 73 rfl)) (mvT hZ978 (own_w hw 74 rfl)) (notFace_of_selects (args := #[]) (mvT hZ978 (own_w hw 76 rfl))) (mvT hZ978 (own_w hw 76 rfl)) (mvT hZ978 (own_w hw 75 rfl)) (by decide) (backOf (W := 0) (rm_qeq l Z a0 hw [] b1016 (((31 : Int32) * (own_H (own_cs p1))) + (own_H (own_cs p2))) x2 x3 x4 (own_cs p1) x21 x22 x23 (own_cs p2) b1075 (((31 : Int32) * (own_H (own_cs p1))) + (own_H (own_cs p4))) x890 x891 x892 (own_cs p1) x917 x918 x919 (own_cs p4) zc T1105.heap n0 O1136 f1164 f1165 f1166 f1167 f1140 f1141 f1142 f1143 f1144 f1151 f1152 f1153 f1154 f1155 (own_csok p1) (own_csok p2) f1124 f1127 f1125 f1126 f1128 f1129 f1130 f1145 f1146 f1131 f1132 f1133 f1156 f1157 (own_csok p1) (own_csok p4) ne1098 S_C hzc) hZ978 (own_w hw 77 rfl) (own_w hw 28 rfl) (by decide) (by decide)) q1163a q1163c (g := (mkF m 142 #[.val (.int p1), .val (.int p2), .val (.int p3), .val (.int p4), .val (.int p5), .val (.int p6), .val (.ref x2), .val (.ref x21), .val (.ref x890), .val (.ref x917), .val (.ref x946), .val (.ref x979), .val (.ref b1016), .val (.ref b1075), .val (.int (((p6.toUInt32 >>> ((2 : Int32) &&& 31).toUInt32).toInt32) &&& (3 : Int32))), .val (.int (1 : Int32))] [(.ref b1075), (.ref b1016)])) rfl (by rw [hml]; rfl) (Steps.refl _) (argsL := [(.ref b1075)]) (rest := []) (lenOf pd_11 rfl) rfl (by show 2 * 0 + _ ≤ _; exact Nat.le_of_eq rfl) (hb hby at_142) (fun _ _ => ⟨rfl, k1159, (by decide : 38 + 0 ≤ _), (by decide : 80 + 0 ≤ _)⟩)
          dsimp only [Pt.U, Pt.locs, Pt.cells, Pt.slots] at X1163 l1163 y1163 z1163 st1163 hQ1163
          subst l1163 y1163 z1163
          rcases hQ1163 with ⟨c1168, c1169, rfl, N1170, k1171⟩ | ⟨c1172, rfl, N1173, k1174⟩ | ⟨c1175, rfl, N1176, k1177⟩ | ⟨c1178, rfl, N1179, k1180⟩
          · have N1181 := Fr.app N1160 N1170
            obtain ⟨cq1182, kq1182, q1182a, q1182b, q1182c⟩ := isOf hZ978 k1171 f1124
            obtain ⟨_, _, ⟨T1182, L1182, k1182, n1182⟩, -, X1182, ⟨Lc1182, hQ1182, l1182, y1182, z1182⟩, st1182⟩ := X1163.virtualBack hx (y := (⟨"com/example/typecheck/typecheck/model/QName", "equals", "(Ljava/lang/Object;)Z"⟩ : MethodName)) (z := (⟨"com/example/typecheck/typecheck/model/QName", "equals", "(Ljava/lang/Object;)Z"⟩ : MethodName)) ho978 (mvT hZ978 (own_w hw 73 rfl)) (mvT hZ978 (own_w hw 74 rfl)) (notFace_of_selects (args := #[]) (mvT hZ978 (own_w hw 76 rfl))) (mvT hZ978 (own_w hw 76 rfl)) (mvT hZ978 (own_w hw 75 rfl)) (by decide) (backOf (W := 0) (rm_qeq l Z a0 hw [] b1075 (((31 : Int32) * (own_H (own_cs p1))) + (own_H (own_cs p4))) x890 x891 x892 (own_cs p1) x917 x918 x919 (own_cs p4) b1016 (((31 : Int32) * (own_H (own_cs p1))) + (own_H (own_cs p2))) x2 x3 x4 (own_cs p1) x21 x22 x23 (own_cs p2) zc T1105.heap n0 O1136 f1124 f1127 f1125 f1126 f1128 f1129 f1130 f1145 f1146 f1131 f1132 f1133 f1156 f1157 (own_csok p1) (own_csok p4) f1164 f1165 f1166 f1167 f1140 f1141 f1142 f1143 f1144 f1151 f1152 f1153 f1154 f1155 (own_csok p1) (own_csok p2) (Ne.symm ne1098) S_C hzc) hZ978 (own_w hw 77 rfl) (own_w hw 28 rfl) (by decide) (by decide)) q1182a q1182c (g := (mkF m 154 #[.val (.int p1), .val (.int p2), .val (.int p3), .val (.int p4), .val (.int p5), .val (.int p6), .val (.ref x2), .val (.ref x21), .val (.ref x890), .val (.ref x917), .val (.ref x946), .val (.ref x979), .val (.ref b1016), .val (.ref b1075), .val (.int (((p6.toUInt32 >>> ((2 : Int32) &&& 31).toUInt32).toInt32) &&& (3 : Int32))), .val (.int (1 : Int32))] [(.ref b1016), (.ref b1075)])) rfl (by rw [hml]; rfl) (Steps.refl _) (argsL := [(.ref b1016)]) (rest := []) (lenOf pd_11 rfl) rfl (by show 2 * 0 + _ ≤ _; exact Nat.le_of_eq rfl) (hb hby at_154) (fun _ _ => ⟨rfl, k1171, (by decide : 38 + 0 ≤ _), (by decide : 80 + 0 ≤ _)⟩)
            dsimp only [Pt.U, Pt.locs, Pt.cells, Pt.slots] at X1182 l1182 y1182 z1182 st1182 hQ1182
            subst l1182 y1182 z1182
            rcases hQ1182 with ⟨c1183, c1184, rfl, N1185, k1186⟩ | ⟨c1187, rfl, N1188, k1189⟩ | ⟨c1190, rfl, N1191, k1192⟩ | ⟨c1193, rfl, N1194, k1195⟩
            · have N1196 := Fr.app N1181 N1185
              have S1197 : ∀ t, Steps p.tables e below (T1182.setTop (mkF m 167 #[.val (.int p1), .val (.int p2), .val (.int p3), .val (.int p4), .val (.int p5), .val (.int p6), .val (.ref x2), .val (.ref x21), .val (.ref x890), .val (.ref x917), .val (.ref x946), .val (.ref x979), .val (.ref b1016), .val (.ref b1075), .val (.int (((p6.toUInt32 >>> ((2 : Int32) &&& 31).toUInt32).toInt32) &&& (3 : Int32))), .val (.int (1 : Int32))] [(.int (1 : Int32))])) t → Steps p.tables e below (s₁.setTop (mkF m 0 #[.val (.int p1), .val (.int p2), .val (.int p3), .val (.int p4), .val (.int p5), .val (.int p6), .unset, .unset, .unset, .unset, .unset, .unset, .unset, .unset, .unset, .unset] [])) t := by
                intro t kt
                refine S1161 t ?_
                refine XS.ifNo X1150.here hx rfl (hb hby at_128) rfl ((if0 _ _).trans (feq ((own_eq1 c1162) : ¬ ((own_eqI (own_cs p2) (own_cs p4)) = (0 : Int32)))).1) ?_
                refine XS.iconst X1150.here hx rfl (hb hby at_131) ?_
                refine XS.goto X1150.here hx rfl (pc0 := 132) (pc' := 136) rfl (hb hby at_132) (by decide) (by decide) ?_
                refine XS.istore X1150.here hx rfl (hb hby at_136) rfl (l' := #[.val (.int p1), .val (.int p2), .val (.int p3), .val (.int p4), .val (.int p5), .val (.int p6), .val (.ref x2), .val (.ref x21), .val (.ref x890), .val (.ref x917), .val (.ref x946), .val (.ref x979), .val (.ref b1016), .val (.ref b1075), .val (.int (((p6.toUInt32 >>> ((2 : Int32) &&& 31).toUInt32).toInt32) &&& (3 : Int32))), .val (.int (1 : Int32))]) rfl ?_
                refine XS.aload X1150.here hx rfl (hb hby at_138) rfl rfl ?_
                refine XS.aload X1150.here hx rfl (hb hby at_140) rfl rfl ?_
                show Steps p.tables e below (T1150.setTop (mkF m 142 #[.val (.int p1), .val (.int p2), .val (.int p3), .val (.int p4), .val (.int p5), .val (.int p6), .val (.ref x2), .val (.ref x21), .val (.ref x890), .val (.ref x917), .val (.ref x946), .val (.ref x979), .val (.ref b1016), .val (.ref b1075), .val (.int (((p6.toUInt32 >>> ((2 : Int32) &&& 31).toUInt32).toInt32) &&& (3 : Int32))), .val (.int (1 : Int32))] [(.ref b1075), (.ref b1016)])) _
                refine st1163.trans ?_
                refine XS.iload X1163.here hx rfl (hb hby at_145) rfl ?_
                refine XS.icmpNo X1163.here hx rfl (hb hby at_147) rfl (teq ((by decide) : (1 : Int32) = (1 : Int32))).2 ?_
                refine XS.aload X1163.here hx rfl (hb hby at_150) rfl rfl ?_
                refine XS.aload X1163.here hx rfl (hb hby at_152) rfl rfl ?_
                show Steps p.tables e below (T1163.setTop (mkF m 154 #[.val (.int p1), .val (.int p2), .val (.int p3), .val (.int p4), .val (.int p5), .val (.int p6), .val (.ref x2), .val (.ref x21), .val (.ref x890), .val (.ref x917), .val (.ref x946), .val (.ref x979), .val (.ref b1016), .val (.ref b1075), .val (.int (((p6.toUInt32 >>> ((2 : Int32) &&& 31).toUInt32).toInt32) &&& (3 : Int32))), .val (.int (1 : Int32))] [(.ref b1016), (.ref b1075)])) _
                refine st1182.trans ?_
                refine XS.iload X1182.here hx rfl (hb hby at_157) rfl ?_
                refine XS.icmpNo X1182.here hx rfl (hb hby at_159) rfl (teq ((by decide) : (1 : Int32) = (1 : Int32))).2 ?_
                refine XS.iconst X1182.here hx rfl (hb hby at_162) ?_
                refine XS.goto X1182.here hx rfl (pc0 := 163) (pc' := 167) rfl (hb hby at_163) (by decide) (by decide) ?_
                exact kt
              obtain ⟨fs, hr, hrun, hended, hRW⟩ := X1182.leaveW hS978 (by rw [k1186]; exact hk1135) (v := some (.int (1 : Int32))) (fun h => by rw [Bd.returns] at h; cases h)
              refine ⟨_, _, pre0 _ (S1197 _ ?_), hrun, hended, _, _, rfl, ?_, hRW.1, hRW.2.1, hRW.2.2.1, hRW.2.2.2.mono (by decide) (by decide)⟩
              · exact retN X1182 hx (t := .boolean) Bd.returns (by simp) (hb hby at_167) hr
              · show Q_rm_law Z p1 p2 p3 p4 p5 p6 zc fm h0 n0 _ T1182.heap _
                rw [k1186]
                exact ⟨rfl, N1196⟩
            · exact absurd ((Eq.symm (own_hq rfl c1162)) : (((31 : Int32) * (own_H (own_cs p1))) + (own_H (own_cs p4))) = (((31 : Int32) * (own_H (own_cs p1))) + (own_H (own_cs p2)))) c1187
            · exact absurd ((Eq.symm c1162) : (own_cs p4) = (own_cs p2)) c1190
            · exact absurd (c1169 : (own_cs p1) = (own_cs p1)) c1193
          · exact absurd ((own_hq rfl c1162) : (((31 : Int32) * (own_H (own_cs p1))) + (own_H (own_cs p2))) = (((31 : Int32) * (own_H (own_cs p1))) + (own_H (own_cs p4)))) c1172
          · exact absurd (c1162 : (own_cs p2) = (own_cs p4)) c1175
          · exact absurd ((Eq.symm rfl) : (own_cs p1) = (own_cs p1)) c1178
        · have f1199 := (Exa.keep (Exa.ext E1075 f1062) k1123)
          have f1200 := (Fld.keep (Fld.ext E1075 f1065) k1123 (ninS ne1098 (ninS (Ne.symm ne1026) (ninS (Ne.symm ne1030) nin0))))
          have f1201 := (Fld.keep (Fld.ext E1075 f1063) k1123 (ninS ne1098 (ninS (Ne.symm ne1026) (ninS (Ne.symm ne1030) nin0))))
          have f1202 := (Fld.keep (Fld.ext E1075 f1064) k1123 (ninS ne1098 (ninS (Ne.symm ne1026) (ninS (Ne.symm ne1030) nin0))))
          obtain ⟨cq1198, kq1198, q1198a, q1198b, q1198c⟩ := isOf hZ978 k1159 f1199
          obtain ⟨_, _, ⟨T1198, L1198, k1198, n1198⟩, -, X1198, ⟨Lc1198, hQ1198, l1198, y1198, z1198⟩, st1198⟩ := X1150.virtualBack hx (y := (⟨"com/example/typecheck/typecheck/model/QName", "equals", "(Ljava/lang/Object;)Z"⟩ : MethodName)) (z := (⟨"com/example/typecheck/typecheck/model/QName", "equals", "(Ljava/lang/Object;)Z"⟩ : MethodName)) ho978 (mvT hZ978 (own_w hw 73 rfl)) (mvT hZ978 (own_w hw 74 rfl)) (notFace_of_selects (args := #[]) (mvT hZ978 (own_w hw 76 rfl))) (mvT hZ978 (own_w hw 76 rfl)) (mvT hZ978 (own_w hw 75 rfl)) (by decide) (backOf (W := 0) (rm_qeq l Z a0 hw [] b1016 (((31 : Int32) * (own_H (own_cs p1))) + (own_H (own_cs p2))) x2 x3 x4 (own_cs p1) x21 x22 x23 (own_cs p2) b1075 (((31 : Int32) * (own_H (own_cs p1))) + (own_H (own_cs p4))) x890 x891 x892 (own_cs p1) x917 x918 x919 (own_cs p4) zc T1105.heap n0 O1136 f1199 f1200 f1201 f1202 f1140 f1141 f1142 f1143 f1144 f1151 f1152 f1153 f1154 f1155 (own_csok p1) (own_csok p2) f1124 f1127 f1125 f1126 f1128 f1129 f1130 f1145 f1146 f1131 f1132 f1133 f1156 f1157 (own_csok p1) (own_csok p4) ne1098 S_C hzc) hZ978 (own_w hw 77 rfl) (own_w hw 28 rfl) (by decide) (by decide)) q1198a q1198c (g := (mkF m 142 #[.val (.int p1), .val (.int p2), .val (.int p3), .val (.int p4), .val (.int p5), .val (.int p6), .val (.ref x2), .val (.ref x21), .val (.ref x890), .val (.ref x917), .val (.ref x946), .val (.ref x979), .val (.ref b1016), .val (.ref b1075), .val (.int (((p6.toUInt32 >>> ((2 : Int32) &&& 31).toUInt32).toInt32) &&& (3 : Int32))), .val (.int (0 : Int32))] [(.ref b1075), (.ref b1016)])) rfl (by rw [hml]; rfl) (Steps.refl _) (argsL := [(.ref b1075)]) (rest := []) (lenOf pd_11 rfl) rfl (by show 2 * 0 + _ ≤ _; exact Nat.le_of_eq rfl) (hb hby at_142) (fun _ _ => ⟨rfl, k1159, (by decide : 38 + 0 ≤ _), (by decide : 80 + 0 ≤ _)⟩)
          dsimp only [Pt.U, Pt.locs, Pt.cells, Pt.slots] at X1198 l1198 y1198 z1198 st1198 hQ1198
          subst l1198 y1198 z1198
          rcases hQ1198 with ⟨c1203, c1204, rfl, N1205, k1206⟩ | ⟨c1207, rfl, N1208, k1209⟩ | ⟨c1210, rfl, N1211, k1212⟩ | ⟨c1213, rfl, N1214, k1215⟩
          · exact absurd c1203 (c1162 : ¬ ((own_cs p2) = (own_cs p4)))
          · have N1216 := Fr.app N1160 N1208
            obtain ⟨cq1217, kq1217, q1217a, q1217b, q1217c⟩ := isOf hZ978 k1209 f1124
            obtain ⟨_, _, ⟨T1217, L1217, k1217, n1217⟩, -, X1217, ⟨Lc1217, hQ1217, l1217, y1217, z1217⟩, st1217⟩ := X1198.virtualBack hx (y := (⟨"com/example/typecheck/typecheck/model/QName", "equals", "(Ljava/lang/Object;)Z"⟩ : MethodName)) (z := (⟨"com/example/typecheck/typecheck/model/QName", "equals", "(Ljava/lang/Object;)Z"⟩ : MethodName)) ho978 (mvT hZ978 (own_w hw 73 rfl)) (mvT hZ978 (own_w hw 74 rfl)) (notFace_of_selects (args := #[]) (mvT hZ978 (own_w hw 76 rfl))) (mvT hZ978 (own_w hw 76 rfl)) (mvT hZ978 (own_w hw 75 rfl)) (by decide) (backOf (W := 0) (rm_qeq l Z a0 hw [] b1075 (((31 : Int32) * (own_H (own_cs p1))) + (own_H (own_cs p4))) x890 x891 x892 (own_cs p1) x917 x918 x919 (own_cs p4) b1016 (((31 : Int32) * (own_H (own_cs p1))) + (own_H (own_cs p2))) x2 x3 x4 (own_cs p1) x21 x22 x23 (own_cs p2) zc T1105.heap n0 O1136 f1124 f1127 f1125 f1126 f1128 f1129 f1130 f1145 f1146 f1131 f1132 f1133 f1156 f1157 (own_csok p1) (own_csok p4) f1199 f1200 f1201 f1202 f1140 f1141 f1142 f1143 f1144 f1151 f1152 f1153 f1154 f1155 (own_csok p1) (own_csok p2) (Ne.symm ne1098) S_C hzc) hZ978 (own_w hw 77 rfl) (own_w hw 28 rfl) (by decide) (by decide)) q1217a q1217c (g := (mkF m 154 #[.val (.int p1), .val (.int p2), .val (.int p3), .val (.int p4), .val (.int p5), .val (.int p6), .val (.ref x2), .val (.ref x21), .val (.ref x890), .val (.ref x917), .val (.ref x946), .val (.ref x979), .val (.ref b1016), .val (.ref b1075), .val (.int (((p6.toUInt32 >>> ((2 : Int32) &&& 31).toUInt32).toInt32) &&& (3 : Int32))), .val (.int (0 : Int32))] [(.ref b1016), (.ref b1075)])) rfl (by rw [hml]; rfl) (Steps.refl _) (argsL := [(.ref b1016)]) (rest := []) (lenOf pd_11 rfl) rfl (by show 2 * 0 + _ ≤ _; exact Nat.le_of_eq rfl) (hb hby at_154) (fun _ _ => ⟨rfl, k1209, (by decide : 38 + 0 ≤ _), (by decide : 80 + 0 ≤ _)⟩)
            dsimp only [Pt.U, Pt.locs, Pt.cells, Pt.slots] at X1217 l1217 y1217 z1217 st1217 hQ1217
            subst l1217 y1217 z1217
            rcases hQ1217 with ⟨c1218, c1219, rfl, N1220, k1221⟩ | ⟨c1222, rfl, N1223, k1224⟩ | ⟨c1225, rfl, N1226, k1227⟩ | ⟨c1228, rfl, N1229, k1230⟩
            · exact absurd c1218 ((fun q => c1162 q.symm) : ¬ ((own_cs p4) = (own_cs p2)))
            · have N1231 := Fr.app N1216 N1223
              have S1232 : ∀ t, Steps p.tables e below (T1217.setTop (mkF m 167 #[.val (.int p1), .val (.int p2), .val (.int p3), .val (.int p4), .val (.int p5), .val (.int p6), .val (.ref x2), .val (.ref x21), .val (.ref x890), .val (.ref x917), .val (.ref x946), .val (.ref x979), .val (.ref b1016), .val (.ref b1075), .val (.int (((p6.toUInt32 >>> ((2 : Int32) &&& 31).toUInt32).toInt32) &&& (3 : Int32))), .val (.int (0 : Int32))] [(.int (1 : Int32))])) t → Steps p.tables e below (s₁.setTop (mkF m 0 #[.val (.int p1), .val (.int p2), .val (.int p3), .val (.int p4), .val (.int p5), .val (.int p6), .unset, .unset, .unset, .unset, .unset, .unset, .unset, .unset, .unset, .unset] [])) t := by
                intro t kt
                refine S1161 t ?_
                refine XS.ifYes X1150.here hx rfl (pc0 := 128) (pc' := 135) rfl (hb hby at_128) rfl ((if0 _ _).trans (teq ((own_eq0 c1162) : (own_eqI (own_cs p2) (own_cs p4)) = (0 : Int32))).1) (by decide) (by decide) ?_
                refine XS.iconst X1150.here hx rfl (hb hby at_135) ?_
                refine XS.istore X1150.here hx rfl (hb hby at_136) rfl (l' := #[.val (.int p1), .val (.int p2), .val (.int p3), .val (.int p4), .val (.int p5), .val (.int p6), .val (.ref x2), .val (.ref x21), .val (.ref x890), .val (.ref x917), .val (.ref x946), .val (.ref x979), .val (.ref b1016), .val (.ref b1075), .val (.int (((p6.toUInt32 >>> ((2 : Int32) &&& 31).toUInt32).toInt32) &&& (3 : Int32))), .val (.int (0 : Int32))]) rfl ?_
                refine XS.aload X1150.here hx rfl (hb hby at_138) rfl rfl ?_
                refine XS.aload X1150.here hx rfl (hb hby at_140) rfl rfl ?_
                show Steps p.tables e below (T1150.setTop (mkF m 142 #[.val (.int p1), .val (.int p2), .val (.int p3), .val (.int p4), .val (.int p5), .val (.int p6), .val (.ref x2), .val (.ref x21), .val (.ref x890), .val (.ref x917), .val (.ref x946), .val (.ref x979), .val (.ref b1016), .val (.ref b1075), .val (.int (((p6.toUInt32 >>> ((2 : Int32) &&& 31).toUInt32).toInt32) &&& (3 : Int32))), .val (.int (0 : Int32))] [(.ref b1075), (.ref b1016)])) _
                refine st1198.trans ?_
                refine XS.iload X1198.here hx rfl (hb hby at_145) rfl ?_
                refine XS.icmpNo X1198.here hx rfl (hb hby at_147) rfl (teq ((by decide) : (0 : Int32) = (0 : Int32))).2 ?_
                refine XS.aload X1198.here hx rfl (hb hby at_150) rfl rfl ?_
                refine XS.aload X1198.here hx rfl (hb hby at_152) rfl rfl ?_
                show Steps p.tables e below (T1198.setTop (mkF m 154 #[.val (.int p1), .val (.int p2), .val (.int p3), .val (.int p4), .val (.int p5), .val (.int p6), .val (.ref x2), .val (.ref x21), .val (.ref x890), .val (.ref x917), .val (.ref x946), .val (.ref x979), .val (.ref b1016), .val (.ref b1075), .val (.int (((p6.toUInt32 >>> ((2 : Int32) &&& 31).toUInt32).toInt32) &&& (3 : Int32))), .val (.int (0 : Int32))] [(.ref b1016), (.ref b1075)])) _
                refine st1217.trans ?_
                refine XS.iload X1217.here hx rfl (hb hby at_157) rfl ?_
                refine XS.icmpNo X1217.here hx rfl (hb hby at_159) rfl (teq ((by decide) : (0 : Int32) = (0 : Int32))).2 ?_
                refine XS.iconst X1217.here hx rfl (hb hby at_162) ?_
                refine XS.goto X1217.here hx rfl (pc0 := 163) (pc' := 167) rfl (hb hby at_163) (by decide) (by decide) ?_
                exact kt
              obtain ⟨fs, hr, hrun, hended, hRW⟩ := X1217.leaveW hS978 (by rw [k1224]; exact hk1135) (v := some (.int (1 : Int32))) (fun h => by rw [Bd.returns] at h; cases h)
              refine ⟨_, _, pre0 _ (S1232 _ ?_), hrun, hended, _, _, rfl, ?_, hRW.1, hRW.2.1, hRW.2.2.1, hRW.2.2.2.mono (by decide) (by decide)⟩
              · exact retN X1217 hx (t := .boolean) Bd.returns (by simp) (hb hby at_167) hr
              · show Q_rm_law Z p1 p2 p3 p4 p5 p6 zc fm h0 n0 _ T1217.heap _
                rw [k1224]
                exact ⟨rfl, N1231⟩
            · have N1233 := Fr.app N1216 N1226
              have S1234 : ∀ t, Steps p.tables e below (T1217.setTop (mkF m 167 #[.val (.int p1), .val (.int p2), .val (.int p3), .val (.int p4), .val (.int p5), .val (.int p6), .val (.ref x2), .val (.ref x21), .val (.ref x890), .val (.ref x917), .val (.ref x946), .val (.ref x979), .val (.ref b1016), .val (.ref b1075), .val (.int (((p6.toUInt32 >>> ((2 : Int32) &&& 31).toUInt32).toInt32) &&& (3 : Int32))), .val (.int (0 : Int32))] [(.int (1 : Int32))])) t → Steps p.tables e below (s₁.setTop (mkF m 0 #[.val (.int p1), .val (.int p2), .val (.int p3), .val (.int p4), .val (.int p5), .val (.int p6), .unset, .unset, .unset, .unset, .unset, .unset, .unset, .unset, .unset, .unset] [])) t := by
                intro t kt
                refine S1161 t ?_
                refine XS.ifYes X1150.here hx rfl (pc0 := 128) (pc' := 135) rfl (hb hby at_128) rfl ((if0 _ _).trans (teq ((own_eq0 c1162) : (own_eqI (own_cs p2) (own_cs p4)) = (0 : Int32))).1) (by decide) (by decide) ?_
                refine XS.iconst X1150.here hx rfl (hb hby at_135) ?_
                refine XS.istore X1150.here hx rfl (hb hby at_136) rfl (l' := #[.val (.int p1), .val (.int p2), .val (.int p3), .val (.int p4), .val (.int p5), .val (.int p6), .val (.ref x2), .val (.ref x21), .val (.ref x890), .val (.ref x917), .val (.ref x946), .val (.ref x979), .val (.ref b1016), .val (.ref b1075), .val (.int (((p6.toUInt32 >>> ((2 : Int32) &&& 31).toUInt32).toInt32) &&& (3 : Int32))), .val (.int (0 : Int32))]) rfl ?_
                refine XS.aload X1150.here hx rfl (hb hby at_138) rfl rfl ?_
                refine XS.aload X1150.here hx rfl (hb hby at_140) rfl rfl ?_
                show Steps p.tables e below (T1150.setTop (mkF m 142 #[.val (.int p1), .val (.int p2), .val (.int p3), .val (.int p4), .val (.int p5), .val (.int p6), .val (.ref x2), .val (.ref x21), .val (.ref x890), .val (.ref x917), .val (.ref x946), .val (.ref x979), .val (.ref b1016), .val (.ref b1075), .val (.int (((p6.toUInt32 >>> ((2 : Int32) &&& 31).toUInt32).toInt32) &&& (3 : Int32))), .val (.int (0 : Int32))] [(.ref b1075), (.ref b1016)])) _
                refine st1198.trans ?_
                refine XS.iload X1198.here hx rfl (hb hby at_145) rfl ?_
                refine XS.icmpNo X1198.here hx rfl (hb hby at_147) rfl (teq ((by decide) : (0 : Int32) = (0 : Int32))).2 ?_
                refine XS.aload X1198.here hx rfl (hb hby at_150) rfl rfl ?_
                refine XS.aload X1198.here hx rfl (hb hby at_152) rfl rfl ?_
                show Steps p.tables e below (T1198.setTop (mkF m 154 #[.val (.int p1), .val (.int p2), .val (.int p3), .val (.int p4), .val (.int p5), .val (.int p6), .val (.ref x2), .val (.ref x21), .val (.ref x890), .val (.ref x917), .val (.ref x946), .val (.ref x979), .val (.ref b1016), .val (.ref b1075), .val (.int (((p6.toUInt32 >>> ((2 : Int32) &&& 31).toUInt32).toInt32) &&& (3 : Int32))), .val (.int (0 : Int32))] [(.ref b1016), (.ref b1075)])) _
                refine st1217.trans ?_
                refine XS.iload X1217.here hx rfl (hb hby at_157) rfl ?_
                refine XS.icmpNo X1217.here hx rfl (hb hby at_159) rfl (teq ((by decide) : (0 : Int32) = (0 : Int32))).2 ?_
                refine XS.iconst X1217.here hx rfl (hb hby at_162) ?_
                refine XS.goto X1217.here hx rfl (pc0 := 163) (pc' := 167) rfl (hb hby at_163) (by decide) (by decide) ?_
                exact kt
              obtain ⟨fs, hr, hrun, hended, hRW⟩ := X1217.leaveW hS978 (by rw [k1227]; exact hk1135) (v := some (.int (1 : Int32))) (fun h => by rw [Bd.returns] at h; cases h)
              refine ⟨_, _, pre0 _ (S1234 _ ?_), hrun, hended, _, _, rfl, ?_, hRW.1, hRW.2.1, hRW.2.2.1, hRW.2.2.2.mono (by decide) (by decide)⟩
              · exact retN X1217 hx (t := .boolean) Bd.returns (by simp) (hb hby at_167) hr
              · show Q_rm_law Z p1 p2 p3 p4 p5 p6 zc fm h0 n0 _ T1217.heap _
                rw [k1227]
                exact ⟨rfl, N1233⟩
            · exact absurd ((Eq.symm rfl) : (own_cs p1) = (own_cs p1)) c1228
          · have N1235 := Fr.app N1160 N1211
            obtain ⟨cq1236, kq1236, q1236a, q1236b, q1236c⟩ := isOf hZ978 k1212 f1124
            obtain ⟨_, _, ⟨T1236, L1236, k1236, n1236⟩, -, X1236, ⟨Lc1236, hQ1236, l1236, y1236, z1236⟩, st1236⟩ := X1198.virtualBack hx (y := (⟨"com/example/typecheck/typecheck/model/QName", "equals", "(Ljava/lang/Object;)Z"⟩ : MethodName)) (z := (⟨"com/example/typecheck/typecheck/model/QName", "equals", "(Ljava/lang/Object;)Z"⟩ : MethodName)) ho978 (mvT hZ978 (own_w hw 73 rfl)) (mvT hZ978 (own_w hw 74 rfl)) (notFace_of_selects (args := #[]) (mvT hZ978 (own_w hw 76 rfl))) (mvT hZ978 (own_w hw 76 rfl)) (mvT hZ978 (own_w hw 75 rfl)) (by decide) (backOf (W := 0) (rm_qeq l Z a0 hw [] b1075 (((31 : Int32) * (own_H (own_cs p1))) + (own_H (own_cs p4))) x890 x891 x892 (own_cs p1) x917 x918 x919 (own_cs p4) b1016 (((31 : Int32) * (own_H (own_cs p1))) + (own_H (own_cs p2))) x2 x3 x4 (own_cs p1) x21 x22 x23 (own_cs p2) zc T1105.heap n0 O1136 f1124 f1127 f1125 f1126 f1128 f1129 f1130 f1145 f1146 f1131 f1132 f1133 f1156 f1157 (own_csok p1) (own_csok p4) f1199 f1200 f1201 f1202 f1140 f1141 f1142 f1143 f1144 f1151 f1152 f1153 f1154 f1155 (own_csok p1) (own_csok p2) (Ne.symm ne1098) S_C hzc) hZ978 (own_w hw 77 rfl) (own_w hw 28 rfl) (by decide) (by decide)) q1236a q1236c (g := (mkF m 154 #[.val (.int p1), .val (.int p2), .val (.int p3), .val (.int p4), .val (.int p5), .val (.int p6), .val (.ref x2), .val (.ref x21), .val (.ref x890), .val (.ref x917), .val (.ref x946), .val (.ref x979), .val (.ref b1016), .val (.ref b1075), .val (.int (((p6.toUInt32 >>> ((2 : Int32) &&& 31).toUInt32).toInt32) &&& (3 : Int32))), .val (.int (0 : Int32))] [(.ref b1016), (.ref b1075)])) rfl (by rw [hml]; rfl) (Steps.refl _) (argsL := [(.ref b1016)]) (rest := []) (lenOf pd_11 rfl) rfl (by show 2 * 0 + _ ≤ _; exact Nat.le_of_eq rfl) (hb hby at_154) (fun _ _ => ⟨rfl, k1212, (by decide : 38 + 0 ≤ _), (by decide : 80 + 0 ≤ _)⟩)
            dsimp only [Pt.U, Pt.locs, Pt.cells, Pt.slots] at X1236 l1236 y1236 z1236 st1236 hQ1236
            subst l1236 y1236 z1236
            rcases hQ1236 with ⟨c1237, c1238, rfl, N1239, k1240⟩ | ⟨c1241, rfl, N1242, k1243⟩ | ⟨c1244, rfl, N1245, k1246⟩ | ⟨c1247, rfl, N1248, k1249⟩
            · exact absurd c1237 ((fun q => c1162 q.symm) : ¬ ((own_cs p4) = (own_cs p2)))
            · have N1250 := Fr.app N1235 N1242
              have S1251 : ∀ t, Steps p.tables e below (T1236.setTop (mkF m 167 #[.val (.int p1), .val (.int p2), .val (.int p3), .val (.int p4), .val (.int p5), .val (.int p6), .val (.ref x2), .val (.ref x21), .val (.ref x890), .val (.ref x917), .val (.ref x946), .val (.ref x979), .val (.ref b1016), .val (.ref b1075), .val (.int (((p6.toUInt32 >>> ((2 : Int32) &&& 31).toUInt32).toInt32) &&& (3 : Int32))), .val (.int (0 : Int32))] [(.int (1 : Int32))])) t → Steps p.tables e below (s₁.setTop (mkF m 0 #[.val (.int p1), .val (.int p2), .val (.int p3), .val (.int p4), .val (.int p5), .val (.int p6), .unset, .unset, .unset, .unset, .unset, .unset, .unset, .unset, .unset, .unset] [])) t := by
                intro t kt
                refine S1161 t ?_
                refine XS.ifYes X1150.here hx rfl (pc0 := 128) (pc' := 135) rfl (hb hby at_128) rfl ((if0 _ _).trans (teq ((own_eq0 c1162) : (own_eqI (own_cs p2) (own_cs p4)) = (0 : Int32))).1) (by decide) (by decide) ?_
                refine XS.iconst X1150.here hx rfl (hb hby at_135) ?_
                refine XS.istore X1150.here hx rfl (hb hby at_136) rfl (l' := #[.val (.int p1), .val (.int p2), .val (.int p3), .val (.int p4), .val (.int p5), .val (.int p6), .val (.ref x2), .val (.ref x21), .val (.ref x890), .val (.ref x917), .val (.ref x946), .val (.ref x979), .val (.ref b1016), .val (.ref b1075), .val (.int (((p6.toUInt32 >>> ((2 : Int32) &&& 31).toUInt32).toInt32) &&& (3 : Int32))), .val (.int (0 : Int32))]) rfl ?_
                refine XS.aload X1150.here hx rfl (hb hby at_138) rfl rfl ?_
                refine XS.aload X1150.here hx rfl (hb hby at_140) rfl rfl ?_
                show Steps p.tables e below (T1150.setTop (mkF m 142 #[.val (.int p1), .val (.int p2), .val (.int p3), .val (.int p4), .val (.int p5), .val (.int p6), .val (.ref x2), .val (.ref x21), .val (.ref x890), .val (.ref x917), .val (.ref x946), .val (.ref x979), .val (.ref b1016), .val (.ref b1075), .val (.int (((p6.toUInt32 >>> ((2 : Int32) &&& 31).toUInt32).toInt32) &&& (3 : Int32))), .val (.int (0 : Int32))] [(.ref b1075), (.ref b1016)])) _
                refine st1198.trans ?_
                refine XS.iload X1198.here hx rfl (hb hby at_145) rfl ?_
                refine XS.icmpNo X1198.here hx rfl (hb hby at_147) rfl (teq ((by decide) : (0 : Int32) = (0 : Int32))).2 ?_
                refine XS.aload X1198.here hx rfl (hb hby at_150) rfl rfl ?_
                refine XS.aload X1198.here hx rfl (hb hby at_152) rfl rfl ?_
                show Steps p.tables e below (T1198.setTop (mkF m 154 #[.val (.int p1), .val (.int p2), .val (.int p3), .val (.int p4), .val (.int p5), .val (.int p6), .val (.ref x2), .val (.ref x21), .val (.ref x890), .val (.ref x917), .val (.ref x946), .val (.ref x979), .val (.ref b1016), .val (.ref b1075), .val (.int (((p6.toUInt32 >>> ((2 : Int32) &&& 31).toUInt32).toInt32) &&& (3 : Int32))), .val (.int (0 : Int32))] [(.ref b1016), (.ref b1075)])) _
                refine st1236.trans ?_
                refine XS.iload X1236.here hx rfl (hb hby at_157) rfl ?_
                refine XS.icmpNo X1236.here hx rfl (hb hby at_159) rfl (teq ((by decide) : (0 : Int32) = (0 : Int32))).2 ?_
                refine XS.iconst X1236.here hx rfl (hb hby at_162) ?_
                refine XS.goto X1236.here hx rfl (pc0 := 163) (pc' := 167) rfl (hb hby at_163) (by decide) (by decide) ?_
                exact kt
              obtain ⟨fs, hr, hrun, hended, hRW⟩ := X1236.leaveW hS978 (by rw [k1243]; exact hk1135) (v := some (.int (1 : Int32))) (fun h => by rw [Bd.returns] at h; cases h)
              refine ⟨_, _, pre0 _ (S1251 _ ?_), hrun, hended, _, _, rfl, ?_, hRW.1, hRW.2.1, hRW.2.2.1, hRW.2.2.2.mono (by decide) (by decide)⟩
              · exact retN X1236 hx (t := .boolean) Bd.returns (by simp) (hb hby at_167) hr
              · show Q_rm_law Z p1 p2 p3 p4 p5 p6 zc fm h0 n0 _ T1236.heap _
                rw [k1243]
                exact ⟨rfl, N1250⟩
            · have N1252 := Fr.app N1235 N1245
              have S1253 : ∀ t, Steps p.tables e below (T1236.setTop (mkF m 167 #[.val (.int p1), .val (.int p2), .val (.int p3), .val (.int p4), .val (.int p5), .val (.int p6), .val (.ref x2), .val (.ref x21), .val (.ref x890), .val (.ref x917), .val (.ref x946), .val (.ref x979), .val (.ref b1016), .val (.ref b1075), .val (.int (((p6.toUInt32 >>> ((2 : Int32) &&& 31).toUInt32).toInt32) &&& (3 : Int32))), .val (.int (0 : Int32))] [(.int (1 : Int32))])) t → Steps p.tables e below (s₁.setTop (mkF m 0 #[.val (.int p1), .val (.int p2), .val (.int p3), .val (.int p4), .val (.int p5), .val (.int p6), .unset, .unset, .unset, .unset, .unset, .unset, .unset, .unset, .unset, .unset] [])) t := by
                intro t kt
                refine S1161 t ?_
                refine XS.ifYes X1150.here hx rfl (pc0 := 128) (pc' := 135) rfl (hb hby at_128) rfl ((if0 _ _).trans (teq ((own_eq0 c1162) : (own_eqI (own_cs p2) (own_cs p4)) = (0 : Int32))).1) (by decide) (by decide) ?_
                refine XS.iconst X1150.here hx rfl (hb hby at_135) ?_
                refine XS.istore X1150.here hx rfl (hb hby at_136) rfl (l' := #[.val (.int p1), .val (.int p2), .val (.int p3), .val (.int p4), .val (.int p5), .val (.int p6), .val (.ref x2), .val (.ref x21), .val (.ref x890), .val (.ref x917), .val (.ref x946), .val (.ref x979), .val (.ref b1016), .val (.ref b1075), .val (.int (((p6.toUInt32 >>> ((2 : Int32) &&& 31).toUInt32).toInt32) &&& (3 : Int32))), .val (.int (0 : Int32))]) rfl ?_
                refine XS.aload X1150.here hx rfl (hb hby at_138) rfl rfl ?_
                refine XS.aload X1150.here hx rfl (hb hby at_140) rfl rfl ?_
                show Steps p.tables e below (T1150.setTop (mkF m 142 #[.val (.int p1), .val (.int p2), .val (.int p3), .val (.int p4), .val (.int p5), .val (.int p6), .val (.ref x2), .val (.ref x21), .val (.ref x890), .val (.ref x917), .val (.ref x946), .val (.ref x979), .val (.ref b1016), .val (.ref b1075), .val (.int (((p6.toUInt32 >>> ((2 : Int32) &&& 31).toUInt32).toInt32) &&& (3 : Int32))), .val (.int (0 : Int32))] [(.ref b1075), (.ref b1016)])) _
                refine st1198.trans ?_
                refine XS.iload X1198.here hx rfl (hb hby at_145) rfl ?_
                refine XS.icmpNo X1198.here hx rfl (hb hby at_147) rfl (teq ((by decide) : (0 : Int32) = (0 : Int32))).2 ?_
                refine XS.aload X1198.here hx rfl (hb hby at_150) rfl rfl ?_
                refine XS.aload X1198.here hx rfl (hb hby at_152) rfl rfl ?_
                show Steps p.tables e below (T1198.setTop (mkF m 154 #[.val (.int p1), .val (.int p2), .val (.int p3), .val (.int p4), .val (.int p5), .val (.int p6), .val (.ref x2), .val (.ref x21), .val (.ref x890), .val (.ref x917), .val (.ref x946), .val (.ref x979), .val (.ref b1016), .val (.ref b1075), .val (.int (((p6.toUInt32 >>> ((2 : Int32) &&& 31).toUInt32).toInt32) &&& (3 : Int32))), .val (.int (0 : Int32))] [(.ref b1016), (.ref b1075)])) _
                refine st1236.trans ?_
                refine XS.iload X1236.here hx rfl (hb hby at_157) rfl ?_
                refine XS.icmpNo X1236.here hx rfl (hb hby at_159) rfl (teq ((by decide) : (0 : Int32) = (0 : Int32))).2 ?_
                refine XS.iconst X1236.here hx rfl (hb hby at_162) ?_
                refine XS.goto X1236.here hx rfl (pc0 := 163) (pc' := 167) rfl (hb hby at_163) (by decide) (by decide) ?_
                exact kt
              obtain ⟨fs, hr, hrun, hended, hRW⟩ := X1236.leaveW hS978 (by rw [k1246]; exact hk1135) (v := some (.int (1 : Int32))) (fun h => by rw [Bd.returns] at h; cases h)
              refine ⟨_, _, pre0 _ (S1253 _ ?_), hrun, hended, _, _, rfl, ?_, hRW.1, hRW.2.1, hRW.2.2.1, hRW.2.2.2.mono (by decide) (by decide)⟩
              · exact retN X1236 hx (t := .boolean) Bd.returns (by simp) (hb hby at_167) hr
              · show Q_rm_law Z p1 p2 p3 p4 p5 p6 zc fm h0 n0 _ T1236.heap _
                rw [k1246]
                exact ⟨rfl, N1252⟩
            · exact absurd ((Eq.symm rfl) : (own_cs p1) = (own_cs p1)) c1247
          · exact absurd ((Eq.symm rfl) : (own_cs p1) = (own_cs p1)) c1213
      · have S1254 : ∀ t, Steps p.tables e below (T1105.setTop (mkF m 171 #[.val (.int p1), .val (.int p2), .val (.int p3), .val (.int p4), .val (.int p5), .val (.int p6), .val (.ref x2), .val (.ref x21), .val (.ref x890), .val (.ref x917), .val (.ref x946), .val (.ref x979), .val (.ref b1016), .val (.ref b1075), .val (.int (((p6.toUInt32 >>> ((2 : Int32) &&& 31).toUInt32).toInt32) &&& (3 : Int32))), .unset] [(.int (1 : Int32)), (.int (((p6.toUInt32 >>> ((2 : Int32) &&& 31).toUInt32).toInt32) &&& (3 : Int32)))])) t → Steps p.tables e below (s₁.setTop (mkF m 0 #[.val (.int p1), .val (.int p2), .val (.int p3), .val (.int p4), .val (.int p5), .val (.int p6), .unset, .unset, .unset, .unset, .unset, .unset, .unset, .unset, .unset, .unset] [])) t := by
          intro t kt
          refine S1137 t ?_
          refine XS.ifYes X1105.here hx rfl (pc0 := 108) (pc' := 168) rfl (hb hby at_108) rfl ((if0 _ _).trans (feq (c1138 : ¬ ((((p6.toUInt32 >>> ((2 : Int32) &&& 31).toUInt32).toInt32) &&& (3 : Int32)) = (0 : Int32)))).2) (by decide) (by decide) ?_
          refine XS.iload X1105.here hx rfl (hb hby at_168) rfl ?_
          refine XS.iconst X1105.here hx rfl (hb hby at_170) ?_
          exact kt
        rcases Decidable.em ((((p6.toUInt32 >>> ((2 : Int32) &&& 31).toUInt32).toInt32) &&& (3 : Int32)) = (1 : Int32)) with c1255 | c1255
        · have f1257 := (Exa.keep (Exa.ext E1075 f1062) k1123)
          obtain ⟨cq1256, kq1256, q1256a, q1256b, q1256c⟩ := isOf hZ978 rfl f1257
          obtain ⟨_, _, ⟨T1256, L1256, k1256, n1256⟩, -, X1256, ⟨Lc1256, hQ1256, l1256, y1256, z1256⟩, st1256⟩ := X1105.virtualBack hx (y := (⟨"com/example/typecheck/typecheck/model/QName", "equals", "(Ljava/lang/Object;)Z"⟩ : MethodName)) (z := (⟨"com/example/typecheck/typecheck/model/QName", "equals", "(Ljava/lang/Object;)Z"⟩ : MethodName)) ho978 (mvT hZ978 (own_w hw 73 rfl)) (mvT hZ978 (own_w hw 74 rfl)) (notFace_of_selects (args := #[]) (mvT hZ978 (own_w hw 76 rfl))) (mvT hZ978 (own_w hw 76 rfl)) (mvT hZ978 (own_w hw 75 rfl)) (by decide) (backOf (W := 0) (rm_qeqs l Z a0 hw [] b1016 T1105.heap n0 O1136 ) hZ978 (own_w hw 77 rfl) (own_w hw 28 rfl) (by decide) (by decide)) q1256a q1256c (g := (mkF m 178 #[.val (.int p1), .val (.int p2), .val (.int p3), .val (.int p4), .val (.int p5), .val (.int p6), .val (.ref x2), .val (.ref x21), .val (.ref x890), .val (.ref x917), .val (.ref x946), .val (.ref x979), .val (.ref b1016), .val (.ref b1075), .val (.int (((p6.toUInt32 >>> ((2 : Int32) &&& 31).toUInt32).toInt32) &&& (3 : Int32))), .unset] [(.ref b1016), (.ref b1016)])) rfl (by rw [hml]; rfl) (Steps.refl _) (argsL := [(.ref b1016)]) (rest := []) (lenOf pd_11 rfl) rfl (by show 2 * 0 + _ ≤ _; exact Nat.le_of_eq rfl) (hb hby at_178) (fun _ _ => ⟨rfl, rfl, (by decide : 38 + 0 ≤ _), (by decide : 80 + 0 ≤ _)⟩)
          dsimp only [Pt.U, Pt.locs, Pt.cells, Pt.slots] at X1256 l1256 y1256 z1256 st1256 hQ1256
          subst l1256 y1256 z1256
          obtain ⟨rfl, N1258, k1259⟩ := hQ1256
          have N1260 := Fr.app N1134 N1258
          have S1261 : ∀ t, Steps p.tables e below (T1256.setTop (mkF m 181 #[.val (.int p1), .val (.int p2), .val (.int p3), .val (.int p4), .val (.int p5), .val (.int p6), .val (.ref x2), .val (.ref x21), .val (.ref x890), .val (.ref x917), .val (.ref x946), .val (.ref x979), .val (.ref b1016), .val (.ref b1075), .val (.int (((p6.toUInt32 >>> ((2 : Int32) &&& 31).toUInt32).toInt32) &&& (3 : Int32))), .unset] [(.int (1 : Int32))])) t → Steps p.tables e below (s₁.setTop (mkF m 0 #[.val (.int p1), .val (.int p2), .val (.int p3), .val (.int p4), .val (.int p5), .val (.int p6), .unset, .unset, .unset, .unset, .unset, .unset, .unset, .unset, .unset, .unset] [])) t := by
            intro t kt
            refine S1254 t ?_
            refine XS.icmpNo X1105.here hx rfl (hb hby at_171) rfl (teq (c1255 : (((p6.toUInt32 >>> ((2 : Int32) &&& 31).toUInt32).toInt32) &&& (3 : Int32)) = (1 : Int32))).2 ?_
            refine XS.aload X1105.here hx rfl (hb hby at_174) rfl rfl ?_
            refine XS.aload X1105.here hx rfl (hb hby at_176) rfl rfl ?_
            show Steps p.tables e below (T1105.setTop (mkF m 178 #[.val (.int p1), .val (.int p2), .val (.int p3), .val (.int p4), .val (.int p5), .val (.int p6), .val (.ref x2), .val (.ref x21), .val (.ref x890), .val (.ref x917), .val (.ref x946), .val (.ref x979), .val (.ref b1016), .val (.ref b1075), .val (.int (((p6.toUInt32 >>> ((2 : Int32) &&& 31).toUInt32).toInt32) &&& (3 : Int32))), .unset] [(.ref b1016), (.ref b1016)])) _
            refine st1256.trans ?_
            exact kt
          obtain ⟨fs, hr, hrun, hended, hRW⟩ := X1256.leaveW hS978 (by rw [k1259]; exact hk1135) (v := some (.int (1 : Int32))) (fun h => by rw [Bd.returns] at h; cases h)
          refine ⟨_, _, pre0 _ (S1261 _ ?_), hrun, hended, _, _, rfl, ?_, hRW.1, hRW.2.1, hRW.2.2.1, hRW.2.2.2.mono (by decide) (by decide)⟩
          · exact retN X1256 hx (t := .boolean) Bd.returns (by simp) (hb hby at_181) hr
          · show Q_rm_law Z p1 p2 p3 p4 p5 p6 zc fm h0 n0 _ T1256.heap _
            rw [k1259]
            exact ⟨rfl, N1260⟩
        · have S1262 : ∀ t, Steps p.tables e below (T1105.setTop (mkF m 185 #[.val (.int p1), .val (.int p2), .val (.int p3), .val (.int p4), .val (.int p5), .val (.int p6), .val (.ref x2), .val (.ref x21), .val (.ref x890), .val (.ref x917), .val (.ref x946), .val (.ref x979), .val (.ref b1016), .val (.ref b1075), .val (.int (((p6.toUInt32 >>> ((2 : Int32) &&& 31).toUInt32).toInt32) &&& (3 : Int32))), .unset] [(.int (2 : Int32)), (.int (((p6.toUInt32 >>> ((2 : Int32) &&& 31).toUInt32).toInt32) &&& (3 : Int32)))])) t → Steps p.tables e below (s₁.setTop (mkF m 0 #[.val (.int p1), .val (.int p2), .val (.int p3), .val (.int p4), .val (.int p5), .val (.int p6), .unset, .unset, .unset, .unset, .unset, .unset, .unset, .unset, .unset, .unset] [])) t := by
            intro t kt
            refine S1254 t ?_
            refine XS.icmpYes X1105.here hx rfl (pc0 := 171) (pc' := 182) rfl (hb hby at_171) rfl (feq (c1255 : ¬ ((((p6.toUInt32 >>> ((2 : Int32) &&& 31).toUInt32).toInt32) &&& (3 : Int32)) = (1 : Int32)))).2 (by decide) (by decide) ?_
            refine XS.iload X1105.here hx rfl (hb hby at_182) rfl ?_
            refine XS.iconst X1105.here hx rfl (hb hby at_184) ?_
            exact kt
          rcases Decidable.em ((((p6.toUInt32 >>> ((2 : Int32) &&& 31).toUInt32).toInt32) &&& (3 : Int32)) = (2 : Int32)) with c1263 | c1263
          · have f1265 := (Exa.keep (Exa.ext E1075 f1062) k1123)
            obtain ⟨cq1264, kq1264, q1264a, q1264b, q1264c⟩ := isOf hZ978 rfl f1265
            obtain ⟨_, _, ⟨T1264, L1264, k1264, n1264⟩, -, X1264, ⟨Lc1264, hQ1264, l1264, y1264, z1264⟩, st1264⟩ := X1105.virtualBack hx (y := (⟨"com/example/typecheck/typecheck/model/QName", "equals", "(Ljava/lang/Object;)Z"⟩ : MethodName)) (z := (⟨"com/example/typecheck/typecheck/model/QName", "equals", "(Ljava/lang/Object;)Z"⟩ : MethodName)) ho978 (mvT hZ978 (own_w hw 73 rfl)) (mvT hZ978 (own_w hw 74 rfl)) (notFace_of_selects (args := #[]) (mvT hZ978 (own_w hw 76 rfl))) (mvT hZ978 (own_w hw 76 rfl)) (mvT hZ978 (own_w hw 75 rfl)) (by decide) (backOf (W := 0) (rm_qeqn l Z a0 hw [] b1016 T1105.heap n0 O1136 ) hZ978 (own_w hw 77 rfl) (own_w hw 28 rfl) (by decide) (by decide)) q1264a q1264c (g := (mkF m 191 #[.val (.int p1), .val (.int p2), .val (.int p3), .val (.int p4), .val (.int p5), .val (.int p6), .val (.ref x2), .val (.ref x21), .val (.ref x890), .val (.ref x917), .val (.ref x946), .val (.ref x979), .val (.ref b1016), .val (.ref b1075), .val (.int (((p6.toUInt32 >>> ((2 : Int32) &&& 31).toUInt32).toInt32) &&& (3 : Int32))), .unset] [.null, (.ref b1016)])) rfl (by rw [hml]; rfl) (Steps.refl _) (argsL := [.null]) (rest := []) (lenOf pd_11 rfl) rfl (by show 2 * 0 + _ ≤ _; exact Nat.le_of_eq rfl) (hb hby at_191) (fun _ _ => ⟨rfl, rfl, (by decide : 38 + 0 ≤ _), (by decide : 80 + 0 ≤ _)⟩)
            dsimp only [Pt.U, Pt.locs, Pt.cells, Pt.slots] at X1264 l1264 y1264 z1264 st1264 hQ1264
            subst l1264 y1264 z1264
            obtain ⟨rfl, N1266, k1267⟩ := hQ1264
            have N1268 := Fr.app N1134 N1266
            have S1269 : ∀ t, Steps p.tables e below (T1264.setTop (mkF m 202 #[.val (.int p1), .val (.int p2), .val (.int p3), .val (.int p4), .val (.int p5), .val (.int p6), .val (.ref x2), .val (.ref x21), .val (.ref x890), .val (.ref x917), .val (.ref x946), .val (.ref x979), .val (.ref b1016), .val (.ref b1075), .val (.int (((p6.toUInt32 >>> ((2 : Int32) &&& 31).toUInt32).toInt32) &&& (3 : Int32))), .unset] [(.int (1 : Int32))])) t → Steps p.tables e below (s₁.setTop (mkF m 0 #[.val (.int p1), .val (.int p2), .val (.int p3), .val (.int p4), .val (.int p5), .val (.int p6), .unset, .unset, .unset, .unset, .unset, .unset, .unset, .unset, .unset, .unset] [])) t := by
              intro t kt
              refine S1262 t ?_
              refine XS.icmpNo X1105.here hx rfl (hb hby at_185) rfl (teq (c1263 : (((p6.toUInt32 >>> ((2 : Int32) &&& 31).toUInt32).toInt32) &&& (3 : Int32)) = (2 : Int32))).2 ?_
              refine XS.aload X1105.here hx rfl (hb hby at_188) rfl rfl ?_
              refine XS.aconstNull X1105.here hx rfl (hb hby at_190) ?_
              show Steps p.tables e below (T1105.setTop (mkF m 191 #[.val (.int p1), .val (.int p2), .val (.int p3), .val (.int p4), .val (.int p5), .val (.int p6), .val (.ref x2), .val (.ref x21), .val (.ref x890), .val (.ref x917), .val (.ref x946), .val (.ref x979), .val (.ref b1016), .val (.ref b1075), .val (.int (((p6.toUInt32 >>> ((2 : Int32) &&& 31).toUInt32).toInt32) &&& (3 : Int32))), .unset] [.null, (.ref b1016)])) _
              refine st1264.trans ?_
              refine XS.ifNo X1264.here hx rfl (hb hby at_194) rfl ((if0 _ _).trans (teq ((by decide) : (0 : Int32) = (0 : Int32))).2) ?_
              refine XS.iconst X1264.here hx rfl (hb hby at_197) ?_
              refine XS.goto X1264.here hx rfl (pc0 := 198) (pc' := 202) rfl (hb hby at_198) (by decide) (by decide) ?_
              exact kt
            obtain ⟨fs, hr, hrun, hended, hRW⟩ := X1264.leaveW hS978 (by rw [k1267]; exact hk1135) (v := some (.int (1 : Int32))) (fun h => by rw [Bd.returns] at h; cases h)
            refine ⟨_, _, pre0 _ (S1269 _ ?_), hrun, hended, _, _, rfl, ?_, hRW.1, hRW.2.1, hRW.2.2.1, hRW.2.2.2.mono (by decide) (by decide)⟩
            · exact retN X1264 hx (t := .boolean) Bd.returns (by simp) (hb hby at_202) hr
            · show Q_rm_law Z p1 p2 p3 p4 p5 p6 zc fm h0 n0 _ T1264.heap _
              rw [k1267]
              exact ⟨rfl, N1268⟩
          · have f1271 := (Exa.keep (Exa.ext E1075 f1062) k1123)
            have f1272 := (Exa.keep f1111 k1123)
            obtain ⟨cq1270, kq1270, q1270a, q1270b, q1270c⟩ := isOf hZ978 rfl f1271
            obtain ⟨_, _, ⟨T1270, L1270, k1270, n1270⟩, -, X1270, ⟨Lc1270, hQ1270, l1270, y1270, z1270⟩, st1270⟩ := X1105.virtualBack hx (y := (⟨"com/example/typecheck/typecheck/model/QName", "equals", "(Ljava/lang/Object;)Z"⟩ : MethodName)) (z := (⟨"com/example/typecheck/typecheck/model/QName", "equals", "(Ljava/lang/Object;)Z"⟩ : MethodName)) ho978 (mvT hZ978 (own_w hw 73 rfl)) (mvT hZ978 (own_w hw 74 rfl)) (notFace_of_selects (args := #[]) (mvT hZ978 (own_w hw 76 rfl))) (mvT hZ978 (own_w hw 76 rfl)) (mvT hZ978 (own_w hw 75 rfl)) (by decide) (backOf (W := 0) (rm_qeqt l Z a0 hw [] b1016 x21 T1105.heap n0 O1136 f1271 f1272) hZ978 (own_w hw 77 rfl) (own_w hw 28 rfl) (by decide) (by decide)) q1270a q1270c (g := (mkF m 211 #[.val (.int p1), .val (.int p2), .val (.int p3), .val (.int p4), .val (.int p5), .val (.int p6), .val (.ref x2), .val (.ref x21), .val (.ref x890), .val (.ref x917), .val (.ref x946), .val (.ref x979), .val (.ref b1016), .val (.ref b1075), .val (.int (((p6.toUInt32 >>> ((2 : Int32) &&& 31).toUInt32).toInt32) &&& (3 : Int32))), .val (.ref x21)] [(.ref x21), (.ref b1016)])) rfl (by rw [hml]; rfl) (Steps.refl _) (argsL := [(.ref x21)]) (rest := []) (lenOf pd_11 rfl) rfl (by show 2 * 0 + _ ≤ _; exact Nat.le_of_eq rfl) (hb hby at_211) (fun _ _ => ⟨rfl, rfl, (by decide : 38 + 0 ≤ _), (by decide : 80 + 0 ≤ _)⟩)
            dsimp only [Pt.U, Pt.locs, Pt.cells, Pt.slots] at X1270 l1270 y1270 z1270 st1270 hQ1270
            subst l1270 y1270 z1270
            obtain ⟨rfl, N1273, k1274⟩ := hQ1270
            have N1275 := Fr.app N1134 N1273
            have S1276 : ∀ t, Steps p.tables e below (T1270.setTop (mkF m 222 #[.val (.int p1), .val (.int p2), .val (.int p3), .val (.int p4), .val (.int p5), .val (.int p6), .val (.ref x2), .val (.ref x21), .val (.ref x890), .val (.ref x917), .val (.ref x946), .val (.ref x979), .val (.ref b1016), .val (.ref b1075), .val (.int (((p6.toUInt32 >>> ((2 : Int32) &&& 31).toUInt32).toInt32) &&& (3 : Int32))), .val (.ref x21)] [(.int (1 : Int32))])) t → Steps p.tables e below (s₁.setTop (mkF m 0 #[.val (.int p1), .val (.int p2), .val (.int p3), .val (.int p4), .val (.int p5), .val (.int p6), .unset, .unset, .unset, .unset, .unset, .unset, .unset, .unset, .unset, .unset] [])) t := by
              intro t kt
              refine S1262 t ?_
              refine XS.icmpYes X1105.here hx rfl (pc0 := 185) (pc' := 203) rfl (hb hby at_185) rfl (feq (c1263 : ¬ ((((p6.toUInt32 >>> ((2 : Int32) &&& 31).toUInt32).toInt32) &&& (3 : Int32)) = (2 : Int32)))).2 (by decide) (by decide) ?_
              refine XS.aload X1105.here hx rfl (hb hby at_203) rfl rfl ?_
              refine XS.astore X1105.here hx rfl (hb hby at_205) rfl rfl (l' := #[.val (.int p1), .val (.int p2), .val (.int p3), .val (.int p4), .val (.int p5), .val (.int p6), .val (.ref x2), .val (.ref x21), .val (.ref x890), .val (.ref x917), .val (.ref x946), .val (.ref x979), .val (.ref b1016), .val (.ref b1075), .val (.int (((p6.toUInt32 >>> ((2 : Int32) &&& 31).toUInt32).toInt32) &&& (3 : Int32))), .val (.ref x21)]) rfl ?_
              refine XS.aload X1105.here hx rfl (hb hby at_207) rfl rfl ?_
              refine XS.aload X1105.here hx rfl (hb hby at_209) rfl rfl ?_
              show Steps p.tables e below (T1105.setTop (mkF m 211 #[.val (.int p1), .val (.int p2), .val (.int p3), .val (.int p4), .val (.int p5), .val (.int p6), .val (.ref x2), .val (.ref x21), .val (.ref x890), .val (.ref x917), .val (.ref x946), .val (.ref x979), .val (.ref b1016), .val (.ref b1075), .val (.int (((p6.toUInt32 >>> ((2 : Int32) &&& 31).toUInt32).toInt32) &&& (3 : Int32))), .val (.ref x21)] [(.ref x21), (.ref b1016)])) _
              refine st1270.trans ?_
              refine XS.ifNo X1270.here hx rfl (hb hby at_214) rfl ((if0 _ _).trans (teq ((by decide) : (0 : Int32) = (0 : Int32))).2) ?_
              refine XS.iconst X1270.here hx rfl (hb hby at_217) ?_
              refine XS.goto X1270.here hx rfl (pc0 := 218) (pc' := 222) rfl (hb hby at_218) (by decide) (by decide) ?_
              exact kt
            obtain ⟨fs, hr, hrun, hended, hRW⟩ := X1270.leaveW hS978 (by rw [k1274]; exact hk1135) (v := some (.int (1 : Int32))) (fun h => by rw [Bd.returns] at h; cases h)
            refine ⟨_, _, pre0 _ (S1276 _ ?_), hrun, hended, _, _, rfl, ?_, hRW.1, hRW.2.1, hRW.2.2.1, hRW.2.2.2.mono (by decide) (by decide)⟩
            · exact retN X1270 hx (t := .boolean) Bd.returns (by simp) (hb hby at_222) hr
            · show Q_rm_law Z p1 p2 p3 p4 p5 p6 zc fm h0 n0 _ T1270.heap _
              rw [k1274]
              exact ⟨rfl, N1275⟩
    · obtain ⟨_, _, ⟨T1277, L1277, k1277, n1277⟩, -, Xq1277, hSq1277, hgq1277, ⟨Lc1277, hQ1277, l1277, y1277, z1277, C1277⟩, st1277⟩ := callSS X889 hx (y := (⟨"com/example/typecheck/typecheck/model/QNameEqualsPinLaw", "str", "(I)Ljava/lang/String;"⟩ : MethodName)) ho889 (mvT hZ889 (own_w hw 0 rfl)) (mvT hZ889 (own_w hw 1 rfl)) (mvT hZ889 (own_w hw 2 rfl)) (mvT hZ889 (own_w hw 3 rfl)) (by decide) (own_backS (W := 0) (rm := ({ frames := 4, cells := 6, slots := 12, locals := 66 } : Room)) (xs := []) (rm_str l Z a0 hw [] p2 zc T889.heap n0 O913 S_C hzc) hZ889 (own_w hw 3 rfl) (own_w hw 2 rfl) (by decide) (by decide) own_ew CR911.1 all0) (g := (mkF m 40 #[.val (.int p1), .val (.int p2), .val (.int p3), .val (.int p4), .val (.int p5), .val (.int p6), .val (.ref x2), .val (.ref x21), .val (.ref x890), .unset, .unset, .unset, .unset, .unset, .unset, .unset] [(.int p2)])) rfl (by rw [hml]; rfl) (argsL := [(.int p2)]) (rest := []) (lenOf pd_12 rfl) rfl (by show 2 * 0 + _ ≤ _; exact Nat.le_of_eq rfl) (hb hby at_40) (fun _ _ => ⟨rfl, rfl, (by decide : 18 + 6 ≤ _), (by decide : 36 + 12 ≤ _)⟩)
      dsimp only [Pt.U, Pt.locs, Pt.cells, Pt.slots] at Xq1277 hSq1277 hgq1277 l1277 y1277 z1277 st1277 hQ1277 C1277
      obtain ⟨X1277, hS1277, hZ1277, ho1277⟩ := rebS hS889 (by exact hk912) Xq1277 hSq1277 hgq1277 hZ889 ho889
      subst l1277 y1277 z1277
      obtain ⟨x1278, x1279, x1280, rfl, N1281, k1282, f1283, f1284, f1285, f1286, f1287, f1288, f1289, f1290⟩ := hQ1277
      have N1291 := Fr.app N903 N1281
      have ge1292 : n0 ≤ x1278 := by rw [← O913.1]; exact Nat.le_trans O913.2.1 f1283
      have f1293 := (Exa.keep f905 k894)
      have ne1294 : x2 ≠ x1278 := Nat.ne_of_lt (Nat.lt_of_lt_of_le (Exa.lt f1293) f1283)
      have f1295 := (Exa.keep f907 k894)
      have ne1296 : x3 ≠ x1278 := Nat.ne_of_lt (Nat.lt_of_lt_of_le (Exa.lt f1295) f1283)
      have f1297 := (Exa.keep f27 k894)
      have ne1298 : x21 ≠ x1278 := Nat.ne_of_lt (Nat.lt_of_lt_of_le (Exa.lt f1297) f1283)
      have f1299 := (Exa.keep f30 k894)
      have ne1300 : x22 ≠ x1278 := Nat.ne_of_lt (Nat.lt_of_lt_of_le (Exa.lt f1299) f1283)
      have ne1301 : x890 ≠ x1278 := Nat.ne_of_lt (Nat.lt_of_lt_of_le (Exa.lt f896) f1283)
      have ne1302 : x891 ≠ x1278 := Nat.ne_of_lt (Nat.lt_of_lt_of_le (Exa.lt f899) f1283)
      have CR1303 := CR911.trans C1277
      have hk1304 : T1277.heap.size ≤ T1277.heap.size := Nat.le_refl _
      have O1305 := O913.keep k1282 all0
      obtain ⟨_, _, ⟨T1306, L1306, k1306, n1306⟩, -, Xq1306, hSq1306, hgq1306, ⟨Lc1306, hQ1306, l1306, y1306, z1306, C1306⟩, st1306⟩ := callSS X1277 hx (y := (⟨"com/example/typecheck/typecheck/model/QNameEqualsPinLaw", "str", "(I)Ljava/lang/String;"⟩ : MethodName)) ho1277 (mvT hZ1277 (own_w hw 0 rfl)) (mvT hZ1277 (own_w hw 1 rfl)) (mvT hZ1277 (own_w hw 2 rfl)) (mvT hZ1277 (own_w hw 3 rfl)) (by decide) (own_backS (W := 0) (rm := ({ frames := 4, cells := 6, slots := 12, locals := 66 } : Room)) (xs := []) (rm_str l Z a0 hw [] p5 zc T1277.heap n0 O1305 S_C hzc) hZ1277 (own_w hw 3 rfl) (own_w hw 2 rfl) (by decide) (by decide) own_ew CR1303.1 all0) (g := (mkF m 54 #[.val (.int p1), .val (.int p2), .val (.int p3), .val (.int p4), .val (.int p5), .val (.int p6), .val (.ref x2), .val (.ref x21), .val (.ref x890), .val (.ref x1278), .unset, .unset, .unset, .unset, .unset, .unset] [(.int p5)])) rfl (by rw [hml]; rfl) (argsL := [(.int p5)]) (rest := []) (lenOf pd_12 rfl) rfl (by show 2 * 0 + _ ≤ _; exact Nat.le_of_eq rfl) (hb hby at_54) (fun _ _ => ⟨rfl, rfl, (by decide : 24 + 6 ≤ _), (by decide : 48 + 12 ≤ _)⟩)
      dsimp only [Pt.U, Pt.locs, Pt.cells, Pt.slots] at Xq1306 hSq1306 hgq1306 l1306 y1306 z1306 st1306 hQ1306 C1306
      obtain ⟨X1306, hS1306, hZ1306, ho1306⟩ := rebS hS1277 (by exact hk1304) Xq1306 hSq1306 hgq1306 hZ1277 ho1277
      subst l1306 y1306 z1306
      obtain ⟨x1307, x1308, x1309, rfl, N1310, k1311, f1312, f1313, f1314, f1315, f1316, f1317, f1318, f1319⟩ := hQ1306
      have N1320 := Fr.app N1291 N1310
      have ge1321 : n0 ≤ x1307 := by rw [← O1305.1]; exact Nat.le_trans O1305.2.1 f1312
      have f1322 := (Exa.keep f1293 k1282)
      have ne1323 : x2 ≠ x1307 := Nat.ne_of_lt (Nat.lt_of_lt_of_le (Exa.lt f1322) f1312)
      have f1324 := (Exa.keep f1295 k1282)
      have ne1325 : x3 ≠ x1307 := Nat.ne_of_lt (Nat.lt_of_lt_of_le (Exa.lt f1324) f1312)
      have f1326 := (Exa.keep f1297 k1282)
      have ne1327 : x21 ≠ x1307 := Nat.ne_of_lt (Nat.lt_of_lt_of_le (Exa.lt f1326) f1312)
      have f1328 := (Exa.keep f1299 k1282)
      have ne1329 : x22 ≠ x1307 := Nat.ne_of_lt (Nat.lt_of_lt_of_le (Exa.lt f1328) f1312)
      have f1330 := (Exa.keep f896 k1282)
      have ne1331 : x890 ≠ x1307 := Nat.ne_of_lt (Nat.lt_of_lt_of_le (Exa.lt f1330) f1312)
      have f1332 := (Exa.keep f899 k1282)
      have ne1333 : x891 ≠ x1307 := Nat.ne_of_lt (Nat.lt_of_lt_of_le (Exa.lt f1332) f1312)
      have ne1334 : x1278 ≠ x1307 := Nat.ne_of_lt (Nat.lt_of_lt_of_le (Exa.lt f1284) f1312)
      have ne1335 : x1279 ≠ x1307 := Nat.ne_of_lt (Nat.lt_of_lt_of_le (Exa.lt f1287) f1312)
      have CR1336 := CR1303.trans C1306
      have hk1337 : T1306.heap.size ≤ T1306.heap.size := Nat.le_refl _
      have O1338 := O1305.keep k1311 all0
      obtain ⟨_, _, ⟨T1339, L1339, k1339, n1339⟩, -, Xq1339, hSq1339, hgq1339, ⟨Lc1339, hQ1339, l1339, y1339, z1339, C1339⟩, st1339⟩ := callSS X1306 hx (y := (⟨"com/example/typecheck/typecheck/model/QNameEqualsPinLaw", "str", "(I)Ljava/lang/String;"⟩ : MethodName)) ho1306 (mvT hZ1306 (own_w hw 0 rfl)) (mvT hZ1306 (own_w hw 1 rfl)) (mvT hZ1306 (own_w hw 2 rfl)) (mvT hZ1306 (own_w hw 3 rfl)) (by decide) (own_backS (W := 0) (rm := ({ frames := 4, cells := 6, slots := 12, locals := 66 } : Room)) (xs := []) (rm_str l Z a0 hw [] ((p6.toUInt32 >>> ((4 : Int32) &&& 31).toUInt32).toInt32) zc T1306.heap n0 O1338 S_C hzc) hZ1306 (own_w hw 3 rfl) (own_w hw 2 rfl) (by decide) (by decide) own_ew CR1336.1 all0) (g := (mkF m 63 #[.val (.int p1), .val (.int p2), .val (.int p3), .val (.int p4), .val (.int p5), .val (.int p6), .val (.ref x2), .val (.ref x21), .val (.ref x890), .val (.ref x1278), .val (.ref x1307), .unset, .unset, .unset, .unset, .unset] [(.int ((p6.toUInt32 >>> ((4 : Int32) &&& 31).toUInt32).toInt32))])) rfl (by rw [hml]; rfl) (argsL := [(.int ((p6.toUInt32 >>> ((4 : Int32) &&& 31).toUInt32).toInt32))]) (rest := []) (lenOf pd_12 rfl) rfl (by show 2 * 0 + _ ≤ _; exact Nat.le_of_eq rfl) (hb hby at_63) (fun _ _ => ⟨rfl, rfl, (by decide : 30 + 6 ≤ _), (by decide : 60 + 12 ≤ _)⟩)
      dsimp only [Pt.U, Pt.locs, Pt.cells, Pt.slots] at Xq1339 hSq1339 hgq1339 l1339 y1339 z1339 st1339 hQ1339 C1339
      obtain ⟨X1339, hS1339, hZ1339, ho1339⟩ := rebS hS1306 (by exact hk1337) Xq1339 hSq1339 hgq1339 hZ1306 ho1306
      subst l1339 y1339 z1339
      obtain ⟨x1340, x1341, x1342, rfl, N1343, k1344, f1345, f1346, f1347, f1348, f1349, f1350, f1351, f1352⟩ := hQ1339
      have N1353 := Fr.app N1320 N1343
      have ge1354 : n0 ≤ x1340 := by rw [← O1338.1]; exact Nat.le_trans O1338.2.1 f1345
      have f1355 := (Exa.keep f1322 k1311)
      have ne1356 : x2 ≠ x1340 := Nat.ne_of_lt (Nat.lt_of_lt_of_le (Exa.lt f1355) f1345)
      have f1357 := (Exa.keep f1324 k1311)
      have ne1358 : x3 ≠ x1340 := Nat.ne_of_lt (Nat.lt_of_lt_of_le (Exa.lt f1357) f1345)
      have f1359 := (Exa.keep f1326 k1311)
      have ne1360 : x21 ≠ x1340 := Nat.ne_of_lt (Nat.lt_of_lt_of_le (Exa.lt f1359) f1345)
      have f1361 := (Exa.keep f1328 k1311)
      have ne1362 : x22 ≠ x1340 := Nat.ne_of_lt (Nat.lt_of_lt_of_le (Exa.lt f1361) f1345)
      have f1363 := (Exa.keep f1330 k1311)
      have ne1364 : x890 ≠ x1340 := Nat.ne_of_lt (Nat.lt_of_lt_of_le (Exa.lt f1363) f1345)
      have f1365 := (Exa.keep f1332 k1311)
      have ne1366 : x891 ≠ x1340 := Nat.ne_of_lt (Nat.lt_of_lt_of_le (Exa.lt f1365) f1345)
      have f1367 := (Exa.keep f1284 k1311)
      have ne1368 : x1278 ≠ x1340 := Nat.ne_of_lt (Nat.lt_of_lt_of_le (Exa.lt f1367) f1345)
      have f1369 := (Exa.keep f1287 k1311)
      have ne1370 : x1279 ≠ x1340 := Nat.ne_of_lt (Nat.lt_of_lt_of_le (Exa.lt f1369) f1345)
      have ne1371 : x1307 ≠ x1340 := Nat.ne_of_lt (Nat.lt_of_lt_of_le (Exa.lt f1313) f1345)
      have ne1372 : x1308 ≠ x1340 := Nat.ne_of_lt (Nat.lt_of_lt_of_le (Exa.lt f1316) f1345)
      have CR1373 := CR1336.trans C1339
      have hk1374 : T1339.heap.size ≤ T1339.heap.size := Nat.le_refl _
      have O1375 := O1338.keep k1344 all0
      have S1376 : ∀ t, Steps p.tables e below (T1339.setTop (mkF m 68 #[.val (.int p1), .val (.int p2), .val (.int p3), .val (.int p4), .val (.int p5), .val (.int p6), .val (.ref x2), .val (.ref x21), .val (.ref x890), .val (.ref x1278), .val (.ref x1307), .val (.ref x1340), .unset, .unset, .unset, .unset] [])) t → Steps p.tables e below (s₁.setTop (mkF m 0 #[.val (.int p1), .val (.int p2), .val (.int p3), .val (.int p4), .val (.int p5), .val (.int p6), .unset, .unset, .unset, .unset, .unset, .unset, .unset, .unset, .unset, .unset] [])) t := by
        intro t kt
        refine S914 t ?_
        refine XS.ifNo X889.here hx rfl (hb hby at_36) rfl ((if0 _ _).trans (feq (c915 : ¬ ((p6 &&& (2 : Int32)) = (0 : Int32)))).1) ?_
        refine XS.iloadN X889.here hx rfl (hb hby at_39) rfl ?_
        show Steps p.tables e below (T889.setTop (mkF m 40 #[.val (.int p1), .val (.int p2), .val (.int p3), .val (.int p4), .val (.int p5), .val (.int p6), .val (.ref x2), .val (.ref x21), .val (.ref x890), .unset, .unset, .unset, .unset, .unset, .unset, .unset] [(.int p2)])) _
        refine st1277.trans ?_
        refine XS.goto X1277.here hx rfl (pc0 := 43) (pc' := 50) rfl (hb hby at_43) (by decide) (by decide) ?_
        refine XS.astore X1277.here hx rfl (hb hby at_50) rfl rfl (l' := #[.val (.int p1), .val (.int p2), .val (.int p3), .val (.int p4), .val (.int p5), .val (.int p6), .val (.ref x2), .val (.ref x21), .val (.ref x890), .val (.ref x1278), .unset, .unset, .unset, .unset, .unset, .unset]) rfl ?_
        refine XS.iload X1277.here hx rfl (hb hby at_52) rfl ?_
        show Steps p.tables e below (T1277.setTop (mkF m 54 #[.val (.int p1), .val (.int p2), .val (.int p3), .val (.int p4), .val (.int p5), .val (.int p6), .val (.ref x2), .val (.ref x21), .val (.ref x890), .val (.ref x1278), .unset, .unset, .unset, .unset, .unset, .unset] [(.int p5)])) _
        refine st1306.trans ?_
        refine XS.astore X1306.here hx rfl (hb hby at_57) rfl rfl (l' := #[.val (.int p1), .val (.int p2), .val (.int p3), .val (.int p4), .val (.int p5), .val (.int p6), .val (.ref x2), .val (.ref x21), .val (.ref x890), .val (.ref x1278), .val (.ref x1307), .unset, .unset, .unset, .unset, .unset]) rfl ?_
        refine XS.iload X1306.here hx rfl (hb hby at_59) rfl ?_
        refine XS.iconst X1306.here hx rfl (hb hby at_61) ?_
        refine XS.iushr X1306.here hx rfl (hb hby at_62) rfl ?_
        show Steps p.tables e below (T1306.setTop (mkF m 63 #[.val (.int p1), .val (.int p2), .val (.int p3), .val (.int p4), .val (.int p5), .val (.int p6), .val (.ref x2), .val (.ref x21), .val (.ref x890), .val (.ref x1278), .val (.ref x1307), .unset, .unset, .unset, .unset, .unset] [(.int ((p6.toUInt32 >>> ((4 : Int32) &&& 31).toUInt32).toInt32))])) _
        refine st1339.trans ?_
        refine XS.astore X1339.here hx rfl (hb hby at_66) rfl rfl (l' := #[.val (.int p1), .val (.int p2), .val (.int p3), .val (.int p4), .val (.int p5), .val (.int p6), .val (.ref x2), .val (.ref x21), .val (.ref x890), .val (.ref x1278), .val (.ref x1307), .val (.ref x1340), .unset, .unset, .unset, .unset]) rfl ?_
        exact kt
      obtain ⟨T1377, h1377, X1377, e1377, E1377, A1377, D1377, -, st1377⟩ := newO X1339 hx hZ1339 ho1339 (own_w hw 26 rfl) (own_w hw 27 rfl) (own_w hw 28 rfl) rfl (g := (mkF m 68 #[.val (.int p1), .val (.int p2), .val (.int p3), .val (.int p4), .val (.int p5), .val (.int p6), .val (.ref x2), .val (.ref x21), .val (.ref x890), .val (.ref x1278), .val (.ref x1307), .val (.ref x1340), .unset, .unset, .unset, .unset] [])) rfl (hb hby at_68) (by decide) (by decide)
      obtain ⟨b1377, g1377⟩ : ∃ z, z = T1339.heap.size := ⟨_, rfl⟩
      have ge_b1377 : n0 ≤ b1377 := by rw [g1377, ← O1375.1]; exact O1375.2.1
      have f1378 := (Exa.keep f1355 k1344)
      have ne1379 : x2 ≠ b1377 := Nat.ne_of_lt (Nat.lt_of_lt_of_le (Exa.lt f1378) (Nat.le_of_eq g1377.symm))
      have f1380 := (Exa.keep f1357 k1344)
      have ne1381 : x3 ≠ b1377 := Nat.ne_of_lt (Nat.lt_of_lt_of_le (Exa.lt f1380) (Nat.le_of_eq g1377.symm))
      have f1382 := (Exa.keep f1359 k1344)
      have ne1383 : x21 ≠ b1377 := Nat.ne_of_lt (Nat.lt_of_lt_of_le (Exa.lt f1382) (Nat.le_of_eq g1377.symm))
      have f1384 := (Exa.keep f1361 k1344)
      have ne1385 : x22 ≠ b1377 := Nat.ne_of_lt (Nat.lt_of_lt_of_le (Exa.lt f1384) (Nat.le_of_eq g1377.symm))
      have f1386 := (Exa.keep f1363 k1344)
      have ne1387 : x890 ≠ b1377 := Nat.ne_of_lt (Nat.lt_of_lt_of_le (Exa.lt f1386) (Nat.le_of_eq g1377.symm))
      have f1388 := (Exa.keep f1365 k1344)
      have ne1389 : x891 ≠ b1377 := Nat.ne_of_lt (Nat.lt_of_lt_of_le (Exa.lt f1388) (Nat.le_of_eq g1377.symm))
      have f1390 := (Exa.keep f1367 k1344)
      have ne1391 : x1278 ≠ b1377 := Nat.ne_of_lt (Nat.lt_of_lt_of_le (Exa.lt f1390) (Nat.le_of_eq g1377.symm))
      have f1392 := (Exa.keep f1369 k1344)
      have ne1393 : x1279 ≠ b1377 := Nat.ne_of_lt (Nat.lt_of_lt_of_le (Exa.lt f1392) (Nat.le_of_eq g1377.symm))
      have f1394 := (Exa.keep f1313 k1344)
      have ne1395 : x1307 ≠ b1377 := Nat.ne_of_lt (Nat.lt_of_lt_of_le (Exa.lt f1394) (Nat.le_of_eq g1377.symm))
      have f1396 := (Exa.keep f1316 k1344)
      have ne1397 : x1308 ≠ b1377 := Nat.ne_of_lt (Nat.lt_of_lt_of_le (Exa.lt f1396) (Nat.le_of_eq g1377.symm))
      have ne1398 : x1340 ≠ b1377 := Nat.ne_of_lt (Nat.lt_of_lt_of_le (Exa.lt f1346) (Nat.le_of_eq g1377.symm))
      have ne1399 : x1341 ≠ b1377 := Nat.ne_of_lt (Nat.lt_of_lt_of_le (Exa.lt f1349) (Nat.le_of_eq g1377.symm))
      rw [← g1377] at A1377 D1377 st1377
      have hk1400 := Nat.le_trans hk1374 E1377.1
      have O1401 := O1375.ext E1377
      have F1402 : Fld Z h1377 b1377 "com/example/typecheck/typecheck/model/QName" "prefix" "Ljava/lang/String;" .null := D1377 (Or.inr (own_w hw 34 rfl)) (ty := (.object "java/lang/String")) (by decide)
      have F1403 : Fld Z h1377 b1377 "com/example/typecheck/typecheck/model/QName" "namespace" "Ljava/lang/String;" .null := D1377 (Or.inr (own_w hw 36 rfl)) (ty := (.object "java/lang/String")) (by decide)
      have F1404 : Fld Z h1377 b1377 "com/example/typecheck/typecheck/model/QName" "localName" "Ljava/lang/String;" .null := D1377 (Or.inr (own_w hw 38 rfl)) (ty := (.object "java/lang/String")) (by decide)
      have F1405 : Fld Z h1377 b1377 "com/example/typecheck/typecheck/model/QName" "hash" "I" (.int (0 : Int32)) := D1377 (Or.inr (own_w hw 59 rfl)) (ty := .int) (by decide)
      have f1407 := (Exa.ext E1377 f1378)
      have f1408 := (Fld.ext E1377 (Fld.keep (Fld.keep (Fld.keep (Fld.keep (Fld.keep f9 k25 nin0) k894 nin0) k1282 nin0) k1311 nin0) k1344 nin0))
      have f1409 := (Fld.ext E1377 (Fld.keep (Fld.keep (Fld.keep (Fld.keep (Fld.keep f10 k25 nin0) k894 nin0) k1282 nin0) k1311 nin0) k1344 nin0))
      have f1410 := (Exa.ext E1377 f1380)
      have f1411 := (Arv.ext (Arv.keep (Arv.keep (Arv.keep (Arv.keep (Arv.keep f12 k25 nin0) k894 nin0) k1282 nin0) k1311 nin0) k1344 nin0) E1377)
      have f1412 := (Fld.ext E1377 (Fld.keep (Fld.keep (Fld.keep (Fld.keep (Fld.keep f13 k25 nin0) k894 nin0) k1282 nin0) k1311 nin0) k1344 nin0))
      have f1413 := (Fld.ext E1377 (Fld.keep (Fld.keep (Fld.keep (Fld.keep (Fld.keep f14 k25 nin0) k894 nin0) k1282 nin0) k1311 nin0) k1344 nin0))
      have f1414 := (Exa.ext E1377 f1382)
      have f1415 := (Fld.ext E1377 (Fld.keep (Fld.keep (Fld.keep (Fld.keep f28 k894 nin0) k1282 nin0) k1311 nin0) k1344 nin0))
      have f1416 := (Fld.ext E1377 (Fld.keep (Fld.keep (Fld.keep (Fld.keep f29 k894 nin0) k1282 nin0) k1311 nin0) k1344 nin0))
      have f1417 := (Exa.ext E1377 f1384)
      have f1418 := (Arv.ext (Arv.keep (Arv.keep (Arv.keep (Arv.keep f31 k894 nin0) k1282 nin0) k1311 nin0) k1344 nin0) E1377)
      have f1419 := (Fld.ext E1377 (Fld.keep (Fld.keep (Fld.keep (Fld.keep f32 k894 nin0) k1282 nin0) k1311 nin0) k1344 nin0))
      have f1420 := (Fld.ext E1377 (Fld.keep (Fld.keep (Fld.keep (Fld.keep f33 k894 nin0) k1282 nin0) k1311 nin0) k1344 nin0))
      obtain ⟨_, _, ⟨T1406, L1406, k1406, n1406⟩, -, X1406, ⟨Lc1406, hQ1406, l1406, y1406, z1406⟩, st1406⟩ := X1377.specialBack hx (y := (⟨"com/example/typecheck/typecheck/model/QName", "<init>", "(Ljava/lang/String;Ljava/lang/String;Ljava/lang/String;)V"⟩ : MethodName)) rfl ho1339 (mvT hZ1339 (own_w hw 29 rfl)) (mvT hZ1339 (own_w hw 30 rfl)) (mvT hZ1339 (own_w hw 31 rfl)) (by decide) (backOf (W := 1) (rm_qini l Z a0 hw [] b1377 x1307 x2 x3 x4 (own_cs p1) x21 x22 x23 (own_cs p2) zc h1377 n0 O1401 A1377 ge_b1377 F1402 F1403 F1404 F1405 f1407 f1408 f1409 f1410 f1411 f1412 f1413 ge16 f1414 f1415 f1416 f1417 f1418 f1419 f1420 ge35 ne36 (own_csok p1) (own_csok p2) S_C hzc) hZ1339 (own_w hw 31 rfl) (own_w hw 28 rfl) (by decide) (by decide)) (g := (mkF m 78 #[.val (.int p1), .val (.int p2), .val (.int p3), .val (.int p4), .val (.int p5), .val (.int p6), .val (.ref x2), .val (.ref x21), .val (.ref x890), .val (.ref x1278), .val (.ref x1307), .val (.ref x1340), .unset, .unset, .unset, .unset] [(.ref x21), (.ref x2), (.ref x1307), (.ref b1377), (.ref b1377)])) rfl (by rw [hml]; rfl) (Steps.refl _) (a := b1377) (argsL := [(.ref x1307), (.ref x2), (.ref x21)]) (rest := [(.ref b1377)]) (lenOf pd_13 rfl) rfl (by show 2 * 0 + _ ≤ _; exact Nat.le_of_eq rfl) (hb hby at_78) (fun _ _ => ⟨rfl, e1377, (by decide : 37 + 0 ≤ _), (by decide : 76 + 0 ≤ _)⟩)
      dsimp only [Pt.U, Pt.locs, Pt.cells, Pt.slots] at X1406 l1406 y1406 z1406 st1406 hQ1406
      subst l1406 y1406 z1406
      obtain ⟨rfl, N1421, k1422, f1423, f1424, f1425, f1426, f1427, f1428, f1429, f1430, f1431, f1432⟩ := hQ1406
      have N1433 := Fr.app N1353 N1421
      have hk1434 := Nat.le_trans hk1400 k1422.1
      have O1435 := O1401.keep k1422 (allS ge_b1377 (allS ge16 (allS ge35 all0)))
      obtain ⟨T1436, h1436, X1436, e1436, E1436, A1436, D1436, -, st1436⟩ := newO X1406 hx hZ1339 ho1339 (own_w hw 26 rfl) (own_w hw 27 rfl) (own_w hw 28 rfl) rfl (g := (mkF m 83 #[.val (.int p1), .val (.int p2), .val (.int p3), .val (.int p4), .val (.int p5), .val (.int p6), .val (.ref x2), .val (.ref x21), .val (.ref x890), .val (.ref x1278), .val (.ref x1307), .val (.ref x1340), .val (.ref b1377), .unset, .unset, .unset] [])) rfl (hb hby at_83) (by decide) (by decide)
      obtain ⟨b1436, g1436⟩ : ∃ z, z = T1406.heap.size := ⟨_, rfl⟩
      have ge_b1436 : n0 ≤ b1436 := by rw [g1436, ← O1435.1]; exact O1435.2.1
      have ne1437 : x2 ≠ b1436 := Nat.ne_of_lt (Nat.lt_of_lt_of_le (Exa.lt f1427) (Nat.le_of_eq g1436.symm))
      have f1438 := (Exa.keep f1410 k1422)
      have ne1439 : x3 ≠ b1436 := Nat.ne_of_lt (Nat.lt_of_lt_of_le (Exa.lt f1438) (Nat.le_of_eq g1436.symm))
      have ne1440 : x21 ≠ b1436 := Nat.ne_of_lt (Nat.lt_of_lt_of_le (Exa.lt f1430) (Nat.le_of_eq g1436.symm))
      have f1441 := (Exa.keep f1417 k1422)
      have ne1442 : x22 ≠ b1436 := Nat.ne_of_lt (Nat.lt_of_lt_of_le (Exa.lt f1441) (Nat.le_of_eq g1436.symm))
      have f1443 := (Exa.keep (Exa.ext E1377 f1386) k1422)
      have ne1444 : x890 ≠ b1436 := Nat.ne_of_lt (Nat.lt_of_lt_of_le (Exa.lt f1443) (Nat.le_of_eq g1436.symm))
      have f1445 := (Exa.keep (Exa.ext E1377 f1388) k1422)
      have ne1446 : x891 ≠ b1436 := Nat.ne_of_lt (Nat.lt_of_lt_of_le (Exa.lt f1445) (Nat.le_of_eq g1436.symm))
      have f1447 := (Exa.keep (Exa.ext E1377 f1390) k1422)
      have ne1448 : x1278 ≠ b1436 := Nat.ne_of_lt (Nat.lt_of_lt_of_le (Exa.lt f1447) (Nat.le_of_eq g1436.symm))
      have f1449 := (Exa.keep (Exa.ext E1377 f1392) k1422)
      have ne1450 : x1279 ≠ b1436 := Nat.ne_of_lt (Nat.lt_of_lt_of_le (Exa.lt f1449) (Nat.le_of_eq g1436.symm))
      have f1451 := (Exa.keep (Exa.ext E1377 f1394) k1422)
      have ne1452 : x1307 ≠ b1436 := Nat.ne_of_lt (Nat.lt_of_lt_of_le (Exa.lt f1451) (Nat.le_of_eq g1436.symm))
      have f1453 := (Exa.keep (Exa.ext E1377 f1396) k1422)
      have ne1454 : x1308 ≠ b1436 := Nat.ne_of_lt (Nat.lt_of_lt_of_le (Exa.lt f1453) (Nat.le_of_eq g1436.symm))
      have f1455 := (Exa.keep (Exa.ext E1377 f1346) k1422)
      have ne1456 : x1340 ≠ b1436 := Nat.ne_of_lt (Nat.lt_of_lt_of_le (Exa.lt f1455) (Nat.le_of_eq g1436.symm))
      have f1457 := (Exa.keep (Exa.ext E1377 f1349) k1422)
      have ne1458 : x1341 ≠ b1436 := Nat.ne_of_lt (Nat.lt_of_lt_of_le (Exa.lt f1457) (Nat.le_of_eq g1436.symm))
      have ne1459 : b1377 ≠ b1436 := Nat.ne_of_lt (Nat.lt_of_lt_of_le (Exa.lt f1423) (Nat.le_of_eq g1436.symm))
      rw [← g1436] at A1436 D1436 st1436
      have hk1460 := Nat.le_trans hk1434 E1436.1
      have O1461 := O1435.ext E1436
      have F1462 : Fld Z h1436 b1436 "com/example/typecheck/typecheck/model/QName" "prefix" "Ljava/lang/String;" .null := D1436 (Or.inr (own_w hw 34 rfl)) (ty := (.object "java/lang/String")) (by decide)
      have F1463 : Fld Z h1436 b1436 "com/example/typecheck/typecheck/model/QName" "namespace" "Ljava/lang/String;" .null := D1436 (Or.inr (own_w hw 36 rfl)) (ty := (.object "java/lang/String")) (by decide)
      have F1464 : Fld Z h1436 b1436 "com/example/typecheck/typecheck/model/QName" "localName" "Ljava/lang/String;" .null := D1436 (Or.inr (own_w hw 38 rfl)) (ty := (.object "java/lang/String")) (by decide)
      have F1465 : Fld Z h1436 b1436 "com/example/typecheck/typecheck/model/QName" "hash" "I" (.int (0 : Int32)) := D1436 (Or.inr (own_w hw 59 rfl)) (ty := .int) (by decide)
      have f1467 := (Exa.ext E1436 f1443)
      have f1468 := (Fld.ext E1436 (Fld.keep (Fld.ext E1377 (Fld.keep (Fld.keep (Fld.keep f897 k1282 nin0) k1311 nin0) k1344 nin0)) k1422 (ninS ne1387 (ninS (Ne.symm ne906) (ninS (Ne.symm ne909) nin0)))))
      have f1469 := (Fld.ext E1436 (Fld.keep (Fld.ext E1377 (Fld.keep (Fld.keep (Fld.keep f898 k1282 nin0) k1311 nin0) k1344 nin0)) k1422 (ninS ne1387 (ninS (Ne.symm ne906) (ninS (Ne.symm ne909) nin0)))))
      have f1470 := (Exa.ext E1436 f1445)
      have f1471 := (Exa.ext E1436 f1427)
      have f1472 := (Exa.ext E1436 f1430)
      have f1473 := (Arv.ext (Arv.keep (Arv.ext (Arv.keep (Arv.keep (Arv.keep f900 k1282 nin0) k1311 nin0) k1344 nin0) E1377) k1422 (ninS ne1389 (ninS (own_exane f1470 f1471 (by decide)) (ninS (own_exane f1470 f1472 (by decide)) nin0)))) E1436)
      have f1474 := (Fld.ext E1436 (Fld.keep (Fld.ext E1377 (Fld.keep (Fld.keep (Fld.keep f901 k1282 nin0) k1311 nin0) k1344 nin0)) k1422 (ninS ne1387 (ninS (Ne.symm ne906) (ninS (Ne.symm ne909) nin0)))))
      have f1475 := (Fld.ext E1436 (Fld.keep (Fld.ext E1377 (Fld.keep (Fld.keep (Fld.keep f902 k1282 nin0) k1311 nin0) k1344 nin0)) k1422 (ninS ne1387 (ninS (Ne.symm ne906) (ninS (Ne.symm ne909) nin0)))))
      have f1476 := (Exa.ext E1436 f1447)
      have f1477 := (Fld.ext E1436 (Fld.keep (Fld.ext E1377 (Fld.keep (Fld.keep f1285 k1311 nin0) k1344 nin0)) k1422 (ninS ne1391 (ninS (Ne.symm ne1294) (ninS (Ne.symm ne1298) nin0)))))
      have f1478 := (Fld.ext E1436 (Fld.keep (Fld.ext E1377 (Fld.keep (Fld.keep f1286 k1311 nin0) k1344 nin0)) k1422 (ninS ne1391 (ninS (Ne.symm ne1294) (ninS (Ne.symm ne1298) nin0)))))
      have f1479 := (Exa.ext E1436 f1449)
      have f1480 := (Arv.ext (Arv.keep (Arv.ext (Arv.keep (Arv.keep f1288 k1311 nin0) k1344 nin0) E1377) k1422 (ninS ne1393 (ninS (own_exane f1479 f1471 (by decide)) (ninS (own_exane f1479 f1472 (by decide)) nin0)))) E1436)
      have f1481 := (Fld.ext E1436 (Fld.keep (Fld.ext E1377 (Fld.keep (Fld.keep f1289 k1311 nin0) k1344 nin0)) k1422 (ninS ne1391 (ninS (Ne.symm ne1294) (ninS (Ne.symm ne1298) nin0)))))
      have f1482 := (Fld.ext E1436 (Fld.keep (Fld.ext E1377 (Fld.keep (Fld.keep f1290 k1311 nin0) k1344 nin0)) k1422 (ninS ne1391 (ninS (Ne.symm ne1294) (ninS (Ne.symm ne1298) nin0)))))
      obtain ⟨_, _, ⟨T1466, L1466, k1466, n1466⟩, -, X1466, ⟨Lc1466, hQ1466, l1466, y1466, z1466⟩, st1466⟩ := X1436.specialBack hx (y := (⟨"com/example/typecheck/typecheck/model/QName", "<init>", "(Ljava/lang/String;Ljava/lang/String;Ljava/lang/String;)V"⟩ : MethodName)) rfl ho1339 (mvT hZ1339 (own_w hw 29 rfl)) (mvT hZ1339 (own_w hw 30 rfl)) (mvT hZ1339 (own_w hw 31 rfl)) (by decide) (backOf (W := 1) (rm_qini l Z a0 hw [] b1436 x1340 x890 x891 x892 (own_cs p1) x1278 x1279 x1280 (own_cs p2) zc h1436 n0 O1461 A1436 ge_b1436 F1462 F1463 F1464 F1465 f1467 f1468 f1469 f1470 f1473 f1474 f1475 ge904 f1476 f1477 f1478 f1479 f1480 f1481 f1482 ge1292 ne1301 (own_csok p1) (own_csok p2) S_C hzc) hZ1339 (own_w hw 31 rfl) (own_w hw 28 rfl) (by decide) (by decide)) (g := (mkF m 93 #[.val (.int p1), .val (.int p2), .val (.int p3), .val (.int p4), .val (.int p5), .val (.int p6), .val (.ref x2), .val (.ref x21), .val (.ref x890), .val (.ref x1278), .val (.ref x1307), .val (.ref x1340), .val (.ref b1377), .unset, .unset, .unset] [(.ref x1278), (.ref x890), (.ref x1340), (.ref b1436), (.ref b1436)])) rfl (by rw [hml]; rfl) (Steps.refl _) (a := b1436) (argsL := [(.ref x1340), (.ref x890), (.ref x1278)]) (rest := [(.ref b1436)]) (lenOf pd_13 rfl) rfl (by show 2 * 0 + _ ≤ _; exact Nat.le_of_eq rfl) (hb hby at_93) (fun _ _ => ⟨rfl, e1436, (by decide : 38 + 0 ≤ _), (by decide : 80 + 0 ≤ _)⟩)
      dsimp only [Pt.U, Pt.locs, Pt.cells, Pt.slots] at X1466 l1466 y1466 z1466 st1466 hQ1466
      subst l1466 y1466 z1466
      obtain ⟨rfl, N1483, k1484, f1485, f1486, f1487, f1488, f1489, f1490, f1491, f1492, f1493, f1494⟩ := hQ1466
      have N1495 := Fr.app N1433 N1483
      have hk1496 := Nat.le_trans hk1460 k1484.1
      have O1497 := O1461.keep k1484 (allS ge_b1436 (allS ge904 (allS ge1292 all0)))
      have S1498 : ∀ t, Steps p.tables e below (T1466.setTop (mkF m 108 #[.val (.int p1), .val (.int p2), .val (.int p3), .val (.int p4), .val (.int p5), .val (.int p6), .val (.ref x2), .val (.ref x21), .val (.ref x890), .val (.ref x1278), .val (.ref x1307), .val (.ref x1340), .val (.ref b1377), .val (.ref b1436), .val (.int (((p6.toUInt32 >>> ((2 : Int32) &&& 31).toUInt32).toInt32) &&& (3 : Int32))), .unset] [(.int (((p6.toUInt32 >>> ((2 : Int32) &&& 31).toUInt32).toInt32) &&& (3 : Int32)))])) t → Steps p.tables e below (s₁.setTop (mkF m 0 #[.val (.int p1), .val (.int p2), .val (.int p3), .val (.int p4), .val (.int p5), .val (.int p6), .unset, .unset, .unset, .unset, .unset, .unset, .unset, .unset, .unset, .unset] [])) t := by
        intro t kt
        refine S1376 t ?_
        refine st1377 _ ?_
        refine XS.dup X1377.here hx rfl (hb hby at_71) rfl rfl ?_
        refine XS.aload X1377.here hx rfl (hb hby at_72) rfl rfl ?_
        refine XS.aload X1377.here hx rfl (hb hby at_74) rfl rfl ?_
        refine XS.aload X1377.here hx rfl (hb hby at_76) rfl rfl ?_
        show Steps p.tables e below (T1377.setTop (mkF m 78 #[.val (.int p1), .val (.int p2), .val (.int p3), .val (.int p4), .val (.int p5), .val (.int p6), .val (.ref x2), .val (.ref x21), .val (.ref x890), .val (.ref x1278), .val (.ref x1307), .val (.ref x1340), .unset, .unset, .unset, .unset] [(.ref x21), (.ref x2), (.ref x1307), (.ref b1377), (.ref b1377)])) _
        refine st1406.trans ?_
        refine XS.astore X1406.here hx rfl (hb hby at_81) rfl rfl (l' := #[.val (.int p1), .val (.int p2), .val (.int p3), .val (.int p4), .val (.int p5), .val (.int p6), .val (.ref x2), .val (.ref x21), .val (.ref x890), .val (.ref x1278), .val (.ref x1307), .val (.ref x1340), .val (.ref b1377), .unset, .unset, .unset]) rfl ?_
        show Steps p.tables e below (T1406.setTop (mkF m 83 #[.val (.int p1), .val (.int p2), .val (.int p3), .val (.int p4), .val (.int p5), .val (.int p6), .val (.ref x2), .val (.ref x21), .val (.ref x890), .val (.ref x1278), .val (.ref x1307), .val (.ref x1340), .val (.ref b1377), .unset, .unset, .unset] [])) _
        refine st1436 _ ?_
        refine XS.dup X1436.here hx rfl (hb hby at_86) rfl rfl ?_
        refine XS.aload X1436.here hx rfl (hb hby at_87) rfl rfl ?_
        refine XS.aload X1436.here hx rfl (hb hby at_89) rfl rfl ?_
        refine XS.aload X1436.here hx rfl (hb hby at_91) rfl rfl ?_
        show Steps p.tables e below (T1436.setTop (mkF m 93 #[.val (.int p1), .val (.int p2), .val (.int p3), .val (.int p4), .val (.int p5), .val (.int p6), .val (.ref x2), .val (.ref x21), .val (.ref x890), .val (.ref x1278), .val (.ref x1307), .val (.ref x1340), .val (.ref b1377), .unset, .unset, .unset] [(.ref x1278), (.ref x890), (.ref x1340), (.ref b1436), (.ref b1436)])) _
        refine st1466.trans ?_
        refine XS.astore X1466.here hx rfl (hb hby at_96) rfl rfl (l' := #[.val (.int p1), .val (.int p2), .val (.int p3), .val (.int p4), .val (.int p5), .val (.int p6), .val (.ref x2), .val (.ref x21), .val (.ref x890), .val (.ref x1278), .val (.ref x1307), .val (.ref x1340), .val (.ref b1377), .val (.ref b1436), .unset, .unset]) rfl ?_
        refine XS.iload X1466.here hx rfl (hb hby at_98) rfl ?_
        refine XS.iconst X1466.here hx rfl (hb hby at_100) ?_
        refine XS.iushr X1466.here hx rfl (hb hby at_101) rfl ?_
        refine XS.iconst X1466.here hx rfl (hb hby at_102) ?_
        show Steps p.tables e below (T1466.setTop (mkF m 103 #[.val (.int p1), .val (.int p2), .val (.int p3), .val (.int p4), .val (.int p5), .val (.int p6), .val (.ref x2), .val (.ref x21), .val (.ref x890), .val (.ref x1278), .val (.ref x1307), .val (.ref x1340), .val (.ref b1377), .val (.ref b1436), .unset, .unset] [(.int (3 : Int32)), (.int ((p6.toUInt32 >>> ((2 : Int32) &&& 31).toUInt32).toInt32))])) _
        refine XS.iand X1466.here hx rfl (hb hby at_103) rfl ?_
        refine XS.istore X1466.here hx rfl (hb hby at_104) rfl (l' := #[.val (.int p1), .val (.int p2), .val (.int p3), .val (.int p4), .val (.int p5), .val (.int p6), .val (.ref x2), .val (.ref x21), .val (.ref x890), .val (.ref x1278), .val (.ref x1307), .val (.ref x1340), .val (.ref b1377), .val (.ref b1436), .val (.int (((p6.toUInt32 >>> ((2 : Int32) &&& 31).toUInt32).toInt32) &&& (3 : Int32))), .unset]) rfl ?_
        refine XS.iload X1466.here hx rfl (hb hby at_106) rfl ?_
        exact kt
      rcases Decidable.em ((((p6.toUInt32 >>> ((2 : Int32) &&& 31).toUInt32).toInt32) &&& (3 : Int32)) = (0 : Int32)) with c1499 | c1499
      · have f1501 := (Exa.keep f1471 k1484)
        have f1502 := (Fld.keep (Fld.ext E1436 f1428) k1484 (ninS ne1437 (ninS ne906 (ninS ne1294 nin0))))
        have f1503 := (Fld.keep (Fld.ext E1436 f1429) k1484 (ninS ne1437 (ninS ne906 (ninS ne1294 nin0))))
        have f1504 := (Exa.keep (Exa.ext E1436 f1438) k1484)
        have f1505 := (Arv.keep (Arv.ext (Arv.keep f1411 k1422 (ninS ne1381 (ninS (own_exane f1504 f1501 (by decide)) (ninS ne37 nin0)))) E1436) k1484 (ninS ne1439 (ninS ne908 (ninS ne1296 nin0))))
        have f1506 := (Exa.keep f1470 k1484)
        have f1507 := (Arv.keep f1473 k1484 (ninS ne1446 (ninS (own_exane f1506 f1489 (by decide)) (ninS ne1302 nin0))))
        obtain ⟨_, _, ⟨T1500, L1500, k1500, n1500⟩, -, X1500, ⟨Lc1500, hQ1500, l1500, y1500, z1500⟩, st1500⟩ := Jvm.LawKit.callS X1466 hx (y := (⟨"com/example/typecheck/typecheck/model/QNameEqualsPinLaw", "same", "(Ljava/lang/String;Ljava/lang/String;)Z"⟩ : MethodName)) ho1339 (mvT hZ1339 (own_w hw 60 rfl)) (mvT hZ1339 (own_w hw 61 rfl)) (mvT hZ1339 (own_w hw 2 rfl)) (mvT hZ1339 (own_w hw 62 rfl)) (by decide) (backOf (W := 0) (rm_same l Z a0 hw [] x2 x3 x4 (own_cs p1) x890 x891 x892 (own_cs p1) zc fm T1466.heap n0 O1497 f1501 f1502 f1503 f1504 f1505 f1489 f1490 f1491 f1506 f1507 (own_csok p1) (own_csok p1) S_C hzc S_F hfm) hZ1339 (own_w hw 62 rfl) (own_w hw 2 rfl) (by decide) (by decide)) (g := (mkF m 115 #[.val (.int p1), .val (.int p2), .val (.int p3), .val (.int p4), .val (.int p5), .val (.int p6), .val (.ref x2), .val (.ref x21), .val (.ref x890), .val (.ref x1278), .val (.ref x1307), .val (.ref x1340), .val (.ref b1377), .val (.ref b1436), .val (.int (((p6.toUInt32 >>> ((2 : Int32) &&& 31).toUInt32).toInt32) &&& (3 : Int32))), .unset] [(.ref x890), (.ref x2)])) rfl (by rw [hml]; rfl) (argsL := [(.ref x2), (.ref x890)]) (rest := []) (lenOf pd_14 rfl) rfl (by show 2 * 0 + _ ≤ _; exact Nat.le_of_eq rfl) (hb hby at_115) (fun _ _ => ⟨rfl, rfl, (by decide : 38 + 0 ≤ _), (by decide : 80 + 0 ≤ _)⟩)
        dsimp only [Pt.U, Pt.locs, Pt.cells, Pt.slots] at X1500 l1500 y1500 z1500 st1500 hQ1500
        subst l1500 y1500 z1500
        obtain ⟨rfl, N1508, k1509⟩ := hQ1500
        have N1510 := Fr.app N1495 N1508
        have f1512 := (Exa.keep f1472 k1484)
        have f1513 := (Fld.keep (Fld.ext E1436 f1431) k1484 (ninS ne1440 (ninS ne909 (ninS ne1298 nin0))))
        have f1514 := (Fld.keep (Fld.ext E1436 f1432) k1484 (ninS ne1440 (ninS ne909 (ninS ne1298 nin0))))
        have f1515 := (Exa.keep (Exa.ext E1436 f1441) k1484)
        have f1516 := (Arv.keep (Arv.ext (Arv.keep f1418 k1422 (ninS ne1385 (ninS (own_exane f1515 f1501 (by decide)) (ninS (own_exane f1515 f1512 (by decide)) nin0)))) E1436) k1484 (ninS ne1442 (ninS ne910 (ninS ne1300 nin0))))
        have f1517 := (Exa.keep f1479 k1484)
        have f1518 := (Arv.keep f1480 k1484 (ninS ne1450 (ninS (own_exane f1517 f1489 (by decide)) (ninS (own_exane f1517 f1492 (by decide)) nin0))))
        obtain ⟨_, _, ⟨T1511, L1511, k1511, n1511⟩, -, X1511, ⟨Lc1511, hQ1511, l1511, y1511, z1511⟩, st1511⟩ := Jvm.LawKit.callS X1500 hx (y := (⟨"com/example/typecheck/typecheck/model/QNameEqualsPinLaw", "same", "(Ljava/lang/String;Ljava/lang/String;)Z"⟩ : MethodName)) ho1339 (mvT hZ1339 (own_w hw 60 rfl)) (mvT hZ1339 (own_w hw 61 rfl)) (mvT hZ1339 (own_w hw 2 rfl)) (mvT hZ1339 (own_w hw 62 rfl)) (by decide) (backOf (W := 0) (rm_same l Z a0 hw [] x21 x22 x23 (own_cs p2) x1278 x1279 x1280 (own_cs p2) zc fm T1466.heap n0 O1497 f1512 f1513 f1514 f1515 f1516 f1492 f1493 f1494 f1517 f1518 (own_csok p2) (own_csok p2) S_C hzc S_F hfm) hZ1339 (own_w hw 62 rfl) (own_w hw 2 rfl) (by decide) (by decide)) (g := (mkF m 125 #[.val (.int p1), .val (.int p2), .val (.int p3), .val (.int p4), .val (.int p5), .val (.int p6), .val (.ref x2), .val (.ref x21), .val (.ref x890), .val (.ref x1278), .val (.ref x1307), .val (.ref x1340), .val (.ref b1377), .val (.ref b1436), .val (.int (((p6.toUInt32 >>> ((2 : Int32) &&& 31).toUInt32).toInt32) &&& (3 : Int32))), .unset] [(.ref x1278), (.ref x21)])) rfl (by rw [hml]; rfl) (argsL := [(.ref x21), (.ref x1278)]) (rest := []) (lenOf pd_14 rfl) rfl (by show 2 * 0 + _ ≤ _; exact Nat.le_of_eq rfl) (hb hby at_125) (fun _ _ => ⟨rfl, k1509, (by decide : 38 + 0 ≤ _), (by decide : 80 + 0 ≤ _)⟩)
        dsimp only [Pt.U, Pt.locs, Pt.cells, Pt.slots] at X1511 l1511 y1511 z1511 st1511 hQ1511
        subst l1511 y1511 z1511
        obtain ⟨rfl, N1519, k1520⟩ := hQ1511
        have N1521 := Fr.app N1510 N1519
        have f1523 := (Exa.keep (Exa.ext E1436 f1423) k1484)
        have f1524 := (Fld.keep (Fld.ext E1436 f1426) k1484 (ninS ne1459 (ninS (Ne.symm ne1387) (ninS (Ne.symm ne1391) nin0))))
        have f1525 := (Fld.keep (Fld.ext E1436 f1424) k1484 (ninS ne1459 (ninS (Ne.symm ne1387) (ninS (Ne.symm ne1391) nin0))))
        have f1526 := (Fld.keep (Fld.ext E1436 f1425) k1484 (ninS ne1459 (ninS (Ne.symm ne1387) (ninS (Ne.symm ne1391) nin0))))
        obtain ⟨cq1522, kq1522, q1522a, q1522b, q1522c⟩ := isOf hZ1339 k1520 f1523
        obtain ⟨_, _, ⟨T1522, L1522, k1522, n1522⟩, -, X1522, ⟨Lc1522, hQ1522, l1522, y1522, z1522⟩, st1522⟩ := X1511.virtualBack hx (y := (⟨"com/example/typecheck/typecheck/model/QName", "equals", "(Ljava/lang/Object;)Z"⟩ : MethodName)) (z := (⟨"com/example/typecheck/typecheck/model/QName", "equals", "(Ljava/lang/Object;)Z"⟩ : MethodName)) ho1339 (mvT hZ1339 (own_w hw 73 rfl)) (mvT hZ1339 (own_w hw 74 rfl)) (notFace_of_selects (args := #[]) (mvT hZ1339 (own_w hw 76 rfl))) (mvT hZ1339 (own_w hw 76 rfl)) (mvT hZ1339 (own_w hw 75 rfl)) (by decide) (backOf (W := 0) (rm_qeq l Z a0 hw [] b1377 (((31 : Int32) * (own_H (own_cs p1))) + (own_H (own_cs p2))) x2 x3 x4 (own_cs p1) x21 x22 x23 (own_cs p2) b1436 (((31 : Int32) * (own_H (own_cs p1))) + (own_H (own_cs p2))) x890 x891 x892 (own_cs p1) x1278 x1279 x1280 (own_cs p2) zc T1466.heap n0 O1497 f1523 f1524 f1525 f1526 f1501 f1502 f1503 f1504 f1505 f1512 f1513 f1514 f1515 f1516 (own_csok p1) (own_csok p2) f1485 f1488 f1486 f1487 f1489 f1490 f1491 f1506 f1507 f1492 f1493 f1494 f1517 f1518 (own_csok p1) (own_csok p2) ne1459 S_C hzc) hZ1339 (own_w hw 77 rfl) (own_w hw 28 rfl) (by decide) (by decide)) q1522a q1522c (g := (mkF m 142 #[.val (.int p1), .val (.int p2), .val (.int p3), .val (.int p4), .val (.int p5), .val (.int p6), .val (.ref x2), .val (.ref x21), .val (.ref x890), .val (.ref x1278), .val (.ref x1307), .val (.ref x1340), .val (.ref b1377), .val (.ref b1436), .val (.int (((p6.toUInt32 >>> ((2 : Int32) &&& 31).toUInt32).toInt32) &&& (3 : Int32))), .val (.int (1 : Int32))] [(.ref b1436), (.ref b1377)])) rfl (by rw [hml]; rfl) (Steps.refl _) (argsL := [(.ref b1436)]) (rest := []) (lenOf pd_11 rfl) rfl (by show 2 * 0 + _ ≤ _; exact Nat.le_of_eq rfl) (hb hby at_142) (fun _ _ => ⟨rfl, k1520, (by decide : 38 + 0 ≤ _), (by decide : 80 + 0 ≤ _)⟩)
        dsimp only [Pt.U, Pt.locs, Pt.cells, Pt.slots] at X1522 l1522 y1522 z1522 st1522 hQ1522
        subst l1522 y1522 z1522
        rcases hQ1522 with ⟨c1527, c1528, rfl, N1529, k1530⟩ | ⟨c1531, rfl, N1532, k1533⟩ | ⟨c1534, rfl, N1535, k1536⟩ | ⟨c1537, rfl, N1538, k1539⟩
        · have N1540 := Fr.app N1521 N1529
          obtain ⟨cq1541, kq1541, q1541a, q1541b, q1541c⟩ := isOf hZ1339 k1530 f1485
          obtain ⟨_, _, ⟨T1541, L1541, k1541, n1541⟩, -, X1541, ⟨Lc1541, hQ1541, l1541, y1541, z1541⟩, st1541⟩ := X1522.virtualBack hx (y := (⟨"com/example/typecheck/typecheck/model/QName", "equals", "(Ljava/lang/Object;)Z"⟩ : MethodName)) (z := (⟨"com/example/typecheck/typecheck/model/QName", "equals", "(Ljava/lang/Object;)Z"⟩ : MethodName)) ho1339 (mvT hZ1339 (own_w hw 73 rfl)) (mvT hZ1339 (own_w hw 74 rfl)) (notFace_of_selects (args := #[]) (mvT hZ1339 (own_w hw 76 rfl))) (mvT hZ1339 (own_w hw 76 rfl)) (mvT hZ1339 (own_w hw 75 rfl)) (by decide) (backOf (W := 0) (rm_qeq l Z a0 hw [] b1436 (((31 : Int32) * (own_H (own_cs p1))) + (own_H (own_cs p2))) x890 x891 x892 (own_cs p1) x1278 x1279 x1280 (own_cs p2) b1377 (((31 : Int32) * (own_H (own_cs p1))) + (own_H (own_cs p2))) x2 x3 x4 (own_cs p1) x21 x22 x23 (own_cs p2) zc T1466.heap n0 O1497 f1485 f1488 f1486 f1487 f1489 f1490 f1491 f1506 f1507 f1492 f1493 f1494 f1517 f1518 (own_csok p1) (own_csok p2) f1523 f1524 f1525 f1526 f1501 f1502 f1503 f1504 f1505 f1512 f1513 f1514 f1515 f1516 (own_csok p1) (own_csok p2) (Ne.symm ne1459) S_C hzc) hZ1339 (own_w hw 77 rfl) (own_w hw 28 rfl) (by decide) (by decide)) q1541a q1541c (g := (mkF m 154 #[.val (.int p1), .val (.int p2), .val (.int p3), .val (.int p4), .val (.int p5), .val (.int p6), .val (.ref x2), .val (.ref x21), .val (.ref x890), .val (.ref x1278), .val (.ref x1307), .val (.ref x1340), .val (.ref b1377), .val (.ref b1436), .val (.int (((p6.toUInt32 >>> ((2 : Int32) &&& 31).toUInt32).toInt32) &&& (3 : Int32))), .val (.int (1 : Int32))] [(.ref b1377), (.ref b1436)])) rfl (by rw [hml]; rfl) (Steps.refl _) (argsL := [(.ref b1377)]) (rest := []) (lenOf pd_11 rfl) rfl (by show 2 * 0 + _ ≤ _; exact Nat.le_of_eq rfl) (hb hby at_154) (fun _ _ => ⟨rfl, k1530, (by decide : 38 + 0 ≤ _), (by decide : 80 + 0 ≤ _)⟩)
          dsimp only [Pt.U, Pt.locs, Pt.cells, Pt.slots] at X1541 l1541 y1541 z1541 st1541 hQ1541
          subst l1541 y1541 z1541
          rcases hQ1541 with ⟨c1542, c1543, rfl, N1544, k1545⟩ | ⟨c1546, rfl, N1547, k1548⟩ | ⟨c1549, rfl, N1550, k1551⟩ | ⟨c1552, rfl, N1553, k1554⟩
          · have N1555 := Fr.app N1540 N1544
            have S1556 : ∀ t, Steps p.tables e below (T1541.setTop (mkF m 167 #[.val (.int p1), .val (.int p2), .val (.int p3), .val (.int p4), .val (.int p5), .val (.int p6), .val (.ref x2), .val (.ref x21), .val (.ref x890), .val (.ref x1278), .val (.ref x1307), .val (.ref x1340), .val (.ref b1377), .val (.ref b1436), .val (.int (((p6.toUInt32 >>> ((2 : Int32) &&& 31).toUInt32).toInt32) &&& (3 : Int32))), .val (.int (1 : Int32))] [(.int (1 : Int32))])) t → Steps p.tables e below (s₁.setTop (mkF m 0 #[.val (.int p1), .val (.int p2), .val (.int p3), .val (.int p4), .val (.int p5), .val (.int p6), .unset, .unset, .unset, .unset, .unset, .unset, .unset, .unset, .unset, .unset] [])) t := by
              intro t kt
              refine S1498 t ?_
              refine XS.ifNo X1466.here hx rfl (hb hby at_108) rfl ((if0 _ _).trans (teq (c1499 : (((p6.toUInt32 >>> ((2 : Int32) &&& 31).toUInt32).toInt32) &&& (3 : Int32)) = (0 : Int32))).2) ?_
              refine XS.aload X1466.here hx rfl (hb hby at_111) rfl rfl ?_
              refine XS.aload X1466.here hx rfl (hb hby at_113) rfl rfl ?_
              show Steps p.tables e below (T1466.setTop (mkF m 115 #[.val (.int p1), .val (.int p2), .val (.int p3), .val (.int p4), .val (.int p5), .val (.int p6), .val (.ref x2), .val (.ref x21), .val (.ref x890), .val (.ref x1278), .val (.ref x1307), .val (.ref x1340), .val (.ref b1377), .val (.ref b1436), .val (.int (((p6.toUInt32 >>> ((2 : Int32) &&& 31).toUInt32).toInt32) &&& (3 : Int32))), .unset] [(.ref x890), (.ref x2)])) _
              refine st1500 _ ?_
              refine XS.ifNo X1500.here hx rfl (hb hby at_118) rfl ((if0 _ _).trans (feq ((own_eq1 rfl) : ¬ ((own_eqI (own_cs p1) (own_cs p1)) = (0 : Int32)))).1) ?_
              refine XS.aload X1500.here hx rfl (hb hby at_121) rfl rfl ?_
              refine XS.aload X1500.here hx rfl (hb hby at_123) rfl rfl ?_
              show Steps p.tables e below (T1500.setTop (mkF m 125 #[.val (.int p1), .val (.int p2), .val (.int p3), .val (.int p4), .val (.int p5), .val (.int p6), .val (.ref x2), .val (.ref x21), .val (.ref x890), .val (.ref x1278), .val (.ref x1307), .val (.ref x1340), .val (.ref b1377), .val (.ref b1436), .val (.int (((p6.toUInt32 >>> ((2 : Int32) &&& 31).toUInt32).toInt32) &&& (3 : Int32))), .unset] [(.ref x1278), (.ref x21)])) _
              refine st1511 _ ?_
              refine XS.ifNo X1511.here hx rfl (hb hby at_128) rfl ((if0 _ _).trans (feq ((own_eq1 rfl) : ¬ ((own_eqI (own_cs p2) (own_cs p2)) = (0 : Int32)))).1) ?_
              refine XS.iconst X1511.here hx rfl (hb hby at_131) ?_
              refine XS.goto X1511.here hx rfl (pc0 := 132) (pc' := 136) rfl (hb hby at_132) (by decide) (by decide) ?_
              refine XS.istore X1511.here hx rfl (hb hby at_136) rfl (l' := #[.val (.int p1), .val (.int p2), .val (.int p3), .val (.int p4), .val (.int p5), .val (.int p6), .val (.ref x2), .val (.ref x21), .val (.ref x890), .val (.ref x1278), .val (.ref x1307), .val (.ref x1340), .val (.ref b1377), .val (.ref b1436), .val (.int (((p6.toUInt32 >>> ((2 : Int32) &&& 31).toUInt32).toInt32) &&& (3 : Int32))), .val (.int (1 : Int32))]) rfl ?_
              refine XS.aload X1511.here hx rfl (hb hby at_138) rfl rfl ?_
              show Steps p.tables e below (T1511.setTop (mkF m 140 #[.val (.int p1), .val (.int p2), .val (.int p3), .val (.int p4), .val (.int p5), .val (.int p6), .val (.ref x2), .val (.ref x21), .val (.ref x890), .val (.ref x1278), .val (.ref x1307), .val (.ref x1340), .val (.ref b1377), .val (.ref b1436), .val (.int (((p6.toUInt32 >>> ((2 : Int32) &&& 31).toUInt32).toInt32) &&& (3 : Int32))), .val (.int (1 : Int32))] [(.ref b1377)])) _
              refine XS.aload X1511.here hx rfl (hb hby at_140) rfl rfl ?_
              show Steps p.tables e below (T1511.setTop (mkF m 142 #[.val (.int p1), .val (.int p2), .val (.int p3), .val (.int p4), .val (.int p5), .val (.int p6), .val (.ref x2), .val (.ref x21), .val (.ref x890), .val (.ref x1278), .val (.ref x1307), .val (.ref x1340), .val (.ref b1377), .val (.ref b1436), .val (.int (((p6.toUInt32 >>> ((2 : Int32) &&& 31).toUInt32).toInt32) &&& (3 : Int32))), .val (.int (1 : Int32))] [(.ref b1436), (.ref b1377)])) _
              refine st1522.trans ?_
              refine XS.iload X1522.here hx rfl (hb hby at_145) rfl ?_
              refine XS.icmpNo X1522.here hx rfl (hb hby at_147) rfl (teq ((by decide) : (1 : Int32) = (1 : Int32))).2 ?_
              refine XS.aload X1522.here hx rfl (hb hby at_150) rfl rfl ?_
              refine XS.aload X1522.here hx rfl (hb hby at_152) rfl rfl ?_
              show Steps p.tables e below (T1522.setTop (mkF m 154 #[.val (.int p1), .val (.int p2), .val (.int p3), .val (.int p4), .val (.int p5), .val (.int p6), .val (.ref x2), .val (.ref x21), .val (.ref x890), .val (.ref x1278), .val (.ref x1307), .val (.ref x1340), .val (.ref b1377), .val (.ref b1436), .val (.int (((p6.toUInt32 >>> ((2 : Int32) &&& 31).toUInt32).toInt32) &&& (3 : Int32))), .val (.int (1 : Int32))] [(.ref b1377), (.ref b1436)])) _
              refine st1541.trans ?_
              refine XS.iload X1541.here hx rfl (hb hby at_157) rfl ?_
              refine XS.icmpNo X1541.here hx rfl (hb hby at_159) rfl (teq ((by decide) : (1 : Int32) = (1 : Int32))).2 ?_
              refine XS.iconst X1541.here hx rfl (hb hby at_162) ?_
              refine XS.goto X1541.here hx rfl (pc0 := 163) (pc' := 167) rfl (hb hby at_163) (by decide) (by decide) ?_
              exact kt
            obtain ⟨fs, hr, hrun, hended, hRW⟩ := X1541.leaveW hS1339 (by rw [k1545]; exact hk1496) (v := some (.int (1 : Int32))) (fun h => by rw [Bd.returns] at h; cases h)
            refine ⟨_, _, pre0 _ (S1556 _ ?_), hrun, hended, _, _, rfl, ?_, hRW.1, hRW.2.1, hRW.2.2.1, hRW.2.2.2.mono (by decide) (by decide)⟩
            · exact retN X1541 hx (t := .boolean) Bd.returns (by simp) (hb hby at_167) hr
            · show Q_rm_law Z p1 p2 p3 p4 p5 p6 zc fm h0 n0 _ T1541.heap _
              rw [k1545]
              exact ⟨rfl, N1555⟩
          · exact absurd ((Eq.symm (own_hq rfl rfl)) : (((31 : Int32) * (own_H (own_cs p1))) + (own_H (own_cs p2))) = (((31 : Int32) * (own_H (own_cs p1))) + (own_H (own_cs p2)))) c1546
          · exact absurd (c1527 : (own_cs p2) = (own_cs p2)) c1549
          · exact absurd (c1528 : (own_cs p1) = (own_cs p1)) c1552
        · exact absurd ((Eq.symm (own_hq rfl rfl)) : (((31 : Int32) * (own_H (own_cs p1))) + (own_H (own_cs p2))) = (((31 : Int32) * (own_H (own_cs p1))) + (own_H (own_cs p2)))) c1531
        · exact absurd ((Eq.symm rfl) : (own_cs p2) = (own_cs p2)) c1534
        · exact absurd ((Eq.symm rfl) : (own_cs p1) = (own_cs p1)) c1537
      · have S1557 : ∀ t, Steps p.tables e below (T1466.setTop (mkF m 171 #[.val (.int p1), .val (.int p2), .val (.int p3), .val (.int p4), .val (.int p5), .val (.int p6), .val (.ref x2), .val (.ref x21), .val (.ref x890), .val (.ref x1278), .val (.ref x1307), .val (.ref x1340), .val (.ref b1377), .val (.ref b1436), .val (.int (((p6.toUInt32 >>> ((2 : Int32) &&& 31).toUInt32).toInt32) &&& (3 : Int32))), .unset] [(.int (1 : Int32)), (.int (((p6.toUInt32 >>> ((2 : Int32) &&& 31).toUInt32).toInt32) &&& (3 : Int32)))])) t → Steps p.tables e below (s₁.setTop (mkF m 0 #[.val (.int p1), .val (.int p2), .val (.int p3), .val (.int p4), .val (.int p5), .val (.int p6), .unset, .unset, .unset, .unset, .unset, .unset, .unset, .unset, .unset, .unset] [])) t := by
          intro t kt
          refine S1498 t ?_
          refine XS.ifYes X1466.here hx rfl (pc0 := 108) (pc' := 168) rfl (hb hby at_108) rfl ((if0 _ _).trans (feq (c1499 : ¬ ((((p6.toUInt32 >>> ((2 : Int32) &&& 31).toUInt32).toInt32) &&& (3 : Int32)) = (0 : Int32)))).2) (by decide) (by decide) ?_
          refine XS.iload X1466.here hx rfl (hb hby at_168) rfl ?_
          refine XS.iconst X1466.here hx rfl (hb hby at_170) ?_
          exact kt
        rcases Decidable.em ((((p6.toUInt32 >>> ((2 : Int32) &&& 31).toUInt32).toInt32) &&& (3 : Int32)) = (1 : Int32)) with c1558 | c1558
        · have f1560 := (Exa.keep (Exa.ext E1436 f1423) k1484)
          obtain ⟨cq1559, kq1559, q1559a, q1559b, q1559c⟩ := isOf hZ1339 rfl f1560
          obtain ⟨_, _, ⟨T1559, L1559, k1559, n1559⟩, -, X1559, ⟨Lc1559, hQ1559, l1559, y1559, z1559⟩, st1559⟩ := X1466.virtualBack hx (y := (⟨"com/example/typecheck/typecheck/model/QName", "equals", "(Ljava/lang/Object;)Z"⟩ : MethodName)) (z := (⟨"com/example/typecheck/typecheck/model/QName", "equals", "(Ljava/lang/Object;)Z"⟩ : MethodName)) ho1339 (mvT hZ1339 (own_w hw 73 rfl)) (mvT hZ1339 (own_w hw 74 rfl)) (notFace_of_selects (args := #[]) (mvT hZ1339 (own_w hw 76 rfl))) (mvT hZ1339 (own_w hw 76 rfl)) (mvT hZ1339 (own_w hw 75 rfl)) (by decide) (backOf (W := 0) (rm_qeqs l Z a0 hw [] b1377 T1466.heap n0 O1497 ) hZ1339 (own_w hw 77 rfl) (own_w hw 28 rfl) (by decide) (by decide)) q1559a q1559c (g := (mkF m 178 #[.val (.int p1), .val (.int p2), .val (.int p3), .val (.int p4), .val (.int p5), .val (.int p6), .val (.ref x2), .val (.ref x21), .val (.ref x890), .val (.ref x1278), .val (.ref x1307), .val (.ref x1340), .val (.ref b1377), .val (.ref b1436), .val (.int (((p6.toUInt32 >>> ((2 : Int32) &&& 31).toUInt32).toInt32) &&& (3 : Int32))), .unset] [(.ref b1377), (.ref b1377)])) rfl (by rw [hml]; rfl) (Steps.refl _) (argsL := [(.ref b1377)]) (rest := []) (lenOf pd_11 rfl) rfl (by show 2 * 0 + _ ≤ _; exact Nat.le_of_eq rfl) (hb hby at_178) (fun _ _ => ⟨rfl, rfl, (by decide : 38 + 0 ≤ _), (by decide : 80 + 0 ≤ _)⟩)
          dsimp only [Pt.U, Pt.locs, Pt.cells, Pt.slots] at X1559 l1559 y1559 z1559 st1559 hQ1559
          subst l1559 y1559 z1559
          obtain ⟨rfl, N1561, k1562⟩ := hQ1559
          have N1563 := Fr.app N1495 N1561
          have S1564 : ∀ t, Steps p.tables e below (T1559.setTop (mkF m 181 #[.val (.int p1), .val (.int p2), .val (.int p3), .val (.int p4), .val (.int p5), .val (.int p6), .val (.ref x2), .val (.ref x21), .val (.ref x890), .val (.ref x1278), .val (.ref x1307), .val (.ref x1340), .val (.ref b1377), .val (.ref b1436), .val (.int (((p6.toUInt32 >>> ((2 : Int32) &&& 31).toUInt32).toInt32) &&& (3 : Int32))), .unset] [(.int (1 : Int32))])) t → Steps p.tables e below (s₁.setTop (mkF m 0 #[.val (.int p1), .val (.int p2), .val (.int p3), .val (.int p4), .val (.int p5), .val (.int p6), .unset, .unset, .unset, .unset, .unset, .unset, .unset, .unset, .unset, .unset] [])) t := by
            intro t kt
            refine S1557 t ?_
            refine XS.icmpNo X1466.here hx rfl (hb hby at_171) rfl (teq (c1558 : (((p6.toUInt32 >>> ((2 : Int32) &&& 31).toUInt32).toInt32) &&& (3 : Int32)) = (1 : Int32))).2 ?_
            refine XS.aload X1466.here hx rfl (hb hby at_174) rfl rfl ?_
            refine XS.aload X1466.here hx rfl (hb hby at_176) rfl rfl ?_
            show Steps p.tables e below (T1466.setTop (mkF m 178 #[.val (.int p1), .val (.int p2), .val (.int p3), .val (.int p4), .val (.int p5), .val (.int p6), .val (.ref x2), .val (.ref x21), .val (.ref x890), .val (.ref x1278), .val (.ref x1307), .val (.ref x1340), .val (.ref b1377), .val (.ref b1436), .val (.int (((p6.toUInt32 >>> ((2 : Int32) &&& 31).toUInt32).toInt32) &&& (3 : Int32))), .unset] [(.ref b1377), (.ref b1377)])) _
            refine st1559.trans ?_
            exact kt
          obtain ⟨fs, hr, hrun, hended, hRW⟩ := X1559.leaveW hS1339 (by rw [k1562]; exact hk1496) (v := some (.int (1 : Int32))) (fun h => by rw [Bd.returns] at h; cases h)
          refine ⟨_, _, pre0 _ (S1564 _ ?_), hrun, hended, _, _, rfl, ?_, hRW.1, hRW.2.1, hRW.2.2.1, hRW.2.2.2.mono (by decide) (by decide)⟩
          · exact retN X1559 hx (t := .boolean) Bd.returns (by simp) (hb hby at_181) hr
          · show Q_rm_law Z p1 p2 p3 p4 p5 p6 zc fm h0 n0 _ T1559.heap _
            rw [k1562]
            exact ⟨rfl, N1563⟩
        · have S1565 : ∀ t, Steps p.tables e below (T1466.setTop (mkF m 185 #[.val (.int p1), .val (.int p2), .val (.int p3), .val (.int p4), .val (.int p5), .val (.int p6), .val (.ref x2), .val (.ref x21), .val (.ref x890), .val (.ref x1278), .val (.ref x1307), .val (.ref x1340), .val (.ref b1377), .val (.ref b1436), .val (.int (((p6.toUInt32 >>> ((2 : Int32) &&& 31).toUInt32).toInt32) &&& (3 : Int32))), .unset] [(.int (2 : Int32)), (.int (((p6.toUInt32 >>> ((2 : Int32) &&& 31).toUInt32).toInt32) &&& (3 : Int32)))])) t → Steps p.tables e below (s₁.setTop (mkF m 0 #[.val (.int p1), .val (.int p2), .val (.int p3), .val (.int p4), .val (.int p5), .val (.int p6), .unset, .unset, .unset, .unset, .unset, .unset, .unset, .unset, .unset, .unset] [])) t := by
            intro t kt
            refine S1557 t ?_
            refine XS.icmpYes X1466.here hx rfl (pc0 := 171) (pc' := 182) rfl (hb hby at_171) rfl (feq (c1558 : ¬ ((((p6.toUInt32 >>> ((2 : Int32) &&& 31).toUInt32).toInt32) &&& (3 : Int32)) = (1 : Int32)))).2 (by decide) (by decide) ?_
            refine XS.iload X1466.here hx rfl (hb hby at_182) rfl ?_
            refine XS.iconst X1466.here hx rfl (hb hby at_184) ?_
            exact kt
          rcases Decidable.em ((((p6.toUInt32 >>> ((2 : Int32) &&& 31).toUInt32).toInt32) &&& (3 : Int32)) = (2 : Int32)) with c1566 | c1566
          · have f1568 := (Exa.keep (Exa.ext E1436 f1423) k1484)
            obtain ⟨cq1567, kq1567, q1567a, q1567b, q1567c⟩ := isOf hZ1339 rfl f1568
            obtain ⟨_, _, ⟨T1567, L1567, k1567, n1567⟩, -, X1567, ⟨Lc1567, hQ1567, l1567, y1567, z1567⟩, st1567⟩ := X1466.virtualBack hx (y := (⟨"com/example/typecheck/typecheck/model/QName", "equals", "(Ljava/lang/Object;)Z"⟩ : MethodName)) (z := (⟨"com/example/typecheck/typecheck/model/QName", "equals", "(Ljava/lang/Object;)Z"⟩ : MethodName)) ho1339 (mvT hZ1339 (own_w hw 73 rfl)) (mvT hZ1339 (own_w hw 74 rfl)) (notFace_of_selects (args := #[]) (mvT hZ1339 (own_w hw 76 rfl))) (mvT hZ1339 (own_w hw 76 rfl)) (mvT hZ1339 (own_w hw 75 rfl)) (by decide) (backOf (W := 0) (rm_qeqn l Z a0 hw [] b1377 T1466.heap n0 O1497 ) hZ1339 (own_w hw 77 rfl) (own_w hw 28 rfl) (by decide) (by decide)) q1567a q1567c (g := (mkF m 191 #[.val (.int p1), .val (.int p2), .val (.int p3), .val (.int p4), .val (.int p5), .val (.int p6), .val (.ref x2), .val (.ref x21), .val (.ref x890), .val (.ref x1278), .val (.ref x1307), .val (.ref x1340), .val (.ref b1377), .val (.ref b1436), .val (.int (((p6.toUInt32 >>> ((2 : Int32) &&& 31).toUInt32).toInt32) &&& (3 : Int32))), .unset] [.null, (.ref b1377)])) rfl (by rw [hml]; rfl) (Steps.refl _) (argsL := [.null]) (rest := []) (lenOf pd_11 rfl) rfl (by show 2 * 0 + _ ≤ _; exact Nat.le_of_eq rfl) (hb hby at_191) (fun _ _ => ⟨rfl, rfl, (by decide : 38 + 0 ≤ _), (by decide : 80 + 0 ≤ _)⟩)
            dsimp only [Pt.U, Pt.locs, Pt.cells, Pt.slots] at X1567 l1567 y1567 z1567 st1567 hQ1567
            subst l1567 y1567 z1567
            obtain ⟨rfl, N1569, k1570⟩ := hQ1567
            have N1571 := Fr.app N1495 N1569
            have S1572 : ∀ t, Steps p.tables e below (T1567.setTop (mkF m 202 #[.val (.int p1), .val (.int p2), .val (.int p3), .val (.int p4), .val (.int p5), .val (.int p6), .val (.ref x2), .val (.ref x21), .val (.ref x890), .val (.ref x1278), .val (.ref x1307), .val (.ref x1340), .val (.ref b1377), .val (.ref b1436), .val (.int (((p6.toUInt32 >>> ((2 : Int32) &&& 31).toUInt32).toInt32) &&& (3 : Int32))), .unset] [(.int (1 : Int32))])) t → Steps p.tables e below (s₁.setTop (mkF m 0 #[.val (.int p1), .val (.int p2), .val (.int p3), .val (.int p4), .val (.int p5), .val (.int p6), .unset, .unset, .unset, .unset, .unset, .unset, .unset, .unset, .unset, .unset] [])) t := by
              intro t kt
              refine S1565 t ?_
              refine XS.icmpNo X1466.here hx rfl (hb hby at_185) rfl (teq (c1566 : (((p6.toUInt32 >>> ((2 : Int32) &&& 31).toUInt32).toInt32) &&& (3 : Int32)) = (2 : Int32))).2 ?_
              refine XS.aload X1466.here hx rfl (hb hby at_188) rfl rfl ?_
              refine XS.aconstNull X1466.here hx rfl (hb hby at_190) ?_
              show Steps p.tables e below (T1466.setTop (mkF m 191 #[.val (.int p1), .val (.int p2), .val (.int p3), .val (.int p4), .val (.int p5), .val (.int p6), .val (.ref x2), .val (.ref x21), .val (.ref x890), .val (.ref x1278), .val (.ref x1307), .val (.ref x1340), .val (.ref b1377), .val (.ref b1436), .val (.int (((p6.toUInt32 >>> ((2 : Int32) &&& 31).toUInt32).toInt32) &&& (3 : Int32))), .unset] [.null, (.ref b1377)])) _
              refine st1567.trans ?_
              refine XS.ifNo X1567.here hx rfl (hb hby at_194) rfl ((if0 _ _).trans (teq ((by decide) : (0 : Int32) = (0 : Int32))).2) ?_
              refine XS.iconst X1567.here hx rfl (hb hby at_197) ?_
              refine XS.goto X1567.here hx rfl (pc0 := 198) (pc' := 202) rfl (hb hby at_198) (by decide) (by decide) ?_
              exact kt
            obtain ⟨fs, hr, hrun, hended, hRW⟩ := X1567.leaveW hS1339 (by rw [k1570]; exact hk1496) (v := some (.int (1 : Int32))) (fun h => by rw [Bd.returns] at h; cases h)
            refine ⟨_, _, pre0 _ (S1572 _ ?_), hrun, hended, _, _, rfl, ?_, hRW.1, hRW.2.1, hRW.2.2.1, hRW.2.2.2.mono (by decide) (by decide)⟩
            · exact retN X1567 hx (t := .boolean) Bd.returns (by simp) (hb hby at_202) hr
            · show Q_rm_law Z p1 p2 p3 p4 p5 p6 zc fm h0 n0 _ T1567.heap _
              rw [k1570]
              exact ⟨rfl, N1571⟩
          · have f1574 := (Exa.keep (Exa.ext E1436 f1423) k1484)
            have f1575 := (Exa.keep f1472 k1484)
            obtain ⟨cq1573, kq1573, q1573a, q1573b, q1573c⟩ := isOf hZ1339 rfl f1574
            obtain ⟨_, _, ⟨T1573, L1573, k1573, n1573⟩, -, X1573, ⟨Lc1573, hQ1573, l1573, y1573, z1573⟩, st1573⟩ := X1466.virtualBack hx (y := (⟨"com/example/typecheck/typecheck/model/QName", "equals", "(Ljava/lang/Object;)Z"⟩ : MethodName)) (z := (⟨"com/example/typecheck/typecheck/model/QName", "equals", "(Ljava/lang/Object;)Z"⟩ : MethodName)) ho1339 (mvT hZ1339 (own_w hw 73 rfl)) (mvT hZ1339 (own_w hw 74 rfl)) (notFace_of_selects (args := #[]) (mvT hZ1339 (own_w hw 76 rfl))) (mvT hZ1339 (own_w hw 76 rfl)) (mvT hZ1339 (own_w hw 75 rfl)) (by decide) (backOf (W := 0) (rm_qeqt l Z a0 hw [] b1377 x21 T1466.heap n0 O1497 f1574 f1575) hZ1339 (own_w hw 77 rfl) (own_w hw 28 rfl) (by decide) (by decide)) q1573a q1573c (g := (mkF m 211 #[.val (.int p1), .val (.int p2), .val (.int p3), .val (.int p4), .val (.int p5), .val (.int p6), .val (.ref x2), .val (.ref x21), .val (.ref x890), .val (.ref x1278), .val (.ref x1307), .val (.ref x1340), .val (.ref b1377), .val (.ref b1436), .val (.int (((p6.toUInt32 >>> ((2 : Int32) &&& 31).toUInt32).toInt32) &&& (3 : Int32))), .val (.ref x21)] [(.ref x21), (.ref b1377)])) rfl (by rw [hml]; rfl) (Steps.refl _) (argsL := [(.ref x21)]) (rest := []) (lenOf pd_11 rfl) rfl (by show 2 * 0 + _ ≤ _; exact Nat.le_of_eq rfl) (hb hby at_211) (fun _ _ => ⟨rfl, rfl, (by decide : 38 + 0 ≤ _), (by decide : 80 + 0 ≤ _)⟩)
            dsimp only [Pt.U, Pt.locs, Pt.cells, Pt.slots] at X1573 l1573 y1573 z1573 st1573 hQ1573
            subst l1573 y1573 z1573
            obtain ⟨rfl, N1576, k1577⟩ := hQ1573
            have N1578 := Fr.app N1495 N1576
            have S1579 : ∀ t, Steps p.tables e below (T1573.setTop (mkF m 222 #[.val (.int p1), .val (.int p2), .val (.int p3), .val (.int p4), .val (.int p5), .val (.int p6), .val (.ref x2), .val (.ref x21), .val (.ref x890), .val (.ref x1278), .val (.ref x1307), .val (.ref x1340), .val (.ref b1377), .val (.ref b1436), .val (.int (((p6.toUInt32 >>> ((2 : Int32) &&& 31).toUInt32).toInt32) &&& (3 : Int32))), .val (.ref x21)] [(.int (1 : Int32))])) t → Steps p.tables e below (s₁.setTop (mkF m 0 #[.val (.int p1), .val (.int p2), .val (.int p3), .val (.int p4), .val (.int p5), .val (.int p6), .unset, .unset, .unset, .unset, .unset, .unset, .unset, .unset, .unset, .unset] [])) t := by
              intro t kt
              refine S1565 t ?_
              refine XS.icmpYes X1466.here hx rfl (pc0 := 185) (pc' := 203) rfl (hb hby at_185) rfl (feq (c1566 : ¬ ((((p6.toUInt32 >>> ((2 : Int32) &&& 31).toUInt32).toInt32) &&& (3 : Int32)) = (2 : Int32)))).2 (by decide) (by decide) ?_
              refine XS.aload X1466.here hx rfl (hb hby at_203) rfl rfl ?_
              refine XS.astore X1466.here hx rfl (hb hby at_205) rfl rfl (l' := #[.val (.int p1), .val (.int p2), .val (.int p3), .val (.int p4), .val (.int p5), .val (.int p6), .val (.ref x2), .val (.ref x21), .val (.ref x890), .val (.ref x1278), .val (.ref x1307), .val (.ref x1340), .val (.ref b1377), .val (.ref b1436), .val (.int (((p6.toUInt32 >>> ((2 : Int32) &&& 31).toUInt32).toInt32) &&& (3 : Int32))), .val (.ref x21)]) rfl ?_
              refine XS.aload X1466.here hx rfl (hb hby at_207) rfl rfl ?_
              refine XS.aload X1466.here hx rfl (hb hby at_209) rfl rfl ?_
              show Steps p.tables e below (T1466.setTop (mkF m 211 #[.val (.int p1), .val (.int p2), .val (.int p3), .val (.int p4), .val (.int p5), .val (.int p6), .val (.ref x2), .val (.ref x21), .val (.ref x890), .val (.ref x1278), .val (.ref x1307), .val (.ref x1340), .val (.ref b1377), .val (.ref b1436), .val (.int (((p6.toUInt32 >>> ((2 : Int32) &&& 31).toUInt32).toInt32) &&& (3 : Int32))), .val (.ref x21)] [(.ref x21), (.ref b1377)])) _
              refine st1573.trans ?_
              refine XS.ifNo X1573.here hx rfl (hb hby at_214) rfl ((if0 _ _).trans (teq ((by decide) : (0 : Int32) = (0 : Int32))).2) ?_
              refine XS.iconst X1573.here hx rfl (hb hby at_217) ?_
              refine XS.goto X1573.here hx rfl (pc0 := 218) (pc' := 222) rfl (hb hby at_218) (by decide) (by decide) ?_
              exact kt
            obtain ⟨fs, hr, hrun, hended, hRW⟩ := X1573.leaveW hS1339 (by rw [k1577]; exact hk1496) (v := some (.int (1 : Int32))) (fun h => by rw [Bd.returns] at h; cases h)
            refine ⟨_, _, pre0 _ (S1579 _ ?_), hrun, hended, _, _, rfl, ?_, hRW.1, hRW.2.1, hRW.2.2.1, hRW.2.2.2.mono (by decide) (by decide)⟩
            · exact retN X1573 hx (t := .boolean) Bd.returns (by simp) (hb hby at_222) hr
            · show Q_rm_law Z p1 p2 p3 p4 p5 p6 zc fm h0 n0 _ T1573.heap _
              rw [k1577]
              exact ⟨rfl, N1578⟩
set_option maxRecDepth 65536 in
set_option maxHeartbeats 40000000 in
theorem comes_1 {Post : Tables → Env → Array Value → State → Outcome → State → Prop} (hpost : ∀ tb e args s v u, (limb_1_1.after args s (.returned v) u = true ∧ limb_1_2.after args s (.returned v) u = true ∧ True) → ReturnedEndW s (.returned v) u (Jvm.fieldLocs frame_1_writes args s ++ Jvm.arrayLocs frame_1_arrays args s ++ Jvm.staticLocs frame_1_statics s) 56 1216 → Post tb e args s (.returned v) u) :
    ArmFor flags0 classFile x code maxLocals ret World_1 tables_1 room_1 Calls_1 rest_1 Pre_1 Post := by
  intro l hfl _ _ p e ha hc hk s m args below hf hA hF happ hP
  obtain ⟨hcalls, hrest, hpre⟩ := hP
  obtain ⟨-, -, -, hnamed, -, -, -, hat⟩ := (Spec.applies_iff hf).mp happ
  obtain ⟨hg, hn⟩ := and_e (Cond.before_iff.mp (show (Jvm.Cond.and given_1 narrow_1).before args s = true from hpre))
  obtain ⟨g0, r0⟩ := and_e hg
  obtain ⟨g1, r1⟩ := and_e r0
  obtain ⟨g2, r2⟩ := and_e r1
  obtain ⟨g3, r3⟩ := and_e r2
  obtain ⟨g4, r4⟩ := and_e r3
  obtain ⟨g5, r5⟩ := and_e r4
  obtain ⟨w0, w1, w2, w3, w4, w5, rfl⟩ : ∃ w0 w1 w2 w3 w4 w5 : Value, args = #[w0, w1, w2, w3, w4, w5] := by
    have hs : args.size = 6 := by simpa [Cond.value, given_1] using g0
    obtain ⟨L⟩ := args
    match L, hs with
    | [w0, w1, w2, w3, w4, w5], _ => exact ⟨w0, w1, w2, w3, w4, w5, rfl⟩
  have hw := fun d (hd : d ∈ tables_1) => atoms_spec (ws := Jvm.Cond.code x code maxLocals ret :: tables_1) hat d (List.mem_cons_of_mem _ hd)
  have hfit : Fit s := fun {y c} hc i hi => by
    obtain ⟨ha, rfl⟩ := Array.getElem?_eq_some_iff.mp hc
    have q := List.all_eq_true.mp ((Array.all_eq_true_iff_forall_mem.mp hF) _ (Array.getElem_mem ha)) i (List.mem_range.mpr hi)
    simpa [Array.getElem?_eq_getElem hi] using q
  obtain ⟨i0, e0⟩ := is_v g1
  obtain rfl : w0 = (.int i0) := Option.some.inj e0
  obtain ⟨i1, e1⟩ := is_v g2
  obtain rfl : w1 = (.int i1) := Option.some.inj e1
  obtain ⟨i2, e2⟩ := is_v g3
  obtain rfl : w2 = (.int i2) := Option.some.inj e2
  obtain ⟨i3, e3⟩ := is_v g4
  obtain rfl : w3 = (.int i3) := Option.some.inj e3
  obtain ⟨i4, e4⟩ := is_v g5
  obtain rfl : w4 = (.int i4) := Option.some.inj e4
  obtain ⟨i5, e5⟩ := is_v r5
  obtain rfl : w5 = (.int i5) := Option.some.inj e5
  obtain ⟨hsets, hown0⟩ := atoms_of _ (rest_1_c_eq ▸ (show rest_1_c.before _ s = true from hrest))
  obtain ⟨zc, ezc⟩ := is_v (Cond.before_iff.mp (hsets _ (List.mem_of_getElem? (i := 1) rfl)))
  have S_C : Sta s s.heap "java/lang/String" "COMPACT_STRINGS" "Z" (.int zc) := Sta.start ezc (Or.inl (hsets _ (List.mem_of_getElem? (i := 0) rfl)))
  have hcw : Jvm.Lit.compactW.before _ s = true := hsets _ (List.mem_of_getElem? (i := 2) rfl)
  have n3 := not_v (Cond.before_iff.mp (hsets _ (List.mem_of_getElem? (i := 2) rfl)))
  have hzc : ¬ (zc = (0 : Int32)) := gotF (Cond.eq_ints ezc (Term.int_eval (0))) n3
  obtain ⟨fm, efm, hfm⟩ := isR_v (Cond.before_iff.mp (hsets _ (List.mem_of_getElem? (i := 8) rfl)))
  have S_F : Sta s s.heap "jdk/internal/util/Preconditions" "SIOOBE_FORMATTER" "Ljava/util/function/BiFunction;" fm := Sta.start efm (Or.inl (hsets _ (List.mem_of_getElem? (i := 7) rfl)))
  have hch : CHv s own_EL s.vm s.heap := CHv.start (own_EWof hw) (fun p hp => hcalls.1 p (own_sub p hp)) hcw (hw _ (own_atoms _ (by simp [Bundle.stringAtoms]))) (hw _ (own_atoms _ (by simp [Bundle.stringAtoms, Bundle.sN])))
  obtain ⟨n, o, h1, h2, h3, _, L, rfl, ⟨rfl, N⟩, hq⟩ := rm_law l s _ hw tables_1 i0 i1 i2 i3 i4 i5 zc fm s.heap s.heap.size (Old.start s) S_C hzc S_F hfm p e ha hc hk s m _ below hf ((Spec.applies_iff_loose hf).mp happ).1 ⟨rfl, State.Warmed39.refl s, rfl, hch, all0⟩ trivial
  refine ⟨n, _, h1, h2, h3, hpost _ _ _ _ _ _ ⟨Cond.after_iff.mpr rfl, Cond.after_iff.mpr (eq_i res_at (Term.int_eval (1)) rfl), trivial⟩ ⟨hq.1, hq.2.1, hq.2.2.1, (hq.2.2.2.sift fun y hy => Or.inr (N y hy)).mono (by decide) (by decide)⟩⟩
theorem main_1_1 : Claimed_1_1 := comes_1 fun _ _ _ _ _ _ h hF => ⟨h.1, hF⟩
theorem main_1_2 : Claimed_1_2 := comes_1 fun _ _ _ _ _ _ h hF => ⟨h.2.1, hF⟩
end Jvm.Pilot.@@N@@
namespace Jvm.Pilot.@@N@@
open Jvm Jvm.ClassFile Sem Op Lib Jvm.Free Jvm.Stand Jvm.Pilot.@@N@@.Jvm.D
/-! MADE BY PROGRAM (witnessworld.py) out of the Statement's table words and the real class files: 20 classes; the members and pool entries that the words name. The judged class is class 1, her method 3. -/
namespace start1
open Jvm.ClassFile
def u (s : String) : CpInfo := .utf8 (stringToUtf16 s)
/-- a pool by its gaps: so many unusable entries, then the entry; so many at the end -/
def gap : Nat → List CpInfo → List CpInfo
  | 0, r => r
  | n + 1, r => .unusable :: gap n r
def poolList (es : List (Nat × CpInfo)) (last : Nat) : List CpInfo := es.foldr (fun e r => gap e.1 (e.2 :: r)) (gap last [])
def pool (es : List (Nat × CpInfo)) (last : Nat) : Array CpInfo := ⟨poolList es last⟩
def fileOf (pool : Array CpInfo) (this : Nat) (attrs : Array Attribute := #[]) (ms : Array MethodInfo := #[]) (fl : Nat := 33) (sup : Nat := 0) (ifs : Array Nat := #[]) (fds : Array FieldInfo := #[]) : ClassFile where
  minorVersion := 0
  majorVersion := 65
  constantPool := pool
  accessFlags := fl
  thisClass := this
  superClass := sup
  interfaces := ifs
  fields := fds
  methods := ms
  attributes := attrs
def plain (name : String) (sup : Option ClassId) : Class where
  name := name
  kind := .ordinary
  loader := none
  accessFlags := 33
  super := sup
  interfaces := #[]
  cf := none
  fields := #[]
  methods := #[]
  instanceTypes := #[]
  staticTypes := #[]
  resolved := #[]
  callSites := []
  init := .initialized
  statics := none
  mirror := none

def pool0 : Array CpInfo := pool [(5, u "<init>"), (0, u "()V"), (1, .class_ 10), (1, u "java/lang/Object")] 113

def k0c0 : Code := { maxStack := 0, maxLocals := 1, code := object_method_1_code, exceptionTable := #[], attributes := #[] }
def k0m0 : Method := { name := "<init>", desc := "()V", sig := { parameters := [], returnType := none }, accessFlags := 1, code := some k0c0 }
/-- java/lang/Object -/
def k0 : Class := { plain "java/lang/Object" none with
  accessFlags := 33
  interfaces := #[]
  cf := some (fileOf pool0 8 #[] #[{ accessFlags := 1, nameIndex := 5, descriptorIndex := 6, attributes := #[] }] 33 0 #[] #[])
  fields := #[]
  methods := #[k0m0]
  instanceTypes := #[]
  staticTypes := #[]
  resolved := Array.replicate 124 none
  statics := none }

def pool1 : Array CpInfo := pool [(2, .class_ 4), (1, u "java/lang/Object"), (0, u "<init>"), (0, u "()V"), (0, .class_ 8), (0, u "java/lang/String"), (0, .methodref 7 10), (0, .nameAndType 5 11), (0, u "([C)V"), (0, .methodref 7 13), (0, .nameAndType 14 15), (0, u "length"), (0, u "()I"), (0, .methodref 7 17), (0, .nameAndType 18 19), (0, u "charAt"), (0, u "(I)C"), (0, .methodref 21 22), (0, .class_ 23), (0, .nameAndType 24 25), (0, u "com/example/typecheck/typecheck/model/QNameEqualsPinLaw"), (0, u "str"), (0, u "(I)Ljava/lang/String;"), (0, .class_ 27), (0, u "com/example/typecheck/typecheck/model/QName"), (0, .methodref 26 29), (0, .nameAndType 5 30), (0, u "(Ljava/lang/String;Ljava/lang/String;Ljava/lang/String;)V"), (0, .methodref 21 32), (0, .nameAndType 33 34), (0, u "same"), (0, u "(Ljava/lang/String;Ljava/lang/String;)Z"), (0, .methodref 26 36), (0, .nameAndType 37 38), (0, u "equals"), (0, u "(Ljava/lang/Object;)Z"), (5, u "law"), (0, u "(IIIIII)Z")] 2

def k1m0 : Method := { name := "<init>", desc := "()V", sig := { parameters := [], returnType := none }, accessFlags := 1, code := none }
def k1c1 : Code := { maxStack := 4, maxLocals := 3, code := method_2_code, exceptionTable := #[], attributes := #[] }
def k1m1 : Method := { name := "str", desc := "(I)Ljava/lang/String;", sig := { parameters := [.int], returnType := some (.object "java/lang/String") }, accessFlags := 10, code := some k1c1 }
def k1c2 : Code := { maxStack := 3, maxLocals := 2, code := method_3_code, exceptionTable := #[], attributes := #[] }
def k1m2 : Method := { name := "same", desc := "(Ljava/lang/String;Ljava/lang/String;)Z", sig := { parameters := [(.object "java/lang/String"), (.object "java/lang/String")], returnType := some .boolean }, accessFlags := 10, code := some k1c2 }
def k1c3 : Code := { maxStack := 5, maxLocals := 16, code := code, exceptionTable := #[], attributes := #[] }
def k1m3 : Method := { name := "law", desc := "(IIIIII)Z", sig := { parameters := [.int, .int, .int, .int, .int, .int], returnType := some .boolean }, accessFlags := 9, code := some k1c3 }
/-- com/example/typecheck/typecheck/model/QNameEqualsPinLaw -/
def k1 : Class := { plain "com/example/typecheck/typecheck/model/QNameEqualsPinLaw" (some 0) with
  accessFlags := 49
  interfaces := #[]
  cf := some (fileOf pool1 21 #[] #[{ accessFlags := 1, nameIndex := 5, descriptorIndex := 6, attributes := #[] }, { accessFlags := 10, nameIndex := 24, descriptorIndex := 25, attributes := #[] }, { accessFlags := 10, nameIndex := 33, descriptorIndex := 34, attributes := #[] }, { accessFlags := 9, nameIndex := 44, descriptorIndex := 45, attributes := #[] }] 49 2 #[] #[])
  fields := #[]
  methods := #[k1m0, k1m1, k1m2, k1m3]
  instanceTypes := #[]
  staticTypes := #[]
  resolved := Array.replicate 48 none
  statics := none }

def pool2 : Array CpInfo := pool [(1, .class_ 2), (0, u "java/io/Serializable"), (0, .class_ 4), (0, u "java/lang/Object")] 2

/-- java/io/Serializable -/
def k2 : Class := { plain "java/io/Serializable" (some 0) with
  accessFlags := 1537
  interfaces := #[]
  cf := some (fileOf pool2 1 #[] #[] 1537 3 #[] #[])
  fields := #[]
  methods := #[]
  instanceTypes := #[]
  staticTypes := #[]
  resolved := Array.replicate 7 none
  statics := none }

def pool3 : Array CpInfo := pool [(1, .class_ 2), (0, u "java/lang/Comparable"), (0, .class_ 4), (0, u "java/lang/Object")] 7

/-- java/lang/Comparable -/
def k3 : Class := { plain "java/lang/Comparable" (some 0) with
  accessFlags := 1537
  interfaces := #[]
  cf := some (fileOf pool3 1 #[] #[] 1537 3 #[] #[])
  fields := #[]
  methods := #[]
  instanceTypes := #[]
  staticTypes := #[]
  resolved := Array.replicate 12 none
  statics := none }

def pool4 : Array CpInfo := pool [(2, .class_ 4), (1, u "java/lang/CharSequence"), (42, .class_ 48), (0, u "java/lang/CharSequence$1CodePointIterator"), (10, .class_ 60), (0, u "java/lang/CharSequence$1CharIterator"), (5, .class_ 67), (0, u "java/lang/Object")] 63

/-- java/lang/CharSequence -/
def k4 : Class := { plain "java/lang/CharSequence" (some 0) with
  accessFlags := 1537
  interfaces := #[]
  cf := some (fileOf pool4 2 #[.nestMembers #[47, 59]] #[] 1537 66 #[] #[])
  fields := #[]
  methods := #[]
  instanceTypes := #[]
  staticTypes := #[]
  resolved := Array.replicate 131 none
  statics := none }

def pool5 : Array CpInfo := pool [(1, .class_ 2), (0, u "java/lang/constant/Constable"), (0, .class_ 4), (0, u "java/lang/Object")] 6

/-- java/lang/constant/Constable -/
def k5 : Class := { plain "java/lang/constant/Constable" (some 0) with
  accessFlags := 1537
  interfaces := #[]
  cf := some (fileOf pool5 1 #[] #[] 1537 3 #[] #[])
  fields := #[]
  methods := #[]
  instanceTypes := #[]
  staticTypes := #[]
  resolved := Array.replicate 11 none
  statics := none }

def pool6 : Array CpInfo := pool [(1, .class_ 2), (0, u "java/lang/constant/ConstantDesc"), (0, .class_ 4), (0, u "java/lang/Object")] 32

/-- java/lang/constant/ConstantDesc -/
def k6 : Class := { plain "java/lang/constant/ConstantDesc" (some 0) with
  accessFlags := 1537
  interfaces := #[]
  cf := some (fileOf pool6 1 #[] #[] 1537 3 #[] #[])
  fields := #[]
  methods := #[]
  instanceTypes := #[]
  staticTypes := #[]
  resolved := Array.replicate 37 none
  statics := none }

def pool7 : Array CpInfo := pool [(1, .methodref 2 3), (0, .class_ 4), (0, .nameAndType 5 6), (0, u "java/lang/Object"), (0, u "<init>"), (0, u "()V"), (0, .string 8), (0, u ""), (0, .fieldref 10 11), (0, .class_ 12), (0, .nameAndType 13 14), (0, u "java/lang/String"), (0, u "value"), (0, u "[B"), (0, .fieldref 10 16), (0, .nameAndType 17 18), (0, u "coder"), (0, u "B"), (0, .fieldref 10 20), (0, .nameAndType 21 22), (0, u "hash"), (0, u "I"), (0, .fieldref 10 24), (0, .nameAndType 25 26), (0, u "hashIsZero"), (0, u "Z"), (0, .methodref 10 28), (0, .nameAndType 5 29), (0, u "([CIILjava/lang/Void;)V"), (8, .fieldref 10 39), (0, .nameAndType 40 26), (0, u "COMPACT_STRINGS"), (1, .class_ 44), (1, u "java/lang/StringUTF16"), (0, u "compress"), (1, .methodref 42 48), (0, .nameAndType 49 50), (0, u "coderFromArrayLen"), (0, u "([BI)B"), (56, .class_ 109), (1, u "java/lang/StringLatin1"), (32, u "()Z"), (34, .methodref 42 178), (0, .nameAndType 45 179), (0, u "([CII)[B"), (154, u "()I"), (0, .methodref 10 336), (0, .nameAndType 17 337), (0, u "()B"), (25, u "([BI)C"), (27, u "(II)V"), (35, u "(I)C"), (64, .methodref 10 493), (0, .nameAndType 494 142), (0, u "isLatin1"), (0, .methodref 107 496), (0, .nameAndType 497 363), (0, u "charAt"), (3, u "checkIndex"), (5, u "length"), (33, .methodref 107 542), (0, .nameAndType 543 544), (0, u "equals"), (0, u "([B[B)Z"), (28, u "(Ljava/lang/Object;)Z"), (1, .class_ 576), (0, u "java/lang/CharSequence"), (22, u "CASE_INSENSITIVE_ORDER"), (0, u "Ljava/util/Comparator;"), (27, .methodref 107 629), (0, .nameAndType 630 631), (0, u "hashCode"), (0, u "([B)I"), (378, u "([C)V"), (42, .fieldref 1054 1055), (0, .class_ 1056), (0, .nameAndType 1057 1058), (0, u "jdk/internal/util/Preconditions"), (0, u "SIOOBE_FORMATTER"), (0, u "Ljava/util/function/BiFunction;"), (0, .methodref 1054 1060), (0, .nameAndType 501 1061), (0, u "(IILjava/util/function/BiFunction;)I"), (39, u "serialPersistentFields"), (0, u "[Ljava/io/ObjectStreamField;"), (0, .class_ 1104), (0, u "java/lang/String$CaseInsensitiveComparator"), (1, .class_ 1107), (0, u "java/io/Serializable"), (0, .class_ 1109), (0, u "java/lang/Comparable"), (0, .class_ 1111), (0, u "java/lang/constant/Constable"), (0, .class_ 1113), (0, u "java/lang/constant/ConstantDesc"), (2, u "serialVersionUID"), (0, u "J"), (3, u "REPL"), (0, u "C"), (2, u "LATIN1"), (1, u "UTF16")] 323

def k7m0 : Method := { name := "<init>", desc := "()V", sig := { parameters := [], returnType := none }, accessFlags := 1, code := none }
def k7c1 : Code := { maxStack := 5, maxLocals := 2, code := jdk_42_method_3_code, exceptionTable := #[], attributes := #[] }
def k7m1 : Method := { name := "<init>", desc := "([C)V", sig := { parameters := [(.array .char)], returnType := none }, accessFlags := 1, code := some k7c1 }
def k7c2 : Code := { maxStack := 2, maxLocals := 1, code := jdk_42_method_54_code, exceptionTable := #[], attributes := #[] }
def k7m2 : Method := { name := "length", desc := "()I", sig := { parameters := [], returnType := some .int }, accessFlags := 1, code := some k7c2 }
def k7c3 : Code := { maxStack := 2, maxLocals := 2, code := jdk_42_method_56_code, exceptionTable := #[], attributes := #[] }
def k7m3 : Method := { name := "charAt", desc := "(I)C", sig := { parameters := [.int], returnType := some .char }, accessFlags := 1, code := some k7c3 }
def k7c4 : Code := { maxStack := 2, maxLocals := 3, code := jdk_42_method_66_code, exceptionTable := #[], attributes := #[] }
def k7m4 : Method := { name := "equals", desc := "(Ljava/lang/Object;)Z", sig := { parameters := [(.object "java/lang/Object")], returnType := some .boolean }, accessFlags := 1, code := some k7c4 }
def k7c5 : Code := { maxStack := 2, maxLocals := 2, code := jdk_42_method_78_code, exceptionTable := #[], attributes := #[] }
def k7m5 : Method := { name := "hashCode", desc := "()I", sig := { parameters := [], returnType := some .int }, accessFlags := 1, code := some k7c5 }
def k7c6 : Code := { maxStack := 4, maxLocals := 6, code := jdk_42_method_149_code, exceptionTable := #[], attributes := #[] }
def k7m6 : Method := { name := "<init>", desc := "([CIILjava/lang/Void;)V", sig := { parameters := [(.array .char), .int, .int, (.object "java/lang/Void")], returnType := none }, accessFlags := 2, code := some k7c6 }
def k7c7 : Code := { maxStack := 1, maxLocals := 1, code := jdk_42_method_152_code, exceptionTable := #[], attributes := #[] }
def k7m7 : Method := { name := "coder", desc := "()B", sig := { parameters := [], returnType := some .byte }, accessFlags := 0, code := some k7c7 }
def k7c8 : Code := { maxStack := 1, maxLocals := 1, code := jdk_42_method_154_code, exceptionTable := #[], attributes := #[] }
def k7m8 : Method := { name := "isLatin1", desc := "()Z", sig := { parameters := [], returnType := some .boolean }, accessFlags := 0, code := some k7c8 }
def k7c9 : Code := { maxStack := 3, maxLocals := 2, code := jdk_42_method_155_code, exceptionTable := #[], attributes := #[] }
def k7m9 : Method := { name := "checkIndex", desc := "(II)V", sig := { parameters := [.int, .int], returnType := none }, accessFlags := 8, code := some k7c9 }
/-- java/lang/String -/
def k7 : Class := { plain "java/lang/String" (some 0) with
  accessFlags := 49
  interfaces := #[2, 3, 4, 5, 6]
  cf := some (fileOf pool7 10 #[.nestMembers #[1103]] #[{ accessFlags := 1, nameIndex := 5, descriptorIndex := 6, attributes := #[] }, { accessFlags := 1, nameIndex := 5, descriptorIndex := 1010, attributes := #[] }, { accessFlags := 1, nameIndex := 507, descriptorIndex := 334, attributes := #[] }, { accessFlags := 1, nameIndex := 497, descriptorIndex := 427, attributes := #[] }, { accessFlags := 1, nameIndex := 543, descriptorIndex := 573, attributes := #[] }, { accessFlags := 1, nameIndex := 630, descriptorIndex := 334, attributes := #[] }, { accessFlags := 2, nameIndex := 5, descriptorIndex := 29, attributes := #[] }, { accessFlags := 0, nameIndex := 17, descriptorIndex := 337, attributes := #[] }, { accessFlags := 0, nameIndex := 494, descriptorIndex := 142, attributes := #[] }, { accessFlags := 8, nameIndex := 501, descriptorIndex := 391, attributes := #[] }] 49 2 #[1106, 1108, 575, 1110, 1112] #[{ accessFlags := 18, nameIndex := 13, descriptorIndex := 14, attributes := #[] }, { accessFlags := 18, nameIndex := 17, descriptorIndex := 18, attributes := #[] }, { accessFlags := 2, nameIndex := 21, descriptorIndex := 22, attributes := #[] }, { accessFlags := 2, nameIndex := 25, descriptorIndex := 26, attributes := #[] }, { accessFlags := 26, nameIndex := 1116, descriptorIndex := 1117, attributes := #[] }, { accessFlags := 24, nameIndex := 40, descriptorIndex := 26, attributes := #[] }, { accessFlags := 26, nameIndex := 1101, descriptorIndex := 1102, attributes := #[] }, { accessFlags := 26, nameIndex := 1121, descriptorIndex := 1122, attributes := #[] }, { accessFlags := 25, nameIndex := 599, descriptorIndex := 600, attributes := #[] }, { accessFlags := 24, nameIndex := 1125, descriptorIndex := 18, attributes := #[] }, { accessFlags := 24, nameIndex := 1127, descriptorIndex := 18, attributes := #[] }])
  fields := #[{ name := "value", type := (.array .byte), accessFlags := 18, slot := 0, constantValue := 0 }, { name := "coder", type := .byte, accessFlags := 18, slot := 1, constantValue := 0 }, { name := "hash", type := .int, accessFlags := 2, slot := 2, constantValue := 0 }, { name := "hashIsZero", type := .boolean, accessFlags := 2, slot := 3, constantValue := 0 }, { name := "serialVersionUID", type := .long, accessFlags := 26, slot := 0, constantValue := 0 }, { name := "COMPACT_STRINGS", type := .boolean, accessFlags := 24, slot := 1, constantValue := 0 }, { name := "serialPersistentFields", type := (.array (.object "java/io/ObjectStreamField")), accessFlags := 26, slot := 2, constantValue := 0 }, { name := "REPL", type := .char, accessFlags := 26, slot := 3, constantValue := 0 }, { name := "CASE_INSENSITIVE_ORDER", type := (.object "java/util/Comparator"), accessFlags := 25, slot := 4, constantValue := 0 }, { name := "LATIN1", type := .byte, accessFlags := 24, slot := 5, constantValue := 0 }, { name := "UTF16", type := .byte, accessFlags := 24, slot := 6, constantValue := 0 }]
  methods := #[k7m0, k7m1, k7m2, k7m3, k7m4, k7m5, k7m6, k7m7, k7m8, k7m9]
  instanceTypes := #[(.array .byte), .byte, .int, .boolean]
  staticTypes := #[.long, .boolean, (.array (.object "java/io/ObjectStreamField")), .char, (.object "java/util/Comparator"), .byte, .byte]
  resolved := Array.replicate 1451 none
  statics := some 0 }

def pool8 : Array CpInfo := pool [(1, .methodref 2 3), (0, .class_ 4), (0, .nameAndType 5 6), (0, u "java/lang/Object"), (0, u "<init>"), (0, u "()V"), (0, .fieldref 8 9), (0, .class_ 10), (0, .nameAndType 11 12), (0, u "com/example/typecheck/typecheck/model/QName"), (0, u "prefix"), (0, u "Ljava/lang/String;"), (0, .fieldref 8 14), (0, .nameAndType 15 12), (0, u "namespace"), (0, .fieldref 8 17), (0, .nameAndType 18 12), (0, u "localName"), (0, .methodref 20 21), (0, .class_ 22), (0, .nameAndType 23 24), (0, u "java/lang/String"), (0, u "hashCode"), (0, u "()I"), (0, .fieldref 8 26), (0, .nameAndType 27 28), (0, u "hash"), (0, u "I"), (6, u "(Ljava/lang/String;Ljava/lang/String;Ljava/lang/String;)V"), (16, .methodref 20 53), (0, .nameAndType 54 55), (0, u "equals"), (0, u "(Ljava/lang/Object;)Z"), (15, u "FS_DOT"), (0, u "Lcom/example/typecheck/typecheck/model/QName;"), (4, u "FS_POSITION"), (4, u "FS_LAST"), (6, u "FN_BOOLEAN"), (4, u "FN_DATA"), (4, u "FS_CONVERT_OPERAND"), (4, u "FS_CONVERT_SIMPLE_OPERAND"), (0, u "FN_NAMESPACE"), (1, u "XS_NAMESPACE"), (0, u "XSI_NAMESPACE"), (0, u "FS_NAMESPACE"), (0, u "OP_NAMESPACE")] 23

def k8c0 : Code := { maxStack := 3, maxLocals := 4, code := prog_176_method_1_code, exceptionTable := #[], attributes := #[] }
def k8m0 : Method := { name := "<init>", desc := "(Ljava/lang/String;Ljava/lang/String;Ljava/lang/String;)V", sig := { parameters := [(.object "java/lang/String"), (.object "java/lang/String"), (.object "java/lang/String")], returnType := none }, accessFlags := 1, code := some k8c0 }
def k8c1 : Code := { maxStack := 2, maxLocals := 3, code := prog_176_method_10_code, exceptionTable := #[], attributes := #[] }
def k8m1 : Method := { name := "equals", desc := "(Ljava/lang/Object;)Z", sig := { parameters := [(.object "java/lang/Object")], returnType := some .boolean }, accessFlags := 1, code := some k8c1 }
/-- com/example/typecheck/typecheck/model/QName -/
def k8 : Class := { plain "com/example/typecheck/typecheck/model/QName" (some 0) with
  accessFlags := 49
  interfaces := #[]
  cf := some (fileOf pool8 8 #[] #[{ accessFlags := 1, nameIndex := 5, descriptorIndex := 35, attributes := #[] }, { accessFlags := 1, nameIndex := 54, descriptorIndex := 55, attributes := #[] }] 49 2 #[] #[{ accessFlags := 25, nameIndex := 105, descriptorIndex := 12, attributes := #[] }, { accessFlags := 25, nameIndex := 107, descriptorIndex := 12, attributes := #[] }, { accessFlags := 25, nameIndex := 108, descriptorIndex := 12, attributes := #[] }, { accessFlags := 25, nameIndex := 109, descriptorIndex := 12, attributes := #[] }, { accessFlags := 25, nameIndex := 71, descriptorIndex := 72, attributes := #[] }, { accessFlags := 25, nameIndex := 77, descriptorIndex := 72, attributes := #[] }, { accessFlags := 25, nameIndex := 82, descriptorIndex := 72, attributes := #[] }, { accessFlags := 25, nameIndex := 110, descriptorIndex := 12, attributes := #[] }, { accessFlags := 25, nameIndex := 89, descriptorIndex := 72, attributes := #[] }, { accessFlags := 25, nameIndex := 94, descriptorIndex := 72, attributes := #[] }, { accessFlags := 25, nameIndex := 99, descriptorIndex := 72, attributes := #[] }, { accessFlags := 25, nameIndex := 104, descriptorIndex := 72, attributes := #[] }, { accessFlags := 18, nameIndex := 11, descriptorIndex := 12, attributes := #[] }, { accessFlags := 18, nameIndex := 15, descriptorIndex := 12, attributes := #[] }, { accessFlags := 18, nameIndex := 18, descriptorIndex := 12, attributes := #[] }, { accessFlags := 18, nameIndex := 27, descriptorIndex := 28, attributes := #[] }])
  fields := #[{ name := "FN_NAMESPACE", type := (.object "java/lang/String"), accessFlags := 25, slot := 0, constantValue := 0 }, { name := "XS_NAMESPACE", type := (.object "java/lang/String"), accessFlags := 25, slot := 1, constantValue := 0 }, { name := "XSI_NAMESPACE", type := (.object "java/lang/String"), accessFlags := 25, slot := 2, constantValue := 0 }, { name := "FS_NAMESPACE", type := (.object "java/lang/String"), accessFlags := 25, slot := 3, constantValue := 0 }, { name := "FS_DOT", type := (.object "com/example/typecheck/typecheck/model/QName"), accessFlags := 25, slot := 4, constantValue := 0 }, { name := "FS_POSITION", type := (.object "com/example/typecheck/typecheck/model/QName"), accessFlags := 25, slot := 5, constantValue := 0 }, { name := "FS_LAST", type := (.object "com/example/typecheck/typecheck/model/QName"), accessFlags := 25, slot := 6, constantValue := 0 }, { name := "OP_NAMESPACE", type := (.object "java/lang/String"), accessFlags := 25, slot := 7, constantValue := 0 }, { name := "FN_BOOLEAN", type := (.object "com/example/typecheck/typecheck/model/QName"), accessFlags := 25, slot := 8, constantValue := 0 }, { name := "FN_DATA", type := (.object "com/example/typecheck/typecheck/model/QName"), accessFlags := 25, slot := 9, constantValue := 0 }, { name := "FS_CONVERT_OPERAND", type := (.object "com/example/typecheck/typecheck/model/QName"), accessFlags := 25, slot := 10, constantValue := 0 }, { name := "FS_CONVERT_SIMPLE_OPERAND", type := (.object "com/example/typecheck/typecheck/model/QName"), accessFlags := 25, slot := 11, constantValue := 0 }, { name := "prefix", type := (.object "java/lang/String"), accessFlags := 18, slot := 0, constantValue := 0 }, { name := "namespace", type := (.object "java/lang/String"), accessFlags := 18, slot := 1, constantValue := 0 }, { name := "localName", type := (.object "java/lang/String"), accessFlags := 18, slot := 2, constantValue := 0 }, { name := "hash", type := .int, accessFlags := 18, slot := 3, constantValue := 0 }]
  methods := #[k8m0, k8m1]
  instanceTypes := #[(.object "java/lang/String"), (.object "java/lang/String"), (.object "java/lang/String"), .int]
  staticTypes := #[(.object "java/lang/String"), (.object "java/lang/String"), (.object "java/lang/String"), (.object "java/lang/String"), (.object "com/example/typecheck/typecheck/model/QName"), (.object "com/example/typecheck/typecheck/model/QName"), (.object "com/example/typecheck/typecheck/model/QName"), (.object "java/lang/String"), (.object "com/example/typecheck/typecheck/model/QName"), (.object "com/example/typecheck/typecheck/model/QName"), (.object "com/example/typecheck/typecheck/model/QName"), (.object "com/example/typecheck/typecheck/model/QName")]
  resolved := Array.replicate 134 none
  statics := none }

def pool9 : Array CpInfo := pool [(1, .class_ 2), (0, u "java/lang/String"), (1, .class_ 6), (1, u "java/lang/Object"), (0, u "<init>"), (0, u "()V"), (0, .methodref 1 10), (0, .nameAndType 11 12), (0, u "checkIndex"), (0, u "(II)V"), (1, .class_ 16), (1, u "java/lang/StringLatin1"), (28, .class_ 47), (1, u "jdk/internal/util/ArraysSupport"), (5, u "([BI)C"), (3, u "([B)I"), (26, .methodref 45 85), (0, .nameAndType 86 87), (0, u "vectorizedHashCode"), (0, u "(Ljava/lang/Object;IIII)I"), (33, u "$assertionsDisabled"), (0, u "Z"), (98, .class_ 223), (1, u "java/lang/StringLatin1$LinesSpliterator"), (28, u "charAt"), (28, u "equals"), (0, u "([B[B)Z"), (15, u "hashCode"), (91, .class_ 391), (0, u "java/lang/StringLatin1$CharsSpliterator")] 3

def k9m0 : Method := { name := "<init>", desc := "()V", sig := { parameters := [], returnType := none }, accessFlags := 0, code := none }
def k9c1 : Code := { maxStack := 2, maxLocals := 2, code := jdk_43_method_2_code, exceptionTable := #[], attributes := #[] }
def k9m1 : Method := { name := "charAt", desc := "([BI)C", sig := { parameters := [(.array .byte), .int], returnType := some .char }, accessFlags := 9, code := some k9c1 }
def k9c2 : Code := { maxStack := 3, maxLocals := 3, code := jdk_43_method_13_code, exceptionTable := #[], attributes := #[] }
def k9m2 : Method := { name := "equals", desc := "([B[B)Z", sig := { parameters := [(.array .byte), (.array .byte)], returnType := some .boolean }, accessFlags := 9, code := some k9c2 }
def k9c3 : Code := { maxStack := 5, maxLocals := 1, code := jdk_43_method_21_code, exceptionTable := #[], attributes := #[] }
def k9m3 : Method := { name := "hashCode", desc := "([B)I", sig := { parameters := [(.array .byte)], returnType := some .int }, accessFlags := 9, code := some k9c3 }
/-- java/lang/StringLatin1 -/
def k9 : Class := { plain "java/lang/StringLatin1" (some 0) with
  accessFlags := 48
  interfaces := #[]
  cf := some (fileOf pool9 14 #[.nestMembers #[390, 221]] #[{ accessFlags := 0, nameIndex := 7, descriptorIndex := 8, attributes := #[] }, { accessFlags := 9, nameIndex := 252, descriptorIndex := 53, attributes := #[] }, { accessFlags := 9, nameIndex := 281, descriptorIndex := 282, attributes := #[] }, { accessFlags := 9, nameIndex := 298, descriptorIndex := 57, attributes := #[] }] 48 4 #[] #[{ accessFlags := 4120, nameIndex := 121, descriptorIndex := 122, attributes := #[] }])
  fields := #[{ name := "$assertionsDisabled", type := .boolean, accessFlags := 4120, slot := 0, constantValue := 0 }]
  methods := #[k9m0, k9m1, k9m2, k9m3]
  instanceTypes := #[]
  staticTypes := #[.boolean]
  resolved := Array.replicate 395 none
  statics := none }

def pool10 : Array CpInfo := pool [(6, .class_ 8), (1, u "java/lang/Object"), (0, u "<init>"), (0, u "()V"), (1, .class_ 14), (1, u "java/lang/StringUTF16"), (31, u "$assertionsDisabled"), (0, u "Z"), (13, u "HI_BYTE_SHIFT"), (0, u "I"), (2, u "LO_BYTE_SHIFT"), (49, .methodref 12 116), (0, .nameAndType 117 118), (0, u "compress"), (0, u "([CI[BII)I"), (3, u "([CII)[B"), (138, u "coderFromArrayLen"), (0, u "([BI)B"), (106, .class_ 371), (1, u "java/lang/StringUTF16$LinesSpliterator"), (58, u "MAX_LENGTH"), (196, .class_ 628), (0, u "java/lang/StringUTF16$CodePointsSpliterator"), (0, .class_ 630), (0, u "java/lang/StringUTF16$CharsSpliterator")] 4

def k10m0 : Method := { name := "<init>", desc := "()V", sig := { parameters := [], returnType := none }, accessFlags := 0, code := none }
def k10c1 : Code := { maxStack := 2, maxLocals := 2, code := jdk_52_method_15_code, exceptionTable := #[], attributes := #[] }
def k10m1 : Method := { name := "coderFromArrayLen", desc := "([BI)B", sig := { parameters := [(.array .byte), .int], returnType := some .byte }, accessFlags := 8, code := some k10c1 }
def k10c2 : Code := { maxStack := 5, maxLocals := 6, code := jdk_52_method_16_code, exceptionTable := #[], attributes := #[] }
def k10m2 : Method := { name := "compress", desc := "([CII)[B", sig := { parameters := [(.array .char), .int, .int], returnType := some (.array .byte) }, accessFlags := 9, code := some k10c2 }
def k10c3 : Code := { maxStack := 3, maxLocals := 7, code := jdk_52_method_21_code, exceptionTable := #[], attributes := #[] }
def k10m3 : Method := { name := "compress", desc := "([CI[BII)I", sig := { parameters := [(.array .char), .int, (.array .byte), .int, .int], returnType := some .int }, accessFlags := 9, code := some k10c3 }
/-- java/lang/StringUTF16 -/
def k10 : Class := { plain "java/lang/StringUTF16" (some 0) with
  accessFlags := 48
  interfaces := #[]
  cf := some (fileOf pool10 12 #[.nestMembers #[627, 629, 369]] #[{ accessFlags := 0, nameIndex := 9, descriptorIndex := 10, attributes := #[] }, { accessFlags := 8, nameIndex := 261, descriptorIndex := 262, attributes := #[] }, { accessFlags := 9, nameIndex := 117, descriptorIndex := 122, attributes := #[] }, { accessFlags := 9, nameIndex := 117, descriptorIndex := 118, attributes := #[] }] 48 6 #[] #[{ accessFlags := 26, nameIndex := 61, descriptorIndex := 62, attributes := #[] }, { accessFlags := 26, nameIndex := 65, descriptorIndex := 62, attributes := #[] }, { accessFlags := 24, nameIndex := 430, descriptorIndex := 62, attributes := #[] }, { accessFlags := 4120, nameIndex := 46, descriptorIndex := 47, attributes := #[] }])
  fields := #[{ name := "HI_BYTE_SHIFT", type := .int, accessFlags := 26, slot := 0, constantValue := 0 }, { name := "LO_BYTE_SHIFT", type := .int, accessFlags := 26, slot := 1, constantValue := 0 }, { name := "MAX_LENGTH", type := .int, accessFlags := 24, slot := 2, constantValue := 0 }, { name := "$assertionsDisabled", type := .boolean, accessFlags := 4120, slot := 3, constantValue := 0 }]
  methods := #[k10m0, k10m1, k10m2, k10m3]
  instanceTypes := #[]
  staticTypes := #[.int, .int, .int, .boolean]
  resolved := Array.replicate 635 none
  statics := none }

def pool11 : Array CpInfo := pool [(9, u "<init>"), (6, .class_ 18), (1, u "java/lang/Object"), (0, u "()V"), (1, .class_ 23), (1, u "jdk/internal/util/ArraysSupport"), (0, u "LOG2_ARRAY_LONG_INDEX_SCALE"), (0, u "I"), (2, u "U"), (0, u "Ljdk/internal/misc/Unsafe;"), (8, u "BIG_ENDIAN"), (0, u "Z"), (8, u "LOG2_BYTE_BIT_SIZE"), (4, u "LOG2_ARRAY_INT_INDEX_SCALE"), (6, .class_ 61), (0, u "[B"), (0, .methodref 21 63), (0, .nameAndType 64 65), (0, u "signedHashCode"), (0, u "(I[BII)I"), (42, u "JLA"), (0, u "Ljdk/internal/access/JavaLangAccess;"), (11, u "LOG2_ARRAY_BOOLEAN_INDEX_SCALE"), (9, u "LOG2_ARRAY_BYTE_INDEX_SCALE"), (5, u "LOG2_ARRAY_CHAR_INDEX_SCALE"), (5, u "LOG2_ARRAY_SHORT_INDEX_SCALE"), (18, u "LOG2_ARRAY_FLOAT_INDEX_SCALE"), (24, u "LOG2_ARRAY_DOUBLE_INDEX_SCALE"), (89, u "T_BOOLEAN"), (2, u "T_CHAR"), (1, u "T_FLOAT"), (1, u "T_DOUBLE"), (1, u "T_BYTE"), (1, u "T_SHORT"), (1, u "T_INT"), (1, u "T_LONG"), (1, u "SOFT_MAX_ARRAY_LENGTH"), (26, u "vectorizedHashCode"), (0, u "(Ljava/lang/Object;IIII)I")] 55

def k11m0 : Method := { name := "<init>", desc := "()V", sig := { parameters := [], returnType := none }, accessFlags := 2, code := none }
def k11c1 : Code := { maxStack := 4, maxLocals := 5, code := jdk_48_method_4_code, exceptionTable := #[], attributes := #[] }
def k11m1 : Method := { name := "vectorizedHashCode", desc := "(Ljava/lang/Object;IIII)I", sig := { parameters := [(.object "java/lang/Object"), .int, .int, .int, .int], returnType := some .int }, accessFlags := 9, code := some k11c1 }
def k11c2 : Code := { maxStack := 3, maxLocals := 6, code := jdk_48_method_5_code, exceptionTable := #[], attributes := #[] }
def k11m2 : Method := { name := "signedHashCode", desc := "(I[BII)I", sig := { parameters := [.int, (.array .byte), .int, .int], returnType := some .int }, accessFlags := 10, code := some k11c2 }
/-- jdk/internal/util/ArraysSupport -/
def k11 : Class := { plain "jdk/internal/util/ArraysSupport" (some 0) with
  accessFlags := 33
  interfaces := #[]
  cf := some (fileOf pool11 21 #[] #[{ accessFlags := 2, nameIndex := 9, descriptorIndex := 19, attributes := #[] }, { accessFlags := 9, nameIndex := 321, descriptorIndex := 322, attributes := #[] }, { accessFlags := 10, nameIndex := 64, descriptorIndex := 65, attributes := #[] }] 33 16 #[] #[{ accessFlags := 24, nameIndex := 28, descriptorIndex := 29, attributes := #[] }, { accessFlags := 26, nameIndex := 38, descriptorIndex := 39, attributes := #[] }, { accessFlags := 25, nameIndex := 121, descriptorIndex := 25, attributes := #[] }, { accessFlags := 25, nameIndex := 131, descriptorIndex := 25, attributes := #[] }, { accessFlags := 25, nameIndex := 137, descriptorIndex := 25, attributes := #[] }, { accessFlags := 25, nameIndex := 143, descriptorIndex := 25, attributes := #[] }, { accessFlags := 25, nameIndex := 53, descriptorIndex := 25, attributes := #[] }, { accessFlags := 25, nameIndex := 24, descriptorIndex := 25, attributes := #[] }, { accessFlags := 25, nameIndex := 162, descriptorIndex := 25, attributes := #[] }, { accessFlags := 25, nameIndex := 187, descriptorIndex := 25, attributes := #[] }, { accessFlags := 26, nameIndex := 48, descriptorIndex := 25, attributes := #[] }, { accessFlags := 25, nameIndex := 277, descriptorIndex := 25, attributes := #[] }, { accessFlags := 25, nameIndex := 280, descriptorIndex := 25, attributes := #[] }, { accessFlags := 25, nameIndex := 282, descriptorIndex := 25, attributes := #[] }, { accessFlags := 25, nameIndex := 284, descriptorIndex := 25, attributes := #[] }, { accessFlags := 25, nameIndex := 286, descriptorIndex := 25, attributes := #[] }, { accessFlags := 25, nameIndex := 288, descriptorIndex := 25, attributes := #[] }, { accessFlags := 25, nameIndex := 290, descriptorIndex := 25, attributes := #[] }, { accessFlags := 25, nameIndex := 292, descriptorIndex := 25, attributes := #[] }, { accessFlags := 26, nameIndex := 108, descriptorIndex := 109, attributes := #[] }, { accessFlags := 25, nameIndex := 294, descriptorIndex := 25, attributes := #[] }])
  fields := #[{ name := "U", type := (.object "jdk/internal/misc/Unsafe"), accessFlags := 24, slot := 0, constantValue := 0 }, { name := "BIG_ENDIAN", type := .boolean, accessFlags := 26, slot := 1, constantValue := 0 }, { name := "LOG2_ARRAY_BOOLEAN_INDEX_SCALE", type := .int, accessFlags := 25, slot := 2, constantValue := 0 }, { name := "LOG2_ARRAY_BYTE_INDEX_SCALE", type := .int, accessFlags := 25, slot := 3, constantValue := 0 }, { name := "LOG2_ARRAY_CHAR_INDEX_SCALE", type := .int, accessFlags := 25, slot := 4, constantValue := 0 }, { name := "LOG2_ARRAY_SHORT_INDEX_SCALE", type := .int, accessFlags := 25, slot := 5, constantValue := 0 }, { name := "LOG2_ARRAY_INT_INDEX_SCALE", type := .int, accessFlags := 25, slot := 6, constantValue := 0 }, { name := "LOG2_ARRAY_LONG_INDEX_SCALE", type := .int, accessFlags := 25, slot := 7, constantValue := 0 }, { name := "LOG2_ARRAY_FLOAT_INDEX_SCALE", type := .int, accessFlags := 25, slot := 8, constantValue := 0 }, { name := "LOG2_ARRAY_DOUBLE_INDEX_SCALE", type := .int, accessFlags := 25, slot := 9, constantValue := 0 }, { name := "LOG2_BYTE_BIT_SIZE", type := .int, accessFlags := 26, slot := 10, constantValue := 0 }, { name := "T_BOOLEAN", type := .int, accessFlags := 25, slot := 11, constantValue := 0 }, { name := "T_CHAR", type := .int, accessFlags := 25, slot := 12, constantValue := 0 }, { name := "T_FLOAT", type := .int, accessFlags := 25, slot := 13, constantValue := 0 }, { name := "T_DOUBLE", type := .int, accessFlags := 25, slot := 14, constantValue := 0 }, { name := "T_BYTE", type := .int, accessFlags := 25, slot := 15, constantValue := 0 }, { name := "T_SHORT", type := .int, accessFlags := 25, slot := 16, constantValue := 0 }, { name := "T_INT", type := .int, accessFlags := 25, slot := 17, constantValue := 0 }, { name := "T_LONG", type := .int, accessFlags := 25, slot := 18, constantValue := 0 }, { name := "JLA", type := (.object "jdk/internal/access/JavaLangAccess"), accessFlags := 26, slot := 19, constantValue := 0 }, { name := "SOFT_MAX_ARRAY_LENGTH", type := .int, accessFlags := 25, slot := 20, constantValue := 0 }]
  methods := #[k11m0, k11m1, k11m2]
  instanceTypes := #[]
  staticTypes := #[(.object "jdk/internal/misc/Unsafe"), .boolean, .int, .int, .int, .int, .int, .int, .int, .int, .int, .int, .int, .int, .int, .int, .int, .int, .int, (.object "jdk/internal/access/JavaLangAccess"), .int]
  resolved := Array.replicate 378 none
  statics := none }

def pool12 : Array CpInfo := pool [(2, .class_ 4), (1, u "java/lang/Object"), (0, u "<init>"), (0, u "()V"), (17, .class_ 26), (1, u "jdk/internal/util/Preconditions"), (6, u "checkIndex"), (21, .class_ 56), (0, u "jdk/internal/util/Preconditions$4"), (57, .class_ 115), (0, u "jdk/internal/util/Preconditions$1"), (7, u "SIOOBE_FORMATTER"), (0, u "Ljava/util/function/BiFunction;"), (0, .class_ 126), (0, u "jdk/internal/util/Preconditions$2"), (3, u "AIOOBE_FORMATTER"), (0, .class_ 132), (0, u "jdk/internal/util/Preconditions$3"), (3, u "IOOBE_FORMATTER"), (41, u "(IILjava/util/function/BiFunction;)I")] 15

def k12m0 : Method := { name := "<init>", desc := "()V", sig := { parameters := [], returnType := none }, accessFlags := 1, code := none }
def k12c1 : Code := { maxStack := 3, maxLocals := 3, code := jdk_41_method_11_code, exceptionTable := #[], attributes := #[] }
def k12m1 : Method := { name := "checkIndex", desc := "(IILjava/util/function/BiFunction;)I", sig := { parameters := [.int, .int, (.object "java/util/function/BiFunction")], returnType := some .int }, accessFlags := 9, code := some k12c1 }
/-- jdk/internal/util/Preconditions -/
def k12 : Class := { plain "jdk/internal/util/Preconditions" (some 0) with
  accessFlags := 33
  interfaces := #[]
  cf := some (fileOf pool12 24 #[.nestMembers #[55, 131, 125, 114]] #[{ accessFlags := 1, nameIndex := 5, descriptorIndex := 6, attributes := #[] }, { accessFlags := 9, nameIndex := 33, descriptorIndex := 178, attributes := #[] }] 33 2 #[] #[{ accessFlags := 25, nameIndex := 123, descriptorIndex := 124, attributes := #[] }, { accessFlags := 25, nameIndex := 130, descriptorIndex := 124, attributes := #[] }, { accessFlags := 25, nameIndex := 136, descriptorIndex := 124, attributes := #[] }])
  fields := #[{ name := "SIOOBE_FORMATTER", type := (.object "java/util/function/BiFunction"), accessFlags := 25, slot := 0, constantValue := 0 }, { name := "AIOOBE_FORMATTER", type := (.object "java/util/function/BiFunction"), accessFlags := 25, slot := 1, constantValue := 0 }, { name := "IOOBE_FORMATTER", type := (.object "java/util/function/BiFunction"), accessFlags := 25, slot := 2, constantValue := 0 }]
  methods := #[k12m0, k12m1]
  instanceTypes := #[]
  staticTypes := #[(.object "java/util/function/BiFunction"), (.object "java/util/function/BiFunction"), (.object "java/util/function/BiFunction")]
  resolved := Array.replicate 194 none
  statics := some 1 }

def pool13 : Array CpInfo := pool [(1, u "java/lang/Cloneable"), (0, .class_ 1), (0, u "java/lang/Object"), (0, .class_ 3)] 3

/-- java/lang/Cloneable -/
def k13 : Class := { plain "java/lang/Cloneable" (some 0) with
  accessFlags := 1537
  interfaces := #[]
  cf := some (fileOf pool13 2 #[] #[] 1537 4 #[] #[])
  fields := #[]
  methods := #[]
  instanceTypes := #[]
  staticTypes := #[]
  resolved := Array.replicate 8 none
  statics := none }

/-- the primitive byte -/
def k14 : Class := { plain "byte" none with kind := .primitive 'B', accessFlags := 0x411 }
/-- [B -/
def k15 : Class := { plain "[B" (some 0) with kind := .array 14 .byte, interfaces := #[13, 2], accessFlags := 1041 }

/-- the primitive char -/
def k16 : Class := { plain "char" none with kind := .primitive 'C', accessFlags := 0x411 }
/-- [C -/
def k17 : Class := { plain "[C" (some 0) with kind := .array 16 .char, interfaces := #[13, 2], accessFlags := 1041 }

/-- the primitive int -/
def k18 : Class := { plain "int" none with kind := .primitive 'I', accessFlags := 0x411 }
/-- [I -/
def k19 : Class := { plain "[I" (some 0) with kind := .array 18 .int, interfaces := #[13, 2], accessFlags := 1041 }

def heap : Heap := #[{ cls := 7, slots := #[.long 0, .int 1, .null, .int 0, .null, .int 0, .int 0], vm := .statics 7 },
  { cls := 12, slots := #[.null, .null, .null], vm := .statics 12 }]
def classes : Array Class := #[k0, k1, k2, k3, k4, k5, k6, k7, k8, k9, k10, k11, k12, k13, k14, k15, k16, k17, k18, k19]
def interned : List (Array UInt16 × Addr) := []
def slotsUsed : Nat := 10
def theMethod : MethodId := ⟨1, 3⟩
def args0 : Array Value := #[.int 5, .int 5, .int 5, .int 5, .int 5, .int 5]
def aboutOver (below : List Frame) : State where
  vm := { classes := classes, interned := interned.toArray }
  heap := heap
  slotsUsed := slotsUsed
  threads := #[{ frames := .invoking theMethod args0 :: below }]
def below0 : List Frame := [.native { method := ⟨0, 0⟩, args := #[] }]
def about1 : State := aboutOver below0
def p0 : Program := .bare "" "" ""
def e0 : Env := launch0.env 0 0 0
theorem w_frames : about1.frames = Frame.invoking theMethod args0 :: below0 := rfl
set_option maxRecDepth 65536 in
theorem w_args : argsFit about1.vm theMethod args0 = true := by decide +kernel
set_option maxRecDepth 65536 in
theorem w_heap : heapFits about1 = true := by decide +kernel
set_option maxRecDepth 65536 in
theorem w_runnable : about1.curStatus? = some .runnable := by decide +kernel
set_option maxRecDepth 65536 in
theorem w_alone : about1.alone = true := by decide +kernel
set_option maxRecDepth 65536 in
theorem w_named : about1.methodNamed? x = some theMethod := by decide +kernel
set_option maxRecDepth 65536 in
theorem w_hears : about1.hears theMethod below0 = true := by decide +kernel
set_option maxRecDepth 65536 in
theorem w_ripe : about1.ripe theMethod args0 below0 = true := by decide +kernel
theorem w_running : about1.status = .running := rfl
set_option maxRecDepth 65536 in
theorem w_room : about1.hasRoom e0.platform room_1 = true :=
  launch0.hasRoom_least _ room_1 (by decide +kernel) (by decide +kernel) (by decide +kernel) (by decide +kernel) (by decide +kernel) (by decide +kernel)
theorem allAtoms_all (ts : List Jvm.Cond) (a : Array Jvm.Value) (st : Jvm.State) : (allAtoms ts).before a st = ts.all (fun c => c.before a st) := by
  induction ts with
  | nil => rfl
  | cons c t ih =>
    show (Jvm.Cond.and c (allAtoms t)).before a st = _
    rw [Jvm.Cond.before_and, ih, List.all_cons]
def words1 : List Jvm.Cond := Jvm.Cond.code x code maxLocals ret :: tables_1
/-- a 'code' word, met by the world's own term for the bytes: nothing is compared byte by byte -/
theorem code_word {y : MethodName} {bytes : ByteArray} {mx : Nat} {rt : Option FieldType} {a : Array Value} {s : State} {m : MethodId} {meth : Method} {c : Code} (h1 : s.methodNamed? y = some m) (h2 : s.vm.method? m = some meth) (h3 : meth.code = some c) (h4 : c.code = bytes)
    (h5 : (c.maxLocals == mx && c.exceptionTable.isEmpty && decide (c.maxStack ≤ mostOperands) && decide (meth.sig.returnType = rt) && !meth.locks && decide (parseMethodDescriptor y.desc = some meth.sig)) = true) : (Jvm.Cond.code y bytes mx rt).before a s = true := by
  simp only [Bool.and_eq_true, beq_iff_eq, Bool.not_eq_true', decide_eq_true_eq] at h5
  obtain ⟨⟨⟨⟨⟨g1, g2⟩, g3⟩, g4⟩, g5⟩, g6⟩ := h5
  simp [Cond.before, Cond.holds, Cond.value, h1, h2, h3, h4, g1, g2, g3, g4, g5, g6]
def isCode : Jvm.Cond → Bool
  | .code _ _ _ _ => true
  | _ => false
theorem all_split {L : List Jvm.Cond} {P : Jvm.Cond → Bool} (h1 : L.all (fun c => isCode c || P c) = true) (h2 : ∀ c ∈ L.filter isCode, P c = true) : L.all P = true := by
  refine List.all_eq_true.mpr fun c hc => ?_
  have h := List.all_eq_true.mp h1 c hc
  rcases Bool.eq_false_or_eq_true (isCode c) with hi | hi
  · exact h2 c (List.mem_filter.mpr ⟨hc, hi⟩)
  · simpa [hi] using h
set_option maxRecDepth 65536 in
theorem w_c0 : (Jvm.Cond.code x code maxLocals ret).before args0 about1 = true := code_word (m := ⟨1, 3⟩) (meth := k1m3) (c := k1c3) (by decide +kernel) rfl rfl rfl (by decide +kernel)
set_option maxRecDepth 65536 in
theorem w_c1 : (Jvm.Cond.code ({ cls := "com/example/typecheck/typecheck/model/QNameEqualsPinLaw", name := "str", desc := "(I)Ljava/lang/String;" } : Jvm.MethodName) method_2_code (3 : Nat) (Option.some (Jvm.ClassFile.FieldType.object "java/lang/String"))).before args0 about1 = true := code_word (m := ⟨1, 1⟩) (meth := k1m1) (c := k1c1) (by decide +kernel) rfl rfl rfl (by decide +kernel)
set_option maxRecDepth 65536 in
theorem w_c2 : (Jvm.Cond.code ({ cls := "java/lang/String", name := "<init>", desc := "([C)V" } : Jvm.MethodName) jdk_42_method_3_code (2 : Nat) (Option.none : Option Jvm.ClassFile.FieldType)).before args0 about1 = true := code_word (m := ⟨7, 1⟩) (meth := k7m1) (c := k7c1) (by decide +kernel) rfl rfl rfl (by decide +kernel)
set_option maxRecDepth 65536 in
theorem w_c3 : (Jvm.Cond.code ({ cls := "java/lang/String", name := "<init>", desc := "([CIILjava/lang/Void;)V" } : Jvm.MethodName) jdk_42_method_149_code (6 : Nat) (Option.none : Option Jvm.ClassFile.FieldType)).before args0 about1 = true := code_word (m := ⟨7, 6⟩) (meth := k7m6) (c := k7c6) (by decide +kernel) rfl rfl rfl (by decide +kernel)
set_option maxRecDepth 65536 in
theorem w_c4 : (Jvm.Cond.code ({ cls := "java/lang/Object", name := "<init>", desc := "()V" } : Jvm.MethodName) object_method_1_code (1 : Nat) (Option.none : Option Jvm.ClassFile.FieldType)).before args0 about1 = true := code_word (m := ⟨0, 0⟩) (meth := k0m0) (c := k0c0) (by decide +kernel) rfl rfl rfl (by decide +kernel)
set_option maxRecDepth 65536 in
theorem w_c5 : (Jvm.Cond.code ({ cls := "com/example/typecheck/typecheck/model/QName", name := "<init>", desc := "(Ljava/lang/String;Ljava/lang/String;Ljava/lang/String;)V" } : Jvm.MethodName) prog_176_method_1_code (4 : Nat) (Option.none : Option Jvm.ClassFile.FieldType)).before args0 about1 = true := code_word (m := ⟨8, 0⟩) (meth := k8m0) (c := k8c0) (by decide +kernel) rfl rfl rfl (by decide +kernel)
set_option maxRecDepth 65536 in
theorem w_c6 : (Jvm.Cond.code ({ cls := "java/lang/String", name := "hashCode", desc := "()I" } : Jvm.MethodName) jdk_42_method_78_code (2 : Nat) (Option.some Jvm.ClassFile.FieldType.int)).before args0 about1 = true := code_word (m := ⟨7, 5⟩) (meth := k7m5) (c := k7c5) (by decide +kernel) rfl rfl rfl (by decide +kernel)
set_option maxRecDepth 65536 in
theorem w_c7 : (Jvm.Cond.code ({ cls := "java/lang/String", name := "isLatin1", desc := "()Z" } : Jvm.MethodName) jdk_42_method_154_code (1 : Nat) (Option.some Jvm.ClassFile.FieldType.boolean)).before args0 about1 = true := code_word (m := ⟨7, 8⟩) (meth := k7m8) (c := k7c8) (by decide +kernel) rfl rfl rfl (by decide +kernel)
set_option maxRecDepth 65536 in
theorem w_c8 : (Jvm.Cond.code ({ cls := "java/lang/StringLatin1", name := "hashCode", desc := "([B)I" } : Jvm.MethodName) jdk_43_method_21_code (1 : Nat) (Option.some Jvm.ClassFile.FieldType.int)).before args0 about1 = true := code_word (m := ⟨9, 3⟩) (meth := k9m3) (c := k9c3) (by decide +kernel) rfl rfl rfl (by decide +kernel)
set_option maxRecDepth 65536 in
theorem w_c9 : (Jvm.Cond.code ({ cls := "com/example/typecheck/typecheck/model/QNameEqualsPinLaw", name := "same", desc := "(Ljava/lang/String;Ljava/lang/String;)Z" } : Jvm.MethodName) method_3_code (2 : Nat) (Option.some Jvm.ClassFile.FieldType.boolean)).before args0 about1 = true := code_word (m := ⟨1, 2⟩) (meth := k1m2) (c := k1c2) (by decide +kernel) rfl rfl rfl (by decide +kernel)
set_option maxRecDepth 65536 in
theorem w_c10 : (Jvm.Cond.code ({ cls := "java/lang/String", name := "length", desc := "()I" } : Jvm.MethodName) jdk_42_method_54_code (1 : Nat) (Option.some Jvm.ClassFile.FieldType.int)).before args0 about1 = true := code_word (m := ⟨7, 2⟩) (meth := k7m2) (c := k7c2) (by decide +kernel) rfl rfl rfl (by decide +kernel)
set_option maxRecDepth 65536 in
theorem w_c11 : (Jvm.Cond.code ({ cls := "java/lang/String", name := "coder", desc := "()B" } : Jvm.MethodName) jdk_42_method_152_code (1 : Nat) (Option.some Jvm.ClassFile.FieldType.byte)).before args0 about1 = true := code_word (m := ⟨7, 7⟩) (meth := k7m7) (c := k7c7) (by decide +kernel) rfl rfl rfl (by decide +kernel)
set_option maxRecDepth 65536 in
theorem w_c12 : (Jvm.Cond.code ({ cls := "com/example/typecheck/typecheck/model/QName", name := "equals", desc := "(Ljava/lang/Object;)Z" } : Jvm.MethodName) prog_176_method_10_code (3 : Nat) (Option.some Jvm.ClassFile.FieldType.boolean)).before args0 about1 = true := code_word (m := ⟨8, 1⟩) (meth := k8m1) (c := k8c1) (by decide +kernel) rfl rfl rfl (by decide +kernel)
set_option maxRecDepth 65536 in
theorem w_c13 : (Jvm.Cond.code ({ cls := "java/lang/String", name := "equals", desc := "(Ljava/lang/Object;)Z" } : Jvm.MethodName) jdk_42_method_66_code (3 : Nat) (Option.some Jvm.ClassFile.FieldType.boolean)).before args0 about1 = true := code_word (m := ⟨7, 4⟩) (meth := k7m4) (c := k7c4) (by decide +kernel) rfl rfl rfl (by decide +kernel)
set_option maxRecDepth 65536 in
theorem w_c14 : (Jvm.Cond.code ({ cls := "java/lang/StringLatin1", name := "equals", desc := "([B[B)Z" } : Jvm.MethodName) jdk_43_method_13_code (3 : Nat) (Option.some Jvm.ClassFile.FieldType.boolean)).before args0 about1 = true := code_word (m := ⟨9, 2⟩) (meth := k9m2) (c := k9c2) (by decide +kernel) rfl rfl rfl (by decide +kernel)
set_option maxRecDepth 65536 in
theorem w_c15 : (Jvm.Cond.code ({ cls := "java/lang/StringUTF16", name := "compress", desc := "([CII)[B" } : Jvm.MethodName) jdk_52_method_16_code (6 : Nat) (Option.some (Jvm.ClassFile.FieldType.array Jvm.ClassFile.FieldType.byte))).before args0 about1 = true := code_word (m := ⟨10, 2⟩) (meth := k10m2) (c := k10c2) (by decide +kernel) rfl rfl rfl (by decide +kernel)
set_option maxRecDepth 65536 in
theorem w_c16 : (Jvm.Cond.code ({ cls := "java/lang/StringUTF16", name := "compress", desc := "([CI[BII)I" } : Jvm.MethodName) jdk_52_method_21_code (7 : Nat) (Option.some Jvm.ClassFile.FieldType.int)).before args0 about1 = true := code_word (m := ⟨10, 3⟩) (meth := k10m3) (c := k10c3) (by decide +kernel) rfl rfl rfl (by decide +kernel)
set_option maxRecDepth 65536 in
theorem w_c17 : (Jvm.Cond.code ({ cls := "java/lang/StringUTF16", name := "coderFromArrayLen", desc := "([BI)B" } : Jvm.MethodName) jdk_52_method_15_code (2 : Nat) (Option.some Jvm.ClassFile.FieldType.byte)).before args0 about1 = true := code_word (m := ⟨10, 1⟩) (meth := k10m1) (c := k10c1) (by decide +kernel) rfl rfl rfl (by decide +kernel)
set_option maxRecDepth 65536 in
theorem w_c18 : (Jvm.Cond.code ({ cls := "jdk/internal/util/ArraysSupport", name := "vectorizedHashCode", desc := "(Ljava/lang/Object;IIII)I" } : Jvm.MethodName) jdk_48_method_4_code (5 : Nat) (Option.some Jvm.ClassFile.FieldType.int)).before args0 about1 = true := code_word (m := ⟨11, 1⟩) (meth := k11m1) (c := k11c1) (by decide +kernel) rfl rfl rfl (by decide +kernel)
set_option maxRecDepth 65536 in
theorem w_c19 : (Jvm.Cond.code ({ cls := "jdk/internal/util/ArraysSupport", name := "signedHashCode", desc := "(I[BII)I" } : Jvm.MethodName) jdk_48_method_5_code (6 : Nat) (Option.some Jvm.ClassFile.FieldType.int)).before args0 about1 = true := code_word (m := ⟨11, 2⟩) (meth := k11m2) (c := k11c2) (by decide +kernel) rfl rfl rfl (by decide +kernel)
set_option maxRecDepth 65536 in
theorem w_c20 : (Jvm.Cond.code ({ cls := "java/lang/String", name := "charAt", desc := "(I)C" } : Jvm.MethodName) jdk_42_method_56_code (2 : Nat) (Option.some Jvm.ClassFile.FieldType.char)).before args0 about1 = true := code_word (m := ⟨7, 3⟩) (meth := k7m3) (c := k7c3) (by decide +kernel) rfl rfl rfl (by decide +kernel)
set_option maxRecDepth 65536 in
theorem w_c21 : (Jvm.Cond.code ({ cls := "java/lang/StringLatin1", name := "charAt", desc := "([BI)C" } : Jvm.MethodName) jdk_43_method_2_code (2 : Nat) (Option.some Jvm.ClassFile.FieldType.char)).before args0 about1 = true := code_word (m := ⟨9, 1⟩) (meth := k9m1) (c := k9c1) (by decide +kernel) rfl rfl rfl (by decide +kernel)
set_option maxRecDepth 65536 in
theorem w_c22 : (Jvm.Cond.code ({ cls := "java/lang/String", name := "checkIndex", desc := "(II)V" } : Jvm.MethodName) jdk_42_method_155_code (2 : Nat) (Option.none : Option Jvm.ClassFile.FieldType)).before args0 about1 = true := code_word (m := ⟨7, 9⟩) (meth := k7m9) (c := k7c9) (by decide +kernel) rfl rfl rfl (by decide +kernel)
set_option maxRecDepth 65536 in
theorem w_c23 : (Jvm.Cond.code ({ cls := "jdk/internal/util/Preconditions", name := "checkIndex", desc := "(IILjava/util/function/BiFunction;)I" } : Jvm.MethodName) jdk_41_method_11_code (3 : Nat) (Option.some Jvm.ClassFile.FieldType.int)).before args0 about1 = true := code_word (m := ⟨12, 1⟩) (meth := k12m1) (c := k12c1) (by decide +kernel) rfl rfl rfl (by decide +kernel)
def codes1 : List Jvm.Cond := [Jvm.Cond.code x code maxLocals ret, Jvm.Cond.code ({ cls := "com/example/typecheck/typecheck/model/QNameEqualsPinLaw", name := "str", desc := "(I)Ljava/lang/String;" } : Jvm.MethodName) method_2_code (3 : Nat) (Option.some (Jvm.ClassFile.FieldType.object "java/lang/String")), Jvm.Cond.code ({ cls := "java/lang/String", name := "<init>", desc := "([C)V" } : Jvm.MethodName) jdk_42_method_3_code (2 : Nat) (Option.none : Option Jvm.ClassFile.FieldType), Jvm.Cond.code ({ cls := "java/lang/String", name := "<init>", desc := "([CIILjava/lang/Void;)V" } : Jvm.MethodName) jdk_42_method_149_code (6 : Nat) (Option.none : Option Jvm.ClassFile.FieldType), Jvm.Cond.code ({ cls := "java/lang/Object", name := "<init>", desc := "()V" } : Jvm.MethodName) object_method_1_code (1 : Nat) (Option.none : Option Jvm.ClassFile.FieldType), Jvm.Cond.code ({ cls := "com/example/typecheck/typecheck/model/QName", name := "<init>", desc := "(Ljava/lang/String;Ljava/lang/String;Ljava/lang/String;)V" } : Jvm.MethodName) prog_176_method_1_code (4 : Nat) (Option.none : Option Jvm.ClassFile.FieldType), Jvm.Cond.code ({ cls := "java/lang/String", name := "hashCode", desc := "()I" } : Jvm.MethodName) jdk_42_method_78_code (2 : Nat) (Option.some Jvm.ClassFile.FieldType.int), Jvm.Cond.code ({ cls := "java/lang/String", name := "isLatin1", desc := "()Z" } : Jvm.MethodName) jdk_42_method_154_code (1 : Nat) (Option.some Jvm.ClassFile.FieldType.boolean), Jvm.Cond.code ({ cls := "java/lang/StringLatin1", name := "hashCode", desc := "([B)I" } : Jvm.MethodName) jdk_43_method_21_code (1 : Nat) (Option.some Jvm.ClassFile.FieldType.int), Jvm.Cond.code ({ cls := "com/example/typecheck/typecheck/model/QNameEqualsPinLaw", name := "same", desc := "(Ljava/lang/String;Ljava/lang/String;)Z" } : Jvm.MethodName) method_3_code (2 : Nat) (Option.some Jvm.ClassFile.FieldType.boolean), Jvm.Cond.code ({ cls := "java/lang/String", name := "length", desc := "()I" } : Jvm.MethodName) jdk_42_method_54_code (1 : Nat) (Option.some Jvm.ClassFile.FieldType.int), Jvm.Cond.code ({ cls := "java/lang/String", name := "coder", desc := "()B" } : Jvm.MethodName) jdk_42_method_152_code (1 : Nat) (Option.some Jvm.ClassFile.FieldType.byte), Jvm.Cond.code ({ cls := "com/example/typecheck/typecheck/model/QName", name := "equals", desc := "(Ljava/lang/Object;)Z" } : Jvm.MethodName) prog_176_method_10_code (3 : Nat) (Option.some Jvm.ClassFile.FieldType.boolean), Jvm.Cond.code ({ cls := "java/lang/String", name := "equals", desc := "(Ljava/lang/Object;)Z" } : Jvm.MethodName) jdk_42_method_66_code (3 : Nat) (Option.some Jvm.ClassFile.FieldType.boolean), Jvm.Cond.code ({ cls := "java/lang/StringLatin1", name := "equals", desc := "([B[B)Z" } : Jvm.MethodName) jdk_43_method_13_code (3 : Nat) (Option.some Jvm.ClassFile.FieldType.boolean), Jvm.Cond.code ({ cls := "java/lang/StringUTF16", name := "compress", desc := "([CII)[B" } : Jvm.MethodName) jdk_52_method_16_code (6 : Nat) (Option.some (Jvm.ClassFile.FieldType.array Jvm.ClassFile.FieldType.byte)), Jvm.Cond.code ({ cls := "java/lang/StringUTF16", name := "compress", desc := "([CI[BII)I" } : Jvm.MethodName) jdk_52_method_21_code (7 : Nat) (Option.some Jvm.ClassFile.FieldType.int), Jvm.Cond.code ({ cls := "java/lang/StringUTF16", name := "coderFromArrayLen", desc := "([BI)B" } : Jvm.MethodName) jdk_52_method_15_code (2 : Nat) (Option.some Jvm.ClassFile.FieldType.byte), Jvm.Cond.code ({ cls := "jdk/internal/util/ArraysSupport", name := "vectorizedHashCode", desc := "(Ljava/lang/Object;IIII)I" } : Jvm.MethodName) jdk_48_method_4_code (5 : Nat) (Option.some Jvm.ClassFile.FieldType.int), Jvm.Cond.code ({ cls := "jdk/internal/util/ArraysSupport", name := "signedHashCode", desc := "(I[BII)I" } : Jvm.MethodName) jdk_48_method_5_code (6 : Nat) (Option.some Jvm.ClassFile.FieldType.int), Jvm.Cond.code ({ cls := "java/lang/String", name := "charAt", desc := "(I)C" } : Jvm.MethodName) jdk_42_method_56_code (2 : Nat) (Option.some Jvm.ClassFile.FieldType.char), Jvm.Cond.code ({ cls := "java/lang/StringLatin1", name := "charAt", desc := "([BI)C" } : Jvm.MethodName) jdk_43_method_2_code (2 : Nat) (Option.some Jvm.ClassFile.FieldType.char), Jvm.Cond.code ({ cls := "java/lang/String", name := "checkIndex", desc := "(II)V" } : Jvm.MethodName) jdk_42_method_155_code (2 : Nat) (Option.none : Option Jvm.ClassFile.FieldType), Jvm.Cond.code ({ cls := "jdk/internal/util/Preconditions", name := "checkIndex", desc := "(IILjava/util/function/BiFunction;)I" } : Jvm.MethodName) jdk_41_method_11_code (3 : Nat) (Option.some Jvm.ClassFile.FieldType.int)]
set_option maxRecDepth 65536 in
theorem codes_eq : words1.filter isCode = codes1 := rfl
theorem w_codes : ∀ c ∈ words1.filter isCode, c.before args0 about1 = true := by
  rw [codes_eq]
  intro c hc
  simp only [codes1, List.mem_cons, List.not_mem_nil, or_false] at hc
  rcases hc with rfl | rfl | rfl | rfl | rfl | rfl | rfl | rfl | rfl | rfl | rfl | rfl | rfl | rfl | rfl | rfl | rfl | rfl | rfl | rfl | rfl | rfl | rfl | rfl
  · exact w_c0
  · exact w_c1
  · exact w_c2
  · exact w_c3
  · exact w_c4
  · exact w_c5
  · exact w_c6
  · exact w_c7
  · exact w_c8
  · exact w_c9
  · exact w_c10
  · exact w_c11
  · exact w_c12
  · exact w_c13
  · exact w_c14
  · exact w_c15
  · exact w_c16
  · exact w_c17
  · exact w_c18
  · exact w_c19
  · exact w_c20
  · exact w_c21
  · exact w_c22
  · exact w_c23
set_option maxRecDepth 65536 in
theorem w_t1 : (words1.take 24).all (fun c => isCode c || c.before args0 about1) = true := by decide +kernel
set_option maxRecDepth 65536 in
theorem w_t2 : ((words1.drop 24).take 24).all (fun c => isCode c || c.before args0 about1) = true := by decide +kernel
set_option maxRecDepth 65536 in
theorem w_t3 : (((words1.drop 24).drop 24).take 24).all (fun c => isCode c || c.before args0 about1) = true := by decide +kernel
set_option maxRecDepth 65536 in
theorem w_t4 : ((((words1.drop 24).drop 24).drop 24).take 24).all (fun c => isCode c || c.before args0 about1) = true := by decide +kernel
set_option maxRecDepth 65536 in
theorem w_t5 : (((((words1.drop 24).drop 24).drop 24).drop 24).take 24).all (fun c => isCode c || c.before args0 about1) = true := by decide +kernel
set_option maxRecDepth 65536 in
theorem w_t6 : (((((words1.drop 24).drop 24).drop 24).drop 24).drop 24).all (fun c => isCode c || c.before args0 about1) = true := by decide +kernel
theorem w_tables : (allAtoms (Jvm.Cond.code x code maxLocals ret :: tables_1)).before args0 about1 = true := by
  rw [allAtoms_all]
  show words1.all (fun c => c.before args0 about1) = true
  refine all_split ?_ w_codes
  rw [← List.take_append_drop 24 words1, List.all_append, w_t1, ← List.take_append_drop 24 (words1.drop 24), List.all_append, w_t2, ← List.take_append_drop 24 ((words1.drop 24).drop 24), List.all_append, w_t3, ← List.take_append_drop 24 (((words1.drop 24).drop 24).drop 24), List.all_append, w_t4, ← List.take_append_drop 24 ((((words1.drop 24).drop 24).drop 24).drop 24), List.all_append, w_t5, w_t6]
  rfl
set_option maxRecDepth 65536 in
theorem w_rest : rest_1_c.before args0 about1 = true := by decide +kernel
set_option maxRecDepth 65536 in
theorem w_case : (Jvm.Cond.and given_1 narrow_1).before args0 about1 = true := by decide +kernel
set_option maxRecDepth 65536 in
theorem w_consts : constsHeld consts_1 about1 := Jvm.Lit.constsHeldB_iff.mp (by decide +kernel)
theorem w_applies : (headSpec (Jvm.Cond.code x code maxLocals ret :: tables_1) room_1).applies x e0.platform about1 = true :=
  (Spec.applies_iff w_frames).mpr ⟨w_running, w_runnable, w_alone, w_named, w_hears, w_ripe, w_room, w_tables⟩
theorem atStart : AtStart classFile x code maxLocals ret World_1 tables_1 room_1 Calls_1 rest_1 Pre_1 launch0 p0 e0 about1 theMethod args0 below0 :=
  ⟨lists_1, trivial, launch0.admits_env _ _ _, launch0.least_env, fairChoices_fair.cas, fairChoices_fair.clock, w_frames, w_args, w_heap, w_applies, ⟨w_consts, trivial⟩, w_rest, w_case⟩
end start1
theorem witness_1 : WitnessClaimed_1 := ⟨start1.p0, start1.e0, start1.about1, start1.theMethod, start1.args0, start1.below0, start1.atStart⟩
end Jvm.Pilot.@@N@@
