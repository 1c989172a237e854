import JvmDerived
import JvmDerived.Pilot.@@N@@Statement
import JvmDerived.Pilot.@@N@@Code
set_option linter.unusedVariables false
set_option linter.unusedSimpArgs false
/- laws to paste: Road.backV, Road.lenW, Road.chN, Road.eqW, Road.codOf (cut by pick.py; bodies as the Statement names them) -/
namespace Jvm.Pilot.@@N@@
namespace StrChars
open Jvm Sem ClassFile Op Lib Jvm.Stand Jvm.Free.XT Jvm.Free.ALB Jvm.Free.JM Jvm.Free
open Jvm.Lib.Cold (StaticIs)
/-- a char array whose places are chars -/
def Ch (a : Addr) (A : Cell) (U : State) : Prop := Arr .char a A U ∧ Typed .char A
theorem Ch.mv {a : Addr} {A : Cell} {U U' : State} (h : Ch a A U) (hal : U.vm.Alike U'.vm) (hh : U'.heap = U.heap) : Ch a A U' := ⟨h.1.mv hal hh, h.2⟩
theorem Ch.keep {a : Addr} {A : Cell} {U U' : State} (h : Ch a A U) (hal : U.vm.Alike U'.vm) (hk : U'.heap[a]? = some A) : Ch a A U' := ⟨h.1.keep hal hk, h.2⟩
/-- what place i of a char[]'s cell holds -/
def cv (A : Cell) (i : Nat) : Int32 := match A.slots[i]? with | some (.int x) => x | _ => 0
theorem Ch.get {a : Addr} {A : Cell} {U : State} (h : Ch a A U) {i : Nat} (hi : i < A.slots.size) : A.slots[i]? = some (.int (cv A i)) := by
  have e := Array.getElem?_eq_getElem hi
  have f := h.2 i _ e
  unfold cv; rw [e]
  generalize A.slots[i] = v at f
  cases v <;> simp [fits] at f ⊢
/-- the byte that i2b leaves of a char -/
def lo8 (x : Int32) : Int32 := x.toInt8.toInt32
theorem fits_lo8 (y : Int32) : fits .byte (.int (lo8 y)) = true := by
  have h1 := y.toInt8.le_toInt
  have h2 := y.toInt8.toInt_lt
  simp only [lo8, fits, Bool.and_eq_true, decide_eq_true_eq, Int32.le_iff_toInt_le, Int8.toInt_toInt32, show (-128 : Int32).toInt = -128 from by decide, show (127 : Int32).toInt = 127 from by decide]
  omega
/-- A' is A but that each place j of lo .. hi - 1 holds f j -/
def Laid (A A' : Cell) (lo hi : Nat) (f : Nat → Value) : Prop := A'.cls = A.cls ∧ A'.vm = A.vm ∧ A'.slots.size = A.slots.size ∧ ∀ i, A'.slots[i]? = if lo ≤ i ∧ i < hi then some (f i) else A.slots[i]?
theorem Laid.zero (A : Cell) (lo : Nat) (f : Nat → Value) : Laid A A lo (lo + 0) f := ⟨rfl, rfl, rfl, fun i => by rw [if_neg (by omega)]⟩
theorem Laid.step {A Ak : Cell} {lo k : Nat} {f : Nat → Value} {v : Value} (h : Laid A Ak lo k f) (hlo : lo ≤ k) (hk : k < Ak.slots.size) (hv : v = f k) : Laid A (Ak.setSlot k v) lo (k + 1) f := by
  refine ⟨h.1, h.2.1, by simpa [Cell.setSlot] using h.2.2.1, fun i => ?_⟩
  by_cases e : k = i
  · subst e; rw [Cell.slots_setSlot_self v hk, if_pos (by omega), hv]
  · rw [Cell.slots_setSlot_ne v e, h.2.2.2 i]
    by_cases q : lo ≤ i ∧ i < k
    · rw [if_pos q, if_pos (by omega)]
    · rw [if_neg q, if_neg (by omega)]
def U16 : String := "java/lang/StringUTF16"
namespace Cmp5
def yN : MethodName := ⟨"java/lang/StringUTF16", "compress", "([CI[BII)I"⟩
abbrev yB : ByteArray := jdk_52_method_21_code
theorem d0 : decode yB 0 = .ok (.iconst 0, 1) := by decide +kernel
theorem d1 : decode yB 1 = .ok (.istore 5, 2) := by decide +kernel
theorem d3 : decode yB 3 = .ok (.iload 5, 2) := by decide +kernel
theorem d5 : decode yB 5 = .ok (.iload 4, 2) := by decide +kernel
theorem d7 : decode yB 7 = .ok (.if_icmp (.ge) 37, 3) := by decide +kernel
theorem d10 : decode yB 10 = .ok (.aload_n 0, 1) := by decide +kernel
theorem d11 : decode yB 11 = .ok (.iload_n 1, 1) := by decide +kernel
theorem d12 : decode yB 12 = .ok (.caload, 1) := by decide +kernel
theorem d13 : decode yB 13 = .ok (.istore 6, 2) := by decide +kernel
theorem d15 : decode yB 15 = .ok (.iload 6, 2) := by decide +kernel
theorem d17 : decode yB 17 = .ok (.sipush 255, 3) := by decide +kernel
theorem d20 : decode yB 20 = .ok (.if_icmp (.le) 6, 3) := by decide +kernel
theorem d26 : decode yB 26 = .ok (.aload_n 2, 1) := by decide +kernel
theorem d27 : decode yB 27 = .ok (.iload_n 3, 1) := by decide +kernel
theorem d28 : decode yB 28 = .ok (.iload 6, 2) := by decide +kernel
theorem d30 : decode yB 30 = .ok (.i2b, 1) := by decide +kernel
theorem d31 : decode yB 31 = .ok (.bastore, 1) := by decide +kernel
theorem d32 : decode yB 32 = .ok (.iinc 1 1, 3) := by decide +kernel
theorem d35 : decode yB 35 = .ok (.iinc 3 1, 3) := by decide +kernel
theorem d38 : decode yB 38 = .ok (.iinc 5 1, 3) := by decide +kernel
theorem d41 : decode yB 41 = .ok (.goto (-38), 3) := by decide +kernel
theorem d44 : decode yB 44 = .ok (.iload 4, 2) := by decide +kernel
theorem d46 : decode yB 46 = .ok (.ireturn, 1) := by decide +kernel
def site : List Cond := []
def tab : Cond := tabOf yN yB 7 (some .int) site
def P (b : Addr) (A : Cell) (d : Addr) (B : Cell) (o q len : Nat) (args : Array Value) (s : State) : Prop := args = #[.ref b, .int (Int32.ofNat o), .ref d, .int (Int32.ofNat q), .int (Int32.ofNat len)] ∧ Ch b A s ∧ Arr .byte d B s ∧ b ≠ d ∧ o + len ≤ A.slots.size ∧ q + len ≤ B.slots.size ∧ ∀ i, i < len → ¬ 255 < cv A (o + i)
def E (b : Addr) (A : Cell) (d : Addr) (B : Cell) (o q len : Nat) (r : Option Value) (s u : State) : Prop := r = some (.int (Int32.ofNat len)) ∧ ∃ B', Put d B' s u ∧ Laid B B' q (q + len) (fun j => Value.int (lo8 (cv A (o + (j - q)))))
/-- no char of the range above 255: len; the places written hold each char's low byte -/
theorem law (l : Launch) (b : Addr) (A : Cell) (d : Addr) (B : Cell) (o q len : Nat) : Law l yN 5 5 0 0 yB 7 (some .int) site (P b A d B o q len) (E b A d B o q len) (copyLocs d q len) 0 0 := by
  refine Law.of_walk (plainFor_of_name (by decide +kernel)) (by decide +kernel) (by decide +kernel) (by decide) (fun _ _ h => by rw [h.1]; rfl) (fun _ U U' hal hh h => ⟨h.1, h.2.1.mv hal hh, h.2.2.1.mv hal hh, h.2.2.2⟩) (fun r U U' V V' h1 hal h2 h => ⟨h.1, h.2.elim fun B' q => ⟨B', q.1.mv h1 h2, q.2⟩⟩) ?_
  intro p e s m args below meth c s₁ X0 hexec hbytes hml hret hlk hnm hown hh0 W hP
  obtain ⟨rfl, hA, hB, hne, l1, l2, hp⟩ := hP
  have c1 : Steps p.tables e below (s₁.setTop (entryFrame m #[.ref b, .int (Int32.ofNat o), .ref d, .int (Int32.ofNat q), .int (Int32.ofNat len)] 7)) (s₁.setTop (mkF m 0 #[.val (.ref b), .val (.int (Int32.ofNat o)), .val (.ref d), .val (.int (Int32.ofNat q)), .val (.int (Int32.ofNat len)), .unset, .unset] [])) := entry rfl
  have hA0 := hA.1.mv X0.warmed.alike hh0
  have hB0 := hB.mv X0.warmed.alike hh0
  have a31 := hA.1.2.2.2
  have c2 : Steps p.tables e below (s₁.setTop (entryFrame m #[.ref b, .int (Int32.ofNat o), .ref d, .int (Int32.ofNat q), .int (Int32.ofNat len)] 7)) (s₁.setTop (mkF m 3 #[.val (.ref b), .val (.int (Int32.ofNat o)), .val (.ref d), .val (.int (Int32.ofNat q)), .val (.int (Int32.ofNat len)), .val (.int 0), .unset] [])) := c1.trans (by
    refine iconstV X0.here hexec rfl 0 (hb hbytes d0) (by decide) ?_
    refine XS.istore X0.here hexec rfl (hb hbytes d1) rfl rfl ?_
    exact Steps.refl _)
  have loop : ∀ (r i : Nat), i + r = len → ∀ (z : Slot), (z = .unset ∨ ∃ w, z = .val w ∧ w.category = 1) → ∀ (Tl : State) (Bk : Cell), Stand p l e { frames := 0, locals := 0, cells := 0, slots := 0 } s m #[.ref b, .int (Int32.ofNat o), .ref d, .int (Int32.ofNat q), .int (Int32.ofNat len)] below meth c Tl ([] ++ copyLocs d q i) 0 0 → Put d Bk s₁ Tl → Laid B Bk q (q + i) (fun j => Value.int (lo8 (cv A (o + (j - q))))) →
      Steps p.tables e below (s₁.setTop (entryFrame m #[.ref b, .int (Int32.ofNat o), .ref d, .int (Int32.ofNat q), .int (Int32.ofNat len)] 7)) (Tl.setTop (mkF m 3 #[.val (.ref b), .val (.int (Int32.ofNat (o + i))), .val (.ref d), .val (.int (Int32.ofNat (q + i))), .val (.int (Int32.ofNat len)), .val (.int (Int32.ofNat i)), z] [])) → ∃ (T' : State) (B' : Cell) (z' : Slot), Stand p l e { frames := 0, locals := 0, cells := 0, slots := 0 } s m #[.ref b, .int (Int32.ofNat o), .ref d, .int (Int32.ofNat q), .int (Int32.ofNat len)] below meth c T' ([] ++ copyLocs d q len) 0 0 ∧ Put d B' s₁ T' ∧ Laid B B' q (q + len) (fun j => Value.int (lo8 (cv A (o + (j - q))))) ∧
      Steps p.tables e below (s₁.setTop (entryFrame m #[.ref b, .int (Int32.ofNat o), .ref d, .int (Int32.ofNat q), .int (Int32.ofNat len)] 7)) (T'.setTop (mkF m 3 #[.val (.ref b), .val (.int (Int32.ofNat (o + len))), .val (.ref d), .val (.int (Int32.ofNat (q + len))), .val (.int (Int32.ofNat len)), .val (.int (Int32.ofNat len)), z'] [])) := by
    intro r
    induction r with
    | zero =>
      intro i hi z hz Tl Bk Xl pl fl cl
      have hil : i = len := by omega
      rw [hil] at Xl fl cl
      exact ⟨Tl, Bk, z, Xl, pl, fl, cl⟩
    | succ r ih =>
      intro i hi z hz Tl Bk Xl pl fl cl
      have all := X0.warmed.alike.symm.trans Xl.warmed.alike
      have hAl := hA0.keep all (pl.other hne hA0.1)
      have hBk := hB0.like all pl.1 fl.1 fl.2.1 fl.2.2.1
      have hlt : q + i < Bk.slots.size := by rw [fl.2.2.1]; omega
      have c3 : Steps p.tables e below (s₁.setTop (entryFrame m #[.ref b, .int (Int32.ofNat o), .ref d, .int (Int32.ofNat q), .int (Int32.ofNat len)] 7)) (Tl.setTop (mkF m 12 #[.val (.ref b), .val (.int (Int32.ofNat (o + i))), .val (.ref d), .val (.int (Int32.ofNat (q + i))), .val (.int (Int32.ofNat len)), .val (.int (Int32.ofNat i)), z] [.int (Int32.ofNat (o + i)), .ref b])) := cl.trans (by
        refine XS.iload Xl.here hexec rfl (hb hbytes d3) rfl ?_
        refine XS.iload Xl.here hexec rfl (hb hbytes d5) rfl ?_
        refine XS.icmpNo Xl.here hexec rfl (hb hbytes d7) rfl (ii_ge_f (lt32 (by omega) (by omega))) ?_
        refine XS.aloadN Xl.here hexec rfl (hb hbytes d10) rfl rfl ?_
        refine XS.iloadN Xl.here hexec rfl (hb hbytes d11) rfl ?_
        exact Steps.refl _)
      have c4 : Steps p.tables e below (s₁.setTop (entryFrame m #[.ref b, .int (Int32.ofNat o), .ref d, .int (Int32.ofNat q), .int (Int32.ofNat len)] 7)) (Tl.setTop (mkF m 13 #[.val (.ref b), .val (.int (Int32.ofNat (o + i))), .val (.ref d), .val (.int (Int32.ofNat (q + i))), .val (.int (Int32.ofNat len)), .val (.int (Int32.ofNat i)), z] [.int (cv A (o + i))])) := c3.trans (by
        refine Xl.aget hexec hAl rfl (hA.get (i := o + i) (by omega)) rfl rfl (hb hbytes d12) ?_
        exact Steps.refl _)
      have c5 : Steps p.tables e below (s₁.setTop (entryFrame m #[.ref b, .int (Int32.ofNat o), .ref d, .int (Int32.ofNat q), .int (Int32.ofNat len)] 7)) (Tl.setTop (mkF m 15 #[.val (.ref b), .val (.int (Int32.ofNat (o + i))), .val (.ref d), .val (.int (Int32.ofNat (q + i))), .val (.int (Int32.ofNat len)), .val (.int (Int32.ofNat i)), .val (.int (cv A (o + i)))] [])) := c4.trans (by
        refine XS.istoreS Xl.here hexec rfl (hb hbytes d13) rfl rfl hz ?_
        exact Steps.refl _)
      have c6 : Steps p.tables e below (s₁.setTop (entryFrame m #[.ref b, .int (Int32.ofNat o), .ref d, .int (Int32.ofNat q), .int (Int32.ofNat len)] 7)) (Tl.setTop (mkF m 31 #[.val (.ref b), .val (.int (Int32.ofNat (o + i))), .val (.ref d), .val (.int (Int32.ofNat (q + i))), .val (.int (Int32.ofNat len)), .val (.int (Int32.ofNat i)), .val (.int (cv A (o + i)))] [.int (lo8 (cv A (o + i))), .int (Int32.ofNat (q + i)), .ref d])) := c5.trans (by
        refine XS.iload Xl.here hexec rfl (hb hbytes d15) rfl ?_
        refine sipushV Xl.here hexec rfl 255 (hb hbytes d17) (by decide) ?_
        refine XS.icmpYes Xl.here hexec rfl (pc0 := 20) rfl (hb hbytes d20) rfl (ii_le_t (hp i (by omega))) (by decide) rfl ?_
        refine XS.aloadN Xl.here hexec rfl (hb hbytes d26) rfl rfl ?_
        refine XS.iloadN Xl.here hexec rfl (hb hbytes d27) rfl ?_
        refine XS.iload Xl.here hexec rfl (hb hbytes d28) rfl ?_
        refine i2b Xl.here hexec rfl (hb hbytes d30) rfl ?_
        exact Steps.refl _)
      obtain ⟨T7, X7, p7, st7⟩ := Xl.aput hexec hBk rfl hlt rfl (fits_lo8 (cv A (o + i))) (g := (mkF m 31 #[.val (.ref b), .val (.int (Int32.ofNat (o + i))), .val (.ref d), .val (.int (Int32.ofNat (q + i))), .val (.int (Int32.ofNat len)), .val (.int (Int32.ofNat i)), .val (.int (cv A (o + i)))] [.int (lo8 (cv A (o + i))), .int (Int32.ofNat (q + i)), .ref d])) rfl (rest := []) rfl (hb hbytes d31)
      have c8 : Steps p.tables e below (s₁.setTop (entryFrame m #[.ref b, .int (Int32.ofNat o), .ref d, .int (Int32.ofNat q), .int (Int32.ofNat len)] 7)) (T7.setTop (mkF m 32 #[.val (.ref b), .val (.int (Int32.ofNat (o + i))), .val (.ref d), .val (.int (Int32.ofNat (q + i))), .val (.int (Int32.ofNat len)), .val (.int (Int32.ofNat i)), .val (.int (cv A (o + i)))] [])) := c6.trans (st7 _ (Steps.refl _))
      have c9 : Steps p.tables e below (s₁.setTop (entryFrame m #[.ref b, .int (Int32.ofNat o), .ref d, .int (Int32.ofNat q), .int (Int32.ofNat len)] 7)) (T7.setTop (mkF m 3 #[.val (.ref b), .val (.int (Int32.ofNat (o + i) + 1)), .val (.ref d), .val (.int (Int32.ofNat (q + i) + 1)), .val (.int (Int32.ofNat len)), .val (.int (Int32.ofNat i + 1)), .val (.int (cv A (o + i)))] [])) := c8.trans (by
        refine iincV X7.here hexec rfl 1 (hb hbytes d32) (by decide) rfl rfl ?_
        refine iincV X7.here hexec rfl 1 (hb hbytes d35) (by decide) rfl rfl ?_
        refine iincV X7.here hexec rfl 1 (hb hbytes d38) (by decide) rfl rfl ?_
        refine XS.goto X7.here hexec rfl (pc0 := 41) rfl (hb hbytes d41) (by decide) rfl ?_
        exact Steps.refl _)
      have c10 : Steps p.tables e below (s₁.setTop (entryFrame m #[.ref b, .int (Int32.ofNat o), .ref d, .int (Int32.ofNat q), .int (Int32.ofNat len)] 7)) (T7.setTop (mkF m 3 #[.val (.ref b), .val (.int (Int32.ofNat (o + (i + 1)))), .val (.ref d), .val (.int (Int32.ofNat (q + (i + 1)))), .val (.int (Int32.ofNat len)), .val (.int (Int32.ofNat (i + 1))), .val (.int (cv A (o + i)))] [])) := by
        have := c9
        rw [succ32, succ32, succ32] at this
        exact this
      exact ih (i + 1) (by omega) _ (Or.inr ⟨_, rfl, rfl⟩) T7 _ (by rw [copyLocs_step, ← List.append_assoc]; exact X7) (pl.trans p7) (fl.step (by omega) hlt (by simp)) c10
  obtain ⟨T9, B9, z9, X9, p9, f9, g9⟩ := loop len 0 (by omega) .unset (Or.inl rfl) s₁ B (by simpa [copyLocs] using X0) ⟨hB0.1, fun _ _ => rfl, rfl⟩ (Laid.zero _ _ _) c2
  have c11 : Steps p.tables e below (s₁.setTop (entryFrame m #[.ref b, .int (Int32.ofNat o), .ref d, .int (Int32.ofNat q), .int (Int32.ofNat len)] 7)) (T9.setTop (mkF m 46 #[.val (.ref b), .val (.int (Int32.ofNat (o + len))), .val (.ref d), .val (.int (Int32.ofNat (q + len))), .val (.int (Int32.ofNat len)), .val (.int (Int32.ofNat len)), z9] [.int (Int32.ofNat len)])) := g9.trans (by
    refine XS.iload X9.here hexec rfl (hb hbytes d3) rfl ?_
    refine XS.iload X9.here hexec rfl (hb hbytes d5) rfl ?_
    refine XS.icmpYes X9.here hexec rfl (pc0 := 7) rfl (hb hbytes d7) rfl (ii_ge_t (nlt32 (by omega) (Nat.le_refl _))) (by decide) rfl ?_
    refine XS.iload X9.here hexec rfl (hb hbytes d44) rfl ?_
    exact Steps.refl _)
  exact ⟨T9, some (.int (Int32.ofNat len)), _, _, _, X9, by simp, rfl, rfl, (fun h => by cases h), ⟨rfl, B9, p9.from hh0, f9⟩, fun fs hl => c11.trans (X9.ireturnOut hexec hret rfl (Or.inl rfl) (hb hbytes d46) hl)⟩
end Cmp5
namespace Cmp3
def yN : MethodName := ⟨"java/lang/StringUTF16", "compress", "([CII)[B"⟩
abbrev yB : ByteArray := jdk_52_method_16_code
theorem d0 : decode yB 0 = .ok (.iload_n 2, 1) := by decide +kernel
theorem d1 : decode yB 1 = .ok (.newarray .byte, 2) := by decide +kernel
theorem d3 : decode yB 3 = .ok (.astore_n 3, 1) := by decide +kernel
theorem d4 : decode yB 4 = .ok (.aload_n 0, 1) := by decide +kernel
theorem d5 : decode yB 5 = .ok (.iload_n 1, 1) := by decide +kernel
theorem d6 : decode yB 6 = .ok (.aload_n 3, 1) := by decide +kernel
theorem d7 : decode yB 7 = .ok (.iconst 0, 1) := by decide +kernel
theorem d8 : decode yB 8 = .ok (.iload_n 2, 1) := by decide +kernel
theorem d9 : decode yB 9 = .ok (.invokestatic 115, 3) := by decide +kernel
theorem d12 : decode yB 12 = .ok (.istore 4, 2) := by decide +kernel
theorem d14 : decode yB 14 = .ok (.iload 4, 2) := by decide +kernel
theorem d16 : decode yB 16 = .ok (.iload_n 2, 1) := by decide +kernel
theorem d17 : decode yB 17 = .ok (.if_icmp (.eq) 40, 3) := by decide +kernel
theorem d57 : decode yB 57 = .ok (.aload_n 3, 1) := by decide +kernel
theorem d58 : decode yB 58 = .ok (.areturn, 1) := by decide +kernel
def site : List Cond := [.arrayClass .byte, Cmp5.tab] ++ staticW U16 115 Cmp5.yN
def tab : Cond := tabOf yN yB 6 (some (.array .byte)) site
def P (b : Addr) (A : Cell) (o len : Nat) (args : Array Value) (s : State) : Prop := args = #[.ref b, .int (Int32.ofNat o), .int (Int32.ofNat len)] ∧ Ch b A s ∧ o + len ≤ A.slots.size ∧ len ≤ 536870912 ∧ ∀ i, i < len → ¬ 255 < cv A (o + i)
def E (b : Addr) (A : Cell) (o len : Nat) (r : Option Value) (s u : State) : Prop := NewArr .byte "[B" len (fun j => .int (lo8 (cv A (o + j)))) r s u ∧ u.heap.size = s.heap.size + 1
/-- no char of the range above 255: a new byte[] of their low bytes -/
theorem law (l : Launch) (b : Addr) (A : Cell) (o len : Nat) : Law l yN 3 3 1 18 yB 6 (some (.array .byte)) site (P b A o len) (E b A o len) [] 1 len := by
  refine Law.of_walk (plainFor_of_name (by decide +kernel)) (by decide +kernel) (by decide +kernel) (by decide) (fun _ _ h => by rw [h.1]; rfl) (fun _ U U' hal hh h => ⟨h.1, h.2.1.mv hal hh, h.2.2⟩) (fun r U U' V V' h1 hal h2 h => ⟨NewArr.mv r U U' V V' h1 hal h2 h.1, by rw [h1, h2]; exact h.2⟩) ?_
  intro p e s m args below meth c s₁ X0 hexec hbytes hml hret hlk hnm hown hh0 W hP
  obtain ⟨rfl, hA, l1, l2, hp⟩ := hP
  have a31 := hA.1.2.2.2
  have c1 : Steps p.tables e below (s₁.setTop (entryFrame m #[.ref b, .int (Int32.ofNat o), .int (Int32.ofNat len)] 6)) (s₁.setTop (mkF m 0 #[.val (.ref b), .val (.int (Int32.ofNat o)), .val (.int (Int32.ofNat len)), .unset, .unset, .unset] [])) := entry rfl
  have c2 : Steps p.tables e below (s₁.setTop (entryFrame m #[.ref b, .int (Int32.ofNat o), .int (Int32.ofNat len)] 6)) (s₁.setTop (mkF m 1 #[.val (.ref b), .val (.int (Int32.ofNat o)), .val (.int (Int32.ofNat len)), .unset, .unset, .unset] [.int (Int32.ofNat len)])) := c1.trans (by
    refine XS.iloadN X0.here hexec rfl (hb hbytes d0) rfl ?_
    exact Steps.refl _)
  obtain ⟨T3, B3, X3, ba3, bs3, bv3, bh3, bf3, st3⟩ := X0.anew hexec (atype := .byte) (wk W (.arrayClass .byte)) rfl (by show len * 1 ≤ _; omega) (by omega) (g := (mkF m 1 #[.val (.ref b), .val (.int (Int32.ofNat o)), .val (.int (Int32.ofNat len)), .unset, .unset, .unset] [.int (Int32.ofNat len)])) rfl (hb hbytes d1) (rest := []) rfl (Nat.le_refl _) (by show 0 + len ≤ len; omega)
  rw [hh0] at ba3 st3
  have kp3 : XT.Kept s T3 := (XT.Kept.of_eq hh0).push bh3
  have hA3 := hA.keep X3.warmed.alike (kp3 _ _ hA.1.1)
  have hne : b ≠ s.heap.size := hA.1.ne
  have c4 : Steps p.tables e below (s₁.setTop (entryFrame m #[.ref b, .int (Int32.ofNat o), .int (Int32.ofNat len)] 6)) (T3.setTop (mkF m 3 #[.val (.ref b), .val (.int (Int32.ofNat o)), .val (.int (Int32.ofNat len)), .unset, .unset, .unset] [.ref s.heap.size])) := c2.trans (st3 _ (Steps.refl _))
  have c5 : Steps p.tables e below (s₁.setTop (entryFrame m #[.ref b, .int (Int32.ofNat o), .int (Int32.ofNat len)] 6)) (T3.setTop (mkF m 9 #[.val (.ref b), .val (.int (Int32.ofNat o)), .val (.int (Int32.ofNat len)), .val (.ref s.heap.size), .unset, .unset] [.int (Int32.ofNat len), .int 0, .ref s.heap.size, .int (Int32.ofNat o), .ref b])) := c4.trans (by
    refine XS.astoreN X3.here hexec rfl (hb hbytes d3) rfl rfl rfl ?_
    refine XS.aloadN X3.here hexec rfl (hb hbytes d4) rfl rfl ?_
    refine XS.iloadN X3.here hexec rfl (hb hbytes d5) rfl ?_
    refine XS.aloadN X3.here hexec rfl (hb hbytes d6) rfl rfl ?_
    refine iconstV X3.here hexec rfl 0 (hb hbytes d7) (by decide) ?_
    refine XS.iloadN X3.here hexec rfl (hb hbytes d8) rfl ?_
    exact Steps.refl _)
  obtain ⟨v6, T6, X6, E6, g6⟩ := X3.callS hexec (Cmp5.law l b A s.heap.size B3 o 0 len) hown (wks W (staticW U16 115 Cmp5.yN)) (wk W Cmp5.tab) (W := 0) (Nat.le_of_ble_eq_true rfl) (Nat.le_of_ble_eq_true rfl) (Nat.le_refl _) (by show 0 + len + 0 ≤ len; omega) (g := (mkF m 9 #[.val (.ref b), .val (.int (Int32.ofNat o)), .val (.int (Int32.ofNat len)), .val (.ref s.heap.size), .unset, .unset] [.int (Int32.ofNat len), .int (Int32.ofNat 0), .ref s.heap.size, .int (Int32.ofNat o), .ref b])) rfl (by rw [hml]; rfl) c5 (argsL := [.ref b, .int (Int32.ofNat o), .ref s.heap.size, .int (Int32.ofNat 0), .int (Int32.ofNat len)]) (rest := []) rfl rfl (by show 2 * 0 + 0 ≤ _; decide) (hb hbytes d9) (⟨rfl, hA3, ba3, hne, l1, by rw [bs3]; simp, hp⟩)
  obtain ⟨rfl, B6, p6, f6⟩ := E6
  have c7 : Steps p.tables e below (s₁.setTop (entryFrame m #[.ref b, .int (Int32.ofNat o), .int (Int32.ofNat len)] 6)) (T6.setTop (mkF m 12 #[.val (.ref b), .val (.int (Int32.ofNat o)), .val (.int (Int32.ofNat len)), .val (.ref s.heap.size), .unset, .unset] [.int (Int32.ofNat len)])) := g6
  have c8 : Steps p.tables e below (s₁.setTop (entryFrame m #[.ref b, .int (Int32.ofNat o), .int (Int32.ofNat len)] 6)) (T6.setTop (mkF m 58 #[.val (.ref b), .val (.int (Int32.ofNat o)), .val (.int (Int32.ofNat len)), .val (.ref s.heap.size), .val (.int (Int32.ofNat len)), .unset] [.ref s.heap.size])) := c7.trans (by
    refine XS.istore X6.here hexec rfl (hb hbytes d12) rfl rfl ?_
    refine XS.iload X6.here hexec rfl (hb hbytes d14) rfl ?_
    refine XS.iloadN X6.here hexec rfl (hb hbytes d16) rfl ?_
    refine XS.icmpYes X6.here hexec rfl (pc0 := 17) rfl (hb hbytes d17) rfl (ii_eq_t rfl) (by decide) rfl ?_
    refine XS.aloadN X6.here hexec rfl (hb hbytes d57) rfl rfl ?_
    exact Steps.refl _)
  have X8 := X6.wide (L' := []) (cells' := 1) (slots' := len) (fun x hx hlt => by
    simp only [List.nil_append, copyLocs, List.mem_map, List.mem_range] at hx
    obtain ⟨i, -, rfl⟩ := hx
    exact absurd hlt (Nat.lt_irrefl _)) (Nat.le_refl _) (by omega)
  exact ⟨T6, some (.ref s.heap.size), _, _, _, X8, rfl, rfl, rfl, (fun h => by cases h), ⟨⟨rfl, B6, ba3.like (X3.warmed.alike.symm.trans X6.warmed.alike) p6.1 f6.1 f6.2.1 f6.2.2.1, f6.2.1.trans bv3, by rw [X6.warmed.alike.findClass, f6.1]; exact bf3, by rw [f6.2.2.1, bs3]; simp, fun j hj => by rw [f6.2.2.2 j, if_pos (by omega)]; rfl, kp3.put p6 (Nat.le_refl _)⟩, by rw [p6.2.2, bh3, hh0]; simp⟩, fun fs hl => c8.trans (X8.areturnOut hexec rfl hret rfl (hb hbytes d58) hl)⟩
end Cmp3
namespace CodL
def yN : MethodName := ⟨"java/lang/StringUTF16", "coderFromArrayLen", "([BI)B"⟩
abbrev yB : ByteArray := jdk_52_method_15_code
theorem d0 : decode yB 0 = .ok (.iload_n 1, 1) := by decide +kernel
theorem d1 : decode yB 1 = .ok (.aload_n 0, 1) := by decide +kernel
theorem d2 : decode yB 2 = .ok (.arraylength, 1) := by decide +kernel
theorem d3 : decode yB 3 = .ok (.isub, 1) := by decide +kernel
theorem d4 : decode yB 4 = .ok (.bipush 31, 2) := by decide +kernel
theorem d6 : decode yB 6 = .ok (.iushr, 1) := by decide +kernel
theorem d7 : decode yB 7 = .ok (.i2b, 1) := by decide +kernel
theorem d8 : decode yB 8 = .ok (.ireturn, 1) := by decide +kernel
def site : List Cond := []
def tab : Cond := tabOf yN yB 2 (some .byte) site
def P (d : Addr) (B : Cell) (args : Array Value) (s : State) : Prop := args = #[.ref d, .int (Int32.ofNat B.slots.size)] ∧ Arr .byte d B s
def E (r : Option Value) (s u : State) : Prop := XT.PureE (some (.int 0)) r s u
/-- an array as long as the number of chars: LATIN1 -/
theorem law (l : Launch) (d : Addr) (B : Cell) : Law l yN 2 2 0 0 yB 2 (some .byte) site (P d B) E [] 0 0 := by
  refine Law.of_walk (plainFor_of_name (by decide +kernel)) (by decide +kernel) (by decide +kernel) (by decide) (fun _ _ h => by rw [h.1]; rfl) (fun _ U U' hal hh h => ⟨h.1, h.2.mv hal hh⟩) (fun r U U' V V' h1 hal h2 h => XT.PureE.mv r U U' V V' h1 hal h2 h) ?_
  intro p e s m args below meth c s₁ X0 hexec hbytes hml hret hlk hnm hown hh0 W hP
  obtain ⟨rfl, hB⟩ := hP
  have hB0 := hB.mv X0.warmed.alike hh0
  have c1 : Steps p.tables e below (s₁.setTop (entryFrame m #[.ref d, .int (Int32.ofNat B.slots.size)] 2)) (s₁.setTop (mkF m 0 #[.val (.ref d), .val (.int (Int32.ofNat B.slots.size))] [])) := entry rfl
  have c2 : Steps p.tables e below (s₁.setTop (entryFrame m #[.ref d, .int (Int32.ofNat B.slots.size)] 2)) (s₁.setTop (mkF m 2 #[.val (.ref d), .val (.int (Int32.ofNat B.slots.size))] [.ref d, .int (Int32.ofNat B.slots.size)])) := c1.trans (by
    refine XS.iloadN X0.here hexec rfl (hb hbytes d0) rfl ?_
    refine XS.aloadN X0.here hexec rfl (hb hbytes d1) rfl rfl ?_
    exact Steps.refl _)
  have c3 : Steps p.tables e below (s₁.setTop (entryFrame m #[.ref d, .int (Int32.ofNat B.slots.size)] 2)) (s₁.setTop (mkF m 8 #[.val (.ref d), .val (.int (Int32.ofNat B.slots.size))] [.int (lo8 (ushr (Int32.ofNat B.slots.size - Int32.ofNat B.slots.size) 31))])) := c2.trans (by
    refine X0.alen hexec hB0 rfl rfl (hb hbytes d2) ?_
    refine XS.isub X0.here hexec rfl (hb hbytes d3) rfl ?_
    refine bipushV X0.here hexec rfl 31 (hb hbytes d4) (by decide) ?_
    refine iushr X0.here hexec rfl (hb hbytes d6) rfl ?_
    refine i2b X0.here hexec rfl (hb hbytes d7) rfl ?_
    exact Steps.refl _)
  have e0 : lo8 (ushr (Int32.ofNat B.slots.size - Int32.ofNat B.slots.size) 31) = 0 := by rw [Int32.sub_self]; decide
  rw [e0] at c3
  exact ⟨s₁, some (.int 0), _, _, _, X0, rfl, rfl, rfl, (fun h => by cases h), ⟨rfl, hh0⟩, fun fs hl => c3.trans (X0.ireturnOut hexec hret rfl (Or.inr (Or.inr (Or.inl rfl))) (hb hbytes d8) hl)⟩
end CodL
/-- the String at a is Latin-1 over a new byte[] (the heap's one new cell): the low bytes of the len chars of A from o on; every cell but a is kept -/
def Got (a : Addr) (D : Cell) (fV fC : Field) (A : Cell) (o len : Nat) (r : Option Value) (s u : State) : Prop := r = none ∧ ∃ D' V : Cell, Blank "java/lang/String" a D' u ∧ Same D D' [fV.slot, fC.slot] ∧ D'.slots[fV.slot]? = some (.ref s.heap.size) ∧ D'.slots[fC.slot]? = some (.int 0) ∧ Arr .byte s.heap.size V u ∧ V.vm = .none ∧ u.vm.findClass "[B" = some V.cls ∧ V.slots.size = len ∧ (∀ j, j < len → V.slots[j]? = some (.int (lo8 (cv A (o + j))))) ∧ (∀ (y : Addr) (c : Cell), y ≠ a → s.heap[y]? = some c → u.heap[y]? = some c) ∧ u.heap.size = s.heap.size + 1
theorem Got.mv {a : Addr} {D A : Cell} {fV fC : Field} {o len : Nat} : ∀ r (U U' V V' : State), U'.heap = U.heap → V.vm.Alike V'.vm → V'.heap = V.heap → Got a D fV fC A o len r U V → Got a D fV fC A o len r U' V' :=
  fun r U U' V V' h1 hal h2 ⟨e0, D', X, a1, a2, a3, a4, a5, a6, a7, a8, a9, a10, a11⟩ => ⟨e0, D', X, a1.mv hal h2, a2, by rw [h1]; exact a3, a4, by rw [h1]; exact a5.mv hal h2, a6, by rw [hal.findClass]; exact a7, a8, a9, by rw [h1, h2]; exact a10, by rw [h1, h2]; exact a11⟩
namespace New4
def yN : MethodName := ⟨"java/lang/String", "<init>", "([CIILjava/lang/Void;)V"⟩
abbrev yB : ByteArray := jdk_42_method_149_code
theorem d0 : decode yB 0 = .ok (.aload_n 0, 1) := by decide +kernel
theorem d1 : decode yB 1 = .ok (.invokespecial 1, 3) := by decide +kernel
theorem d4 : decode yB 4 = .ok (.iload_n 3, 1) := by decide +kernel
theorem d5 : decode yB 5 = .ok (.ifCond (.ne) 22, 3) := by decide +kernel
theorem d27 : decode yB 27 = .ok (.getstatic 38, 3) := by decide +kernel
theorem d30 : decode yB 30 = .ok (.ifCond (.eq) 28, 3) := by decide +kernel
theorem d33 : decode yB 33 = .ok (.aload_n 1, 1) := by decide +kernel
theorem d34 : decode yB 34 = .ok (.iload_n 2, 1) := by decide +kernel
theorem d35 : decode yB 35 = .ok (.iload_n 3, 1) := by decide +kernel
theorem d36 : decode yB 36 = .ok (.invokestatic 177, 3) := by decide +kernel
theorem d39 : decode yB 39 = .ok (.astore 5, 2) := by decide +kernel
theorem d41 : decode yB 41 = .ok (.aload_n 0, 1) := by decide +kernel
theorem d42 : decode yB 42 = .ok (.aload 5, 2) := by decide +kernel
theorem d44 : decode yB 44 = .ok (.iload_n 3, 1) := by decide +kernel
theorem d45 : decode yB 45 = .ok (.invokestatic 47, 3) := by decide +kernel
theorem d48 : decode yB 48 = .ok (.putfield 15, 3) := by decide +kernel
theorem d51 : decode yB 51 = .ok (.aload_n 0, 1) := by decide +kernel
theorem d52 : decode yB 52 = .ok (.aload 5, 2) := by decide +kernel
theorem d54 : decode yB 54 = .ok (.putfield 9, 3) := by decide +kernel
theorem d57 : decode yB 57 = .ok (.return_, 1) := by decide +kernel
def site : List Cond := [.fieldLink "java/lang/String" 38 "java/lang/String" "COMPACT_STRINGS" "Z", Cmp3.tab, CodL.tab, .laysFinal "java/lang/String" "java/lang/String" "value" "[B", .fieldLink "java/lang/String" 9 "java/lang/String" "value" "[B", .laysFinal "java/lang/String" "java/lang/String" "coder" "B", .fieldLink "java/lang/String" 15 "java/lang/String" "coder" "B"] ++ objW "java/lang/String" 1 ++ staticW "java/lang/String" 177 Cmp3.yN ++ staticW "java/lang/String" 47 CodL.yN
def tab : Cond := tabOf yN yB 6 none site
def P (a : Addr) (D : Cell) (fV fC : Field) (b : Addr) (A : Cell) (z : Int32) (o len : Nat) (args : Array Value) (s : State) : Prop := args = #[.ref a, .ref b, .int (Int32.ofNat o), .int (Int32.ofNat len), .null] ∧ Blank "java/lang/String" a D s ∧ Found "java/lang/String" "value" "[B" fV s ∧ Found "java/lang/String" "coder" "B" fC s ∧ Ch b A s ∧ StaticIs s "java/lang/String" "COMPACT_STRINGS" "Z" (.int z) ∧ ¬ z = 0 ∧ 0 < len ∧ o + len ≤ A.slots.size ∧ len ≤ 536870912 ∧ ∀ i, i < len → ¬ 255 < cv A (o + i)
def E (a : Addr) (D : Cell) (fV fC : Field) (A : Cell) (o len : Nat) (r : Option Value) (s u : State) : Prop := Got a D fV fC A o len r s u
/-- len > 0, no char of the range above 255: a Latin-1 String of their low bytes -/
theorem law (l : Launch) (a : Addr) (D : Cell) (fV fC : Field) (b : Addr) (A : Cell) (z : Int32) (o len : Nat) : Law l yN 5 4 2 35 yB 6 none site (P a D fV fC b A z o len) (E a D fV fC A o len) [⟨a, fC.slot⟩, ⟨a, fV.slot⟩] 1 len := by
  refine Law.of_walk (plainFor_of_name (by decide +kernel)) (by decide +kernel) (by decide +kernel) (by decide) (fun _ _ h => by rw [h.1]; rfl) (fun _ U U' hal hh h => ⟨h.1, h.2.1.mv hal hh, h.2.2.1.al hal, h.2.2.2.1.al hal, h.2.2.2.2.1.mv hal hh, h.2.2.2.2.2.1.there hal hh, h.2.2.2.2.2.2⟩) (fun r U U' V V' h1 hal h2 h => Got.mv r U U' V V' h1 hal h2 h) ?_
  intro p e s m args below meth c s₁ X0 hexec hbytes hml hret hlk hnm hown hh0 W hP
  obtain ⟨rfl, hB, f1, f2, hA, s1, hz, l0, l1, l2, hp⟩ := hP
  have a31 := hA.1.2.2.2
  have c1 : Steps p.tables e below (s₁.setTop (entryFrame m #[.ref a, .ref b, .int (Int32.ofNat o), .int (Int32.ofNat len), .null] 6)) (s₁.setTop (mkF m 0 #[.val (.ref a), .val (.ref b), .val (.int (Int32.ofNat o)), .val (.int (Int32.ofNat len)), .val .null, .unset] [])) := entry rfl
  have c2 : Steps p.tables e below (s₁.setTop (entryFrame m #[.ref a, .ref b, .int (Int32.ofNat o), .int (Int32.ofNat len), .null] 6)) (s₁.setTop (mkF m 1 #[.val (.ref a), .val (.ref b), .val (.int (Int32.ofNat o)), .val (.int (Int32.ofNat len)), .val .null, .unset] [.ref a])) := c1.trans (by
    refine XS.aloadN X0.here hexec rfl (hb hbytes d0) rfl rfl ?_
    exact Steps.refl _)
  obtain ⟨T3, X3, q3, st3⟩ := X0.oinit hexec hown (wks W (objW "java/lang/String" 1)) (g := (mkF m 1 #[.val (.ref a), .val (.ref b), .val (.int (Int32.ofNat o)), .val (.int (Int32.ofNat len)), .val .null, .unset] [.ref a])) rfl (by rw [hml]; rfl) (rest := []) rfl (hb hbytes d1) (W := 0) (by show 2 * 0 + 0 ≤ _; decide) (Nat.le_of_ble_eq_true rfl) (Nat.le_of_ble_eq_true rfl)
  have hh3 := q3.trans hh0
  have c4 : Steps p.tables e below (s₁.setTop (entryFrame m #[.ref a, .ref b, .int (Int32.ofNat o), .int (Int32.ofNat len), .null] 6)) (T3.setTop (mkF m 27 #[.val (.ref a), .val (.ref b), .val (.int (Int32.ofNat o)), .val (.int (Int32.ofNat len)), .val .null, .unset] [])) := (c2.trans (st3 _ (Steps.refl _))).trans (by
    refine XS.iloadN X3.here hexec rfl (hb hbytes d4) rfl ?_
    refine XS.ifYes X3.here hexec rfl (pc0 := 5) rfl (hb hbytes d5) rfl (i0_ne_t (nz32 (by omega) l0)) (by decide) rfl ?_
    exact Steps.refl _)
  obtain ⟨T5, X5, q5, st5⟩ := X3.sget hexec hown (wk W (.fieldLink "java/lang/String" 38 "java/lang/String" "COMPACT_STRINGS" "Z")) s1 (fun _ _ h => by rw [hh3]; exact h) (g := (mkF m 27 #[.val (.ref a), .val (.ref b), .val (.int (Int32.ofNat o)), .val (.int (Int32.ofNat len)), .val .null, .unset] [])) rfl (hb hbytes d27)
  have hh5 := q5.trans hh3
  have c6 : Steps p.tables e below (s₁.setTop (entryFrame m #[.ref a, .ref b, .int (Int32.ofNat o), .int (Int32.ofNat len), .null] 6)) (T5.setTop (mkF m 30 #[.val (.ref a), .val (.ref b), .val (.int (Int32.ofNat o)), .val (.int (Int32.ofNat len)), .val .null, .unset] [.int z])) := c4.trans (st5 _ (Steps.refl _))
  have c7 : Steps p.tables e below (s₁.setTop (entryFrame m #[.ref a, .ref b, .int (Int32.ofNat o), .int (Int32.ofNat len), .null] 6)) (T5.setTop (mkF m 36 #[.val (.ref a), .val (.ref b), .val (.int (Int32.ofNat o)), .val (.int (Int32.ofNat len)), .val .null, .unset] [.int (Int32.ofNat len), .int (Int32.ofNat o), .ref b])) := c6.trans (by
    refine XS.ifNo X5.here hexec rfl (hb hbytes d30) rfl (i0_eq_f hz) ?_
    refine XS.aloadN X5.here hexec rfl (hb hbytes d33) rfl rfl ?_
    refine XS.iloadN X5.here hexec rfl (hb hbytes d34) rfl ?_
    refine XS.iloadN X5.here hexec rfl (hb hbytes d35) rfl ?_
    exact Steps.refl _)
  obtain ⟨v8, T8, X8, E8, g8⟩ := X5.callS hexec (Cmp3.law l b A o len) hown (wks W (staticW "java/lang/String" 177 Cmp3.yN)) (wk W Cmp3.tab) (W := 0) (Nat.le_of_ble_eq_true rfl) (Nat.le_of_ble_eq_true rfl) (Nat.le_refl _) (by show 0 + len ≤ len; omega) (g := (mkF m 36 #[.val (.ref a), .val (.ref b), .val (.int (Int32.ofNat o)), .val (.int (Int32.ofNat len)), .val .null, .unset] [.int (Int32.ofNat len), .int (Int32.ofNat o), .ref b])) rfl (by rw [hml]; rfl) c7 (argsL := [.ref b, .int (Int32.ofNat o), .int (Int32.ofNat len)]) (rest := []) rfl rfl (by show 2 * 0 + 0 ≤ _; decide) (hb hbytes d36) (⟨rfl, hA.mv X5.warmed.alike hh5, l1, l2, hp⟩)
  obtain ⟨e8, z8⟩ := E8
  obtain ⟨rfl, N, n1, n2, n3, n4, n5, n6⟩ := NewArr.mv _ T5 s _ _ hh5.symm (Vm.Alike.refl _) rfl e8
  rw [hh5] at z8
  have hB1 := hB.keep X8.warmed.alike (n6 _ _ hB.1)
  have hne : s.heap.size ≠ a := (Nat.ne_of_lt (Array.getElem?_eq_some_iff.mp hB.1).1).symm
  have c9 : Steps p.tables e below (s₁.setTop (entryFrame m #[.ref a, .ref b, .int (Int32.ofNat o), .int (Int32.ofNat len), .null] 6)) (T8.setTop (mkF m 39 #[.val (.ref a), .val (.ref b), .val (.int (Int32.ofNat o)), .val (.int (Int32.ofNat len)), .val .null, .unset] [.ref s.heap.size])) := g8
  have c10 : Steps p.tables e below (s₁.setTop (entryFrame m #[.ref a, .ref b, .int (Int32.ofNat o), .int (Int32.ofNat len), .null] 6)) (T8.setTop (mkF m 45 #[.val (.ref a), .val (.ref b), .val (.int (Int32.ofNat o)), .val (.int (Int32.ofNat len)), .val .null, .val (.ref s.heap.size)] [.int (Int32.ofNat N.slots.size), .ref s.heap.size, .ref a])) := by
    have hc : Steps p.tables e below (s₁.setTop (entryFrame m #[.ref a, .ref b, .int (Int32.ofNat o), .int (Int32.ofNat len), .null] 6)) (T8.setTop (mkF m 45 #[.val (.ref a), .val (.ref b), .val (.int (Int32.ofNat o)), .val (.int (Int32.ofNat len)), .val .null, .val (.ref s.heap.size)] [.int (Int32.ofNat len), .ref s.heap.size, .ref a])) := c9.trans (by
      refine XS.astore X8.here hexec rfl (hb hbytes d39) rfl rfl rfl ?_
      refine XS.aloadN X8.here hexec rfl (hb hbytes d41) rfl rfl ?_
      refine XS.aload X8.here hexec rfl (hb hbytes d42) rfl rfl ?_
      refine XS.iloadN X8.here hexec rfl (hb hbytes d44) rfl ?_
      exact Steps.refl _)
    rw [n4]; exact hc
  obtain ⟨v11, T11, X11, E11, g11⟩ := X8.callS hexec (CodL.law l s.heap.size N) hown (wks W (staticW "java/lang/String" 47 CodL.yN)) (wk W CodL.tab) (W := 1) (Nat.le_of_ble_eq_true rfl) (Nat.le_of_ble_eq_true rfl) (Nat.le_refl _) (by show 0 + len + 0 ≤ len; omega) (g := (mkF m 45 #[.val (.ref a), .val (.ref b), .val (.int (Int32.ofNat o)), .val (.int (Int32.ofNat len)), .val .null, .val (.ref s.heap.size)] [.int (Int32.ofNat N.slots.size), .ref s.heap.size, .ref a])) rfl (by rw [hml]; rfl) c10 (argsL := [.ref s.heap.size, .int (Int32.ofNat N.slots.size)]) (rest := [.ref a]) rfl rfl (by show 2 * 0 + (1 + 0) ≤ _; decide) (hb hbytes d45) (⟨rfl, n1⟩)
  obtain ⟨rfl, q11⟩ := E11
  have hB11 := hB1.mv (X8.warmed.alike.symm.trans X11.warmed.alike) q11
  have c12 : Steps p.tables e below (s₁.setTop (entryFrame m #[.ref a, .ref b, .int (Int32.ofNat o), .int (Int32.ofNat len), .null] 6)) (T11.setTop (mkF m 48 #[.val (.ref a), .val (.ref b), .val (.int (Int32.ofNat o)), .val (.int (Int32.ofNat len)), .val .null, .val (.ref s.heap.size)] [.int 0, .ref a])) := g11
  obtain ⟨T13, X13, p13, bl13, sl13, st13⟩ := X11.finit hexec hown (wk W (.fieldLink "java/lang/String" 15 "java/lang/String" "coder" "B")) (Or.inr ⟨_, (wk W (.laysFinal "java/lang/String" "java/lang/String" "coder" "B"))⟩) (Or.inl ⟨rfl, hnm⟩) f2 (Or.inl rfl) hB11 (t := .byte) (by decide +kernel) rfl (g := (mkF m 48 #[.val (.ref a), .val (.ref b), .val (.int (Int32.ofNat o)), .val (.int (Int32.ofNat len)), .val .null, .val (.ref s.heap.size)] [.int 0, .ref a])) rfl (rest := []) rfl (hb hbytes d48)
  have c14 : Steps p.tables e below (s₁.setTop (entryFrame m #[.ref a, .ref b, .int (Int32.ofNat o), .int (Int32.ofNat len), .null] 6)) (T13.setTop (mkF m 54 #[.val (.ref a), .val (.ref b), .val (.int (Int32.ofNat o)), .val (.int (Int32.ofNat len)), .val .null, .val (.ref s.heap.size)] [.ref s.heap.size, .ref a])) := (c12.trans (st13 _ (Steps.refl _))).trans (by
    refine XS.aloadN X13.here hexec rfl (hb hbytes d51) rfl rfl ?_
    refine XS.aload X13.here hexec rfl (hb hbytes d52) rfl rfl ?_
    exact Steps.refl _)
  obtain ⟨T15, X15, p15, bl15, sl15, st15⟩ := X13.finit hexec hown (wk W (.fieldLink "java/lang/String" 9 "java/lang/String" "value" "[B")) (Or.inr ⟨_, (wk W (.laysFinal "java/lang/String" "java/lang/String" "value" "[B"))⟩) (Or.inl ⟨rfl, hnm⟩) f1 (Or.inl rfl) bl13 (t := (.array .byte)) (by decide +kernel) rfl (g := (mkF m 54 #[.val (.ref a), .val (.ref b), .val (.int (Int32.ofNat o)), .val (.int (Int32.ofNat len)), .val .null, .val (.ref s.heap.size)] [.ref s.heap.size, .ref a])) rfl (rest := []) rfl (hb hbytes d54)
  have c16 : Steps p.tables e below (s₁.setTop (entryFrame m #[.ref a, .ref b, .int (Int32.ofNat o), .int (Int32.ofNat len), .null] 6)) (T15.setTop (mkF m 57 #[.val (.ref a), .val (.ref b), .val (.int (Int32.ofNat o)), .val (.int (Int32.ofNat len)), .val .null, .val (.ref s.heap.size)] [])) := c14.trans (st15 _ (Steps.refl _))
  have ap := apart (Or.inr ⟨_, (wk W (.laysFinal "java/lang/String" "java/lang/String" "value" "[B"))⟩) (Or.inr ⟨_, (wk W (.laysFinal "java/lang/String" "java/lang/String" "coder" "B"))⟩) f1 f2 (t₁ := .array .byte) (t₂ := .byte) (by decide +kernel) (by decide +kernel) (by decide)
  have al := X8.warmed.alike.symm.trans X15.warmed.alike
  have n7 : T11.heap[s.heap.size]? = some N := by rw [q11]; exact n1.1
  exact ⟨T15, none, _, _, _, X15, by simp, rfl, by omega, (fun _ => rfl), ⟨rfl, _, N, bl15, ((Same.refl D _).set _ (by simp)).set _ (by simp), sl15, (Cell.slots_setSlot_ne _ ap).trans sl13, n1.keep al (p15.other hne (p13.other hne n7)), n2, by rw [al.findClass]; exact n3, n4, n5, fun y c h1 h2 => p15.other h1 (p13.other h1 (by rw [q11]; exact n6 y c h2)), by rw [p15.2.2, p13.2.2, q11]; exact z8⟩, fun fs hl => c16.trans (X15.returnOut hexec hret (hb hbytes d57) hl)⟩
end New4
namespace New1
def yN : MethodName := ⟨"java/lang/String", "<init>", "([C)V"⟩
abbrev yB : ByteArray := jdk_42_method_3_code
theorem d0 : decode yB 0 = .ok (.aload_n 0, 1) := by decide +kernel
theorem d1 : decode yB 1 = .ok (.aload_n 1, 1) := by decide +kernel
theorem d2 : decode yB 2 = .ok (.iconst 0, 1) := by decide +kernel
theorem d3 : decode yB 3 = .ok (.aload_n 1, 1) := by decide +kernel
theorem d4 : decode yB 4 = .ok (.arraylength, 1) := by decide +kernel
theorem d5 : decode yB 5 = .ok (.aconst_null, 1) := by decide +kernel
theorem d6 : decode yB 6 = .ok (.invokespecial 27, 3) := by decide +kernel
theorem d9 : decode yB 9 = .ok (.return_, 1) := by decide +kernel
def site : List Cond := [New4.tab] ++ initW "java/lang/String" 27 New4.yN
def tab : Cond := tabOf yN yB 2 none site
def P (a : Addr) (D : Cell) (fV fC : Field) (b : Addr) (A : Cell) (z : Int32) (args : Array Value) (s : State) : Prop := args = #[.ref a, .ref b] ∧ Blank "java/lang/String" a D s ∧ Found "java/lang/String" "value" "[B" fV s ∧ Found "java/lang/String" "coder" "B" fC s ∧ Ch b A s ∧ StaticIs s "java/lang/String" "COMPACT_STRINGS" "Z" (.int z) ∧ ¬ z = 0 ∧ 0 < A.slots.size ∧ A.slots.size ≤ 536870912 ∧ ∀ i, i < A.slots.size → ¬ 255 < cv A i
def E (a : Addr) (D : Cell) (fV fC : Field) (A : Cell) (r : Option Value) (s u : State) : Prop := Got a D fV fC A 0 A.slots.size r s u
/-- new String(chars), not empty, no char above 255: a Latin-1 String of their low bytes -/
theorem law (l : Launch) (a : Addr) (D : Cell) (fV fC : Field) (b : Addr) (A : Cell) (z : Int32) : Law l yN 2 1 3 52 yB 2 none site (P a D fV fC b A z) (E a D fV fC A) [⟨a, fC.slot⟩, ⟨a, fV.slot⟩] 1 A.slots.size := by
  refine Law.of_walk (plainFor_of_name (by decide +kernel)) (by decide +kernel) (by decide +kernel) (by decide) (fun _ _ h => by rw [h.1]; rfl) (fun _ U U' hal hh h => ⟨h.1, h.2.1.mv hal hh, h.2.2.1.al hal, h.2.2.2.1.al hal, h.2.2.2.2.1.mv hal hh, h.2.2.2.2.2.1.there hal hh, h.2.2.2.2.2.2⟩) (fun r U U' V V' h1 hal h2 h => Got.mv r U U' V V' h1 hal h2 h) ?_
  intro p e s m args below meth c s₁ X0 hexec hbytes hml hret hlk hnm hown hh0 W hP
  obtain ⟨rfl, hB, f1, f2, hA, s1, hz, l0, l2, hp⟩ := hP
  have c1 : Steps p.tables e below (s₁.setTop (entryFrame m #[.ref a, .ref b] 2)) (s₁.setTop (mkF m 0 #[.val (.ref a), .val (.ref b)] [])) := entry rfl
  have c2 : Steps p.tables e below (s₁.setTop (entryFrame m #[.ref a, .ref b] 2)) (s₁.setTop (mkF m 6 #[.val (.ref a), .val (.ref b)] [.null, .int (Int32.ofNat A.slots.size), .int 0, .ref b, .ref a])) := c1.trans (by
    refine XS.aloadN X0.here hexec rfl (hb hbytes d0) rfl rfl ?_
    refine XS.aloadN X0.here hexec rfl (hb hbytes d1) rfl rfl ?_
    refine iconstV X0.here hexec rfl 0 (hb hbytes d2) (by decide) ?_
    refine XS.aloadN X0.here hexec rfl (hb hbytes d3) rfl rfl ?_
    refine X0.alen hexec (hA.1.mv X0.warmed.alike hh0) rfl rfl (hb hbytes d4) ?_
    refine XS.aconstNull X0.here hexec rfl (hb hbytes d5) ?_
    exact Steps.refl _)
  obtain ⟨v3, T3, X3, E3, g3⟩ := X0.callN hexec (New4.law l a D fV fC b A z 0 A.slots.size) rfl hown (wks W (initW "java/lang/String" 27 New4.yN)) (W New4.tab (by simp only [site, List.mem_cons, List.mem_append, true_or, or_true])) (W := 0) (Nat.le_of_ble_eq_true rfl) (Nat.le_of_ble_eq_true rfl) (Nat.le_refl _) (by show 0 + A.slots.size ≤ A.slots.size; omega) (g := (mkF m 6 #[.val (.ref a), .val (.ref b)] [.null, .int (Int32.ofNat A.slots.size), .int (Int32.ofNat 0), .ref b, .ref a])) rfl (by rw [hml]; rfl) c2 (argsL := [.ref b, .int (Int32.ofNat 0), .int (Int32.ofNat A.slots.size), .null]) (rest := []) rfl rfl (by show 2 * 0 + 0 ≤ _; decide) (hb hbytes d6) (⟨rfl, hB.mv X0.warmed.alike hh0, f1.al X0.warmed.alike, f2.al X0.warmed.alike, hA.mv X0.warmed.alike hh0, s1.there X0.warmed.alike hh0, hz, l0, by omega, l2, fun i hi => by rw [Nat.zero_add]; exact hp i hi⟩)
  have e0 := Got.mv _ s₁ s _ _ hh0.symm (Vm.Alike.refl _) rfl E3
  obtain rfl := e0.1
  have c4 : Steps p.tables e below (s₁.setTop (entryFrame m #[.ref a, .ref b] 2)) (T3.setTop (mkF m 9 #[.val (.ref a), .val (.ref b)] [])) := g3
  exact ⟨T3, none, _, _, _, X3, by simp, rfl, by omega, (fun _ => rfl), e0, fun fs hl => c4.trans (X3.returnOut hexec hret (hb hbytes d9) hl)⟩
theorem pays {l : Launch} {R : Room} {p : Program} {e : Env} {below : List Frame} {s : State} {sargs : Array Value} {len W : Nat} (a : Addr) (D : Cell) (fV fC : Field) (b : Addr) (A : Cell) (z : Int32) (htab : tab.before sargs s = true) (hfr : 4 ≤ R.frames) (hlo : W + 65 ≤ R.locals) :
    Back l R p e below s sargs yN len W (fun A₁ a₁ => A₁.cells + 1 ≤ R.cells ∧ A₁.slots + A.slots.size ≤ R.slots ∧ P a D fV fC b A z a₁ A₁.U) (fun A₁ _ v₁ B₁ => E a D fV fC A v₁ A₁.U B₁.U ∧ B₁.locs = A₁.locs ++ [⟨a, fC.slot⟩, ⟨a, fV.slot⟩] ∧ B₁.cells = A₁.cells + 1 ∧ B₁.slots = A₁.slots + A.slots.size) :=
  (law l a D fV fC b A z).pays htab hfr (by omega)
end New1
/-- the byte, read back as charAt reads it, is the char -/
theorem lo8_mask {x : Int32} (h0 : ¬ x < 0) (h1 : ¬ 255 < x) : lo8 x &&& 255 = x := by
  have t : ∀ k : Fin 256, lo8 (Int32.ofNat k.val) &&& 255 = Int32.ofNat k.val := by decide +kernel
  rw [Int32.lt_iff_toInt_lt] at h0 h1
  have e0 : (0 : Int32).toInt = 0 := rfl
  have e1 : (255 : Int32).toInt = 255 := rfl
  obtain ⟨k, hk⟩ : ∃ k : Nat, x.toInt = k := ⟨x.toInt.toNat, by omega⟩
  have hx : x = Int32.ofNat k := Int32.toInt_inj.mp (by rw [hk, Int32.toInt_ofNat_small (by omega)])
  rw [hx]
  exact t ⟨k, by omega⟩
end StrChars
namespace StrChars.Road
open Jvm Sem ClassFile Op Lib Jvm.Stand Jvm.Free Jvm.Free.XT
open Jvm.Lib.Cold (StaticIs)
abbrev ST : String := "java/lang/String"
/-- every table word that New1's law asks, flat -/
abbrev words : List Jvm.Cond := [.code New1.yN New1.yB 2 none, .initialized ST, .methodLink ST 27 New4.yN, .instanceMethod New4.yN,
  .code New4.yN New4.yB 6 none, .fieldLink ST 38 ST "COMPACT_STRINGS" "Z", .laysFinal ST ST "value" "[B", .fieldLink ST 9 ST "value" "[B", .laysFinal ST ST "coder" "B", .fieldLink ST 15 ST "coder" "B",
  .methodLink ST 1 Lib.objectInit, .instanceMethod Lib.objectInit, .code Lib.objectInit ⟨#[0xb1]⟩ 1 none, .methodLink ST 177 Cmp3.yN, .static Cmp3.yN, .methodLink ST 47 CodL.yN, .static CodL.yN,
  .code Cmp3.yN Cmp3.yB 6 (some (.array .byte)), .initialized U16, .arrayClass .byte, .methodLink U16 115 Cmp5.yN, .static Cmp5.yN, .code Cmp5.yN Cmp5.yB 7 (some .int), .code CodL.yN CodL.yB 2 (some .byte)]
theorem tab_of {a : Array Value} {s : State} (h : ∀ w ∈ words, w.before a s = true) : New1.tab.before a s = true := by
  have h5 : Cmp5.tab.before a s = true := unparts (wk h (.code Cmp5.yN Cmp5.yB 7 (some .int))) (wks h (.initialized Cmp5.yN.cls :: Cmp5.site))
  have hc : CodL.tab.before a s = true := unparts (wk h (.code CodL.yN CodL.yB 2 (some .byte))) (wks h (.initialized CodL.yN.cls :: CodL.site))
  have q5 : ∀ w ∈ Cmp5.tab :: words, w.before a s = true := fun w hw => (List.mem_cons.mp hw).elim (fun e => e ▸ h5) (h w)
  have h3 : Cmp3.tab.before a s = true := unparts (wk q5 (.code Cmp3.yN Cmp3.yB 6 (some (.array .byte)))) (wks q5 (.initialized Cmp3.yN.cls :: Cmp3.site))
  have q3 : ∀ w ∈ Cmp3.tab :: CodL.tab :: words, w.before a s = true := fun w hw => (List.mem_cons.mp hw).elim (fun e => e ▸ h3) fun hw => (List.mem_cons.mp hw).elim (fun e => e ▸ hc) (h w)
  have h4 : New4.tab.before a s = true := unparts (wk q3 (.code New4.yN New4.yB 6 none)) (wks q3 (.initialized New4.yN.cls :: New4.site))
  have q4 : ∀ w ∈ New4.tab :: words, w.before a s = true := fun w hw => (List.mem_cons.mp hw).elim (fun e => e ▸ h4) (h w)
  exact unparts (wk q4 (.code New1.yN New1.yB 2 none)) (wks q4 (.initialized New1.yN.cls :: New1.site))
/-- the words ride from the start Z to the walk's own state -/
theorem moved {Z s : State} {a0 args : Array Value} (hZ : Z.Warmed39 s.vm) (hw : ∀ d ∈ words, d.before a0 Z = true) : ∀ d ∈ words, d.before args s = true := fun d hd => by
  have q := hw d hd
  have t : ∀ d ∈ words, d = .arrayClass .byte ∨ (d.onTables && d.keepsFace) = true := by decide +kernel
  rcases t d hd with rfl | t
  · exact RoadKit.mvA hZ q
  · exact RoadKit.mv hZ q t
/-- WHAT COMES BACK, over the tables of the start Z: h the heap at the call, h' behind it -/
def Q (Z : State) (x : Addr) (A : Cell) (h : Heap) (v : Option Value) (h' : Heap) (L : List Loc) : Prop := v = none ∧ (∀ y ∈ L, y.base = x) ∧ RoadKit.Keep h h' [x] ∧ h'.size = h.size + 1 ∧ RoadKit.Exa Z h' x ST ∧ RoadKit.Fld Z h' x ST "value" "[B" (.ref h.size) ∧ RoadKit.Fld Z h' x ST "coder" "B" (.int 0) ∧
  (∃ V : Cell, RoadKit.Arr Z h' h.size V .byte ∧ V.vm = .none ∧ Z.vm.findClass "[B" = some V.cls ∧ V.slots.size = A.slots.size ∧ ∀ j, j < A.slots.size → V.slots[j]? = some (.int (lo8 (cv A j)))) ∧
  ∀ (O n d : String) (w : Value), RoadKit.Fld Z h x O n d w → RoadKit.slotOf Z O n d ≠ RoadKit.slotOf Z ST "value" "[B" → RoadKit.slotOf Z O n d ≠ RoadKit.slotOf Z ST "coder" "B" → RoadKit.Fld Z h' x O n d w
/-- **new String(chars) AT A CALL, IN THE ROAD'S FORM**: for specialBack behind newO: x the fresh String, b the char[] with the cell A -/
theorem back {p : Program} {l : Launch} {e : Env} {R : Room} {s : State} {args : Array Value} {below : List Frame} {len W : Nat} {Z : State} {a0 : Array Value} {h : Heap} (hZ : Z.Warmed39 s.vm) (hw : ∀ d ∈ words, d.before a0 Z = true) {kI : Nat} (wi : (Jvm.Cond.instantiable ST kI).before a0 Z = true)
    {x b : Addr} {A : Cell} {z : Int32} {v0 c0 : Value} (E : RoadKit.Exa Z h x ST) (V : RoadKit.Fld Z h x ST "value" "[B" v0) (C : RoadKit.Fld Z h x ST "coder" "B" c0) (K : RoadKit.Arr Z h b A .char) (hty : Typed .char A) (S : RoadKit.Sta Z h ST "COMPACT_STRINGS" "Z" (.int z)) (hz : ¬ z = 0)
    (l0 : 0 < A.slots.size) (l2 : A.slots.size ≤ 536870912) (hp : ∀ i, i < A.slots.size → ¬ 255 < cv A i) (hfr : 4 ≤ R.frames) (hlo : W + 65 ≤ R.locals) :
    Back l R p e below s args New1.yN len W (fun P a => a = #[.ref x, .ref b] ∧ P.U.heap = h ∧ P.cells + 1 ≤ R.cells ∧ P.slots + A.slots.size ≤ R.slots)
      (fun P _ v B => ∃ L, Q Z x A h v B.U.heap L ∧ B.locs = P.locs ++ L ∧ B.cells = P.cells + 1 ∧ B.slots = P.slots + A.slots.size) := by
  intro m meth c P g ig mk a X hg hsize hdg hW hn hp'
  obtain ⟨rfl, rfl, r1, r2⟩ := hp'
  have al : Z.vm.Alike P.U.vm := hZ.alike.trans X.warmed.alike
  obtain ⟨D, cfV, kV, iV, fV, hD, gV, stV, knV, obV, asV, slV⟩ := id V
  obtain ⟨D', cfC, kC, iC, fC, hD', gC, stC, -, -, asC, slC⟩ := id C
  cases hD.symm.trans hD'
  obtain ⟨D2, kD, e1, e2, e3, e4, e5⟩ := id E
  cases hD.symm.trans e1
  obtain ⟨c2, k2, i1, i2, i3, -⟩ := Cond.instantiable_spec wi
  cases e2.symm.trans i1
  cases e3.symm.trans i2
  obtain ⟨kU, u1, u2⟩ := al.2.2 _ _ e3
  have hB : Blank ST x D P.U := ⟨hD, ⟨knV, fun q hq => by rw [hq] at obV; cases obV⟩, by rw [al.findClass]; exact e2, kU, u1, by rw [u2]; exact i3, by rw [u2]; exact e5 i3⟩
  have F1 : Found ST "value" "[B" fV P.U := ⟨SBG.found_only al ⟨cfV, kV, iV, gV⟩, stV⟩
  have F2 : Found ST "coder" "B" fC P.U := ⟨SBG.found_only al ⟨cfC, kC, iC, gC⟩, stC⟩
  have hA : Ch b A P.U := ⟨⟨K.1, State.isArrayOf_alike al K.2.1, K.2.2, by omega⟩, hty⟩
  have hS : StaticIs P.U ST "COMPACT_STRINGS" "Z" (.int z) := by
    obtain ⟨cfS, iS, kS, fS, st, cS, t1, t2, t3, t4, t5, t6, t7⟩ := S
    exact StaticIs.there (s := { Z with heap := P.U.heap }) ⟨cfS, iS, kS, fS, st, cS, t1, t2, t3, t4, t5, (fun q => by rw [q] at t6; cases t6), t7⟩ al rfl
  obtain ⟨v, B, X', ⟨⟨hv, E', V', q1, q2, q3, q4, q5, q6, q7, q8, q9, q10, q11⟩, hl, hc, hs⟩, st⟩ := New1.pays x D fV fC b A z (tab_of (moved hZ hw)) hfr hlo m meth c P g ig mk _ X hg hsize hdg hW hn ⟨r1, r2, rfl, hB, F1, F2, hA, hS, hz, l0, l2, hp⟩
  have al' : Z.vm.Alike B.U.vm := hZ.alike.trans X'.warmed.alike
  have hsz : E'.slots.size = D.slots.size := by
    obtain ⟨-, -, -, kB, w1, w2, w3⟩ := q1
    obtain ⟨kB', y1, y2⟩ := al'.2.2 _ _ e3
    rw [q2.2.1] at w1
    cases w1.symm.trans y1
    rw [w3, e5 i3, y2]
  refine ⟨v, B, X', ⟨_, ⟨hv, ?_, ⟨by omega, fun y cy hy hn' => q10 y cy (by simpa using hn') hy, fun y cy hy => ?_⟩, q11, ⟨E', _, q1.1, by rw [q2.2.1]; exact e2, by rw [q2.2.1]; exact e3, by rw [q2.1]; exact obV, fun _ => by rw [hsz]; exact e5 i3⟩,
    ⟨E', cfV, kV, iV, fV, q1.1, gV, stV, by rw [q2.1]; exact knV, by rw [q2.1]; exact obV, by rw [q2.2.1]; exact asV, q3⟩, ⟨E', cfC, kC, iC, fC, q1.1, gC, stC, by rw [q2.1]; exact knV, by rw [q2.1]; exact obV, by rw [q2.2.1]; exact asC, q4⟩,
    ⟨V', ⟨q5.1, State.isArrayOf_alike al'.symm q5.2.1, q5.2.2.1⟩, q6, by rw [← al'.findClass]; exact q7, q8, fun j hj => by have := q9 j hj; rwa [Nat.zero_add] at this⟩, fun O n d w F n1 n2 => ?_⟩, hl, hc, hs⟩, st⟩
  · intro y hy
    simp only [List.mem_cons, List.not_mem_nil, or_false] at hy
    rcases hy with rfl | rfl <;> rfl
  · by_cases q : y = x
    · subst q
      cases hD.symm.trans hy
      exact ⟨E', q1.1, q2.2.1, q2.1, hsz⟩
    · exact ⟨cy, q10 y cy q hy, rfl, rfl, rfl⟩
  · obtain ⟨D3, cf, k, i, f, g1, g2, g3, g4, g5, g6, g7⟩ := F
    cases hD.symm.trans g1
    simp only [RoadKit.slotOf, g2, gV, gC, Option.map_some, Option.getD_some] at n1 n2
    exact ⟨E', cf, k, i, f, q1.1, g2, g3, by rw [q2.1]; exact g4, by rw [q2.1]; exact g5, by rw [q2.2.1]; exact g6, by rw [q2.2.2 f.slot (by simp [n1, n2])]; exact g7⟩
end StrChars.Road
namespace StrChars.Road
open Jvm Sem ClassFile Op Lib Jvm.Stand Jvm.Free Jvm.Free.XT
/-- WHAT COMES BACK, the byte[] as a list of values -/
def QA (Z : State) (x : Addr) (zn : Int32) (cs : List Int32) (h : Heap) (v : Option Value) (h' : Heap) (L : List Loc) : Prop := v = none ∧ (∀ y ∈ L, y.base = x) ∧ RoadKit.Keep h h' [x] ∧ h'.size = h.size + 1 ∧ RoadKit.Exa Z h' x ST ∧ RoadKit.Fld Z h' x ST "value" "[B" (.ref h.size) ∧ RoadKit.Fld Z h' x ST "coder" "B" (.int 0) ∧
  (∃ kb, Z.vm.findClass "[B" = some kb ∧ RoadKit.Arv Z h' h.size kb .byte zn (cs.map fun c => .int (lo8 c)) (.int 0)) ∧
  ∀ (O n d : String) (w : Value), RoadKit.Fld Z h x O n d w → RoadKit.slotOf Z O n d ≠ RoadKit.slotOf Z ST "value" "[B" → RoadKit.slotOf Z O n d ≠ RoadKit.slotOf Z ST "coder" "B" → RoadKit.Fld Z h' x O n d w
/-- **new String(chars) AT A CALL, THE ARRAYS AS LISTS**: the char[] at b holds cs, not empty, no char above 255 -/
theorem backArv {p : Program} {l : Launch} {e : Env} {R : Room} {s : State} {args : Array Value} {below : List Frame} {len W : Nat} {Z : State} {a0 : Array Value} {h : Heap} (hZ : Z.Warmed39 s.vm) (hw : ∀ d ∈ words, d.before a0 Z = true) {kI : Nat} (wi : (Jvm.Cond.instantiable ST kI).before a0 Z = true)
    {x b : Addr} {k : ClassId} {zn z : Int32} {cs : List Int32} {dv v0 c0 : Value} (E : RoadKit.Exa Z h x ST) (V : RoadKit.Fld Z h x ST "value" "[B" v0) (C : RoadKit.Fld Z h x ST "coder" "B" c0) (K : RoadKit.Arv Z h b k .char zn (cs.map Value.int) dv) (S : RoadKit.Sta Z h ST "COMPACT_STRINGS" "Z" (.int z)) (hz : ¬ z = 0)
    (hlen : zn.toNatClampNeg = cs.length) (h0 : 0 < cs.length) (hbig : cs.length ≤ 536870912) (hall : ∀ c ∈ cs, ¬ 255 < c) (hfr : 4 ≤ R.frames) (hlo : W + 65 ≤ R.locals) :
    Back l R p e below s args New1.yN len W (fun P a => a = #[.ref x, .ref b] ∧ P.U.heap = h ∧ P.cells + 1 ≤ R.cells ∧ P.slots + cs.length ≤ R.slots)
      (fun P _ v B => ∃ L, QA Z x zn cs h v B.U.heap L ∧ B.locs = P.locs ++ L ∧ B.cells = P.cells + 1 ∧ B.slots = P.slots + cs.length) := by
  obtain ⟨A, K1, K2, K3, K4, K5, K6⟩ := K
  have e : A.slots.size = cs.length := K3.trans hlen
  have hat : ∀ (i : Nat) (hi : i < cs.length), A.slots[i]? = some (.int cs[i]) := fun i hi => by rw [K5 i (by omega)]; simp [List.getD_eq_getElem?_getD, hi]
  have hcv : ∀ (i : Nat) (hi : i < cs.length), cv A i = cs[i] := fun i hi => by unfold cv; rw [hat i hi]
  have hty : Typed .char A := fun i v hv => by
    have hi : i < A.slots.size := (Array.getElem?_eq_some_iff.mp hv).1
    have q := K5 i hi
    rw [hv] at q
    rw [Option.some.inj q]
    exact K6 i hi
  refine Back.mono (back hZ hw wi E V C K1 hty S hz (by omega) (by omega) (fun i hi => by rw [hcv i (by omega)]; exact hall _ (List.getElem_mem _)) hfr hlo) (fun P a hp => ⟨hp.1, hp.2.1, hp.2.2.1, by rw [e]; exact hp.2.2.2⟩) (fun P a v B hp hq => ?_)
  obtain ⟨L, ⟨q1, q2, q3, q4, q5, q6, q7, ⟨V', v1, v2, v3, v4, v5⟩, q9⟩, hl, hc, hs⟩ := hq
  refine ⟨L, ⟨q1, q2, q3, q4, q5, q6, q7, ⟨V'.cls, v3, V', v1, rfl, by rw [v4, e, hlen], K4, fun i hi => ?_, fun i hi => ?_⟩, q9⟩, hl, hc, by rw [hs, e]⟩
  · have hi' : i < cs.length := by omega
    rw [v5 i (by omega), hcv i hi']; simp [List.getD_eq_getElem?_getD, hi']
  · have hi' : i < cs.length := by omega
    simp only [List.getD_eq_getElem?_getD, List.getElem?_map, List.getElem?_eq_getElem hi', Option.map_some, Option.getD_some]
    exact fits_lo8 _
end StrChars.Road
namespace StrChars.Road
open Jvm Sem ClassFile Op Lib Jvm.Stand Jvm.Free Jvm.Free.XT
/-- WHAT COMES BACK, in the writer's own shape -/
def QV (Z : State) (x : Addr) (N : Int32) (bs : List Int32) (h : Heap) (n0 : Nat) (v : Option Value) (h' : Heap) (L : List Loc) : Prop := v = none ∧ RoadKit.Fr n0 L ∧ RoadKit.Keep h h' [x] ∧ RoadKit.Exa Z h' x ST ∧ RoadKit.Fld Z h' x ST "coder" "B" (.int 0) ∧
  ∃ (t : Addr) (kb : ClassId), n0 ≤ t ∧ h.size ≤ t ∧ ¬ t = x ∧ RoadKit.Fld Z h' x ST "value" "[B" (.ref t) ∧ RoadKit.Arv Z h' t kb .byte N (bs.map Value.int) (.int 0)
/-- **new String(chars) AT A CALL, FOR THE WRITER**: a char[] of n known ints, each 0 to 255 -/
theorem backV {p : Program} {l : Launch} {e : Env} {R : Room} {s : State} {args : Array Value} {below : List Frame} {len W : Nat} {Z : State} {a0 : Array Value} {h : Heap} (hZ : Z.Warmed39 s.vm) (hw : ∀ d ∈ words, d.before a0 Z = true) {kI : Nat} (wi : (Jvm.Cond.instantiable ST kI).before a0 Z = true)
    {x b : Addr} {kC : ClassId} {cs bs : List Int32} {d v0 c0 : Value} {z N : Int32} {n n0 : Nat} (hx0 : n0 ≤ x) (hh0 : n0 ≤ h.size) (E : RoadKit.Exa Z h x ST) (V : RoadKit.Fld Z h x ST "value" "[B" v0) (C : RoadKit.Fld Z h x ST "coder" "B" c0) (K : RoadKit.Arv Z h b kC .char N (cs.map Value.int) d) (S : RoadKit.Sta Z h ST "COMPACT_STRINGS" "Z" (.int z)) (hz : ¬ z = 0)
    (hn : cs.length = n) (hN : N = Int32.ofNat n) (l0 : 0 < n) (l2 : n ≤ 4000) (hp : ∀ c ∈ cs, ¬ c < 0 ∧ ¬ (255 : Int32) < c) (hb : bs = cs.map (fun c => c.toInt8.toInt32)) (hfr : 4 ≤ R.frames) (hlo : W + 65 ≤ R.locals) :
    Back l R p e below s args (⟨"java/lang/String", "<init>", "([C)V"⟩ : MethodName) len W (fun P a => a = #[.ref x, .ref b] ∧ P.U.heap = h ∧ P.cells + 1 ≤ R.cells ∧ P.slots + n ≤ R.slots)
      (fun P _ v B => ∃ L, QV Z x N bs h n0 v B.U.heap L ∧ B.locs = P.locs ++ L ∧ B.cells = P.cells + 1 ∧ B.slots = P.slots + n) := by
  subst hn hN hb
  refine Back.mono (backArv hZ hw wi E V C K S hz (n32 (by omega)) l0 (by omega) (fun c hc => (hp c hc).2) hfr hlo) (fun P a hp => hp) (fun P a v B hp hq => ?_)
  obtain ⟨L, ⟨q1, q2, q3, q4, q5, q6, q7, ⟨kb, v1, v2⟩, q9⟩, hl, hc, hs⟩ := hq
  exact ⟨L, ⟨q1, fun y hy => by rw [q2 y hy]; exact hx0, q3, q5, q7, h.size, kb, hh0, Nat.le_refl _, Nat.ne_of_gt E.lt, q6, by rw [List.map_map]; exact v2⟩, hl, hc, hs⟩
end StrChars.Road
namespace StrChars
open Jvm Sem ClassFile Op Lib Jvm.Stand Jvm.Free.XT Jvm.Free.ALB Jvm.Free.JM Jvm.Free
open Jvm.Lib.Cold (StaticIs)
def hi8 (x : Int32) : Int32 := lo8 (x >>> ((8 : Int32) &&& 31))
/-- what StringUTF16.getChar makes of two bytes -/
def pairCh (u v : Int32) : Int32 := (((u &&& 255) <<< ((0 : Int32) &&& 31)) ||| ((v &&& 255) <<< ((8 : Int32) &&& 31))).toUInt32.toUInt16.toUInt32.toInt32
theorem shr0 (c : Int32) : c >>> ((0 : Int32) &&& 31) = c := by
  have e : ((0 : Int32) &&& 31) = 0 := by decide
  rw [e]
  apply Int32.toBitVec_inj.mp
  rw [Int32.toBitVec_shiftRight]
  have e1 : ((0 : Int32).toBitVec.smod 32) = 0#32 := by decide
  rw [e1, BitVec.sshiftRight_eq']
  exact BitVec.sshiftRight_zero
theorem lo8_and (x : Int32) : (lo8 x &&& 255).toBitVec.toNat = x.toBitVec.toNat % 256 := by
  have h : (lo8 x).toBitVec = (x.toBitVec.signExtend 8).signExtend 32 := by rw [lo8, Int8.toBitVec_toInt32, Int32.toBitVec_toInt8]
  rw [Int32.toBitVec_and, BitVec.toNat_and, h]
  have e : ((x.toBitVec.signExtend 8).signExtend 32).toNat % 256 = x.toBitVec.toNat % 256 := by
    rw [BitVec.toNat_signExtend]
    have hlt := x.toBitVec.isLt
    simp only [BitVec.toNat_setWidth, BitVec.toNat_signExtend]
    split <;> split <;> omega
  rw [← e]
  exact Nat.and_two_pow_sub_one_eq_mod _ 8
theorem pair_says {c : Int32} (h0 : ¬ c < 0) (h1 : ¬ 65535 < c) : pairCh (lo8 c) (hi8 c) = c := by
  rw [Int32.lt_iff_toInt_lt] at h0 h1
  have e0 : (0 : Int32).toInt = 0 := rfl
  have e1 : (65535 : Int32).toInt = 65535 := rfl
  have hc : c.toInt = c.toBitVec.toNat := by
    have := c.toBitVec.isLt
    have e : c.toInt = c.toBitVec.toInt := rfl
    rw [e] at h0 h1
    rw [e]
    rw [BitVec.toInt_eq_toNat_cond] at h0 h1 ⊢
    split at h0 <;> split <;> omega
  have hn : c.toBitVec.toNat < 65536 := by omega
  have a1 := lo8_and c
  have a2 : (hi8 c &&& 255).toBitVec.toNat = c.toBitVec.toNat / 256 := by
    rw [hi8, lo8_and]
    have e : ((8 : Int32) &&& 31) = 8 := by decide
    rw [e, Int32.toBitVec_shiftRight]
    have e2 : ((8 : Int32).toBitVec.smod 32) = 8#32 := by decide
    rw [e2, BitVec.sshiftRight_eq', BitVec.toNat_sshiftRight_of_msb_false (by rw [BitVec.msb_eq_false_iff_two_mul_lt]; omega)]
    show c.toBitVec.toNat >>> 8 % 256 = _
    rw [Nat.shiftRight_eq_div_pow]
    omega
  unfold pairCh
  apply Int32.toBitVec_inj.mp
  apply BitVec.eq_of_toNat_eq
  have f0 : ((0 : Int32) &&& 31) = 0 := by decide
  have f8 : ((8 : Int32) &&& 31) = 8 := by decide
  rw [f0, f8]
  have g : (((lo8 c &&& 255) <<< (0 : Int32)) ||| ((hi8 c &&& 255) <<< (8 : Int32))).toBitVec.toNat = c.toBitVec.toNat := by
    rw [Int32.toBitVec_or, Int32.toBitVec_shiftLeft, Int32.toBitVec_shiftLeft]
    have s0 : ((0 : Int32).toBitVec.smod 32) = 0#32 := by decide
    have s8 : ((8 : Int32).toBitVec.smod 32) = 8#32 := by decide
    rw [s0, s8, BitVec.toNat_or]
    simp only [BitVec.shiftLeft_eq', BitVec.toNat_shiftLeft, a1, a2]
    show (c.toBitVec.toNat % 256) <<< 0 % 2 ^ 32 ||| (c.toBitVec.toNat / 256) <<< 8 % 2 ^ 32 = _
    rw [Nat.shiftLeft_zero, Nat.mod_eq_of_lt (show c.toBitVec.toNat % 256 < 2 ^ 32 by omega), Nat.mod_eq_of_lt (show (c.toBitVec.toNat / 256) <<< 8 < 2 ^ 32 by rw [Nat.shiftLeft_eq]; omega), Nat.or_comm, ← Nat.shiftLeft_add_eq_or_of_lt (by omega), Nat.shiftLeft_eq]
    omega
  show BitVec.toNat (((((lo8 c &&& 255) <<< (0 : Int32)) ||| ((hi8 c &&& 255) <<< (8 : Int32))).toBitVec.setWidth 16).setWidth 32) = _
  rw [BitVec.toNat_setWidth, BitVec.toNat_setWidth, g]
  omega
end StrChars
namespace StrChars
open Jvm Sem ClassFile Op Lib Jvm.Stand Jvm.Free.XT Jvm.Free.ALB Jvm.Free.JM Jvm.Free
open Jvm.Lib.Cold (StaticIs)
theorem shr1 {n : Nat} (h : 2 * n < 2 ^ 31) : Int32.ofNat (2 * n) >>> ((1 : Int32) &&& 31) = Int32.ofNat n := by
  have e : ((1 : Int32) &&& 31) = 1 := by decide
  rw [e]
  apply Int32.toBitVec_inj.mp
  rw [Int32.toBitVec_shiftRight]
  have e1 : ((1 : Int32).toBitVec.smod 32) = 1#32 := by decide
  have hm : (BitVec.ofNat 32 (2 * n)).toNat = 2 * n := by rw [BitVec.toNat_ofNat, Nat.mod_eq_of_lt (by omega)]
  rw [e1, BitVec.sshiftRight_eq']
  apply BitVec.eq_of_toNat_eq
  show ((BitVec.ofNat 32 (2 * n)).sshiftRight 1).toNat = (BitVec.ofNat 32 n).toNat
  rw [BitVec.toNat_sshiftRight_of_msb_false (by rw [BitVec.msb_eq_false_iff_two_mul_lt, hm]; omega), hm, BitVec.toNat_ofNat, Nat.shiftRight_eq_div_pow]
  omega
/-- charAt's cast of a byte read back -/
def chr8 (u : Int32) : Int32 := (u &&& 255).toUInt32.toUInt16.toUInt32.toInt32
theorem chr8_lo8 {c : Int32} (h0 : ¬ c < 0) (h1 : ¬ 255 < c) : chr8 (lo8 c) = c := by
  have t : ∀ k : Fin 256, (Int32.ofNat k.val).toUInt32.toUInt16.toUInt32.toInt32 = Int32.ofNat k.val := by decide +kernel
  unfold chr8
  rw [lo8_mask h0 h1]
  rw [Int32.lt_iff_toInt_lt] at h0 h1
  have e0 : (0 : Int32).toInt = 0 := rfl
  have e1 : (255 : Int32).toInt = 255 := rfl
  obtain ⟨k, hk⟩ : ∃ k : Nat, c.toInt = k := ⟨c.toInt.toNat, by omega⟩
  have hx : c = Int32.ofNat k := Int32.toInt_inj.mp (by rw [hk, Int32.toInt_ofNat_small (by omega)])
  rw [hx]
  exact t ⟨k, by omega⟩
theorem narrow_ch {c : Int32} (h0 : ¬ c < 0) (h1 : ¬ 65535 < c) : narrow .char (.int c) = .int c := by
  have q : narrow .char (.int (pairCh (lo8 c) (hi8 c))) = .int (pairCh (lo8 c) (hi8 c)) := narrow_c _
  rwa [pair_says h0 h1] at q
/-- the array's cell V codes the n chars f 0 .. f (n - 1) by the coder cd, as the JDK does: coder 1 just where some char is above 255 -/
def Cod (cd : Int32) (n : Nat) (f : Nat → Int32) (V : Cell) : Prop := (cd = 0 ∧ V.slots.size = n ∧ ∀ j, j < n → V.slots[j]? = some (.int (lo8 (f j))) ∧ ¬ 255 < f j) ∨ (cd = 1 ∧ V.slots.size = 2 * n ∧ (∀ j, j < n → V.slots[2 * j]? = some (.int (lo8 (f j))) ∧ V.slots[2 * j + 1]? = some (.int (hi8 (f j)))) ∧ ∃ j, j < n ∧ 255 < f j)
theorem Cod.cd {cd : Int32} {n : Nat} {f : Nat → Int32} {V : Cell} (h : Cod cd n f V) : cd = 0 ∨ cd = 1 := h.imp (fun q => q.1) fun q => q.1
theorem Cod.len {cd : Int32} {n : Nat} {f : Nat → Int32} {V : Cell} (h : Cod cd n f V) (hs : V.slots.size < 2 ^ 31) : Int32.ofNat V.slots.size >>> (cd &&& 31) = Int32.ofNat n := by
  rcases h with ⟨rfl, h, -⟩ | ⟨rfl, h, -⟩
  · rw [shr0, h]
  · rw [h, shr1 (by omega)]
/-- **x is a String of the n chars f 0 .. f (n - 1)**, Latin-1 or UTF-16; its array at t has the cell V -/
def Txt (x t : Addr) (V : Cell) (cd : Int32) (n : Nat) (f : Nat → Int32) (U : State) : Prop := Exact "java/lang/String" x U ∧ Has x "java/lang/String" "value" "[B" (.ref t) U ∧ Has x "java/lang/String" "coder" "B" (.int cd) U ∧ XT.Arr .byte t V U ∧ Cod cd n f V ∧ ∀ j, j < n → ¬ f j < 0 ∧ ¬ 65535 < f j
theorem Txt.mv {x t : Addr} {V : Cell} {cd : Int32} {n : Nat} {f : Nat → Int32} {U U' : State} (h : Txt x t V cd n f U) (hal : U.vm.Alike U'.vm) (hh : U'.heap = U.heap) : Txt x t V cd n f U' := ⟨h.1.mv hal hh, h.2.1.mv hal hh, h.2.2.1.mv hal hh, h.2.2.2.1.mv hal hh, h.2.2.2.2⟩
namespace Cdr
def yN : MethodName := ⟨"java/lang/String", "coder", "()B"⟩
abbrev yB : ByteArray := jdk_42_method_152_code
theorem d0 : decode yB 0 = .ok (.getstatic 38, 3) := by decide +kernel
theorem d3 : decode yB 3 = .ok (.ifCond (.eq) 10, 3) := by decide +kernel
theorem d6 : decode yB 6 = .ok (.aload_n 0, 1) := by decide +kernel
theorem d7 : decode yB 7 = .ok (.getfield 15, 3) := by decide +kernel
theorem d10 : decode yB 10 = .ok (.goto 4, 3) := by decide +kernel
theorem d14 : decode yB 14 = .ok (.ireturn, 1) := by decide +kernel
def site : List Cond := [.fieldLink "java/lang/String" 38 "java/lang/String" "COMPACT_STRINGS" "Z", .fieldLink "java/lang/String" 15 "java/lang/String" "coder" "B"]
def tab : Cond := tabOf yN yB 1 (some .byte) site
def P (x : Addr) (cd z : Int32) (args : Array Value) (s : State) : Prop := args = #[.ref x] ∧ Has x "java/lang/String" "coder" "B" (.int cd) s ∧ (cd = 0 ∨ cd = 1) ∧ StaticIs s "java/lang/String" "COMPACT_STRINGS" "Z" (.int z) ∧ ¬ z = 0
def E (cd : Int32) (r : Option Value) (s u : State) : Prop := XT.PureE (some (.int cd)) r s u
theorem law (l : Launch) (x : Addr) (cd z : Int32) : Law l yN 1 0 0 0 yB 1 (some .byte) site (P x cd z) (E cd) [] 0 0 := by
  refine Law.of_walk (plainFor_of_name (by decide +kernel)) (by decide +kernel) (by decide +kernel) (by decide) (fun _ _ h => by rw [h.1]; rfl) (fun _ U U' hal hh h => ⟨h.1, h.2.1.mv hal hh, h.2.2.1, h.2.2.2.1.there hal hh, h.2.2.2.2⟩) (fun r U U' V V' h1 hal h2 h => XT.PureE.mv r U U' V V' h1 hal h2 h) ?_
  intro p e s m args below meth c s₁ X0 hexec hbytes hml hret hlk hnm hown hh0 W hP
  obtain ⟨rfl, hx, hc, s1, hz⟩ := hP
  have c1 : Steps p.tables e below (s₁.setTop (entryFrame m #[.ref x] 1)) (s₁.setTop (mkF m 0 #[.val (.ref x)] [])) := entry rfl
  obtain ⟨T2, X2, q2, st2⟩ := X0.sget hexec hown (wk W (.fieldLink "java/lang/String" 38 "java/lang/String" "COMPACT_STRINGS" "Z")) s1 (fun _ _ h => by rw [hh0]; exact h) (g := (mkF m 0 #[.val (.ref x)] [])) rfl (hb hbytes d0)
  have hh2 := q2.trans hh0
  have c3 : Steps p.tables e below (s₁.setTop (entryFrame m #[.ref x] 1)) (T2.setTop (mkF m 7 #[.val (.ref x)] [.ref x])) := (c1.trans (st2 _ (Steps.refl _))).trans (by
    refine XS.ifNo X2.here hexec rfl (hb hbytes d3) rfl (i0_eq_f hz) ?_
    refine XS.aloadN X2.here hexec rfl (hb hbytes d6) rfl rfl ?_
    exact Steps.refl _)
  obtain ⟨T4, X4, q4, st4⟩ := X2.hget hexec hown (wk W (.fieldLink "java/lang/String" 15 "java/lang/String" "coder" "B")) (hx.mv X2.warmed.alike hh2) (g := (mkF m 7 #[.val (.ref x)] [.ref x])) rfl (rest := []) rfl (hb hbytes d7)
  have c5 : Steps p.tables e below (s₁.setTop (entryFrame m #[.ref x] 1)) (T4.setTop (mkF m 14 #[.val (.ref x)] [.int cd])) := (c3.trans (st4 _ (Steps.refl _))).trans (by
    refine XS.goto X4.here hexec rfl (pc0 := 10) rfl (hb hbytes d10) (by decide) rfl ?_
    exact Steps.refl _)
  exact ⟨T4, some (.int cd), _, _, _, X4, rfl, rfl, rfl, (fun h => by cases h), ⟨rfl, q4.trans hh2⟩, fun fs hl => c5.trans (X4.ireturnOut hexec hret (by rcases hc with rfl | rfl <;> rfl) (Or.inr (Or.inr (Or.inl rfl))) (hb hbytes d14) hl)⟩
end Cdr
namespace Len
def yN : MethodName := ⟨"java/lang/String", "length", "()I"⟩
abbrev yB : ByteArray := jdk_42_method_54_code
theorem d0 : decode yB 0 = .ok (.aload_n 0, 1) := by decide +kernel
theorem d1 : decode yB 1 = .ok (.getfield 9, 3) := by decide +kernel
theorem d4 : decode yB 4 = .ok (.arraylength, 1) := by decide +kernel
theorem d5 : decode yB 5 = .ok (.aload_n 0, 1) := by decide +kernel
theorem d6 : decode yB 6 = .ok (.invokevirtual 335, 3) := by decide +kernel
theorem d9 : decode yB 9 = .ok (.ishr, 1) := by decide +kernel
theorem d10 : decode yB 10 = .ok (.ireturn, 1) := by decide +kernel
def site : List Cond := [.fieldLink "java/lang/String" 9 "java/lang/String" "value" "[B", Cdr.tab] ++ virtW "java/lang/String" 335 "java/lang/String" Cdr.yN Cdr.yN
def tab : Cond := tabOf yN yB 1 (some .int) site
def P (x t : Addr) (V : Cell) (cd : Int32) (n : Nat) (f : Nat → Int32) (z : Int32) (args : Array Value) (s : State) : Prop := args = #[.ref x] ∧ Txt x t V cd n f s ∧ StaticIs s "java/lang/String" "COMPACT_STRINGS" "Z" (.int z) ∧ ¬ z = 0
def E (n : Nat) (r : Option Value) (s u : State) : Prop := XT.PureE (some (.int (Int32.ofNat n))) r s u
/-- length() of a String of n chars, in either coding -/
theorem law (l : Launch) (x t : Addr) (V : Cell) (cd : Int32) (n : Nat) (f : Nat → Int32) (z : Int32) : Law l yN 1 0 1 13 yB 1 (some .int) site (P x t V cd n f z) (E n) [] 0 0 := by
  refine Law.of_walk (plainFor_of_name (by decide +kernel)) (by decide +kernel) (by decide +kernel) (by decide) (fun _ _ h => by rw [h.1]; rfl) (fun _ U U' hal hh h => ⟨h.1, h.2.1.mv hal hh, h.2.2.1.there hal hh, h.2.2.2⟩) (fun r U U' V V' h1 hal h2 h => XT.PureE.mv r U U' V V' h1 hal h2 h) ?_
  intro p e s m args below meth c s₁ X0 hexec hbytes hml hret hlk hnm hown hh0 W hP
  obtain ⟨rfl, hx, s1, hz⟩ := hP
  have v31 := hx.2.2.2.1.2.2.2
  have c1 : Steps p.tables e below (s₁.setTop (entryFrame m #[.ref x] 1)) (s₁.setTop (mkF m 1 #[.val (.ref x)] [.ref x])) := Steps.trans (entry rfl) (by
    show Steps p.tables e below (s₁.setTop (mkF m 0 #[.val (.ref x)] [])) _
    refine XS.aloadN X0.here hexec rfl (hb hbytes d0) rfl rfl ?_
    exact Steps.refl _)
  obtain ⟨T2, X2, q2, st2⟩ := X0.hget hexec hown (wk W (.fieldLink "java/lang/String" 9 "java/lang/String" "value" "[B")) (hx.mv X0.warmed.alike hh0).2.1 (g := (mkF m 1 #[.val (.ref x)] [.ref x])) rfl (rest := []) rfl (hb hbytes d1)
  have hh2 := q2.trans hh0
  have hx2 := hx.mv X2.warmed.alike hh2
  have c3 : Steps p.tables e below (s₁.setTop (entryFrame m #[.ref x] 1)) (T2.setTop (mkF m 6 #[.val (.ref x)] [.ref x, .int (Int32.ofNat V.slots.size)])) := (c1.trans (st2 _ (Steps.refl _))).trans (by
    refine X2.alen hexec hx2.2.2.2.1 rfl rfl (hb hbytes d4) ?_
    refine XS.aloadN X2.here hexec rfl (hb hbytes d5) rfl rfl ?_
    exact Steps.refl _)
  obtain ⟨v4, T4, X4, E4, g4⟩ := X2.callV hexec (Cdr.law l x cd z) hown (wks W (virtW "java/lang/String" 335 "java/lang/String" Cdr.yN Cdr.yN)) rfl (by decide) (wk W Cdr.tab) (W := 1) (Nat.le_of_ble_eq_true rfl) (Nat.le_of_ble_eq_true rfl) (Nat.le_refl _) (Nat.le_refl _) (hx2.1.fc X2.warmed.alike) hx2.1.is (g := (mkF m 6 #[.val (.ref x)] [.ref x, .int (Int32.ofNat V.slots.size)])) rfl (by rw [hml]; rfl) c3 (argsL := []) (rest := [.int (Int32.ofNat V.slots.size)]) rfl rfl (by show 2 * 0 + (1 + 0) ≤ _; decide) (hb hbytes d6) (⟨rfl, hx2.2.2.1, hx.2.2.2.2.1.cd, s1.there X2.warmed.alike hh2, hz⟩)
  obtain ⟨rfl, q4⟩ := E4
  have c5 : Steps p.tables e below (s₁.setTop (entryFrame m #[.ref x] 1)) (T4.setTop (mkF m 10 #[.val (.ref x)] [.int (Int32.ofNat V.slots.size >>> (cd &&& 31))])) := Steps.trans g4 (by
    refine ishr X4.here hexec rfl (hb hbytes d9) rfl ?_
    exact Steps.refl _)
  rw [hx.2.2.2.2.1.len v31] at c5
  exact ⟨T4, some (.int (Int32.ofNat n)), _, _, _, X4, rfl, rfl, rfl, (fun h => by cases h), ⟨rfl, q4.trans hh2⟩, fun fs hl => c5.trans (X4.ireturnOut hexec hret rfl (Or.inl rfl) (hb hbytes d10) hl)⟩
theorem pays {l : Launch} {R : Room} {p : Program} {e : Env} {below : List Frame} {s : State} {sargs : Array Value} {len W : Nat} (x t : Addr) (V : Cell) (cd : Int32) (n : Nat) (f : Nat → Int32) (z : Int32) (htab : tab.before sargs s = true) (hfr : 2 ≤ R.frames) (hlo : W + 25 ≤ R.locals) :
    Back l R p e below s sargs yN len W (fun A₁ a₁ => A₁.cells + 0 ≤ R.cells ∧ A₁.slots + 0 ≤ R.slots ∧ P x t V cd n f z a₁ A₁.U) (fun A₁ _ v₁ B₁ => E n v₁ A₁.U B₁.U ∧ B₁.locs = A₁.locs ++ [] ∧ B₁.cells = A₁.cells + 0 ∧ B₁.slots = A₁.slots + 0) :=
  (law l x t V cd n f z).pays htab hfr (by omega)
end Len
namespace IsL
def yN : MethodName := ⟨"java/lang/String", "isLatin1", "()Z"⟩
abbrev yB : ByteArray := jdk_42_method_154_code
theorem d0 : decode yB 0 = .ok (.getstatic 38, 3) := by decide +kernel
theorem d3 : decode yB 3 = .ok (.ifCond (.eq) 14, 3) := by decide +kernel
theorem d6 : decode yB 6 = .ok (.aload_n 0, 1) := by decide +kernel
theorem d7 : decode yB 7 = .ok (.getfield 15, 3) := by decide +kernel
theorem d10 : decode yB 10 = .ok (.ifCond (.ne) 7, 3) := by decide +kernel
theorem d13 : decode yB 13 = .ok (.iconst 1, 1) := by decide +kernel
theorem d14 : decode yB 14 = .ok (.goto 4, 3) := by decide +kernel
theorem d17 : decode yB 17 = .ok (.iconst 0, 1) := by decide +kernel
theorem d18 : decode yB 18 = .ok (.ireturn, 1) := by decide +kernel
def site : List Cond := [.fieldLink "java/lang/String" 38 "java/lang/String" "COMPACT_STRINGS" "Z", .fieldLink "java/lang/String" 15 "java/lang/String" "coder" "B"]
def tab : Cond := tabOf yN yB 1 (some .boolean) site
def P (x : Addr) (cd z : Int32) (args : Array Value) (s : State) : Prop := args = #[.ref x] ∧ Has x "java/lang/String" "coder" "B" (.int cd) s ∧ (cd = 0 ∨ cd = 1) ∧ StaticIs s "java/lang/String" "COMPACT_STRINGS" "Z" (.int z) ∧ ¬ z = 0
def E (cd : Int32) (r : Option Value) (s u : State) : Prop := XT.PureE (some (.int (1 - cd))) r s u
theorem law (l : Launch) (x : Addr) (cd z : Int32) : Law l yN 1 0 0 0 yB 1 (some .boolean) site (P x cd z) (E cd) [] 0 0 := by
  refine Law.of_walk (plainFor_of_name (by decide +kernel)) (by decide +kernel) (by decide +kernel) (by decide) (fun _ _ h => by rw [h.1]; rfl) (fun _ U U' hal hh h => ⟨h.1, h.2.1.mv hal hh, h.2.2.1, h.2.2.2.1.there hal hh, h.2.2.2.2⟩) (fun r U U' V V' h1 hal h2 h => XT.PureE.mv r U U' V V' h1 hal h2 h) ?_
  intro p e s m args below meth c s₁ X0 hexec hbytes hml hret hlk hnm hown hh0 W hP
  obtain ⟨rfl, hx, hc, s1, hz⟩ := hP
  have c1 : Steps p.tables e below (s₁.setTop (entryFrame m #[.ref x] 1)) (s₁.setTop (mkF m 0 #[.val (.ref x)] [])) := entry rfl
  obtain ⟨T2, X2, q2, st2⟩ := X0.sget hexec hown (wk W (.fieldLink "java/lang/String" 38 "java/lang/String" "COMPACT_STRINGS" "Z")) s1 (fun _ _ h => by rw [hh0]; exact h) (g := (mkF m 0 #[.val (.ref x)] [])) rfl (hb hbytes d0)
  have hh2 := q2.trans hh0
  have c3 : Steps p.tables e below (s₁.setTop (entryFrame m #[.ref x] 1)) (T2.setTop (mkF m 7 #[.val (.ref x)] [.ref x])) := (c1.trans (st2 _ (Steps.refl _))).trans (by
    refine XS.ifNo X2.here hexec rfl (hb hbytes d3) rfl (i0_eq_f hz) ?_
    refine XS.aloadN X2.here hexec rfl (hb hbytes d6) rfl rfl ?_
    exact Steps.refl _)
  obtain ⟨T4, X4, q4, st4⟩ := X2.hget hexec hown (wk W (.fieldLink "java/lang/String" 15 "java/lang/String" "coder" "B")) (hx.mv X2.warmed.alike hh2) (g := (mkF m 7 #[.val (.ref x)] [.ref x])) rfl (rest := []) rfl (hb hbytes d7)
  have c5 : Steps p.tables e below (s₁.setTop (entryFrame m #[.ref x] 1)) (T4.setTop (mkF m 10 #[.val (.ref x)] [.int cd])) := c3.trans (st4 _ (Steps.refl _))
  have c6 : Steps p.tables e below (s₁.setTop (entryFrame m #[.ref x] 1)) (T4.setTop (mkF m 18 #[.val (.ref x)] [.int (1 - cd)])) := by
    rcases hc with rfl | rfl
    · exact c5.trans (by
        refine XS.ifNo X4.here hexec rfl (hb hbytes d10) rfl (i0_ne_f rfl) ?_
        refine iconstV X4.here hexec rfl 1 (hb hbytes d13) (by decide) ?_
        refine XS.goto X4.here hexec rfl (pc0 := 14) rfl (hb hbytes d14) (by decide) rfl ?_
        exact Steps.refl _)
    · exact c5.trans (by
        refine XS.ifYes X4.here hexec rfl (pc0 := 10) rfl (hb hbytes d10) rfl (i0_ne_t (by decide)) (by decide) rfl ?_
        refine iconstV X4.here hexec rfl 0 (hb hbytes d17) (by decide) ?_
        exact Steps.refl _)
  exact ⟨T4, some (.int (1 - cd)), _, _, _, X4, rfl, rfl, rfl, (fun h => by cases h), ⟨rfl, q4.trans hh2⟩, fun fs hl => c6.trans (X4.ireturnOut hexec hret (by rcases hc with rfl | rfl <;> rfl) (Or.inr (Or.inl rfl)) (hb hbytes d18) hl)⟩
end IsL
namespace LChA
def yN : MethodName := ⟨"java/lang/StringLatin1", "charAt", "([BI)C"⟩
abbrev yB : ByteArray := jdk_43_method_2_code
theorem d0 : decode yB 0 = .ok (.iload_n 1, 1) := by decide +kernel
theorem d1 : decode yB 1 = .ok (.aload_n 0, 1) := by decide +kernel
theorem d2 : decode yB 2 = .ok (.arraylength, 1) := by decide +kernel
theorem d3 : decode yB 3 = .ok (.invokestatic 9, 3) := by decide +kernel
theorem d6 : decode yB 6 = .ok (.aload_n 0, 1) := by decide +kernel
theorem d7 : decode yB 7 = .ok (.iload_n 1, 1) := by decide +kernel
theorem d8 : decode yB 8 = .ok (.baload, 1) := by decide +kernel
theorem d9 : decode yB 9 = .ok (.sipush 255, 3) := by decide +kernel
theorem d12 : decode yB 12 = .ok (.iand, 1) := by decide +kernel
theorem d13 : decode yB 13 = .ok (.i2c, 1) := by decide +kernel
theorem d14 : decode yB 14 = .ok (.ireturn, 1) := by decide +kernel
def site : List Cond := [JO.Str_checkIndex.tab] ++ staticW "java/lang/StringLatin1" 9 JO.Str_checkIndex.yN
def tab : Cond := tabOf yN yB 2 (some .char) site
def P (t : Addr) (V : Cell) (i : Nat) (u : Int32) (fm : Value) (args : Array Value) (s : State) : Prop := args = #[.ref t, .int (Int32.ofNat i)] ∧ XT.Arr .byte t V s ∧ V.slots[i]? = some (.int u) ∧ (StaticIs s "jdk/internal/util/Preconditions" "SIOOBE_FORMATTER" "Ljava/util/function/BiFunction;" fm ∧ fm.isRef = true)
def E (u : Int32) (r : Option Value) (s w : State) : Prop := XT.PureE (some (.int (chr8 u))) r s w
theorem law (l : Launch) (t : Addr) (V : Cell) (i : Nat) (u : Int32) (fm : Value) : Law l yN 2 2 2 27 yB 2 (some .char) site (P t V i u fm) (E u) [] 0 0 := by
  refine Law.of_walk (plainFor_of_name (by decide +kernel)) (by decide +kernel) (by decide +kernel) (by decide) (fun _ _ h => by rw [h.1]; rfl) (fun _ U U' hal hh h => ⟨h.1, h.2.1.mv hal hh, h.2.2.1, h.2.2.2.1.there hal hh, h.2.2.2.2⟩) (fun r U U' V V' h1 hal h2 h => XT.PureE.mv r U U' V V' h1 hal h2 h) ?_
  intro p e s m args below meth c s₁ X0 hexec hbytes hml hret hlk hnm hown hh0 W hP
  obtain ⟨rfl, hV, hu, s1, rf⟩ := hP
  have v31 := hV.2.2.2
  have hi : i < V.slots.size := (Array.getElem?_eq_some_iff.mp hu).1
  have c1 : Steps p.tables e below (s₁.setTop (entryFrame m #[.ref t, .int (Int32.ofNat i)] 2)) (s₁.setTop (mkF m 0 #[.val (.ref t), .val (.int (Int32.ofNat i))] [])) := entry rfl
  have c2 : Steps p.tables e below (s₁.setTop (entryFrame m #[.ref t, .int (Int32.ofNat i)] 2)) (s₁.setTop (mkF m 3 #[.val (.ref t), .val (.int (Int32.ofNat i))] [.int (Int32.ofNat V.slots.size), .int (Int32.ofNat i)])) := c1.trans (by
    refine XS.iloadN X0.here hexec rfl (hb hbytes d0) rfl ?_
    refine XS.aloadN X0.here hexec rfl (hb hbytes d1) rfl rfl ?_
    refine X0.alen hexec (hV.mv X0.warmed.alike hh0) rfl rfl (hb hbytes d2) ?_
    exact Steps.refl _)
  obtain ⟨v3, T3, X3, E3, g3⟩ := X0.callS hexec (JO.Str_checkIndex.law l (Int32.ofNat i) (Int32.ofNat V.slots.size) fm) hown (wks W (staticW "java/lang/StringLatin1" 9 JO.Str_checkIndex.yN)) (wk W JO.Str_checkIndex.tab) (W := 0) (Nat.le_of_ble_eq_true rfl) (Nat.le_of_ble_eq_true rfl) (Nat.le_refl _) (Nat.le_refl _) (g := (mkF m 3 #[.val (.ref t), .val (.int (Int32.ofNat i))] [.int (Int32.ofNat V.slots.size), .int (Int32.ofNat i)])) rfl (by rw [hml]; rfl) c2 (argsL := [.int (Int32.ofNat i), .int (Int32.ofNat V.slots.size)]) (rest := []) rfl rfl (by show 2 * 0 + 0 ≤ _; decide) (hb hbytes d3) (⟨rfl, rf, s1.there X0.warmed.alike hh0, Int32.ofNat_not_neg (by omega), lt32 v31 hi⟩)
  obtain ⟨rfl, q3⟩ := E3
  have hh3 := q3.trans hh0
  have c4 : Steps p.tables e below (s₁.setTop (entryFrame m #[.ref t, .int (Int32.ofNat i)] 2)) (T3.setTop (mkF m 14 #[.val (.ref t), .val (.int (Int32.ofNat i))] [.int (chr8 u)])) := Steps.trans g3 (by
    refine XS.aloadN X3.here hexec rfl (hb hbytes d6) rfl rfl ?_
    refine XS.iloadN X3.here hexec rfl (hb hbytes d7) rfl ?_
    refine X3.aget hexec (hV.mv X3.warmed.alike hh3) rfl hu rfl rfl (hb hbytes d8) ?_
    refine sipushV X3.here hexec rfl 255 (hb hbytes d9) (by decide) ?_
    refine XS.iand X3.here hexec rfl (hb hbytes d12) rfl ?_
    refine i2c X3.here hexec rfl (hb hbytes d13) rfl ?_
    exact Steps.refl _)
  exact ⟨T3, some (.int (chr8 u)), _, _, _, X3, rfl, rfl, rfl, (fun h => by cases h), ⟨rfl, hh3⟩, fun fs hl => c4.trans (X3.ireturnOut hexec hret (narrow_c _) (Or.inr (Or.inr (Or.inr (Or.inl rfl)))) (hb hbytes d14) hl)⟩
end LChA
end StrChars
namespace StrChars.Road
open Jvm Sem ClassFile Op Lib Jvm.Stand Jvm.Free Jvm.Free.XT
open Jvm.Lib.Cold (StaticIs)
theorem consq {a : Array Value} {s : State} {c : Jvm.Cond} {L : List Jvm.Cond} (h0 : c.before a s = true) (h : ∀ w ∈ L, w.before a s = true) : ∀ w ∈ c :: L, w.before a s = true := fun w hw => (List.mem_cons.mp hw).elim (fun e => e ▸ h0) (h w)
/-- the words of String.length(), either coding -/
abbrev wordsLen : List Jvm.Cond := [.code Len.yN Len.yB 1 (some .int), .initialized ST, .fieldLink ST 9 ST "value" "[B", .fieldLink ST 38 ST "COMPACT_STRINGS" "Z", .fieldLink ST 15 ST "coder" "B", .code Cdr.yN Cdr.yB 1 (some .byte), .methodLink ST 335 Cdr.yN, .declares Cdr.yN, .selects ST Cdr.yN Cdr.yN, .instanceMethod Cdr.yN]
theorem tabLen_of {a : Array Value} {s : State} (h : ∀ w ∈ wordsLen, w.before a s = true) : Len.tab.before a s = true := by
  have hc : Cdr.tab.before a s = true := unparts (wk h (.code Cdr.yN Cdr.yB 1 (some .byte))) (wks h (.initialized Cdr.yN.cls :: Cdr.site))
  have q := consq hc h
  exact unparts (wk q (.code Len.yN Len.yB 1 (some .int))) (wks q (.initialized Len.yN.cls :: Len.site))
theorem movedLen {Z s : State} {a0 args : Array Value} (hZ : Z.Warmed39 s.vm) (hw : ∀ d ∈ wordsLen, d.before a0 Z = true) : ∀ d ∈ wordsLen, d.before args s = true := fun d hd => by
  have q := hw d hd
  have t : ∀ d ∈ wordsLen, d = .arrayClass .byte ∨ (d.onTables && d.keepsFace) = true := by decide +kernel
  rcases t d hd with rfl | t
  · exact RoadKit.mvA hZ q
  · exact RoadKit.mv hZ q t
/-- the bytes of the chars cs, low before high -/
def wideBytes : List Int32 → List Value
  | [] => []
  | c :: cs => .int (lo8 c) :: .int (hi8 c) :: wideBytes cs
theorem wide_lo (d : Value) : ∀ (cs : List Int32) (j : Nat), j < cs.length → (wideBytes cs).getD (2 * j) d = .int (lo8 (cs.getD j 0))
  | [], j, h => absurd h (Nat.not_lt_zero j)
  | c :: cs, 0, _ => rfl
  | c :: cs, j + 1, h => by
    have q := wide_lo d cs j (by simpa using h)
    rw [show 2 * (j + 1) = 2 * j + 1 + 1 from by omega]
    simpa [wideBytes] using q
theorem wide_hi (d : Value) : ∀ (cs : List Int32) (j : Nat), j < cs.length → (wideBytes cs).getD (2 * j + 1) d = .int (hi8 (cs.getD j 0))
  | [], j, h => absurd h (Nat.not_lt_zero j)
  | c :: cs, 0, _ => rfl
  | c :: cs, j + 1, h => by
    have q := wide_hi d cs j (by simpa using h)
    rw [show 2 * (j + 1) + 1 = 2 * j + 1 + 1 + 1 from by omega]
    simpa [wideBytes] using q
theorem low_at (d : Value) (cs : List Int32) (j : Nat) (h : j < cs.length) : (cs.map fun c => Value.int (lo8 c)).getD j d = .int (lo8 (cs.getD j 0)) := by
  simp [List.getD_eq_getElem?_getD, h]
/-- an array of N2 bytes vs codes the chars cs by the coder cd -/
def CodA (cs : List Int32) (cd N2 : Int32) (vs : List Value) : Prop := (cd = 0 ∧ N2 = Int32.ofNat cs.length ∧ vs = (cs.map fun c => Value.int (lo8 c)) ∧ ∀ c ∈ cs, ¬ 255 < c) ∨ (cd = 1 ∧ N2 = Int32.ofNat (2 * cs.length) ∧ vs = wideBytes cs ∧ ∃ c ∈ cs, 255 < c)
theorem CodA.cod {cs : List Int32} {cd N2 : Int32} {vs : List Value} {V : Cell} (h : CodA cs cd N2 vs) (hn : 2 * cs.length < 2 ^ 31) (hs : V.slots.size = N2.toNatClampNeg) (hv : RoadKit.Has V vs (.int 0)) : Cod cd cs.length (fun j => cs.getD j 0) V := by
  rcases h with ⟨rfl, rfl, rfl, h⟩ | ⟨rfl, rfl, rfl, c, hc, hw⟩
  · rw [n32 (by omega)] at hs
    exact Or.inl ⟨rfl, hs, fun j hj => ⟨by rw [hv j (by omega), low_at _ _ _ hj], by
      have e : cs.getD j 0 = cs[j] := by simp [List.getD_eq_getElem?_getD, hj]
      show ¬ 255 < cs.getD j 0
      rw [e]; exact h _ (List.getElem_mem _)⟩⟩
  · rw [n32 (by omega)] at hs
    obtain ⟨j, hj, rfl⟩ := List.getElem_of_mem hc
    exact Or.inr ⟨rfl, hs, fun j hj => ⟨by rw [hv _ (by omega), wide_lo _ _ _ hj], by rw [hv _ (by omega), wide_hi _ _ _ hj]⟩, j, hj, by
      have e : cs.getD j 0 = cs[j] := by simp [List.getD_eq_getElem?_getD, hj]
      show 255 < cs.getD j 0
      rw [e]; exact hw⟩
/-- an object of exactly java/lang/String, its two fields found: as the laws ask it -/
theorem strObj {Z U : State} {a0 : Array Value} {kI : Nat} (wi : (Jvm.Cond.instantiable ST kI).before a0 Z = true) (al : Z.vm.Alike U.vm) {x : Addr} {v0 c0 : Value} (E : RoadKit.Exa Z U.heap x ST) (V : RoadKit.Fld Z U.heap x ST "value" "[B" v0) (C : RoadKit.Fld Z U.heap x ST "coder" "B" c0) :
    ∃ (D : Cell) (fV fC : Field), Blank ST x D U ∧ Found ST "value" "[B" fV U ∧ Found ST "coder" "B" fC U ∧ D.slots[fV.slot]? = some v0 ∧ D.slots[fC.slot]? = some c0 ∧ RoadKit.slotOf Z ST "value" "[B" = fV.slot ∧ RoadKit.slotOf Z ST "coder" "B" = fC.slot := by
  obtain ⟨D, cfV, kV, iV, fV, hD, gV, stV, knV, obV, asV, slV⟩ := V
  obtain ⟨D', cfC, kC, iC, fC, hD', gC, stC, -, -, asC, slC⟩ := C
  cases hD.symm.trans hD'
  obtain ⟨D2, kD, e1, e2, e3, e4, e5⟩ := E
  cases hD.symm.trans e1
  obtain ⟨c2, k2, i1, i2, i3, -⟩ := Cond.instantiable_spec wi
  cases e2.symm.trans i1
  cases e3.symm.trans i2
  obtain ⟨kU, u1, u2⟩ := al.2.2 _ _ e3
  exact ⟨D, fV, fC, ⟨hD, ⟨knV, fun q hq => by rw [hq] at obV; cases obV⟩, by rw [al.findClass]; exact e2, kU, u1, by rw [u2]; exact i3, by rw [u2]; exact e5 i3⟩, ⟨SBG.found_only al ⟨cfV, kV, iV, gV⟩, stV⟩, ⟨SBG.found_only al ⟨cfC, kC, iC, gC⟩, stC⟩, slV, slC, by simp [RoadKit.slotOf, gV], by simp [RoadKit.slotOf, gC]⟩
theorem sta_is {Z U : State} (al : Z.vm.Alike U.vm) {C n d : String} {v : Value} (S : RoadKit.Sta Z U.heap C n d v) : StaticIs U C n d v := by
  obtain ⟨cfS, iS, kS, fS, st, cS, t1, t2, t3, t4, t5, t6, t7⟩ := S
  exact StaticIs.there (s := { Z with heap := U.heap }) ⟨cfS, iS, kS, fS, st, cS, t1, t2, t3, t4, t5, (fun q => by rw [q] at t6; cases t6), t7⟩ al rfl
/-- **length() OF SUCH A STRING** -/
theorem lenW {p : Program} {l : Launch} {e : Env} {R : Room} {s : State} {args : Array Value} {below : List Frame} {len W : Nat} {Z : State} {a0 : Array Value} {h : Heap} (hZ : Z.Warmed39 s.vm) (hw : ∀ d ∈ wordsLen, d.before a0 Z = true) {kI : Nat} (wi : (Jvm.Cond.instantiable ST kI).before a0 Z = true)
    {x t : Addr} {kb : ClassId} {cs : List Int32} {cd N2 z : Int32} {vs : List Value} (E : RoadKit.Exa Z h x ST) (V : RoadKit.Fld Z h x ST "value" "[B" (.ref t)) (C : RoadKit.Fld Z h x ST "coder" "B" (.int cd)) (K : RoadKit.Arv Z h t kb .byte N2 vs (.int 0)) (hc : CodA cs cd N2 vs) (hb : ∀ c ∈ cs, ¬ c < 0 ∧ ¬ (65535 : Int32) < c)
    (S : RoadKit.Sta Z h ST "COMPACT_STRINGS" "Z" (.int z)) (hz : ¬ z = 0) (l2 : cs.length ≤ 4000) (hfr : 2 ≤ R.frames) (hlo : W + 25 ≤ R.locals) :
    Back l R p e below s args (⟨"java/lang/String", "length", "()I"⟩ : MethodName) len W (fun P a => a = #[.ref x] ∧ P.U.heap = h ∧ P.cells + 0 ≤ R.cells ∧ P.slots + 0 ≤ R.slots)
      (fun P _ v B => ∃ L, (v = some (.int (Int32.ofNat cs.length)) ∧ L = [] ∧ B.U.heap = h) ∧ B.locs = P.locs ++ L ∧ B.cells = P.cells + 0 ∧ B.slots = P.slots + 0) := by
  obtain ⟨A, K1, K2, K3, K4, K5, K6⟩ := K
  have hcod := hc.cod (by omega) K3 K5
  intro m meth c P g ig mk a X hg hsize hdg hW hn hp'
  obtain ⟨rfl, rfl, r1, r2⟩ := hp'
  have al : Z.vm.Alike P.U.vm := hZ.alike.trans X.warmed.alike
  obtain ⟨D, fV, fC, hB, F1, F2, g1, g2, -, -⟩ := strObj wi al E V C
  have hx : Txt x t A cd cs.length (fun j => cs.getD j 0) P.U := ⟨⟨_, hB.2.2.1, D, hB.1, rfl, by cases q : D.vm <;> first | rfl | exact absurd q (hB.2.1.2 _)⟩, Has.of hB F1 g1, Has.of hB F2 g2, ⟨K1.1, State.isArrayOf_alike al K1.2.1, K1.2.2, by rcases hcod with ⟨-, q, -⟩ | ⟨-, q, -⟩ <;> omega⟩, hcod, fun j hj => by
    have e : cs.getD j 0 = cs[j] := by simp [List.getD_eq_getElem?_getD, hj]
    show ¬ cs.getD j 0 < 0 ∧ ¬ 65535 < cs.getD j 0
    rw [e]; exact hb _ (List.getElem_mem _)⟩
  obtain ⟨v, B, X', ⟨⟨hv, hh⟩, hl, hk, hs⟩, st⟩ := Len.pays x t A cd cs.length (fun j => cs.getD j 0) z (tabLen_of (movedLen hZ hw)) hfr hlo m meth c P g ig mk _ X hg hsize hdg hW hn ⟨r1, r2, rfl, hx, sta_is al S, hz⟩
  exact ⟨v, B, X', ⟨[], ⟨hv, rfl, hh⟩, hl, hk, hs⟩, st⟩
end StrChars.Road
namespace StrChars
open Jvm Sem ClassFile Op Lib Jvm.Stand Jvm.Free.XT Jvm.Free.ALB Jvm.Free.JM Jvm.Free
open Jvm.Lib.Cold (StaticIs)
/-- what place i of a byte[]'s cell holds -/
def yv (A : Cell) (i : Nat) : Int32 := match A.slots[i]? with | some (.int x) => x | _ => 0
theorem yv_get {a : Addr} {A : Cell} {U : State} (h : XT.Arr .byte a A U) (ht : Typed .byte A) {i : Nat} (hi : i < A.slots.size) : A.slots[i]? = some (.int (yv A i)) := by
  have e := Array.getElem?_eq_getElem hi
  have f := ht i _ e
  unfold yv; rw [e]
  generalize A.slots[i] = v at f
  cases v <;> simp [fits] at f ⊢
/-- the two arrays are equal, place for place -/
def EqC (A B : Cell) : Prop := A.slots.size = B.slots.size ∧ ∀ i, i < A.slots.size → yv A i = yv B i
/-- a boolean that says whether p -/
def Says01 (q : Prop) (r : Option Value) (s u : State) : Prop := ∃ v : Int32, r = some (.int v) ∧ u.heap = s.heap ∧ ((v = 1 ∧ q) ∨ (v = 0 ∧ ¬ q))
theorem Says01.mv {q : Prop} : ∀ r (U U' V V' : State), U'.heap = U.heap → V.vm.Alike V'.vm → V'.heap = V.heap → Says01 q r U V → Says01 q r U' V' :=
  fun r U U' V V' h1 _ h2 ⟨v, a, b, c⟩ => ⟨v, a, by rw [h1, h2]; exact b, c⟩
namespace LEq
def yN : MethodName := ⟨"java/lang/StringLatin1", "equals", "([B[B)Z"⟩
abbrev yB : ByteArray := jdk_43_method_13_code
theorem d0 : decode yB 0 = .ok (.aload_n 0, 1) := by decide +kernel
theorem d1 : decode yB 1 = .ok (.arraylength, 1) := by decide +kernel
theorem d2 : decode yB 2 = .ok (.aload_n 1, 1) := by decide +kernel
theorem d3 : decode yB 3 = .ok (.arraylength, 1) := by decide +kernel
theorem d4 : decode yB 4 = .ok (.if_icmp (.ne) 30, 3) := by decide +kernel
theorem d7 : decode yB 7 = .ok (.iconst 0, 1) := by decide +kernel
theorem d8 : decode yB 8 = .ok (.istore_n 2, 1) := by decide +kernel
theorem d9 : decode yB 9 = .ok (.iload_n 2, 1) := by decide +kernel
theorem d10 : decode yB 10 = .ok (.aload_n 0, 1) := by decide +kernel
theorem d11 : decode yB 11 = .ok (.arraylength, 1) := by decide +kernel
theorem d12 : decode yB 12 = .ok (.if_icmp (.ge) 20, 3) := by decide +kernel
theorem d15 : decode yB 15 = .ok (.aload_n 0, 1) := by decide +kernel
theorem d16 : decode yB 16 = .ok (.iload_n 2, 1) := by decide +kernel
theorem d17 : decode yB 17 = .ok (.baload, 1) := by decide +kernel
theorem d18 : decode yB 18 = .ok (.aload_n 1, 1) := by decide +kernel
theorem d19 : decode yB 19 = .ok (.iload_n 2, 1) := by decide +kernel
theorem d20 : decode yB 20 = .ok (.baload, 1) := by decide +kernel
theorem d21 : decode yB 21 = .ok (.if_icmp (.eq) 5, 3) := by decide +kernel
theorem d24 : decode yB 24 = .ok (.iconst 0, 1) := by decide +kernel
theorem d25 : decode yB 25 = .ok (.ireturn, 1) := by decide +kernel
theorem d26 : decode yB 26 = .ok (.iinc 2 1, 3) := by decide +kernel
theorem d29 : decode yB 29 = .ok (.goto (-20), 3) := by decide +kernel
theorem d32 : decode yB 32 = .ok (.iconst 1, 1) := by decide +kernel
theorem d33 : decode yB 33 = .ok (.ireturn, 1) := by decide +kernel
theorem d34 : decode yB 34 = .ok (.iconst 0, 1) := by decide +kernel
theorem d35 : decode yB 35 = .ok (.ireturn, 1) := by decide +kernel
def site : List Cond := []
def tab : Cond := tabOf yN yB 3 (some .boolean) site
def P (a : Addr) (A : Cell) (b : Addr) (B : Cell) (args : Array Value) (s : State) : Prop := args = #[.ref a, .ref b] ∧ XT.Arr .byte a A s ∧ Typed .byte A ∧ XT.Arr .byte b B s ∧ Typed .byte B
/-- whether two byte[] are equal, place for place -/
theorem law (l : Launch) (a : Addr) (A : Cell) (b : Addr) (B : Cell) : Law l yN 2 2 0 0 yB 3 (some .boolean) site (P a A b B) (Says01 (EqC A B)) [] 0 0 := by
  refine Law.of_walk (plainFor_of_name (by decide +kernel)) (by decide +kernel) (by decide +kernel) (by decide) (fun _ _ h => by rw [h.1]; rfl) (fun _ U U' hal hh h => ⟨h.1, h.2.1.mv hal hh, h.2.2.1, h.2.2.2.1.mv hal hh, h.2.2.2.2⟩) (fun r U U' V V' h1 hal h2 h => Says01.mv r U U' V V' h1 hal h2 h) ?_
  intro p e s m args below meth c s₁ X0 hexec hbytes hml hret hlk hnm hown hh0 W hP
  obtain ⟨rfl, hA, tA, hB, tB⟩ := hP
  have a31 := hA.2.2.2
  have b31 := hB.2.2.2
  have hA0 := hA.mv X0.warmed.alike hh0
  have hB0 := hB.mv X0.warmed.alike hh0
  have c1 : Steps p.tables e below (s₁.setTop (entryFrame m #[.ref a, .ref b] 3)) (s₁.setTop (mkF m 0 #[.val (.ref a), .val (.ref b), .unset] [])) := entry rfl
  have c2 : Steps p.tables e below (s₁.setTop (entryFrame m #[.ref a, .ref b] 3)) (s₁.setTop (mkF m 4 #[.val (.ref a), .val (.ref b), .unset] [.int (Int32.ofNat B.slots.size), .int (Int32.ofNat A.slots.size)])) := c1.trans (by
    refine XS.aloadN X0.here hexec rfl (hb hbytes d0) rfl rfl ?_
    refine X0.alen hexec hA0 rfl rfl (hb hbytes d1) ?_
    refine XS.aloadN X0.here hexec rfl (hb hbytes d2) rfl rfl ?_
    refine X0.alen hexec hB0 rfl rfl (hb hbytes d3) ?_
    exact Steps.refl _)
  by_cases hs : A.slots.size = B.slots.size
  · have c3 : Steps p.tables e below (s₁.setTop (entryFrame m #[.ref a, .ref b] 3)) (s₁.setTop (mkF m 9 #[.val (.ref a), .val (.ref b), .val (.int 0)] [])) := c2.trans (by
      refine XS.icmpNo X0.here hexec rfl (hb hbytes d4) rfl (ii_ne_f (by rw [hs])) ?_
      refine iconstV X0.here hexec rfl 0 (hb hbytes d7) (by decide) ?_
      refine XS.istoreN X0.here hexec rfl (hb hbytes d8) rfl rfl ?_
      exact Steps.refl _)
    have loop : ∀ (r i : Nat), i + r = A.slots.size → (∀ j, j < i → yv A j = yv B j) → Steps p.tables e below (s₁.setTop (entryFrame m #[.ref a, .ref b] 3)) (s₁.setTop (mkF m 9 #[.val (.ref a), .val (.ref b), .val (.int (Int32.ofNat i))] [])) → ∃ (pc : Nat) (Ls : Array Slot) (v : Int32), (pc = 25 ∨ pc = 33) ∧ ((v = 1 ∧ EqC A B) ∨ (v = 0 ∧ ¬ EqC A B)) ∧ Steps p.tables e below (s₁.setTop (entryFrame m #[.ref a, .ref b] 3)) (s₁.setTop (mkF m pc Ls [.int v])) := by
      intro r
      induction r with
      | zero =>
        intro i hi he cl
        exact ⟨33, _, 1, Or.inr rfl, Or.inl ⟨rfl, hs, fun j hj => he j (by omega)⟩, cl.trans (by
          refine XS.iloadN X0.here hexec rfl (hb hbytes d9) rfl ?_
          refine XS.aloadN X0.here hexec rfl (hb hbytes d10) rfl rfl ?_
          refine X0.alen hexec hA0 rfl rfl (hb hbytes d11) ?_
          refine XS.icmpYes X0.here hexec rfl (pc0 := 12) rfl (hb hbytes d12) rfl (ii_ge_t (nlt32 (by omega) (by omega))) (by decide) rfl ?_
          refine iconstV X0.here hexec rfl 1 (hb hbytes d32) (by decide) ?_
          exact Steps.refl _)⟩
      | succ r ih =>
        intro i hi he cl
        have c4 : Steps p.tables e below (s₁.setTop (entryFrame m #[.ref a, .ref b] 3)) (s₁.setTop (mkF m 21 #[.val (.ref a), .val (.ref b), .val (.int (Int32.ofNat i))] [.int (yv B i), .int (yv A i)])) := cl.trans (by
          refine XS.iloadN X0.here hexec rfl (hb hbytes d9) rfl ?_
          refine XS.aloadN X0.here hexec rfl (hb hbytes d10) rfl rfl ?_
          refine X0.alen hexec hA0 rfl rfl (hb hbytes d11) ?_
          refine XS.icmpNo X0.here hexec rfl (hb hbytes d12) rfl (ii_ge_f (lt32 (by omega) (by omega))) ?_
          refine XS.aloadN X0.here hexec rfl (hb hbytes d15) rfl rfl ?_
          refine XS.iloadN X0.here hexec rfl (hb hbytes d16) rfl ?_
          refine X0.aget hexec hA0 rfl (yv_get hA tA (i := i) (by omega)) rfl rfl (hb hbytes d17) ?_
          refine XS.aloadN X0.here hexec rfl (hb hbytes d18) rfl rfl ?_
          refine XS.iloadN X0.here hexec rfl (hb hbytes d19) rfl ?_
          refine X0.aget hexec hB0 rfl (yv_get hB tB (i := i) (by omega)) rfl rfl (hb hbytes d20) ?_
          exact Steps.refl _)
        by_cases hv : yv A i = yv B i
        · have c5 : Steps p.tables e below (s₁.setTop (entryFrame m #[.ref a, .ref b] 3)) (s₁.setTop (mkF m 9 #[.val (.ref a), .val (.ref b), .val (.int (Int32.ofNat i + 1))] [])) := c4.trans (by
            refine XS.icmpYes X0.here hexec rfl (pc0 := 21) rfl (hb hbytes d21) rfl (ii_eq_t hv) (by decide) rfl ?_
            refine iincV X0.here hexec rfl 1 (hb hbytes d26) (by decide) rfl rfl ?_
            refine XS.goto X0.here hexec rfl (pc0 := 29) rfl (hb hbytes d29) (by decide) rfl ?_
            exact Steps.refl _)
          rw [succ32] at c5
          exact ih (i + 1) (by omega) (fun j hj => by
            by_cases e : j = i
            · rw [e]; exact hv
            · exact he j (by omega)) c5
        · exact ⟨25, _, 0, Or.inl rfl, Or.inr ⟨rfl, fun q => hv (q.2 i (by omega))⟩, c4.trans (by
            refine XS.icmpNo X0.here hexec rfl (hb hbytes d21) rfl (ii_eq_f hv) ?_
            refine iconstV X0.here hexec rfl 0 (hb hbytes d24) (by decide) ?_
            exact Steps.refl _)⟩
    obtain ⟨pc, Ls, v, hpc, hv, cz⟩ := loop A.slots.size 0 (by omega) (fun j hj => absurd hj (Nat.not_lt_zero j)) c3
    have nv : narrow .boolean (.int v) = .int v := by rcases hv with ⟨rfl, -⟩ | ⟨rfl, -⟩ <;> rfl
    rcases hpc with rfl | rfl
    · exact ⟨s₁, some (.int v), _, _, _, X0, rfl, rfl, rfl, (fun h => by cases h), ⟨v, rfl, hh0, hv⟩, fun fs hl => cz.trans (X0.ireturnOut hexec hret nv (Or.inr (Or.inl rfl)) (hb hbytes d25) hl)⟩
    · exact ⟨s₁, some (.int v), _, _, _, X0, rfl, rfl, rfl, (fun h => by cases h), ⟨v, rfl, hh0, hv⟩, fun fs hl => cz.trans (X0.ireturnOut hexec hret nv (Or.inr (Or.inl rfl)) (hb hbytes d33) hl)⟩
  · have c3 : Steps p.tables e below (s₁.setTop (entryFrame m #[.ref a, .ref b] 3)) (s₁.setTop (mkF m 35 #[.val (.ref a), .val (.ref b), .unset] [.int 0])) := c2.trans (by
      refine XS.icmpYes X0.here hexec rfl (pc0 := 4) rfl (hb hbytes d4) rfl (ii_ne_t (ne32 a31 b31 hs)) (by decide) rfl ?_
      refine iconstV X0.here hexec rfl 0 (hb hbytes d34) (by decide) ?_
      exact Steps.refl _)
    exact ⟨s₁, some (.int 0), _, _, _, X0, rfl, rfl, rfl, (fun h => by cases h), ⟨0, rfl, hh0, Or.inr ⟨rfl, fun q => hs q.1⟩⟩, fun fs hl => c3.trans (X0.ireturnOut hexec hret rfl (Or.inr (Or.inl rfl)) (hb hbytes d35) hl)⟩
end LEq
theorem Cod.ty {cd : Int32} {n : Nat} {f : Nat → Int32} {V : Cell} (h : Cod cd n f V) : Typed .byte V := fun i v hv => by
  have hi : i < V.slots.size := (Array.getElem?_eq_some_iff.mp hv).1
  rcases h with ⟨-, k1, k2⟩ | ⟨-, k1, k2, -⟩
  · rw [(k2 i (by omega)).1] at hv; cases hv; exact fits_lo8 _
  · rcases Nat.mod_two_eq_zero_or_one i with e | e
    · obtain ⟨j, rfl⟩ : ∃ j, i = 2 * j := ⟨i / 2, by omega⟩
      rw [(k2 j (by omega)).1] at hv; cases hv; exact fits_lo8 _
    · obtain ⟨j, rfl⟩ : ∃ j, i = 2 * j + 1 := ⟨i / 2, by omega⟩
      rw [(k2 j (by omega)).2] at hv; cases hv; exact fits_lo8 _
/-- the same text -/
def SameT (n : Nat) (f : Nat → Int32) (k : Nat) (g : Nat → Int32) : Prop := n = k ∧ ∀ j, j < n → f j = g j
theorem lo8_inj {x y : Int32} (h0 : ¬ x < 0) (h1 : ¬ 255 < x) (k0 : ¬ y < 0) (k1 : ¬ 255 < y) (h : lo8 x = lo8 y) : x = y := by
  rw [← lo8_mask h0 h1, ← lo8_mask k0 k1, h]
/-- arrays coded by one coder are equal just where the texts are -/
theorem Cod.eqv {cd : Int32} {n k : Nat} {f g : Nat → Int32} {V V' : Cell} (h : Cod cd n f V) (h' : Cod cd k g V') (hf : ∀ j, j < n → ¬ f j < 0 ∧ ¬ 65535 < f j) (hg : ∀ j, j < k → ¬ g j < 0 ∧ ¬ 65535 < g j) : EqC V V' ↔ SameT n f k g := by
  have yvv : ∀ {W : Cell} {i : Nat} {x : Int32}, W.slots[i]? = some (.int x) → yv W i = x := fun q => by unfold yv; rw [q]
  rcases h with ⟨rfl, k1, k2⟩ | ⟨rfl, k1, k2, -⟩
  · rcases h' with ⟨-, m1, m2⟩ | ⟨e, -⟩
    · constructor
      · rintro ⟨e1, e2⟩
        refine ⟨by omega, fun j hj => ?_⟩
        have q := e2 j (by omega)
        rw [yvv (k2 j hj).1, yvv (m2 j (by omega)).1] at q
        exact lo8_inj (hf j hj).1 (k2 j hj).2 (hg j (by omega)).1 (m2 j (by omega)).2 q
      · rintro ⟨rfl, e2⟩
        refine ⟨by omega, fun j hj => ?_⟩
        rw [yvv (k2 j (by omega)).1, yvv (m2 j (by omega)).1, e2 j (by omega)]
    · exact absurd e (by decide)
  · rcases h' with ⟨e, -⟩ | ⟨-, m1, m2, -⟩
    · exact absurd e (by decide)
    · constructor
      · rintro ⟨e1, e2⟩
        refine ⟨by omega, fun j hj => ?_⟩
        have q1 := e2 (2 * j) (by omega)
        have q2 := e2 (2 * j + 1) (by omega)
        rw [yvv (k2 j hj).1, yvv (m2 j (by omega)).1] at q1
        rw [yvv (k2 j hj).2, yvv (m2 j (by omega)).2] at q2
        rw [← pair_says (hf j hj).1 (hf j hj).2, ← pair_says (hg j (by omega)).1 (hg j (by omega)).2, q1, q2]
      · rintro ⟨rfl, e2⟩
        refine ⟨by omega, fun i hi => ?_⟩
        rcases Nat.mod_two_eq_zero_or_one i with e | e
        · obtain ⟨j, rfl⟩ : ∃ j, i = 2 * j := ⟨i / 2, by omega⟩
          rw [yvv (k2 j (by omega)).1, yvv (m2 j (by omega)).1, e2 j (by omega)]
        · obtain ⟨j, rfl⟩ : ∃ j, i = 2 * j + 1 := ⟨i / 2, by omega⟩
          rw [yvv (k2 j (by omega)).2, yvv (m2 j (by omega)).2, e2 j (by omega)]
/-- two codings differ: so do the texts -/
theorem Cod.dif {cd cd' : Int32} {n k : Nat} {f g : Nat → Int32} {V V' : Cell} (h : Cod cd n f V) (h' : Cod cd' k g V') (hne : ¬ cd = cd') : ¬ SameT n f k g := by
  rintro ⟨rfl, e⟩
  rcases h with ⟨rfl, -, k2⟩ | ⟨rfl, -, -, j, hj, hw⟩
  · rcases h' with ⟨rfl, -⟩ | ⟨-, -, -, j, hj, hw⟩
    · exact hne rfl
    · exact (k2 j hj).2 (by rw [e j hj]; exact hw)
  · rcases h' with ⟨-, -, m2⟩ | ⟨rfl, -⟩
    · exact (m2 j hj).2 (by rw [← e j hj]; exact hw)
    · exact hne rfl
/-- an object of exactly C is an instance of C -/
theorem cinst {p : Program} {l : Launch} {e : Env} {R : Room} {s : State} {m : MethodId} {args : Array Value} {below : List Frame} {meth : Method} {c : Code} {T : State} {locs : List Loc} {cells slots : Nat} (X : Stand p l e R s m args below meth c T locs cells slots) (hexec : p.tables.exec = Jvm.exec) {own C : String} {index : Nat} (hown : s.vm.findClass own = some m.cls) (hlink : (Cond.classLink own index C).before args s = true) {a : Addr} (hE : Exact C a T)
    {g : JFrame} (hg : g.method = m) {rest : List Value} (hstack : g.stack = .ref a :: rest) (hdg : decode c.code g.pc = .ok (.instanceof index, 3)) :
    ∃ T', Stand p l e R s m args below meth c T' locs cells slots ∧ T'.heap = T.heap ∧ ∀ target, Steps p.tables e below (T'.setTop { g with pc := g.pc + 3, stack := .int 1 :: rest }) target → Steps p.tables e below (T.setTop g) target := by
  obtain ⟨cB, h1, D, h2, h3, h4⟩ := hE
  have h1' : s.vm.findClass C = some cB := by rw [← X.warmed.alike.findClass]; exact h1
  obtain ⟨vm', X', st⟩ := X.instanceofYes hexec hown hlink h2 h4 h1' (by rw [h3]; exact Jvm.Free.SB.assignable_self _ _) hg hstack hdg
  exact ⟨_, X', rfl, st⟩
theorem cself {p : Program} {l : Launch} {e : Env} {R : Room} {s : State} {m : MethodId} {args : Array Value} {below : List Frame} {meth : Method} {c : Code} {T : State} {locs : List Loc} {cells slots : Nat} (X : Stand p l e R s m args below meth c T locs cells slots) (hexec : p.tables.exec = Jvm.exec) {own C : String} {index : Nat} (hown : s.vm.findClass own = some m.cls) (hlink : (Cond.classLink own index C).before args s = true) {a : Addr} (hE : Exact C a T)
    {g : JFrame} (hg : g.method = m) {rest : List Value} (hstack : g.stack = .ref a :: rest) (hdg : decode c.code g.pc = .ok (.checkcast index, 3)) :
    ∃ T', Stand p l e R s m args below meth c T' locs cells slots ∧ T'.heap = T.heap ∧ ∀ target, Steps p.tables e below (T'.setTop { g with pc := g.pc + 3, stack := .ref a :: rest }) target → Steps p.tables e below (T.setTop g) target := by
  obtain ⟨cB, h1, D, h2, h3, h4⟩ := hE
  have h1' : s.vm.findClass C = some cB := by rw [← X.warmed.alike.findClass]; exact h1
  obtain ⟨vm', X', st⟩ := X.checkcastYes hexec hown hlink h2 h4 h1' (by rw [h3]; exact Jvm.Free.SB.assignable_self _ _) hg hstack hdg
  exact ⟨_, X', rfl, fun t h => st t (by rw [← hstack] at h; exact h)⟩
namespace SEq
def yN : MethodName := ⟨"java/lang/String", "equals", "(Ljava/lang/Object;)Z"⟩
abbrev yB : ByteArray := jdk_42_method_66_code
theorem d0 : decode yB 0 = .ok (.aload_n 0, 1) := by decide +kernel
theorem d1 : decode yB 1 = .ok (.aload_n 1, 1) := by decide +kernel
theorem d2 : decode yB 2 = .ok (.if_acmp (.ne) 5, 3) := by decide +kernel
theorem d5 : decode yB 5 = .ok (.iconst 1, 1) := by decide +kernel
theorem d6 : decode yB 6 = .ok (.ireturn, 1) := by decide +kernel
theorem d7 : decode yB 7 = .ok (.aload_n 1, 1) := by decide +kernel
theorem d8 : decode yB 8 = .ok (.instanceof 10, 3) := by decide +kernel
theorem d11 : decode yB 11 = .ok (.ifCond (.eq) 43, 3) := by decide +kernel
theorem d14 : decode yB 14 = .ok (.aload_n 1, 1) := by decide +kernel
theorem d15 : decode yB 15 = .ok (.checkcast 10, 3) := by decide +kernel
theorem d18 : decode yB 18 = .ok (.astore_n 2, 1) := by decide +kernel
theorem d19 : decode yB 19 = .ok (.getstatic 38, 3) := by decide +kernel
theorem d22 : decode yB 22 = .ok (.ifCond (.eq) 14, 3) := by decide +kernel
theorem d25 : decode yB 25 = .ok (.aload_n 0, 1) := by decide +kernel
theorem d26 : decode yB 26 = .ok (.getfield 15, 3) := by decide +kernel
theorem d29 : decode yB 29 = .ok (.aload_n 2, 1) := by decide +kernel
theorem d30 : decode yB 30 = .ok (.getfield 15, 3) := by decide +kernel
theorem d33 : decode yB 33 = .ok (.if_icmp (.ne) 21, 3) := by decide +kernel
theorem d36 : decode yB 36 = .ok (.aload_n 0, 1) := by decide +kernel
theorem d37 : decode yB 37 = .ok (.getfield 9, 3) := by decide +kernel
theorem d40 : decode yB 40 = .ok (.aload_n 2, 1) := by decide +kernel
theorem d41 : decode yB 41 = .ok (.getfield 9, 3) := by decide +kernel
theorem d44 : decode yB 44 = .ok (.invokestatic 541, 3) := by decide +kernel
theorem d47 : decode yB 47 = .ok (.ifCond (.eq) 7, 3) := by decide +kernel
theorem d50 : decode yB 50 = .ok (.iconst 1, 1) := by decide +kernel
theorem d51 : decode yB 51 = .ok (.goto 4, 3) := by decide +kernel
theorem d54 : decode yB 54 = .ok (.iconst 0, 1) := by decide +kernel
theorem d55 : decode yB 55 = .ok (.ireturn, 1) := by decide +kernel
def site : List Cond := [.classLink "java/lang/String" 10 "java/lang/String", .fieldLink "java/lang/String" 38 "java/lang/String" "COMPACT_STRINGS" "Z", .fieldLink "java/lang/String" 15 "java/lang/String" "coder" "B", .fieldLink "java/lang/String" 9 "java/lang/String" "value" "[B", LEq.tab] ++ staticW "java/lang/String" 541 LEq.yN
def tab : Cond := tabOf yN yB 3 (some .boolean) site
def P (x t : Addr) (V : Cell) (cd : Int32) (n : Nat) (f : Nat → Int32) (y t' : Addr) (V' : Cell) (cd' : Int32) (k : Nat) (g : Nat → Int32) (z : Int32) (args : Array Value) (s : State) : Prop := args = #[.ref x, .ref y] ∧ Txt x t V cd n f s ∧ Txt y t' V' cd' k g s ∧ StaticIs s "java/lang/String" "COMPACT_STRINGS" "Z" (.int z) ∧ ¬ z = 0
/-- equals(Object) of two Strings: whether the texts are the same -/
theorem law (l : Launch) (x t : Addr) (V : Cell) (cd : Int32) (n : Nat) (f : Nat → Int32) (y t' : Addr) (V' : Cell) (cd' : Int32) (k : Nat) (g : Nat → Int32) (z : Int32) : Law l yN 2 1 1 14 yB 3 (some .boolean) site (P x t V cd n f y t' V' cd' k g z) (Says01 (SameT n f k g)) [] 0 0 := by
  refine Law.of_walk (plainFor_of_name (by decide +kernel)) (by decide +kernel) (by decide +kernel) (by decide) (fun _ _ h => by rw [h.1]; rfl) (fun _ U U' hal hh h => ⟨h.1, h.2.1.mv hal hh, h.2.2.1.mv hal hh, h.2.2.2.1.there hal hh, h.2.2.2.2⟩) (fun r U U' V V' h1 hal h2 h => Says01.mv r U U' V V' h1 hal h2 h) ?_
  intro p e s m args below meth c s₁ X0 hexec hbytes hml hret hlk hnm hown hh0 W hP
  obtain ⟨rfl, hx, hy, s1, hz⟩ := hP
  have c1 : Steps p.tables e below (s₁.setTop (entryFrame m #[.ref x, .ref y] 3)) (s₁.setTop (mkF m 2 #[.val (.ref x), .val (.ref y), .unset] [.ref y, .ref x])) := Steps.trans (entry rfl) (by
    show Steps p.tables e below (s₁.setTop (mkF m 0 #[.val (.ref x), .val (.ref y), .unset] [])) _
    refine XS.aloadN X0.here hexec rfl (hb hbytes d0) rfl rfl ?_
    refine XS.aloadN X0.here hexec rfl (hb hbytes d1) rfl rfl ?_
    exact Steps.refl _)
  by_cases hxy : x = y
  · have c2 : Steps p.tables e below (s₁.setTop (entryFrame m #[.ref x, .ref y] 3)) (s₁.setTop (mkF m 6 #[.val (.ref x), .val (.ref y), .unset] [.int 1])) := c1.trans (by
      refine acmpNo X0.here hexec rfl (hb hbytes d2) rfl rfl rfl (by simp [acmp, hxy]) ?_
      refine iconstV X0.here hexec rfl 1 (hb hbytes d5) (by decide) ?_
      exact Steps.refl _)
    subst hxy
    have ec : cd = cd' := by
      obtain ⟨D, fd, a1, a2, a3⟩ := hx.2.2.1
      obtain ⟨D', fd', b1, b2, b3⟩ := hy.2.2.1
      cases a1.symm.trans b1
      obtain ⟨q1, q2, q3, q4⟩ := a2.1
      obtain ⟨r1, r2, r3, r4⟩ := b2.1
      cases q4.symm.trans r4
      cases a3.symm.trans b3; rfl
    have et : t = t' := by
      obtain ⟨D, fd, a1, a2, a3⟩ := hx.2.1
      obtain ⟨D', fd', b1, b2, b3⟩ := hy.2.1
      cases a1.symm.trans b1
      obtain ⟨q1, q2, q3, q4⟩ := a2.1
      obtain ⟨r1, r2, r3, r4⟩ := b2.1
      cases q4.symm.trans r4
      cases a3.symm.trans b3; rfl
    subst ec et
    have ev : V = V' := by cases hx.2.2.2.1.1.symm.trans hy.2.2.2.1.1; rfl
    subst ev
    have hs : SameT n f k g := (Cod.eqv hx.2.2.2.2.1 hy.2.2.2.2.1 hx.2.2.2.2.2 hy.2.2.2.2.2).mp ⟨rfl, fun _ _ => rfl⟩
    exact ⟨s₁, some (.int 1), _, _, _, X0, rfl, rfl, rfl, (fun h => by cases h), ⟨1, rfl, hh0, Or.inl ⟨rfl, hs⟩⟩, fun fs hl => c2.trans (X0.ireturnOut hexec hret rfl (Or.inr (Or.inl rfl)) (hb hbytes d6) hl)⟩
  · have c2 : Steps p.tables e below (s₁.setTop (entryFrame m #[.ref x, .ref y] 3)) (s₁.setTop (mkF m 8 #[.val (.ref x), .val (.ref y), .unset] [.ref y])) := c1.trans (by
      refine acmpYes X0.here hexec rfl (pc0 := 2) rfl (hb hbytes d2) rfl rfl rfl (by simp [acmp, hxy]) (by decide) rfl ?_
      refine XS.aloadN X0.here hexec rfl (hb hbytes d7) rfl rfl ?_
      exact Steps.refl _)
    obtain ⟨T3, X3, q3, st3⟩ := cinst X0 hexec hown (wk W (.classLink "java/lang/String" 10 "java/lang/String")) (hy.mv X0.warmed.alike hh0).1 (g := (mkF m 8 #[.val (.ref x), .val (.ref y), .unset] [.ref y])) rfl (rest := []) rfl (hb hbytes d8)
    have hh3 := q3.trans hh0
    have c4 : Steps p.tables e below (s₁.setTop (entryFrame m #[.ref x, .ref y] 3)) (T3.setTop (mkF m 15 #[.val (.ref x), .val (.ref y), .unset] [.ref y])) := (c2.trans (st3 _ (Steps.refl _))).trans (by
      refine XS.ifNo X3.here hexec rfl (hb hbytes d11) rfl (i0_eq_f (by decide)) ?_
      refine XS.aloadN X3.here hexec rfl (hb hbytes d14) rfl rfl ?_
      exact Steps.refl _)
    obtain ⟨T5, X5, q5, st5⟩ := cself X3 hexec hown (wk W (.classLink "java/lang/String" 10 "java/lang/String")) (hy.mv X3.warmed.alike hh3).1 (g := (mkF m 15 #[.val (.ref x), .val (.ref y), .unset] [.ref y])) rfl (rest := []) rfl (hb hbytes d15)
    have hh5 := q5.trans hh3
    have c6 : Steps p.tables e below (s₁.setTop (entryFrame m #[.ref x, .ref y] 3)) (T5.setTop (mkF m 19 #[.val (.ref x), .val (.ref y), .val (.ref y)] [])) := (c4.trans (st5 _ (Steps.refl _))).trans (by
      refine XS.astoreN X5.here hexec rfl (hb hbytes d18) rfl rfl rfl ?_
      exact Steps.refl _)
    obtain ⟨T7, X7, q7, st7⟩ := X5.sget hexec hown (wk W (.fieldLink "java/lang/String" 38 "java/lang/String" "COMPACT_STRINGS" "Z")) s1 (fun _ _ h => by rw [hh5]; exact h) (g := (mkF m 19 #[.val (.ref x), .val (.ref y), .val (.ref y)] [])) rfl (hb hbytes d19)
    have hh7 := q7.trans hh5
    have c8 : Steps p.tables e below (s₁.setTop (entryFrame m #[.ref x, .ref y] 3)) (T7.setTop (mkF m 26 #[.val (.ref x), .val (.ref y), .val (.ref y)] [.ref x])) := (c6.trans (st7 _ (Steps.refl _))).trans (by
      refine XS.ifNo X7.here hexec rfl (hb hbytes d22) rfl (i0_eq_f hz) ?_
      refine XS.aloadN X7.here hexec rfl (hb hbytes d25) rfl rfl ?_
      exact Steps.refl _)
    obtain ⟨T9, X9, q9, st9⟩ := X7.hget hexec hown (wk W (.fieldLink "java/lang/String" 15 "java/lang/String" "coder" "B")) (hx.mv X7.warmed.alike hh7).2.2.1 (g := (mkF m 26 #[.val (.ref x), .val (.ref y), .val (.ref y)] [.ref x])) rfl (rest := []) rfl (hb hbytes d26)
    have hh9 := q9.trans hh7
    have c10 : Steps p.tables e below (s₁.setTop (entryFrame m #[.ref x, .ref y] 3)) (T9.setTop (mkF m 30 #[.val (.ref x), .val (.ref y), .val (.ref y)] [.ref y, .int cd])) := (c8.trans (st9 _ (Steps.refl _))).trans (by
      refine XS.aloadN X9.here hexec rfl (hb hbytes d29) rfl rfl ?_
      exact Steps.refl _)
    obtain ⟨T11, X11, q11, st11⟩ := X9.hget hexec hown (wk W (.fieldLink "java/lang/String" 15 "java/lang/String" "coder" "B")) (hy.mv X9.warmed.alike hh9).2.2.1 (g := (mkF m 30 #[.val (.ref x), .val (.ref y), .val (.ref y)] [.ref y, .int cd])) rfl (rest := [.int cd]) rfl (hb hbytes d30)
    have hh11 := q11.trans hh9
    have c12 : Steps p.tables e below (s₁.setTop (entryFrame m #[.ref x, .ref y] 3)) (T11.setTop (mkF m 33 #[.val (.ref x), .val (.ref y), .val (.ref y)] [.int cd', .int cd])) := c10.trans (st11 _ (Steps.refl _))
    by_cases hcd : cd = cd'
    · subst hcd
      have c13 : Steps p.tables e below (s₁.setTop (entryFrame m #[.ref x, .ref y] 3)) (T11.setTop (mkF m 37 #[.val (.ref x), .val (.ref y), .val (.ref y)] [.ref x])) := c12.trans (by
        refine XS.icmpNo X11.here hexec rfl (hb hbytes d33) rfl (ii_ne_f rfl) ?_
        refine XS.aloadN X11.here hexec rfl (hb hbytes d36) rfl rfl ?_
        exact Steps.refl _)
      obtain ⟨T14, X14, q14, st14⟩ := X11.hget hexec hown (wk W (.fieldLink "java/lang/String" 9 "java/lang/String" "value" "[B")) (hx.mv X11.warmed.alike hh11).2.1 (g := (mkF m 37 #[.val (.ref x), .val (.ref y), .val (.ref y)] [.ref x])) rfl (rest := []) rfl (hb hbytes d37)
      have hh14 := q14.trans hh11
      have c15 : Steps p.tables e below (s₁.setTop (entryFrame m #[.ref x, .ref y] 3)) (T14.setTop (mkF m 41 #[.val (.ref x), .val (.ref y), .val (.ref y)] [.ref y, .ref t])) := (c13.trans (st14 _ (Steps.refl _))).trans (by
        refine XS.aloadN X14.here hexec rfl (hb hbytes d40) rfl rfl ?_
        exact Steps.refl _)
      obtain ⟨T16, X16, q16, st16⟩ := X14.hget hexec hown (wk W (.fieldLink "java/lang/String" 9 "java/lang/String" "value" "[B")) (hy.mv X14.warmed.alike hh14).2.1 (g := (mkF m 41 #[.val (.ref x), .val (.ref y), .val (.ref y)] [.ref y, .ref t])) rfl (rest := [.ref t]) rfl (hb hbytes d41)
      have hh16 := q16.trans hh14
      have c17 : Steps p.tables e below (s₁.setTop (entryFrame m #[.ref x, .ref y] 3)) (T16.setTop (mkF m 44 #[.val (.ref x), .val (.ref y), .val (.ref y)] [.ref t', .ref t])) := c15.trans (st16 _ (Steps.refl _))
      obtain ⟨v18, T18, X18, E18, g18⟩ := X16.callS hexec (LEq.law l t V t' V') hown (wks W (staticW "java/lang/String" 541 LEq.yN)) (wk W LEq.tab) (W := 0) (Nat.le_of_ble_eq_true rfl) (Nat.le_of_ble_eq_true rfl) (Nat.le_refl _) (Nat.le_refl _) (g := (mkF m 44 #[.val (.ref x), .val (.ref y), .val (.ref y)] [.ref t', .ref t])) rfl (by rw [hml]; rfl) c17 (argsL := [.ref t, .ref t']) (rest := []) rfl rfl (by show 2 * 0 + 0 ≤ _; decide) (hb hbytes d44) (⟨rfl, hx.2.2.2.1.mv X16.warmed.alike hh16, hx.2.2.2.2.1.ty, hy.2.2.2.1.mv X16.warmed.alike hh16, hy.2.2.2.2.1.ty⟩)
      obtain ⟨v, rfl, q18, hv⟩ := E18
      have iff := Cod.eqv hx.2.2.2.2.1 hy.2.2.2.2.1 hx.2.2.2.2.2 hy.2.2.2.2.2
      rcases hv with ⟨rfl, he⟩ | ⟨rfl, he⟩
      · have c19 : Steps p.tables e below (s₁.setTop (entryFrame m #[.ref x, .ref y] 3)) (T18.setTop (mkF m 55 #[.val (.ref x), .val (.ref y), .val (.ref y)] [.int 1])) := Steps.trans g18 (by
          refine XS.ifNo X18.here hexec rfl (hb hbytes d47) rfl (i0_eq_f (by decide)) ?_
          refine iconstV X18.here hexec rfl 1 (hb hbytes d50) (by decide) ?_
          refine XS.goto X18.here hexec rfl (pc0 := 51) rfl (hb hbytes d51) (by decide) rfl ?_
          exact Steps.refl _)
        exact ⟨T18, some (.int 1), _, _, _, X18, rfl, rfl, rfl, (fun h => by cases h), ⟨1, rfl, q18.trans hh16, Or.inl ⟨rfl, iff.mp he⟩⟩, fun fs hl => c19.trans (X18.ireturnOut hexec hret rfl (Or.inr (Or.inl rfl)) (hb hbytes d55) hl)⟩
      · have c19 : Steps p.tables e below (s₁.setTop (entryFrame m #[.ref x, .ref y] 3)) (T18.setTop (mkF m 55 #[.val (.ref x), .val (.ref y), .val (.ref y)] [.int 0])) := Steps.trans g18 (by
          refine XS.ifYes X18.here hexec rfl (pc0 := 47) rfl (hb hbytes d47) rfl (i0_eq_t rfl) (by decide) rfl ?_
          refine iconstV X18.here hexec rfl 0 (hb hbytes d54) (by decide) ?_
          exact Steps.refl _)
        exact ⟨T18, some (.int 0), _, _, _, X18, rfl, rfl, rfl, (fun h => by cases h), ⟨0, rfl, q18.trans hh16, Or.inr ⟨rfl, fun q => he (iff.mpr q)⟩⟩, fun fs hl => c19.trans (X18.ireturnOut hexec hret rfl (Or.inr (Or.inl rfl)) (hb hbytes d55) hl)⟩
    · have c13 : Steps p.tables e below (s₁.setTop (entryFrame m #[.ref x, .ref y] 3)) (T11.setTop (mkF m 55 #[.val (.ref x), .val (.ref y), .val (.ref y)] [.int 0])) := c12.trans (by
        refine XS.icmpYes X11.here hexec rfl (pc0 := 33) rfl (hb hbytes d33) rfl (ii_ne_t hcd) (by decide) rfl ?_
        refine iconstV X11.here hexec rfl 0 (hb hbytes d54) (by decide) ?_
        exact Steps.refl _)
      exact ⟨T11, some (.int 0), _, _, _, X11, rfl, rfl, rfl, (fun h => by cases h), ⟨0, rfl, hh11, Or.inr ⟨rfl, Cod.dif hx.2.2.2.2.1 hy.2.2.2.2.1 hcd⟩⟩, fun fs hl => c13.trans (X11.ireturnOut hexec hret rfl (Or.inr (Or.inl rfl)) (hb hbytes d55) hl)⟩
theorem pays {l : Launch} {R : Room} {p : Program} {e : Env} {below : List Frame} {s : State} {sargs : Array Value} {len W : Nat} (x t : Addr) (V : Cell) (cd : Int32) (n : Nat) (f : Nat → Int32) (y t' : Addr) (V' : Cell) (cd' : Int32) (k : Nat) (g : Nat → Int32) (z : Int32) (htab : tab.before sargs s = true) (hfr : 2 ≤ R.frames) (hlo : W + 28 ≤ R.locals) :
    Back l R p e below s sargs yN len W (fun A₁ a₁ => A₁.cells + 0 ≤ R.cells ∧ A₁.slots + 0 ≤ R.slots ∧ P x t V cd n f y t' V' cd' k g z a₁ A₁.U) (fun A₁ _ v₁ B₁ => Says01 (SameT n f k g) v₁ A₁.U B₁.U ∧ B₁.locs = A₁.locs ++ [] ∧ B₁.cells = A₁.cells + 0 ∧ B₁.slots = A₁.slots + 0) :=
  (law l x t V cd n f y t' V' cd' k g z).pays htab hfr (by omega)
end SEq
end StrChars
namespace StrChars.Road
open Jvm Sem ClassFile Op Lib Jvm.Stand Jvm.Free Jvm.Free.XT
open Jvm.Lib.Cold (StaticIs)
/-- the words of String.equals(Object) -/
abbrev wordsEq : List Jvm.Cond := [.code SEq.yN SEq.yB 3 (some .boolean), .initialized ST, .classLink ST 10 ST, .fieldLink ST 38 ST "COMPACT_STRINGS" "Z", .fieldLink ST 15 ST "coder" "B", .fieldLink ST 9 ST "value" "[B", .methodLink ST 541 LEq.yN, .static LEq.yN, .code LEq.yN LEq.yB 3 (some .boolean), .initialized "java/lang/StringLatin1"]
theorem tabEq_of {a : Array Value} {s : State} (h : ∀ w ∈ wordsEq, w.before a s = true) : SEq.tab.before a s = true := by
  have hl : LEq.tab.before a s = true := unparts (wk h (.code LEq.yN LEq.yB 3 (some .boolean))) (wks h (.initialized LEq.yN.cls :: LEq.site))
  have q := consq hl h
  exact unparts (wk q (.code SEq.yN SEq.yB 3 (some .boolean))) (wks q (.initialized SEq.yN.cls :: SEq.site))
theorem movedEq {Z s : State} {a0 args : Array Value} (hZ : Z.Warmed39 s.vm) (hw : ∀ d ∈ wordsEq, d.before a0 Z = true) : ∀ d ∈ wordsEq, d.before args s = true := fun d hd => by
  have t : ∀ d ∈ wordsEq, (d.onTables && d.keepsFace) = true := by decide +kernel
  exact RoadKit.mv hZ (hw d hd) (t d hd)
/-- the road's facts of a String, as the laws ask it -/
theorem txt_of {Z U : State} {a0 : Array Value} {kI : Nat} (wi : (Jvm.Cond.instantiable ST kI).before a0 Z = true) (al : Z.vm.Alike U.vm) {x t : Addr} {kb : ClassId} {cs : List Int32} {cd N2 : Int32} {vs : List Value} (E : RoadKit.Exa Z U.heap x ST) (V : RoadKit.Fld Z U.heap x ST "value" "[B" (.ref t)) (C : RoadKit.Fld Z U.heap x ST "coder" "B" (.int cd)) (K : RoadKit.Arv Z U.heap t kb .byte N2 vs (.int 0)) (hc : CodA cs cd N2 vs) (hb : ∀ c ∈ cs, ¬ c < 0 ∧ ¬ (65535 : Int32) < c) (l2 : cs.length ≤ 4000) :
    ∃ A, Txt x t A cd cs.length (fun j => cs.getD j 0) U := by
  obtain ⟨A, K1, K2, K3, K4, K5, K6⟩ := K
  have hcod := hc.cod (by omega) K3 K5
  obtain ⟨D, fV, fC, hB, F1, F2, g1, g2, -, -⟩ := strObj wi al E V C
  exact ⟨A, ⟨_, hB.2.2.1, D, hB.1, rfl, by cases q : D.vm <;> first | rfl | exact absurd q (hB.2.1.2 _)⟩, Has.of hB F1 g1, Has.of hB F2 g2, ⟨K1.1, State.isArrayOf_alike al K1.2.1, K1.2.2, by rcases hcod with ⟨-, q, -⟩ | ⟨-, q, -⟩ <;> omega⟩, hcod, fun j hj => by
    have e : cs.getD j 0 = cs[j] := by simp [List.getD_eq_getElem?_getD, hj]
    show ¬ cs.getD j 0 < 0 ∧ ¬ 65535 < cs.getD j 0
    rw [e]; exact hb _ (List.getElem_mem _)⟩
theorem same_list (cs ds : List Int32) : SameT cs.length (fun j => cs.getD j 0) ds.length (fun j => ds.getD j 0) ↔ cs = ds := by
  constructor
  · rintro ⟨e, q⟩
    refine List.ext_getElem e fun j h1 h2 => ?_
    have := q j h1
    simpa [List.getD_eq_getElem?_getD, h1, h2] using this
  · rintro rfl
    exact ⟨rfl, fun _ _ => rfl⟩
/-- **equals(Object) OF TWO SUCH STRINGS**: 1 just where the chars are the same -/
theorem eqW {p : Program} {l : Launch} {e : Env} {R : Room} {s : State} {args : Array Value} {below : List Frame} {len W : Nat} {Z : State} {a0 : Array Value} {h : Heap} (hZ : Z.Warmed39 s.vm) (hw : ∀ d ∈ wordsEq, d.before a0 Z = true) {kI : Nat} (wi : (Jvm.Cond.instantiable ST kI).before a0 Z = true)
    {x t : Addr} {kb : ClassId} {cs : List Int32} {cd N2 : Int32} {vs : List Value} (E : RoadKit.Exa Z h x ST) (V : RoadKit.Fld Z h x ST "value" "[B" (.ref t)) (C : RoadKit.Fld Z h x ST "coder" "B" (.int cd)) (K : RoadKit.Arv Z h t kb .byte N2 vs (.int 0)) (hc : CodA cs cd N2 vs) (hb : ∀ c ∈ cs, ¬ c < 0 ∧ ¬ (65535 : Int32) < c) (l2 : cs.length ≤ 4000)
    {y t' : Addr} {kb' : ClassId} {ds : List Int32} {cd' N2' : Int32} {vs' : List Value} (E' : RoadKit.Exa Z h y ST) (V' : RoadKit.Fld Z h y ST "value" "[B" (.ref t')) (C' : RoadKit.Fld Z h y ST "coder" "B" (.int cd')) (K' : RoadKit.Arv Z h t' kb' .byte N2' vs' (.int 0)) (hc' : CodA ds cd' N2' vs') (hb' : ∀ c ∈ ds, ¬ c < 0 ∧ ¬ (65535 : Int32) < c) (l2' : ds.length ≤ 4000)
    {z : Int32} (S : RoadKit.Sta Z h ST "COMPACT_STRINGS" "Z" (.int z)) (hz : ¬ z = 0) (hfr : 2 ≤ R.frames) (hlo : W + 28 ≤ R.locals) :
    Back l R p e below s args (⟨"java/lang/String", "equals", "(Ljava/lang/Object;)Z"⟩ : MethodName) len W (fun P a => a = #[.ref x, .ref y] ∧ P.U.heap = h ∧ P.cells + 0 ≤ R.cells ∧ P.slots + 0 ≤ R.slots)
      (fun P _ v B => ∃ L, (((v = some (.int 1) ∧ cs = ds) ∨ (v = some (.int 0) ∧ ¬ cs = ds)) ∧ L = [] ∧ B.U.heap = h) ∧ B.locs = P.locs ++ L ∧ B.cells = P.cells + 0 ∧ B.slots = P.slots + 0) := by
  intro m meth c P g ig mk a X hg hsize hdg hW hn hp'
  obtain ⟨rfl, rfl, r1, r2⟩ := hp'
  have al : Z.vm.Alike P.U.vm := hZ.alike.trans X.warmed.alike
  obtain ⟨A, hx⟩ := txt_of wi al E V C K hc hb l2
  obtain ⟨A', hy⟩ := txt_of wi al E' V' C' K' hc' hb' l2'
  obtain ⟨v, B, X', ⟨⟨w, hv, hh, hq⟩, hl, hk, hs⟩, st⟩ := SEq.pays x t A cd cs.length (fun j => cs.getD j 0) y t' A' cd' ds.length (fun j => ds.getD j 0) z (tabEq_of (movedEq hZ hw)) hfr hlo m meth c P g ig mk _ X hg hsize hdg hW hn ⟨r1, r2, rfl, hx, hy, sta_is al S, hz⟩
  refine ⟨v, B, X', ⟨[], ⟨?_, rfl, hh⟩, hl, hk, hs⟩, st⟩
  rcases hq with ⟨rfl, q⟩ | ⟨rfl, q⟩
  · exact Or.inl ⟨hv, (same_list cs ds).mp q⟩
  · exact Or.inr ⟨hv, fun e => q ((same_list cs ds).mpr e)⟩
end StrChars.Road
namespace StrChars
open Jvm Sem ClassFile Op Lib Jvm.Stand Jvm.Free.XT Jvm.Free.ALB Jvm.Free.JM Jvm.Free
open Jvm.Lib.Cold (StaticIs)
namespace ChN
def yN : MethodName := ⟨"java/lang/String", "charAt", "(I)C"⟩
abbrev yB : ByteArray := jdk_42_method_56_code
theorem d0 : decode yB 0 = .ok (.aload_n 0, 1) := by decide +kernel
theorem d1 : decode yB 1 = .ok (.invokevirtual 492, 3) := by decide +kernel
theorem d4 : decode yB 4 = .ok (.ifCond (.eq) 12, 3) := by decide +kernel
theorem d7 : decode yB 7 = .ok (.aload_n 0, 1) := by decide +kernel
theorem d8 : decode yB 8 = .ok (.getfield 9, 3) := by decide +kernel
theorem d11 : decode yB 11 = .ok (.iload_n 1, 1) := by decide +kernel
theorem d12 : decode yB 12 = .ok (.invokestatic 495, 3) := by decide +kernel
theorem d15 : decode yB 15 = .ok (.ireturn, 1) := by decide +kernel
def site : List Cond := [.fieldLink "java/lang/String" 9 "java/lang/String" "value" "[B", IsL.tab, LChA.tab] ++ virtW "java/lang/String" 492 "java/lang/String" IsL.yN IsL.yN ++ staticW "java/lang/String" 495 LChA.yN
def tab : Cond := tabOf yN yB 2 (some .char) site
def P (x t : Addr) (V : Cell) (n : Nat) (f : Nat → Int32) (z : Int32) (fm : Value) (i : Nat) (args : Array Value) (s : State) : Prop := args = #[.ref x, .int (Int32.ofNat i)] ∧ Txt x t V 0 n f s ∧ i < n ∧ StaticIs s "java/lang/String" "COMPACT_STRINGS" "Z" (.int z) ∧ ¬ z = 0 ∧ StaticIs s "jdk/internal/util/Preconditions" "SIOOBE_FORMATTER" "Ljava/util/function/BiFunction;" fm ∧ fm.isRef = true
def E (f : Nat → Int32) (i : Nat) (r : Option Value) (s u : State) : Prop := XT.PureE (some (.int (f i))) r s u
/-- charAt(i) of a Latin-1 String of n chars, i < n: f i -/
theorem law (l : Launch) (x t : Addr) (V : Cell) (n : Nat) (f : Nat → Int32) (z : Int32) (fm : Value) (i : Nat) : Law l yN 2 1 3 40 yB 2 (some .char) site (P x t V n f z fm i) (E f i) [] 0 0 := by
  refine Law.of_walk (plainFor_of_name (by decide +kernel)) (by decide +kernel) (by decide +kernel) (by decide) (fun _ _ h => by rw [h.1]; rfl) (fun _ U U' hal hh h => ⟨h.1, h.2.1.mv hal hh, h.2.2.1, h.2.2.2.1.there hal hh, h.2.2.2.2.1, h.2.2.2.2.2.1.there hal hh, h.2.2.2.2.2.2⟩) (fun r U U' V V' h1 hal h2 h => XT.PureE.mv r U U' V V' h1 hal h2 h) ?_
  intro p e s m args below meth c s₁ X0 hexec hbytes hml hret hlk hnm hown hh0 W hP
  obtain ⟨rfl, hx, hi, s1, hz, s3, rf⟩ := hP
  have v31 := hx.2.2.2.1.2.2.2
  have hr := hx.2.2.2.2.2 i hi
  have hx0 := hx.mv X0.warmed.alike hh0
  have c1 : Steps p.tables e below (s₁.setTop (entryFrame m #[.ref x, .int (Int32.ofNat i)] 2)) (s₁.setTop (mkF m 1 #[.val (.ref x), .val (.int (Int32.ofNat i))] [.ref x])) := Steps.trans (entry rfl) (by
    show Steps p.tables e below (s₁.setTop (mkF m 0 #[.val (.ref x), .val (.int (Int32.ofNat i))] [])) _
    refine XS.aloadN X0.here hexec rfl (hb hbytes d0) rfl rfl ?_
    exact Steps.refl _)
  obtain ⟨v2, T2, X2, E2, g2⟩ := X0.callV hexec (IsL.law l x 0 z) hown (wks W (virtW "java/lang/String" 492 "java/lang/String" IsL.yN IsL.yN)) rfl (by decide) (wk W IsL.tab) (W := 0) (Nat.le_of_ble_eq_true rfl) (Nat.le_of_ble_eq_true rfl) (Nat.le_refl _) (Nat.le_refl _) (hx0.1.fc X0.warmed.alike) hx0.1.is (g := (mkF m 1 #[.val (.ref x), .val (.int (Int32.ofNat i))] [.ref x])) rfl (by rw [hml]; rfl) c1 (argsL := []) (rest := []) rfl rfl (by show 2 * 0 + 0 ≤ _; decide) (hb hbytes d1) (⟨rfl, hx0.2.2.1, hx.2.2.2.2.1.cd, s1.there X0.warmed.alike hh0, hz⟩)
  obtain ⟨rfl, q2⟩ := E2
  have hh2 := q2.trans hh0
  have hx2 := hx.mv X2.warmed.alike hh2
  obtain ⟨-, k1, k2⟩ | ⟨k0, -⟩ := hx.2.2.2.2.1
  · have c3 : Steps p.tables e below (s₁.setTop (entryFrame m #[.ref x, .int (Int32.ofNat i)] 2)) (T2.setTop (mkF m 8 #[.val (.ref x), .val (.int (Int32.ofNat i))] [.ref x])) := Steps.trans g2 (by
      refine XS.ifNo X2.here hexec rfl (hb hbytes d4) rfl (i0_eq_f (by decide)) ?_
      refine XS.aloadN X2.here hexec rfl (hb hbytes d7) rfl rfl ?_
      exact Steps.refl _)
    obtain ⟨T4, X4, q4, st4⟩ := X2.hget hexec hown (wk W (.fieldLink "java/lang/String" 9 "java/lang/String" "value" "[B")) hx2.2.1 (g := (mkF m 8 #[.val (.ref x), .val (.int (Int32.ofNat i))] [.ref x])) rfl (rest := []) rfl (hb hbytes d8)
    have hh4 := q4.trans hh2
    have c5 : Steps p.tables e below (s₁.setTop (entryFrame m #[.ref x, .int (Int32.ofNat i)] 2)) (T4.setTop (mkF m 12 #[.val (.ref x), .val (.int (Int32.ofNat i))] [.int (Int32.ofNat i), .ref t])) := (c3.trans (st4 _ (Steps.refl _))).trans (by
      refine XS.iloadN X4.here hexec rfl (hb hbytes d11) rfl ?_
      exact Steps.refl _)
    obtain ⟨v6, T6, X6, E6, g6⟩ := X4.callS hexec (LChA.law l t V i (lo8 (f i)) fm) hown (wks W (staticW "java/lang/String" 495 LChA.yN)) (wk W LChA.tab) (W := 0) (Nat.le_of_ble_eq_true rfl) (Nat.le_of_ble_eq_true rfl) (Nat.le_refl _) (Nat.le_refl _) (g := (mkF m 12 #[.val (.ref x), .val (.int (Int32.ofNat i))] [.int (Int32.ofNat i), .ref t])) rfl (by rw [hml]; rfl) c5 (argsL := [.ref t, .int (Int32.ofNat i)]) (rest := []) rfl rfl (by show 2 * 0 + 0 ≤ _; decide) (hb hbytes d12) (⟨rfl, hx.2.2.2.1.mv X4.warmed.alike hh4, (k2 i hi).1, s3.there X4.warmed.alike hh4, rf⟩)
    obtain ⟨rfl, q6⟩ := E6
    rw [chr8_lo8 hr.1 (k2 i hi).2] at g6
    exact ⟨T6, some (.int (f i)), _, _, _, X6, rfl, rfl, rfl, (fun h => by cases h), ⟨rfl, q6.trans hh4⟩, fun fs hl => Steps.trans g6 (X6.ireturnOut hexec hret (narrow_ch hr.1 hr.2) (Or.inr (Or.inr (Or.inr (Or.inl rfl)))) (hb hbytes d15) hl)⟩
  · exact absurd k0 (by decide)
theorem pays {l : Launch} {R : Room} {p : Program} {e : Env} {below : List Frame} {s : State} {sargs : Array Value} {len W : Nat} (x t : Addr) (V : Cell) (n : Nat) (f : Nat → Int32) (z : Int32) (fm : Value) (i : Nat) (htab : tab.before sargs s = true) (hfr : 4 ≤ R.frames) (hlo : W + 53 ≤ R.locals) :
    Back l R p e below s sargs yN len W (fun A₁ a₁ => A₁.cells + 0 ≤ R.cells ∧ A₁.slots + 0 ≤ R.slots ∧ P x t V n f z fm i a₁ A₁.U) (fun A₁ _ v₁ B₁ => E f i v₁ A₁.U B₁.U ∧ B₁.locs = A₁.locs ++ [] ∧ B₁.cells = A₁.cells + 0 ∧ B₁.slots = A₁.slots + 0) :=
  (law l x t V n f z fm i).pays htab hfr (by omega)
end ChN
end StrChars
namespace StrChars.Road
open Jvm Sem ClassFile Op Lib Jvm.Stand Jvm.Free Jvm.Free.XT
open Jvm.Lib.Cold (StaticIs)
/-- the words of String.charAt(int), the Latin-1 road alone -/
abbrev wordsChN : List Jvm.Cond := [.code ChN.yN ChN.yB 2 (some .char), .initialized ST, .fieldLink ST 9 ST "value" "[B", .fieldLink ST 38 ST "COMPACT_STRINGS" "Z", .fieldLink ST 15 ST "coder" "B", .code IsL.yN IsL.yB 1 (some .boolean), .methodLink ST 492 IsL.yN, .declares IsL.yN, .selects ST IsL.yN IsL.yN, .instanceMethod IsL.yN,
  .methodLink ST 495 LChA.yN, .static LChA.yN, .code LChA.yN LChA.yB 2 (some .char), .initialized "java/lang/StringLatin1", .methodLink "java/lang/StringLatin1" 9 JO.Str_checkIndex.yN, .static JO.Str_checkIndex.yN, .code JO.Str_checkIndex.yN JO.Str_checkIndex.yB 2 none,
  .fieldLink ST 1053 "jdk/internal/util/Preconditions" "SIOOBE_FORMATTER" "Ljava/util/function/BiFunction;", .methodLink ST 1059 JC.PreCheck.yN, .static JC.PreCheck.yN, .code JC.PreCheck.yN JC.PreCheck.yB 3 (some .int), .initialized "jdk/internal/util/Preconditions"]
theorem tabChN_of {a : Array Value} {s : State} (h : ∀ w ∈ wordsChN, w.before a s = true) : ChN.tab.before a s = true := by
  have hp : JC.PreCheck.tab.before a s = true := unparts (wk h (.code JC.PreCheck.yN JC.PreCheck.yB 3 (some .int))) (wks h (.initialized JC.PreCheck.yN.cls :: JC.PreCheck.site))
  have qk := consq hp h
  have hk : JO.Str_checkIndex.tab.before a s = true := unparts (wk qk (.code JO.Str_checkIndex.yN JO.Str_checkIndex.yB 2 none)) (wks qk (.initialized JO.Str_checkIndex.yN.cls :: JO.Str_checkIndex.site))
  have ql := consq hk h
  have hl : LChA.tab.before a s = true := unparts (wk ql (.code LChA.yN LChA.yB 2 (some .char))) (wks ql (.initialized LChA.yN.cls :: LChA.site))
  have hi : IsL.tab.before a s = true := unparts (wk h (.code IsL.yN IsL.yB 1 (some .boolean))) (wks h (.initialized IsL.yN.cls :: IsL.site))
  have q := consq hi (consq hl h)
  exact unparts (wk q (.code ChN.yN ChN.yB 2 (some .char))) (wks q (.initialized ChN.yN.cls :: ChN.site))
theorem movedChN {Z s : State} {a0 args : Array Value} (hZ : Z.Warmed39 s.vm) (hw : ∀ d ∈ wordsChN, d.before a0 Z = true) : ∀ d ∈ wordsChN, d.before args s = true := fun d hd => by
  have t : ∀ d ∈ wordsChN, (d.onTables && d.keepsFace) = true := by decide +kernel
  exact RoadKit.mv hZ (hw d hd) (t d hd)
/-- **charAt(i) OF A LATIN-1 STRING**, i < n: the char -/
theorem chN {p : Program} {l : Launch} {e : Env} {R : Room} {s : State} {args : Array Value} {below : List Frame} {len W : Nat} {Z : State} {a0 : Array Value} {h : Heap} (hZ : Z.Warmed39 s.vm) (hw : ∀ d ∈ wordsChN, d.before a0 Z = true) {kI : Nat} (wi : (Jvm.Cond.instantiable ST kI).before a0 Z = true)
    {x t : Addr} {kb : ClassId} {cs : List Int32} {N2 z : Int32} {vs : List Value} {fm : Value} {i : Nat} {j : Int32} (E : RoadKit.Exa Z h x ST) (V : RoadKit.Fld Z h x ST "value" "[B" (.ref t)) (C : RoadKit.Fld Z h x ST "coder" "B" (.int 0)) (K : RoadKit.Arv Z h t kb .byte N2 vs (.int 0)) (hc : CodA cs 0 N2 vs) (hb : ∀ c ∈ cs, ¬ c < 0 ∧ ¬ (65535 : Int32) < c)
    (S : RoadKit.Sta Z h ST "COMPACT_STRINGS" "Z" (.int z)) (hz : ¬ z = 0) (F : RoadKit.Sta Z h "jdk/internal/util/Preconditions" "SIOOBE_FORMATTER" "Ljava/util/function/BiFunction;" fm) (rf : fm.isRef = true) (l2 : cs.length ≤ 4000) (hi : i < cs.length) (hj : j = Int32.ofNat i) (hfr : 4 ≤ R.frames) (hlo : W + 53 ≤ R.locals) :
    Back l R p e below s args (⟨"java/lang/String", "charAt", "(I)C"⟩ : MethodName) len W (fun P a => a = #[.ref x, .int j] ∧ P.U.heap = h ∧ P.cells + 0 ≤ R.cells ∧ P.slots + 0 ≤ R.slots)
      (fun P _ v B => ∃ L, (v = some (.int (cs.getD i 0)) ∧ L = [] ∧ B.U.heap = h) ∧ B.locs = P.locs ++ L ∧ B.cells = P.cells + 0 ∧ B.slots = P.slots + 0) := by
  subst hj
  intro m meth c P g ig mk a X hg hsize hdg hW hn hp'
  obtain ⟨rfl, rfl, r1, r2⟩ := hp'
  have al : Z.vm.Alike P.U.vm := hZ.alike.trans X.warmed.alike
  obtain ⟨A, hx⟩ := txt_of wi al E V C K hc hb l2
  obtain ⟨v, B, X', ⟨⟨hv, hh⟩, hl, hk, hs⟩, st⟩ := ChN.pays x t A cs.length (fun j => cs.getD j 0) z fm i (tabChN_of (movedChN hZ hw)) hfr hlo m meth c P g ig mk _ X hg hsize hdg hW hn ⟨r1, r2, rfl, hx, hi, sta_is al S, hz, sta_is al F, rf⟩
  exact ⟨v, B, X', ⟨[], ⟨hv, rfl, hh⟩, hl, hk, hs⟩, st⟩
/-- what backV says of its String, as the contracts of this text ask it: cs's low bytes, coder 0 -/
theorem codOf {cs : List Int32} {n : Nat} (hn : cs.length = n) (hb : ∀ c ∈ cs, ¬ 255 < c) : CodA cs 0 (Int32.ofNat n) ((cs.map lo8).map Value.int) := Or.inl ⟨rfl, by rw [hn], by simp [List.map_map, Function.comp_def], hb⟩
end StrChars.Road
end Jvm.Pilot.@@N@@
namespace Jvm.Pilot.@@N@@
open Jvm Jvm.ClassFile Sem Op Lib Jvm.Free Jvm.Stand Jvm.LawKit Jvm.RoadKit Bundle Jvm.Pilot.@@N@@.Jvm.D
theorem own_b1 {v A K : Int32} (h : v < A) (d : ¬ (K < A)) : v < K := by rw [Int32.lt_iff_toInt_lt] at *; omega
theorem own_b2 {v A K : Int32} (h : v < A) (d : A.toInt ≤ K.toInt + 1) : ¬ (K < v) := by rw [Int32.lt_iff_toInt_lt] at *; omega
theorem own_b3 {v A K : Int32} (h : ¬ (v < A)) (d : ¬ (A < K)) : ¬ (v < K) := by rw [Int32.lt_iff_toInt_lt] at *; omega
theorem own_b4 {v A K : Int32} (h : ¬ (v < A)) (d : K < A) : K < v := by rw [Int32.lt_iff_toInt_lt] at *; omega
theorem own_b5 {v A K : Int32} (h : A < v) (d : K.toInt ≤ A.toInt + 1) : ¬ (v < K) := by rw [Int32.lt_iff_toInt_lt] at *; omega
theorem own_b6 {v A K : Int32} (h : A < v) (d : ¬ (A < K)) : K < v := by rw [Int32.lt_iff_toInt_lt] at *; omega
theorem own_b7 {v A K : Int32} (h : ¬ (A < v)) (d : A < K) : v < K := by rw [Int32.lt_iff_toInt_lt] at *; omega
theorem own_b8 {v A K : Int32} (h : ¬ (A < v)) (d : ¬ (K < A)) : ¬ (K < v) := by rw [Int32.lt_iff_toInt_lt] at *; omega
theorem own_w {Z : State} {a0 : Array Value} (hw : ∀ d ∈ tables_1, d.before a0 Z = true) (i : Nat) {d : Jvm.Cond} (h : tables_1[i]? = some d) : d.before a0 Z = true := hw d (List.mem_of_getElem? h)
theorem own_fldI {args : Array Value} {s : State} {t : Term} {x : Addr} {C n d : String} {k : Int32} (ht : t.eval args s none [] s = some (.ref x)) (h : (Jvm.Cond.eq (.field t C n d) (.int k)).value args s none s [] = some true) : s.fieldOf? x C n d = some (.int k) := by
  obtain ⟨u, v, e1, e2, -, -⟩ := cmp_v (Or.inl h)
  have e3 : (Term.field t C n d).eval args s none [] s = s.fieldOf? x C n d := fld_at ht
  cases (show some (Value.int k) = some v from e2)
  rw [e3] at e1
  cases u <;> simp [Jvm.Cond.value, Term.eval, ht, e1] at h
  rw [e1, h]
theorem own_fldR {args : Array Value} {s : State} {t u : Term} {x y : Addr} {C n d : String} (ht : t.eval args s none [] s = some (.ref x)) (hu : u.eval args s none [] s = some (.ref y)) (h : (Jvm.Cond.eq (.field t C n d) u).value args s none s [] = some true) : s.fieldOf? x C n d = some (.ref y) := by
  obtain ⟨v, w, e1, e2, -, -⟩ := cmp_v (Or.inl h)
  have e3 : (Term.field t C n d).eval args s none [] s = s.fieldOf? x C n d := fld_at ht
  rw [e3] at e1
  cases v <;> simp [Jvm.Cond.value, Term.eval, ht, hu, e1] at h
  rw [e1, h]
theorem own_lat (x : Int32) : ¬ (x &&& (255 : Int32)) < 0 ∧ ¬ (255 : Int32) < (x &&& (255 : Int32)) := by
  have h := c_and x 255 (by decide)
  have e0 : (0 : Int32).toInt = 0 := by decide
  have e1 : (255 : Int32).toInt = 255 := by decide
  rw [e1] at h
  rw [Int32.lt_iff_toInt_lt, Int32.lt_iff_toInt_lt, e0, e1]
  omega
theorem own_up {cs : List Int32} (h : ∀ c ∈ cs, ¬ c < 0 ∧ ¬ (255 : Int32) < c) : ∀ c ∈ cs, ¬ c < 0 ∧ ¬ (65535 : Int32) < c := fun c hc => ⟨(h c hc).1, fun q => (h c hc).2 (by
  have e1 : (255 : Int32).toInt = 255 := by decide
  have e2 : (65535 : Int32).toInt = 65535 := by decide
  rw [Int32.lt_iff_toInt_lt] at q ⊢
  omega)⟩
theorem own_nar {x : Int32} (h : ¬ (x < (0 : Int32)) ∧ ¬ ((255 : Int32) < x)) : x.toUInt32.toUInt16.toUInt32.toInt32 = x := by
  have e1 : (255 : Int32).toInt = 255 := by decide
  have e0 : (0 : Int32).toInt = 0 := by decide
  have h1 := h.1
  have h2 := h.2
  rw [Int32.lt_iff_toInt_lt] at h1 h2
  have e : x = x &&& (255 : Int32) := by
    apply Int32.toInt_inj.mp
    have q := c_mask x 255 8 (by decide) (by decide)
    have q2 : ((2 ^ 8 : Nat) : Int) = 256 := by decide
    rw [q, q2]; omega
  rw [e]; exact i2c_mask x
theorem own_words : ∀ d ∈ StrChars.Road.words, d ∈ tables_1 := by decide +kernel
theorem own_wordsLen : ∀ d ∈ StrChars.Road.wordsLen, d ∈ tables_1 := by decide +kernel
theorem own_wordsChN : ∀ d ∈ StrChars.Road.wordsChN, d ∈ tables_1 := by decide +kernel
theorem own_wordsEq : ∀ d ∈ StrChars.Road.wordsEq, d ∈ tables_1 := by decide +kernel
section OwnS
variable {p : Program} {l : Launch} {e : Env} {R : Room} {s : State} {args : Array Value} {below : List Frame} {Z : State} {a0 : Array Value} {EL : List (String × Nat)} {h : Heap} {vm0 : Vm}
theorem own_backS {y : MethodName} {bytes : ByteArray} {maxL : Nat} {ret : Option FieldType} {rm : Room} {len W : Nat} {as' : Array Value} {Q : Option Value → Heap → List Loc → Prop} {xs : List Addr}
    (hM : MetFree l y (head1 [Jvm.Cond.code y bytes maxL ret] rm) (fun a U => a = as' ∧ Z.Warmed39 U.vm ∧ U.heap = h ∧ CHv Z EL U.vm h ∧ ∀ x ∈ xs, Safe Z EL U.vm h x) (fun _ _ _ _ _ => True) (fun _ U o U' => ∃ v L, o = .returned v ∧ Q v U'.heap L ∧ CHr Z EL U.vm U.heap U'.vm U'.heap ∧ ReturnedEndW U o U' L rm.cells rm.slots))
    (hZ : Z.Warmed39 vm0) (wc : (Jvm.Cond.code y bytes maxL ret).before a0 Z = true) (wz : (Jvm.Cond.initialized y.cls).before a0 Z = true) (hf : rm.frames + 1 ≤ R.frames) (hl : W + (maxL + 11) + rm.locals ≤ R.locals) (hEL : EW Z a0 EL) (H : CHv Z EL vm0 h) (hxs : ∀ x ∈ xs, x < h.size ∧ Safe Z EL vm0 h x) :
    BackS l R p e below (s.setVm vm0) args y len W (fun A a => a = as' ∧ A.U.heap = h ∧ A.cells + rm.cells ≤ R.cells ∧ A.slots + rm.slots ≤ R.slots)
      (fun A _ v B => ∃ L, Q v B.U.heap L ∧ B.locs = A.locs ++ L ∧ B.cells = A.cells + rm.cells ∧ B.slots = A.slots + rm.slots ∧ CHr Z EL vm0 h B.U.vm B.U.heap) := by
  refine BackS.of_freeW (bytes := bytes) (maxL := maxL) (ret := ret) (E := fun _ first o t L k n => k = rm.cells ∧ n = rm.slots ∧ (∃ v, o = .returned v ∧ Q v t.heap L) ∧ CHr Z EL first.vm first.heap t.vm t.heap) hM hf hl ?_ ?_ (fun _ _ _ _ _ _ _ _ _ => trivial) ?_ ?_
  · intro m meth c A a Y hp
    have hU : Z.Warmed39 A.U.vm := wtrans (s := s.setVm vm0) hZ Y.warmed
    refine ⟨?_, mv hU wc, mv hU wz, hp.2.2.1, hp.2.2.2⟩
    show (Jvm.Cond.and _ .tt).before a A.U = true
    rw [Cond.before_and, mv hU wc]; rfl
  · intro m meth c A a g mk Y hp
    have C := CHv.at Y hZ hEL H
    exact ⟨hp.1, wtrans (s := s.setVm vm0) hZ Y.warmed, hp.2.1, C.1, fun x hx => C.safe (hxs x hx).1 (hxs x hx).2⟩
  · rintro _ _ _ _ ⟨v, L, h1, h2, h3, h4⟩
    exact ⟨L, _, _, h4, rfl, rfl, ⟨v, h1, h2⟩, h3⟩
  · rintro m meth c A a g mk v t L k n Y hp - - ⟨e1, e2, ⟨v', e3, e4⟩, e5⟩
    cases e3; subst e1 e2
    refine ⟨L, e4, rfl, rfl, rfl, (CHv.at Y hZ hEL H).trans ?_⟩
    rw [← hp.2.1]; exact e5
end OwnS
def own_EL : List (String × Nat) := [("com/example/logtide/logtide/event/TemporalText", 128), ("com/example/logtide/logtide/event/TemporalText", 134), ("com/example/logtide/logtide/event/TemporalTextIsInfinitePinLaw", 8), ("com/example/logtide/logtide/event/TemporalTextIsInfinitePinLaw", 10)]
theorem own_atoms : ∀ d ∈ Bundle.stringAtoms, d ∈ tables_1 := by decide +kernel
theorem own_EWof {Z : State} {a0 : Array Value} (hw : ∀ d ∈ tables_1, d.before a0 Z = true) : EW Z a0 own_EL := (EW.cons (own_w hw 77 rfl) (by decide) (EW.cons (own_w hw 87 rfl) (by decide) (EW.cons (own_w hw 1 rfl) (by decide) (EW.cons (own_w hw 88 rfl) (by decide) EW.nil))))
theorem own_sub : ∀ p ∈ own_EL, p ∈ consts_1 := by decide +kernel
theorem d0_0 : decode method_3_code 0 = .ok (.iload_n 1, 1) := by decide +kernel
theorem d0_1 : decode method_3_code 1 = .ok (.aload_n 0, 1) := by decide +kernel
theorem d0_2 : decode method_3_code 2 = .ok (.invokevirtual 33, 3) := by decide +kernel
theorem pd_0 : parseMethodDescriptor "()I" = some ⟨[], some .int⟩ := by decide +kernel
theorem d0_5 : decode method_3_code 5 = .ok (.if_icmp .ge 11, 3) := by decide +kernel
theorem d0_8 : decode method_3_code 8 = .ok (.aload_n 0, 1) := by decide +kernel
theorem d0_9 : decode method_3_code 9 = .ok (.iload_n 1, 1) := by decide +kernel
theorem d0_10 : decode method_3_code 10 = .ok (.invokevirtual 37, 3) := by decide +kernel
theorem pd_1 : parseMethodDescriptor "(I)C" = some ⟨[.int], some .char⟩ := by decide +kernel
theorem d0_13 : decode method_3_code 13 = .ok (.goto 4, 3) := by decide +kernel
theorem d0_17 : decode method_3_code 17 = .ok (.ireturn, 1) := by decide +kernel
theorem pn_0 : plainName "com/example/logtide/logtide/event/TemporalTextIsInfinitePinLaw" = true := by first | (simp [plainName, overriddenIn]; done) | decide +kernel
theorem ef_rm_at8_0 (m : MethodId) (x0 : Addr) (x1 : Int32) (x2 : Int32) : entryFrame m #[(.ref x0), (.int x1), (.int x2)] 3 = mkF m 0 #[.val (.ref x0), .val (.int x1), .val (.int x2)] [] := by first | (simp [entryFrame, mkF, argsToLocals, Value.category]; done) | rfl
def Q_rm_at8_0 (Z : State) (x : Addr) (tx : Addr) (kx : ClassId) (f : Int32) (zc : Int32) (fm : Value) (h0 : Heap) (n0 : Nat) (v : Option Value) (h : Heap) (L : List Loc) : Prop := ((v = some (.int (105 : Int32))) ∧ (Fr n0 L) ∧ (h = h0))
set_option maxRecDepth 65536 in
set_option maxHeartbeats 40000000 in
theorem rm_at8_0 (l : Launch) (Z : State) (a0 : Array Value) (hw : ∀ d ∈ tables_1, d.before a0 Z = true) (ws : List Jvm.Cond) (x : Addr) (tx : Addr) (kx : ClassId) (f : Int32) (zc : Int32) (fm : Value) (h0 : Heap) (n0 : Nat) (O0 : Old Z n0 h0) (E_x : Exa Z h0 x "java/lang/String") (V_x : Fld Z h0 x "java/lang/String" "value" "[B" (.ref tx)) (C_x : Fld Z h0 x "java/lang/String" "coder" "B" (.int (0 : Int32))) (K_x : Arv Z h0 tx kx .byte (8 : Int32) [(.int (105 : Int32).toInt8.toInt32), (.int (110 : Int32).toInt8.toInt32), (.int (102 : Int32).toInt8.toInt32), (.int (105 : Int32).toInt8.toInt32), (.int (110 : Int32).toInt8.toInt32), (.int (105 : Int32).toInt8.toInt32), (.int (116 : Int32).toInt8.toInt32), (.int (121 : Int32).toInt8.toInt32)] (.int (0 : Int32))) (la_f : ¬ (f < (0 : Int32)) ∧ ¬ ((255 : Int32) < f)) (S_C : Sta Z Z.heap "java/lang/String" "COMPACT_STRINGS" "Z" (.int zc)) (hzc : ¬ (zc = (0 : Int32))) (S_F : Sta Z Z.heap "jdk/internal/util/Preconditions" "SIOOBE_FORMATTER" "Ljava/util/function/BiFunction;" fm) (hfm : fm.isRef = true) :
    MetFree l (⟨"com/example/logtide/logtide/event/TemporalTextIsInfinitePinLaw", "at", "(Ljava/lang/String;IC)C"⟩ : MethodName) (head1 (Jvm.Cond.code (⟨"com/example/logtide/logtide/event/TemporalTextIsInfinitePinLaw", "at", "(Ljava/lang/String;IC)C"⟩ : MethodName) method_3_code 3 (some .char) :: ws) ({ frames := 4, cells := 0, slots := 0, locals := 53 } : Room)) (fun a U => a = #[(.ref x), (.int (0 : Int32)), (.int f)] ∧ Z.Warmed39 U.vm ∧ U.heap = h0) (fun _ _ _ _ _ => True) (fun _ U o U' => ∃ v L, o = .returned v ∧ Q_rm_at8_0 Z x tx kx f zc fm h0 n0 v U'.heap L ∧ FrameEnd U o U' L ({ frames := 4, cells := 0, slots := 0, locals := 53 } : Room).cells ({ frames := 4, cells := 0, slots := 0, locals := 53 } : Room).slots) := by
  refine MetFree.of_bodySF (plainFor_of_name pn_0) hisR ?_
  intro p e s m args below meth c s₁ Bd hml0 hP hK
  obtain ⟨rfl, hZ, hh⟩ := hP
  have hx := Bd.exec
  have hby := Bd.bytes
  have hml : c.maxLocals = 3 := hml0
  have hown : s.vm.findClass "com/example/logtide/logtide/event/TemporalTextIsInfinitePinLaw" = some m.cls := findClass_of_methodNamed Bd.named
  have hnm := (name_of_methodNamed Bd.named Bd.method).1
  have X0 : Stand p l e ({ frames := 4, cells := 0, slots := 0, locals := 53 } : Room) s m #[(.ref x), (.int (0 : Int32)), (.int f)] below meth c s₁ [] 0 0 := Stand.of_body Bd
  have e0 : s₁.heap = h0 := by rw [← hh, Bd.state]; rfl
  have N0 := Fr.nil n0
  have hwl : ∀ d ∈ StrChars.Road.wordsLen, d.before a0 Z = true := fun d hd => hw d (own_wordsLen d hd)
  have hwc : ∀ d ∈ StrChars.Road.wordsChN, d.before a0 Z = true := fun d hd => hw d (own_wordsChN d hd)
  have hwq : ∀ d ∈ StrChars.Road.wordsEq, d.before a0 Z = true := fun d hd => hw d (own_wordsEq d hd)
  have hws : ∀ d ∈ StrChars.Road.words, d.before a0 Z = true := fun d hd => hw d (own_words d hd)
  have pre0 : ∀ t, Steps p.tables e below (s₁.setTop (mkF m 0 #[.val (.ref x), .val (.int (0 : Int32)), .val (.int f)] [])) t → Steps p.tables e below (s₁.setTop (entryFrame m #[(.ref x), (.int (0 : Int32)), (.int f)] 3)) t := fun t k => castTop (ef_rm_at8_0 m x (0 : Int32) f) k
  have la2 : ∀ c ∈ ([(105 : Int32), (110 : Int32), (102 : Int32), (105 : Int32), (110 : Int32), (105 : Int32), (116 : Int32), (121 : Int32)] : List Int32), ¬ c < 0 ∧ ¬ (255 : Int32) < c := by
    intro c hc
    simp only [List.mem_cons, List.not_mem_nil, or_false] at hc
    rcases hc with rfl | rfl | rfl | rfl | rfl | rfl | rfl | rfl
    · exact ⟨by decide, by decide⟩
    · exact ⟨by decide, by decide⟩
    · exact ⟨by decide, by decide⟩
    · exact ⟨by decide, by decide⟩
    · exact ⟨by decide, by decide⟩
    · exact ⟨by decide, by decide⟩
    · exact ⟨by decide, by decide⟩
    · exact ⟨by decide, by decide⟩
  have cd2 : StrChars.Road.CodA ([(105 : Int32), (110 : Int32), (102 : Int32), (105 : Int32), (110 : Int32), (105 : Int32), (116 : Int32), (121 : Int32)] : List Int32) 0 (8 : Int32) [(.int (105 : Int32).toInt8.toInt32), (.int (110 : Int32).toInt8.toInt32), (.int (102 : Int32).toInt8.toInt32), (.int (105 : Int32).toInt8.toInt32), (.int (110 : Int32).toInt8.toInt32), (.int (105 : Int32).toInt8.toInt32), (.int (116 : Int32).toInt8.toInt32), (.int (121 : Int32).toInt8.toInt32)] := StrChars.Road.codOf (n := 8) rfl (fun x hx => (la2 x hx).2)
  have bd2 := own_up la2
  obtain ⟨cq1, kq1, q1a, q1b, q1c⟩ := isOf hZ e0 E_x
  obtain ⟨_, _, ⟨T1, L1, k1, n1⟩, -, X1, ⟨Lc1, hQ1, l1, y1, z1⟩, st1⟩ := X0.virtualBack hx (y := (⟨"java/lang/String", "length", "()I"⟩ : MethodName)) (z := (⟨"java/lang/String", "length", "()I"⟩ : MethodName)) hown (mvT hZ (own_w hw 14 rfl)) (mvT hZ (own_w hw 15 rfl)) (notFace_of_selects (args := #[]) (mvT hZ (own_w hw 17 rfl))) (mvT hZ (own_w hw 17 rfl)) (mvT hZ (own_w hw 16 rfl)) (by decide) (StrChars.Road.lenW (W := 1) hZ hwl (kI := 4) (own_w hw 3 rfl) (cs := [(105 : Int32), (110 : Int32), (102 : Int32), (105 : Int32), (110 : Int32), (105 : Int32), (116 : Int32), (121 : Int32)]) E_x V_x C_x K_x cd2 bd2 (S_C.ext O0.2) hzc (by show 8 ≤ 4000; decide) (by decide) (by decide)) q1a q1c (g := (mkF m 2 #[.val (.ref x), .val (.int (0 : Int32)), .val (.int f)] [(.ref x), (.int (0 : Int32))])) rfl (by rw [hml]; rfl) (Steps.refl _) (argsL := []) (rest := [(.int (0 : Int32))]) (lenOf pd_0 rfl) rfl (by show 2 * 0 + _ ≤ _; exact Nat.le_of_eq rfl) (hb hby d0_2) (fun _ _ => ⟨rfl, e0, (by decide : 0 + 0 ≤ _), (by decide : 0 + 0 ≤ _)⟩)
  dsimp only [Pt.U, Pt.locs, Pt.cells, Pt.slots] at X1 l1 y1 z1 st1 hQ1
  subst l1 y1 z1
  obtain ⟨rfl, rfl, k3⟩ := hQ1
  have N4 := Fr.app N0 (Fr.nil n0)
  obtain ⟨cq5, kq5, q5a, q5b, q5c⟩ := isOf hZ k3 E_x
  obtain ⟨_, _, ⟨T5, L5, k5, n5⟩, -, X5, ⟨Lc5, hQ5, l5, y5, z5⟩, st5⟩ := X1.virtualBack hx (y := (⟨"java/lang/String", "charAt", "(I)C"⟩ : MethodName)) (z := (⟨"java/lang/String", "charAt", "(I)C"⟩ : MethodName)) hown (mvT hZ (own_w hw 27 rfl)) (mvT hZ (own_w hw 28 rfl)) (notFace_of_selects (args := #[]) (mvT hZ (own_w hw 30 rfl))) (mvT hZ (own_w hw 30 rfl)) (mvT hZ (own_w hw 29 rfl)) (by decide) (StrChars.Road.chN (W := 0) hZ hwc (kI := 4) (own_w hw 3 rfl) (cs := [(105 : Int32), (110 : Int32), (102 : Int32), (105 : Int32), (110 : Int32), (105 : Int32), (116 : Int32), (121 : Int32)]) (i := 0) (j := (0 : Int32)) E_x V_x C_x K_x cd2 bd2 (S_C.ext O0.2) hzc (S_F.ext O0.2) hfm (by show 8 ≤ 4000; decide) (by show 0 < 8; decide) rfl (by decide) (by decide)) q5a q5c (g := (mkF m 10 #[.val (.ref x), .val (.int (0 : Int32)), .val (.int f)] [(.int (0 : Int32)), (.ref x)])) rfl (by rw [hml]; rfl) (Steps.refl _) (argsL := [(.int (0 : Int32))]) (rest := []) (lenOf pd_1 rfl) rfl (by show 2 * 0 + _ ≤ _; exact Nat.le_of_eq rfl) (hb hby d0_10) (fun _ _ => ⟨rfl, k3, (by decide : 0 + 0 ≤ _), (by decide : 0 + 0 ≤ _)⟩)
  dsimp only [Pt.U, Pt.locs, Pt.cells, Pt.slots] at X5 l5 y5 z5 st5 hQ5
  subst l5 y5 z5
  obtain ⟨rfl, rfl, k6⟩ := hQ5
  have N7 := Fr.app N4 (Fr.nil n0)
  have S8 : ∀ t, Steps p.tables e below (T5.setTop (mkF m 17 #[.val (.ref x), .val (.int (0 : Int32)), .val (.int f)] [(.int (105 : Int32))])) t → Steps p.tables e below (s₁.setTop (mkF m 0 #[.val (.ref x), .val (.int (0 : Int32)), .val (.int f)] [])) t := by
    intro t kt
    refine XS.iloadN X0.here hx rfl (hb hby d0_0) rfl ?_
    refine XS.aloadN X0.here hx rfl (hb hby d0_1) rfl rfl ?_
    show Steps p.tables e below (s₁.setTop (mkF m 2 #[.val (.ref x), .val (.int (0 : Int32)), .val (.int f)] [(.ref x), (.int (0 : Int32))])) _
    refine st1.trans ?_
    refine XS.icmpNo X1.here hx rfl (hb hby d0_5) rfl (tlt ((by decide) : (0 : Int32) < (8 : Int32))).2.1 ?_
    refine XS.aloadN X1.here hx rfl (hb hby d0_8) rfl rfl ?_
    refine XS.iloadN X1.here hx rfl (hb hby d0_9) rfl ?_
    show Steps p.tables e below (T1.setTop (mkF m 10 #[.val (.ref x), .val (.int (0 : Int32)), .val (.int f)] [(.int (0 : Int32)), (.ref x)])) _
    refine st5.trans ?_
    refine XS.goto X5.here hx rfl (pc0 := 13) (pc' := 17) rfl (hb hby d0_13) (by decide) (by decide) ?_
    exact kt
  obtain ⟨fs, hr, hrun, hended, hW, hsame⟩ := X5.leave (v := some (.int (105 : Int32))) (fun h => by rw [Bd.returns] at h; cases h)
  refine ⟨_, _, pre0 _ (S8 _ ?_), hrun, hended, _, _, rfl, ?_, ⟨_, rfl⟩, hW, hsame.mono (by decide) (by decide)⟩
  · exact retN X5 hx (t := .char) Bd.returns (by simp) (hb hby d0_17) hr
  · show Q_rm_at8_0 Z x tx kx f zc fm h0 n0 _ T5.heap _
    rw [k6]
    exact ⟨rfl, N7, rfl⟩
theorem ef_rm_at8_1 (m : MethodId) (x0 : Addr) (x1 : Int32) (x2 : Int32) : entryFrame m #[(.ref x0), (.int x1), (.int x2)] 3 = mkF m 0 #[.val (.ref x0), .val (.int x1), .val (.int x2)] [] := by first | (simp [entryFrame, mkF, argsToLocals, Value.category]; done) | rfl
def Q_rm_at8_1 (Z : State) (x : Addr) (tx : Addr) (kx : ClassId) (f : Int32) (zc : Int32) (fm : Value) (h0 : Heap) (n0 : Nat) (v : Option Value) (h : Heap) (L : List Loc) : Prop := ((v = some (.int (110 : Int32))) ∧ (Fr n0 L) ∧ (h = h0))
set_option maxRecDepth 65536 in
set_option maxHeartbeats 40000000 in
theorem rm_at8_1 (l : Launch) (Z : State) (a0 : Array Value) (hw : ∀ d ∈ tables_1, d.before a0 Z = true) (ws : List Jvm.Cond) (x : Addr) (tx : Addr) (kx : ClassId) (f : Int32) (zc : Int32) (fm : Value) (h0 : Heap) (n0 : Nat) (O0 : Old Z n0 h0) (E_x : Exa Z h0 x "java/lang/String") (V_x : Fld Z h0 x "java/lang/String" "value" "[B" (.ref tx)) (C_x : Fld Z h0 x "java/lang/String" "coder" "B" (.int (0 : Int32))) (K_x : Arv Z h0 tx kx .byte (8 : Int32) [(.int (105 : Int32).toInt8.toInt32), (.int (110 : Int32).toInt8.toInt32), (.int (102 : Int32).toInt8.toInt32), (.int (105 : Int32).toInt8.toInt32), (.int (110 : Int32).toInt8.toInt32), (.int (105 : Int32).toInt8.toInt32), (.int (116 : Int32).toInt8.toInt32), (.int (121 : Int32).toInt8.toInt32)] (.int (0 : Int32))) (la_f : ¬ (f < (0 : Int32)) ∧ ¬ ((255 : Int32) < f)) (S_C : Sta Z Z.heap "java/lang/String" "COMPACT_STRINGS" "Z" (.int zc)) (hzc : ¬ (zc = (0 : Int32))) (S_F : Sta Z Z.heap "jdk/internal/util/Preconditions" "SIOOBE_FORMATTER" "Ljava/util/function/BiFunction;" fm) (hfm : fm.isRef = true) :
    MetFree l (⟨"com/example/logtide/logtide/event/TemporalTextIsInfinitePinLaw", "at", "(Ljava/lang/String;IC)C"⟩ : MethodName) (head1 (Jvm.Cond.code (⟨"com/example/logtide/logtide/event/TemporalTextIsInfinitePinLaw", "at", "(Ljava/lang/String;IC)C"⟩ : MethodName) method_3_code 3 (some .char) :: ws) ({ frames := 4, cells := 0, slots := 0, locals := 53 } : Room)) (fun a U => a = #[(.ref x), (.int (1 : Int32)), (.int f)] ∧ Z.Warmed39 U.vm ∧ U.heap = h0) (fun _ _ _ _ _ => True) (fun _ U o U' => ∃ v L, o = .returned v ∧ Q_rm_at8_1 Z x tx kx f zc fm h0 n0 v U'.heap L ∧ FrameEnd U o U' L ({ frames := 4, cells := 0, slots := 0, locals := 53 } : Room).cells ({ frames := 4, cells := 0, slots := 0, locals := 53 } : Room).slots) := by
  refine MetFree.of_bodySF (plainFor_of_name pn_0) hisR ?_
  intro p e s m args below meth c s₁ Bd hml0 hP hK
  obtain ⟨rfl, hZ, hh⟩ := hP
  have hx := Bd.exec
  have hby := Bd.bytes
  have hml : c.maxLocals = 3 := hml0
  have hown : s.vm.findClass "com/example/logtide/logtide/event/TemporalTextIsInfinitePinLaw" = some m.cls := findClass_of_methodNamed Bd.named
  have hnm := (name_of_methodNamed Bd.named Bd.method).1
  have X0 : Stand p l e ({ frames := 4, cells := 0, slots := 0, locals := 53 } : Room) s m #[(.ref x), (.int (1 : Int32)), (.int f)] below meth c s₁ [] 0 0 := Stand.of_body Bd
  have e0 : s₁.heap = h0 := by rw [← hh, Bd.state]; rfl
  have N0 := Fr.nil n0
  have hwl : ∀ d ∈ StrChars.Road.wordsLen, d.before a0 Z = true := fun d hd => hw d (own_wordsLen d hd)
  have hwc : ∀ d ∈ StrChars.Road.wordsChN, d.before a0 Z = true := fun d hd => hw d (own_wordsChN d hd)
  have hwq : ∀ d ∈ StrChars.Road.wordsEq, d.before a0 Z = true := fun d hd => hw d (own_wordsEq d hd)
  have hws : ∀ d ∈ StrChars.Road.words, d.before a0 Z = true := fun d hd => hw d (own_words d hd)
  have pre0 : ∀ t, Steps p.tables e below (s₁.setTop (mkF m 0 #[.val (.ref x), .val (.int (1 : Int32)), .val (.int f)] [])) t → Steps p.tables e below (s₁.setTop (entryFrame m #[(.ref x), (.int (1 : Int32)), (.int f)] 3)) t := fun t k => castTop (ef_rm_at8_1 m x (1 : Int32) f) k
  have la2 : ∀ c ∈ ([(105 : Int32), (110 : Int32), (102 : Int32), (105 : Int32), (110 : Int32), (105 : Int32), (116 : Int32), (121 : Int32)] : List Int32), ¬ c < 0 ∧ ¬ (255 : Int32) < c := by
    intro c hc
    simp only [List.mem_cons, List.not_mem_nil, or_false] at hc
    rcases hc with rfl | rfl | rfl | rfl | rfl | rfl | rfl | rfl
    · exact ⟨by decide, by decide⟩
    · exact ⟨by decide, by decide⟩
    · exact ⟨by decide, by decide⟩
    · exact ⟨by decide, by decide⟩
    · exact ⟨by decide, by decide⟩
    · exact ⟨by decide, by decide⟩
    · exact ⟨by decide, by decide⟩
    · exact ⟨by decide, by decide⟩
  have cd2 : StrChars.Road.CodA ([(105 : Int32), (110 : Int32), (102 : Int32), (105 : Int32), (110 : Int32), (105 : Int32), (116 : Int32), (121 : Int32)] : List Int32) 0 (8 : Int32) [(.int (105 : Int32).toInt8.toInt32), (.int (110 : Int32).toInt8.toInt32), (.int (102 : Int32).toInt8.toInt32), (.int (105 : Int32).toInt8.toInt32), (.int (110 : Int32).toInt8.toInt32), (.int (105 : Int32).toInt8.toInt32), (.int (116 : Int32).toInt8.toInt32), (.int (121 : Int32).toInt8.toInt32)] := StrChars.Road.codOf (n := 8) rfl (fun x hx => (la2 x hx).2)
  have bd2 := own_up la2
  obtain ⟨cq1, kq1, q1a, q1b, q1c⟩ := isOf hZ e0 E_x
  obtain ⟨_, _, ⟨T1, L1, k1, n1⟩, -, X1, ⟨Lc1, hQ1, l1, y1, z1⟩, st1⟩ := X0.virtualBack hx (y := (⟨"java/lang/String", "length", "()I"⟩ : MethodName)) (z := (⟨"java/lang/String", "length", "()I"⟩ : MethodName)) hown (mvT hZ (own_w hw 14 rfl)) (mvT hZ (own_w hw 15 rfl)) (notFace_of_selects (args := #[]) (mvT hZ (own_w hw 17 rfl))) (mvT hZ (own_w hw 17 rfl)) (mvT hZ (own_w hw 16 rfl)) (by decide) (StrChars.Road.lenW (W := 1) hZ hwl (kI := 4) (own_w hw 3 rfl) (cs := [(105 : Int32), (110 : Int32), (102 : Int32), (105 : Int32), (110 : Int32), (105 : Int32), (116 : Int32), (121 : Int32)]) E_x V_x C_x K_x cd2 bd2 (S_C.ext O0.2) hzc (by show 8 ≤ 4000; decide) (by decide) (by decide)) q1a q1c (g := (mkF m 2 #[.val (.ref x), .val (.int (1 : Int32)), .val (.int f)] [(.ref x), (.int (1 : Int32))])) rfl (by rw [hml]; rfl) (Steps.refl _) (argsL := []) (rest := [(.int (1 : Int32))]) (lenOf pd_0 rfl) rfl (by show 2 * 0 + _ ≤ _; exact Nat.le_of_eq rfl) (hb hby d0_2) (fun _ _ => ⟨rfl, e0, (by decide : 0 + 0 ≤ _), (by decide : 0 + 0 ≤ _)⟩)
  dsimp only [Pt.U, Pt.locs, Pt.cells, Pt.slots] at X1 l1 y1 z1 st1 hQ1
  subst l1 y1 z1
  obtain ⟨rfl, rfl, k3⟩ := hQ1
  have N4 := Fr.app N0 (Fr.nil n0)
  obtain ⟨cq5, kq5, q5a, q5b, q5c⟩ := isOf hZ k3 E_x
  obtain ⟨_, _, ⟨T5, L5, k5, n5⟩, -, X5, ⟨Lc5, hQ5, l5, y5, z5⟩, st5⟩ := X1.virtualBack hx (y := (⟨"java/lang/String", "charAt", "(I)C"⟩ : MethodName)) (z := (⟨"java/lang/String", "charAt", "(I)C"⟩ : MethodName)) hown (mvT hZ (own_w hw 27 rfl)) (mvT hZ (own_w hw 28 rfl)) (notFace_of_selects (args := #[]) (mvT hZ (own_w hw 30 rfl))) (mvT hZ (own_w hw 30 rfl)) (mvT hZ (own_w hw 29 rfl)) (by decide) (StrChars.Road.chN (W := 0) hZ hwc (kI := 4) (own_w hw 3 rfl) (cs := [(105 : Int32), (110 : Int32), (102 : Int32), (105 : Int32), (110 : Int32), (105 : Int32), (116 : Int32), (121 : Int32)]) (i := 1) (j := (1 : Int32)) E_x V_x C_x K_x cd2 bd2 (S_C.ext O0.2) hzc (S_F.ext O0.2) hfm (by show 8 ≤ 4000; decide) (by show 1 < 8; decide) rfl (by decide) (by decide)) q5a q5c (g := (mkF m 10 #[.val (.ref x), .val (.int (1 : Int32)), .val (.int f)] [(.int (1 : Int32)), (.ref x)])) rfl (by rw [hml]; rfl) (Steps.refl _) (argsL := [(.int (1 : Int32))]) (rest := []) (lenOf pd_1 rfl) rfl (by show 2 * 0 + _ ≤ _; exact Nat.le_of_eq rfl) (hb hby d0_10) (fun _ _ => ⟨rfl, k3, (by decide : 0 + 0 ≤ _), (by decide : 0 + 0 ≤ _)⟩)
  dsimp only [Pt.U, Pt.locs, Pt.cells, Pt.slots] at X5 l5 y5 z5 st5 hQ5
  subst l5 y5 z5
  obtain ⟨rfl, rfl, k6⟩ := hQ5
  have N7 := Fr.app N4 (Fr.nil n0)
  have S8 : ∀ t, Steps p.tables e below (T5.setTop (mkF m 17 #[.val (.ref x), .val (.int (1 : Int32)), .val (.int f)] [(.int (110 : Int32))])) t → Steps p.tables e below (s₁.setTop (mkF m 0 #[.val (.ref x), .val (.int (1 : Int32)), .val (.int f)] [])) t := by
    intro t kt
    refine XS.iloadN X0.here hx rfl (hb hby d0_0) rfl ?_
    refine XS.aloadN X0.here hx rfl (hb hby d0_1) rfl rfl ?_
    show Steps p.tables e below (s₁.setTop (mkF m 2 #[.val (.ref x), .val (.int (1 : Int32)), .val (.int f)] [(.ref x), (.int (1 : Int32))])) _
    refine st1.trans ?_
    refine XS.icmpNo X1.here hx rfl (hb hby d0_5) rfl (tlt ((by decide) : (1 : Int32) < (8 : Int32))).2.1 ?_
    refine XS.aloadN X1.here hx rfl (hb hby d0_8) rfl rfl ?_
    refine XS.iloadN X1.here hx rfl (hb hby d0_9) rfl ?_
    show Steps p.tables e below (T1.setTop (mkF m 10 #[.val (.ref x), .val (.int (1 : Int32)), .val (.int f)] [(.int (1 : Int32)), (.ref x)])) _
    refine st5.trans ?_
    refine XS.goto X5.here hx rfl (pc0 := 13) (pc' := 17) rfl (hb hby d0_13) (by decide) (by decide) ?_
    exact kt
  obtain ⟨fs, hr, hrun, hended, hW, hsame⟩ := X5.leave (v := some (.int (110 : Int32))) (fun h => by rw [Bd.returns] at h; cases h)
  refine ⟨_, _, pre0 _ (S8 _ ?_), hrun, hended, _, _, rfl, ?_, ⟨_, rfl⟩, hW, hsame.mono (by decide) (by decide)⟩
  · exact retN X5 hx (t := .char) Bd.returns (by simp) (hb hby d0_17) hr
  · show Q_rm_at8_1 Z x tx kx f zc fm h0 n0 _ T5.heap _
    rw [k6]
    exact ⟨rfl, N7, rfl⟩
theorem ef_rm_at8_2 (m : MethodId) (x0 : Addr) (x1 : Int32) (x2 : Int32) : entryFrame m #[(.ref x0), (.int x1), (.int x2)] 3 = mkF m 0 #[.val (.ref x0), .val (.int x1), .val (.int x2)] [] := by first | (simp [entryFrame, mkF, argsToLocals, Value.category]; done) | rfl
def Q_rm_at8_2 (Z : State) (x : Addr) (tx : Addr) (kx : ClassId) (f : Int32) (zc : Int32) (fm : Value) (h0 : Heap) (n0 : Nat) (v : Option Value) (h : Heap) (L : List Loc) : Prop := ((v = some (.int (102 : Int32))) ∧ (Fr n0 L) ∧ (h = h0))
set_option maxRecDepth 65536 in
set_option maxHeartbeats 40000000 in
theorem rm_at8_2 (l : Launch) (Z : State) (a0 : Array Value) (hw : ∀ d ∈ tables_1, d.before a0 Z = true) (ws : List Jvm.Cond) (x : Addr) (tx : Addr) (kx : ClassId) (f : Int32) (zc : Int32) (fm : Value) (h0 : Heap) (n0 : Nat) (O0 : Old Z n0 h0) (E_x : Exa Z h0 x "java/lang/String") (V_x : Fld Z h0 x "java/lang/String" "value" "[B" (.ref tx)) (C_x : Fld Z h0 x "java/lang/String" "coder" "B" (.int (0 : Int32))) (K_x : Arv Z h0 tx kx .byte (8 : Int32) [(.int (105 : Int32).toInt8.toInt32), (.int (110 : Int32).toInt8.toInt32), (.int (102 : Int32).toInt8.toInt32), (.int (105 : Int32).toInt8.toInt32), (.int (110 : Int32).toInt8.toInt32), (.int (105 : Int32).toInt8.toInt32), (.int (116 : Int32).toInt8.toInt32), (.int (121 : Int32).toInt8.toInt32)] (.int (0 : Int32))) (la_f : ¬ (f < (0 : Int32)) ∧ ¬ ((255 : Int32) < f)) (S_C : Sta Z Z.heap "java/lang/String" "COMPACT_STRINGS" "Z" (.int zc)) (hzc : ¬ (zc = (0 : Int32))) (S_F : Sta Z Z.heap "jdk/internal/util/Preconditions" "SIOOBE_FORMATTER" "Ljava/util/function/BiFunction;" fm) (hfm : fm.isRef = true) :
    MetFree l (⟨"com/example/logtide/logtide/event/TemporalTextIsInfinitePinLaw", "at", "(Ljava/lang/String;IC)C"⟩ : MethodName) (head1 (Jvm.Cond.code (⟨"com/example/logtide/logtide/event/TemporalTextIsInfinitePinLaw", "at", "(Ljava/lang/String;IC)C"⟩ : MethodName) method_3_code 3 (some .char) :: ws) ({ frames := 4, cells := 0, slots := 0, locals := 53 } : Room)) (fun a U => a = #[(.ref x), (.int (2 : Int32)), (.int f)] ∧ Z.Warmed39 U.vm ∧ U.heap = h0) (fun _ _ _ _ _ => True) (fun _ U o U' => ∃ v L, o = .returned v ∧ Q_rm_at8_2 Z x tx kx f zc fm h0 n0 v U'.heap L ∧ FrameEnd U o U' L ({ frames := 4, cells := 0, slots := 0, locals := 53 } : Room).cells ({ frames := 4, cells := 0, slots := 0, locals := 53 } : Room).slots) := by
  refine MetFree.of_bodySF (plainFor_of_name pn_0) hisR ?_
  intro p e s m args below meth c s₁ Bd hml0 hP hK
  obtain ⟨rfl, hZ, hh⟩ := hP
  have hx := Bd.exec
  have hby := Bd.bytes
  have hml : c.maxLocals = 3 := hml0
  have hown : s.vm.findClass "com/example/logtide/logtide/event/TemporalTextIsInfinitePinLaw" = some m.cls := findClass_of_methodNamed Bd.named
  have hnm := (name_of_methodNamed Bd.named Bd.method).1
  have X0 : Stand p l e ({ frames := 4, cells := 0, slots := 0, locals := 53 } : Room) s m #[(.ref x), (.int (2 : Int32)), (.int f)] below meth c s₁ [] 0 0 := Stand.of_body Bd
  have e0 : s₁.heap = h0 := by rw [← hh, Bd.state]; rfl
  have N0 := Fr.nil n0
  have hwl : ∀ d ∈ StrChars.Road.wordsLen, d.before a0 Z = true := fun d hd => hw d (own_wordsLen d hd)
  have hwc : ∀ d ∈ StrChars.Road.wordsChN, d.before a0 Z = true := fun d hd => hw d (own_wordsChN d hd)
  have hwq : ∀ d ∈ StrChars.Road.wordsEq, d.before a0 Z = true := fun d hd => hw d (own_wordsEq d hd)
  have hws : ∀ d ∈ StrChars.Road.words, d.before a0 Z = true := fun d hd => hw d (own_words d hd)
  have pre0 : ∀ t, Steps p.tables e below (s₁.setTop (mkF m 0 #[.val (.ref x), .val (.int (2 : Int32)), .val (.int f)] [])) t → Steps p.tables e below (s₁.setTop (entryFrame m #[(.ref x), (.int (2 : Int32)), (.int f)] 3)) t := fun t k => castTop (ef_rm_at8_2 m x (2 : Int32) f) k
  have la2 : ∀ c ∈ ([(105 : Int32), (110 : Int32), (102 : Int32), (105 : Int32), (110 : Int32), (105 : Int32), (116 : Int32), (121 : Int32)] : List Int32), ¬ c < 0 ∧ ¬ (255 : Int32) < c := by
    intro c hc
    simp only [List.mem_cons, List.not_mem_nil, or_false] at hc
    rcases hc with rfl | rfl | rfl | rfl | rfl | rfl | rfl | rfl
    · exact ⟨by decide, by decide⟩
    · exact ⟨by decide, by decide⟩
    · exact ⟨by decide, by decide⟩
    · exact ⟨by decide, by decide⟩
    · exact ⟨by decide, by decide⟩
    · exact ⟨by decide, by decide⟩
    · exact ⟨by decide, by decide⟩
    · exact ⟨by decide, by decide⟩
  have cd2 : StrChars.Road.CodA ([(105 : Int32), (110 : Int32), (102 : Int32), (105 : Int32), (110 : Int32), (105 : Int32), (116 : Int32), (121 : Int32)] : List Int32) 0 (8 : Int32) [(.int (105 : Int32).toInt8.toInt32), (.int (110 : Int32).toInt8.toInt32), (.int (102 : Int32).toInt8.toInt32), (.int (105 : Int32).toInt8.toInt32), (.int (110 : Int32).toInt8.toInt32), (.int (105 : Int32).toInt8.toInt32), (.int (116 : Int32).toInt8.toInt32), (.int (121 : Int32).toInt8.toInt32)] := StrChars.Road.codOf (n := 8) rfl (fun x hx => (la2 x hx).2)
  have bd2 := own_up la2
  obtain ⟨cq1, kq1, q1a, q1b, q1c⟩ := isOf hZ e0 E_x
  obtain ⟨_, _, ⟨T1, L1, k1, n1⟩, -, X1, ⟨Lc1, hQ1, l1, y1, z1⟩, st1⟩ := X0.virtualBack hx (y := (⟨"java/lang/String", "length", "()I"⟩ : MethodName)) (z := (⟨"java/lang/String", "length", "()I"⟩ : MethodName)) hown (mvT hZ (own_w hw 14 rfl)) (mvT hZ (own_w hw 15 rfl)) (notFace_of_selects (args := #[]) (mvT hZ (own_w hw 17 rfl))) (mvT hZ (own_w hw 17 rfl)) (mvT hZ (own_w hw 16 rfl)) (by decide) (StrChars.Road.lenW (W := 1) hZ hwl (kI := 4) (own_w hw 3 rfl) (cs := [(105 : Int32), (110 : Int32), (102 : Int32), (105 : Int32), (110 : Int32), (105 : Int32), (116 : Int32), (121 : Int32)]) E_x V_x C_x K_x cd2 bd2 (S_C.ext O0.2) hzc (by show 8 ≤ 4000; decide) (by decide) (by decide)) q1a q1c (g := (mkF m 2 #[.val (.ref x), .val (.int (2 : Int32)), .val (.int f)] [(.ref x), (.int (2 : Int32))])) rfl (by rw [hml]; rfl) (Steps.refl _) (argsL := []) (rest := [(.int (2 : Int32))]) (lenOf pd_0 rfl) rfl (by show 2 * 0 + _ ≤ _; exact Nat.le_of_eq rfl) (hb hby d0_2) (fun _ _ => ⟨rfl, e0, (by decide : 0 + 0 ≤ _), (by decide : 0 + 0 ≤ _)⟩)
  dsimp only [Pt.U, Pt.locs, Pt.cells, Pt.slots] at X1 l1 y1 z1 st1 hQ1
  subst l1 y1 z1
  obtain ⟨rfl, rfl, k3⟩ := hQ1
  have N4 := Fr.app N0 (Fr.nil n0)
  obtain ⟨cq5, kq5, q5a, q5b, q5c⟩ := isOf hZ k3 E_x
  obtain ⟨_, _, ⟨T5, L5, k5, n5⟩, -, X5, ⟨Lc5, hQ5, l5, y5, z5⟩, st5⟩ := X1.virtualBack hx (y := (⟨"java/lang/String", "charAt", "(I)C"⟩ : MethodName)) (z := (⟨"java/lang/String", "charAt", "(I)C"⟩ : MethodName)) hown (mvT hZ (own_w hw 27 rfl)) (mvT hZ (own_w hw 28 rfl)) (notFace_of_selects (args := #[]) (mvT hZ (own_w hw 30 rfl))) (mvT hZ (own_w hw 30 rfl)) (mvT hZ (own_w hw 29 rfl)) (by decide) (StrChars.Road.chN (W := 0) hZ hwc (kI := 4) (own_w hw 3 rfl) (cs := [(105 : Int32), (110 : Int32), (102 : Int32), (105 : Int32), (110 : Int32), (105 : Int32), (116 : Int32), (121 : Int32)]) (i := 2) (j := (2 : Int32)) E_x V_x C_x K_x cd2 bd2 (S_C.ext O0.2) hzc (S_F.ext O0.2) hfm (by show 8 ≤ 4000; decide) (by show 2 < 8; decide) rfl (by decide) (by decide)) q5a q5c (g := (mkF m 10 #[.val (.ref x), .val (.int (2 : Int32)), .val (.int f)] [(.int (2 : Int32)), (.ref x)])) rfl (by rw [hml]; rfl) (Steps.refl _) (argsL := [(.int (2 : Int32))]) (rest := []) (lenOf pd_1 rfl) rfl (by show 2 * 0 + _ ≤ _; exact Nat.le_of_eq rfl) (hb hby d0_10) (fun _ _ => ⟨rfl, k3, (by decide : 0 + 0 ≤ _), (by decide : 0 + 0 ≤ _)⟩)
  dsimp only [Pt.U, Pt.locs, Pt.cells, Pt.slots] at X5 l5 y5 z5 st5 hQ5
  subst l5 y5 z5
  obtain ⟨rfl, rfl, k6⟩ := hQ5
  have N7 := Fr.app N4 (Fr.nil n0)
  have S8 : ∀ t, Steps p.tables e below (T5.setTop (mkF m 17 #[.val (.ref x), .val (.int (2 : Int32)), .val (.int f)] [(.int (102 : Int32))])) t → Steps p.tables e below (s₁.setTop (mkF m 0 #[.val (.ref x), .val (.int (2 : Int32)), .val (.int f)] [])) t := by
    intro t kt
    refine XS.iloadN X0.here hx rfl (hb hby d0_0) rfl ?_
    refine XS.aloadN X0.here hx rfl (hb hby d0_1) rfl rfl ?_
    show Steps p.tables e below (s₁.setTop (mkF m 2 #[.val (.ref x), .val (.int (2 : Int32)), .val (.int f)] [(.ref x), (.int (2 : Int32))])) _
    refine st1.trans ?_
    refine XS.icmpNo X1.here hx rfl (hb hby d0_5) rfl (tlt ((by decide) : (2 : Int32) < (8 : Int32))).2.1 ?_
    refine XS.aloadN X1.here hx rfl (hb hby d0_8) rfl rfl ?_
    refine XS.iloadN X1.here hx rfl (hb hby d0_9) rfl ?_
    show Steps p.tables e below (T1.setTop (mkF m 10 #[.val (.ref x), .val (.int (2 : Int32)), .val (.int f)] [(.int (2 : Int32)), (.ref x)])) _
    refine st5.trans ?_
    refine XS.goto X5.here hx rfl (pc0 := 13) (pc' := 17) rfl (hb hby d0_13) (by decide) (by decide) ?_
    exact kt
  obtain ⟨fs, hr, hrun, hended, hW, hsame⟩ := X5.leave (v := some (.int (102 : Int32))) (fun h => by rw [Bd.returns] at h; cases h)
  refine ⟨_, _, pre0 _ (S8 _ ?_), hrun, hended, _, _, rfl, ?_, ⟨_, rfl⟩, hW, hsame.mono (by decide) (by decide)⟩
  · exact retN X5 hx (t := .char) Bd.returns (by simp) (hb hby d0_17) hr
  · show Q_rm_at8_2 Z x tx kx f zc fm h0 n0 _ T5.heap _
    rw [k6]
    exact ⟨rfl, N7, rfl⟩
theorem ef_rm_at8_3 (m : MethodId) (x0 : Addr) (x1 : Int32) (x2 : Int32) : entryFrame m #[(.ref x0), (.int x1), (.int x2)] 3 = mkF m 0 #[.val (.ref x0), .val (.int x1), .val (.int x2)] [] := by first | (simp [entryFrame, mkF, argsToLocals, Value.category]; done) | rfl
def Q_rm_at8_3 (Z : State) (x : Addr) (tx : Addr) (kx : ClassId) (f : Int32) (zc : Int32) (fm : Value) (h0 : Heap) (n0 : Nat) (v : Option Value) (h : Heap) (L : List Loc) : Prop := ((v = some (.int (105 : Int32))) ∧ (Fr n0 L) ∧ (h = h0))
set_option maxRecDepth 65536 in
set_option maxHeartbeats 40000000 in
theorem rm_at8_3 (l : Launch) (Z : State) (a0 : Array Value) (hw : ∀ d ∈ tables_1, d.before a0 Z = true) (ws : List Jvm.Cond) (x : Addr) (tx : Addr) (kx : ClassId) (f : Int32) (zc : Int32) (fm : Value) (h0 : Heap) (n0 : Nat) (O0 : Old Z n0 h0) (E_x : Exa Z h0 x "java/lang/String") (V_x : Fld Z h0 x "java/lang/String" "value" "[B" (.ref tx)) (C_x : Fld Z h0 x "java/lang/String" "coder" "B" (.int (0 : Int32))) (K_x : Arv Z h0 tx kx .byte (8 : Int32) [(.int (105 : Int32).toInt8.toInt32), (.int (110 : Int32).toInt8.toInt32), (.int (102 : Int32).toInt8.toInt32), (.int (105 : Int32).toInt8.toInt32), (.int (110 : Int32).toInt8.toInt32), (.int (105 : Int32).toInt8.toInt32), (.int (116 : Int32).toInt8.toInt32), (.int (121 : Int32).toInt8.toInt32)] (.int (0 : Int32))) (la_f : ¬ (f < (0 : Int32)) ∧ ¬ ((255 : Int32) < f)) (S_C : Sta Z Z.heap "java/lang/String" "COMPACT_STRINGS" "Z" (.int zc)) (hzc : ¬ (zc = (0 : Int32))) (S_F : Sta Z Z.heap "jdk/internal/util/Preconditions" "SIOOBE_FORMATTER" "Ljava/util/function/BiFunction;" fm) (hfm : fm.isRef = true) :
    MetFree l (⟨"com/example/logtide/logtide/event/TemporalTextIsInfinitePinLaw", "at", "(Ljava/lang/String;IC)C"⟩ : MethodName) (head1 (Jvm.Cond.code (⟨"com/example/logtide/logtide/event/TemporalTextIsInfinitePinLaw", "at", "(Ljava/lang/String;IC)C"⟩ : MethodName) method_3_code 3 (some .char) :: ws) ({ frames := 4, cells := 0, slots := 0, locals := 53 } : Room)) (fun a U => a = #[(.ref x), (.int (3 : Int32)), (.int f)] ∧ Z.Warmed39 U.vm ∧ U.heap = h0) (fun _ _ _ _ _ => True) (fun _ U o U' => ∃ v L, o = .returned v ∧ Q_rm_at8_3 Z x tx kx f zc fm h0 n0 v U'.heap L ∧ FrameEnd U o U' L ({ frames := 4, cells := 0, slots := 0, locals := 53 } : Room).cells ({ frames := 4, cells := 0, slots := 0, locals := 53 } : Room).slots) := by
  refine MetFree.of_bodySF (plainFor_of_name pn_0) hisR ?_
  intro p e s m args below meth c s₁ Bd hml0 hP hK
  obtain ⟨rfl, hZ, hh⟩ := hP
  have hx := Bd.exec
  have hby := Bd.bytes
  have hml : c.maxLocals = 3 := hml0
  have hown : s.vm.findClass "com/example/logtide/logtide/event/TemporalTextIsInfinitePinLaw" = some m.cls := findClass_of_methodNamed Bd.named
  have hnm := (name_of_methodNamed Bd.named Bd.method).1
  have X0 : Stand p l e ({ frames := 4, cells := 0, slots := 0, locals := 53 } : Room) s m #[(.ref x), (.int (3 : Int32)), (.int f)] below meth c s₁ [] 0 0 := Stand.of_body Bd
  have e0 : s₁.heap = h0 := by rw [← hh, Bd.state]; rfl
  have N0 := Fr.nil n0
  have hwl : ∀ d ∈ StrChars.Road.wordsLen, d.before a0 Z = true := fun d hd => hw d (own_wordsLen d hd)
  have hwc : ∀ d ∈ StrChars.Road.wordsChN, d.before a0 Z = true := fun d hd => hw d (own_wordsChN d hd)
  have hwq : ∀ d ∈ StrChars.Road.wordsEq, d.before a0 Z = true := fun d hd => hw d (own_wordsEq d hd)
  have hws : ∀ d ∈ StrChars.Road.words, d.before a0 Z = true := fun d hd => hw d (own_words d hd)
  have pre0 : ∀ t, Steps p.tables e below (s₁.setTop (mkF m 0 #[.val (.ref x), .val (.int (3 : Int32)), .val (.int f)] [])) t → Steps p.tables e below (s₁.setTop (entryFrame m #[(.ref x), (.int (3 : Int32)), (.int f)] 3)) t := fun t k => castTop (ef_rm_at8_3 m x (3 : Int32) f) k
  have la2 : ∀ c ∈ ([(105 : Int32), (110 : Int32), (102 : Int32), (105 : Int32), (110 : Int32), (105 : Int32), (116 : Int32), (121 : Int32)] : List Int32), ¬ c < 0 ∧ ¬ (255 : Int32) < c := by
    intro c hc
    simp only [List.mem_cons, List.not_mem_nil, or_false] at hc
    rcases hc with rfl | rfl | rfl | rfl | rfl | rfl | rfl | rfl
    · exact ⟨by decide, by decide⟩
    · exact ⟨by decide, by decide⟩
    · exact ⟨by decide, by decide⟩
    · exact ⟨by decide, by decide⟩
    · exact ⟨by decide, by decide⟩
    · exact ⟨by decide, by decide⟩
    · exact ⟨by decide, by decide⟩
    · exact ⟨by decide, by decide⟩
  have cd2 : StrChars.Road.CodA ([(105 : Int32), (110 : Int32), (102 : Int32), (105 : Int32), (110 : Int32), (105 : Int32), (116 : Int32), (121 : Int32)] : List Int32) 0 (8 : Int32) [(.int (105 : Int32).toInt8.toInt32), (.int (110 : Int32).toInt8.toInt32), (.int (102 : Int32).toInt8.toInt32), (.int (105 : Int32).toInt8.toInt32), (.int (110 : Int32).toInt8.toInt32), (.int (105 : Int32).toInt8.toInt32), (.int (116 : Int32).toInt8.toInt32), (.int (121 : Int32).toInt8.toInt32)] := StrChars.Road.codOf (n := 8) rfl (fun x hx => (la2 x hx).2)
  have bd2 := own_up la2
  obtain ⟨cq1, kq1, q1a, q1b, q1c⟩ := isOf hZ e0 E_x
  obtain ⟨_, _, ⟨T1, L1, k1, n1⟩, -, X1, ⟨Lc1, hQ1, l1, y1, z1⟩, st1⟩ := X0.virtualBack hx (y := (⟨"java/lang/String", "length", "()I"⟩ : MethodName)) (z := (⟨"java/lang/String", "length", "()I"⟩ : MethodName)) hown (mvT hZ (own_w hw 14 rfl)) (mvT hZ (own_w hw 15 rfl)) (notFace_of_selects (args := #[]) (mvT hZ (own_w hw 17 rfl))) (mvT hZ (own_w hw 17 rfl)) (mvT hZ (own_w hw 16 rfl)) (by decide) (StrChars.Road.lenW (W := 1) hZ hwl (kI := 4) (own_w hw 3 rfl) (cs := [(105 : Int32), (110 : Int32), (102 : Int32), (105 : Int32), (110 : Int32), (105 : Int32), (116 : Int32), (121 : Int32)]) E_x V_x C_x K_x cd2 bd2 (S_C.ext O0.2) hzc (by show 8 ≤ 4000; decide) (by decide) (by decide)) q1a q1c (g := (mkF m 2 #[.val (.ref x), .val (.int (3 : Int32)), .val (.int f)] [(.ref x), (.int (3 : Int32))])) rfl (by rw [hml]; rfl) (Steps.refl _) (argsL := []) (rest := [(.int (3 : Int32))]) (lenOf pd_0 rfl) rfl (by show 2 * 0 + _ ≤ _; exact Nat.le_of_eq rfl) (hb hby d0_2) (fun _ _ => ⟨rfl, e0, (by decide : 0 + 0 ≤ _), (by decide : 0 + 0 ≤ _)⟩)
  dsimp only [Pt.U, Pt.locs, Pt.cells, Pt.slots] at X1 l1 y1 z1 st1 hQ1
  subst l1 y1 z1
  obtain ⟨rfl, rfl, k3⟩ := hQ1
  have N4 := Fr.app N0 (Fr.nil n0)
  obtain ⟨cq5, kq5, q5a, q5b, q5c⟩ := isOf hZ k3 E_x
  obtain ⟨_, _, ⟨T5, L5, k5, n5⟩, -, X5, ⟨Lc5, hQ5, l5, y5, z5⟩, st5⟩ := X1.virtualBack hx (y := (⟨"java/lang/String", "charAt", "(I)C"⟩ : MethodName)) (z := (⟨"java/lang/String", "charAt", "(I)C"⟩ : MethodName)) hown (mvT hZ (own_w hw 27 rfl)) (mvT hZ (own_w hw 28 rfl)) (notFace_of_selects (args := #[]) (mvT hZ (own_w hw 30 rfl))) (mvT hZ (own_w hw 30 rfl)) (mvT hZ (own_w hw 29 rfl)) (by decide) (StrChars.Road.chN (W := 0) hZ hwc (kI := 4) (own_w hw 3 rfl) (cs := [(105 : Int32), (110 : Int32), (102 : Int32), (105 : Int32), (110 : Int32), (105 : Int32), (116 : Int32), (121 : Int32)]) (i := 3) (j := (3 : Int32)) E_x V_x C_x K_x cd2 bd2 (S_C.ext O0.2) hzc (S_F.ext O0.2) hfm (by show 8 ≤ 4000; decide) (by show 3 < 8; decide) rfl (by decide) (by decide)) q5a q5c (g := (mkF m 10 #[.val (.ref x), .val (.int (3 : Int32)), .val (.int f)] [(.int (3 : Int32)), (.ref x)])) rfl (by rw [hml]; rfl) (Steps.refl _) (argsL := [(.int (3 : Int32))]) (rest := []) (lenOf pd_1 rfl) rfl (by show 2 * 0 + _ ≤ _; exact Nat.le_of_eq rfl) (hb hby d0_10) (fun _ _ => ⟨rfl, k3, (by decide : 0 + 0 ≤ _), (by decide : 0 + 0 ≤ _)⟩)
  dsimp only [Pt.U, Pt.locs, Pt.cells, Pt.slots] at X5 l5 y5 z5 st5 hQ5
  subst l5 y5 z5
  obtain ⟨rfl, rfl, k6⟩ := hQ5
  have N7 := Fr.app N4 (Fr.nil n0)
  have S8 : ∀ t, Steps p.tables e below (T5.setTop (mkF m 17 #[.val (.ref x), .val (.int (3 : Int32)), .val (.int f)] [(.int (105 : Int32))])) t → Steps p.tables e below (s₁.setTop (mkF m 0 #[.val (.ref x), .val (.int (3 : Int32)), .val (.int f)] [])) t := by
    intro t kt
    refine XS.iloadN X0.here hx rfl (hb hby d0_0) rfl ?_
    refine XS.aloadN X0.here hx rfl (hb hby d0_1) rfl rfl ?_
    show Steps p.tables e below (s₁.setTop (mkF m 2 #[.val (.ref x), .val (.int (3 : Int32)), .val (.int f)] [(.ref x), (.int (3 : Int32))])) _
    refine st1.trans ?_
    refine XS.icmpNo X1.here hx rfl (hb hby d0_5) rfl (tlt ((by decide) : (3 : Int32) < (8 : Int32))).2.1 ?_
    refine XS.aloadN X1.here hx rfl (hb hby d0_8) rfl rfl ?_
    refine XS.iloadN X1.here hx rfl (hb hby d0_9) rfl ?_
    show Steps p.tables e below (T1.setTop (mkF m 10 #[.val (.ref x), .val (.int (3 : Int32)), .val (.int f)] [(.int (3 : Int32)), (.ref x)])) _
    refine st5.trans ?_
    refine XS.goto X5.here hx rfl (pc0 := 13) (pc' := 17) rfl (hb hby d0_13) (by decide) (by decide) ?_
    exact kt
  obtain ⟨fs, hr, hrun, hended, hW, hsame⟩ := X5.leave (v := some (.int (105 : Int32))) (fun h => by rw [Bd.returns] at h; cases h)
  refine ⟨_, _, pre0 _ (S8 _ ?_), hrun, hended, _, _, rfl, ?_, ⟨_, rfl⟩, hW, hsame.mono (by decide) (by decide)⟩
  · exact retN X5 hx (t := .char) Bd.returns (by simp) (hb hby d0_17) hr
  · show Q_rm_at8_3 Z x tx kx f zc fm h0 n0 _ T5.heap _
    rw [k6]
    exact ⟨rfl, N7, rfl⟩
theorem ef_rm_at8_4 (m : MethodId) (x0 : Addr) (x1 : Int32) (x2 : Int32) : entryFrame m #[(.ref x0), (.int x1), (.int x2)] 3 = mkF m 0 #[.val (.ref x0), .val (.int x1), .val (.int x2)] [] := by first | (simp [entryFrame, mkF, argsToLocals, Value.category]; done) | rfl
def Q_rm_at8_4 (Z : State) (x : Addr) (tx : Addr) (kx : ClassId) (f : Int32) (zc : Int32) (fm : Value) (h0 : Heap) (n0 : Nat) (v : Option Value) (h : Heap) (L : List Loc) : Prop := ((v = some (.int (110 : Int32))) ∧ (Fr n0 L) ∧ (h = h0))
set_option maxRecDepth 65536 in
set_option maxHeartbeats 40000000 in
theorem rm_at8_4 (l : Launch) (Z : State) (a0 : Array Value) (hw : ∀ d ∈ tables_1, d.before a0 Z = true) (ws : List Jvm.Cond) (x : Addr) (tx : Addr) (kx : ClassId) (f : Int32) (zc : Int32) (fm : Value) (h0 : Heap) (n0 : Nat) (O0 : Old Z n0 h0) (E_x : Exa Z h0 x "java/lang/String") (V_x : Fld Z h0 x "java/lang/String" "value" "[B" (.ref tx)) (C_x : Fld Z h0 x "java/lang/String" "coder" "B" (.int (0 : Int32))) (K_x : Arv Z h0 tx kx .byte (8 : Int32) [(.int (105 : Int32).toInt8.toInt32), (.int (110 : Int32).toInt8.toInt32), (.int (102 : Int32).toInt8.toInt32), (.int (105 : Int32).toInt8.toInt32), (.int (110 : Int32).toInt8.toInt32), (.int (105 : Int32).toInt8.toInt32), (.int (116 : Int32).toInt8.toInt32), (.int (121 : Int32).toInt8.toInt32)] (.int (0 : Int32))) (la_f : ¬ (f < (0 : Int32)) ∧ ¬ ((255 : Int32) < f)) (S_C : Sta Z Z.heap "java/lang/String" "COMPACT_STRINGS" "Z" (.int zc)) (hzc : ¬ (zc = (0 : Int32))) (S_F : Sta Z Z.heap "jdk/internal/util/Preconditions" "SIOOBE_FORMATTER" "Ljava/util/function/BiFunction;" fm) (hfm : fm.isRef = true) :
    MetFree l (⟨"com/example/logtide/logtide/event/TemporalTextIsInfinitePinLaw", "at", "(Ljava/lang/String;IC)C"⟩ : MethodName) (head1 (Jvm.Cond.code (⟨"com/example/logtide/logtide/event/TemporalTextIsInfinitePinLaw", "at", "(Ljava/lang/String;IC)C"⟩ : MethodName) method_3_code 3 (some .char) :: ws) ({ frames := 4, cells := 0, slots := 0, locals := 53 } : Room)) (fun a U => a = #[(.ref x), (.int (4 : Int32)), (.int f)] ∧ Z.Warmed39 U.vm ∧ U.heap = h0) (fun _ _ _ _ _ => True) (fun _ U o U' => ∃ v L, o = .returned v ∧ Q_rm_at8_4 Z x tx kx f zc fm h0 n0 v U'.heap L ∧ FrameEnd U o U' L ({ frames := 4, cells := 0, slots := 0, locals := 53 } : Room).cells ({ frames := 4, cells := 0, slots := 0, locals := 53 } : Room).slots) := by
  refine MetFree.of_bodySF (plainFor_of_name pn_0) hisR ?_
  intro p e s m args below meth c s₁ Bd hml0 hP hK
  obtain ⟨rfl, hZ, hh⟩ := hP
  have hx := Bd.exec
  have hby := Bd.bytes
  have hml : c.maxLocals = 3 := hml0
  have hown : s.vm.findClass "com/example/logtide/logtide/event/TemporalTextIsInfinitePinLaw" = some m.cls := findClass_of_methodNamed Bd.named
  have hnm := (name_of_methodNamed Bd.named Bd.method).1
  have X0 : Stand p l e ({ frames := 4, cells := 0, slots := 0, locals := 53 } : Room) s m #[(.ref x), (.int (4 : Int32)), (.int f)] below meth c s₁ [] 0 0 := Stand.of_body Bd
  have e0 : s₁.heap = h0 := by rw [← hh, Bd.state]; rfl
  have N0 := Fr.nil n0
  have hwl : ∀ d ∈ StrChars.Road.wordsLen, d.before a0 Z = true := fun d hd => hw d (own_wordsLen d hd)
  have hwc : ∀ d ∈ StrChars.Road.wordsChN, d.before a0 Z = true := fun d hd => hw d (own_wordsChN d hd)
  have hwq : ∀ d ∈ StrChars.Road.wordsEq, d.before a0 Z = true := fun d hd => hw d (own_wordsEq d hd)
  have hws : ∀ d ∈ StrChars.Road.words, d.before a0 Z = true := fun d hd => hw d (own_words d hd)
  have pre0 : ∀ t, Steps p.tables e below (s₁.setTop (mkF m 0 #[.val (.ref x), .val (.int (4 : Int32)), .val (.int f)] [])) t → Steps p.tables e below (s₁.setTop (entryFrame m #[(.ref x), (.int (4 : Int32)), (.int f)] 3)) t := fun t k => castTop (ef_rm_at8_4 m x (4 : Int32) f) k
  have la2 : ∀ c ∈ ([(105 : Int32), (110 : Int32), (102 : Int32), (105 : Int32), (110 : Int32), (105 : Int32), (116 : Int32), (121 : Int32)] : List Int32), ¬ c < 0 ∧ ¬ (255 : Int32) < c := by
    intro c hc
    simp only [List.mem_cons, List.not_mem_nil, or_false] at hc
    rcases hc with rfl | rfl | rfl | rfl | rfl | rfl | rfl | rfl
    · exact ⟨by decide, by decide⟩
    · exact ⟨by decide, by decide⟩
    · exact ⟨by decide, by decide⟩
    · exact ⟨by decide, by decide⟩
    · exact ⟨by decide, by decide⟩
    · exact ⟨by decide, by decide⟩
    · exact ⟨by decide, by decide⟩
    · exact ⟨by decide, by decide⟩
  have cd2 : StrChars.Road.CodA ([(105 : Int32), (110 : Int32), (102 : Int32), (105 : Int32), (110 : Int32), (105 : Int32), (116 : Int32), (121 : Int32)] : List Int32) 0 (8 : Int32) [(.int (105 : Int32).toInt8.toInt32), (.int (110 : Int32).toInt8.toInt32), (.int (102 : Int32).toInt8.toInt32), (.int (105 : Int32).toInt8.toInt32), (.int (110 : Int32).toInt8.toInt32), (.int (105 : Int32).toInt8.toInt32), (.int (116 : Int32).toInt8.toInt32), (.int (121 : Int32).toInt8.toInt32)] := StrChars.Road.codOf (n := 8) rfl (fun x hx => (la2 x hx).2)
  have bd2 := own_up la2
  obtain ⟨cq1, kq1, q1a, q1b, q1c⟩ := isOf hZ e0 E_x
  obtain ⟨_, _, ⟨T1, L1, k1, n1⟩, -, X1, ⟨Lc1, hQ1, l1, y1, z1⟩, st1⟩ := X0.virtualBack hx (y := (⟨"java/lang/String", "length", "()I"⟩ : MethodName)) (z := (⟨"java/lang/String", "length", "()I"⟩ : MethodName)) hown (mvT hZ (own_w hw 14 rfl)) (mvT hZ (own_w hw 15 rfl)) (notFace_of_selects (args := #[]) (mvT hZ (own_w hw 17 rfl))) (mvT hZ (own_w hw 17 rfl)) (mvT hZ (own_w hw 16 rfl)) (by decide) (StrChars.Road.lenW (W := 1) hZ hwl (kI := 4) (own_w hw 3 rfl) (cs := [(105 : Int32), (110 : Int32), (102 : Int32), (105 : Int32), (110 : Int32), (105 : Int32), (116 : Int32), (121 : Int32)]) E_x V_x C_x K_x cd2 bd2 (S_C.ext O0.2) hzc (by show 8 ≤ 4000; decide) (by decide) (by decide)) q1a q1c (g := (mkF m 2 #[.val (.ref x), .val (.int (4 : Int32)), .val (.int f)] [(.ref x), (.int (4 : Int32))])) rfl (by rw [hml]; rfl) (Steps.refl _) (argsL := []) (rest := [(.int (4 : Int32))]) (lenOf pd_0 rfl) rfl (by show 2 * 0 + _ ≤ _; exact Nat.le_of_eq rfl) (hb hby d0_2) (fun _ _ => ⟨rfl, e0, (by decide : 0 + 0 ≤ _), (by decide : 0 + 0 ≤ _)⟩)
  dsimp only [Pt.U, Pt.locs, Pt.cells, Pt.slots] at X1 l1 y1 z1 st1 hQ1
  subst l1 y1 z1
  obtain ⟨rfl, rfl, k3⟩ := hQ1
  have N4 := Fr.app N0 (Fr.nil n0)
  obtain ⟨cq5, kq5, q5a, q5b, q5c⟩ := isOf hZ k3 E_x
  obtain ⟨_, _, ⟨T5, L5, k5, n5⟩, -, X5, ⟨Lc5, hQ5, l5, y5, z5⟩, st5⟩ := X1.virtualBack hx (y := (⟨"java/lang/String", "charAt", "(I)C"⟩ : MethodName)) (z := (⟨"java/lang/String", "charAt", "(I)C"⟩ : MethodName)) hown (mvT hZ (own_w hw 27 rfl)) (mvT hZ (own_w hw 28 rfl)) (notFace_of_selects (args := #[]) (mvT hZ (own_w hw 30 rfl))) (mvT hZ (own_w hw 30 rfl)) (mvT hZ (own_w hw 29 rfl)) (by decide) (StrChars.Road.chN (W := 0) hZ hwc (kI := 4) (own_w hw 3 rfl) (cs := [(105 : Int32), (110 : Int32), (102 : Int32), (105 : Int32), (110 : Int32), (105 : Int32), (116 : Int32), (121 : Int32)]) (i := 4) (j := (4 : Int32)) E_x V_x C_x K_x cd2 bd2 (S_C.ext O0.2) hzc (S_F.ext O0.2) hfm (by show 8 ≤ 4000; decide) (by show 4 < 8; decide) rfl (by decide) (by decide)) q5a q5c (g := (mkF m 10 #[.val (.ref x), .val (.int (4 : Int32)), .val (.int f)] [(.int (4 : Int32)), (.ref x)])) rfl (by rw [hml]; rfl) (Steps.refl _) (argsL := [(.int (4 : Int32))]) (rest := []) (lenOf pd_1 rfl) rfl (by show 2 * 0 + _ ≤ _; exact Nat.le_of_eq rfl) (hb hby d0_10) (fun _ _ => ⟨rfl, k3, (by decide : 0 + 0 ≤ _), (by decide : 0 + 0 ≤ _)⟩)
  dsimp only [Pt.U, Pt.locs, Pt.cells, Pt.slots] at X5 l5 y5 z5 st5 hQ5
  subst l5 y5 z5
  obtain ⟨rfl, rfl, k6⟩ := hQ5
  have N7 := Fr.app N4 (Fr.nil n0)
  have S8 : ∀ t, Steps p.tables e below (T5.setTop (mkF m 17 #[.val (.ref x), .val (.int (4 : Int32)), .val (.int f)] [(.int (110 : Int32))])) t → Steps p.tables e below (s₁.setTop (mkF m 0 #[.val (.ref x), .val (.int (4 : Int32)), .val (.int f)] [])) t := by
    intro t kt
    refine XS.iloadN X0.here hx rfl (hb hby d0_0) rfl ?_
    refine XS.aloadN X0.here hx rfl (hb hby d0_1) rfl rfl ?_
    show Steps p.tables e below (s₁.setTop (mkF m 2 #[.val (.ref x), .val (.int (4 : Int32)), .val (.int f)] [(.ref x), (.int (4 : Int32))])) _
    refine st1.trans ?_
    refine XS.icmpNo X1.here hx rfl (hb hby d0_5) rfl (tlt ((by decide) : (4 : Int32) < (8 : Int32))).2.1 ?_
    refine XS.aloadN X1.here hx rfl (hb hby d0_8) rfl rfl ?_
    refine XS.iloadN X1.here hx rfl (hb hby d0_9) rfl ?_
    show Steps p.tables e below (T1.setTop (mkF m 10 #[.val (.ref x), .val (.int (4 : Int32)), .val (.int f)] [(.int (4 : Int32)), (.ref x)])) _
    refine st5.trans ?_
    refine XS.goto X5.here hx rfl (pc0 := 13) (pc' := 17) rfl (hb hby d0_13) (by decide) (by decide) ?_
    exact kt
  obtain ⟨fs, hr, hrun, hended, hW, hsame⟩ := X5.leave (v := some (.int (110 : Int32))) (fun h => by rw [Bd.returns] at h; cases h)
  refine ⟨_, _, pre0 _ (S8 _ ?_), hrun, hended, _, _, rfl, ?_, ⟨_, rfl⟩, hW, hsame.mono (by decide) (by decide)⟩
  · exact retN X5 hx (t := .char) Bd.returns (by simp) (hb hby d0_17) hr
  · show Q_rm_at8_4 Z x tx kx f zc fm h0 n0 _ T5.heap _
    rw [k6]
    exact ⟨rfl, N7, rfl⟩
theorem ef_rm_at8_5 (m : MethodId) (x0 : Addr) (x1 : Int32) (x2 : Int32) : entryFrame m #[(.ref x0), (.int x1), (.int x2)] 3 = mkF m 0 #[.val (.ref x0), .val (.int x1), .val (.int x2)] [] := by first | (simp [entryFrame, mkF, argsToLocals, Value.category]; done) | rfl
def Q_rm_at8_5 (Z : State) (x : Addr) (tx : Addr) (kx : ClassId) (f : Int32) (zc : Int32) (fm : Value) (h0 : Heap) (n0 : Nat) (v : Option Value) (h : Heap) (L : List Loc) : Prop := ((v = some (.int (105 : Int32))) ∧ (Fr n0 L) ∧ (h = h0))
set_option maxRecDepth 65536 in
set_option maxHeartbeats 40000000 in
theorem rm_at8_5 (l : Launch) (Z : State) (a0 : Array Value) (hw : ∀ d ∈ tables_1, d.before a0 Z = true) (ws : List Jvm.Cond) (x : Addr) (tx : Addr) (kx : ClassId) (f : Int32) (zc : Int32) (fm : Value) (h0 : Heap) (n0 : Nat) (O0 : Old Z n0 h0) (E_x : Exa Z h0 x "java/lang/String") (V_x : Fld Z h0 x "java/lang/String" "value" "[B" (.ref tx)) (C_x : Fld Z h0 x "java/lang/String" "coder" "B" (.int (0 : Int32))) (K_x : Arv Z h0 tx kx .byte (8 : Int32) [(.int (105 : Int32).toInt8.toInt32), (.int (110 : Int32).toInt8.toInt32), (.int (102 : Int32).toInt8.toInt32), (.int (105 : Int32).toInt8.toInt32), (.int (110 : Int32).toInt8.toInt32), (.int (105 : Int32).toInt8.toInt32), (.int (116 : Int32).toInt8.toInt32), (.int (121 : Int32).toInt8.toInt32)] (.int (0 : Int32))) (la_f : ¬ (f < (0 : Int32)) ∧ ¬ ((255 : Int32) < f)) (S_C : Sta Z Z.heap "java/lang/String" "COMPACT_STRINGS" "Z" (.int zc)) (hzc : ¬ (zc = (0 : Int32))) (S_F : Sta Z Z.heap "jdk/internal/util/Preconditions" "SIOOBE_FORMATTER" "Ljava/util/function/BiFunction;" fm) (hfm : fm.isRef = true) :
    MetFree l (⟨"com/example/logtide/logtide/event/TemporalTextIsInfinitePinLaw", "at", "(Ljava/lang/String;IC)C"⟩ : MethodName) (head1 (Jvm.Cond.code (⟨"com/example/logtide/logtide/event/TemporalTextIsInfinitePinLaw", "at", "(Ljava/lang/String;IC)C"⟩ : MethodName) method_3_code 3 (some .char) :: ws) ({ frames := 4, cells := 0, slots := 0, locals := 53 } : Room)) (fun a U => a = #[(.ref x), (.int (5 : Int32)), (.int f)] ∧ Z.Warmed39 U.vm ∧ U.heap = h0) (fun _ _ _ _ _ => True) (fun _ U o U' => ∃ v L, o = .returned v ∧ Q_rm_at8_5 Z x tx kx f zc fm h0 n0 v U'.heap L ∧ FrameEnd U o U' L ({ frames := 4, cells := 0, slots := 0, locals := 53 } : Room).cells ({ frames := 4, cells := 0, slots := 0, locals := 53 } : Room).slots) := by
  refine MetFree.of_bodySF (plainFor_of_name pn_0) hisR ?_
  intro p e s m args below meth c s₁ Bd hml0 hP hK
  obtain ⟨rfl, hZ, hh⟩ := hP
  have hx := Bd.exec
  have hby := Bd.bytes
  have hml : c.maxLocals = 3 := hml0
  have hown : s.vm.findClass "com/example/logtide/logtide/event/TemporalTextIsInfinitePinLaw" = some m.cls := findClass_of_methodNamed Bd.named
  have hnm := (name_of_methodNamed Bd.named Bd.method).1
  have X0 : Stand p l e ({ frames := 4, cells := 0, slots := 0, locals := 53 } : Room) s m #[(.ref x), (.int (5 : Int32)), (.int f)] below meth c s₁ [] 0 0 := Stand.of_body Bd
  have e0 : s₁.heap = h0 := by rw [← hh, Bd.state]; rfl
  have N0 := Fr.nil n0
  have hwl : ∀ d ∈ StrChars.Road.wordsLen, d.before a0 Z = true := fun d hd => hw d (own_wordsLen d hd)
  have hwc : ∀ d ∈ StrChars.Road.wordsChN, d.before a0 Z = true := fun d hd => hw d (own_wordsChN d hd)
  have hwq : ∀ d ∈ StrChars.Road.wordsEq, d.before a0 Z = true := fun d hd => hw d (own_wordsEq d hd)
  have hws : ∀ d ∈ StrChars.Road.words, d.before a0 Z = true := fun d hd => hw d (own_words d hd)
  have pre0 : ∀ t, Steps p.tables e below (s₁.setTop (mkF m 0 #[.val (.ref x), .val (.int (5 : Int32)), .val (.int f)] [])) t → Steps p.tables e below (s₁.setTop (entryFrame m #[(.ref x), (.int (5 : Int32)), (.int f)] 3)) t := fun t k => castTop (ef_rm_at8_5 m x (5 : Int32) f) k
  have la2 : ∀ c ∈ ([(105 : Int32), (110 : Int32), (102 : Int32), (105 : Int32), (110 : Int32), (105 : Int32), (116 : Int32), (121 : Int32)] : List Int32), ¬ c < 0 ∧ ¬ (255 : Int32) < c := by
    intro c hc
    simp only [List.mem_cons, List.not_mem_nil, or_false] at hc
    rcases hc with rfl | rfl | rfl | rfl | rfl | rfl | rfl | rfl
    · exact ⟨by decide, by decide⟩
    · exact ⟨by decide, by decide⟩
    · exact ⟨by decide, by decide⟩
    · exact ⟨by decide, by decide⟩
    · exact ⟨by decide, by decide⟩
    · exact ⟨by decide, by decide⟩
    · exact ⟨by decide, by decide⟩
    · exact ⟨by decide, by decide⟩
  have cd2 : StrChars.Road.CodA ([(105 : Int32), (110 : Int32), (102 : Int32), (105 : Int32), (110 : Int32), (105 : Int32), (116 : Int32), (121 : Int32)] : List Int32) 0 (8 : Int32) [(.int (105 : Int32).toInt8.toInt32), (.int (110 : Int32).toInt8.toInt32), (.int (102 : Int32).toInt8.toInt32), (.int (105 : Int32).toInt8.toInt32), (.int (110 : Int32).toInt8.toInt32), (.int (105 : Int32).toInt8.toInt32), (.int (116 : Int32).toInt8.toInt32), (.int (121 : Int32).toInt8.toInt32)] := StrChars.Road.codOf (n := 8) rfl (fun x hx => (la2 x hx).2)
  have bd2 := own_up la2
  obtain ⟨cq1, kq1, q1a, q1b, q1c⟩ := isOf hZ e0 E_x
  obtain ⟨_, _, ⟨T1, L1, k1, n1⟩, -, X1, ⟨Lc1, hQ1, l1, y1, z1⟩, st1⟩ := X0.virtualBack hx (y := (⟨"java/lang/String", "length", "()I"⟩ : MethodName)) (z := (⟨"java/lang/String", "length", "()I"⟩ : MethodName)) hown (mvT hZ (own_w hw 14 rfl)) (mvT hZ (own_w hw 15 rfl)) (notFace_of_selects (args := #[]) (mvT hZ (own_w hw 17 rfl))) (mvT hZ (own_w hw 17 rfl)) (mvT hZ (own_w hw 16 rfl)) (by decide) (StrChars.Road.lenW (W := 1) hZ hwl (kI := 4) (own_w hw 3 rfl) (cs := [(105 : Int32), (110 : Int32), (102 : Int32), (105 : Int32), (110 : Int32), (105 : Int32), (116 : Int32), (121 : Int32)]) E_x V_x C_x K_x cd2 bd2 (S_C.ext O0.2) hzc (by show 8 ≤ 4000; decide) (by decide) (by decide)) q1a q1c (g := (mkF m 2 #[.val (.ref x), .val (.int (5 : Int32)), .val (.int f)] [(.ref x), (.int (5 : Int32))])) rfl (by rw [hml]; rfl) (Steps.refl _) (argsL := []) (rest := [(.int (5 : Int32))]) (lenOf pd_0 rfl) rfl (by show 2 * 0 + _ ≤ _; exact Nat.le_of_eq rfl) (hb hby d0_2) (fun _ _ => ⟨rfl, e0, (by decide : 0 + 0 ≤ _), (by decide : 0 + 0 ≤ _)⟩)
  dsimp only [Pt.U, Pt.locs, Pt.cells, Pt.slots] at X1 l1 y1 z1 st1 hQ1
  subst l1 y1 z1
  obtain ⟨rfl, rfl, k3⟩ := hQ1
  have N4 := Fr.app N0 (Fr.nil n0)
  obtain ⟨cq5, kq5, q5a, q5b, q5c⟩ := isOf hZ k3 E_x
  obtain ⟨_, _, ⟨T5, L5, k5, n5⟩, -, X5, ⟨Lc5, hQ5, l5, y5, z5⟩, st5⟩ := X1.virtualBack hx (y := (⟨"java/lang/String", "charAt", "(I)C"⟩ : MethodName)) (z := (⟨"java/lang/String", "charAt", "(I)C"⟩ : MethodName)) hown (mvT hZ (own_w hw 27 rfl)) (mvT hZ (own_w hw 28 rfl)) (notFace_of_selects (args := #[]) (mvT hZ (own_w hw 30 rfl))) (mvT hZ (own_w hw 30 rfl)) (mvT hZ (own_w hw 29 rfl)) (by decide) (StrChars.Road.chN (W := 0) hZ hwc (kI := 4) (own_w hw 3 rfl) (cs := [(105 : Int32), (110 : Int32), (102 : Int32), (105 : Int32), (110 : Int32), (105 : Int32), (116 : Int32), (121 : Int32)]) (i := 5) (j := (5 : Int32)) E_x V_x C_x K_x cd2 bd2 (S_C.ext O0.2) hzc (S_F.ext O0.2) hfm (by show 8 ≤ 4000; decide) (by show 5 < 8; decide) rfl (by decide) (by decide)) q5a q5c (g := (mkF m 10 #[.val (.ref x), .val (.int (5 : Int32)), .val (.int f)] [(.int (5 : Int32)), (.ref x)])) rfl (by rw [hml]; rfl) (Steps.refl _) (argsL := [(.int (5 : Int32))]) (rest := []) (lenOf pd_1 rfl) rfl (by show 2 * 0 + _ ≤ _; exact Nat.le_of_eq rfl) (hb hby d0_10) (fun _ _ => ⟨rfl, k3, (by decide : 0 + 0 ≤ _), (by decide : 0 + 0 ≤ _)⟩)
  dsimp only [Pt.U, Pt.locs, Pt.cells, Pt.slots] at X5 l5 y5 z5 st5 hQ5
  subst l5 y5 z5
  obtain ⟨rfl, rfl, k6⟩ := hQ5
  have N7 := Fr.app N4 (Fr.nil n0)
  have S8 : ∀ t, Steps p.tables e below (T5.setTop (mkF m 17 #[.val (.ref x), .val (.int (5 : Int32)), .val (.int f)] [(.int (105 : Int32))])) t → Steps p.tables e below (s₁.setTop (mkF m 0 #[.val (.ref x), .val (.int (5 : Int32)), .val (.int f)] [])) t := by
    intro t kt
    refine XS.iloadN X0.here hx rfl (hb hby d0_0) rfl ?_
    refine XS.aloadN X0.here hx rfl (hb hby d0_1) rfl rfl ?_
    show Steps p.tables e below (s₁.setTop (mkF m 2 #[.val (.ref x), .val (.int (5 : Int32)), .val (.int f)] [(.ref x), (.int (5 : Int32))])) _
    refine st1.trans ?_
    refine XS.icmpNo X1.here hx rfl (hb hby d0_5) rfl (tlt ((by decide) : (5 : Int32) < (8 : Int32))).2.1 ?_
    refine XS.aloadN X1.here hx rfl (hb hby d0_8) rfl rfl ?_
    refine XS.iloadN X1.here hx rfl (hb hby d0_9) rfl ?_
    show Steps p.tables e below (T1.setTop (mkF m 10 #[.val (.ref x), .val (.int (5 : Int32)), .val (.int f)] [(.int (5 : Int32)), (.ref x)])) _
    refine st5.trans ?_
    refine XS.goto X5.here hx rfl (pc0 := 13) (pc' := 17) rfl (hb hby d0_13) (by decide) (by decide) ?_
    exact kt
  obtain ⟨fs, hr, hrun, hended, hW, hsame⟩ := X5.leave (v := some (.int (105 : Int32))) (fun h => by rw [Bd.returns] at h; cases h)
  refine ⟨_, _, pre0 _ (S8 _ ?_), hrun, hended, _, _, rfl, ?_, ⟨_, rfl⟩, hW, hsame.mono (by decide) (by decide)⟩
  · exact retN X5 hx (t := .char) Bd.returns (by simp) (hb hby d0_17) hr
  · show Q_rm_at8_5 Z x tx kx f zc fm h0 n0 _ T5.heap _
    rw [k6]
    exact ⟨rfl, N7, rfl⟩
theorem ef_rm_at8_6 (m : MethodId) (x0 : Addr) (x1 : Int32) (x2 : Int32) : entryFrame m #[(.ref x0), (.int x1), (.int x2)] 3 = mkF m 0 #[.val (.ref x0), .val (.int x1), .val (.int x2)] [] := by first | (simp [entryFrame, mkF, argsToLocals, Value.category]; done) | rfl
def Q_rm_at8_6 (Z : State) (x : Addr) (tx : Addr) (kx : ClassId) (f : Int32) (zc : Int32) (fm : Value) (h0 : Heap) (n0 : Nat) (v : Option Value) (h : Heap) (L : List Loc) : Prop := ((v = some (.int (116 : Int32))) ∧ (Fr n0 L) ∧ (h = h0))
set_option maxRecDepth 65536 in
set_option maxHeartbeats 40000000 in
theorem rm_at8_6 (l : Launch) (Z : State) (a0 : Array Value) (hw : ∀ d ∈ tables_1, d.before a0 Z = true) (ws : List Jvm.Cond) (x : Addr) (tx : Addr) (kx : ClassId) (f : Int32) (zc : Int32) (fm : Value) (h0 : Heap) (n0 : Nat) (O0 : Old Z n0 h0) (E_x : Exa Z h0 x "java/lang/String") (V_x : Fld Z h0 x "java/lang/String" "value" "[B" (.ref tx)) (C_x : Fld Z h0 x "java/lang/String" "coder" "B" (.int (0 : Int32))) (K_x : Arv Z h0 tx kx .byte (8 : Int32) [(.int (105 : Int32).toInt8.toInt32), (.int (110 : Int32).toInt8.toInt32), (.int (102 : Int32).toInt8.toInt32), (.int (105 : Int32).toInt8.toInt32), (.int (110 : Int32).toInt8.toInt32), (.int (105 : Int32).toInt8.toInt32), (.int (116 : Int32).toInt8.toInt32), (.int (121 : Int32).toInt8.toInt32)] (.int (0 : Int32))) (la_f : ¬ (f < (0 : Int32)) ∧ ¬ ((255 : Int32) < f)) (S_C : Sta Z Z.heap "java/lang/String" "COMPACT_STRINGS" "Z" (.int zc)) (hzc : ¬ (zc = (0 : Int32))) (S_F : Sta Z Z.heap "jdk/internal/util/Preconditions" "SIOOBE_FORMATTER" "Ljava/util/function/BiFunction;" fm) (hfm : fm.isRef = true) :
    MetFree l (⟨"com/example/logtide/logtide/event/TemporalTextIsInfinitePinLaw", "at", "(Ljava/lang/String;IC)C"⟩ : MethodName) (head1 (Jvm.Cond.code (⟨"com/example/logtide/logtide/event/TemporalTextIsInfinitePinLaw", "at", "(Ljava/lang/String;IC)C"⟩ : MethodName) method_3_code 3 (some .char) :: ws) ({ frames := 4, cells := 0, slots := 0, locals := 53 } : Room)) (fun a U => a = #[(.ref x), (.int (6 : Int32)), (.int f)] ∧ Z.Warmed39 U.vm ∧ U.heap = h0) (fun _ _ _ _ _ => True) (fun _ U o U' => ∃ v L, o = .returned v ∧ Q_rm_at8_6 Z x tx kx f zc fm h0 n0 v U'.heap L ∧ FrameEnd U o U' L ({ frames := 4, cells := 0, slots := 0, locals := 53 } : Room).cells ({ frames := 4, cells := 0, slots := 0, locals := 53 } : Room).slots) := by
  refine MetFree.of_bodySF (plainFor_of_name pn_0) hisR ?_
  intro p e s m args below meth c s₁ Bd hml0 hP hK
  obtain ⟨rfl, hZ, hh⟩ := hP
  have hx := Bd.exec
  have hby := Bd.bytes
  have hml : c.maxLocals = 3 := hml0
  have hown : s.vm.findClass "com/example/logtide/logtide/event/TemporalTextIsInfinitePinLaw" = some m.cls := findClass_of_methodNamed Bd.named
  have hnm := (name_of_methodNamed Bd.named Bd.method).1
  have X0 : Stand p l e ({ frames := 4, cells := 0, slots := 0, locals := 53 } : Room) s m #[(.ref x), (.int (6 : Int32)), (.int f)] below meth c s₁ [] 0 0 := Stand.of_body Bd
  have e0 : s₁.heap = h0 := by rw [← hh, Bd.state]; rfl
  have N0 := Fr.nil n0
  have hwl : ∀ d ∈ StrChars.Road.wordsLen, d.before a0 Z = true := fun d hd => hw d (own_wordsLen d hd)
  have hwc : ∀ d ∈ StrChars.Road.wordsChN, d.before a0 Z = true := fun d hd => hw d (own_wordsChN d hd)
  have hwq : ∀ d ∈ StrChars.Road.wordsEq, d.before a0 Z = true := fun d hd => hw d (own_wordsEq d hd)
  have hws : ∀ d ∈ StrChars.Road.words, d.before a0 Z = true := fun d hd => hw d (own_words d hd)
  have pre0 : ∀ t, Steps p.tables e below (s₁.setTop (mkF m 0 #[.val (.ref x), .val (.int (6 : Int32)), .val (.int f)] [])) t → Steps p.tables e below (s₁.setTop (entryFrame m #[(.ref x), (.int (6 : Int32)), (.int f)] 3)) t := fun t k => castTop (ef_rm_at8_6 m x (6 : Int32) f) k
  have la2 : ∀ c ∈ ([(105 : Int32), (110 : Int32), (102 : Int32), (105 : Int32), (110 : Int32), (105 : Int32), (116 : Int32), (121 : Int32)] : List Int32), ¬ c < 0 ∧ ¬ (255 : Int32) < c := by
    intro c hc
    simp only [List.mem_cons, List.not_mem_nil, or_false] at hc
    rcases hc with rfl | rfl | rfl | rfl | rfl | rfl | rfl | rfl
    · exact ⟨by decide, by decide⟩
    · exact ⟨by decide, by decide⟩
    · exact ⟨by decide, by decide⟩
    · exact ⟨by decide, by decide⟩
    · exact ⟨by decide, by decide⟩
    · exact ⟨by decide, by decide⟩
    · exact ⟨by decide, by decide⟩
    · exact ⟨by decide, by decide⟩
  have cd2 : StrChars.Road.CodA ([(105 : Int32), (110 : Int32), (102 : Int32), (105 : Int32), (110 : Int32), (105 : Int32), (116 : Int32), (121 : Int32)] : List Int32) 0 (8 : Int32) [(.int (105 : Int32).toInt8.toInt32), (.int (110 : Int32).toInt8.toInt32), (.int (102 : Int32).toInt8.toInt32), (.int (105 : Int32).toInt8.toInt32), (.int (110 : Int32).toInt8.toInt32), (.int (105 : Int32).toInt8.toInt32), (.int (116 : Int32).toInt8.toInt32), (.int (121 : Int32).toInt8.toInt32)] := StrChars.Road.codOf (n := 8) rfl (fun x hx => (la2 x hx).2)
  have bd2 := own_up la2
  obtain ⟨cq1, kq1, q1a, q1b, q1c⟩ := isOf hZ e0 E_x
  obtain ⟨_, _, ⟨T1, L1, k1, n1⟩, -, X1, ⟨Lc1, hQ1, l1, y1, z1⟩, st1⟩ := X0.virtualBack hx (y := (⟨"java/lang/String", "length", "()I"⟩ : MethodName)) (z := (⟨"java/lang/String", "length", "()I"⟩ : MethodName)) hown (mvT hZ (own_w hw 14 rfl)) (mvT hZ (own_w hw 15 rfl)) (notFace_of_selects (args := #[]) (mvT hZ (own_w hw 17 rfl))) (mvT hZ (own_w hw 17 rfl)) (mvT hZ (own_w hw 16 rfl)) (by decide) (StrChars.Road.lenW (W := 1) hZ hwl (kI := 4) (own_w hw 3 rfl) (cs := [(105 : Int32), (110 : Int32), (102 : Int32), (105 : Int32), (110 : Int32), (105 : Int32), (116 : Int32), (121 : Int32)]) E_x V_x C_x K_x cd2 bd2 (S_C.ext O0.2) hzc (by show 8 ≤ 4000; decide) (by decide) (by decide)) q1a q1c (g := (mkF m 2 #[.val (.ref x), .val (.int (6 : Int32)), .val (.int f)] [(.ref x), (.int (6 : Int32))])) rfl (by rw [hml]; rfl) (Steps.refl _) (argsL := []) (rest := [(.int (6 : Int32))]) (lenOf pd_0 rfl) rfl (by show 2 * 0 + _ ≤ _; exact Nat.le_of_eq rfl) (hb hby d0_2) (fun _ _ => ⟨rfl, e0, (by decide : 0 + 0 ≤ _), (by decide : 0 + 0 ≤ _)⟩)
  dsimp only [Pt.U, Pt.locs, Pt.cells, Pt.slots] at X1 l1 y1 z1 st1 hQ1
  subst l1 y1 z1
  obtain ⟨rfl, rfl, k3⟩ := hQ1
  have N4 := Fr.app N0 (Fr.nil n0)
  obtain ⟨cq5, kq5, q5a, q5b, q5c⟩ := isOf hZ k3 E_x
  obtain ⟨_, _, ⟨T5, L5, k5, n5⟩, -, X5, ⟨Lc5, hQ5, l5, y5, z5⟩, st5⟩ := X1.virtualBack hx (y := (⟨"java/lang/String", "charAt", "(I)C"⟩ : MethodName)) (z := (⟨"java/lang/String", "charAt", "(I)C"⟩ : MethodName)) hown (mvT hZ (own_w hw 27 rfl)) (mvT hZ (own_w hw 28 rfl)) (notFace_of_selects (args := #[]) (mvT hZ (own_w hw 30 rfl))) (mvT hZ (own_w hw 30 rfl)) (mvT hZ (own_w hw 29 rfl)) (by decide) (StrChars.Road.chN (W := 0) hZ hwc (kI := 4) (own_w hw 3 rfl) (cs := [(105 : Int32), (110 : Int32), (102 : Int32), (105 : Int32), (110 : Int32), (105 : Int32), (116 : Int32), (121 : Int32)]) (i := 6) (j := (6 : Int32)) E_x V_x C_x K_x cd2 bd2 (S_C.ext O0.2) hzc (S_F.ext O0.2) hfm (by show 8 ≤ 4000; decide) (by show 6 < 8; decide) rfl (by decide) (by decide)) q5a q5c (g := (mkF m 10 #[.val (.ref x), .val (.int (6 : Int32)), .val (.int f)] [(.int (6 : Int32)), (.ref x)])) rfl (by rw [hml]; rfl) (Steps.refl _) (argsL := [(.int (6 : Int32))]) (rest := []) (lenOf pd_1 rfl) rfl (by show 2 * 0 + _ ≤ _; exact Nat.le_of_eq rfl) (hb hby d0_10) (fun _ _ => ⟨rfl, k3, (by decide : 0 + 0 ≤ _), (by decide : 0 + 0 ≤ _)⟩)
  dsimp only [Pt.U, Pt.locs, Pt.cells, Pt.slots] at X5 l5 y5 z5 st5 hQ5
  subst l5 y5 z5
  obtain ⟨rfl, rfl, k6⟩ := hQ5
  have N7 := Fr.app N4 (Fr.nil n0)
  have S8 : ∀ t, Steps p.tables e below (T5.setTop (mkF m 17 #[.val (.ref x), .val (.int (6 : Int32)), .val (.int f)] [(.int (116 : Int32))])) t → Steps p.tables e below (s₁.setTop (mkF m 0 #[.val (.ref x), .val (.int (6 : Int32)), .val (.int f)] [])) t := by
    intro t kt
    refine XS.iloadN X0.here hx rfl (hb hby d0_0) rfl ?_
    refine XS.aloadN X0.here hx rfl (hb hby d0_1) rfl rfl ?_
    show Steps p.tables e below (s₁.setTop (mkF m 2 #[.val (.ref x), .val (.int (6 : Int32)), .val (.int f)] [(.ref x), (.int (6 : Int32))])) _
    refine st1.trans ?_
    refine XS.icmpNo X1.here hx rfl (hb hby d0_5) rfl (tlt ((by decide) : (6 : Int32) < (8 : Int32))).2.1 ?_
    refine XS.aloadN X1.here hx rfl (hb hby d0_8) rfl rfl ?_
    refine XS.iloadN X1.here hx rfl (hb hby d0_9) rfl ?_
    show Steps p.tables e below (T1.setTop (mkF m 10 #[.val (.ref x), .val (.int (6 : Int32)), .val (.int f)] [(.int (6 : Int32)), (.ref x)])) _
    refine st5.trans ?_
    refine XS.goto X5.here hx rfl (pc0 := 13) (pc' := 17) rfl (hb hby d0_13) (by decide) (by decide) ?_
    exact kt
  obtain ⟨fs, hr, hrun, hended, hW, hsame⟩ := X5.leave (v := some (.int (116 : Int32))) (fun h => by rw [Bd.returns] at h; cases h)
  refine ⟨_, _, pre0 _ (S8 _ ?_), hrun, hended, _, _, rfl, ?_, ⟨_, rfl⟩, hW, hsame.mono (by decide) (by decide)⟩
  · exact retN X5 hx (t := .char) Bd.returns (by simp) (hb hby d0_17) hr
  · show Q_rm_at8_6 Z x tx kx f zc fm h0 n0 _ T5.heap _
    rw [k6]
    exact ⟨rfl, N7, rfl⟩
theorem ef_rm_at8_7 (m : MethodId) (x0 : Addr) (x1 : Int32) (x2 : Int32) : entryFrame m #[(.ref x0), (.int x1), (.int x2)] 3 = mkF m 0 #[.val (.ref x0), .val (.int x1), .val (.int x2)] [] := by first | (simp [entryFrame, mkF, argsToLocals, Value.category]; done) | rfl
def Q_rm_at8_7 (Z : State) (x : Addr) (tx : Addr) (kx : ClassId) (f : Int32) (zc : Int32) (fm : Value) (h0 : Heap) (n0 : Nat) (v : Option Value) (h : Heap) (L : List Loc) : Prop := ((v = some (.int (121 : Int32))) ∧ (Fr n0 L) ∧ (h = h0))
set_option maxRecDepth 65536 in
set_option maxHeartbeats 40000000 in
theorem rm_at8_7 (l : Launch) (Z : State) (a0 : Array Value) (hw : ∀ d ∈ tables_1, d.before a0 Z = true) (ws : List Jvm.Cond) (x : Addr) (tx : Addr) (kx : ClassId) (f : Int32) (zc : Int32) (fm : Value) (h0 : Heap) (n0 : Nat) (O0 : Old Z n0 h0) (E_x : Exa Z h0 x "java/lang/String") (V_x : Fld Z h0 x "java/lang/String" "value" "[B" (.ref tx)) (C_x : Fld Z h0 x "java/lang/String" "coder" "B" (.int (0 : Int32))) (K_x : Arv Z h0 tx kx .byte (8 : Int32) [(.int (105 : Int32).toInt8.toInt32), (.int (110 : Int32).toInt8.toInt32), (.int (102 : Int32).toInt8.toInt32), (.int (105 : Int32).toInt8.toInt32), (.int (110 : Int32).toInt8.toInt32), (.int (105 : Int32).toInt8.toInt32), (.int (116 : Int32).toInt8.toInt32), (.int (121 : Int32).toInt8.toInt32)] (.int (0 : Int32))) (la_f : ¬ (f < (0 : Int32)) ∧ ¬ ((255 : Int32) < f)) (S_C : Sta Z Z.heap "java/lang/String" "COMPACT_STRINGS" "Z" (.int zc)) (hzc : ¬ (zc = (0 : Int32))) (S_F : Sta Z Z.heap "jdk/internal/util/Preconditions" "SIOOBE_FORMATTER" "Ljava/util/function/BiFunction;" fm) (hfm : fm.isRef = true) :
    MetFree l (⟨"com/example/logtide/logtide/event/TemporalTextIsInfinitePinLaw", "at", "(Ljava/lang/String;IC)C"⟩ : MethodName) (head1 (Jvm.Cond.code (⟨"com/example/logtide/logtide/event/TemporalTextIsInfinitePinLaw", "at", "(Ljava/lang/String;IC)C"⟩ : MethodName) method_3_code 3 (some .char) :: ws) ({ frames := 4, cells := 0, slots := 0, locals := 53 } : Room)) (fun a U => a = #[(.ref x), (.int (7 : Int32)), (.int f)] ∧ Z.Warmed39 U.vm ∧ U.heap = h0) (fun _ _ _ _ _ => True) (fun _ U o U' => ∃ v L, o = .returned v ∧ Q_rm_at8_7 Z x tx kx f zc fm h0 n0 v U'.heap L ∧ FrameEnd U o U' L ({ frames := 4, cells := 0, slots := 0, locals := 53 } : Room).cells ({ frames := 4, cells := 0, slots := 0, locals := 53 } : Room).slots) := by
  refine MetFree.of_bodySF (plainFor_of_name pn_0) hisR ?_
  intro p e s m args below meth c s₁ Bd hml0 hP hK
  obtain ⟨rfl, hZ, hh⟩ := hP
  have hx := Bd.exec
  have hby := Bd.bytes
  have hml : c.maxLocals = 3 := hml0
  have hown : s.vm.findClass "com/example/logtide/logtide/event/TemporalTextIsInfinitePinLaw" = some m.cls := findClass_of_methodNamed Bd.named
  have hnm := (name_of_methodNamed Bd.named Bd.method).1
  have X0 : Stand p l e ({ frames := 4, cells := 0, slots := 0, locals := 53 } : Room) s m #[(.ref x), (.int (7 : Int32)), (.int f)] below meth c s₁ [] 0 0 := Stand.of_body Bd
  have e0 : s₁.heap = h0 := by rw [← hh, Bd.state]; rfl
  have N0 := Fr.nil n0
  have hwl : ∀ d ∈ StrChars.Road.wordsLen, d.before a0 Z = true := fun d hd => hw d (own_wordsLen d hd)
  have hwc : ∀ d ∈ StrChars.Road.wordsChN, d.before a0 Z = true := fun d hd => hw d (own_wordsChN d hd)
  have hwq : ∀ d ∈ StrChars.Road.wordsEq, d.before a0 Z = true := fun d hd => hw d (own_wordsEq d hd)
  have hws : ∀ d ∈ StrChars.Road.words, d.before a0 Z = true := fun d hd => hw d (own_words d hd)
  have pre0 : ∀ t, Steps p.tables e below (s₁.setTop (mkF m 0 #[.val (.ref x), .val (.int (7 : Int32)), .val (.int f)] [])) t → Steps p.tables e below (s₁.setTop (entryFrame m #[(.ref x), (.int (7 : Int32)), (.int f)] 3)) t := fun t k => castTop (ef_rm_at8_7 m x (7 : Int32) f) k
  have la2 : ∀ c ∈ ([(105 : Int32), (110 : Int32), (102 : Int32), (105 : Int32), (110 : Int32), (105 : Int32), (116 : Int32), (121 : Int32)] : List Int32), ¬ c < 0 ∧ ¬ (255 : Int32) < c := by
    intro c hc
    simp only [List.mem_cons, List.not_mem_nil, or_false] at hc
    rcases hc with rfl | rfl | rfl | rfl | rfl | rfl | rfl | rfl
    · exact ⟨by decide, by decide⟩
    · exact ⟨by decide, by decide⟩
    · exact ⟨by decide, by decide⟩
    · exact ⟨by decide, by decide⟩
    · exact ⟨by decide, by decide⟩
    · exact ⟨by decide, by decide⟩
    · exact ⟨by decide, by decide⟩
    · exact ⟨by decide, by decide⟩
  have cd2 : StrChars.Road.CodA ([(105 : Int32), (110 : Int32), (102 : Int32), (105 : Int32), (110 : Int32), (105 : Int32), (116 : Int32), (121 : Int32)] : List Int32) 0 (8 : Int32) [(.int (105 : Int32).toInt8.toInt32), (.int (110 : Int32).toInt8.toInt32), (.int (102 : Int32).toInt8.toInt32), (.int (105 : Int32).toInt8.toInt32), (.int (110 : Int32).toInt8.toInt32), (.int (105 : Int32).toInt8.toInt32), (.int (116 : Int32).toInt8.toInt32), (.int (121 : Int32).toInt8.toInt32)] := StrChars.Road.codOf (n := 8) rfl (fun x hx => (la2 x hx).2)
  have bd2 := own_up la2
  obtain ⟨cq1, kq1, q1a, q1b, q1c⟩ := isOf hZ e0 E_x
  obtain ⟨_, _, ⟨T1, L1, k1, n1⟩, -, X1, ⟨Lc1, hQ1, l1, y1, z1⟩, st1⟩ := X0.virtualBack hx (y := (⟨"java/lang/String", "length", "()I"⟩ : MethodName)) (z := (⟨"java/lang/String", "length", "()I"⟩ : MethodName)) hown (mvT hZ (own_w hw 14 rfl)) (mvT hZ (own_w hw 15 rfl)) (notFace_of_selects (args := #[]) (mvT hZ (own_w hw 17 rfl))) (mvT hZ (own_w hw 17 rfl)) (mvT hZ (own_w hw 16 rfl)) (by decide) (StrChars.Road.lenW (W := 1) hZ hwl (kI := 4) (own_w hw 3 rfl) (cs := [(105 : Int32), (110 : Int32), (102 : Int32), (105 : Int32), (110 : Int32), (105 : Int32), (116 : Int32), (121 : Int32)]) E_x V_x C_x K_x cd2 bd2 (S_C.ext O0.2) hzc (by show 8 ≤ 4000; decide) (by decide) (by decide)) q1a q1c (g := (mkF m 2 #[.val (.ref x), .val (.int (7 : Int32)), .val (.int f)] [(.ref x), (.int (7 : Int32))])) rfl (by rw [hml]; rfl) (Steps.refl _) (argsL := []) (rest := [(.int (7 : Int32))]) (lenOf pd_0 rfl) rfl (by show 2 * 0 + _ ≤ _; exact Nat.le_of_eq rfl) (hb hby d0_2) (fun _ _ => ⟨rfl, e0, (by decide : 0 + 0 ≤ _), (by decide : 0 + 0 ≤ _)⟩)
  dsimp only [Pt.U, Pt.locs, Pt.cells, Pt.slots] at X1 l1 y1 z1 st1 hQ1
  subst l1 y1 z1
  obtain ⟨rfl, rfl, k3⟩ := hQ1
  have N4 := Fr.app N0 (Fr.nil n0)
  obtain ⟨cq5, kq5, q5a, q5b, q5c⟩ := isOf hZ k3 E_x
  obtain ⟨_, _, ⟨T5, L5, k5, n5⟩, -, X5, ⟨Lc5, hQ5, l5, y5, z5⟩, st5⟩ := X1.virtualBack hx (y := (⟨"java/lang/String", "charAt", "(I)C"⟩ : MethodName)) (z := (⟨"java/lang/String", "charAt", "(I)C"⟩ : MethodName)) hown (mvT hZ (own_w hw 27 rfl)) (mvT hZ (own_w hw 28 rfl)) (notFace_of_selects (args := #[]) (mvT hZ (own_w hw 30 rfl))) (mvT hZ (own_w hw 30 rfl)) (mvT hZ (own_w hw 29 rfl)) (by decide) (StrChars.Road.chN (W := 0) hZ hwc (kI := 4) (own_w hw 3 rfl) (cs := [(105 : Int32), (110 : Int32), (102 : Int32), (105 : Int32), (110 : Int32), (105 : Int32), (116 : Int32), (121 : Int32)]) (i := 7) (j := (7 : Int32)) E_x V_x C_x K_x cd2 bd2 (S_C.ext O0.2) hzc (S_F.ext O0.2) hfm (by show 8 ≤ 4000; decide) (by show 7 < 8; decide) rfl (by decide) (by decide)) q5a q5c (g := (mkF m 10 #[.val (.ref x), .val (.int (7 : Int32)), .val (.int f)] [(.int (7 : Int32)), (.ref x)])) rfl (by rw [hml]; rfl) (Steps.refl _) (argsL := [(.int (7 : Int32))]) (rest := []) (lenOf pd_1 rfl) rfl (by show 2 * 0 + _ ≤ _; exact Nat.le_of_eq rfl) (hb hby d0_10) (fun _ _ => ⟨rfl, k3, (by decide : 0 + 0 ≤ _), (by decide : 0 + 0 ≤ _)⟩)
  dsimp only [Pt.U, Pt.locs, Pt.cells, Pt.slots] at X5 l5 y5 z5 st5 hQ5
  subst l5 y5 z5
  obtain ⟨rfl, rfl, k6⟩ := hQ5
  have N7 := Fr.app N4 (Fr.nil n0)
  have S8 : ∀ t, Steps p.tables e below (T5.setTop (mkF m 17 #[.val (.ref x), .val (.int (7 : Int32)), .val (.int f)] [(.int (121 : Int32))])) t → Steps p.tables e below (s₁.setTop (mkF m 0 #[.val (.ref x), .val (.int (7 : Int32)), .val (.int f)] [])) t := by
    intro t kt
    refine XS.iloadN X0.here hx rfl (hb hby d0_0) rfl ?_
    refine XS.aloadN X0.here hx rfl (hb hby d0_1) rfl rfl ?_
    show Steps p.tables e below (s₁.setTop (mkF m 2 #[.val (.ref x), .val (.int (7 : Int32)), .val (.int f)] [(.ref x), (.int (7 : Int32))])) _
    refine st1.trans ?_
    refine XS.icmpNo X1.here hx rfl (hb hby d0_5) rfl (tlt ((by decide) : (7 : Int32) < (8 : Int32))).2.1 ?_
    refine XS.aloadN X1.here hx rfl (hb hby d0_8) rfl rfl ?_
    refine XS.iloadN X1.here hx rfl (hb hby d0_9) rfl ?_
    show Steps p.tables e below (T1.setTop (mkF m 10 #[.val (.ref x), .val (.int (7 : Int32)), .val (.int f)] [(.int (7 : Int32)), (.ref x)])) _
    refine st5.trans ?_
    refine XS.goto X5.here hx rfl (pc0 := 13) (pc' := 17) rfl (hb hby d0_13) (by decide) (by decide) ?_
    exact kt
  obtain ⟨fs, hr, hrun, hended, hW, hsame⟩ := X5.leave (v := some (.int (121 : Int32))) (fun h => by rw [Bd.returns] at h; cases h)
  refine ⟨_, _, pre0 _ (S8 _ ?_), hrun, hended, _, _, rfl, ?_, ⟨_, rfl⟩, hW, hsame.mono (by decide) (by decide)⟩
  · exact retN X5 hx (t := .char) Bd.returns (by simp) (hb hby d0_17) hr
  · show Q_rm_at8_7 Z x tx kx f zc fm h0 n0 _ T5.heap _
    rw [k6]
    exact ⟨rfl, N7, rfl⟩
theorem d0_16 : decode method_3_code 16 = .ok (.iload_n 2, 1) := by decide +kernel
theorem ef_rm_at8_8 (m : MethodId) (x0 : Addr) (x1 : Int32) (x2 : Int32) : entryFrame m #[(.ref x0), (.int x1), (.int x2)] 3 = mkF m 0 #[.val (.ref x0), .val (.int x1), .val (.int x2)] [] := by first | (simp [entryFrame, mkF, argsToLocals, Value.category]; done) | rfl
def Q_rm_at8_8 (Z : State) (x : Addr) (tx : Addr) (kx : ClassId) (f : Int32) (zc : Int32) (fm : Value) (h0 : Heap) (n0 : Nat) (v : Option Value) (h : Heap) (L : List Loc) : Prop := ((v = some (.int f)) ∧ (Fr n0 L) ∧ (h = h0))
set_option maxRecDepth 65536 in
set_option maxHeartbeats 40000000 in
theorem rm_at8_8 (l : Launch) (Z : State) (a0 : Array Value) (hw : ∀ d ∈ tables_1, d.before a0 Z = true) (ws : List Jvm.Cond) (x : Addr) (tx : Addr) (kx : ClassId) (f : Int32) (zc : Int32) (fm : Value) (h0 : Heap) (n0 : Nat) (O0 : Old Z n0 h0) (E_x : Exa Z h0 x "java/lang/String") (V_x : Fld Z h0 x "java/lang/String" "value" "[B" (.ref tx)) (C_x : Fld Z h0 x "java/lang/String" "coder" "B" (.int (0 : Int32))) (K_x : Arv Z h0 tx kx .byte (8 : Int32) [(.int (105 : Int32).toInt8.toInt32), (.int (110 : Int32).toInt8.toInt32), (.int (102 : Int32).toInt8.toInt32), (.int (105 : Int32).toInt8.toInt32), (.int (110 : Int32).toInt8.toInt32), (.int (105 : Int32).toInt8.toInt32), (.int (116 : Int32).toInt8.toInt32), (.int (121 : Int32).toInt8.toInt32)] (.int (0 : Int32))) (la_f : ¬ (f < (0 : Int32)) ∧ ¬ ((255 : Int32) < f)) (S_C : Sta Z Z.heap "java/lang/String" "COMPACT_STRINGS" "Z" (.int zc)) (hzc : ¬ (zc = (0 : Int32))) (S_F : Sta Z Z.heap "jdk/internal/util/Preconditions" "SIOOBE_FORMATTER" "Ljava/util/function/BiFunction;" fm) (hfm : fm.isRef = true) :
    MetFree l (⟨"com/example/logtide/logtide/event/TemporalTextIsInfinitePinLaw", "at", "(Ljava/lang/String;IC)C"⟩ : MethodName) (head1 (Jvm.Cond.code (⟨"com/example/logtide/logtide/event/TemporalTextIsInfinitePinLaw", "at", "(Ljava/lang/String;IC)C"⟩ : MethodName) method_3_code 3 (some .char) :: ws) ({ frames := 2, cells := 0, slots := 0, locals := 26 } : Room)) (fun a U => a = #[(.ref x), (.int (8 : Int32)), (.int f)] ∧ Z.Warmed39 U.vm ∧ U.heap = h0) (fun _ _ _ _ _ => True) (fun _ U o U' => ∃ v L, o = .returned v ∧ Q_rm_at8_8 Z x tx kx f zc fm h0 n0 v U'.heap L ∧ FrameEnd U o U' L ({ frames := 2, cells := 0, slots := 0, locals := 26 } : Room).cells ({ frames := 2, cells := 0, slots := 0, locals := 26 } : Room).slots) := by
  refine MetFree.of_bodySF (plainFor_of_name pn_0) hisR ?_
  intro p e s m args below meth c s₁ Bd hml0 hP hK
  obtain ⟨rfl, hZ, hh⟩ := hP
  have hx := Bd.exec
  have hby := Bd.bytes
  have hml : c.maxLocals = 3 := hml0
  have hown : s.vm.findClass "com/example/logtide/logtide/event/TemporalTextIsInfinitePinLaw" = some m.cls := findClass_of_methodNamed Bd.named
  have hnm := (name_of_methodNamed Bd.named Bd.method).1
  have X0 : Stand p l e ({ frames := 2, cells := 0, slots := 0, locals := 26 } : Room) s m #[(.ref x), (.int (8 : Int32)), (.int f)] below meth c s₁ [] 0 0 := Stand.of_body Bd
  have e0 : s₁.heap = h0 := by rw [← hh, Bd.state]; rfl
  have N0 := Fr.nil n0
  have hwl : ∀ d ∈ StrChars.Road.wordsLen, d.before a0 Z = true := fun d hd => hw d (own_wordsLen d hd)
  have hwc : ∀ d ∈ StrChars.Road.wordsChN, d.before a0 Z = true := fun d hd => hw d (own_wordsChN d hd)
  have hwq : ∀ d ∈ StrChars.Road.wordsEq, d.before a0 Z = true := fun d hd => hw d (own_wordsEq d hd)
  have hws : ∀ d ∈ StrChars.Road.words, d.before a0 Z = true := fun d hd => hw d (own_words d hd)
  have pre0 : ∀ t, Steps p.tables e below (s₁.setTop (mkF m 0 #[.val (.ref x), .val (.int (8 : Int32)), .val (.int f)] [])) t → Steps p.tables e below (s₁.setTop (entryFrame m #[(.ref x), (.int (8 : Int32)), (.int f)] 3)) t := fun t k => castTop (ef_rm_at8_8 m x (8 : Int32) f) k
  have la2 : ∀ c ∈ ([(105 : Int32), (110 : Int32), (102 : Int32), (105 : Int32), (110 : Int32), (105 : Int32), (116 : Int32), (121 : Int32)] : List Int32), ¬ c < 0 ∧ ¬ (255 : Int32) < c := by
    intro c hc
    simp only [List.mem_cons, List.not_mem_nil, or_false] at hc
    rcases hc with rfl | rfl | rfl | rfl | rfl | rfl | rfl | rfl
    · exact ⟨by decide, by decide⟩
    · exact ⟨by decide, by decide⟩
    · exact ⟨by decide, by decide⟩
    · exact ⟨by decide, by decide⟩
    · exact ⟨by decide, by decide⟩
    · exact ⟨by decide, by decide⟩
    · exact ⟨by decide, by decide⟩
    · exact ⟨by decide, by decide⟩
  have cd2 : StrChars.Road.CodA ([(105 : Int32), (110 : Int32), (102 : Int32), (105 : Int32), (110 : Int32), (105 : Int32), (116 : Int32), (121 : Int32)] : List Int32) 0 (8 : Int32) [(.int (105 : Int32).toInt8.toInt32), (.int (110 : Int32).toInt8.toInt32), (.int (102 : Int32).toInt8.toInt32), (.int (105 : Int32).toInt8.toInt32), (.int (110 : Int32).toInt8.toInt32), (.int (105 : Int32).toInt8.toInt32), (.int (116 : Int32).toInt8.toInt32), (.int (121 : Int32).toInt8.toInt32)] := StrChars.Road.codOf (n := 8) rfl (fun x hx => (la2 x hx).2)
  have bd2 := own_up la2
  obtain ⟨cq1, kq1, q1a, q1b, q1c⟩ := isOf hZ e0 E_x
  obtain ⟨_, _, ⟨T1, L1, k1, n1⟩, -, X1, ⟨Lc1, hQ1, l1, y1, z1⟩, st1⟩ := X0.virtualBack hx (y := (⟨"java/lang/String", "length", "()I"⟩ : MethodName)) (z := (⟨"java/lang/String", "length", "()I"⟩ : MethodName)) hown (mvT hZ (own_w hw 14 rfl)) (mvT hZ (own_w hw 15 rfl)) (notFace_of_selects (args := #[]) (mvT hZ (own_w hw 17 rfl))) (mvT hZ (own_w hw 17 rfl)) (mvT hZ (own_w hw 16 rfl)) (by decide) (StrChars.Road.lenW (W := 1) hZ hwl (kI := 4) (own_w hw 3 rfl) (cs := [(105 : Int32), (110 : Int32), (102 : Int32), (105 : Int32), (110 : Int32), (105 : Int32), (116 : Int32), (121 : Int32)]) E_x V_x C_x K_x cd2 bd2 (S_C.ext O0.2) hzc (by show 8 ≤ 4000; decide) (by decide) (by decide)) q1a q1c (g := (mkF m 2 #[.val (.ref x), .val (.int (8 : Int32)), .val (.int f)] [(.ref x), (.int (8 : Int32))])) rfl (by rw [hml]; rfl) (Steps.refl _) (argsL := []) (rest := [(.int (8 : Int32))]) (lenOf pd_0 rfl) rfl (by show 2 * 0 + _ ≤ _; exact Nat.le_of_eq rfl) (hb hby d0_2) (fun _ _ => ⟨rfl, e0, (by decide : 0 + 0 ≤ _), (by decide : 0 + 0 ≤ _)⟩)
  dsimp only [Pt.U, Pt.locs, Pt.cells, Pt.slots] at X1 l1 y1 z1 st1 hQ1
  subst l1 y1 z1
  obtain ⟨rfl, rfl, k3⟩ := hQ1
  have N4 := Fr.app N0 (Fr.nil n0)
  have S5 : ∀ t, Steps p.tables e below (T1.setTop (mkF m 17 #[.val (.ref x), .val (.int (8 : Int32)), .val (.int f)] [(.int f)])) t → Steps p.tables e below (s₁.setTop (mkF m 0 #[.val (.ref x), .val (.int (8 : Int32)), .val (.int f)] [])) t := by
    intro t kt
    refine XS.iloadN X0.here hx rfl (hb hby d0_0) rfl ?_
    refine XS.aloadN X0.here hx rfl (hb hby d0_1) rfl rfl ?_
    show Steps p.tables e below (s₁.setTop (mkF m 2 #[.val (.ref x), .val (.int (8 : Int32)), .val (.int f)] [(.ref x), (.int (8 : Int32))])) _
    refine st1.trans ?_
    refine XS.icmpYes X1.here hx rfl (pc0 := 5) (pc' := 16) rfl (hb hby d0_5) rfl (flt ((by decide) : ¬ ((8 : Int32) < (8 : Int32)))).2.1 (by decide) (by decide) ?_
    refine XS.iloadN X1.here hx rfl (hb hby d0_16) rfl ?_
    exact kt
  obtain ⟨fs, hr, hrun, hended, hW, hsame⟩ := X1.leave (v := some (.int f)) (fun h => by rw [Bd.returns] at h; cases h)
  refine ⟨_, _, pre0 _ (S5 _ ?_), hrun, hended, _, _, rfl, ?_, ⟨_, rfl⟩, hW, hsame.mono (by decide) (by decide)⟩
  · refine retN X1 hx (t := .char) Bd.returns (by simp) (hb hby d0_17) (fun fz az a1 a2 a3 => ?_)
    rw [show nar .char f = f from own_nar la_f]
    exact hr fz az a1 a2 a3
  · show Q_rm_at8_8 Z x tx kx f zc fm h0 n0 _ T1.heap _
    rw [k3]
    exact ⟨rfl, N4, rfl⟩
theorem ef_rm_at8_9 (m : MethodId) (x0 : Addr) (x1 : Int32) (x2 : Int32) : entryFrame m #[(.ref x0), (.int x1), (.int x2)] 3 = mkF m 0 #[.val (.ref x0), .val (.int x1), .val (.int x2)] [] := by first | (simp [entryFrame, mkF, argsToLocals, Value.category]; done) | rfl
def Q_rm_at8_9 (Z : State) (x : Addr) (tx : Addr) (kx : ClassId) (f : Int32) (zc : Int32) (fm : Value) (h0 : Heap) (n0 : Nat) (v : Option Value) (h : Heap) (L : List Loc) : Prop := ((v = some (.int f)) ∧ (Fr n0 L) ∧ (h = h0))
set_option maxRecDepth 65536 in
set_option maxHeartbeats 40000000 in
theorem rm_at8_9 (l : Launch) (Z : State) (a0 : Array Value) (hw : ∀ d ∈ tables_1, d.before a0 Z = true) (ws : List Jvm.Cond) (x : Addr) (tx : Addr) (kx : ClassId) (f : Int32) (zc : Int32) (fm : Value) (h0 : Heap) (n0 : Nat) (O0 : Old Z n0 h0) (E_x : Exa Z h0 x "java/lang/String") (V_x : Fld Z h0 x "java/lang/String" "value" "[B" (.ref tx)) (C_x : Fld Z h0 x "java/lang/String" "coder" "B" (.int (0 : Int32))) (K_x : Arv Z h0 tx kx .byte (8 : Int32) [(.int (105 : Int32).toInt8.toInt32), (.int (110 : Int32).toInt8.toInt32), (.int (102 : Int32).toInt8.toInt32), (.int (105 : Int32).toInt8.toInt32), (.int (110 : Int32).toInt8.toInt32), (.int (105 : Int32).toInt8.toInt32), (.int (116 : Int32).toInt8.toInt32), (.int (121 : Int32).toInt8.toInt32)] (.int (0 : Int32))) (la_f : ¬ (f < (0 : Int32)) ∧ ¬ ((255 : Int32) < f)) (S_C : Sta Z Z.heap "java/lang/String" "COMPACT_STRINGS" "Z" (.int zc)) (hzc : ¬ (zc = (0 : Int32))) (S_F : Sta Z Z.heap "jdk/internal/util/Preconditions" "SIOOBE_FORMATTER" "Ljava/util/function/BiFunction;" fm) (hfm : fm.isRef = true) :
    MetFree l (⟨"com/example/logtide/logtide/event/TemporalTextIsInfinitePinLaw", "at", "(Ljava/lang/String;IC)C"⟩ : MethodName) (head1 (Jvm.Cond.code (⟨"com/example/logtide/logtide/event/TemporalTextIsInfinitePinLaw", "at", "(Ljava/lang/String;IC)C"⟩ : MethodName) method_3_code 3 (some .char) :: ws) ({ frames := 2, cells := 0, slots := 0, locals := 26 } : Room)) (fun a U => a = #[(.ref x), (.int (9 : Int32)), (.int f)] ∧ Z.Warmed39 U.vm ∧ U.heap = h0) (fun _ _ _ _ _ => True) (fun _ U o U' => ∃ v L, o = .returned v ∧ Q_rm_at8_9 Z x tx kx f zc fm h0 n0 v U'.heap L ∧ FrameEnd U o U' L ({ frames := 2, cells := 0, slots := 0, locals := 26 } : Room).cells ({ frames := 2, cells := 0, slots := 0, locals := 26 } : Room).slots) := by
  refine MetFree.of_bodySF (plainFor_of_name pn_0) hisR ?_
  intro p e s m args below meth c s₁ Bd hml0 hP hK
  obtain ⟨rfl, hZ, hh⟩ := hP
  have hx := Bd.exec
  have hby := Bd.bytes
  have hml : c.maxLocals = 3 := hml0
  have hown : s.vm.findClass "com/example/logtide/logtide/event/TemporalTextIsInfinitePinLaw" = some m.cls := findClass_of_methodNamed Bd.named
  have hnm := (name_of_methodNamed Bd.named Bd.method).1
  have X0 : Stand p l e ({ frames := 2, cells := 0, slots := 0, locals := 26 } : Room) s m #[(.ref x), (.int (9 : Int32)), (.int f)] below meth c s₁ [] 0 0 := Stand.of_body Bd
  have e0 : s₁.heap = h0 := by rw [← hh, Bd.state]; rfl
  have N0 := Fr.nil n0
  have hwl : ∀ d ∈ StrChars.Road.wordsLen, d.before a0 Z = true := fun d hd => hw d (own_wordsLen d hd)
  have hwc : ∀ d ∈ StrChars.Road.wordsChN, d.before a0 Z = true := fun d hd => hw d (own_wordsChN d hd)
  have hwq : ∀ d ∈ StrChars.Road.wordsEq, d.before a0 Z = true := fun d hd => hw d (own_wordsEq d hd)
  have hws : ∀ d ∈ StrChars.Road.words, d.before a0 Z = true := fun d hd => hw d (own_words d hd)
  have pre0 : ∀ t, Steps p.tables e below (s₁.setTop (mkF m 0 #[.val (.ref x), .val (.int (9 : Int32)), .val (.int f)] [])) t → Steps p.tables e below (s₁.setTop (entryFrame m #[(.ref x), (.int (9 : Int32)), (.int f)] 3)) t := fun t k => castTop (ef_rm_at8_9 m x (9 : Int32) f) k
  have la2 : ∀ c ∈ ([(105 : Int32), (110 : Int32), (102 : Int32), (105 : Int32), (110 : Int32), (105 : Int32), (116 : Int32), (121 : Int32)] : List Int32), ¬ c < 0 ∧ ¬ (255 : Int32) < c := by
    intro c hc
    simp only [List.mem_cons, List.not_mem_nil, or_false] at hc
    rcases hc with rfl | rfl | rfl | rfl | rfl | rfl | rfl | rfl
    · exact ⟨by decide, by decide⟩
    · exact ⟨by decide, by decide⟩
    · exact ⟨by decide, by decide⟩
    · exact ⟨by decide, by decide⟩
    · exact ⟨by decide, by decide⟩
    · exact ⟨by decide, by decide⟩
    · exact ⟨by decide, by decide⟩
    · exact ⟨by decide, by decide⟩
  have cd2 : StrChars.Road.CodA ([(105 : Int32), (110 : Int32), (102 : Int32), (105 : Int32), (110 : Int32), (105 : Int32), (116 : Int32), (121 : Int32)] : List Int32) 0 (8 : Int32) [(.int (105 : Int32).toInt8.toInt32), (.int (110 : Int32).toInt8.toInt32), (.int (102 : Int32).toInt8.toInt32), (.int (105 : Int32).toInt8.toInt32), (.int (110 : Int32).toInt8.toInt32), (.int (105 : Int32).toInt8.toInt32), (.int (116 : Int32).toInt8.toInt32), (.int (121 : Int32).toInt8.toInt32)] := StrChars.Road.codOf (n := 8) rfl (fun x hx => (la2 x hx).2)
  have bd2 := own_up la2
  obtain ⟨cq1, kq1, q1a, q1b, q1c⟩ := isOf hZ e0 E_x
  obtain ⟨_, _, ⟨T1, L1, k1, n1⟩, -, X1, ⟨Lc1, hQ1, l1, y1, z1⟩, st1⟩ := X0.virtualBack hx (y := (⟨"java/lang/String", "length", "()I"⟩ : MethodName)) (z := (⟨"java/lang/String", "length", "()I"⟩ : MethodName)) hown (mvT hZ (own_w hw 14 rfl)) (mvT hZ (own_w hw 15 rfl)) (notFace_of_selects (args := #[]) (mvT hZ (own_w hw 17 rfl))) (mvT hZ (own_w hw 17 rfl)) (mvT hZ (own_w hw 16 rfl)) (by decide) (StrChars.Road.lenW (W := 1) hZ hwl (kI := 4) (own_w hw 3 rfl) (cs := [(105 : Int32), (110 : Int32), (102 : Int32), (105 : Int32), (110 : Int32), (105 : Int32), (116 : Int32), (121 : Int32)]) E_x V_x C_x K_x cd2 bd2 (S_C.ext O0.2) hzc (by show 8 ≤ 4000; decide) (by decide) (by decide)) q1a q1c (g := (mkF m 2 #[.val (.ref x), .val (.int (9 : Int32)), .val (.int f)] [(.ref x), (.int (9 : Int32))])) rfl (by rw [hml]; rfl) (Steps.refl _) (argsL := []) (rest := [(.int (9 : Int32))]) (lenOf pd_0 rfl) rfl (by show 2 * 0 + _ ≤ _; exact Nat.le_of_eq rfl) (hb hby d0_2) (fun _ _ => ⟨rfl, e0, (by decide : 0 + 0 ≤ _), (by decide : 0 + 0 ≤ _)⟩)
  dsimp only [Pt.U, Pt.locs, Pt.cells, Pt.slots] at X1 l1 y1 z1 st1 hQ1
  subst l1 y1 z1
  obtain ⟨rfl, rfl, k3⟩ := hQ1
  have N4 := Fr.app N0 (Fr.nil n0)
  have S5 : ∀ t, Steps p.tables e below (T1.setTop (mkF m 17 #[.val (.ref x), .val (.int (9 : Int32)), .val (.int f)] [(.int f)])) t → Steps p.tables e below (s₁.setTop (mkF m 0 #[.val (.ref x), .val (.int (9 : Int32)), .val (.int f)] [])) t := by
    intro t kt
    refine XS.iloadN X0.here hx rfl (hb hby d0_0) rfl ?_
    refine XS.aloadN X0.here hx rfl (hb hby d0_1) rfl rfl ?_
    show Steps p.tables e below (s₁.setTop (mkF m 2 #[.val (.ref x), .val (.int (9 : Int32)), .val (.int f)] [(.ref x), (.int (9 : Int32))])) _
    refine st1.trans ?_
    refine XS.icmpYes X1.here hx rfl (pc0 := 5) (pc' := 16) rfl (hb hby d0_5) rfl (flt ((by decide) : ¬ ((9 : Int32) < (8 : Int32)))).2.1 (by decide) (by decide) ?_
    refine XS.iloadN X1.here hx rfl (hb hby d0_16) rfl ?_
    exact kt
  obtain ⟨fs, hr, hrun, hended, hW, hsame⟩ := X1.leave (v := some (.int f)) (fun h => by rw [Bd.returns] at h; cases h)
  refine ⟨_, _, pre0 _ (S5 _ ?_), hrun, hended, _, _, rfl, ?_, ⟨_, rfl⟩, hW, hsame.mono (by decide) (by decide)⟩
  · refine retN X1 hx (t := .char) Bd.returns (by simp) (hb hby d0_17) (fun fz az a1 a2 a3 => ?_)
    rw [show nar .char f = f from own_nar la_f]
    exact hr fz az a1 a2 a3
  · show Q_rm_at8_9 Z x tx kx f zc fm h0 n0 _ T1.heap _
    rw [k3]
    exact ⟨rfl, N4, rfl⟩
theorem ef_rm_at9_0 (m : MethodId) (x0 : Addr) (x1 : Int32) (x2 : Int32) : entryFrame m #[(.ref x0), (.int x1), (.int x2)] 3 = mkF m 0 #[.val (.ref x0), .val (.int x1), .val (.int x2)] [] := by first | (simp [entryFrame, mkF, argsToLocals, Value.category]; done) | rfl
def Q_rm_at9_0 (Z : State) (x : Addr) (tx : Addr) (kx : ClassId) (f : Int32) (zc : Int32) (fm : Value) (h0 : Heap) (n0 : Nat) (v : Option Value) (h : Heap) (L : List Loc) : Prop := ((v = some (.int (45 : Int32))) ∧ (Fr n0 L) ∧ (h = h0))
set_option maxRecDepth 65536 in
set_option maxHeartbeats 40000000 in
theorem rm_at9_0 (l : Launch) (Z : State) (a0 : Array Value) (hw : ∀ d ∈ tables_1, d.before a0 Z = true) (ws : List Jvm.Cond) (x : Addr) (tx : Addr) (kx : ClassId) (f : Int32) (zc : Int32) (fm : Value) (h0 : Heap) (n0 : Nat) (O0 : Old Z n0 h0) (E_x : Exa Z h0 x "java/lang/String") (V_x : Fld Z h0 x "java/lang/String" "value" "[B" (.ref tx)) (C_x : Fld Z h0 x "java/lang/String" "coder" "B" (.int (0 : Int32))) (K_x : Arv Z h0 tx kx .byte (9 : Int32) [(.int (45 : Int32).toInt8.toInt32), (.int (105 : Int32).toInt8.toInt32), (.int (110 : Int32).toInt8.toInt32), (.int (102 : Int32).toInt8.toInt32), (.int (105 : Int32).toInt8.toInt32), (.int (110 : Int32).toInt8.toInt32), (.int (105 : Int32).toInt8.toInt32), (.int (116 : Int32).toInt8.toInt32), (.int (121 : Int32).toInt8.toInt32)] (.int (0 : Int32))) (la_f : ¬ (f < (0 : Int32)) ∧ ¬ ((255 : Int32) < f)) (S_C : Sta Z Z.heap "java/lang/String" "COMPACT_STRINGS" "Z" (.int zc)) (hzc : ¬ (zc = (0 : Int32))) (S_F : Sta Z Z.heap "jdk/internal/util/Preconditions" "SIOOBE_FORMATTER" "Ljava/util/function/BiFunction;" fm) (hfm : fm.isRef = true) :
    MetFree l (⟨"com/example/logtide/logtide/event/TemporalTextIsInfinitePinLaw", "at", "(Ljava/lang/String;IC)C"⟩ : MethodName) (head1 (Jvm.Cond.code (⟨"com/example/logtide/logtide/event/TemporalTextIsInfinitePinLaw", "at", "(Ljava/lang/String;IC)C"⟩ : MethodName) method_3_code 3 (some .char) :: ws) ({ frames := 4, cells := 0, slots := 0, locals := 53 } : Room)) (fun a U => a = #[(.ref x), (.int (0 : Int32)), (.int f)] ∧ Z.Warmed39 U.vm ∧ U.heap = h0) (fun _ _ _ _ _ => True) (fun _ U o U' => ∃ v L, o = .returned v ∧ Q_rm_at9_0 Z x tx kx f zc fm h0 n0 v U'.heap L ∧ FrameEnd U o U' L ({ frames := 4, cells := 0, slots := 0, locals := 53 } : Room).cells ({ frames := 4, cells := 0, slots := 0, locals := 53 } : Room).slots) := by
  refine MetFree.of_bodySF (plainFor_of_name pn_0) hisR ?_
  intro p e s m args below meth c s₁ Bd hml0 hP hK
  obtain ⟨rfl, hZ, hh⟩ := hP
  have hx := Bd.exec
  have hby := Bd.bytes
  have hml : c.maxLocals = 3 := hml0
  have hown : s.vm.findClass "com/example/logtide/logtide/event/TemporalTextIsInfinitePinLaw" = some m.cls := findClass_of_methodNamed Bd.named
  have hnm := (name_of_methodNamed Bd.named Bd.method).1
  have X0 : Stand p l e ({ frames := 4, cells := 0, slots := 0, locals := 53 } : Room) s m #[(.ref x), (.int (0 : Int32)), (.int f)] below meth c s₁ [] 0 0 := Stand.of_body Bd
  have e0 : s₁.heap = h0 := by rw [← hh, Bd.state]; rfl
  have N0 := Fr.nil n0
  have hwl : ∀ d ∈ StrChars.Road.wordsLen, d.before a0 Z = true := fun d hd => hw d (own_wordsLen d hd)
  have hwc : ∀ d ∈ StrChars.Road.wordsChN, d.before a0 Z = true := fun d hd => hw d (own_wordsChN d hd)
  have hwq : ∀ d ∈ StrChars.Road.wordsEq, d.before a0 Z = true := fun d hd => hw d (own_wordsEq d hd)
  have hws : ∀ d ∈ StrChars.Road.words, d.before a0 Z = true := fun d hd => hw d (own_words d hd)
  have pre0 : ∀ t, Steps p.tables e below (s₁.setTop (mkF m 0 #[.val (.ref x), .val (.int (0 : Int32)), .val (.int f)] [])) t → Steps p.tables e below (s₁.setTop (entryFrame m #[(.ref x), (.int (0 : Int32)), (.int f)] 3)) t := fun t k => castTop (ef_rm_at9_0 m x (0 : Int32) f) k
  have la2 : ∀ c ∈ ([(45 : Int32), (105 : Int32), (110 : Int32), (102 : Int32), (105 : Int32), (110 : Int32), (105 : Int32), (116 : Int32), (121 : Int32)] : List Int32), ¬ c < 0 ∧ ¬ (255 : Int32) < c := by
    intro c hc
    simp only [List.mem_cons, List.not_mem_nil, or_false] at hc
    rcases hc with rfl | rfl | rfl | rfl | rfl | rfl | rfl | rfl | rfl
    · exact ⟨by decide, by decide⟩
    · exact ⟨by decide, by decide⟩
    · exact ⟨by decide, by decide⟩
    · exact ⟨by decide, by decide⟩
    · exact ⟨by decide, by decide⟩
    · exact ⟨by decide, by decide⟩
    · exact ⟨by decide, by decide⟩
    · exact ⟨by decide, by decide⟩
    · exact ⟨by decide, by decide⟩
  have cd2 : StrChars.Road.CodA ([(45 : Int32), (105 : Int32), (110 : Int32), (102 : Int32), (105 : Int32), (110 : Int32), (105 : Int32), (116 : Int32), (121 : Int32)] : List Int32) 0 (9 : Int32) [(.int (45 : Int32).toInt8.toInt32), (.int (105 : Int32).toInt8.toInt32), (.int (110 : Int32).toInt8.toInt32), (.int (102 : Int32).toInt8.toInt32), (.int (105 : Int32).toInt8.toInt32), (.int (110 : Int32).toInt8.toInt32), (.int (105 : Int32).toInt8.toInt32), (.int (116 : Int32).toInt8.toInt32), (.int (121 : Int32).toInt8.toInt32)] := StrChars.Road.codOf (n := 9) rfl (fun x hx => (la2 x hx).2)
  have bd2 := own_up la2
  obtain ⟨cq1, kq1, q1a, q1b, q1c⟩ := isOf hZ e0 E_x
  obtain ⟨_, _, ⟨T1, L1, k1, n1⟩, -, X1, ⟨Lc1, hQ1, l1, y1, z1⟩, st1⟩ := X0.virtualBack hx (y := (⟨"java/lang/String", "length", "()I"⟩ : MethodName)) (z := (⟨"java/lang/String", "length", "()I"⟩ : MethodName)) hown (mvT hZ (own_w hw 14 rfl)) (mvT hZ (own_w hw 15 rfl)) (notFace_of_selects (args := #[]) (mvT hZ (own_w hw 17 rfl))) (mvT hZ (own_w hw 17 rfl)) (mvT hZ (own_w hw 16 rfl)) (by decide) (StrChars.Road.lenW (W := 1) hZ hwl (kI := 4) (own_w hw 3 rfl) (cs := [(45 : Int32), (105 : Int32), (110 : Int32), (102 : Int32), (105 : Int32), (110 : Int32), (105 : Int32), (116 : Int32), (121 : Int32)]) E_x V_x C_x K_x cd2 bd2 (S_C.ext O0.2) hzc (by show 9 ≤ 4000; decide) (by decide) (by decide)) q1a q1c (g := (mkF m 2 #[.val (.ref x), .val (.int (0 : Int32)), .val (.int f)] [(.ref x), (.int (0 : Int32))])) rfl (by rw [hml]; rfl) (Steps.refl _) (argsL := []) (rest := [(.int (0 : Int32))]) (lenOf pd_0 rfl) rfl (by show 2 * 0 + _ ≤ _; exact Nat.le_of_eq rfl) (hb hby d0_2) (fun _ _ => ⟨rfl, e0, (by decide : 0 + 0 ≤ _), (by decide : 0 + 0 ≤ _)⟩)
  dsimp only [Pt.U, Pt.locs, Pt.cells, Pt.slots] at X1 l1 y1 z1 st1 hQ1
  subst l1 y1 z1
  obtain ⟨rfl, rfl, k3⟩ := hQ1
  have N4 := Fr.app N0 (Fr.nil n0)
  obtain ⟨cq5, kq5, q5a, q5b, q5c⟩ := isOf hZ k3 E_x
  obtain ⟨_, _, ⟨T5, L5, k5, n5⟩, -, X5, ⟨Lc5, hQ5, l5, y5, z5⟩, st5⟩ := X1.virtualBack hx (y := (⟨"java/lang/String", "charAt", "(I)C"⟩ : MethodName)) (z := (⟨"java/lang/String", "charAt", "(I)C"⟩ : MethodName)) hown (mvT hZ (own_w hw 27 rfl)) (mvT hZ (own_w hw 28 rfl)) (notFace_of_selects (args := #[]) (mvT hZ (own_w hw 30 rfl))) (mvT hZ (own_w hw 30 rfl)) (mvT hZ (own_w hw 29 rfl)) (by decide) (StrChars.Road.chN (W := 0) hZ hwc (kI := 4) (own_w hw 3 rfl) (cs := [(45 : Int32), (105 : Int32), (110 : Int32), (102 : Int32), (105 : Int32), (110 : Int32), (105 : Int32), (116 : Int32), (121 : Int32)]) (i := 0) (j := (0 : Int32)) E_x V_x C_x K_x cd2 bd2 (S_C.ext O0.2) hzc (S_F.ext O0.2) hfm (by show 9 ≤ 4000; decide) (by show 0 < 9; decide) rfl (by decide) (by decide)) q5a q5c (g := (mkF m 10 #[.val (.ref x), .val (.int (0 : Int32)), .val (.int f)] [(.int (0 : Int32)), (.ref x)])) rfl (by rw [hml]; rfl) (Steps.refl _) (argsL := [(.int (0 : Int32))]) (rest := []) (lenOf pd_1 rfl) rfl (by show 2 * 0 + _ ≤ _; exact Nat.le_of_eq rfl) (hb hby d0_10) (fun _ _ => ⟨rfl, k3, (by decide : 0 + 0 ≤ _), (by decide : 0 + 0 ≤ _)⟩)
  dsimp only [Pt.U, Pt.locs, Pt.cells, Pt.slots] at X5 l5 y5 z5 st5 hQ5
  subst l5 y5 z5
  obtain ⟨rfl, rfl, k6⟩ := hQ5
  have N7 := Fr.app N4 (Fr.nil n0)
  have S8 : ∀ t, Steps p.tables e below (T5.setTop (mkF m 17 #[.val (.ref x), .val (.int (0 : Int32)), .val (.int f)] [(.int (45 : Int32))])) t → Steps p.tables e below (s₁.setTop (mkF m 0 #[.val (.ref x), .val (.int (0 : Int32)), .val (.int f)] [])) t := by
    intro t kt
    refine XS.iloadN X0.here hx rfl (hb hby d0_0) rfl ?_
    refine XS.aloadN X0.here hx rfl (hb hby d0_1) rfl rfl ?_
    show Steps p.tables e below (s₁.setTop (mkF m 2 #[.val (.ref x), .val (.int (0 : Int32)), .val (.int f)] [(.ref x), (.int (0 : Int32))])) _
    refine st1.trans ?_
    refine XS.icmpNo X1.here hx rfl (hb hby d0_5) rfl (tlt ((by decide) : (0 : Int32) < (9 : Int32))).2.1 ?_
    refine XS.aloadN X1.here hx rfl (hb hby d0_8) rfl rfl ?_
    refine XS.iloadN X1.here hx rfl (hb hby d0_9) rfl ?_
    show Steps p.tables e below (T1.setTop (mkF m 10 #[.val (.ref x), .val (.int (0 : Int32)), .val (.int f)] [(.int (0 : Int32)), (.ref x)])) _
    refine st5.trans ?_
    refine XS.goto X5.here hx rfl (pc0 := 13) (pc' := 17) rfl (hb hby d0_13) (by decide) (by decide) ?_
    exact kt
  obtain ⟨fs, hr, hrun, hended, hW, hsame⟩ := X5.leave (v := some (.int (45 : Int32))) (fun h => by rw [Bd.returns] at h; cases h)
  refine ⟨_, _, pre0 _ (S8 _ ?_), hrun, hended, _, _, rfl, ?_, ⟨_, rfl⟩, hW, hsame.mono (by decide) (by decide)⟩
  · exact retN X5 hx (t := .char) Bd.returns (by simp) (hb hby d0_17) hr
  · show Q_rm_at9_0 Z x tx kx f zc fm h0 n0 _ T5.heap _
    rw [k6]
    exact ⟨rfl, N7, rfl⟩
theorem ef_rm_at9_1 (m : MethodId) (x0 : Addr) (x1 : Int32) (x2 : Int32) : entryFrame m #[(.ref x0), (.int x1), (.int x2)] 3 = mkF m 0 #[.val (.ref x0), .val (.int x1), .val (.int x2)] [] := by first | (simp [entryFrame, mkF, argsToLocals, Value.category]; done) | rfl
def Q_rm_at9_1 (Z : State) (x : Addr) (tx : Addr) (kx : ClassId) (f : Int32) (zc : Int32) (fm : Value) (h0 : Heap) (n0 : Nat) (v : Option Value) (h : Heap) (L : List Loc) : Prop := ((v = some (.int (105 : Int32))) ∧ (Fr n0 L) ∧ (h = h0))
set_option maxRecDepth 65536 in
set_option maxHeartbeats 40000000 in
theorem rm_at9_1 (l : Launch) (Z : State) (a0 : Array Value) (hw : ∀ d ∈ tables_1, d.before a0 Z = true) (ws : List Jvm.Cond) (x : Addr) (tx : Addr) (kx : ClassId) (f : Int32) (zc : Int32) (fm : Value) (h0 : Heap) (n0 : Nat) (O0 : Old Z n0 h0) (E_x : Exa Z h0 x "java/lang/String") (V_x : Fld Z h0 x "java/lang/String" "value" "[B" (.ref tx)) (C_x : Fld Z h0 x "java/lang/String" "coder" "B" (.int (0 : Int32))) (K_x : Arv Z h0 tx kx .byte (9 : Int32) [(.int (45 : Int32).toInt8.toInt32), (.int (105 : Int32).toInt8.toInt32), (.int (110 : Int32).toInt8.toInt32), (.int (102 : Int32).toInt8.toInt32), (.int (105 : Int32).toInt8.toInt32), (.int (110 : Int32).toInt8.toInt32), (.int (105 : Int32).toInt8.toInt32), (.int (116 : Int32).toInt8.toInt32), (.int (121 : Int32).toInt8.toInt32)] (.int (0 : Int32))) (la_f : ¬ (f < (0 : Int32)) ∧ ¬ ((255 : Int32) < f)) (S_C : Sta Z Z.heap "java/lang/String" "COMPACT_STRINGS" "Z" (.int zc)) (hzc : ¬ (zc = (0 : Int32))) (S_F : Sta Z Z.heap "jdk/internal/util/Preconditions" "SIOOBE_FORMATTER" "Ljava/util/function/BiFunction;" fm) (hfm : fm.isRef = true) :
    MetFree l (⟨"com/example/logtide/logtide/event/TemporalTextIsInfinitePinLaw", "at", "(Ljava/lang/String;IC)C"⟩ : MethodName) (head1 (Jvm.Cond.code (⟨"com/example/logtide/logtide/event/TemporalTextIsInfinitePinLaw", "at", "(Ljava/lang/String;IC)C"⟩ : MethodName) method_3_code 3 (some .char) :: ws) ({ frames := 4, cells := 0, slots := 0, locals := 53 } : Room)) (fun a U => a = #[(.ref x), (.int (1 : Int32)), (.int f)] ∧ Z.Warmed39 U.vm ∧ U.heap = h0) (fun _ _ _ _ _ => True) (fun _ U o U' => ∃ v L, o = .returned v ∧ Q_rm_at9_1 Z x tx kx f zc fm h0 n0 v U'.heap L ∧ FrameEnd U o U' L ({ frames := 4, cells := 0, slots := 0, locals := 53 } : Room).cells ({ frames := 4, cells := 0, slots := 0, locals := 53 } : Room).slots) := by
  refine MetFree.of_bodySF (plainFor_of_name pn_0) hisR ?_
  intro p e s m args below meth c s₁ Bd hml0 hP hK
  obtain ⟨rfl, hZ, hh⟩ := hP
  have hx := Bd.exec
  have hby := Bd.bytes
  have hml : c.maxLocals = 3 := hml0
  have hown : s.vm.findClass "com/example/logtide/logtide/event/TemporalTextIsInfinitePinLaw" = some m.cls := findClass_of_methodNamed Bd.named
  have hnm := (name_of_methodNamed Bd.named Bd.method).1
  have X0 : Stand p l e ({ frames := 4, cells := 0, slots := 0, locals := 53 } : Room) s m #[(.ref x), (.int (1 : Int32)), (.int f)] below meth c s₁ [] 0 0 := Stand.of_body Bd
  have e0 : s₁.heap = h0 := by rw [← hh, Bd.state]; rfl
  have N0 := Fr.nil n0
  have hwl : ∀ d ∈ StrChars.Road.wordsLen, d.before a0 Z = true := fun d hd => hw d (own_wordsLen d hd)
  have hwc : ∀ d ∈ StrChars.Road.wordsChN, d.before a0 Z = true := fun d hd => hw d (own_wordsChN d hd)
  have hwq : ∀ d ∈ StrChars.Road.wordsEq, d.before a0 Z = true := fun d hd => hw d (own_wordsEq d hd)
  have hws : ∀ d ∈ StrChars.Road.words, d.before a0 Z = true := fun d hd => hw d (own_words d hd)
  have pre0 : ∀ t, Steps p.tables e below (s₁.setTop (mkF m 0 #[.val (.ref x), .val (.int (1 : Int32)), .val (.int f)] [])) t → Steps p.tables e below (s₁.setTop (entryFrame m #[(.ref x), (.int (1 : Int32)), (.int f)] 3)) t := fun t k => castTop (ef_rm_at9_1 m x (1 : Int32) f) k
  have la2 : ∀ c ∈ ([(45 : Int32), (105 : Int32), (110 : Int32), (102 : Int32), (105 : Int32), (110 : Int32), (105 : Int32), (116 : Int32), (121 : Int32)] : List Int32), ¬ c < 0 ∧ ¬ (255 : Int32) < c := by
    intro c hc
    simp only [List.mem_cons, List.not_mem_nil, or_false] at hc
    rcases hc with rfl | rfl | rfl | rfl | rfl | rfl | rfl | rfl | rfl
    · exact ⟨by decide, by decide⟩
    · exact ⟨by decide, by decide⟩
    · exact ⟨by decide, by decide⟩
    · exact ⟨by decide, by decide⟩
    · exact ⟨by decide, by decide⟩
    · exact ⟨by decide, by decide⟩
    · exact ⟨by decide, by decide⟩
    · exact ⟨by decide, by decide⟩
    · exact ⟨by decide, by decide⟩
  have cd2 : StrChars.Road.CodA ([(45 : Int32), (105 : Int32), (110 : Int32), (102 : Int32), (105 : Int32), (110 : Int32), (105 : Int32), (116 : Int32), (121 : Int32)] : List Int32) 0 (9 : Int32) [(.int (45 : Int32).toInt8.toInt32), (.int (105 : Int32).toInt8.toInt32), (.int (110 : Int32).toInt8.toInt32), (.int (102 : Int32).toInt8.toInt32), (.int (105 : Int32).toInt8.toInt32), (.int (110 : Int32).toInt8.toInt32), (.int (105 : Int32).toInt8.toInt32), (.int (116 : Int32).toInt8.toInt32), (.int (121 : Int32).toInt8.toInt32)] := StrChars.Road.codOf (n := 9) rfl (fun x hx => (la2 x hx).2)
  have bd2 := own_up la2
  obtain ⟨cq1, kq1, q1a, q1b, q1c⟩ := isOf hZ e0 E_x
  obtain ⟨_, _, ⟨T1, L1, k1, n1⟩, -, X1, ⟨Lc1, hQ1, l1, y1, z1⟩, st1⟩ := X0.virtualBack hx (y := (⟨"java/lang/String", "length", "()I"⟩ : MethodName)) (z := (⟨"java/lang/String", "length", "()I"⟩ : MethodName)) hown (mvT hZ (own_w hw 14 rfl)) (mvT hZ (own_w hw 15 rfl)) (notFace_of_selects (args := #[]) (mvT hZ (own_w hw 17 rfl))) (mvT hZ (own_w hw 17 rfl)) (mvT hZ (own_w hw 16 rfl)) (by decide) (StrChars.Road.lenW (W := 1) hZ hwl (kI := 4) (own_w hw 3 rfl) (cs := [(45 : Int32), (105 : Int32), (110 : Int32), (102 : Int32), (105 : Int32), (110 : Int32), (105 : Int32), (116 : Int32), (121 : Int32)]) E_x V_x C_x K_x cd2 bd2 (S_C.ext O0.2) hzc (by show 9 ≤ 4000; decide) (by decide) (by decide)) q1a q1c (g := (mkF m 2 #[.val (.ref x), .val (.int (1 : Int32)), .val (.int f)] [(.ref x), (.int (1 : Int32))])) rfl (by rw [hml]; rfl) (Steps.refl _) (argsL := []) (rest := [(.int (1 : Int32))]) (lenOf pd_0 rfl) rfl (by show 2 * 0 + _ ≤ _; exact Nat.le_of_eq rfl) (hb hby d0_2) (fun _ _ => ⟨rfl, e0, (by decide : 0 + 0 ≤ _), (by decide : 0 + 0 ≤ _)⟩)
  dsimp only [Pt.U, Pt.locs, Pt.cells, Pt.slots] at X1 l1 y1 z1 st1 hQ1
  subst l1 y1 z1
  obtain ⟨rfl, rfl, k3⟩ := hQ1
  have N4 := Fr.app N0 (Fr.nil n0)
  obtain ⟨cq5, kq5, q5a, q5b, q5c⟩ := isOf hZ k3 E_x
  obtain ⟨_, _, ⟨T5, L5, k5, n5⟩, -, X5, ⟨Lc5, hQ5, l5, y5, z5⟩, st5⟩ := X1.virtualBack hx (y := (⟨"java/lang/String", "charAt", "(I)C"⟩ : MethodName)) (z := (⟨"java/lang/String", "charAt", "(I)C"⟩ : MethodName)) hown (mvT hZ (own_w hw 27 rfl)) (mvT hZ (own_w hw 28 rfl)) (notFace_of_selects (args := #[]) (mvT hZ (own_w hw 30 rfl))) (mvT hZ (own_w hw 30 rfl)) (mvT hZ (own_w hw 29 rfl)) (by decide) (StrChars.Road.chN (W := 0) hZ hwc (kI := 4) (own_w hw 3 rfl) (cs := [(45 : Int32), (105 : Int32), (110 : Int32), (102 : Int32), (105 : Int32), (110 : Int32), (105 : Int32), (116 : Int32), (121 : Int32)]) (i := 1) (j := (1 : Int32)) E_x V_x C_x K_x cd2 bd2 (S_C.ext O0.2) hzc (S_F.ext O0.2) hfm (by show 9 ≤ 4000; decide) (by show 1 < 9; decide) rfl (by decide) (by decide)) q5a q5c (g := (mkF m 10 #[.val (.ref x), .val (.int (1 : Int32)), .val (.int f)] [(.int (1 : Int32)), (.ref x)])) rfl (by rw [hml]; rfl) (Steps.refl _) (argsL := [(.int (1 : Int32))]) (rest := []) (lenOf pd_1 rfl) rfl (by show 2 * 0 + _ ≤ _; exact Nat.le_of_eq rfl) (hb hby d0_10) (fun _ _ => ⟨rfl, k3, (by decide : 0 + 0 ≤ _), (by decide : 0 + 0 ≤ _)⟩)
  dsimp only [Pt.U, Pt.locs, Pt.cells, Pt.slots] at X5 l5 y5 z5 st5 hQ5
  subst l5 y5 z5
  obtain ⟨rfl, rfl, k6⟩ := hQ5
  have N7 := Fr.app N4 (Fr.nil n0)
  have S8 : ∀ t, Steps p.tables e below (T5.setTop (mkF m 17 #[.val (.ref x), .val (.int (1 : Int32)), .val (.int f)] [(.int (105 : Int32))])) t → Steps p.tables e below (s₁.setTop (mkF m 0 #[.val (.ref x), .val (.int (1 : Int32)), .val (.int f)] [])) t := by
    intro t kt
    refine XS.iloadN X0.here hx rfl (hb hby d0_0) rfl ?_
    refine XS.aloadN X0.here hx rfl (hb hby d0_1) rfl rfl ?_
    show Steps p.tables e below (s₁.setTop (mkF m 2 #[.val (.ref x), .val (.int (1 : Int32)), .val (.int f)] [(.ref x), (.int (1 : Int32))])) _
    refine st1.trans ?_
    refine XS.icmpNo X1.here hx rfl (hb hby d0_5) rfl (tlt ((by decide) : (1 : Int32) < (9 : Int32))).2.1 ?_
    refine XS.aloadN X1.here hx rfl (hb hby d0_8) rfl rfl ?_
    refine XS.iloadN X1.here hx rfl (hb hby d0_9) rfl ?_
    show Steps p.tables e below (T1.setTop (mkF m 10 #[.val (.ref x), .val (.int (1 : Int32)), .val (.int f)] [(.int (1 : Int32)), (.ref x)])) _
    refine st5.trans ?_
    refine XS.goto X5.here hx rfl (pc0 := 13) (pc' := 17) rfl (hb hby d0_13) (by decide) (by decide) ?_
    exact kt
  obtain ⟨fs, hr, hrun, hended, hW, hsame⟩ := X5.leave (v := some (.int (105 : Int32))) (fun h => by rw [Bd.returns] at h; cases h)
  refine ⟨_, _, pre0 _ (S8 _ ?_), hrun, hended, _, _, rfl, ?_, ⟨_, rfl⟩, hW, hsame.mono (by decide) (by decide)⟩
  · exact retN X5 hx (t := .char) Bd.returns (by simp) (hb hby d0_17) hr
  · show Q_rm_at9_1 Z x tx kx f zc fm h0 n0 _ T5.heap _
    rw [k6]
    exact ⟨rfl, N7, rfl⟩
theorem ef_rm_at9_2 (m : MethodId) (x0 : Addr) (x1 : Int32) (x2 : Int32) : entryFrame m #[(.ref x0), (.int x1), (.int x2)] 3 = mkF m 0 #[.val (.ref x0), .val (.int x1), .val (.int x2)] [] := by first | (simp [entryFrame, mkF, argsToLocals, Value.category]; done) | rfl
def Q_rm_at9_2 (Z : State) (x : Addr) (tx : Addr) (kx : ClassId) (f : Int32) (zc : Int32) (fm : Value) (h0 : Heap) (n0 : Nat) (v : Option Value) (h : Heap) (L : List Loc) : Prop := ((v = some (.int (110 : Int32))) ∧ (Fr n0 L) ∧ (h = h0))
set_option maxRecDepth 65536 in
set_option maxHeartbeats 40000000 in
theorem rm_at9_2 (l : Launch) (Z : State) (a0 : Array Value) (hw : ∀ d ∈ tables_1, d.before a0 Z = true) (ws : List Jvm.Cond) (x : Addr) (tx : Addr) (kx : ClassId) (f : Int32) (zc : Int32) (fm : Value) (h0 : Heap) (n0 : Nat) (O0 : Old Z n0 h0) (E_x : Exa Z h0 x "java/lang/String") (V_x : Fld Z h0 x "java/lang/String" "value" "[B" (.ref tx)) (C_x : Fld Z h0 x "java/lang/String" "coder" "B" (.int (0 : Int32))) (K_x : Arv Z h0 tx kx .byte (9 : Int32) [(.int (45 : Int32).toInt8.toInt32), (.int (105 : Int32).toInt8.toInt32), (.int (110 : Int32).toInt8.toInt32), (.int (102 : Int32).toInt8.toInt32), (.int (105 : Int32).toInt8.toInt32), (.int (110 : Int32).toInt8.toInt32), (.int (105 : Int32).toInt8.toInt32), (.int (116 : Int32).toInt8.toInt32), (.int (121 : Int32).toInt8.toInt32)] (.int (0 : Int32))) (la_f : ¬ (f < (0 : Int32)) ∧ ¬ ((255 : Int32) < f)) (S_C : Sta Z Z.heap "java/lang/String" "COMPACT_STRINGS" "Z" (.int zc)) (hzc : ¬ (zc = (0 : Int32))) (S_F : Sta Z Z.heap "jdk/internal/util/Preconditions" "SIOOBE_FORMATTER" "Ljava/util/function/BiFunction;" fm) (hfm : fm.isRef = true) :
    MetFree l (⟨"com/example/logtide/logtide/event/TemporalTextIsInfinitePinLaw", "at", "(Ljava/lang/String;IC)C"⟩ : MethodName) (head1 (Jvm.Cond.code (⟨"com/example/logtide/logtide/event/TemporalTextIsInfinitePinLaw", "at", "(Ljava/lang/String;IC)C"⟩ : MethodName) method_3_code 3 (some .char) :: ws) ({ frames := 4, cells := 0, slots := 0, locals := 53 } : Room)) (fun a U => a = #[(.ref x), (.int (2 : Int32)), (.int f)] ∧ Z.Warmed39 U.vm ∧ U.heap = h0) (fun _ _ _ _ _ => True) (fun _ U o U' => ∃ v L, o = .returned v ∧ Q_rm_at9_2 Z x tx kx f zc fm h0 n0 v U'.heap L ∧ FrameEnd U o U' L ({ frames := 4, cells := 0, slots := 0, locals := 53 } : Room).cells ({ frames := 4, cells := 0, slots := 0, locals := 53 } : Room).slots) := by
  refine MetFree.of_bodySF (plainFor_of_name pn_0) hisR ?_
  intro p e s m args below meth c s₁ Bd hml0 hP hK
  obtain ⟨rfl, hZ, hh⟩ := hP
  have hx := Bd.exec
  have hby := Bd.bytes
  have hml : c.maxLocals = 3 := hml0
  have hown : s.vm.findClass "com/example/logtide/logtide/event/TemporalTextIsInfinitePinLaw" = some m.cls := findClass_of_methodNamed Bd.named
  have hnm := (name_of_methodNamed Bd.named Bd.method).1
  have X0 : Stand p l e ({ frames := 4, cells := 0, slots := 0, locals := 53 } : Room) s m #[(.ref x), (.int (2 : Int32)), (.int f)] below meth c s₁ [] 0 0 := Stand.of_body Bd
  have e0 : s₁.heap = h0 := by rw [← hh, Bd.state]; rfl
  have N0 := Fr.nil n0
  have hwl : ∀ d ∈ StrChars.Road.wordsLen, d.before a0 Z = true := fun d hd => hw d (own_wordsLen d hd)
  have hwc : ∀ d ∈ StrChars.Road.wordsChN, d.before a0 Z = true := fun d hd => hw d (own_wordsChN d hd)
  have hwq : ∀ d ∈ StrChars.Road.wordsEq, d.before a0 Z = true := fun d hd => hw d (own_wordsEq d hd)
  have hws : ∀ d ∈ StrChars.Road.words, d.before a0 Z = true := fun d hd => hw d (own_words d hd)
  have pre0 : ∀ t, Steps p.tables e below (s₁.setTop (mkF m 0 #[.val (.ref x), .val (.int (2 : Int32)), .val (.int f)] [])) t → Steps p.tables e below (s₁.setTop (entryFrame m #[(.ref x), (.int (2 : Int32)), (.int f)] 3)) t := fun t k => castTop (ef_rm_at9_2 m x (2 : Int32) f) k
  have la2 : ∀ c ∈ ([(45 : Int32), (105 : Int32), (110 : Int32), (102 : Int32), (105 : Int32), (110 : Int32), (105 : Int32), (116 : Int32), (121 : Int32)] : List Int32), ¬ c < 0 ∧ ¬ (255 : Int32) < c := by
    intro c hc
    simp only [List.mem_cons, List.not_mem_nil, or_false] at hc
    rcases hc with rfl | rfl | rfl | rfl | rfl | rfl | rfl | rfl | rfl
    · exact ⟨by decide, by decide⟩
    · exact ⟨by decide, by decide⟩
    · exact ⟨by decide, by decide⟩
    · exact ⟨by decide, by decide⟩
    · exact ⟨by decide, by decide⟩
    · exact ⟨by decide, by decide⟩
    · exact ⟨by decide, by decide⟩
    · exact ⟨by decide, by decide⟩
    · exact ⟨by decide, by decide⟩
  have cd2 : StrChars.Road.CodA ([(45 : Int32), (105 : Int32), (110 : Int32), (102 : Int32), (105 : Int32), (110 : Int32), (105 : Int32), (116 : Int32), (121 : Int32)] : List Int32) 0 (9 : Int32) [(.int (45 : Int32).toInt8.toInt32), (.int (105 : Int32).toInt8.toInt32), (.int (110 : Int32).toInt8.toInt32), (.int (102 : Int32).toInt8.toInt32), (.int (105 : Int32).toInt8.toInt32), (.int (110 : Int32).toInt8.toInt32), (.int (105 : Int32).toInt8.toInt32), (.int (116 : Int32).toInt8.toInt32), (.int (121 : Int32).toInt8.toInt32)] := StrChars.Road.codOf (n := 9) rfl (fun x hx => (la2 x hx).2)
  have bd2 := own_up la2
  obtain ⟨cq1, kq1, q1a, q1b, q1c⟩ := isOf hZ e0 E_x
  obtain ⟨_, _, ⟨T1, L1, k1, n1⟩, -, X1, ⟨Lc1, hQ1, l1, y1, z1⟩, st1⟩ := X0.virtualBack hx (y := (⟨"java/lang/String", "length", "()I"⟩ : MethodName)) (z := (⟨"java/lang/String", "length", "()I"⟩ : MethodName)) hown (mvT hZ (own_w hw 14 rfl)) (mvT hZ (own_w hw 15 rfl)) (notFace_of_selects (args := #[]) (mvT hZ (own_w hw 17 rfl))) (mvT hZ (own_w hw 17 rfl)) (mvT hZ (own_w hw 16 rfl)) (by decide) (StrChars.Road.lenW (W := 1) hZ hwl (kI := 4) (own_w hw 3 rfl) (cs := [(45 : Int32), (105 : Int32), (110 : Int32), (102 : Int32), (105 : Int32), (110 : Int32), (105 : Int32), (116 : Int32), (121 : Int32)]) E_x V_x C_x K_x cd2 bd2 (S_C.ext O0.2) hzc (by show 9 ≤ 4000; decide) (by decide) (by decide)) q1a q1c (g := (mkF m 2 #[.val (.ref x), .val (.int (2 : Int32)), .val (.int f)] [(.ref x), (.int (2 : Int32))])) rfl (by rw [hml]; rfl) (Steps.refl _) (argsL := []) (rest := [(.int (2 : Int32))]) (lenOf pd_0 rfl) rfl (by show 2 * 0 + _ ≤ _; exact Nat.le_of_eq rfl) (hb hby d0_2) (fun _ _ => ⟨rfl, e0, (by decide : 0 + 0 ≤ _), (by decide : 0 + 0 ≤ _)⟩)
  dsimp only [Pt.U, Pt.locs, Pt.cells, Pt.slots] at X1 l1 y1 z1 st1 hQ1
  subst l1 y1 z1
  obtain ⟨rfl, rfl, k3⟩ := hQ1
  have N4 := Fr.app N0 (Fr.nil n0)
  obtain ⟨cq5, kq5, q5a, q5b, q5c⟩ := isOf hZ k3 E_x
  obtain ⟨_, _, ⟨T5, L5, k5, n5⟩, -, X5, ⟨Lc5, hQ5, l5, y5, z5⟩, st5⟩ := X1.virtualBack hx (y := (⟨"java/lang/String", "charAt", "(I)C"⟩ : MethodName)) (z := (⟨"java/lang/String", "charAt", "(I)C"⟩ : MethodName)) hown (mvT hZ (own_w hw 27 rfl)) (mvT hZ (own_w hw 28 rfl)) (notFace_of_selects (args := #[]) (mvT hZ (own_w hw 30 rfl))) (mvT hZ (own_w hw 30 rfl)) (mvT hZ (own_w hw 29 rfl)) (by decide) (StrChars.Road.chN (W := 0) hZ hwc (kI := 4) (own_w hw 3 rfl) (cs := [(45 : Int32), (105 : Int32), (110 : Int32), (102 : Int32), (105 : Int32), (110 : Int32), (105 : Int32), (116 : Int32), (121 : Int32)]) (i := 2) (j := (2 : Int32)) E_x V_x C_x K_x cd2 bd2 (S_C.ext O0.2) hzc (S_F.ext O0.2) hfm (by show 9 ≤ 4000; decide) (by show 2 < 9; decide) rfl (by decide) (by decide)) q5a q5c (g := (mkF m 10 #[.val (.ref x), .val (.int (2 : Int32)), .val (.int f)] [(.int (2 : Int32)), (.ref x)])) rfl (by rw [hml]; rfl) (Steps.refl _) (argsL := [(.int (2 : Int32))]) (rest := []) (lenOf pd_1 rfl) rfl (by show 2 * 0 + _ ≤ _; exact Nat.le_of_eq rfl) (hb hby d0_10) (fun _ _ => ⟨rfl, k3, (by decide : 0 + 0 ≤ _), (by decide : 0 + 0 ≤ _)⟩)
  dsimp only [Pt.U, Pt.locs, Pt.cells, Pt.slots] at X5 l5 y5 z5 st5 hQ5
  subst l5 y5 z5
  obtain ⟨rfl, rfl, k6⟩ := hQ5
  have N7 := Fr.app N4 (Fr.nil n0)
  have S8 : ∀ t, Steps p.tables e below (T5.setTop (mkF m 17 #[.val (.ref x), .val (.int (2 : Int32)), .val (.int f)] [(.int (110 : Int32))])) t → Steps p.tables e below (s₁.setTop (mkF m 0 #[.val (.ref x), .val (.int (2 : Int32)), .val (.int f)] [])) t := by
    intro t kt
    refine XS.iloadN X0.here hx rfl (hb hby d0_0) rfl ?_
    refine XS.aloadN X0.here hx rfl (hb hby d0_1) rfl rfl ?_
    show Steps p.tables e below (s₁.setTop (mkF m 2 #[.val (.ref x), .val (.int (2 : Int32)), .val (.int f)] [(.ref x), (.int (2 : Int32))])) _
    refine st1.trans ?_
    refine XS.icmpNo X1.here hx rfl (hb hby d0_5) rfl (tlt ((by decide) : (2 : Int32) < (9 : Int32))).2.1 ?_
    refine XS.aloadN X1.here hx rfl (hb hby d0_8) rfl rfl ?_
    refine XS.iloadN X1.here hx rfl (hb hby d0_9) rfl ?_
    show Steps p.tables e below (T1.setTop (mkF m 10 #[.val (.ref x), .val (.int (2 : Int32)), .val (.int f)] [(.int (2 : Int32)), (.ref x)])) _
    refine st5.trans ?_
    refine XS.goto X5.here hx rfl (pc0 := 13) (pc' := 17) rfl (hb hby d0_13) (by decide) (by decide) ?_
    exact kt
  obtain ⟨fs, hr, hrun, hended, hW, hsame⟩ := X5.leave (v := some (.int (110 : Int32))) (fun h => by rw [Bd.returns] at h; cases h)
  refine ⟨_, _, pre0 _ (S8 _ ?_), hrun, hended, _, _, rfl, ?_, ⟨_, rfl⟩, hW, hsame.mono (by decide) (by decide)⟩
  · exact retN X5 hx (t := .char) Bd.returns (by simp) (hb hby d0_17) hr
  · show Q_rm_at9_2 Z x tx kx f zc fm h0 n0 _ T5.heap _
    rw [k6]
    exact ⟨rfl, N7, rfl⟩
theorem ef_rm_at9_3 (m : MethodId) (x0 : Addr) (x1 : Int32) (x2 : Int32) : entryFrame m #[(.ref x0), (.int x1), (.int x2)] 3 = mkF m 0 #[.val (.ref x0), .val (.int x1), .val (.int x2)] [] := by first | (simp [entryFrame, mkF, argsToLocals, Value.category]; done) | rfl
def Q_rm_at9_3 (Z : State) (x : Addr) (tx : Addr) (kx : ClassId) (f : Int32) (zc : Int32) (fm : Value) (h0 : Heap) (n0 : Nat) (v : Option Value) (h : Heap) (L : List Loc) : Prop := ((v = some (.int (102 : Int32))) ∧ (Fr n0 L) ∧ (h = h0))
set_option maxRecDepth 65536 in
set_option maxHeartbeats 40000000 in
theorem rm_at9_3 (l : Launch) (Z : State) (a0 : Array Value) (hw : ∀ d ∈ tables_1, d.before a0 Z = true) (ws : List Jvm.Cond) (x : Addr) (tx : Addr) (kx : ClassId) (f : Int32) (zc : Int32) (fm : Value) (h0 : Heap) (n0 : Nat) (O0 : Old Z n0 h0) (E_x : Exa Z h0 x "java/lang/String") (V_x : Fld Z h0 x "java/lang/String" "value" "[B" (.ref tx)) (C_x : Fld Z h0 x "java/lang/String" "coder" "B" (.int (0 : Int32))) (K_x : Arv Z h0 tx kx .byte (9 : Int32) [(.int (45 : Int32).toInt8.toInt32), (.int (105 : Int32).toInt8.toInt32), (.int (110 : Int32).toInt8.toInt32), (.int (102 : Int32).toInt8.toInt32), (.int (105 : Int32).toInt8.toInt32), (.int (110 : Int32).toInt8.toInt32), (.int (105 : Int32).toInt8.toInt32), (.int (116 : Int32).toInt8.toInt32), (.int (121 : Int32).toInt8.toInt32)] (.int (0 : Int32))) (la_f : ¬ (f < (0 : Int32)) ∧ ¬ ((255 : Int32) < f)) (S_C : Sta Z Z.heap "java/lang/String" "COMPACT_STRINGS" "Z" (.int zc)) (hzc : ¬ (zc = (0 : Int32))) (S_F : Sta Z Z.heap "jdk/internal/util/Preconditions" "SIOOBE_FORMATTER" "Ljava/util/function/BiFunction;" fm) (hfm : fm.isRef = true) :
    MetFree l (⟨"com/example/logtide/logtide/event/TemporalTextIsInfinitePinLaw", "at", "(Ljava/lang/String;IC)C"⟩ : MethodName) (head1 (Jvm.Cond.code (⟨"com/example/logtide/logtide/event/TemporalTextIsInfinitePinLaw", "at", "(Ljava/lang/String;IC)C"⟩ : MethodName) method_3_code 3 (some .char) :: ws) ({ frames := 4, cells := 0, slots := 0, locals := 53 } : Room)) (fun a U => a = #[(.ref x), (.int (3 : Int32)), (.int f)] ∧ Z.Warmed39 U.vm ∧ U.heap = h0) (fun _ _ _ _ _ => True) (fun _ U o U' => ∃ v L, o = .returned v ∧ Q_rm_at9_3 Z x tx kx f zc fm h0 n0 v U'.heap L ∧ FrameEnd U o U' L ({ frames := 4, cells := 0, slots := 0, locals := 53 } : Room).cells ({ frames := 4, cells := 0, slots := 0, locals := 53 } : Room).slots) := by
  refine MetFree.of_bodySF (plainFor_of_name pn_0) hisR ?_
  intro p e s m args below meth c s₁ Bd hml0 hP hK
  obtain ⟨rfl, hZ, hh⟩ := hP
  have hx := Bd.exec
  have hby := Bd.bytes
  have hml : c.maxLocals = 3 := hml0
  have hown : s.vm.findClass "com/example/logtide/logtide/event/TemporalTextIsInfinitePinLaw" = some m.cls := findClass_of_methodNamed Bd.named
  have hnm := (name_of_methodNamed Bd.named Bd.method).1
  have X0 : Stand p l e ({ frames := 4, cells := 0, slots := 0, locals := 53 } : Room) s m #[(.ref x), (.int (3 : Int32)), (.int f)] below meth c s₁ [] 0 0 := Stand.of_body Bd
  have e0 : s₁.heap = h0 := by rw [← hh, Bd.state]; rfl
  have N0 := Fr.nil n0
  have hwl : ∀ d ∈ StrChars.Road.wordsLen, d.before a0 Z = true := fun d hd => hw d (own_wordsLen d hd)
  have hwc : ∀ d ∈ StrChars.Road.wordsChN, d.before a0 Z = true := fun d hd => hw d (own_wordsChN d hd)
  have hwq : ∀ d ∈ StrChars.Road.wordsEq, d.before a0 Z = true := fun d hd => hw d (own_wordsEq d hd)
  have hws : ∀ d ∈ StrChars.Road.words, d.before a0 Z = true := fun d hd => hw d (own_words d hd)
  have pre0 : ∀ t, Steps p.tables e below (s₁.setTop (mkF m 0 #[.val (.ref x), .val (.int (3 : Int32)), .val (.int f)] [])) t → Steps p.tables e below (s₁.setTop (entryFrame m #[(.ref x), (.int (3 : Int32)), (.int f)] 3)) t := fun t k => castTop (ef_rm_at9_3 m x (3 : Int32) f) k
  have la2 : ∀ c ∈ ([(45 : Int32), (105 : Int32), (110 : Int32), (102 : Int32), (105 : Int32), (110 : Int32), (105 : Int32), (116 : Int32), (121 : Int32)] : List Int32), ¬ c < 0 ∧ ¬ (255 : Int32) < c := by
    intro c hc
    simp only [List.mem_cons, List.not_mem_nil, or_false] at hc
    rcases hc with rfl | rfl | rfl | rfl | rfl | rfl | rfl | rfl | rfl
    · exact ⟨by decide, by decide⟩
    · exact ⟨by decide, by decide⟩
    · exact ⟨by decide, by decide⟩
    · exact ⟨by decide, by decide⟩
    · exact ⟨by decide, by decide⟩
    · exact ⟨by decide, by decide⟩
    · exact ⟨by decide, by decide⟩
    · exact ⟨by decide, by decide⟩
    · exact ⟨by decide, by decide⟩
  have cd2 : StrChars.Road.CodA ([(45 : Int32), (105 : Int32), (110 : Int32), (102 : Int32), (105 : Int32), (110 : Int32), (105 : Int32), (116 : Int32), (121 : Int32)] : List Int32) 0 (9 : Int32) [(.int (45 : Int32).toInt8.toInt32), (.int (105 : Int32).toInt8.toInt32), (.int (110 : Int32).toInt8.toInt32), (.int (102 : Int32).toInt8.toInt32), (.int (105 : Int32).toInt8.toInt32), (.int (110 : Int32).toInt8.toInt32), (.int (105 : Int32).toInt8.toInt32), (.int (116 : Int32).toInt8.toInt32), (.int (121 : Int32).toInt8.toInt32)] := StrChars.Road.codOf (n := 9) rfl (fun x hx => (la2 x hx).2)
  have bd2 := own_up la2
  obtain ⟨cq1, kq1, q1a, q1b, q1c⟩ := isOf hZ e0 E_x
  obtain ⟨_, _, ⟨T1, L1, k1, n1⟩, -, X1, ⟨Lc1, hQ1, l1, y1, z1⟩, st1⟩ := X0.virtualBack hx (y := (⟨"java/lang/String", "length", "()I"⟩ : MethodName)) (z := (⟨"java/lang/String", "length", "()I"⟩ : MethodName)) hown (mvT hZ (own_w hw 14 rfl)) (mvT hZ (own_w hw 15 rfl)) (notFace_of_selects (args := #[]) (mvT hZ (own_w hw 17 rfl))) (mvT hZ (own_w hw 17 rfl)) (mvT hZ (own_w hw 16 rfl)) (by decide) (StrChars.Road.lenW (W := 1) hZ hwl (kI := 4) (own_w hw 3 rfl) (cs := [(45 : Int32), (105 : Int32), (110 : Int32), (102 : Int32), (105 : Int32), (110 : Int32), (105 : Int32), (116 : Int32), (121 : Int32)]) E_x V_x C_x K_x cd2 bd2 (S_C.ext O0.2) hzc (by show 9 ≤ 4000; decide) (by decide) (by decide)) q1a q1c (g := (mkF m 2 #[.val (.ref x), .val (.int (3 : Int32)), .val (.int f)] [(.ref x), (.int (3 : Int32))])) rfl (by rw [hml]; rfl) (Steps.refl _) (argsL := []) (rest := [(.int (3 : Int32))]) (lenOf pd_0 rfl) rfl (by show 2 * 0 + _ ≤ _; exact Nat.le_of_eq rfl) (hb hby d0_2) (fun _ _ => ⟨rfl, e0, (by decide : 0 + 0 ≤ _), (by decide : 0 + 0 ≤ _)⟩)
  dsimp only [Pt.U, Pt.locs, Pt.cells, Pt.slots] at X1 l1 y1 z1 st1 hQ1
  subst l1 y1 z1
  obtain ⟨rfl, rfl, k3⟩ := hQ1
  have N4 := Fr.app N0 (Fr.nil n0)
  obtain ⟨cq5, kq5, q5a, q5b, q5c⟩ := isOf hZ k3 E_x
  obtain ⟨_, _, ⟨T5, L5, k5, n5⟩, -, X5, ⟨Lc5, hQ5, l5, y5, z5⟩, st5⟩ := X1.virtualBack hx (y := (⟨"java/lang/String", "charAt", "(I)C"⟩ : MethodName)) (z := (⟨"java/lang/String", "charAt", "(I)C"⟩ : MethodName)) hown (mvT hZ (own_w hw 27 rfl)) (mvT hZ (own_w hw 28 rfl)) (notFace_of_selects (args := #[]) (mvT hZ (own_w hw 30 rfl))) (mvT hZ (own_w hw 30 rfl)) (mvT hZ (own_w hw 29 rfl)) (by decide) (StrChars.Road.chN (W := 0) hZ hwc (kI := 4) (own_w hw 3 rfl) (cs := [(45 : Int32), (105 : Int32), (110 : Int32), (102 : Int32), (105 : Int32), (110 : Int32), (105 : Int32), (116 : Int32), (121 : Int32)]) (i := 3) (j := (3 : Int32)) E_x V_x C_x K_x cd2 bd2 (S_C.ext O0.2) hzc (S_F.ext O0.2) hfm (by show 9 ≤ 4000; decide) (by show 3 < 9; decide) rfl (by decide) (by decide)) q5a q5c (g := (mkF m 10 #[.val (.ref x), .val (.int (3 : Int32)), .val (.int f)] [(.int (3 : Int32)), (.ref x)])) rfl (by rw [hml]; rfl) (Steps.refl _) (argsL := [(.int (3 : Int32))]) (rest := []) (lenOf pd_1 rfl) rfl (by show 2 * 0 + _ ≤ _; exact Nat.le_of_eq rfl) (hb hby d0_10) (fun _ _ => ⟨rfl, k3, (by decide : 0 + 0 ≤ _), (by decide : 0 + 0 ≤ _)⟩)
  dsimp only [Pt.U, Pt.locs, Pt.cells, Pt.slots] at X5 l5 y5 z5 st5 hQ5
  subst l5 y5 z5
  obtain ⟨rfl, rfl, k6⟩ := hQ5
  have N7 := Fr.app N4 (Fr.nil n0)
  have S8 : ∀ t, Steps p.tables e below (T5.setTop (mkF m 17 #[.val (.ref x), .val (.int (3 : Int32)), .val (.int f)] [(.int (102 : Int32))])) t → Steps p.tables e below (s₁.setTop (mkF m 0 #[.val (.ref x), .val (.int (3 : Int32)), .val (.int f)] [])) t := by
    intro t kt
    refine XS.iloadN X0.here hx rfl (hb hby d0_0) rfl ?_
    refine XS.aloadN X0.here hx rfl (hb hby d0_1) rfl rfl ?_
    show Steps p.tables e below (s₁.setTop (mkF m 2 #[.val (.ref x), .val (.int (3 : Int32)), .val (.int f)] [(.ref x), (.int (3 : Int32))])) _
    refine st1.trans ?_
    refine XS.icmpNo X1.here hx rfl (hb hby d0_5) rfl (tlt ((by decide) : (3 : Int32) < (9 : Int32))).2.1 ?_
    refine XS.aloadN X1.here hx rfl (hb hby d0_8) rfl rfl ?_
    refine XS.iloadN X1.here hx rfl (hb hby d0_9) rfl ?_
    show Steps p.tables e below (T1.setTop (mkF m 10 #[.val (.ref x), .val (.int (3 : Int32)), .val (.int f)] [(.int (3 : Int32)), (.ref x)])) _
    refine st5.trans ?_
    refine XS.goto X5.here hx rfl (pc0 := 13) (pc' := 17) rfl (hb hby d0_13) (by decide) (by decide) ?_
    exact kt
  obtain ⟨fs, hr, hrun, hended, hW, hsame⟩ := X5.leave (v := some (.int (102 : Int32))) (fun h => by rw [Bd.returns] at h; cases h)
  refine ⟨_, _, pre0 _ (S8 _ ?_), hrun, hended, _, _, rfl, ?_, ⟨_, rfl⟩, hW, hsame.mono (by decide) (by decide)⟩
  · exact retN X5 hx (t := .char) Bd.returns (by simp) (hb hby d0_17) hr
  · show Q_rm_at9_3 Z x tx kx f zc fm h0 n0 _ T5.heap _
    rw [k6]
    exact ⟨rfl, N7, rfl⟩
theorem ef_rm_at9_4 (m : MethodId) (x0 : Addr) (x1 : Int32) (x2 : Int32) : entryFrame m #[(.ref x0), (.int x1), (.int x2)] 3 = mkF m 0 #[.val (.ref x0), .val (.int x1), .val (.int x2)] [] := by first | (simp [entryFrame, mkF, argsToLocals, Value.category]; done) | rfl
def Q_rm_at9_4 (Z : State) (x : Addr) (tx : Addr) (kx : ClassId) (f : Int32) (zc : Int32) (fm : Value) (h0 : Heap) (n0 : Nat) (v : Option Value) (h : Heap) (L : List Loc) : Prop := ((v = some (.int (105 : Int32))) ∧ (Fr n0 L) ∧ (h = h0))
set_option maxRecDepth 65536 in
set_option maxHeartbeats 40000000 in
theorem rm_at9_4 (l : Launch) (Z : State) (a0 : Array Value) (hw : ∀ d ∈ tables_1, d.before a0 Z = true) (ws : List Jvm.Cond) (x : Addr) (tx : Addr) (kx : ClassId) (f : Int32) (zc : Int32) (fm : Value) (h0 : Heap) (n0 : Nat) (O0 : Old Z n0 h0) (E_x : Exa Z h0 x "java/lang/String") (V_x : Fld Z h0 x "java/lang/String" "value" "[B" (.ref tx)) (C_x : Fld Z h0 x "java/lang/String" "coder" "B" (.int (0 : Int32))) (K_x : Arv Z h0 tx kx .byte (9 : Int32) [(.int (45 : Int32).toInt8.toInt32), (.int (105 : Int32).toInt8.toInt32), (.int (110 : Int32).toInt8.toInt32), (.int (102 : Int32).toInt8.toInt32), (.int (105 : Int32).toInt8.toInt32), (.int (110 : Int32).toInt8.toInt32), (.int (105 : Int32).toInt8.toInt32), (.int (116 : Int32).toInt8.toInt32), (.int (121 : Int32).toInt8.toInt32)] (.int (0 : Int32))) (la_f : ¬ (f < (0 : Int32)) ∧ ¬ ((255 : Int32) < f)) (S_C : Sta Z Z.heap "java/lang/String" "COMPACT_STRINGS" "Z" (.int zc)) (hzc : ¬ (zc = (0 : Int32))) (S_F : Sta Z Z.heap "jdk/internal/util/Preconditions" "SIOOBE_FORMATTER" "Ljava/util/function/BiFunction;" fm) (hfm : fm.isRef = true) :
    MetFree l (⟨"com/example/logtide/logtide/event/TemporalTextIsInfinitePinLaw", "at", "(Ljava/lang/String;IC)C"⟩ : MethodName) (head1 (Jvm.Cond.code (⟨"com/example/logtide/logtide/event/TemporalTextIsInfinitePinLaw", "at", "(Ljava/lang/String;IC)C"⟩ : MethodName) method_3_code 3 (some .char) :: ws) ({ frames := 4, cells := 0, slots := 0, locals := 53 } : Room)) (fun a U => a = #[(.ref x), (.int (4 : Int32)), (.int f)] ∧ Z.Warmed39 U.vm ∧ U.heap = h0) (fun _ _ _ _ _ => True) (fun _ U o U' => ∃ v L, o = .returned v ∧ Q_rm_at9_4 Z x tx kx f zc fm h0 n0 v U'.heap L ∧ FrameEnd U o U' L ({ frames := 4, cells := 0, slots := 0, locals := 53 } : Room).cells ({ frames := 4, cells := 0, slots := 0, locals := 53 } : Room).slots) := by
  refine MetFree.of_bodySF (plainFor_of_name pn_0) hisR ?_
  intro p e s m args below meth c s₁ Bd hml0 hP hK
  obtain ⟨rfl, hZ, hh⟩ := hP
  have hx := Bd.exec
  have hby := Bd.bytes
  have hml : c.maxLocals = 3 := hml0
  have hown : s.vm.findClass "com/example/logtide/logtide/event/TemporalTextIsInfinitePinLaw" = some m.cls := findClass_of_methodNamed Bd.named
  have hnm := (name_of_methodNamed Bd.named Bd.method).1
  have X0 : Stand p l e ({ frames := 4, cells := 0, slots := 0, locals := 53 } : Room) s m #[(.ref x), (.int (4 : Int32)), (.int f)] below meth c s₁ [] 0 0 := Stand.of_body Bd
  have e0 : s₁.heap = h0 := by rw [← hh, Bd.state]; rfl
  have N0 := Fr.nil n0
  have hwl : ∀ d ∈ StrChars.Road.wordsLen, d.before a0 Z = true := fun d hd => hw d (own_wordsLen d hd)
  have hwc : ∀ d ∈ StrChars.Road.wordsChN, d.before a0 Z = true := fun d hd => hw d (own_wordsChN d hd)
  have hwq : ∀ d ∈ StrChars.Road.wordsEq, d.before a0 Z = true := fun d hd => hw d (own_wordsEq d hd)
  have hws : ∀ d ∈ StrChars.Road.words, d.before a0 Z = true := fun d hd => hw d (own_words d hd)
  have pre0 : ∀ t, Steps p.tables e below (s₁.setTop (mkF m 0 #[.val (.ref x), .val (.int (4 : Int32)), .val (.int f)] [])) t → Steps p.tables e below (s₁.setTop (entryFrame m #[(.ref x), (.int (4 : Int32)), (.int f)] 3)) t := fun t k => castTop (ef_rm_at9_4 m x (4 : Int32) f) k
  have la2 : ∀ c ∈ ([(45 : Int32), (105 : Int32), (110 : Int32), (102 : Int32), (105 : Int32), (110 : Int32), (105 : Int32), (116 : Int32), (121 : Int32)] : List Int32), ¬ c < 0 ∧ ¬ (255 : Int32) < c := by
    intro c hc
    simp only [List.mem_cons, List.not_mem_nil, or_false] at hc
    rcases hc with rfl | rfl | rfl | rfl | rfl | rfl | rfl | rfl | rfl
    · exact ⟨by decide, by decide⟩
    · exact ⟨by decide, by decide⟩
    · exact ⟨by decide, by decide⟩
    · exact ⟨by decide, by decide⟩
    · exact ⟨by decide, by decide⟩
    · exact ⟨by decide, by decide⟩
    · exact ⟨by decide, by decide⟩
    · exact ⟨by decide, by decide⟩
    · exact ⟨by decide, by decide⟩
  have cd2 : StrChars.Road.CodA ([(45 : Int32), (105 : Int32), (110 : Int32), (102 : Int32), (105 : Int32), (110 : Int32), (105 : Int32), (116 : Int32), (121 : Int32)] : List Int32) 0 (9 : Int32) [(.int (45 : Int32).toInt8.toInt32), (.int (105 : Int32).toInt8.toInt32), (.int (110 : Int32).toInt8.toInt32), (.int (102 : Int32).toInt8.toInt32), (.int (105 : Int32).toInt8.toInt32), (.int (110 : Int32).toInt8.toInt32), (.int (105 : Int32).toInt8.toInt32), (.int (116 : Int32).toInt8.toInt32), (.int (121 : Int32).toInt8.toInt32)] := StrChars.Road.codOf (n := 9) rfl (fun x hx => (la2 x hx).2)
  have bd2 := own_up la2
  obtain ⟨cq1, kq1, q1a, q1b, q1c⟩ := isOf hZ e0 E_x
  obtain ⟨_, _, ⟨T1, L1, k1, n1⟩, -, X1, ⟨Lc1, hQ1, l1, y1, z1⟩, st1⟩ := X0.virtualBack hx (y := (⟨"java/lang/String", "length", "()I"⟩ : MethodName)) (z := (⟨"java/lang/String", "length", "()I"⟩ : MethodName)) hown (mvT hZ (own_w hw 14 rfl)) (mvT hZ (own_w hw 15 rfl)) (notFace_of_selects (args := #[]) (mvT hZ (own_w hw 17 rfl))) (mvT hZ (own_w hw 17 rfl)) (mvT hZ (own_w hw 16 rfl)) (by decide) (StrChars.Road.lenW (W := 1) hZ hwl (kI := 4) (own_w hw 3 rfl) (cs := [(45 : Int32), (105 : Int32), (110 : Int32), (102 : Int32), (105 : Int32), (110 : Int32), (105 : Int32), (116 : Int32), (121 : Int32)]) E_x V_x C_x K_x cd2 bd2 (S_C.ext O0.2) hzc (by show 9 ≤ 4000; decide) (by decide) (by decide)) q1a q1c (g := (mkF m 2 #[.val (.ref x), .val (.int (4 : Int32)), .val (.int f)] [(.ref x), (.int (4 : Int32))])) rfl (by rw [hml]; rfl) (Steps.refl _) (argsL := []) (rest := [(.int (4 : Int32))]) (lenOf pd_0 rfl) rfl (by show 2 * 0 + _ ≤ _; exact Nat.le_of_eq rfl) (hb hby d0_2) (fun _ _ => ⟨rfl, e0, (by decide : 0 + 0 ≤ _), (by decide : 0 + 0 ≤ _)⟩)
  dsimp only [Pt.U, Pt.locs, Pt.cells, Pt.slots] at X1 l1 y1 z1 st1 hQ1
  subst l1 y1 z1
  obtain ⟨rfl, rfl, k3⟩ := hQ1
  have N4 := Fr.app N0 (Fr.nil n0)
  obtain ⟨cq5, kq5, q5a, q5b, q5c⟩ := isOf hZ k3 E_x
  obtain ⟨_, _, ⟨T5, L5, k5, n5⟩, -, X5, ⟨Lc5, hQ5, l5, y5, z5⟩, st5⟩ := X1.virtualBack hx (y := (⟨"java/lang/String", "charAt", "(I)C"⟩ : MethodName)) (z := (⟨"java/lang/String", "charAt", "(I)C"⟩ : MethodName)) hown (mvT hZ (own_w hw 27 rfl)) (mvT hZ (own_w hw 28 rfl)) (notFace_of_selects (args := #[]) (mvT hZ (own_w hw 30 rfl))) (mvT hZ (own_w hw 30 rfl)) (mvT hZ (own_w hw 29 rfl)) (by decide) (StrChars.Road.chN (W := 0) hZ hwc (kI := 4) (own_w hw 3 rfl) (cs := [(45 : Int32), (105 : Int32), (110 : Int32), (102 : Int32), (105 : Int32), (110 : Int32), (105 : Int32), (116 : Int32), (121 : Int32)]) (i := 4) (j := (4 : Int32)) E_x V_x C_x K_x cd2 bd2 (S_C.ext O0.2) hzc (S_F.ext O0.2) hfm (by show 9 ≤ 4000; decide) (by show 4 < 9; decide) rfl (by decide) (by decide)) q5a q5c (g := (mkF m 10 #[.val (.ref x), .val (.int (4 : Int32)), .val (.int f)] [(.int (4 : Int32)), (.ref x)])) rfl (by rw [hml]; rfl) (Steps.refl _) (argsL := [(.int (4 : Int32))]) (rest := []) (lenOf pd_1 rfl) rfl (by show 2 * 0 + _ ≤ _; exact Nat.le_of_eq rfl) (hb hby d0_10) (fun _ _ => ⟨rfl, k3, (by decide : 0 + 0 ≤ _), (by decide : 0 + 0 ≤ _)⟩)
  dsimp only [Pt.U, Pt.locs, Pt.cells, Pt.slots] at X5 l5 y5 z5 st5 hQ5
  subst l5 y5 z5
  obtain ⟨rfl, rfl, k6⟩ := hQ5
  have N7 := Fr.app N4 (Fr.nil n0)
  have S8 : ∀ t, Steps p.tables e below (T5.setTop (mkF m 17 #[.val (.ref x), .val (.int (4 : Int32)), .val (.int f)] [(.int (105 : Int32))])) t → Steps p.tables e below (s₁.setTop (mkF m 0 #[.val (.ref x), .val (.int (4 : Int32)), .val (.int f)] [])) t := by
    intro t kt
    refine XS.iloadN X0.here hx rfl (hb hby d0_0) rfl ?_
    refine XS.aloadN X0.here hx rfl (hb hby d0_1) rfl rfl ?_
    show Steps p.tables e below (s₁.setTop (mkF m 2 #[.val (.ref x), .val (.int (4 : Int32)), .val (.int f)] [(.ref x), (.int (4 : Int32))])) _
    refine st1.trans ?_
    refine XS.icmpNo X1.here hx rfl (hb hby d0_5) rfl (tlt ((by decide) : (4 : Int32) < (9 : Int32))).2.1 ?_
    refine XS.aloadN X1.here hx rfl (hb hby d0_8) rfl rfl ?_
    refine XS.iloadN X1.here hx rfl (hb hby d0_9) rfl ?_
    show Steps p.tables e below (T1.setTop (mkF m 10 #[.val (.ref x), .val (.int (4 : Int32)), .val (.int f)] [(.int (4 : Int32)), (.ref x)])) _
    refine st5.trans ?_
    refine XS.goto X5.here hx rfl (pc0 := 13) (pc' := 17) rfl (hb hby d0_13) (by decide) (by decide) ?_
    exact kt
  obtain ⟨fs, hr, hrun, hended, hW, hsame⟩ := X5.leave (v := some (.int (105 : Int32))) (fun h => by rw [Bd.returns] at h; cases h)
  refine ⟨_, _, pre0 _ (S8 _ ?_), hrun, hended, _, _, rfl, ?_, ⟨_, rfl⟩, hW, hsame.mono (by decide) (by decide)⟩
  · exact retN X5 hx (t := .char) Bd.returns (by simp) (hb hby d0_17) hr
  · show Q_rm_at9_4 Z x tx kx f zc fm h0 n0 _ T5.heap _
    rw [k6]
    exact ⟨rfl, N7, rfl⟩
theorem ef_rm_at9_5 (m : MethodId) (x0 : Addr) (x1 : Int32) (x2 : Int32) : entryFrame m #[(.ref x0), (.int x1), (.int x2)] 3 = mkF m 0 #[.val (.ref x0), .val (.int x1), .val (.int x2)] [] := by first | (simp [entryFrame, mkF, argsToLocals, Value.category]; done) | rfl
def Q_rm_at9_5 (Z : State) (x : Addr) (tx : Addr) (kx : ClassId) (f : Int32) (zc : Int32) (fm : Value) (h0 : Heap) (n0 : Nat) (v : Option Value) (h : Heap) (L : List Loc) : Prop := ((v = some (.int (110 : Int32))) ∧ (Fr n0 L) ∧ (h = h0))
set_option maxRecDepth 65536 in
set_option maxHeartbeats 40000000 in
theorem rm_at9_5 (l : Launch) (Z : State) (a0 : Array Value) (hw : ∀ d ∈ tables_1, d.before a0 Z = true) (ws : List Jvm.Cond) (x : Addr) (tx : Addr) (kx : ClassId) (f : Int32) (zc : Int32) (fm : Value) (h0 : Heap) (n0 : Nat) (O0 : Old Z n0 h0) (E_x : Exa Z h0 x "java/lang/String") (V_x : Fld Z h0 x "java/lang/String" "value" "[B" (.ref tx)) (C_x : Fld Z h0 x "java/lang/String" "coder" "B" (.int (0 : Int32))) (K_x : Arv Z h0 tx kx .byte (9 : Int32) [(.int (45 : Int32).toInt8.toInt32), (.int (105 : Int32).toInt8.toInt32), (.int (110 : Int32).toInt8.toInt32), (.int (102 : Int32).toInt8.toInt32), (.int (105 : Int32).toInt8.toInt32), (.int (110 : Int32).toInt8.toInt32), (.int (105 : Int32).toInt8.toInt32), (.int (116 : Int32).toInt8.toInt32), (.int (121 : Int32).toInt8.toInt32)] (.int (0 : Int32))) (la_f : ¬ (f < (0 : Int32)) ∧ ¬ ((255 : Int32) < f)) (S_C : Sta Z Z.heap "java/lang/String" "COMPACT_STRINGS" "Z" (.int zc)) (hzc : ¬ (zc = (0 : Int32))) (S_F : Sta Z Z.heap "jdk/internal/util/Preconditions" "SIOOBE_FORMATTER" "Ljava/util/function/BiFunction;" fm) (hfm : fm.isRef = true) :
    MetFree l (⟨"com/example/logtide/logtide/event/TemporalTextIsInfinitePinLaw", "at", "(Ljava/lang/String;IC)C"⟩ : MethodName) (head1 (Jvm.Cond.code (⟨"com/example/logtide/logtide/event/TemporalTextIsInfinitePinLaw", "at", "(Ljava/lang/String;IC)C"⟩ : MethodName) method_3_code 3 (some .char) :: ws) ({ frames := 4, cells := 0, slots := 0, locals := 53 } : Room)) (fun a U => a = #[(.ref x), (.int (5 : Int32)), (.int f)] ∧ Z.Warmed39 U.vm ∧ U.heap = h0) (fun _ _ _ _ _ => True) (fun _ U o U' => ∃ v L, o = .returned v ∧ Q_rm_at9_5 Z x tx kx f zc fm h0 n0 v U'.heap L ∧ FrameEnd U o U' L ({ frames := 4, cells := 0, slots := 0, locals := 53 } : Room).cells ({ frames := 4, cells := 0, slots := 0, locals := 53 } : Room).slots) := by
  refine MetFree.of_bodySF (plainFor_of_name pn_0) hisR ?_
  intro p e s m args below meth c s₁ Bd hml0 hP hK
  obtain ⟨rfl, hZ, hh⟩ := hP
  have hx := Bd.exec
  have hby := Bd.bytes
  have hml : c.maxLocals = 3 := hml0
  have hown : s.vm.findClass "com/example/logtide/logtide/event/TemporalTextIsInfinitePinLaw" = some m.cls := findClass_of_methodNamed Bd.named
  have hnm := (name_of_methodNamed Bd.named Bd.method).1
  have X0 : Stand p l e ({ frames := 4, cells := 0, slots := 0, locals := 53 } : Room) s m #[(.ref x), (.int (5 : Int32)), (.int f)] below meth c s₁ [] 0 0 := Stand.of_body Bd
  have e0 : s₁.heap = h0 := by rw [← hh, Bd.state]; rfl
  have N0 := Fr.nil n0
  have hwl : ∀ d ∈ StrChars.Road.wordsLen, d.before a0 Z = true := fun d hd => hw d (own_wordsLen d hd)
  have hwc : ∀ d ∈ StrChars.Road.wordsChN, d.before a0 Z = true := fun d hd => hw d (own_wordsChN d hd)
  have hwq : ∀ d ∈ StrChars.Road.wordsEq, d.before a0 Z = true := fun d hd => hw d (own_wordsEq d hd)
  have hws : ∀ d ∈ StrChars.Road.words, d.before a0 Z = true := fun d hd => hw d (own_words d hd)
  have pre0 : ∀ t, Steps p.tables e below (s₁.setTop (mkF m 0 #[.val (.ref x), .val (.int (5 : Int32)), .val (.int f)] [])) t → Steps p.tables e below (s₁.setTop (entryFrame m #[(.ref x), (.int (5 : Int32)), (.int f)] 3)) t := fun t k => castTop (ef_rm_at9_5 m x (5 : Int32) f) k
  have la2 : ∀ c ∈ ([(45 : Int32), (105 : Int32), (110 : Int32), (102 : Int32), (105 : Int32), (110 : Int32), (105 : Int32), (116 : Int32), (121 : Int32)] : List Int32), ¬ c < 0 ∧ ¬ (255 : Int32) < c := by
    intro c hc
    simp only [List.mem_cons, List.not_mem_nil, or_false] at hc
    rcases hc with rfl | rfl | rfl | rfl | rfl | rfl | rfl | rfl | rfl
    · exact ⟨by decide, by decide⟩
    · exact ⟨by decide, by decide⟩
    · exact ⟨by decide, by decide⟩
    · exact ⟨by decide, by decide⟩
    · exact ⟨by decide, by decide⟩
    · exact ⟨by decide, by decide⟩
    · exact ⟨by decide, by decide⟩
    · exact ⟨by decide, by decide⟩
    · exact ⟨by decide, by decide⟩
  have cd2 : StrChars.Road.CodA ([(45 : Int32), (105 : Int32), (110 : Int32), (102 : Int32), (105 : Int32), (110 : Int32), (105 : Int32), (116 : Int32), (121 : Int32)] : List Int32) 0 (9 : Int32) [(.int (45 : Int32).toInt8.toInt32), (.int (105 : Int32).toInt8.toInt32), (.int (110 : Int32).toInt8.toInt32), (.int (102 : Int32).toInt8.toInt32), (.int (105 : Int32).toInt8.toInt32), (.int (110 : Int32).toInt8.toInt32), (.int (105 : Int32).toInt8.toInt32), (.int (116 : Int32).toInt8.toInt32), (.int (121 : Int32).toInt8.toInt32)] := StrChars.Road.codOf (n := 9) rfl (fun x hx => (la2 x hx).2)
  have bd2 := own_up la2
  obtain ⟨cq1, kq1, q1a, q1b, q1c⟩ := isOf hZ e0 E_x
  obtain ⟨_, _, ⟨T1, L1, k1, n1⟩, -, X1, ⟨Lc1, hQ1, l1, y1, z1⟩, st1⟩ := X0.virtualBack hx (y := (⟨"java/lang/String", "length", "()I"⟩ : MethodName)) (z := (⟨"java/lang/String", "length", "()I"⟩ : MethodName)) hown (mvT hZ (own_w hw 14 rfl)) (mvT hZ (own_w hw 15 rfl)) (notFace_of_selects (args := #[]) (mvT hZ (own_w hw 17 rfl))) (mvT hZ (own_w hw 17 rfl)) (mvT hZ (own_w hw 16 rfl)) (by decide) (StrChars.Road.lenW (W := 1) hZ hwl (kI := 4) (own_w hw 3 rfl) (cs := [(45 : Int32), (105 : Int32), (110 : Int32), (102 : Int32), (105 : Int32), (110 : Int32), (105 : Int32), (116 : Int32), (121 : Int32)]) E_x V_x C_x K_x cd2 bd2 (S_C.ext O0.2) hzc (by show 9 ≤ 4000; decide) (by decide) (by decide)) q1a q1c (g := (mkF m 2 #[.val (.ref x), .val (.int (5 : Int32)), .val (.int f)] [(.ref x), (.int (5 : Int32))])) rfl (by rw [hml]; rfl) (Steps.refl _) (argsL := []) (rest := [(.int (5 : Int32))]) (lenOf pd_0 rfl) rfl (by show 2 * 0 + _ ≤ _; exact Nat.le_of_eq rfl) (hb hby d0_2) (fun _ _ => ⟨rfl, e0, (by decide : 0 + 0 ≤ _), (by decide : 0 + 0 ≤ _)⟩)
  dsimp only [Pt.U, Pt.locs, Pt.cells, Pt.slots] at X1 l1 y1 z1 st1 hQ1
  subst l1 y1 z1
  obtain ⟨rfl, rfl, k3⟩ := hQ1
  have N4 := Fr.app N0 (Fr.nil n0)
  obtain ⟨cq5, kq5, q5a, q5b, q5c⟩ := isOf hZ k3 E_x
  obtain ⟨_, _, ⟨T5, L5, k5, n5⟩, -, X5, ⟨Lc5, hQ5, l5, y5, z5⟩, st5⟩ := X1.virtualBack hx (y := (⟨"java/lang/String", "charAt", "(I)C"⟩ : MethodName)) (z := (⟨"java/lang/String", "charAt", "(I)C"⟩ : MethodName)) hown (mvT hZ (own_w hw 27 rfl)) (mvT hZ (own_w hw 28 rfl)) (notFace_of_selects (args := #[]) (mvT hZ (own_w hw 30 rfl))) (mvT hZ (own_w hw 30 rfl)) (mvT hZ (own_w hw 29 rfl)) (by decide) (StrChars.Road.chN (W := 0) hZ hwc (kI := 4) (own_w hw 3 rfl) (cs := [(45 : Int32), (105 : Int32), (110 : Int32), (102 : Int32), (105 : Int32), (110 : Int32), (105 : Int32), (116 : Int32), (121 : Int32)]) (i := 5) (j := (5 : Int32)) E_x V_x C_x K_x cd2 bd2 (S_C.ext O0.2) hzc (S_F.ext O0.2) hfm (by show 9 ≤ 4000; decide) (by show 5 < 9; decide) rfl (by decide) (by decide)) q5a q5c (g := (mkF m 10 #[.val (.ref x), .val (.int (5 : Int32)), .val (.int f)] [(.int (5 : Int32)), (.ref x)])) rfl (by rw [hml]; rfl) (Steps.refl _) (argsL := [(.int (5 : Int32))]) (rest := []) (lenOf pd_1 rfl) rfl (by show 2 * 0 + _ ≤ _; exact Nat.le_of_eq rfl) (hb hby d0_10) (fun _ _ => ⟨rfl, k3, (by decide : 0 + 0 ≤ _), (by decide : 0 + 0 ≤ _)⟩)
  dsimp only [Pt.U, Pt.locs, Pt.cells, Pt.slots] at X5 l5 y5 z5 st5 hQ5
  subst l5 y5 z5
  obtain ⟨rfl, rfl, k6⟩ := hQ5
  have N7 := Fr.app N4 (Fr.nil n0)
  have S8 : ∀ t, Steps p.tables e below (T5.setTop (mkF m 17 #[.val (.ref x), .val (.int (5 : Int32)), .val (.int f)] [(.int (110 : Int32))])) t → Steps p.tables e below (s₁.setTop (mkF m 0 #[.val (.ref x), .val (.int (5 : Int32)), .val (.int f)] [])) t := by
    intro t kt
    refine XS.iloadN X0.here hx rfl (hb hby d0_0) rfl ?_
    refine XS.aloadN X0.here hx rfl (hb hby d0_1) rfl rfl ?_
    show Steps p.tables e below (s₁.setTop (mkF m 2 #[.val (.ref x), .val (.int (5 : Int32)), .val (.int f)] [(.ref x), (.int (5 : Int32))])) _
    refine st1.trans ?_
    refine XS.icmpNo X1.here hx rfl (hb hby d0_5) rfl (tlt ((by decide) : (5 : Int32) < (9 : Int32))).2.1 ?_
    refine XS.aloadN X1.here hx rfl (hb hby d0_8) rfl rfl ?_
    refine XS.iloadN X1.here hx rfl (hb hby d0_9) rfl ?_
    show Steps p.tables e below (T1.setTop (mkF m 10 #[.val (.ref x), .val (.int (5 : Int32)), .val (.int f)] [(.int (5 : Int32)), (.ref x)])) _
    refine st5.trans ?_
    refine XS.goto X5.here hx rfl (pc0 := 13) (pc' := 17) rfl (hb hby d0_13) (by decide) (by decide) ?_
    exact kt
  obtain ⟨fs, hr, hrun, hended, hW, hsame⟩ := X5.leave (v := some (.int (110 : Int32))) (fun h => by rw [Bd.returns] at h; cases h)
  refine ⟨_, _, pre0 _ (S8 _ ?_), hrun, hended, _, _, rfl, ?_, ⟨_, rfl⟩, hW, hsame.mono (by decide) (by decide)⟩
  · exact retN X5 hx (t := .char) Bd.returns (by simp) (hb hby d0_17) hr
  · show Q_rm_at9_5 Z x tx kx f zc fm h0 n0 _ T5.heap _
    rw [k6]
    exact ⟨rfl, N7, rfl⟩
theorem ef_rm_at9_6 (m : MethodId) (x0 : Addr) (x1 : Int32) (x2 : Int32) : entryFrame m #[(.ref x0), (.int x1), (.int x2)] 3 = mkF m 0 #[.val (.ref x0), .val (.int x1), .val (.int x2)] [] := by first | (simp [entryFrame, mkF, argsToLocals, Value.category]; done) | rfl
def Q_rm_at9_6 (Z : State) (x : Addr) (tx : Addr) (kx : ClassId) (f : Int32) (zc : Int32) (fm : Value) (h0 : Heap) (n0 : Nat) (v : Option Value) (h : Heap) (L : List Loc) : Prop := ((v = some (.int (105 : Int32))) ∧ (Fr n0 L) ∧ (h = h0))
set_option maxRecDepth 65536 in
set_option maxHeartbeats 40000000 in
theorem rm_at9_6 (l : Launch) (Z : State) (a0 : Array Value) (hw : ∀ d ∈ tables_1, d.before a0 Z = true) (ws : List Jvm.Cond) (x : Addr) (tx : Addr) (kx : ClassId) (f : Int32) (zc : Int32) (fm : Value) (h0 : Heap) (n0 : Nat) (O0 : Old Z n0 h0) (E_x : Exa Z h0 x "java/lang/String") (V_x : Fld Z h0 x "java/lang/String" "value" "[B" (.ref tx)) (C_x : Fld Z h0 x "java/lang/String" "coder" "B" (.int (0 : Int32))) (K_x : Arv Z h0 tx kx .byte (9 : Int32) [(.int (45 : Int32).toInt8.toInt32), (.int (105 : Int32).toInt8.toInt32), (.int (110 : Int32).toInt8.toInt32), (.int (102 : Int32).toInt8.toInt32), (.int (105 : Int32).toInt8.toInt32), (.int (110 : Int32).toInt8.toInt32), (.int (105 : Int32).toInt8.toInt32), (.int (116 : Int32).toInt8.toInt32), (.int (121 : Int32).toInt8.toInt32)] (.int (0 : Int32))) (la_f : ¬ (f < (0 : Int32)) ∧ ¬ ((255 : Int32) < f)) (S_C : Sta Z Z.heap "java/lang/String" "COMPACT_STRINGS" "Z" (.int zc)) (hzc : ¬ (zc = (0 : Int32))) (S_F : Sta Z Z.heap "jdk/internal/util/Preconditions" "SIOOBE_FORMATTER" "Ljava/util/function/BiFunction;" fm) (hfm : fm.isRef = true) :
    MetFree l (⟨"com/example/logtide/logtide/event/TemporalTextIsInfinitePinLaw", "at", "(Ljava/lang/String;IC)C"⟩ : MethodName) (head1 (Jvm.Cond.code (⟨"com/example/logtide/logtide/event/TemporalTextIsInfinitePinLaw", "at", "(Ljava/lang/String;IC)C"⟩ : MethodName) method_3_code 3 (some .char) :: ws) ({ frames := 4, cells := 0, slots := 0, locals := 53 } : Room)) (fun a U => a = #[(.ref x), (.int (6 : Int32)), (.int f)] ∧ Z.Warmed39 U.vm ∧ U.heap = h0) (fun _ _ _ _ _ => True) (fun _ U o U' => ∃ v L, o = .returned v ∧ Q_rm_at9_6 Z x tx kx f zc fm h0 n0 v U'.heap L ∧ FrameEnd U o U' L ({ frames := 4, cells := 0, slots := 0, locals := 53 } : Room).cells ({ frames := 4, cells := 0, slots := 0, locals := 53 } : Room).slots) := by
  refine MetFree.of_bodySF (plainFor_of_name pn_0) hisR ?_
  intro p e s m args below meth c s₁ Bd hml0 hP hK
  obtain ⟨rfl, hZ, hh⟩ := hP
  have hx := Bd.exec
  have hby := Bd.bytes
  have hml : c.maxLocals = 3 := hml0
  have hown : s.vm.findClass "com/example/logtide/logtide/event/TemporalTextIsInfinitePinLaw" = some m.cls := findClass_of_methodNamed Bd.named
  have hnm := (name_of_methodNamed Bd.named Bd.method).1
  have X0 : Stand p l e ({ frames := 4, cells := 0, slots := 0, locals := 53 } : Room) s m #[(.ref x), (.int (6 : Int32)), (.int f)] below meth c s₁ [] 0 0 := Stand.of_body Bd
  have e0 : s₁.heap = h0 := by rw [← hh, Bd.state]; rfl
  have N0 := Fr.nil n0
  have hwl : ∀ d ∈ StrChars.Road.wordsLen, d.before a0 Z = true := fun d hd => hw d (own_wordsLen d hd)
  have hwc : ∀ d ∈ StrChars.Road.wordsChN, d.before a0 Z = true := fun d hd => hw d (own_wordsChN d hd)
  have hwq : ∀ d ∈ StrChars.Road.wordsEq, d.before a0 Z = true := fun d hd => hw d (own_wordsEq d hd)
  have hws : ∀ d ∈ StrChars.Road.words, d.before a0 Z = true := fun d hd => hw d (own_words d hd)
  have pre0 : ∀ t, Steps p.tables e below (s₁.setTop (mkF m 0 #[.val (.ref x), .val (.int (6 : Int32)), .val (.int f)] [])) t → Steps p.tables e below (s₁.setTop (entryFrame m #[(.ref x), (.int (6 : Int32)), (.int f)] 3)) t := fun t k => castTop (ef_rm_at9_6 m x (6 : Int32) f) k
  have la2 : ∀ c ∈ ([(45 : Int32), (105 : Int32), (110 : Int32), (102 : Int32), (105 : Int32), (110 : Int32), (105 : Int32), (116 : Int32), (121 : Int32)] : List Int32), ¬ c < 0 ∧ ¬ (255 : Int32) < c := by
    intro c hc
    simp only [List.mem_cons, List.not_mem_nil, or_false] at hc
    rcases hc with rfl | rfl | rfl | rfl | rfl | rfl | rfl | rfl | rfl
    · exact ⟨by decide, by decide⟩
    · exact ⟨by decide, by decide⟩
    · exact ⟨by decide, by decide⟩
    · exact ⟨by decide, by decide⟩
    · exact ⟨by decide, by decide⟩
    · exact ⟨by decide, by decide⟩
    · exact ⟨by decide, by decide⟩
    · exact ⟨by decide, by decide⟩
    · exact ⟨by decide, by decide⟩
  have cd2 : StrChars.Road.CodA ([(45 : Int32), (105 : Int32), (110 : Int32), (102 : Int32), (105 : Int32), (110 : Int32), (105 : Int32), (116 : Int32), (121 : Int32)] : List Int32) 0 (9 : Int32) [(.int (45 : Int32).toInt8.toInt32), (.int (105 : Int32).toInt8.toInt32), (.int (110 : Int32).toInt8.toInt32), (.int (102 : Int32).toInt8.toInt32), (.int (105 : Int32).toInt8.toInt32), (.int (110 : Int32).toInt8.toInt32), (.int (105 : Int32).toInt8.toInt32), (.int (116 : Int32).toInt8.toInt32), (.int (121 : Int32).toInt8.toInt32)] := StrChars.Road.codOf (n := 9) rfl (fun x hx => (la2 x hx).2)
  have bd2 := own_up la2
  obtain ⟨cq1, kq1, q1a, q1b, q1c⟩ := isOf hZ e0 E_x
  obtain ⟨_, _, ⟨T1, L1, k1, n1⟩, -, X1, ⟨Lc1, hQ1, l1, y1, z1⟩, st1⟩ := X0.virtualBack hx (y := (⟨"java/lang/String", "length", "()I"⟩ : MethodName)) (z := (⟨"java/lang/String", "length", "()I"⟩ : MethodName)) hown (mvT hZ (own_w hw 14 rfl)) (mvT hZ (own_w hw 15 rfl)) (notFace_of_selects (args := #[]) (mvT hZ (own_w hw 17 rfl))) (mvT hZ (own_w hw 17 rfl)) (mvT hZ (own_w hw 16 rfl)) (by decide) (StrChars.Road.lenW (W := 1) hZ hwl (kI := 4) (own_w hw 3 rfl) (cs := [(45 : Int32), (105 : Int32), (110 : Int32), (102 : Int32), (105 : Int32), (110 : Int32), (105 : Int32), (116 : Int32), (121 : Int32)]) E_x V_x C_x K_x cd2 bd2 (S_C.ext O0.2) hzc (by show 9 ≤ 4000; decide) (by decide) (by decide)) q1a q1c (g := (mkF m 2 #[.val (.ref x), .val (.int (6 : Int32)), .val (.int f)] [(.ref x), (.int (6 : Int32))])) rfl (by rw [hml]; rfl) (Steps.refl _) (argsL := []) (rest := [(.int (6 : Int32))]) (lenOf pd_0 rfl) rfl (by show 2 * 0 + _ ≤ _; exact Nat.le_of_eq rfl) (hb hby d0_2) (fun _ _ => ⟨rfl, e0, (by decide : 0 + 0 ≤ _), (by decide : 0 + 0 ≤ _)⟩)
  dsimp only [Pt.U, Pt.locs, Pt.cells, Pt.slots] at X1 l1 y1 z1 st1 hQ1
  subst l1 y1 z1
  obtain ⟨rfl, rfl, k3⟩ := hQ1
  have N4 := Fr.app N0 (Fr.nil n0)
  obtain ⟨cq5, kq5, q5a, q5b, q5c⟩ := isOf hZ k3 E_x
  obtain ⟨_, _, ⟨T5, L5, k5, n5⟩, -, X5, ⟨Lc5, hQ5, l5, y5, z5⟩, st5⟩ := X1.virtualBack hx (y := (⟨"java/lang/String", "charAt", "(I)C"⟩ : MethodName)) (z := (⟨"java/lang/String", "charAt", "(I)C"⟩ : MethodName)) hown (mvT hZ (own_w hw 27 rfl)) (mvT hZ (own_w hw 28 rfl)) (notFace_of_selects (args := #[]) (mvT hZ (own_w hw 30 rfl))) (mvT hZ (own_w hw 30 rfl)) (mvT hZ (own_w hw 29 rfl)) (by decide) (StrChars.Road.chN (W := 0) hZ hwc (kI := 4) (own_w hw 3 rfl) (cs := [(45 : Int32), (105 : Int32), (110 : Int32), (102 : Int32), (105 : Int32), (110 : Int32), (105 : Int32), (116 : Int32), (121 : Int32)]) (i := 6) (j := (6 : Int32)) E_x V_x C_x K_x cd2 bd2 (S_C.ext O0.2) hzc (S_F.ext O0.2) hfm (by show 9 ≤ 4000; decide) (by show 6 < 9; decide) rfl (by decide) (by decide)) q5a q5c (g := (mkF m 10 #[.val (.ref x), .val (.int (6 : Int32)), .val (.int f)] [(.int (6 : Int32)), (.ref x)])) rfl (by rw [hml]; rfl) (Steps.refl _) (argsL := [(.int (6 : Int32))]) (rest := []) (lenOf pd_1 rfl) rfl (by show 2 * 0 + _ ≤ _; exact Nat.le_of_eq rfl) (hb hby d0_10) (fun _ _ => ⟨rfl, k3, (by decide : 0 + 0 ≤ _), (by decide : 0 + 0 ≤ _)⟩)
  dsimp only [Pt.U, Pt.locs, Pt.cells, Pt.slots] at X5 l5 y5 z5 st5 hQ5
  subst l5 y5 z5
  obtain ⟨rfl, rfl, k6⟩ := hQ5
  have N7 := Fr.app N4 (Fr.nil n0)
  have S8 : ∀ t, Steps p.tables e below (T5.setTop (mkF m 17 #[.val (.ref x), .val (.int (6 : Int32)), .val (.int f)] [(.int (105 : Int32))])) t → Steps p.tables e below (s₁.setTop (mkF m 0 #[.val (.ref x), .val (.int (6 : Int32)), .val (.int f)] [])) t := by
    intro t kt
    refine XS.iloadN X0.here hx rfl (hb hby d0_0) rfl ?_
    refine XS.aloadN X0.here hx rfl (hb hby d0_1) rfl rfl ?_
    show Steps p.tables e below (s₁.setTop (mkF m 2 #[.val (.ref x), .val (.int (6 : Int32)), .val (.int f)] [(.ref x), (.int (6 : Int32))])) _
    refine st1.trans ?_
    refine XS.icmpNo X1.here hx rfl (hb hby d0_5) rfl (tlt ((by decide) : (6 : Int32) < (9 : Int32))).2.1 ?_
    refine XS.aloadN X1.here hx rfl (hb hby d0_8) rfl rfl ?_
    refine XS.iloadN X1.here hx rfl (hb hby d0_9) rfl ?_
    show Steps p.tables e below (T1.setTop (mkF m 10 #[.val (.ref x), .val (.int (6 : Int32)), .val (.int f)] [(.int (6 : Int32)), (.ref x)])) _
    refine st5.trans ?_
    refine XS.goto X5.here hx rfl (pc0 := 13) (pc' := 17) rfl (hb hby d0_13) (by decide) (by decide) ?_
    exact kt
  obtain ⟨fs, hr, hrun, hended, hW, hsame⟩ := X5.leave (v := some (.int (105 : Int32))) (fun h => by rw [Bd.returns] at h; cases h)
  refine ⟨_, _, pre0 _ (S8 _ ?_), hrun, hended, _, _, rfl, ?_, ⟨_, rfl⟩, hW, hsame.mono (by decide) (by decide)⟩
  · exact retN X5 hx (t := .char) Bd.returns (by simp) (hb hby d0_17) hr
  · show Q_rm_at9_6 Z x tx kx f zc fm h0 n0 _ T5.heap _
    rw [k6]
    exact ⟨rfl, N7, rfl⟩
theorem ef_rm_at9_7 (m : MethodId) (x0 : Addr) (x1 : Int32) (x2 : Int32) : entryFrame m #[(.ref x0), (.int x1), (.int x2)] 3 = mkF m 0 #[.val (.ref x0), .val (.int x1), .val (.int x2)] [] := by first | (simp [entryFrame, mkF, argsToLocals, Value.category]; done) | rfl
def Q_rm_at9_7 (Z : State) (x : Addr) (tx : Addr) (kx : ClassId) (f : Int32) (zc : Int32) (fm : Value) (h0 : Heap) (n0 : Nat) (v : Option Value) (h : Heap) (L : List Loc) : Prop := ((v = some (.int (116 : Int32))) ∧ (Fr n0 L) ∧ (h = h0))
set_option maxRecDepth 65536 in
set_option maxHeartbeats 40000000 in
theorem rm_at9_7 (l : Launch) (Z : State) (a0 : Array Value) (hw : ∀ d ∈ tables_1, d.before a0 Z = true) (ws : List Jvm.Cond) (x : Addr) (tx : Addr) (kx : ClassId) (f : Int32) (zc : Int32) (fm : Value) (h0 : Heap) (n0 : Nat) (O0 : Old Z n0 h0) (E_x : Exa Z h0 x "java/lang/String") (V_x : Fld Z h0 x "java/lang/String" "value" "[B" (.ref tx)) (C_x : Fld Z h0 x "java/lang/String" "coder" "B" (.int (0 : Int32))) (K_x : Arv Z h0 tx kx .byte (9 : Int32) [(.int (45 : Int32).toInt8.toInt32), (.int (105 : Int32).toInt8.toInt32), (.int (110 : Int32).toInt8.toInt32), (.int (102 : Int32).toInt8.toInt32), (.int (105 : Int32).toInt8.toInt32), (.int (110 : Int32).toInt8.toInt32), (.int (105 : Int32).toInt8.toInt32), (.int (116 : Int32).toInt8.toInt32), (.int (121 : Int32).toInt8.toInt32)] (.int (0 : Int32))) (la_f : ¬ (f < (0 : Int32)) ∧ ¬ ((255 : Int32) < f)) (S_C : Sta Z Z.heap "java/lang/String" "COMPACT_STRINGS" "Z" (.int zc)) (hzc : ¬ (zc = (0 : Int32))) (S_F : Sta Z Z.heap "jdk/internal/util/Preconditions" "SIOOBE_FORMATTER" "Ljava/util/function/BiFunction;" fm) (hfm : fm.isRef = true) :
    MetFree l (⟨"com/example/logtide/logtide/event/TemporalTextIsInfinitePinLaw", "at", "(Ljava/lang/String;IC)C"⟩ : MethodName) (head1 (Jvm.Cond.code (⟨"com/example/logtide/logtide/event/TemporalTextIsInfinitePinLaw", "at", "(Ljava/lang/String;IC)C"⟩ : MethodName) method_3_code 3 (some .char) :: ws) ({ frames := 4, cells := 0, slots := 0, locals := 53 } : Room)) (fun a U => a = #[(.ref x), (.int (7 : Int32)), (.int f)] ∧ Z.Warmed39 U.vm ∧ U.heap = h0) (fun _ _ _ _ _ => True) (fun _ U o U' => ∃ v L, o = .returned v ∧ Q_rm_at9_7 Z x tx kx f zc fm h0 n0 v U'.heap L ∧ FrameEnd U o U' L ({ frames := 4, cells := 0, slots := 0, locals := 53 } : Room).cells ({ frames := 4, cells := 0, slots := 0, locals := 53 } : Room).slots) := by
  refine MetFree.of_bodySF (plainFor_of_name pn_0) hisR ?_
  intro p e s m args below meth c s₁ Bd hml0 hP hK
  obtain ⟨rfl, hZ, hh⟩ := hP
  have hx := Bd.exec
  have hby := Bd.bytes
  have hml : c.maxLocals = 3 := hml0
  have hown : s.vm.findClass "com/example/logtide/logtide/event/TemporalTextIsInfinitePinLaw" = some m.cls := findClass_of_methodNamed Bd.named
  have hnm := (name_of_methodNamed Bd.named Bd.method).1
  have X0 : Stand p l e ({ frames := 4, cells := 0, slots := 0, locals := 53 } : Room) s m #[(.ref x), (.int (7 : Int32)), (.int f)] below meth c s₁ [] 0 0 := Stand.of_body Bd
  have e0 : s₁.heap = h0 := by rw [← hh, Bd.state]; rfl
  have N0 := Fr.nil n0
  have hwl : ∀ d ∈ StrChars.Road.wordsLen, d.before a0 Z = true := fun d hd => hw d (own_wordsLen d hd)
  have hwc : ∀ d ∈ StrChars.Road.wordsChN, d.before a0 Z = true := fun d hd => hw d (own_wordsChN d hd)
  have hwq : ∀ d ∈ StrChars.Road.wordsEq, d.before a0 Z = true := fun d hd => hw d (own_wordsEq d hd)
  have hws : ∀ d ∈ StrChars.Road.words, d.before a0 Z = true := fun d hd => hw d (own_words d hd)
  have pre0 : ∀ t, Steps p.tables e below (s₁.setTop (mkF m 0 #[.val (.ref x), .val (.int (7 : Int32)), .val (.int f)] [])) t → Steps p.tables e below (s₁.setTop (entryFrame m #[(.ref x), (.int (7 : Int32)), (.int f)] 3)) t := fun t k => castTop (ef_rm_at9_7 m x (7 : Int32) f) k
  have la2 : ∀ c ∈ ([(45 : Int32), (105 : Int32), (110 : Int32), (102 : Int32), (105 : Int32), (110 : Int32), (105 : Int32), (116 : Int32), (121 : Int32)] : List Int32), ¬ c < 0 ∧ ¬ (255 : Int32) < c := by
    intro c hc
    simp only [List.mem_cons, List.not_mem_nil, or_false] at hc
    rcases hc with rfl | rfl | rfl | rfl | rfl | rfl | rfl | rfl | rfl
    · exact ⟨by decide, by decide⟩
    · exact ⟨by decide, by decide⟩
    · exact ⟨by decide, by decide⟩
    · exact ⟨by decide, by decide⟩
    · exact ⟨by decide, by decide⟩
    · exact ⟨by decide, by decide⟩
    · exact ⟨by decide, by decide⟩
    · exact ⟨by decide, by decide⟩
    · exact ⟨by decide, by decide⟩
  have cd2 : StrChars.Road.CodA ([(45 : Int32), (105 : Int32), (110 : Int32), (102 : Int32), (105 : Int32), (110 : Int32), (105 : Int32), (116 : Int32), (121 : Int32)] : List Int32) 0 (9 : Int32) [(.int (45 : Int32).toInt8.toInt32), (.int (105 : Int32).toInt8.toInt32), (.int (110 : Int32).toInt8.toInt32), (.int (102 : Int32).toInt8.toInt32), (.int (105 : Int32).toInt8.toInt32), (.int (110 : Int32).toInt8.toInt32), (.int (105 : Int32).toInt8.toInt32), (.int (116 : Int32).toInt8.toInt32), (.int (121 : Int32).toInt8.toInt32)] := StrChars.Road.codOf (n := 9) rfl (fun x hx => (la2 x hx).2)
  have bd2 := own_up la2
  obtain ⟨cq1, kq1, q1a, q1b, q1c⟩ := isOf hZ e0 E_x
  obtain ⟨_, _, ⟨T1, L1, k1, n1⟩, -, X1, ⟨Lc1, hQ1, l1, y1, z1⟩, st1⟩ := X0.virtualBack hx (y := (⟨"java/lang/String", "length", "()I"⟩ : MethodName)) (z := (⟨"java/lang/String", "length", "()I"⟩ : MethodName)) hown (mvT hZ (own_w hw 14 rfl)) (mvT hZ (own_w hw 15 rfl)) (notFace_of_selects (args := #[]) (mvT hZ (own_w hw 17 rfl))) (mvT hZ (own_w hw 17 rfl)) (mvT hZ (own_w hw 16 rfl)) (by decide) (StrChars.Road.lenW (W := 1) hZ hwl (kI := 4) (own_w hw 3 rfl) (cs := [(45 : Int32), (105 : Int32), (110 : Int32), (102 : Int32), (105 : Int32), (110 : Int32), (105 : Int32), (116 : Int32), (121 : Int32)]) E_x V_x C_x K_x cd2 bd2 (S_C.ext O0.2) hzc (by show 9 ≤ 4000; decide) (by decide) (by decide)) q1a q1c (g := (mkF m 2 #[.val (.ref x), .val (.int (7 : Int32)), .val (.int f)] [(.ref x), (.int (7 : Int32))])) rfl (by rw [hml]; rfl) (Steps.refl _) (argsL := []) (rest := [(.int (7 : Int32))]) (lenOf pd_0 rfl) rfl (by show 2 * 0 + _ ≤ _; exact Nat.le_of_eq rfl) (hb hby d0_2) (fun _ _ => ⟨rfl, e0, (by decide : 0 + 0 ≤ _), (by decide : 0 + 0 ≤ _)⟩)
  dsimp only [Pt.U, Pt.locs, Pt.cells, Pt.slots] at X1 l1 y1 z1 st1 hQ1
  subst l1 y1 z1
  obtain ⟨rfl, rfl, k3⟩ := hQ1
  have N4 := Fr.app N0 (Fr.nil n0)
  obtain ⟨cq5, kq5, q5a, q5b, q5c⟩ := isOf hZ k3 E_x
  obtain ⟨_, _, ⟨T5, L5, k5, n5⟩, -, X5, ⟨Lc5, hQ5, l5, y5, z5⟩, st5⟩ := X1.virtualBack hx (y := (⟨"java/lang/String", "charAt", "(I)C"⟩ : MethodName)) (z := (⟨"java/lang/String", "charAt", "(I)C"⟩ : MethodName)) hown (mvT hZ (own_w hw 27 rfl)) (mvT hZ (own_w hw 28 rfl)) (notFace_of_selects (args := #[]) (mvT hZ (own_w hw 30 rfl))) (mvT hZ (own_w hw 30 rfl)) (mvT hZ (own_w hw 29 rfl)) (by decide) (StrChars.Road.chN (W := 0) hZ hwc (kI := 4) (own_w hw 3 rfl) (cs := [(45 : Int32), (105 : Int32), (110 : Int32), (102 : Int32), (105 : Int32), (110 : Int32), (105 : Int32), (116 : Int32), (121 : Int32)]) (i := 7) (j := (7 : Int32)) E_x V_x C_x K_x cd2 bd2 (S_C.ext O0.2) hzc (S_F.ext O0.2) hfm (by show 9 ≤ 4000; decide) (by show 7 < 9; decide) rfl (by decide) (by decide)) q5a q5c (g := (mkF m 10 #[.val (.ref x), .val (.int (7 : Int32)), .val (.int f)] [(.int (7 : Int32)), (.ref x)])) rfl (by rw [hml]; rfl) (Steps.refl _) (argsL := [(.int (7 : Int32))]) (rest := []) (lenOf pd_1 rfl) rfl (by show 2 * 0 + _ ≤ _; exact Nat.le_of_eq rfl) (hb hby d0_10) (fun _ _ => ⟨rfl, k3, (by decide : 0 + 0 ≤ _), (by decide : 0 + 0 ≤ _)⟩)
  dsimp only [Pt.U, Pt.locs, Pt.cells, Pt.slots] at X5 l5 y5 z5 st5 hQ5
  subst l5 y5 z5
  obtain ⟨rfl, rfl, k6⟩ := hQ5
  have N7 := Fr.app N4 (Fr.nil n0)
  have S8 : ∀ t, Steps p.tables e below (T5.setTop (mkF m 17 #[.val (.ref x), .val (.int (7 : Int32)), .val (.int f)] [(.int (116 : Int32))])) t → Steps p.tables e below (s₁.setTop (mkF m 0 #[.val (.ref x), .val (.int (7 : Int32)), .val (.int f)] [])) t := by
    intro t kt
    refine XS.iloadN X0.here hx rfl (hb hby d0_0) rfl ?_
    refine XS.aloadN X0.here hx rfl (hb hby d0_1) rfl rfl ?_
    show Steps p.tables e below (s₁.setTop (mkF m 2 #[.val (.ref x), .val (.int (7 : Int32)), .val (.int f)] [(.ref x), (.int (7 : Int32))])) _
    refine st1.trans ?_
    refine XS.icmpNo X1.here hx rfl (hb hby d0_5) rfl (tlt ((by decide) : (7 : Int32) < (9 : Int32))).2.1 ?_
    refine XS.aloadN X1.here hx rfl (hb hby d0_8) rfl rfl ?_
    refine XS.iloadN X1.here hx rfl (hb hby d0_9) rfl ?_
    show Steps p.tables e below (T1.setTop (mkF m 10 #[.val (.ref x), .val (.int (7 : Int32)), .val (.int f)] [(.int (7 : Int32)), (.ref x)])) _
    refine st5.trans ?_
    refine XS.goto X5.here hx rfl (pc0 := 13) (pc' := 17) rfl (hb hby d0_13) (by decide) (by decide) ?_
    exact kt
  obtain ⟨fs, hr, hrun, hended, hW, hsame⟩ := X5.leave (v := some (.int (116 : Int32))) (fun h => by rw [Bd.returns] at h; cases h)
  refine ⟨_, _, pre0 _ (S8 _ ?_), hrun, hended, _, _, rfl, ?_, ⟨_, rfl⟩, hW, hsame.mono (by decide) (by decide)⟩
  · exact retN X5 hx (t := .char) Bd.returns (by simp) (hb hby d0_17) hr
  · show Q_rm_at9_7 Z x tx kx f zc fm h0 n0 _ T5.heap _
    rw [k6]
    exact ⟨rfl, N7, rfl⟩
theorem ef_rm_at9_8 (m : MethodId) (x0 : Addr) (x1 : Int32) (x2 : Int32) : entryFrame m #[(.ref x0), (.int x1), (.int x2)] 3 = mkF m 0 #[.val (.ref x0), .val (.int x1), .val (.int x2)] [] := by first | (simp [entryFrame, mkF, argsToLocals, Value.category]; done) | rfl
def Q_rm_at9_8 (Z : State) (x : Addr) (tx : Addr) (kx : ClassId) (f : Int32) (zc : Int32) (fm : Value) (h0 : Heap) (n0 : Nat) (v : Option Value) (h : Heap) (L : List Loc) : Prop := ((v = some (.int (121 : Int32))) ∧ (Fr n0 L) ∧ (h = h0))
set_option maxRecDepth 65536 in
set_option maxHeartbeats 40000000 in
theorem rm_at9_8 (l : Launch) (Z : State) (a0 : Array Value) (hw : ∀ d ∈ tables_1, d.before a0 Z = true) (ws : List Jvm.Cond) (x : Addr) (tx : Addr) (kx : ClassId) (f : Int32) (zc : Int32) (fm : Value) (h0 : Heap) (n0 : Nat) (O0 : Old Z n0 h0) (E_x : Exa Z h0 x "java/lang/String") (V_x : Fld Z h0 x "java/lang/String" "value" "[B" (.ref tx)) (C_x : Fld Z h0 x "java/lang/String" "coder" "B" (.int (0 : Int32))) (K_x : Arv Z h0 tx kx .byte (9 : Int32) [(.int (45 : Int32).toInt8.toInt32), (.int (105 : Int32).toInt8.toInt32), (.int (110 : Int32).toInt8.toInt32), (.int (102 : Int32).toInt8.toInt32), (.int (105 : Int32).toInt8.toInt32), (.int (110 : Int32).toInt8.toInt32), (.int (105 : Int32).toInt8.toInt32), (.int (116 : Int32).toInt8.toInt32), (.int (121 : Int32).toInt8.toInt32)] (.int (0 : Int32))) (la_f : ¬ (f < (0 : Int32)) ∧ ¬ ((255 : Int32) < f)) (S_C : Sta Z Z.heap "java/lang/String" "COMPACT_STRINGS" "Z" (.int zc)) (hzc : ¬ (zc = (0 : Int32))) (S_F : Sta Z Z.heap "jdk/internal/util/Preconditions" "SIOOBE_FORMATTER" "Ljava/util/function/BiFunction;" fm) (hfm : fm.isRef = true) :
    MetFree l (⟨"com/example/logtide/logtide/event/TemporalTextIsInfinitePinLaw", "at", "(Ljava/lang/String;IC)C"⟩ : MethodName) (head1 (Jvm.Cond.code (⟨"com/example/logtide/logtide/event/TemporalTextIsInfinitePinLaw", "at", "(Ljava/lang/String;IC)C"⟩ : MethodName) method_3_code 3 (some .char) :: ws) ({ frames := 4, cells := 0, slots := 0, locals := 53 } : Room)) (fun a U => a = #[(.ref x), (.int (8 : Int32)), (.int f)] ∧ Z.Warmed39 U.vm ∧ U.heap = h0) (fun _ _ _ _ _ => True) (fun _ U o U' => ∃ v L, o = .returned v ∧ Q_rm_at9_8 Z x tx kx f zc fm h0 n0 v U'.heap L ∧ FrameEnd U o U' L ({ frames := 4, cells := 0, slots := 0, locals := 53 } : Room).cells ({ frames := 4, cells := 0, slots := 0, locals := 53 } : Room).slots) := by
  refine MetFree.of_bodySF (plainFor_of_name pn_0) hisR ?_
  intro p e s m args below meth c s₁ Bd hml0 hP hK
  obtain ⟨rfl, hZ, hh⟩ := hP
  have hx := Bd.exec
  have hby := Bd.bytes
  have hml : c.maxLocals = 3 := hml0
  have hown : s.vm.findClass "com/example/logtide/logtide/event/TemporalTextIsInfinitePinLaw" = some m.cls := findClass_of_methodNamed Bd.named
  have hnm := (name_of_methodNamed Bd.named Bd.method).1
  have X0 : Stand p l e ({ frames := 4, cells := 0, slots := 0, locals := 53 } : Room) s m #[(.ref x), (.int (8 : Int32)), (.int f)] below meth c s₁ [] 0 0 := Stand.of_body Bd
  have e0 : s₁.heap = h0 := by rw [← hh, Bd.state]; rfl
  have N0 := Fr.nil n0
  have hwl : ∀ d ∈ StrChars.Road.wordsLen, d.before a0 Z = true := fun d hd => hw d (own_wordsLen d hd)
  have hwc : ∀ d ∈ StrChars.Road.wordsChN, d.before a0 Z = true := fun d hd => hw d (own_wordsChN d hd)
  have hwq : ∀ d ∈ StrChars.Road.wordsEq, d.before a0 Z = true := fun d hd => hw d (own_wordsEq d hd)
  have hws : ∀ d ∈ StrChars.Road.words, d.before a0 Z = true := fun d hd => hw d (own_words d hd)
  have pre0 : ∀ t, Steps p.tables e below (s₁.setTop (mkF m 0 #[.val (.ref x), .val (.int (8 : Int32)), .val (.int f)] [])) t → Steps p.tables e below (s₁.setTop (entryFrame m #[(.ref x), (.int (8 : Int32)), (.int f)] 3)) t := fun t k => castTop (ef_rm_at9_8 m x (8 : Int32) f) k
  have la2 : ∀ c ∈ ([(45 : Int32), (105 : Int32), (110 : Int32), (102 : Int32), (105 : Int32), (110 : Int32), (105 : Int32), (116 : Int32), (121 : Int32)] : List Int32), ¬ c < 0 ∧ ¬ (255 : Int32) < c := by
    intro c hc
    simp only [List.mem_cons, List.not_mem_nil, or_false] at hc
    rcases hc with rfl | rfl | rfl | rfl | rfl | rfl | rfl | rfl | rfl
    · exact ⟨by decide, by decide⟩
    · exact ⟨by decide, by decide⟩
    · exact ⟨by decide, by decide⟩
    · exact ⟨by decide, by decide⟩
    · exact ⟨by decide, by decide⟩
    · exact ⟨by decide, by decide⟩
    · exact ⟨by decide, by decide⟩
    · exact ⟨by decide, by decide⟩
    · exact ⟨by decide, by decide⟩
  have cd2 : StrChars.Road.CodA ([(45 : Int32), (105 : Int32), (110 : Int32), (102 : Int32), (105 : Int32), (110 : Int32), (105 : Int32), (116 : Int32), (121 : Int32)] : List Int32) 0 (9 : Int32) [(.int (45 : Int32).toInt8.toInt32), (.int (105 : Int32).toInt8.toInt32), (.int (110 : Int32).toInt8.toInt32), (.int (102 : Int32).toInt8.toInt32), (.int (105 : Int32).toInt8.toInt32), (.int (110 : Int32).toInt8.toInt32), (.int (105 : Int32).toInt8.toInt32), (.int (116 : Int32).toInt8.toInt32), (.int (121 : Int32).toInt8.toInt32)] := StrChars.Road.codOf (n := 9) rfl (fun x hx => (la2 x hx).2)
  have bd2 := own_up la2
  obtain ⟨cq1, kq1, q1a, q1b, q1c⟩ := isOf hZ e0 E_x
  obtain ⟨_, _, ⟨T1, L1, k1, n1⟩, -, X1, ⟨Lc1, hQ1, l1, y1, z1⟩, st1⟩ := X0.virtualBack hx (y := (⟨"java/lang/String", "length", "()I"⟩ : MethodName)) (z := (⟨"java/lang/String", "length", "()I"⟩ : MethodName)) hown (mvT hZ (own_w hw 14 rfl)) (mvT hZ (own_w hw 15 rfl)) (notFace_of_selects (args := #[]) (mvT hZ (own_w hw 17 rfl))) (mvT hZ (own_w hw 17 rfl)) (mvT hZ (own_w hw 16 rfl)) (by decide) (StrChars.Road.lenW (W := 1) hZ hwl (kI := 4) (own_w hw 3 rfl) (cs := [(45 : Int32), (105 : Int32), (110 : Int32), (102 : Int32), (105 : Int32), (110 : Int32), (105 : Int32), (116 : Int32), (121 : Int32)]) E_x V_x C_x K_x cd2 bd2 (S_C.ext O0.2) hzc (by show 9 ≤ 4000; decide) (by decide) (by decide)) q1a q1c (g := (mkF m 2 #[.val (.ref x), .val (.int (8 : Int32)), .val (.int f)] [(.ref x), (.int (8 : Int32))])) rfl (by rw [hml]; rfl) (Steps.refl _) (argsL := []) (rest := [(.int (8 : Int32))]) (lenOf pd_0 rfl) rfl (by show 2 * 0 + _ ≤ _; exact Nat.le_of_eq rfl) (hb hby d0_2) (fun _ _ => ⟨rfl, e0, (by decide : 0 + 0 ≤ _), (by decide : 0 + 0 ≤ _)⟩)
  dsimp only [Pt.U, Pt.locs, Pt.cells, Pt.slots] at X1 l1 y1 z1 st1 hQ1
  subst l1 y1 z1
  obtain ⟨rfl, rfl, k3⟩ := hQ1
  have N4 := Fr.app N0 (Fr.nil n0)
  obtain ⟨cq5, kq5, q5a, q5b, q5c⟩ := isOf hZ k3 E_x
  obtain ⟨_, _, ⟨T5, L5, k5, n5⟩, -, X5, ⟨Lc5, hQ5, l5, y5, z5⟩, st5⟩ := X1.virtualBack hx (y := (⟨"java/lang/String", "charAt", "(I)C"⟩ : MethodName)) (z := (⟨"java/lang/String", "charAt", "(I)C"⟩ : MethodName)) hown (mvT hZ (own_w hw 27 rfl)) (mvT hZ (own_w hw 28 rfl)) (notFace_of_selects (args := #[]) (mvT hZ (own_w hw 30 rfl))) (mvT hZ (own_w hw 30 rfl)) (mvT hZ (own_w hw 29 rfl)) (by decide) (StrChars.Road.chN (W := 0) hZ hwc (kI := 4) (own_w hw 3 rfl) (cs := [(45 : Int32), (105 : Int32), (110 : Int32), (102 : Int32), (105 : Int32), (110 : Int32), (105 : Int32), (116 : Int32), (121 : Int32)]) (i := 8) (j := (8 : Int32)) E_x V_x C_x K_x cd2 bd2 (S_C.ext O0.2) hzc (S_F.ext O0.2) hfm (by show 9 ≤ 4000; decide) (by show 8 < 9; decide) rfl (by decide) (by decide)) q5a q5c (g := (mkF m 10 #[.val (.ref x), .val (.int (8 : Int32)), .val (.int f)] [(.int (8 : Int32)), (.ref x)])) rfl (by rw [hml]; rfl) (Steps.refl _) (argsL := [(.int (8 : Int32))]) (rest := []) (lenOf pd_1 rfl) rfl (by show 2 * 0 + _ ≤ _; exact Nat.le_of_eq rfl) (hb hby d0_10) (fun _ _ => ⟨rfl, k3, (by decide : 0 + 0 ≤ _), (by decide : 0 + 0 ≤ _)⟩)
  dsimp only [Pt.U, Pt.locs, Pt.cells, Pt.slots] at X5 l5 y5 z5 st5 hQ5
  subst l5 y5 z5
  obtain ⟨rfl, rfl, k6⟩ := hQ5
  have N7 := Fr.app N4 (Fr.nil n0)
  have S8 : ∀ t, Steps p.tables e below (T5.setTop (mkF m 17 #[.val (.ref x), .val (.int (8 : Int32)), .val (.int f)] [(.int (121 : Int32))])) t → Steps p.tables e below (s₁.setTop (mkF m 0 #[.val (.ref x), .val (.int (8 : Int32)), .val (.int f)] [])) t := by
    intro t kt
    refine XS.iloadN X0.here hx rfl (hb hby d0_0) rfl ?_
    refine XS.aloadN X0.here hx rfl (hb hby d0_1) rfl rfl ?_
    show Steps p.tables e below (s₁.setTop (mkF m 2 #[.val (.ref x), .val (.int (8 : Int32)), .val (.int f)] [(.ref x), (.int (8 : Int32))])) _
    refine st1.trans ?_
    refine XS.icmpNo X1.here hx rfl (hb hby d0_5) rfl (tlt ((by decide) : (8 : Int32) < (9 : Int32))).2.1 ?_
    refine XS.aloadN X1.here hx rfl (hb hby d0_8) rfl rfl ?_
    refine XS.iloadN X1.here hx rfl (hb hby d0_9) rfl ?_
    show Steps p.tables e below (T1.setTop (mkF m 10 #[.val (.ref x), .val (.int (8 : Int32)), .val (.int f)] [(.int (8 : Int32)), (.ref x)])) _
    refine st5.trans ?_
    refine XS.goto X5.here hx rfl (pc0 := 13) (pc' := 17) rfl (hb hby d0_13) (by decide) (by decide) ?_
    exact kt
  obtain ⟨fs, hr, hrun, hended, hW, hsame⟩ := X5.leave (v := some (.int (121 : Int32))) (fun h => by rw [Bd.returns] at h; cases h)
  refine ⟨_, _, pre0 _ (S8 _ ?_), hrun, hended, _, _, rfl, ?_, ⟨_, rfl⟩, hW, hsame.mono (by decide) (by decide)⟩
  · exact retN X5 hx (t := .char) Bd.returns (by simp) (hb hby d0_17) hr
  · show Q_rm_at9_8 Z x tx kx f zc fm h0 n0 _ T5.heap _
    rw [k6]
    exact ⟨rfl, N7, rfl⟩
theorem ef_rm_at9_9 (m : MethodId) (x0 : Addr) (x1 : Int32) (x2 : Int32) : entryFrame m #[(.ref x0), (.int x1), (.int x2)] 3 = mkF m 0 #[.val (.ref x0), .val (.int x1), .val (.int x2)] [] := by first | (simp [entryFrame, mkF, argsToLocals, Value.category]; done) | rfl
def Q_rm_at9_9 (Z : State) (x : Addr) (tx : Addr) (kx : ClassId) (f : Int32) (zc : Int32) (fm : Value) (h0 : Heap) (n0 : Nat) (v : Option Value) (h : Heap) (L : List Loc) : Prop := ((v = some (.int f)) ∧ (Fr n0 L) ∧ (h = h0))
set_option maxRecDepth 65536 in
set_option maxHeartbeats 40000000 in
theorem rm_at9_9 (l : Launch) (Z : State) (a0 : Array Value) (hw : ∀ d ∈ tables_1, d.before a0 Z = true) (ws : List Jvm.Cond) (x : Addr) (tx : Addr) (kx : ClassId) (f : Int32) (zc : Int32) (fm : Value) (h0 : Heap) (n0 : Nat) (O0 : Old Z n0 h0) (E_x : Exa Z h0 x "java/lang/String") (V_x : Fld Z h0 x "java/lang/String" "value" "[B" (.ref tx)) (C_x : Fld Z h0 x "java/lang/String" "coder" "B" (.int (0 : Int32))) (K_x : Arv Z h0 tx kx .byte (9 : Int32) [(.int (45 : Int32).toInt8.toInt32), (.int (105 : Int32).toInt8.toInt32), (.int (110 : Int32).toInt8.toInt32), (.int (102 : Int32).toInt8.toInt32), (.int (105 : Int32).toInt8.toInt32), (.int (110 : Int32).toInt8.toInt32), (.int (105 : Int32).toInt8.toInt32), (.int (116 : Int32).toInt8.toInt32), (.int (121 : Int32).toInt8.toInt32)] (.int (0 : Int32))) (la_f : ¬ (f < (0 : Int32)) ∧ ¬ ((255 : Int32) < f)) (S_C : Sta Z Z.heap "java/lang/String" "COMPACT_STRINGS" "Z" (.int zc)) (hzc : ¬ (zc = (0 : Int32))) (S_F : Sta Z Z.heap "jdk/internal/util/Preconditions" "SIOOBE_FORMATTER" "Ljava/util/function/BiFunction;" fm) (hfm : fm.isRef = true) :
    MetFree l (⟨"com/example/logtide/logtide/event/TemporalTextIsInfinitePinLaw", "at", "(Ljava/lang/String;IC)C"⟩ : MethodName) (head1 (Jvm.Cond.code (⟨"com/example/logtide/logtide/event/TemporalTextIsInfinitePinLaw", "at", "(Ljava/lang/String;IC)C"⟩ : MethodName) method_3_code 3 (some .char) :: ws) ({ frames := 2, cells := 0, slots := 0, locals := 26 } : Room)) (fun a U => a = #[(.ref x), (.int (9 : Int32)), (.int f)] ∧ Z.Warmed39 U.vm ∧ U.heap = h0) (fun _ _ _ _ _ => True) (fun _ U o U' => ∃ v L, o = .returned v ∧ Q_rm_at9_9 Z x tx kx f zc fm h0 n0 v U'.heap L ∧ FrameEnd U o U' L ({ frames := 2, cells := 0, slots := 0, locals := 26 } : Room).cells ({ frames := 2, cells := 0, slots := 0, locals := 26 } : Room).slots) := by
  refine MetFree.of_bodySF (plainFor_of_name pn_0) hisR ?_
  intro p e s m args below meth c s₁ Bd hml0 hP hK
  obtain ⟨rfl, hZ, hh⟩ := hP
  have hx := Bd.exec
  have hby := Bd.bytes
  have hml : c.maxLocals = 3 := hml0
  have hown : s.vm.findClass "com/example/logtide/logtide/event/TemporalTextIsInfinitePinLaw" = some m.cls := findClass_of_methodNamed Bd.named
  have hnm := (name_of_methodNamed Bd.named Bd.method).1
  have X0 : Stand p l e ({ frames := 2, cells := 0, slots := 0, locals := 26 } : Room) s m #[(.ref x), (.int (9 : Int32)), (.int f)] below meth c s₁ [] 0 0 := Stand.of_body Bd
  have e0 : s₁.heap = h0 := by rw [← hh, Bd.state]; rfl
  have N0 := Fr.nil n0
  have hwl : ∀ d ∈ StrChars.Road.wordsLen, d.before a0 Z = true := fun d hd => hw d (own_wordsLen d hd)
  have hwc : ∀ d ∈ StrChars.Road.wordsChN, d.before a0 Z = true := fun d hd => hw d (own_wordsChN d hd)
  have hwq : ∀ d ∈ StrChars.Road.wordsEq, d.before a0 Z = true := fun d hd => hw d (own_wordsEq d hd)
  have hws : ∀ d ∈ StrChars.Road.words, d.before a0 Z = true := fun d hd => hw d (own_words d hd)
  have pre0 : ∀ t, Steps p.tables e below (s₁.setTop (mkF m 0 #[.val (.ref x), .val (.int (9 : Int32)), .val (.int f)] [])) t → Steps p.tables e below (s₁.setTop (entryFrame m #[(.ref x), (.int (9 : Int32)), (.int f)] 3)) t := fun t k => castTop (ef_rm_at9_9 m x (9 : Int32) f) k
  have la2 : ∀ c ∈ ([(45 : Int32), (105 : Int32), (110 : Int32), (102 : Int32), (105 : Int32), (110 : Int32), (105 : Int32), (116 : Int32), (121 : Int32)] : List Int32), ¬ c < 0 ∧ ¬ (255 : Int32) < c := by
    intro c hc
    simp only [List.mem_cons, List.not_mem_nil, or_false] at hc
    rcases hc with rfl | rfl | rfl | rfl | rfl | rfl | rfl | rfl | rfl
    · exact ⟨by decide, by decide⟩
    · exact ⟨by decide, by decide⟩
    · exact ⟨by decide, by decide⟩
    · exact ⟨by decide, by decide⟩
    · exact ⟨by decide, by decide⟩
    · exact ⟨by decide, by decide⟩
    · exact ⟨by decide, by decide⟩
    · exact ⟨by decide, by decide⟩
    · exact ⟨by decide, by decide⟩
  have cd2 : StrChars.Road.CodA ([(45 : Int32), (105 : Int32), (110 : Int32), (102 : Int32), (105 : Int32), (110 : Int32), (105 : Int32), (116 : Int32), (121 : Int32)] : List Int32) 0 (9 : Int32) [(.int (45 : Int32).toInt8.toInt32), (.int (105 : Int32).toInt8.toInt32), (.int (110 : Int32).toInt8.toInt32), (.int (102 : Int32).toInt8.toInt32), (.int (105 : Int32).toInt8.toInt32), (.int (110 : Int32).toInt8.toInt32), (.int (105 : Int32).toInt8.toInt32), (.int (116 : Int32).toInt8.toInt32), (.int (121 : Int32).toInt8.toInt32)] := StrChars.Road.codOf (n := 9) rfl (fun x hx => (la2 x hx).2)
  have bd2 := own_up la2
  obtain ⟨cq1, kq1, q1a, q1b, q1c⟩ := isOf hZ e0 E_x
  obtain ⟨_, _, ⟨T1, L1, k1, n1⟩, -, X1, ⟨Lc1, hQ1, l1, y1, z1⟩, st1⟩ := X0.virtualBack hx (y := (⟨"java/lang/String", "length", "()I"⟩ : MethodName)) (z := (⟨"java/lang/String", "length", "()I"⟩ : MethodName)) hown (mvT hZ (own_w hw 14 rfl)) (mvT hZ (own_w hw 15 rfl)) (notFace_of_selects (args := #[]) (mvT hZ (own_w hw 17 rfl))) (mvT hZ (own_w hw 17 rfl)) (mvT hZ (own_w hw 16 rfl)) (by decide) (StrChars.Road.lenW (W := 1) hZ hwl (kI := 4) (own_w hw 3 rfl) (cs := [(45 : Int32), (105 : Int32), (110 : Int32), (102 : Int32), (105 : Int32), (110 : Int32), (105 : Int32), (116 : Int32), (121 : Int32)]) E_x V_x C_x K_x cd2 bd2 (S_C.ext O0.2) hzc (by show 9 ≤ 4000; decide) (by decide) (by decide)) q1a q1c (g := (mkF m 2 #[.val (.ref x), .val (.int (9 : Int32)), .val (.int f)] [(.ref x), (.int (9 : Int32))])) rfl (by rw [hml]; rfl) (Steps.refl _) (argsL := []) (rest := [(.int (9 : Int32))]) (lenOf pd_0 rfl) rfl (by show 2 * 0 + _ ≤ _; exact Nat.le_of_eq rfl) (hb hby d0_2) (fun _ _ => ⟨rfl, e0, (by decide : 0 + 0 ≤ _), (by decide : 0 + 0 ≤ _)⟩)
  dsimp only [Pt.U, Pt.locs, Pt.cells, Pt.slots] at X1 l1 y1 z1 st1 hQ1
  subst l1 y1 z1
  obtain ⟨rfl, rfl, k3⟩ := hQ1
  have N4 := Fr.app N0 (Fr.nil n0)
  have S5 : ∀ t, Steps p.tables e below (T1.setTop (mkF m 17 #[.val (.ref x), .val (.int (9 : Int32)), .val (.int f)] [(.int f)])) t → Steps p.tables e below (s₁.setTop (mkF m 0 #[.val (.ref x), .val (.int (9 : Int32)), .val (.int f)] [])) t := by
    intro t kt
    refine XS.iloadN X0.here hx rfl (hb hby d0_0) rfl ?_
    refine XS.aloadN X0.here hx rfl (hb hby d0_1) rfl rfl ?_
    show Steps p.tables e below (s₁.setTop (mkF m 2 #[.val (.ref x), .val (.int (9 : Int32)), .val (.int f)] [(.ref x), (.int (9 : Int32))])) _
    refine st1.trans ?_
    refine XS.icmpYes X1.here hx rfl (pc0 := 5) (pc' := 16) rfl (hb hby d0_5) rfl (flt ((by decide) : ¬ ((9 : Int32) < (9 : Int32)))).2.1 (by decide) (by decide) ?_
    refine XS.iloadN X1.here hx rfl (hb hby d0_16) rfl ?_
    exact kt
  obtain ⟨fs, hr, hrun, hended, hW, hsame⟩ := X1.leave (v := some (.int f)) (fun h => by rw [Bd.returns] at h; cases h)
  refine ⟨_, _, pre0 _ (S5 _ ?_), hrun, hended, _, _, rfl, ?_, ⟨_, rfl⟩, hW, hsame.mono (by decide) (by decide)⟩
  · refine retN X1 hx (t := .char) Bd.returns (by simp) (hb hby d0_17) (fun fz az a1 a2 a3 => ?_)
    rw [show nar .char f = f from own_nar la_f]
    exact hr fz az a1 a2 a3
  · show Q_rm_at9_9 Z x tx kx f zc fm h0 n0 _ T1.heap _
    rw [k3]
    exact ⟨rfl, N4, rfl⟩
theorem d1_0 : decode method_4_code 0 = .ok (.iload_n 1, 1) := by decide +kernel
theorem d1_1 : decode method_4_code 1 = .ok (.bipush 6, 2) := by decide +kernel
theorem d1_3 : decode method_4_code 3 = .ok (.if_icmp .ne 44, 3) := by decide +kernel
theorem d1_6 : decode method_4_code 6 = .ok (.bipush 6, 2) := by decide +kernel
theorem d1_8 : decode method_4_code 8 = .ok (.newarray .char, 2) := by decide +kernel
theorem d1_10 : decode method_4_code 10 = .ok (.dup, 1) := by decide +kernel
theorem d1_11 : decode method_4_code 11 = .ok (.iconst 0, 1) := by decide +kernel
theorem d1_12 : decode method_4_code 12 = .ok (.aload_n 0, 1) := by decide +kernel
theorem d1_13 : decode method_4_code 13 = .ok (.iconst 0, 1) := by decide +kernel
theorem d1_14 : decode method_4_code 14 = .ok (.caload, 1) := by decide +kernel
theorem d1_15 : decode method_4_code 15 = .ok (.castore, 1) := by decide +kernel
theorem d1_16 : decode method_4_code 16 = .ok (.dup, 1) := by decide +kernel
theorem d1_17 : decode method_4_code 17 = .ok (.iconst 1, 1) := by decide +kernel
theorem d1_18 : decode method_4_code 18 = .ok (.aload_n 0, 1) := by decide +kernel
theorem d1_19 : decode method_4_code 19 = .ok (.iconst 1, 1) := by decide +kernel
theorem d1_20 : decode method_4_code 20 = .ok (.caload, 1) := by decide +kernel
theorem d1_21 : decode method_4_code 21 = .ok (.castore, 1) := by decide +kernel
theorem d1_22 : decode method_4_code 22 = .ok (.dup, 1) := by decide +kernel
theorem d1_23 : decode method_4_code 23 = .ok (.iconst 2, 1) := by decide +kernel
theorem d1_24 : decode method_4_code 24 = .ok (.aload_n 0, 1) := by decide +kernel
theorem d1_25 : decode method_4_code 25 = .ok (.iconst 2, 1) := by decide +kernel
theorem d1_26 : decode method_4_code 26 = .ok (.caload, 1) := by decide +kernel
theorem d1_27 : decode method_4_code 27 = .ok (.castore, 1) := by decide +kernel
theorem d1_28 : decode method_4_code 28 = .ok (.dup, 1) := by decide +kernel
theorem d1_29 : decode method_4_code 29 = .ok (.iconst 3, 1) := by decide +kernel
theorem d1_30 : decode method_4_code 30 = .ok (.aload_n 0, 1) := by decide +kernel
theorem d1_31 : decode method_4_code 31 = .ok (.iconst 3, 1) := by decide +kernel
theorem d1_32 : decode method_4_code 32 = .ok (.caload, 1) := by decide +kernel
theorem d1_33 : decode method_4_code 33 = .ok (.castore, 1) := by decide +kernel
theorem d1_34 : decode method_4_code 34 = .ok (.dup, 1) := by decide +kernel
theorem d1_35 : decode method_4_code 35 = .ok (.iconst 4, 1) := by decide +kernel
theorem d1_36 : decode method_4_code 36 = .ok (.aload_n 0, 1) := by decide +kernel
theorem d1_37 : decode method_4_code 37 = .ok (.iconst 4, 1) := by decide +kernel
theorem d1_38 : decode method_4_code 38 = .ok (.caload, 1) := by decide +kernel
theorem d1_39 : decode method_4_code 39 = .ok (.castore, 1) := by decide +kernel
theorem d1_40 : decode method_4_code 40 = .ok (.dup, 1) := by decide +kernel
theorem d1_41 : decode method_4_code 41 = .ok (.iconst 5, 1) := by decide +kernel
theorem d1_42 : decode method_4_code 42 = .ok (.aload_n 0, 1) := by decide +kernel
theorem d1_43 : decode method_4_code 43 = .ok (.iconst 5, 1) := by decide +kernel
theorem d1_44 : decode method_4_code 44 = .ok (.caload, 1) := by decide +kernel
theorem d1_45 : decode method_4_code 45 = .ok (.castore, 1) := by decide +kernel
theorem d1_46 : decode method_4_code 46 = .ok (.areturn, 1) := by decide +kernel
theorem ef_rm_cut6 (m : MethodId) (x0 : Addr) (x1 : Int32) : entryFrame m #[(.ref x0), (.int x1)] 2 = mkF m 0 #[.val (.ref x0), .val (.int x1)] [] := by first | (simp [entryFrame, mkF, argsToLocals, Value.category]; done) | rfl
def Q_rm_cut6 (Z : State) (w : Addr) (kw : ClassId) (c0 : Int32) (c1 : Int32) (c2 : Int32) (c3 : Int32) (c4 : Int32) (c5 : Int32) (c6 : Int32) (c7 : Int32) (c8 : Int32) (c9 : Int32) (h0 : Heap) (n0 : Nat) (v : Option Value) (h : Heap) (L : List Loc) : Prop := (∃ (r : Addr) (k : ClassId), (v = some (.ref r)) ∧ (Fr n0 L) ∧ (Keep h0 h []) ∧ (h0.size ≤ r) ∧ (Arv Z h r k .char (6 : Int32) [(.int c0), (.int c1), (.int c2), (.int c3), (.int c4), (.int c5)] (.int (0 : Int32))))
set_option maxRecDepth 65536 in
set_option maxHeartbeats 40000000 in
theorem rm_cut6 (l : Launch) (Z : State) (a0 : Array Value) (hw : ∀ d ∈ tables_1, d.before a0 Z = true) (ws : List Jvm.Cond) (w : Addr) (kw : ClassId) (c0 : Int32) (c1 : Int32) (c2 : Int32) (c3 : Int32) (c4 : Int32) (c5 : Int32) (c6 : Int32) (c7 : Int32) (c8 : Int32) (c9 : Int32) (h0 : Heap) (n0 : Nat) (O0 : Old Z n0 h0) (A_w : Arv Z h0 w kw .char (10 : Int32) [(.int c0), (.int c1), (.int c2), (.int c3), (.int c4), (.int c5), (.int c6), (.int c7), (.int c8), (.int c9)] (.int (0 : Int32))) (la_c0 : ¬ (c0 < (0 : Int32)) ∧ ¬ ((255 : Int32) < c0)) (la_c1 : ¬ (c1 < (0 : Int32)) ∧ ¬ ((255 : Int32) < c1)) (la_c2 : ¬ (c2 < (0 : Int32)) ∧ ¬ ((255 : Int32) < c2)) (la_c3 : ¬ (c3 < (0 : Int32)) ∧ ¬ ((255 : Int32) < c3)) (la_c4 : ¬ (c4 < (0 : Int32)) ∧ ¬ ((255 : Int32) < c4)) (la_c5 : ¬ (c5 < (0 : Int32)) ∧ ¬ ((255 : Int32) < c5)) (la_c6 : ¬ (c6 < (0 : Int32)) ∧ ¬ ((255 : Int32) < c6)) (la_c7 : ¬ (c7 < (0 : Int32)) ∧ ¬ ((255 : Int32) < c7)) (la_c8 : ¬ (c8 < (0 : Int32)) ∧ ¬ ((255 : Int32) < c8)) (la_c9 : ¬ (c9 < (0 : Int32)) ∧ ¬ ((255 : Int32) < c9)) :
    MetFree l (⟨"com/example/logtide/logtide/event/TemporalTextIsInfinitePinLaw", "cut", "([CI)[C"⟩ : MethodName) (head1 (Jvm.Cond.code (⟨"com/example/logtide/logtide/event/TemporalTextIsInfinitePinLaw", "cut", "([CI)[C"⟩ : MethodName) method_4_code 2 (some (.array .char)) :: ws) ({ frames := 0, cells := 1, slots := 6, locals := 0 } : Room)) (fun a U => a = #[(.ref w), (.int (6 : Int32))] ∧ Z.Warmed39 U.vm ∧ U.heap = h0) (fun _ _ _ _ _ => True) (fun _ U o U' => ∃ v L, o = .returned v ∧ Q_rm_cut6 Z w kw c0 c1 c2 c3 c4 c5 c6 c7 c8 c9 h0 n0 v U'.heap L ∧ FrameEnd U o U' L ({ frames := 0, cells := 1, slots := 6, locals := 0 } : Room).cells ({ frames := 0, cells := 1, slots := 6, locals := 0 } : Room).slots) := by
  refine MetFree.of_bodySF (plainFor_of_name pn_0) hisR ?_
  intro p e s m args below meth c s₁ Bd hml0 hP hK
  obtain ⟨rfl, hZ, hh⟩ := hP
  have hx := Bd.exec
  have hby := Bd.bytes
  have hml : c.maxLocals = 2 := hml0
  have hown : s.vm.findClass "com/example/logtide/logtide/event/TemporalTextIsInfinitePinLaw" = some m.cls := findClass_of_methodNamed Bd.named
  have hnm := (name_of_methodNamed Bd.named Bd.method).1
  have X0 : Stand p l e ({ frames := 0, cells := 1, slots := 6, locals := 0 } : Room) s m #[(.ref w), (.int (6 : Int32))] below meth c s₁ [] 0 0 := Stand.of_body Bd
  have e0 : s₁.heap = h0 := by rw [← hh, Bd.state]; rfl
  have N0 := Fr.nil n0
  have hwl : ∀ d ∈ StrChars.Road.wordsLen, d.before a0 Z = true := fun d hd => hw d (own_wordsLen d hd)
  have hwc : ∀ d ∈ StrChars.Road.wordsChN, d.before a0 Z = true := fun d hd => hw d (own_wordsChN d hd)
  have hwq : ∀ d ∈ StrChars.Road.wordsEq, d.before a0 Z = true := fun d hd => hw d (own_wordsEq d hd)
  have hws : ∀ d ∈ StrChars.Road.words, d.before a0 Z = true := fun d hd => hw d (own_words d hd)
  have K0 : Keep h0 h0 [] := Keep.refl _ _
  have pre0 : ∀ t, Steps p.tables e below (s₁.setTop (mkF m 0 #[.val (.ref w), .val (.int (6 : Int32))] [])) t → Steps p.tables e below (s₁.setTop (entryFrame m #[(.ref w), (.int (6 : Int32))] 2)) t := fun t k => castTop (ef_rm_cut6 m w (6 : Int32)) k
  obtain ⟨T1, h1, k1, X1, e1, E1, A1, B1, st1⟩ := newPE X0 hx hZ (own_w hw 9 rfl) e0 (g := (mkF m 8 #[.val (.ref w), .val (.int (6 : Int32))] [(.int (6 : Int32))])) rfl (hb hby d1_8) rfl (by decide) (cap := 6) (by decide) (by decide) (by decide) (by decide) (ad := "[C") (by first | rfl | decide)
  obtain ⟨b1, g1⟩ : ∃ z, z = h0.size := ⟨_, rfl⟩
  have ge_b1 : n0 ≤ b1 := by rw [g1, ← O0.1]; exact O0.2.1
  have sz_b1 : h0.size ≤ b1 := by rw [g1]; exact K0.1
  have ne2 : w ≠ b1 := Nat.ne_of_lt (Nat.lt_of_lt_of_le (Arv.lt A_w) (Nat.le_of_eq g1.symm))
  rw [← g1] at A1 B1 st1
  have O3 := O0.ext E1
  have K4 : Keep h0 h1 [] := K0.ext E1
  have F1 : Arv Z h1 b1 k1 .char (6 : Int32) [(.int (0 : Int32)), (.int (0 : Int32)), (.int (0 : Int32)), (.int (0 : Int32)), (.int (0 : Int32)), (.int (0 : Int32))] (.int (0 : Int32)) := (Arv.new A1 (by decide)).pad (pad_rep [] (.int (0 : Int32)) 6)
  have f5 := (Arv.ext A_w E1)
  obtain ⟨cl6, Ar6, q6, Sz6, Nn6, Hh6, Gg6⟩ := id f5
  have in6 : ¬ ((0 : Int32) < 0 ∨ cl6.slots.size ≤ ((0 : Int32)).toNatClampNeg) := by exact inb_of Sz6 ⟨by decide, by decide⟩
  have at6 : cl6.slots[((0 : Int32)).toNatClampNeg]? = some (.int c0) := by
    refine Has.at Hh6 in6 ?_
    rfl
  obtain ⟨cl7, Ar7, q7, Sz7, Nn7, Hh7, Gg7⟩ := id F1
  have in7 : ¬ ((0 : Int32) < 0 ∨ cl7.slots.size ≤ ((0 : Int32)).toNatClampNeg) := inb_of Sz7 ⟨by decide, by decide⟩
  obtain ⟨T7, h7, X7, e7, W7, st7⟩ := stC X1 hx hZ e1 Ar7 (j := (0 : Int32)) in7 (g := (mkF m 15 #[.val (.ref w), .val (.int (6 : Int32))] [(.int c0), (.int (0 : Int32)), (.ref b1), (.ref b1)])) rfl rfl (hb hby d1_15)
  rw [show nar .char c0 = c0 from own_nar la_c0] at W7
  have O8 := O3.wr W7 ge_b1
  have K9 : Keep h0 h7 [] := K4.wr W7 (Or.inr sz_b1)
  have N10 := Fr.snoc X7 N0 ge_b1
  have F7 : Arv Z h7 b1 k1 .char (6 : Int32) [(.int c0), (.int (0 : Int32)), (.int (0 : Int32)), (.int (0 : Int32)), (.int (0 : Int32)), (.int (0 : Int32))] (.int (0 : Int32)) := Arv.set Ar7 q7 Sz7 Nn7 Hh7 Gg7 (by rw [← (own_nar la_c0 : nar .char c0 = c0)]; exact fits_nar_char _) W7 0 rfl (Nat.le_of_ble_eq_true rfl)
  have f11 := (Arv.other f5 W7 ne2)
  obtain ⟨cl12, Ar12, q12, Sz12, Nn12, Hh12, Gg12⟩ := id f11
  have in12 : ¬ ((1 : Int32) < 0 ∨ cl12.slots.size ≤ ((1 : Int32)).toNatClampNeg) := by exact inb_of Sz12 ⟨by decide, by decide⟩
  have at12 : cl12.slots[((1 : Int32)).toNatClampNeg]? = some (.int c1) := by
    refine Has.at Hh12 in12 ?_
    rfl
  obtain ⟨cl13, Ar13, q13, Sz13, Nn13, Hh13, Gg13⟩ := id F7
  have in13 : ¬ ((1 : Int32) < 0 ∨ cl13.slots.size ≤ ((1 : Int32)).toNatClampNeg) := inb_of Sz13 ⟨by decide, by decide⟩
  obtain ⟨T13, h13, X13, e13, W13, st13⟩ := stC X7 hx hZ e7 Ar13 (j := (1 : Int32)) in13 (g := (mkF m 21 #[.val (.ref w), .val (.int (6 : Int32))] [(.int c1), (.int (1 : Int32)), (.ref b1), (.ref b1)])) rfl rfl (hb hby d1_21)
  rw [show nar .char c1 = c1 from own_nar la_c1] at W13
  have O14 := O8.wr W13 ge_b1
  have K15 : Keep h0 h13 [] := K9.wr W13 (Or.inr sz_b1)
  have N16 := Fr.snoc X13 N10 ge_b1
  have F13 : Arv Z h13 b1 k1 .char (6 : Int32) [(.int c0), (.int c1), (.int (0 : Int32)), (.int (0 : Int32)), (.int (0 : Int32)), (.int (0 : Int32))] (.int (0 : Int32)) := Arv.set Ar13 q13 Sz13 Nn13 Hh13 Gg13 (by rw [← (own_nar la_c1 : nar .char c1 = c1)]; exact fits_nar_char _) W13 1 rfl (Nat.le_of_ble_eq_true rfl)
  have f17 := (Arv.other f11 W13 ne2)
  obtain ⟨cl18, Ar18, q18, Sz18, Nn18, Hh18, Gg18⟩ := id f17
  have in18 : ¬ ((2 : Int32) < 0 ∨ cl18.slots.size ≤ ((2 : Int32)).toNatClampNeg) := by exact inb_of Sz18 ⟨by decide, by decide⟩
  have at18 : cl18.slots[((2 : Int32)).toNatClampNeg]? = some (.int c2) := by
    refine Has.at Hh18 in18 ?_
    rfl
  obtain ⟨cl19, Ar19, q19, Sz19, Nn19, Hh19, Gg19⟩ := id F13
  have in19 : ¬ ((2 : Int32) < 0 ∨ cl19.slots.size ≤ ((2 : Int32)).toNatClampNeg) := inb_of Sz19 ⟨by decide, by decide⟩
  obtain ⟨T19, h19, X19, e19, W19, st19⟩ := stC X13 hx hZ e13 Ar19 (j := (2 : Int32)) in19 (g := (mkF m 27 #[.val (.ref w), .val (.int (6 : Int32))] [(.int c2), (.int (2 : Int32)), (.ref b1), (.ref b1)])) rfl rfl (hb hby d1_27)
  rw [show nar .char c2 = c2 from own_nar la_c2] at W19
  have O20 := O14.wr W19 ge_b1
  have K21 : Keep h0 h19 [] := K15.wr W19 (Or.inr sz_b1)
  have N22 := Fr.snoc X19 N16 ge_b1
  have F19 : Arv Z h19 b1 k1 .char (6 : Int32) [(.int c0), (.int c1), (.int c2), (.int (0 : Int32)), (.int (0 : Int32)), (.int (0 : Int32))] (.int (0 : Int32)) := Arv.set Ar19 q19 Sz19 Nn19 Hh19 Gg19 (by rw [← (own_nar la_c2 : nar .char c2 = c2)]; exact fits_nar_char _) W19 2 rfl (Nat.le_of_ble_eq_true rfl)
  have f23 := (Arv.other f17 W19 ne2)
  obtain ⟨cl24, Ar24, q24, Sz24, Nn24, Hh24, Gg24⟩ := id f23
  have in24 : ¬ ((3 : Int32) < 0 ∨ cl24.slots.size ≤ ((3 : Int32)).toNatClampNeg) := by exact inb_of Sz24 ⟨by decide, by decide⟩
  have at24 : cl24.slots[((3 : Int32)).toNatClampNeg]? = some (.int c3) := by
    refine Has.at Hh24 in24 ?_
    rfl
  obtain ⟨cl25, Ar25, q25, Sz25, Nn25, Hh25, Gg25⟩ := id F19
  have in25 : ¬ ((3 : Int32) < 0 ∨ cl25.slots.size ≤ ((3 : Int32)).toNatClampNeg) := inb_of Sz25 ⟨by decide, by decide⟩
  obtain ⟨T25, h25, X25, e25, W25, st25⟩ := stC X19 hx hZ e19 Ar25 (j := (3 : Int32)) in25 (g := (mkF m 33 #[.val (.ref w), .val (.int (6 : Int32))] [(.int c3), (.int (3 : Int32)), (.ref b1), (.ref b1)])) rfl rfl (hb hby d1_33)
  rw [show nar .char c3 = c3 from own_nar la_c3] at W25
  have O26 := O20.wr W25 ge_b1
  have K27 : Keep h0 h25 [] := K21.wr W25 (Or.inr sz_b1)
  have N28 := Fr.snoc X25 N22 ge_b1
  have F25 : Arv Z h25 b1 k1 .char (6 : Int32) [(.int c0), (.int c1), (.int c2), (.int c3), (.int (0 : Int32)), (.int (0 : Int32))] (.int (0 : Int32)) := Arv.set Ar25 q25 Sz25 Nn25 Hh25 Gg25 (by rw [← (own_nar la_c3 : nar .char c3 = c3)]; exact fits_nar_char _) W25 3 rfl (Nat.le_of_ble_eq_true rfl)
  have f29 := (Arv.other f23 W25 ne2)
  obtain ⟨cl30, Ar30, q30, Sz30, Nn30, Hh30, Gg30⟩ := id f29
  have in30 : ¬ ((4 : Int32) < 0 ∨ cl30.slots.size ≤ ((4 : Int32)).toNatClampNeg) := by exact inb_of Sz30 ⟨by decide, by decide⟩
  have at30 : cl30.slots[((4 : Int32)).toNatClampNeg]? = some (.int c4) := by
    refine Has.at Hh30 in30 ?_
    rfl
  obtain ⟨cl31, Ar31, q31, Sz31, Nn31, Hh31, Gg31⟩ := id F25
  have in31 : ¬ ((4 : Int32) < 0 ∨ cl31.slots.size ≤ ((4 : Int32)).toNatClampNeg) := inb_of Sz31 ⟨by decide, by decide⟩
  obtain ⟨T31, h31, X31, e31, W31, st31⟩ := stC X25 hx hZ e25 Ar31 (j := (4 : Int32)) in31 (g := (mkF m 39 #[.val (.ref w), .val (.int (6 : Int32))] [(.int c4), (.int (4 : Int32)), (.ref b1), (.ref b1)])) rfl rfl (hb hby d1_39)
  rw [show nar .char c4 = c4 from own_nar la_c4] at W31
  have O32 := O26.wr W31 ge_b1
  have K33 : Keep h0 h31 [] := K27.wr W31 (Or.inr sz_b1)
  have N34 := Fr.snoc X31 N28 ge_b1
  have F31 : Arv Z h31 b1 k1 .char (6 : Int32) [(.int c0), (.int c1), (.int c2), (.int c3), (.int c4), (.int (0 : Int32))] (.int (0 : Int32)) := Arv.set Ar31 q31 Sz31 Nn31 Hh31 Gg31 (by rw [← (own_nar la_c4 : nar .char c4 = c4)]; exact fits_nar_char _) W31 4 rfl (Nat.le_of_ble_eq_true rfl)
  have f35 := (Arv.other f29 W31 ne2)
  obtain ⟨cl36, Ar36, q36, Sz36, Nn36, Hh36, Gg36⟩ := id f35
  have in36 : ¬ ((5 : Int32) < 0 ∨ cl36.slots.size ≤ ((5 : Int32)).toNatClampNeg) := by exact inb_of Sz36 ⟨by decide, by decide⟩
  have at36 : cl36.slots[((5 : Int32)).toNatClampNeg]? = some (.int c5) := by
    refine Has.at Hh36 in36 ?_
    rfl
  obtain ⟨cl37, Ar37, q37, Sz37, Nn37, Hh37, Gg37⟩ := id F31
  have in37 : ¬ ((5 : Int32) < 0 ∨ cl37.slots.size ≤ ((5 : Int32)).toNatClampNeg) := inb_of Sz37 ⟨by decide, by decide⟩
  obtain ⟨T37, h37, X37, e37, W37, st37⟩ := stC X31 hx hZ e31 Ar37 (j := (5 : Int32)) in37 (g := (mkF m 45 #[.val (.ref w), .val (.int (6 : Int32))] [(.int c5), (.int (5 : Int32)), (.ref b1), (.ref b1)])) rfl rfl (hb hby d1_45)
  rw [show nar .char c5 = c5 from own_nar la_c5] at W37
  have O38 := O32.wr W37 ge_b1
  have K39 : Keep h0 h37 [] := K33.wr W37 (Or.inr sz_b1)
  have N40 := Fr.snoc X37 N34 ge_b1
  have F37 : Arv Z h37 b1 k1 .char (6 : Int32) [(.int c0), (.int c1), (.int c2), (.int c3), (.int c4), (.int c5)] (.int (0 : Int32)) := Arv.set Ar37 q37 Sz37 Nn37 Hh37 Gg37 (by rw [← (own_nar la_c5 : nar .char c5 = c5)]; exact fits_nar_char _) W37 5 rfl (Nat.le_of_ble_eq_true rfl)
  have S41 : ∀ t, Steps p.tables e below (T37.setTop (mkF m 46 #[.val (.ref w), .val (.int (6 : Int32))] [(.ref b1)])) t → Steps p.tables e below (s₁.setTop (mkF m 0 #[.val (.ref w), .val (.int (6 : Int32))] [])) t := by
    intro t kt
    refine XS.iloadN X0.here hx rfl (hb hby d1_0) rfl ?_
    refine XS.bipush X0.here hx rfl (hb hby d1_1) ?_
    refine XS.icmpNo X0.here hx rfl (hb hby d1_3) rfl (teq ((by decide) : (6 : Int32) = (6 : Int32))).2 ?_
    refine XS.bipush X0.here hx rfl (hb hby d1_6) ?_
    show Steps p.tables e below (s₁.setTop (mkF m 8 #[.val (.ref w), .val (.int (6 : Int32))] [(.int (6 : Int32))])) _
    refine st1 _ ?_
    refine XS.dup X1.here hx rfl (hb hby d1_10) rfl rfl ?_
    refine XS.iconst X1.here hx rfl (hb hby d1_11) ?_
    refine XS.aloadN X1.here hx rfl (hb hby d1_12) rfl rfl ?_
    refine XS.iconst X1.here hx rfl (hb hby d1_13) ?_
    show Steps p.tables e below (T1.setTop (mkF m 14 #[.val (.ref w), .val (.int (6 : Int32))] [(.int (0 : Int32)), (.ref w), (.int (0 : Int32)), (.ref b1), (.ref b1)])) _
    refine X1.caload hx (j := (0 : Int32)) (v := (.int c0)) (by rw [e1]; exact Ar6.1) (State.isArrayOf_alike hZ.alike Ar6.2.1) Ar6.2.2 in6 at6 (g := (mkF m 14 #[.val (.ref w), .val (.int (6 : Int32))] [(.int (0 : Int32)), (.ref w), (.int (0 : Int32)), (.ref b1), (.ref b1)])) rfl rfl (hb hby d1_14) _ ?_
    show Steps p.tables e below (T1.setTop (mkF m 15 #[.val (.ref w), .val (.int (6 : Int32))] [(.int c0), (.int (0 : Int32)), (.ref b1), (.ref b1)])) _
    refine st7 _ ?_
    refine XS.dup X7.here hx rfl (hb hby d1_16) rfl rfl ?_
    refine XS.iconst X7.here hx rfl (hb hby d1_17) ?_
    refine XS.aloadN X7.here hx rfl (hb hby d1_18) rfl rfl ?_
    refine XS.iconst X7.here hx rfl (hb hby d1_19) ?_
    show Steps p.tables e below (T7.setTop (mkF m 20 #[.val (.ref w), .val (.int (6 : Int32))] [(.int (1 : Int32)), (.ref w), (.int (1 : Int32)), (.ref b1), (.ref b1)])) _
    refine X7.caload hx (j := (1 : Int32)) (v := (.int c1)) (by rw [e7]; exact Ar12.1) (State.isArrayOf_alike hZ.alike Ar12.2.1) Ar12.2.2 in12 at12 (g := (mkF m 20 #[.val (.ref w), .val (.int (6 : Int32))] [(.int (1 : Int32)), (.ref w), (.int (1 : Int32)), (.ref b1), (.ref b1)])) rfl rfl (hb hby d1_20) _ ?_
    show Steps p.tables e below (T7.setTop (mkF m 21 #[.val (.ref w), .val (.int (6 : Int32))] [(.int c1), (.int (1 : Int32)), (.ref b1), (.ref b1)])) _
    refine st13 _ ?_
    refine XS.dup X13.here hx rfl (hb hby d1_22) rfl rfl ?_
    refine XS.iconst X13.here hx rfl (hb hby d1_23) ?_
    refine XS.aloadN X13.here hx rfl (hb hby d1_24) rfl rfl ?_
    refine XS.iconst X13.here hx rfl (hb hby d1_25) ?_
    show Steps p.tables e below (T13.setTop (mkF m 26 #[.val (.ref w), .val (.int (6 : Int32))] [(.int (2 : Int32)), (.ref w), (.int (2 : Int32)), (.ref b1), (.ref b1)])) _
    refine X13.caload hx (j := (2 : Int32)) (v := (.int c2)) (by rw [e13]; exact Ar18.1) (State.isArrayOf_alike hZ.alike Ar18.2.1) Ar18.2.2 in18 at18 (g := (mkF m 26 #[.val (.ref w), .val (.int (6 : Int32))] [(.int (2 : Int32)), (.ref w), (.int (2 : Int32)), (.ref b1), (.ref b1)])) rfl rfl (hb hby d1_26) _ ?_
    show Steps p.tables e below (T13.setTop (mkF m 27 #[.val (.ref w), .val (.int (6 : Int32))] [(.int c2), (.int (2 : Int32)), (.ref b1), (.ref b1)])) _
    refine st19 _ ?_
    refine XS.dup X19.here hx rfl (hb hby d1_28) rfl rfl ?_
    refine XS.iconst X19.here hx rfl (hb hby d1_29) ?_
    refine XS.aloadN X19.here hx rfl (hb hby d1_30) rfl rfl ?_
    refine XS.iconst X19.here hx rfl (hb hby d1_31) ?_
    show Steps p.tables e below (T19.setTop (mkF m 32 #[.val (.ref w), .val (.int (6 : Int32))] [(.int (3 : Int32)), (.ref w), (.int (3 : Int32)), (.ref b1), (.ref b1)])) _
    refine X19.caload hx (j := (3 : Int32)) (v := (.int c3)) (by rw [e19]; exact Ar24.1) (State.isArrayOf_alike hZ.alike Ar24.2.1) Ar24.2.2 in24 at24 (g := (mkF m 32 #[.val (.ref w), .val (.int (6 : Int32))] [(.int (3 : Int32)), (.ref w), (.int (3 : Int32)), (.ref b1), (.ref b1)])) rfl rfl (hb hby d1_32) _ ?_
    show Steps p.tables e below (T19.setTop (mkF m 33 #[.val (.ref w), .val (.int (6 : Int32))] [(.int c3), (.int (3 : Int32)), (.ref b1), (.ref b1)])) _
    refine st25 _ ?_
    refine XS.dup X25.here hx rfl (hb hby d1_34) rfl rfl ?_
    refine XS.iconst X25.here hx rfl (hb hby d1_35) ?_
    refine XS.aloadN X25.here hx rfl (hb hby d1_36) rfl rfl ?_
    refine XS.iconst X25.here hx rfl (hb hby d1_37) ?_
    show Steps p.tables e below (T25.setTop (mkF m 38 #[.val (.ref w), .val (.int (6 : Int32))] [(.int (4 : Int32)), (.ref w), (.int (4 : Int32)), (.ref b1), (.ref b1)])) _
    refine X25.caload hx (j := (4 : Int32)) (v := (.int c4)) (by rw [e25]; exact Ar30.1) (State.isArrayOf_alike hZ.alike Ar30.2.1) Ar30.2.2 in30 at30 (g := (mkF m 38 #[.val (.ref w), .val (.int (6 : Int32))] [(.int (4 : Int32)), (.ref w), (.int (4 : Int32)), (.ref b1), (.ref b1)])) rfl rfl (hb hby d1_38) _ ?_
    show Steps p.tables e below (T25.setTop (mkF m 39 #[.val (.ref w), .val (.int (6 : Int32))] [(.int c4), (.int (4 : Int32)), (.ref b1), (.ref b1)])) _
    refine st31 _ ?_
    refine XS.dup X31.here hx rfl (hb hby d1_40) rfl rfl ?_
    refine XS.iconst X31.here hx rfl (hb hby d1_41) ?_
    refine XS.aloadN X31.here hx rfl (hb hby d1_42) rfl rfl ?_
    refine XS.iconst X31.here hx rfl (hb hby d1_43) ?_
    show Steps p.tables e below (T31.setTop (mkF m 44 #[.val (.ref w), .val (.int (6 : Int32))] [(.int (5 : Int32)), (.ref w), (.int (5 : Int32)), (.ref b1), (.ref b1)])) _
    refine X31.caload hx (j := (5 : Int32)) (v := (.int c5)) (by rw [e31]; exact Ar36.1) (State.isArrayOf_alike hZ.alike Ar36.2.1) Ar36.2.2 in36 at36 (g := (mkF m 44 #[.val (.ref w), .val (.int (6 : Int32))] [(.int (5 : Int32)), (.ref w), (.int (5 : Int32)), (.ref b1), (.ref b1)])) rfl rfl (hb hby d1_44) _ ?_
    show Steps p.tables e below (T31.setTop (mkF m 45 #[.val (.ref w), .val (.int (6 : Int32))] [(.int c5), (.int (5 : Int32)), (.ref b1), (.ref b1)])) _
    refine st37 _ ?_
    exact kt
  obtain ⟨fs, hr, hrun, hended, hW, hsame⟩ := X37.leave (v := some (.ref b1)) (fun h => by rw [Bd.returns] at h; cases h)
  refine ⟨_, _, pre0 _ (S41 _ ?_), hrun, hended, _, _, rfl, ?_, ⟨_, rfl⟩, hW, hsame.mono (by decide) (by decide)⟩
  · exact retOut X37 hx Bd.returns rfl (Or.inr (Or.inr (Or.inr (Or.inr ⟨rfl, rfl, rfl⟩)))) (hb hby d1_46) hr
  · show Q_rm_cut6 Z w kw c0 c1 c2 c3 c4 c5 c6 c7 c8 c9 h0 n0 _ T37.heap _
    rw [e37]
    exact ⟨b1, k1, rfl, N40, K39, sz_b1, F37⟩
theorem d1_47 : decode method_4_code 47 = .ok (.iload_n 1, 1) := by decide +kernel
theorem d1_48 : decode method_4_code 48 = .ok (.bipush 7, 2) := by decide +kernel
theorem d1_50 : decode method_4_code 50 = .ok (.if_icmp .ne 52, 3) := by decide +kernel
theorem d1_53 : decode method_4_code 53 = .ok (.bipush 7, 2) := by decide +kernel
theorem d1_55 : decode method_4_code 55 = .ok (.newarray .char, 2) := by decide +kernel
theorem d1_57 : decode method_4_code 57 = .ok (.dup, 1) := by decide +kernel
theorem d1_58 : decode method_4_code 58 = .ok (.iconst 0, 1) := by decide +kernel
theorem d1_59 : decode method_4_code 59 = .ok (.aload_n 0, 1) := by decide +kernel
theorem d1_60 : decode method_4_code 60 = .ok (.iconst 0, 1) := by decide +kernel
theorem d1_61 : decode method_4_code 61 = .ok (.caload, 1) := by decide +kernel
theorem d1_62 : decode method_4_code 62 = .ok (.castore, 1) := by decide +kernel
theorem d1_63 : decode method_4_code 63 = .ok (.dup, 1) := by decide +kernel
theorem d1_64 : decode method_4_code 64 = .ok (.iconst 1, 1) := by decide +kernel
theorem d1_65 : decode method_4_code 65 = .ok (.aload_n 0, 1) := by decide +kernel
theorem d1_66 : decode method_4_code 66 = .ok (.iconst 1, 1) := by decide +kernel
theorem d1_67 : decode method_4_code 67 = .ok (.caload, 1) := by decide +kernel
theorem d1_68 : decode method_4_code 68 = .ok (.castore, 1) := by decide +kernel
theorem d1_69 : decode method_4_code 69 = .ok (.dup, 1) := by decide +kernel
theorem d1_70 : decode method_4_code 70 = .ok (.iconst 2, 1) := by decide +kernel
theorem d1_71 : decode method_4_code 71 = .ok (.aload_n 0, 1) := by decide +kernel
theorem d1_72 : decode method_4_code 72 = .ok (.iconst 2, 1) := by decide +kernel
theorem d1_73 : decode method_4_code 73 = .ok (.caload, 1) := by decide +kernel
theorem d1_74 : decode method_4_code 74 = .ok (.castore, 1) := by decide +kernel
theorem d1_75 : decode method_4_code 75 = .ok (.dup, 1) := by decide +kernel
theorem d1_76 : decode method_4_code 76 = .ok (.iconst 3, 1) := by decide +kernel
theorem d1_77 : decode method_4_code 77 = .ok (.aload_n 0, 1) := by decide +kernel
theorem d1_78 : decode method_4_code 78 = .ok (.iconst 3, 1) := by decide +kernel
theorem d1_79 : decode method_4_code 79 = .ok (.caload, 1) := by decide +kernel
theorem d1_80 : decode method_4_code 80 = .ok (.castore, 1) := by decide +kernel
theorem d1_81 : decode method_4_code 81 = .ok (.dup, 1) := by decide +kernel
theorem d1_82 : decode method_4_code 82 = .ok (.iconst 4, 1) := by decide +kernel
theorem d1_83 : decode method_4_code 83 = .ok (.aload_n 0, 1) := by decide +kernel
theorem d1_84 : decode method_4_code 84 = .ok (.iconst 4, 1) := by decide +kernel
theorem d1_85 : decode method_4_code 85 = .ok (.caload, 1) := by decide +kernel
theorem d1_86 : decode method_4_code 86 = .ok (.castore, 1) := by decide +kernel
theorem d1_87 : decode method_4_code 87 = .ok (.dup, 1) := by decide +kernel
theorem d1_88 : decode method_4_code 88 = .ok (.iconst 5, 1) := by decide +kernel
theorem d1_89 : decode method_4_code 89 = .ok (.aload_n 0, 1) := by decide +kernel
theorem d1_90 : decode method_4_code 90 = .ok (.iconst 5, 1) := by decide +kernel
theorem d1_91 : decode method_4_code 91 = .ok (.caload, 1) := by decide +kernel
theorem d1_92 : decode method_4_code 92 = .ok (.castore, 1) := by decide +kernel
theorem d1_93 : decode method_4_code 93 = .ok (.dup, 1) := by decide +kernel
theorem d1_94 : decode method_4_code 94 = .ok (.bipush 6, 2) := by decide +kernel
theorem d1_96 : decode method_4_code 96 = .ok (.aload_n 0, 1) := by decide +kernel
theorem d1_97 : decode method_4_code 97 = .ok (.bipush 6, 2) := by decide +kernel
theorem d1_99 : decode method_4_code 99 = .ok (.caload, 1) := by decide +kernel
theorem d1_100 : decode method_4_code 100 = .ok (.castore, 1) := by decide +kernel
theorem d1_101 : decode method_4_code 101 = .ok (.areturn, 1) := by decide +kernel
theorem ef_rm_cut7 (m : MethodId) (x0 : Addr) (x1 : Int32) : entryFrame m #[(.ref x0), (.int x1)] 2 = mkF m 0 #[.val (.ref x0), .val (.int x1)] [] := by first | (simp [entryFrame, mkF, argsToLocals, Value.category]; done) | rfl
def Q_rm_cut7 (Z : State) (w : Addr) (kw : ClassId) (c0 : Int32) (c1 : Int32) (c2 : Int32) (c3 : Int32) (c4 : Int32) (c5 : Int32) (c6 : Int32) (c7 : Int32) (c8 : Int32) (c9 : Int32) (h0 : Heap) (n0 : Nat) (v : Option Value) (h : Heap) (L : List Loc) : Prop := (∃ (r : Addr) (k : ClassId), (v = some (.ref r)) ∧ (Fr n0 L) ∧ (Keep h0 h []) ∧ (h0.size ≤ r) ∧ (Arv Z h r k .char (7 : Int32) [(.int c0), (.int c1), (.int c2), (.int c3), (.int c4), (.int c5), (.int c6)] (.int (0 : Int32))))
set_option maxRecDepth 65536 in
set_option maxHeartbeats 40000000 in
theorem rm_cut7 (l : Launch) (Z : State) (a0 : Array Value) (hw : ∀ d ∈ tables_1, d.before a0 Z = true) (ws : List Jvm.Cond) (w : Addr) (kw : ClassId) (c0 : Int32) (c1 : Int32) (c2 : Int32) (c3 : Int32) (c4 : Int32) (c5 : Int32) (c6 : Int32) (c7 : Int32) (c8 : Int32) (c9 : Int32) (h0 : Heap) (n0 : Nat) (O0 : Old Z n0 h0) (A_w : Arv Z h0 w kw .char (10 : Int32) [(.int c0), (.int c1), (.int c2), (.int c3), (.int c4), (.int c5), (.int c6), (.int c7), (.int c8), (.int c9)] (.int (0 : Int32))) (la_c0 : ¬ (c0 < (0 : Int32)) ∧ ¬ ((255 : Int32) < c0)) (la_c1 : ¬ (c1 < (0 : Int32)) ∧ ¬ ((255 : Int32) < c1)) (la_c2 : ¬ (c2 < (0 : Int32)) ∧ ¬ ((255 : Int32) < c2)) (la_c3 : ¬ (c3 < (0 : Int32)) ∧ ¬ ((255 : Int32) < c3)) (la_c4 : ¬ (c4 < (0 : Int32)) ∧ ¬ ((255 : Int32) < c4)) (la_c5 : ¬ (c5 < (0 : Int32)) ∧ ¬ ((255 : Int32) < c5)) (la_c6 : ¬ (c6 < (0 : Int32)) ∧ ¬ ((255 : Int32) < c6)) (la_c7 : ¬ (c7 < (0 : Int32)) ∧ ¬ ((255 : Int32) < c7)) (la_c8 : ¬ (c8 < (0 : Int32)) ∧ ¬ ((255 : Int32) < c8)) (la_c9 : ¬ (c9 < (0 : Int32)) ∧ ¬ ((255 : Int32) < c9)) :
    MetFree l (⟨"com/example/logtide/logtide/event/TemporalTextIsInfinitePinLaw", "cut", "([CI)[C"⟩ : MethodName) (head1 (Jvm.Cond.code (⟨"com/example/logtide/logtide/event/TemporalTextIsInfinitePinLaw", "cut", "([CI)[C"⟩ : MethodName) method_4_code 2 (some (.array .char)) :: ws) ({ frames := 0, cells := 1, slots := 7, locals := 0 } : Room)) (fun a U => a = #[(.ref w), (.int (7 : Int32))] ∧ Z.Warmed39 U.vm ∧ U.heap = h0) (fun _ _ _ _ _ => True) (fun _ U o U' => ∃ v L, o = .returned v ∧ Q_rm_cut7 Z w kw c0 c1 c2 c3 c4 c5 c6 c7 c8 c9 h0 n0 v U'.heap L ∧ FrameEnd U o U' L ({ frames := 0, cells := 1, slots := 7, locals := 0 } : Room).cells ({ frames := 0, cells := 1, slots := 7, locals := 0 } : Room).slots) := by
  refine MetFree.of_bodySF (plainFor_of_name pn_0) hisR ?_
  intro p e s m args below meth c s₁ Bd hml0 hP hK
  obtain ⟨rfl, hZ, hh⟩ := hP
  have hx := Bd.exec
  have hby := Bd.bytes
  have hml : c.maxLocals = 2 := hml0
  have hown : s.vm.findClass "com/example/logtide/logtide/event/TemporalTextIsInfinitePinLaw" = some m.cls := findClass_of_methodNamed Bd.named
  have hnm := (name_of_methodNamed Bd.named Bd.method).1
  have X0 : Stand p l e ({ frames := 0, cells := 1, slots := 7, locals := 0 } : Room) s m #[(.ref w), (.int (7 : Int32))] below meth c s₁ [] 0 0 := Stand.of_body Bd
  have e0 : s₁.heap = h0 := by rw [← hh, Bd.state]; rfl
  have N0 := Fr.nil n0
  have hwl : ∀ d ∈ StrChars.Road.wordsLen, d.before a0 Z = true := fun d hd => hw d (own_wordsLen d hd)
  have hwc : ∀ d ∈ StrChars.Road.wordsChN, d.before a0 Z = true := fun d hd => hw d (own_wordsChN d hd)
  have hwq : ∀ d ∈ StrChars.Road.wordsEq, d.before a0 Z = true := fun d hd => hw d (own_wordsEq d hd)
  have hws : ∀ d ∈ StrChars.Road.words, d.before a0 Z = true := fun d hd => hw d (own_words d hd)
  have K0 : Keep h0 h0 [] := Keep.refl _ _
  have pre0 : ∀ t, Steps p.tables e below (s₁.setTop (mkF m 0 #[.val (.ref w), .val (.int (7 : Int32))] [])) t → Steps p.tables e below (s₁.setTop (entryFrame m #[(.ref w), (.int (7 : Int32))] 2)) t := fun t k => castTop (ef_rm_cut7 m w (7 : Int32)) k
  obtain ⟨T1, h1, k1, X1, e1, E1, A1, B1, st1⟩ := newPE X0 hx hZ (own_w hw 9 rfl) e0 (g := (mkF m 55 #[.val (.ref w), .val (.int (7 : Int32))] [(.int (7 : Int32))])) rfl (hb hby d1_55) rfl (by decide) (cap := 7) (by decide) (by decide) (by decide) (by decide) (ad := "[C") (by first | rfl | decide)
  obtain ⟨b1, g1⟩ : ∃ z, z = h0.size := ⟨_, rfl⟩
  have ge_b1 : n0 ≤ b1 := by rw [g1, ← O0.1]; exact O0.2.1
  have sz_b1 : h0.size ≤ b1 := by rw [g1]; exact K0.1
  have ne2 : w ≠ b1 := Nat.ne_of_lt (Nat.lt_of_lt_of_le (Arv.lt A_w) (Nat.le_of_eq g1.symm))
  rw [← g1] at A1 B1 st1
  have O3 := O0.ext E1
  have K4 : Keep h0 h1 [] := K0.ext E1
  have F1 : Arv Z h1 b1 k1 .char (7 : Int32) [(.int (0 : Int32)), (.int (0 : Int32)), (.int (0 : Int32)), (.int (0 : Int32)), (.int (0 : Int32)), (.int (0 : Int32)), (.int (0 : Int32))] (.int (0 : Int32)) := (Arv.new A1 (by decide)).pad (pad_rep [] (.int (0 : Int32)) 7)
  have f5 := (Arv.ext A_w E1)
  obtain ⟨cl6, Ar6, q6, Sz6, Nn6, Hh6, Gg6⟩ := id f5
  have in6 : ¬ ((0 : Int32) < 0 ∨ cl6.slots.size ≤ ((0 : Int32)).toNatClampNeg) := by exact inb_of Sz6 ⟨by decide, by decide⟩
  have at6 : cl6.slots[((0 : Int32)).toNatClampNeg]? = some (.int c0) := by
    refine Has.at Hh6 in6 ?_
    rfl
  obtain ⟨cl7, Ar7, q7, Sz7, Nn7, Hh7, Gg7⟩ := id F1
  have in7 : ¬ ((0 : Int32) < 0 ∨ cl7.slots.size ≤ ((0 : Int32)).toNatClampNeg) := inb_of Sz7 ⟨by decide, by decide⟩
  obtain ⟨T7, h7, X7, e7, W7, st7⟩ := stC X1 hx hZ e1 Ar7 (j := (0 : Int32)) in7 (g := (mkF m 62 #[.val (.ref w), .val (.int (7 : Int32))] [(.int c0), (.int (0 : Int32)), (.ref b1), (.ref b1)])) rfl rfl (hb hby d1_62)
  rw [show nar .char c0 = c0 from own_nar la_c0] at W7
  have O8 := O3.wr W7 ge_b1
  have K9 : Keep h0 h7 [] := K4.wr W7 (Or.inr sz_b1)
  have N10 := Fr.snoc X7 N0 ge_b1
  have F7 : Arv Z h7 b1 k1 .char (7 : Int32) [(.int c0), (.int (0 : Int32)), (.int (0 : Int32)), (.int (0 : Int32)), (.int (0 : Int32)), (.int (0 : Int32)), (.int (0 : Int32))] (.int (0 : Int32)) := Arv.set Ar7 q7 Sz7 Nn7 Hh7 Gg7 (by rw [← (own_nar la_c0 : nar .char c0 = c0)]; exact fits_nar_char _) W7 0 rfl (Nat.le_of_ble_eq_true rfl)
  have f11 := (Arv.other f5 W7 ne2)
  obtain ⟨cl12, Ar12, q12, Sz12, Nn12, Hh12, Gg12⟩ := id f11
  have in12 : ¬ ((1 : Int32) < 0 ∨ cl12.slots.size ≤ ((1 : Int32)).toNatClampNeg) := by exact inb_of Sz12 ⟨by decide, by decide⟩
  have at12 : cl12.slots[((1 : Int32)).toNatClampNeg]? = some (.int c1) := by
    refine Has.at Hh12 in12 ?_
    rfl
  obtain ⟨cl13, Ar13, q13, Sz13, Nn13, Hh13, Gg13⟩ := id F7
  have in13 : ¬ ((1 : Int32) < 0 ∨ cl13.slots.size ≤ ((1 : Int32)).toNatClampNeg) := inb_of Sz13 ⟨by decide, by decide⟩
  obtain ⟨T13, h13, X13, e13, W13, st13⟩ := stC X7 hx hZ e7 Ar13 (j := (1 : Int32)) in13 (g := (mkF m 68 #[.val (.ref w), .val (.int (7 : Int32))] [(.int c1), (.int (1 : Int32)), (.ref b1), (.ref b1)])) rfl rfl (hb hby d1_68)
  rw [show nar .char c1 = c1 from own_nar la_c1] at W13
  have O14 := O8.wr W13 ge_b1
  have K15 : Keep h0 h13 [] := K9.wr W13 (Or.inr sz_b1)
  have N16 := Fr.snoc X13 N10 ge_b1
  have F13 : Arv Z h13 b1 k1 .char (7 : Int32) [(.int c0), (.int c1), (.int (0 : Int32)), (.int (0 : Int32)), (.int (0 : Int32)), (.int (0 : Int32)), (.int (0 : Int32))] (.int (0 : Int32)) := Arv.set Ar13 q13 Sz13 Nn13 Hh13 Gg13 (by rw [← (own_nar la_c1 : nar .char c1 = c1)]; exact fits_nar_char _) W13 1 rfl (Nat.le_of_ble_eq_true rfl)
  have f17 := (Arv.other f11 W13 ne2)
  obtain ⟨cl18, Ar18, q18, Sz18, Nn18, Hh18, Gg18⟩ := id f17
  have in18 : ¬ ((2 : Int32) < 0 ∨ cl18.slots.size ≤ ((2 : Int32)).toNatClampNeg) := by exact inb_of Sz18 ⟨by decide, by decide⟩
  have at18 : cl18.slots[((2 : Int32)).toNatClampNeg]? = some (.int c2) := by
    refine Has.at Hh18 in18 ?_
    rfl
  obtain ⟨cl19, Ar19, q19, Sz19, Nn19, Hh19, Gg19⟩ := id F13
  have in19 : ¬ ((2 : Int32) < 0 ∨ cl19.slots.size ≤ ((2 : Int32)).toNatClampNeg) := inb_of Sz19 ⟨by decide, by decide⟩
  obtain ⟨T19, h19, X19, e19, W19, st19⟩ := stC X13 hx hZ e13 Ar19 (j := (2 : Int32)) in19 (g := (mkF m 74 #[.val (.ref w), .val (.int (7 : Int32))] [(.int c2), (.int (2 : Int32)), (.ref b1), (.ref b1)])) rfl rfl (hb hby d1_74)
  rw [show nar .char c2 = c2 from own_nar la_c2] at W19
  have O20 := O14.wr W19 ge_b1
  have K21 : Keep h0 h19 [] := K15.wr W19 (Or.inr sz_b1)
  have N22 := Fr.snoc X19 N16 ge_b1
  have F19 : Arv Z h19 b1 k1 .char (7 : Int32) [(.int c0), (.int c1), (.int c2), (.int (0 : Int32)), (.int (0 : Int32)), (.int (0 : Int32)), (.int (0 : Int32))] (.int (0 : Int32)) := Arv.set Ar19 q19 Sz19 Nn19 Hh19 Gg19 (by rw [← (own_nar la_c2 : nar .char c2 = c2)]; exact fits_nar_char _) W19 2 rfl (Nat.le_of_ble_eq_true rfl)
  have f23 := (Arv.other f17 W19 ne2)
  obtain ⟨cl24, Ar24, q24, Sz24, Nn24, Hh24, Gg24⟩ := id f23
  have in24 : ¬ ((3 : Int32) < 0 ∨ cl24.slots.size ≤ ((3 : Int32)).toNatClampNeg) := by exact inb_of Sz24 ⟨by decide, by decide⟩
  have at24 : cl24.slots[((3 : Int32)).toNatClampNeg]? = some (.int c3) := by
    refine Has.at Hh24 in24 ?_
    rfl
  obtain ⟨cl25, Ar25, q25, Sz25, Nn25, Hh25, Gg25⟩ := id F19
  have in25 : ¬ ((3 : Int32) < 0 ∨ cl25.slots.size ≤ ((3 : Int32)).toNatClampNeg) := inb_of Sz25 ⟨by decide, by decide⟩
  obtain ⟨T25, h25, X25, e25, W25, st25⟩ := stC X19 hx hZ e19 Ar25 (j := (3 : Int32)) in25 (g := (mkF m 80 #[.val (.ref w), .val (.int (7 : Int32))] [(.int c3), (.int (3 : Int32)), (.ref b1), (.ref b1)])) rfl rfl (hb hby d1_80)
  rw [show nar .char c3 = c3 from own_nar la_c3] at W25
  have O26 := O20.wr W25 ge_b1
  have K27 : Keep h0 h25 [] := K21.wr W25 (Or.inr sz_b1)
  have N28 := Fr.snoc X25 N22 ge_b1
  have F25 : Arv Z h25 b1 k1 .char (7 : Int32) [(.int c0), (.int c1), (.int c2), (.int c3), (.int (0 : Int32)), (.int (0 : Int32)), (.int (0 : Int32))] (.int (0 : Int32)) := Arv.set Ar25 q25 Sz25 Nn25 Hh25 Gg25 (by rw [← (own_nar la_c3 : nar .char c3 = c3)]; exact fits_nar_char _) W25 3 rfl (Nat.le_of_ble_eq_true rfl)
  have f29 := (Arv.other f23 W25 ne2)
  obtain ⟨cl30, Ar30, q30, Sz30, Nn30, Hh30, Gg30⟩ := id f29
  have in30 : ¬ ((4 : Int32) < 0 ∨ cl30.slots.size ≤ ((4 : Int32)).toNatClampNeg) := by exact inb_of Sz30 ⟨by decide, by decide⟩
  have at30 : cl30.slots[((4 : Int32)).toNatClampNeg]? = some (.int c4) := by
    refine Has.at Hh30 in30 ?_
    rfl
  obtain ⟨cl31, Ar31, q31, Sz31, Nn31, Hh31, Gg31⟩ := id F25
  have in31 : ¬ ((4 : Int32) < 0 ∨ cl31.slots.size ≤ ((4 : Int32)).toNatClampNeg) := inb_of Sz31 ⟨by decide, by decide⟩
  obtain ⟨T31, h31, X31, e31, W31, st31⟩ := stC X25 hx hZ e25 Ar31 (j := (4 : Int32)) in31 (g := (mkF m 86 #[.val (.ref w), .val (.int (7 : Int32))] [(.int c4), (.int (4 : Int32)), (.ref b1), (.ref b1)])) rfl rfl (hb hby d1_86)
  rw [show nar .char c4 = c4 from own_nar la_c4] at W31
  have O32 := O26.wr W31 ge_b1
  have K33 : Keep h0 h31 [] := K27.wr W31 (Or.inr sz_b1)
  have N34 := Fr.snoc X31 N28 ge_b1
  have F31 : Arv Z h31 b1 k1 .char (7 : Int32) [(.int c0), (.int c1), (.int c2), (.int c3), (.int c4), (.int (0 : Int32)), (.int (0 : Int32))] (.int (0 : Int32)) := Arv.set Ar31 q31 Sz31 Nn31 Hh31 Gg31 (by rw [← (own_nar la_c4 : nar .char c4 = c4)]; exact fits_nar_char _) W31 4 rfl (Nat.le_of_ble_eq_true rfl)
  have f35 := (Arv.other f29 W31 ne2)
  obtain ⟨cl36, Ar36, q36, Sz36, Nn36, Hh36, Gg36⟩ := id f35
  have in36 : ¬ ((5 : Int32) < 0 ∨ cl36.slots.size ≤ ((5 : Int32)).toNatClampNeg) := by exact inb_of Sz36 ⟨by decide, by decide⟩
  have at36 : cl36.slots[((5 : Int32)).toNatClampNeg]? = some (.int c5) := by
    refine Has.at Hh36 in36 ?_
    rfl
  obtain ⟨cl37, Ar37, q37, Sz37, Nn37, Hh37, Gg37⟩ := id F31
  have in37 : ¬ ((5 : Int32) < 0 ∨ cl37.slots.size ≤ ((5 : Int32)).toNatClampNeg) := inb_of Sz37 ⟨by decide, by decide⟩
  obtain ⟨T37, h37, X37, e37, W37, st37⟩ := stC X31 hx hZ e31 Ar37 (j := (5 : Int32)) in37 (g := (mkF m 92 #[.val (.ref w), .val (.int (7 : Int32))] [(.int c5), (.int (5 : Int32)), (.ref b1), (.ref b1)])) rfl rfl (hb hby d1_92)
  rw [show nar .char c5 = c5 from own_nar la_c5] at W37
  have O38 := O32.wr W37 ge_b1
  have K39 : Keep h0 h37 [] := K33.wr W37 (Or.inr sz_b1)
  have N40 := Fr.snoc X37 N34 ge_b1
  have F37 : Arv Z h37 b1 k1 .char (7 : Int32) [(.int c0), (.int c1), (.int c2), (.int c3), (.int c4), (.int c5), (.int (0 : Int32))] (.int (0 : Int32)) := Arv.set Ar37 q37 Sz37 Nn37 Hh37 Gg37 (by rw [← (own_nar la_c5 : nar .char c5 = c5)]; exact fits_nar_char _) W37 5 rfl (Nat.le_of_ble_eq_true rfl)
  have f41 := (Arv.other f35 W37 ne2)
  obtain ⟨cl42, Ar42, q42, Sz42, Nn42, Hh42, Gg42⟩ := id f41
  have in42 : ¬ ((6 : Int32) < 0 ∨ cl42.slots.size ≤ ((6 : Int32)).toNatClampNeg) := by exact inb_of Sz42 ⟨by decide, by decide⟩
  have at42 : cl42.slots[((6 : Int32)).toNatClampNeg]? = some (.int c6) := by
    refine Has.at Hh42 in42 ?_
    rfl
  obtain ⟨cl43, Ar43, q43, Sz43, Nn43, Hh43, Gg43⟩ := id F37
  have in43 : ¬ ((6 : Int32) < 0 ∨ cl43.slots.size ≤ ((6 : Int32)).toNatClampNeg) := inb_of Sz43 ⟨by decide, by decide⟩
  obtain ⟨T43, h43, X43, e43, W43, st43⟩ := stC X37 hx hZ e37 Ar43 (j := (6 : Int32)) in43 (g := (mkF m 100 #[.val (.ref w), .val (.int (7 : Int32))] [(.int c6), (.int (6 : Int32)), (.ref b1), (.ref b1)])) rfl rfl (hb hby d1_100)
  rw [show nar .char c6 = c6 from own_nar la_c6] at W43
  have O44 := O38.wr W43 ge_b1
  have K45 : Keep h0 h43 [] := K39.wr W43 (Or.inr sz_b1)
  have N46 := Fr.snoc X43 N40 ge_b1
  have F43 : Arv Z h43 b1 k1 .char (7 : Int32) [(.int c0), (.int c1), (.int c2), (.int c3), (.int c4), (.int c5), (.int c6)] (.int (0 : Int32)) := Arv.set Ar43 q43 Sz43 Nn43 Hh43 Gg43 (by rw [← (own_nar la_c6 : nar .char c6 = c6)]; exact fits_nar_char _) W43 6 rfl (Nat.le_of_ble_eq_true rfl)
  have S47 : ∀ t, Steps p.tables e below (T43.setTop (mkF m 101 #[.val (.ref w), .val (.int (7 : Int32))] [(.ref b1)])) t → Steps p.tables e below (s₁.setTop (mkF m 0 #[.val (.ref w), .val (.int (7 : Int32))] [])) t := by
    intro t kt
    refine XS.iloadN X0.here hx rfl (hb hby d1_0) rfl ?_
    refine XS.bipush X0.here hx rfl (hb hby d1_1) ?_
    refine XS.icmpYes X0.here hx rfl (pc0 := 3) (pc' := 47) rfl (hb hby d1_3) rfl (feq ((by decide) : ¬ ((7 : Int32) = (6 : Int32)))).2 (by decide) (by decide) ?_
    refine XS.iloadN X0.here hx rfl (hb hby d1_47) rfl ?_
    refine XS.bipush X0.here hx rfl (hb hby d1_48) ?_
    refine XS.icmpNo X0.here hx rfl (hb hby d1_50) rfl (teq ((by decide) : (7 : Int32) = (7 : Int32))).2 ?_
    show Steps p.tables e below (s₁.setTop (mkF m 53 #[.val (.ref w), .val (.int (7 : Int32))] [])) _
    refine XS.bipush X0.here hx rfl (hb hby d1_53) ?_
    show Steps p.tables e below (s₁.setTop (mkF m 55 #[.val (.ref w), .val (.int (7 : Int32))] [(.int (7 : Int32))])) _
    refine st1 _ ?_
    refine XS.dup X1.here hx rfl (hb hby d1_57) rfl rfl ?_
    refine XS.iconst X1.here hx rfl (hb hby d1_58) ?_
    refine XS.aloadN X1.here hx rfl (hb hby d1_59) rfl rfl ?_
    refine XS.iconst X1.here hx rfl (hb hby d1_60) ?_
    show Steps p.tables e below (T1.setTop (mkF m 61 #[.val (.ref w), .val (.int (7 : Int32))] [(.int (0 : Int32)), (.ref w), (.int (0 : Int32)), (.ref b1), (.ref b1)])) _
    refine X1.caload hx (j := (0 : Int32)) (v := (.int c0)) (by rw [e1]; exact Ar6.1) (State.isArrayOf_alike hZ.alike Ar6.2.1) Ar6.2.2 in6 at6 (g := (mkF m 61 #[.val (.ref w), .val (.int (7 : Int32))] [(.int (0 : Int32)), (.ref w), (.int (0 : Int32)), (.ref b1), (.ref b1)])) rfl rfl (hb hby d1_61) _ ?_
    show Steps p.tables e below (T1.setTop (mkF m 62 #[.val (.ref w), .val (.int (7 : Int32))] [(.int c0), (.int (0 : Int32)), (.ref b1), (.ref b1)])) _
    refine st7 _ ?_
    refine XS.dup X7.here hx rfl (hb hby d1_63) rfl rfl ?_
    refine XS.iconst X7.here hx rfl (hb hby d1_64) ?_
    refine XS.aloadN X7.here hx rfl (hb hby d1_65) rfl rfl ?_
    refine XS.iconst X7.here hx rfl (hb hby d1_66) ?_
    show Steps p.tables e below (T7.setTop (mkF m 67 #[.val (.ref w), .val (.int (7 : Int32))] [(.int (1 : Int32)), (.ref w), (.int (1 : Int32)), (.ref b1), (.ref b1)])) _
    refine X7.caload hx (j := (1 : Int32)) (v := (.int c1)) (by rw [e7]; exact Ar12.1) (State.isArrayOf_alike hZ.alike Ar12.2.1) Ar12.2.2 in12 at12 (g := (mkF m 67 #[.val (.ref w), .val (.int (7 : Int32))] [(.int (1 : Int32)), (.ref w), (.int (1 : Int32)), (.ref b1), (.ref b1)])) rfl rfl (hb hby d1_67) _ ?_
    show Steps p.tables e below (T7.setTop (mkF m 68 #[.val (.ref w), .val (.int (7 : Int32))] [(.int c1), (.int (1 : Int32)), (.ref b1), (.ref b1)])) _
    refine st13 _ ?_
    refine XS.dup X13.here hx rfl (hb hby d1_69) rfl rfl ?_
    refine XS.iconst X13.here hx rfl (hb hby d1_70) ?_
    refine XS.aloadN X13.here hx rfl (hb hby d1_71) rfl rfl ?_
    refine XS.iconst X13.here hx rfl (hb hby d1_72) ?_
    show Steps p.tables e below (T13.setTop (mkF m 73 #[.val (.ref w), .val (.int (7 : Int32))] [(.int (2 : Int32)), (.ref w), (.int (2 : Int32)), (.ref b1), (.ref b1)])) _
    refine X13.caload hx (j := (2 : Int32)) (v := (.int c2)) (by rw [e13]; exact Ar18.1) (State.isArrayOf_alike hZ.alike Ar18.2.1) Ar18.2.2 in18 at18 (g := (mkF m 73 #[.val (.ref w), .val (.int (7 : Int32))] [(.int (2 : Int32)), (.ref w), (.int (2 : Int32)), (.ref b1), (.ref b1)])) rfl rfl (hb hby d1_73) _ ?_
    show Steps p.tables e below (T13.setTop (mkF m 74 #[.val (.ref w), .val (.int (7 : Int32))] [(.int c2), (.int (2 : Int32)), (.ref b1), (.ref b1)])) _
    refine st19 _ ?_
    refine XS.dup X19.here hx rfl (hb hby d1_75) rfl rfl ?_
    refine XS.iconst X19.here hx rfl (hb hby d1_76) ?_
    refine XS.aloadN X19.here hx rfl (hb hby d1_77) rfl rfl ?_
    refine XS.iconst X19.here hx rfl (hb hby d1_78) ?_
    show Steps p.tables e below (T19.setTop (mkF m 79 #[.val (.ref w), .val (.int (7 : Int32))] [(.int (3 : Int32)), (.ref w), (.int (3 : Int32)), (.ref b1), (.ref b1)])) _
    refine X19.caload hx (j := (3 : Int32)) (v := (.int c3)) (by rw [e19]; exact Ar24.1) (State.isArrayOf_alike hZ.alike Ar24.2.1) Ar24.2.2 in24 at24 (g := (mkF m 79 #[.val (.ref w), .val (.int (7 : Int32))] [(.int (3 : Int32)), (.ref w), (.int (3 : Int32)), (.ref b1), (.ref b1)])) rfl rfl (hb hby d1_79) _ ?_
    show Steps p.tables e below (T19.setTop (mkF m 80 #[.val (.ref w), .val (.int (7 : Int32))] [(.int c3), (.int (3 : Int32)), (.ref b1), (.ref b1)])) _
    refine st25 _ ?_
    refine XS.dup X25.here hx rfl (hb hby d1_81) rfl rfl ?_
    refine XS.iconst X25.here hx rfl (hb hby d1_82) ?_
    refine XS.aloadN X25.here hx rfl (hb hby d1_83) rfl rfl ?_
    refine XS.iconst X25.here hx rfl (hb hby d1_84) ?_
    show Steps p.tables e below (T25.setTop (mkF m 85 #[.val (.ref w), .val (.int (7 : Int32))] [(.int (4 : Int32)), (.ref w), (.int (4 : Int32)), (.ref b1), (.ref b1)])) _
    refine X25.caload hx (j := (4 : Int32)) (v := (.int c4)) (by rw [e25]; exact Ar30.1) (State.isArrayOf_alike hZ.alike Ar30.2.1) Ar30.2.2 in30 at30 (g := (mkF m 85 #[.val (.ref w), .val (.int (7 : Int32))] [(.int (4 : Int32)), (.ref w), (.int (4 : Int32)), (.ref b1), (.ref b1)])) rfl rfl (hb hby d1_85) _ ?_
    show Steps p.tables e below (T25.setTop (mkF m 86 #[.val (.ref w), .val (.int (7 : Int32))] [(.int c4), (.int (4 : Int32)), (.ref b1), (.ref b1)])) _
    refine st31 _ ?_
    refine XS.dup X31.here hx rfl (hb hby d1_87) rfl rfl ?_
    refine XS.iconst X31.here hx rfl (hb hby d1_88) ?_
    refine XS.aloadN X31.here hx rfl (hb hby d1_89) rfl rfl ?_
    refine XS.iconst X31.here hx rfl (hb hby d1_90) ?_
    show Steps p.tables e below (T31.setTop (mkF m 91 #[.val (.ref w), .val (.int (7 : Int32))] [(.int (5 : Int32)), (.ref w), (.int (5 : Int32)), (.ref b1), (.ref b1)])) _
    refine X31.caload hx (j := (5 : Int32)) (v := (.int c5)) (by rw [e31]; exact Ar36.1) (State.isArrayOf_alike hZ.alike Ar36.2.1) Ar36.2.2 in36 at36 (g := (mkF m 91 #[.val (.ref w), .val (.int (7 : Int32))] [(.int (5 : Int32)), (.ref w), (.int (5 : Int32)), (.ref b1), (.ref b1)])) rfl rfl (hb hby d1_91) _ ?_
    show Steps p.tables e below (T31.setTop (mkF m 92 #[.val (.ref w), .val (.int (7 : Int32))] [(.int c5), (.int (5 : Int32)), (.ref b1), (.ref b1)])) _
    refine st37 _ ?_
    refine XS.dup X37.here hx rfl (hb hby d1_93) rfl rfl ?_
    refine XS.bipush X37.here hx rfl (hb hby d1_94) ?_
    refine XS.aloadN X37.here hx rfl (hb hby d1_96) rfl rfl ?_
    refine XS.bipush X37.here hx rfl (hb hby d1_97) ?_
    show Steps p.tables e below (T37.setTop (mkF m 99 #[.val (.ref w), .val (.int (7 : Int32))] [(.int (6 : Int32)), (.ref w), (.int (6 : Int32)), (.ref b1), (.ref b1)])) _
    refine X37.caload hx (j := (6 : Int32)) (v := (.int c6)) (by rw [e37]; exact Ar42.1) (State.isArrayOf_alike hZ.alike Ar42.2.1) Ar42.2.2 in42 at42 (g := (mkF m 99 #[.val (.ref w), .val (.int (7 : Int32))] [(.int (6 : Int32)), (.ref w), (.int (6 : Int32)), (.ref b1), (.ref b1)])) rfl rfl (hb hby d1_99) _ ?_
    show Steps p.tables e below (T37.setTop (mkF m 100 #[.val (.ref w), .val (.int (7 : Int32))] [(.int c6), (.int (6 : Int32)), (.ref b1), (.ref b1)])) _
    refine st43 _ ?_
    exact kt
  obtain ⟨fs, hr, hrun, hended, hW, hsame⟩ := X43.leave (v := some (.ref b1)) (fun h => by rw [Bd.returns] at h; cases h)
  refine ⟨_, _, pre0 _ (S47 _ ?_), hrun, hended, _, _, rfl, ?_, ⟨_, rfl⟩, hW, hsame.mono (by decide) (by decide)⟩
  · exact retOut X43 hx Bd.returns rfl (Or.inr (Or.inr (Or.inr (Or.inr ⟨rfl, rfl, rfl⟩)))) (hb hby d1_101) hr
  · show Q_rm_cut7 Z w kw c0 c1 c2 c3 c4 c5 c6 c7 c8 c9 h0 n0 _ T43.heap _
    rw [e43]
    exact ⟨b1, k1, rfl, N46, K45, sz_b1, F43⟩
theorem d1_102 : decode method_4_code 102 = .ok (.iload_n 1, 1) := by decide +kernel
theorem d1_103 : decode method_4_code 103 = .ok (.bipush 8, 2) := by decide +kernel
theorem d1_105 : decode method_4_code 105 = .ok (.if_icmp .ne 60, 3) := by decide +kernel
theorem d1_108 : decode method_4_code 108 = .ok (.bipush 8, 2) := by decide +kernel
theorem d1_110 : decode method_4_code 110 = .ok (.newarray .char, 2) := by decide +kernel
theorem d1_112 : decode method_4_code 112 = .ok (.dup, 1) := by decide +kernel
theorem d1_113 : decode method_4_code 113 = .ok (.iconst 0, 1) := by decide +kernel
theorem d1_114 : decode method_4_code 114 = .ok (.aload_n 0, 1) := by decide +kernel
theorem d1_115 : decode method_4_code 115 = .ok (.iconst 0, 1) := by decide +kernel
theorem d1_116 : decode method_4_code 116 = .ok (.caload, 1) := by decide +kernel
theorem d1_117 : decode method_4_code 117 = .ok (.castore, 1) := by decide +kernel
theorem d1_118 : decode method_4_code 118 = .ok (.dup, 1) := by decide +kernel
theorem d1_119 : decode method_4_code 119 = .ok (.iconst 1, 1) := by decide +kernel
theorem d1_120 : decode method_4_code 120 = .ok (.aload_n 0, 1) := by decide +kernel
theorem d1_121 : decode method_4_code 121 = .ok (.iconst 1, 1) := by decide +kernel
theorem d1_122 : decode method_4_code 122 = .ok (.caload, 1) := by decide +kernel
theorem d1_123 : decode method_4_code 123 = .ok (.castore, 1) := by decide +kernel
theorem d1_124 : decode method_4_code 124 = .ok (.dup, 1) := by decide +kernel
theorem d1_125 : decode method_4_code 125 = .ok (.iconst 2, 1) := by decide +kernel
theorem d1_126 : decode method_4_code 126 = .ok (.aload_n 0, 1) := by decide +kernel
theorem d1_127 : decode method_4_code 127 = .ok (.iconst 2, 1) := by decide +kernel
theorem d1_128 : decode method_4_code 128 = .ok (.caload, 1) := by decide +kernel
theorem d1_129 : decode method_4_code 129 = .ok (.castore, 1) := by decide +kernel
theorem d1_130 : decode method_4_code 130 = .ok (.dup, 1) := by decide +kernel
theorem d1_131 : decode method_4_code 131 = .ok (.iconst 3, 1) := by decide +kernel
theorem d1_132 : decode method_4_code 132 = .ok (.aload_n 0, 1) := by decide +kernel
theorem d1_133 : decode method_4_code 133 = .ok (.iconst 3, 1) := by decide +kernel
theorem d1_134 : decode method_4_code 134 = .ok (.caload, 1) := by decide +kernel
theorem d1_135 : decode method_4_code 135 = .ok (.castore, 1) := by decide +kernel
theorem d1_136 : decode method_4_code 136 = .ok (.dup, 1) := by decide +kernel
theorem d1_137 : decode method_4_code 137 = .ok (.iconst 4, 1) := by decide +kernel
theorem d1_138 : decode method_4_code 138 = .ok (.aload_n 0, 1) := by decide +kernel
theorem d1_139 : decode method_4_code 139 = .ok (.iconst 4, 1) := by decide +kernel
theorem d1_140 : decode method_4_code 140 = .ok (.caload, 1) := by decide +kernel
theorem d1_141 : decode method_4_code 141 = .ok (.castore, 1) := by decide +kernel
theorem d1_142 : decode method_4_code 142 = .ok (.dup, 1) := by decide +kernel
theorem d1_143 : decode method_4_code 143 = .ok (.iconst 5, 1) := by decide +kernel
theorem d1_144 : decode method_4_code 144 = .ok (.aload_n 0, 1) := by decide +kernel
theorem d1_145 : decode method_4_code 145 = .ok (.iconst 5, 1) := by decide +kernel
theorem d1_146 : decode method_4_code 146 = .ok (.caload, 1) := by decide +kernel
theorem d1_147 : decode method_4_code 147 = .ok (.castore, 1) := by decide +kernel
theorem d1_148 : decode method_4_code 148 = .ok (.dup, 1) := by decide +kernel
theorem d1_149 : decode method_4_code 149 = .ok (.bipush 6, 2) := by decide +kernel
theorem d1_151 : decode method_4_code 151 = .ok (.aload_n 0, 1) := by decide +kernel
theorem d1_152 : decode method_4_code 152 = .ok (.bipush 6, 2) := by decide +kernel
theorem d1_154 : decode method_4_code 154 = .ok (.caload, 1) := by decide +kernel
theorem d1_155 : decode method_4_code 155 = .ok (.castore, 1) := by decide +kernel
theorem d1_156 : decode method_4_code 156 = .ok (.dup, 1) := by decide +kernel
theorem d1_157 : decode method_4_code 157 = .ok (.bipush 7, 2) := by decide +kernel
theorem d1_159 : decode method_4_code 159 = .ok (.aload_n 0, 1) := by decide +kernel
theorem d1_160 : decode method_4_code 160 = .ok (.bipush 7, 2) := by decide +kernel
theorem d1_162 : decode method_4_code 162 = .ok (.caload, 1) := by decide +kernel
theorem d1_163 : decode method_4_code 163 = .ok (.castore, 1) := by decide +kernel
theorem d1_164 : decode method_4_code 164 = .ok (.areturn, 1) := by decide +kernel
theorem ef_rm_cut8 (m : MethodId) (x0 : Addr) (x1 : Int32) : entryFrame m #[(.ref x0), (.int x1)] 2 = mkF m 0 #[.val (.ref x0), .val (.int x1)] [] := by first | (simp [entryFrame, mkF, argsToLocals, Value.category]; done) | rfl
def Q_rm_cut8 (Z : State) (w : Addr) (kw : ClassId) (c0 : Int32) (c1 : Int32) (c2 : Int32) (c3 : Int32) (c4 : Int32) (c5 : Int32) (c6 : Int32) (c7 : Int32) (c8 : Int32) (c9 : Int32) (h0 : Heap) (n0 : Nat) (v : Option Value) (h : Heap) (L : List Loc) : Prop := (∃ (r : Addr) (k : ClassId), (v = some (.ref r)) ∧ (Fr n0 L) ∧ (Keep h0 h []) ∧ (h0.size ≤ r) ∧ (Arv Z h r k .char (8 : Int32) [(.int c0), (.int c1), (.int c2), (.int c3), (.int c4), (.int c5), (.int c6), (.int c7)] (.int (0 : Int32))))
set_option maxRecDepth 65536 in
set_option maxHeartbeats 40000000 in
theorem rm_cut8 (l : Launch) (Z : State) (a0 : Array Value) (hw : ∀ d ∈ tables_1, d.before a0 Z = true) (ws : List Jvm.Cond) (w : Addr) (kw : ClassId) (c0 : Int32) (c1 : Int32) (c2 : Int32) (c3 : Int32) (c4 : Int32) (c5 : Int32) (c6 : Int32) (c7 : Int32) (c8 : Int32) (c9 : Int32) (h0 : Heap) (n0 : Nat) (O0 : Old Z n0 h0) (A_w : Arv Z h0 w kw .char (10 : Int32) [(.int c0), (.int c1), (.int c2), (.int c3), (.int c4), (.int c5), (.int c6), (.int c7), (.int c8), (.int c9)] (.int (0 : Int32))) (la_c0 : ¬ (c0 < (0 : Int32)) ∧ ¬ ((255 : Int32) < c0)) (la_c1 : ¬ (c1 < (0 : Int32)) ∧ ¬ ((255 : Int32) < c1)) (la_c2 : ¬ (c2 < (0 : Int32)) ∧ ¬ ((255 : Int32) < c2)) (la_c3 : ¬ (c3 < (0 : Int32)) ∧ ¬ ((255 : Int32) < c3)) (la_c4 : ¬ (c4 < (0 : Int32)) ∧ ¬ ((255 : Int32) < c4)) (la_c5 : ¬ (c5 < (0 : Int32)) ∧ ¬ ((255 : Int32) < c5)) (la_c6 : ¬ (c6 < (0 : Int32)) ∧ ¬ ((255 : Int32) < c6)) (la_c7 : ¬ (c7 < (0 : Int32)) ∧ ¬ ((255 : Int32) < c7)) (la_c8 : ¬ (c8 < (0 : Int32)) ∧ ¬ ((255 : Int32) < c8)) (la_c9 : ¬ (c9 < (0 : Int32)) ∧ ¬ ((255 : Int32) < c9)) :
    MetFree l (⟨"com/example/logtide/logtide/event/TemporalTextIsInfinitePinLaw", "cut", "([CI)[C"⟩ : MethodName) (head1 (Jvm.Cond.code (⟨"com/example/logtide/logtide/event/TemporalTextIsInfinitePinLaw", "cut", "([CI)[C"⟩ : MethodName) method_4_code 2 (some (.array .char)) :: ws) ({ frames := 0, cells := 1, slots := 8, locals := 0 } : Room)) (fun a U => a = #[(.ref w), (.int (8 : Int32))] ∧ Z.Warmed39 U.vm ∧ U.heap = h0) (fun _ _ _ _ _ => True) (fun _ U o U' => ∃ v L, o = .returned v ∧ Q_rm_cut8 Z w kw c0 c1 c2 c3 c4 c5 c6 c7 c8 c9 h0 n0 v U'.heap L ∧ FrameEnd U o U' L ({ frames := 0, cells := 1, slots := 8, locals := 0 } : Room).cells ({ frames := 0, cells := 1, slots := 8, locals := 0 } : Room).slots) := by
  refine MetFree.of_bodySF (plainFor_of_name pn_0) hisR ?_
  intro p e s m args below meth c s₁ Bd hml0 hP hK
  obtain ⟨rfl, hZ, hh⟩ := hP
  have hx := Bd.exec
  have hby := Bd.bytes
  have hml : c.maxLocals = 2 := hml0
  have hown : s.vm.findClass "com/example/logtide/logtide/event/TemporalTextIsInfinitePinLaw" = some m.cls := findClass_of_methodNamed Bd.named
  have hnm := (name_of_methodNamed Bd.named Bd.method).1
  have X0 : Stand p l e ({ frames := 0, cells := 1, slots := 8, locals := 0 } : Room) s m #[(.ref w), (.int (8 : Int32))] below meth c s₁ [] 0 0 := Stand.of_body Bd
  have e0 : s₁.heap = h0 := by rw [← hh, Bd.state]; rfl
  have N0 := Fr.nil n0
  have hwl : ∀ d ∈ StrChars.Road.wordsLen, d.before a0 Z = true := fun d hd => hw d (own_wordsLen d hd)
  have hwc : ∀ d ∈ StrChars.Road.wordsChN, d.before a0 Z = true := fun d hd => hw d (own_wordsChN d hd)
  have hwq : ∀ d ∈ StrChars.Road.wordsEq, d.before a0 Z = true := fun d hd => hw d (own_wordsEq d hd)
  have hws : ∀ d ∈ StrChars.Road.words, d.before a0 Z = true := fun d hd => hw d (own_words d hd)
  have K0 : Keep h0 h0 [] := Keep.refl _ _
  have pre0 : ∀ t, Steps p.tables e below (s₁.setTop (mkF m 0 #[.val (.ref w), .val (.int (8 : Int32))] [])) t → Steps p.tables e below (s₁.setTop (entryFrame m #[(.ref w), (.int (8 : Int32))] 2)) t := fun t k => castTop (ef_rm_cut8 m w (8 : Int32)) k
  obtain ⟨T1, h1, k1, X1, e1, E1, A1, B1, st1⟩ := newPE X0 hx hZ (own_w hw 9 rfl) e0 (g := (mkF m 110 #[.val (.ref w), .val (.int (8 : Int32))] [(.int (8 : Int32))])) rfl (hb hby d1_110) rfl (by decide) (cap := 8) (by decide) (by decide) (by decide) (by decide) (ad := "[C") (by first | rfl | decide)
  obtain ⟨b1, g1⟩ : ∃ z, z = h0.size := ⟨_, rfl⟩
  have ge_b1 : n0 ≤ b1 := by rw [g1, ← O0.1]; exact O0.2.1
  have sz_b1 : h0.size ≤ b1 := by rw [g1]; exact K0.1
  have ne2 : w ≠ b1 := Nat.ne_of_lt (Nat.lt_of_lt_of_le (Arv.lt A_w) (Nat.le_of_eq g1.symm))
  rw [← g1] at A1 B1 st1
  have O3 := O0.ext E1
  have K4 : Keep h0 h1 [] := K0.ext E1
  have F1 : Arv Z h1 b1 k1 .char (8 : Int32) [(.int (0 : Int32)), (.int (0 : Int32)), (.int (0 : Int32)), (.int (0 : Int32)), (.int (0 : Int32)), (.int (0 : Int32)), (.int (0 : Int32)), (.int (0 : Int32))] (.int (0 : Int32)) := (Arv.new A1 (by decide)).pad (pad_rep [] (.int (0 : Int32)) 8)
  have f5 := (Arv.ext A_w E1)
  obtain ⟨cl6, Ar6, q6, Sz6, Nn6, Hh6, Gg6⟩ := id f5
  have in6 : ¬ ((0 : Int32) < 0 ∨ cl6.slots.size ≤ ((0 : Int32)).toNatClampNeg) := by exact inb_of Sz6 ⟨by decide, by decide⟩
  have at6 : cl6.slots[((0 : Int32)).toNatClampNeg]? = some (.int c0) := by
    refine Has.at Hh6 in6 ?_
    rfl
  obtain ⟨cl7, Ar7, q7, Sz7, Nn7, Hh7, Gg7⟩ := id F1
  have in7 : ¬ ((0 : Int32) < 0 ∨ cl7.slots.size ≤ ((0 : Int32)).toNatClampNeg) := inb_of Sz7 ⟨by decide, by decide⟩
  obtain ⟨T7, h7, X7, e7, W7, st7⟩ := stC X1 hx hZ e1 Ar7 (j := (0 : Int32)) in7 (g := (mkF m 117 #[.val (.ref w), .val (.int (8 : Int32))] [(.int c0), (.int (0 : Int32)), (.ref b1), (.ref b1)])) rfl rfl (hb hby d1_117)
  rw [show nar .char c0 = c0 from own_nar la_c0] at W7
  have O8 := O3.wr W7 ge_b1
  have K9 : Keep h0 h7 [] := K4.wr W7 (Or.inr sz_b1)
  have N10 := Fr.snoc X7 N0 ge_b1
  have F7 : Arv Z h7 b1 k1 .char (8 : Int32) [(.int c0), (.int (0 : Int32)), (.int (0 : Int32)), (.int (0 : Int32)), (.int (0 : Int32)), (.int (0 : Int32)), (.int (0 : Int32)), (.int (0 : Int32))] (.int (0 : Int32)) := Arv.set Ar7 q7 Sz7 Nn7 Hh7 Gg7 (by rw [← (own_nar la_c0 : nar .char c0 = c0)]; exact fits_nar_char _) W7 0 rfl (Nat.le_of_ble_eq_true rfl)
  have f11 := (Arv.other f5 W7 ne2)
  obtain ⟨cl12, Ar12, q12, Sz12, Nn12, Hh12, Gg12⟩ := id f11
  have in12 : ¬ ((1 : Int32) < 0 ∨ cl12.slots.size ≤ ((1 : Int32)).toNatClampNeg) := by exact inb_of Sz12 ⟨by decide, by decide⟩
  have at12 : cl12.slots[((1 : Int32)).toNatClampNeg]? = some (.int c1) := by
    refine Has.at Hh12 in12 ?_
    rfl
  obtain ⟨cl13, Ar13, q13, Sz13, Nn13, Hh13, Gg13⟩ := id F7
  have in13 : ¬ ((1 : Int32) < 0 ∨ cl13.slots.size ≤ ((1 : Int32)).toNatClampNeg) := inb_of Sz13 ⟨by decide, by decide⟩
  obtain ⟨T13, h13, X13, e13, W13, st13⟩ := stC X7 hx hZ e7 Ar13 (j := (1 : Int32)) in13 (g := (mkF m 123 #[.val (.ref w), .val (.int (8 : Int32))] [(.int c1), (.int (1 : Int32)), (.ref b1), (.ref b1)])) rfl rfl (hb hby d1_123)
  rw [show nar .char c1 = c1 from own_nar la_c1] at W13
  have O14 := O8.wr W13 ge_b1
  have K15 : Keep h0 h13 [] := K9.wr W13 (Or.inr sz_b1)
  have N16 := Fr.snoc X13 N10 ge_b1
  have F13 : Arv Z h13 b1 k1 .char (8 : Int32) [(.int c0), (.int c1), (.int (0 : Int32)), (.int (0 : Int32)), (.int (0 : Int32)), (.int (0 : Int32)), (.int (0 : Int32)), (.int (0 : Int32))] (.int (0 : Int32)) := Arv.set Ar13 q13 Sz13 Nn13 Hh13 Gg13 (by rw [← (own_nar la_c1 : nar .char c1 = c1)]; exact fits_nar_char _) W13 1 rfl (Nat.le_of_ble_eq_true rfl)
  have f17 := (Arv.other f11 W13 ne2)
  obtain ⟨cl18, Ar18, q18, Sz18, Nn18, Hh18, Gg18⟩ := id f17
  have in18 : ¬ ((2 : Int32) < 0 ∨ cl18.slots.size ≤ ((2 : Int32)).toNatClampNeg) := by exact inb_of Sz18 ⟨by decide, by decide⟩
  have at18 : cl18.slots[((2 : Int32)).toNatClampNeg]? = some (.int c2) := by
    refine Has.at Hh18 in18 ?_
    rfl
  obtain ⟨cl19, Ar19, q19, Sz19, Nn19, Hh19, Gg19⟩ := id F13
  have in19 : ¬ ((2 : Int32) < 0 ∨ cl19.slots.size ≤ ((2 : Int32)).toNatClampNeg) := inb_of Sz19 ⟨by decide, by decide⟩
  obtain ⟨T19, h19, X19, e19, W19, st19⟩ := stC X13 hx hZ e13 Ar19 (j := (2 : Int32)) in19 (g := (mkF m 129 #[.val (.ref w), .val (.int (8 : Int32))] [(.int c2), (.int (2 : Int32)), (.ref b1), (.ref b1)])) rfl rfl (hb hby d1_129)
  rw [show nar .char c2 = c2 from own_nar la_c2] at W19
  have O20 := O14.wr W19 ge_b1
  have K21 : Keep h0 h19 [] := K15.wr W19 (Or.inr sz_b1)
  have N22 := Fr.snoc X19 N16 ge_b1
  have F19 : Arv Z h19 b1 k1 .char (8 : Int32) [(.int c0), (.int c1), (.int c2), (.int (0 : Int32)), (.int (0 : Int32)), (.int (0 : Int32)), (.int (0 : Int32)), (.int (0 : Int32))] (.int (0 : Int32)) := Arv.set Ar19 q19 Sz19 Nn19 Hh19 Gg19 (by rw [← (own_nar la_c2 : nar .char c2 = c2)]; exact fits_nar_char _) W19 2 rfl (Nat.le_of_ble_eq_true rfl)
  have f23 := (Arv.other f17 W19 ne2)
  obtain ⟨cl24, Ar24, q24, Sz24, Nn24, Hh24, Gg24⟩ := id f23
  have in24 : ¬ ((3 : Int32) < 0 ∨ cl24.slots.size ≤ ((3 : Int32)).toNatClampNeg) := by exact inb_of Sz24 ⟨by decide, by decide⟩
  have at24 : cl24.slots[((3 : Int32)).toNatClampNeg]? = some (.int c3) := by
    refine Has.at Hh24 in24 ?_
    rfl
  obtain ⟨cl25, Ar25, q25, Sz25, Nn25, Hh25, Gg25⟩ := id F19
  have in25 : ¬ ((3 : Int32) < 0 ∨ cl25.slots.size ≤ ((3 : Int32)).toNatClampNeg) := inb_of Sz25 ⟨by decide, by decide⟩
  obtain ⟨T25, h25, X25, e25, W25, st25⟩ := stC X19 hx hZ e19 Ar25 (j := (3 : Int32)) in25 (g := (mkF m 135 #[.val (.ref w), .val (.int (8 : Int32))] [(.int c3), (.int (3 : Int32)), (.ref b1), (.ref b1)])) rfl rfl (hb hby d1_135)
  rw [show nar .char c3 = c3 from own_nar la_c3] at W25
  have O26 := O20.wr W25 ge_b1
  have K27 : Keep h0 h25 [] := K21.wr W25 (Or.inr sz_b1)
  have N28 := Fr.snoc X25 N22 ge_b1
  have F25 : Arv Z h25 b1 k1 .char (8 : Int32) [(.int c0), (.int c1), (.int c2), (.int c3), (.int (0 : Int32)), (.int (0 : Int32)), (.int (0 : Int32)), (.int (0 : Int32))] (.int (0 : Int32)) := Arv.set Ar25 q25 Sz25 Nn25 Hh25 Gg25 (by rw [← (own_nar la_c3 : nar .char c3 = c3)]; exact fits_nar_char _) W25 3 rfl (Nat.le_of_ble_eq_true rfl)
  have f29 := (Arv.other f23 W25 ne2)
  obtain ⟨cl30, Ar30, q30, Sz30, Nn30, Hh30, Gg30⟩ := id f29
  have in30 : ¬ ((4 : Int32) < 0 ∨ cl30.slots.size ≤ ((4 : Int32)).toNatClampNeg) := by exact inb_of Sz30 ⟨by decide, by decide⟩
  have at30 : cl30.slots[((4 : Int32)).toNatClampNeg]? = some (.int c4) := by
    refine Has.at Hh30 in30 ?_
    rfl
  obtain ⟨cl31, Ar31, q31, Sz31, Nn31, Hh31, Gg31⟩ := id F25
  have in31 : ¬ ((4 : Int32) < 0 ∨ cl31.slots.size ≤ ((4 : Int32)).toNatClampNeg) := inb_of Sz31 ⟨by decide, by decide⟩
  obtain ⟨T31, h31, X31, e31, W31, st31⟩ := stC X25 hx hZ e25 Ar31 (j := (4 : Int32)) in31 (g := (mkF m 141 #[.val (.ref w), .val (.int (8 : Int32))] [(.int c4), (.int (4 : Int32)), (.ref b1), (.ref b1)])) rfl rfl (hb hby d1_141)
  rw [show nar .char c4 = c4 from own_nar la_c4] at W31
  have O32 := O26.wr W31 ge_b1
  have K33 : Keep h0 h31 [] := K27.wr W31 (Or.inr sz_b1)
  have N34 := Fr.snoc X31 N28 ge_b1
  have F31 : Arv Z h31 b1 k1 .char (8 : Int32) [(.int c0), (.int c1), (.int c2), (.int c3), (.int c4), (.int (0 : Int32)), (.int (0 : Int32)), (.int (0 : Int32))] (.int (0 : Int32)) := Arv.set Ar31 q31 Sz31 Nn31 Hh31 Gg31 (by rw [← (own_nar la_c4 : nar .char c4 = c4)]; exact fits_nar_char _) W31 4 rfl (Nat.le_of_ble_eq_true rfl)
  have f35 := (Arv.other f29 W31 ne2)
  obtain ⟨cl36, Ar36, q36, Sz36, Nn36, Hh36, Gg36⟩ := id f35
  have in36 : ¬ ((5 : Int32) < 0 ∨ cl36.slots.size ≤ ((5 : Int32)).toNatClampNeg) := by exact inb_of Sz36 ⟨by decide, by decide⟩
  have at36 : cl36.slots[((5 : Int32)).toNatClampNeg]? = some (.int c5) := by
    refine Has.at Hh36 in36 ?_
    rfl
  obtain ⟨cl37, Ar37, q37, Sz37, Nn37, Hh37, Gg37⟩ := id F31
  have in37 : ¬ ((5 : Int32) < 0 ∨ cl37.slots.size ≤ ((5 : Int32)).toNatClampNeg) := inb_of Sz37 ⟨by decide, by decide⟩
  obtain ⟨T37, h37, X37, e37, W37, st37⟩ := stC X31 hx hZ e31 Ar37 (j := (5 : Int32)) in37 (g := (mkF m 147 #[.val (.ref w), .val (.int (8 : Int32))] [(.int c5), (.int (5 : Int32)), (.ref b1), (.ref b1)])) rfl rfl (hb hby d1_147)
  rw [show nar .char c5 = c5 from own_nar la_c5] at W37
  have O38 := O32.wr W37 ge_b1
  have K39 : Keep h0 h37 [] := K33.wr W37 (Or.inr sz_b1)
  have N40 := Fr.snoc X37 N34 ge_b1
  have F37 : Arv Z h37 b1 k1 .char (8 : Int32) [(.int c0), (.int c1), (.int c2), (.int c3), (.int c4), (.int c5), (.int (0 : Int32)), (.int (0 : Int32))] (.int (0 : Int32)) := Arv.set Ar37 q37 Sz37 Nn37 Hh37 Gg37 (by rw [← (own_nar la_c5 : nar .char c5 = c5)]; exact fits_nar_char _) W37 5 rfl (Nat.le_of_ble_eq_true rfl)
  have f41 := (Arv.other f35 W37 ne2)
  obtain ⟨cl42, Ar42, q42, Sz42, Nn42, Hh42, Gg42⟩ := id f41
  have in42 : ¬ ((6 : Int32) < 0 ∨ cl42.slots.size ≤ ((6 : Int32)).toNatClampNeg) := by exact inb_of Sz42 ⟨by decide, by decide⟩
  have at42 : cl42.slots[((6 : Int32)).toNatClampNeg]? = some (.int c6) := by
    refine Has.at Hh42 in42 ?_
    rfl
  obtain ⟨cl43, Ar43, q43, Sz43, Nn43, Hh43, Gg43⟩ := id F37
  have in43 : ¬ ((6 : Int32) < 0 ∨ cl43.slots.size ≤ ((6 : Int32)).toNatClampNeg) := inb_of Sz43 ⟨by decide, by decide⟩
  obtain ⟨T43, h43, X43, e43, W43, st43⟩ := stC X37 hx hZ e37 Ar43 (j := (6 : Int32)) in43 (g := (mkF m 155 #[.val (.ref w), .val (.int (8 : Int32))] [(.int c6), (.int (6 : Int32)), (.ref b1), (.ref b1)])) rfl rfl (hb hby d1_155)
  rw [show nar .char c6 = c6 from own_nar la_c6] at W43
  have O44 := O38.wr W43 ge_b1
  have K45 : Keep h0 h43 [] := K39.wr W43 (Or.inr sz_b1)
  have N46 := Fr.snoc X43 N40 ge_b1
  have F43 : Arv Z h43 b1 k1 .char (8 : Int32) [(.int c0), (.int c1), (.int c2), (.int c3), (.int c4), (.int c5), (.int c6), (.int (0 : Int32))] (.int (0 : Int32)) := Arv.set Ar43 q43 Sz43 Nn43 Hh43 Gg43 (by rw [← (own_nar la_c6 : nar .char c6 = c6)]; exact fits_nar_char _) W43 6 rfl (Nat.le_of_ble_eq_true rfl)
  have f47 := (Arv.other f41 W43 ne2)
  obtain ⟨cl48, Ar48, q48, Sz48, Nn48, Hh48, Gg48⟩ := id f47
  have in48 : ¬ ((7 : Int32) < 0 ∨ cl48.slots.size ≤ ((7 : Int32)).toNatClampNeg) := by exact inb_of Sz48 ⟨by decide, by decide⟩
  have at48 : cl48.slots[((7 : Int32)).toNatClampNeg]? = some (.int c7) := by
    refine Has.at Hh48 in48 ?_
    rfl
  obtain ⟨cl49, Ar49, q49, Sz49, Nn49, Hh49, Gg49⟩ := id F43
  have in49 : ¬ ((7 : Int32) < 0 ∨ cl49.slots.size ≤ ((7 : Int32)).toNatClampNeg) := inb_of Sz49 ⟨by decide, by decide⟩
  obtain ⟨T49, h49, X49, e49, W49, st49⟩ := stC X43 hx hZ e43 Ar49 (j := (7 : Int32)) in49 (g := (mkF m 163 #[.val (.ref w), .val (.int (8 : Int32))] [(.int c7), (.int (7 : Int32)), (.ref b1), (.ref b1)])) rfl rfl (hb hby d1_163)
  rw [show nar .char c7 = c7 from own_nar la_c7] at W49
  have O50 := O44.wr W49 ge_b1
  have K51 : Keep h0 h49 [] := K45.wr W49 (Or.inr sz_b1)
  have N52 := Fr.snoc X49 N46 ge_b1
  have F49 : Arv Z h49 b1 k1 .char (8 : Int32) [(.int c0), (.int c1), (.int c2), (.int c3), (.int c4), (.int c5), (.int c6), (.int c7)] (.int (0 : Int32)) := Arv.set Ar49 q49 Sz49 Nn49 Hh49 Gg49 (by rw [← (own_nar la_c7 : nar .char c7 = c7)]; exact fits_nar_char _) W49 7 rfl (Nat.le_of_ble_eq_true rfl)
  have S53 : ∀ t, Steps p.tables e below (T49.setTop (mkF m 164 #[.val (.ref w), .val (.int (8 : Int32))] [(.ref b1)])) t → Steps p.tables e below (s₁.setTop (mkF m 0 #[.val (.ref w), .val (.int (8 : Int32))] [])) t := by
    intro t kt
    refine XS.iloadN X0.here hx rfl (hb hby d1_0) rfl ?_
    refine XS.bipush X0.here hx rfl (hb hby d1_1) ?_
    refine XS.icmpYes X0.here hx rfl (pc0 := 3) (pc' := 47) rfl (hb hby d1_3) rfl (feq ((by decide) : ¬ ((8 : Int32) = (6 : Int32)))).2 (by decide) (by decide) ?_
    refine XS.iloadN X0.here hx rfl (hb hby d1_47) rfl ?_
    refine XS.bipush X0.here hx rfl (hb hby d1_48) ?_
    refine XS.icmpYes X0.here hx rfl (pc0 := 50) (pc' := 102) rfl (hb hby d1_50) rfl (feq ((by decide) : ¬ ((8 : Int32) = (7 : Int32)))).2 (by decide) (by decide) ?_
    show Steps p.tables e below (s₁.setTop (mkF m 102 #[.val (.ref w), .val (.int (8 : Int32))] [])) _
    refine XS.iloadN X0.here hx rfl (hb hby d1_102) rfl ?_
    refine XS.bipush X0.here hx rfl (hb hby d1_103) ?_
    refine XS.icmpNo X0.here hx rfl (hb hby d1_105) rfl (teq ((by decide) : (8 : Int32) = (8 : Int32))).2 ?_
    refine XS.bipush X0.here hx rfl (hb hby d1_108) ?_
    show Steps p.tables e below (s₁.setTop (mkF m 110 #[.val (.ref w), .val (.int (8 : Int32))] [(.int (8 : Int32))])) _
    refine st1 _ ?_
    refine XS.dup X1.here hx rfl (hb hby d1_112) rfl rfl ?_
    refine XS.iconst X1.here hx rfl (hb hby d1_113) ?_
    refine XS.aloadN X1.here hx rfl (hb hby d1_114) rfl rfl ?_
    refine XS.iconst X1.here hx rfl (hb hby d1_115) ?_
    show Steps p.tables e below (T1.setTop (mkF m 116 #[.val (.ref w), .val (.int (8 : Int32))] [(.int (0 : Int32)), (.ref w), (.int (0 : Int32)), (.ref b1), (.ref b1)])) _
    refine X1.caload hx (j := (0 : Int32)) (v := (.int c0)) (by rw [e1]; exact Ar6.1) (State.isArrayOf_alike hZ.alike Ar6.2.1) Ar6.2.2 in6 at6 (g := (mkF m 116 #[.val (.ref w), .val (.int (8 : Int32))] [(.int (0 : Int32)), (.ref w), (.int (0 : Int32)), (.ref b1), (.ref b1)])) rfl rfl (hb hby d1_116) _ ?_
    show Steps p.tables e below (T1.setTop (mkF m 117 #[.val (.ref w), .val (.int (8 : Int32))] [(.int c0), (.int (0 : Int32)), (.ref b1), (.ref b1)])) _
    refine st7 _ ?_
    refine XS.dup X7.here hx rfl (hb hby d1_118) rfl rfl ?_
    refine XS.iconst X7.here hx rfl (hb hby d1_119) ?_
    refine XS.aloadN X7.here hx rfl (hb hby d1_120) rfl rfl ?_
    refine XS.iconst X7.here hx rfl (hb hby d1_121) ?_
    show Steps p.tables e below (T7.setTop (mkF m 122 #[.val (.ref w), .val (.int (8 : Int32))] [(.int (1 : Int32)), (.ref w), (.int (1 : Int32)), (.ref b1), (.ref b1)])) _
    refine X7.caload hx (j := (1 : Int32)) (v := (.int c1)) (by rw [e7]; exact Ar12.1) (State.isArrayOf_alike hZ.alike Ar12.2.1) Ar12.2.2 in12 at12 (g := (mkF m 122 #[.val (.ref w), .val (.int (8 : Int32))] [(.int (1 : Int32)), (.ref w), (.int (1 : Int32)), (.ref b1), (.ref b1)])) rfl rfl (hb hby d1_122) _ ?_
    show Steps p.tables e below (T7.setTop (mkF m 123 #[.val (.ref w), .val (.int (8 : Int32))] [(.int c1), (.int (1 : Int32)), (.ref b1), (.ref b1)])) _
    refine st13 _ ?_
    refine XS.dup X13.here hx rfl (hb hby d1_124) rfl rfl ?_
    refine XS.iconst X13.here hx rfl (hb hby d1_125) ?_
    refine XS.aloadN X13.here hx rfl (hb hby d1_126) rfl rfl ?_
    refine XS.iconst X13.here hx rfl (hb hby d1_127) ?_
    show Steps p.tables e below (T13.setTop (mkF m 128 #[.val (.ref w), .val (.int (8 : Int32))] [(.int (2 : Int32)), (.ref w), (.int (2 : Int32)), (.ref b1), (.ref b1)])) _
    refine X13.caload hx (j := (2 : Int32)) (v := (.int c2)) (by rw [e13]; exact Ar18.1) (State.isArrayOf_alike hZ.alike Ar18.2.1) Ar18.2.2 in18 at18 (g := (mkF m 128 #[.val (.ref w), .val (.int (8 : Int32))] [(.int (2 : Int32)), (.ref w), (.int (2 : Int32)), (.ref b1), (.ref b1)])) rfl rfl (hb hby d1_128) _ ?_
    show Steps p.tables e below (T13.setTop (mkF m 129 #[.val (.ref w), .val (.int (8 : Int32))] [(.int c2), (.int (2 : Int32)), (.ref b1), (.ref b1)])) _
    refine st19 _ ?_
    refine XS.dup X19.here hx rfl (hb hby d1_130) rfl rfl ?_
    refine XS.iconst X19.here hx rfl (hb hby d1_131) ?_
    refine XS.aloadN X19.here hx rfl (hb hby d1_132) rfl rfl ?_
    refine XS.iconst X19.here hx rfl (hb hby d1_133) ?_
    show Steps p.tables e below (T19.setTop (mkF m 134 #[.val (.ref w), .val (.int (8 : Int32))] [(.int (3 : Int32)), (.ref w), (.int (3 : Int32)), (.ref b1), (.ref b1)])) _
    refine X19.caload hx (j := (3 : Int32)) (v := (.int c3)) (by rw [e19]; exact Ar24.1) (State.isArrayOf_alike hZ.alike Ar24.2.1) Ar24.2.2 in24 at24 (g := (mkF m 134 #[.val (.ref w), .val (.int (8 : Int32))] [(.int (3 : Int32)), (.ref w), (.int (3 : Int32)), (.ref b1), (.ref b1)])) rfl rfl (hb hby d1_134) _ ?_
    show Steps p.tables e below (T19.setTop (mkF m 135 #[.val (.ref w), .val (.int (8 : Int32))] [(.int c3), (.int (3 : Int32)), (.ref b1), (.ref b1)])) _
    refine st25 _ ?_
    refine XS.dup X25.here hx rfl (hb hby d1_136) rfl rfl ?_
    refine XS.iconst X25.here hx rfl (hb hby d1_137) ?_
    refine XS.aloadN X25.here hx rfl (hb hby d1_138) rfl rfl ?_
    refine XS.iconst X25.here hx rfl (hb hby d1_139) ?_
    show Steps p.tables e below (T25.setTop (mkF m 140 #[.val (.ref w), .val (.int (8 : Int32))] [(.int (4 : Int32)), (.ref w), (.int (4 : Int32)), (.ref b1), (.ref b1)])) _
    refine X25.caload hx (j := (4 : Int32)) (v := (.int c4)) (by rw [e25]; exact Ar30.1) (State.isArrayOf_alike hZ.alike Ar30.2.1) Ar30.2.2 in30 at30 (g := (mkF m 140 #[.val (.ref w), .val (.int (8 : Int32))] [(.int (4 : Int32)), (.ref w), (.int (4 : Int32)), (.ref b1), (.ref b1)])) rfl rfl (hb hby d1_140) _ ?_
    show Steps p.tables e below (T25.setTop (mkF m 141 #[.val (.ref w), .val (.int (8 : Int32))] [(.int c4), (.int (4 : Int32)), (.ref b1), (.ref b1)])) _
    refine st31 _ ?_
    refine XS.dup X31.here hx rfl (hb hby d1_142) rfl rfl ?_
    refine XS.iconst X31.here hx rfl (hb hby d1_143) ?_
    refine XS.aloadN X31.here hx rfl (hb hby d1_144) rfl rfl ?_
    refine XS.iconst X31.here hx rfl (hb hby d1_145) ?_
    show Steps p.tables e below (T31.setTop (mkF m 146 #[.val (.ref w), .val (.int (8 : Int32))] [(.int (5 : Int32)), (.ref w), (.int (5 : Int32)), (.ref b1), (.ref b1)])) _
    refine X31.caload hx (j := (5 : Int32)) (v := (.int c5)) (by rw [e31]; exact Ar36.1) (State.isArrayOf_alike hZ.alike Ar36.2.1) Ar36.2.2 in36 at36 (g := (mkF m 146 #[.val (.ref w), .val (.int (8 : Int32))] [(.int (5 : Int32)), (.ref w), (.int (5 : Int32)), (.ref b1), (.ref b1)])) rfl rfl (hb hby d1_146) _ ?_
    show Steps p.tables e below (T31.setTop (mkF m 147 #[.val (.ref w), .val (.int (8 : Int32))] [(.int c5), (.int (5 : Int32)), (.ref b1), (.ref b1)])) _
    refine st37 _ ?_
    refine XS.dup X37.here hx rfl (hb hby d1_148) rfl rfl ?_
    refine XS.bipush X37.here hx rfl (hb hby d1_149) ?_
    refine XS.aloadN X37.here hx rfl (hb hby d1_151) rfl rfl ?_
    refine XS.bipush X37.here hx rfl (hb hby d1_152) ?_
    show Steps p.tables e below (T37.setTop (mkF m 154 #[.val (.ref w), .val (.int (8 : Int32))] [(.int (6 : Int32)), (.ref w), (.int (6 : Int32)), (.ref b1), (.ref b1)])) _
    refine X37.caload hx (j := (6 : Int32)) (v := (.int c6)) (by rw [e37]; exact Ar42.1) (State.isArrayOf_alike hZ.alike Ar42.2.1) Ar42.2.2 in42 at42 (g := (mkF m 154 #[.val (.ref w), .val (.int (8 : Int32))] [(.int (6 : Int32)), (.ref w), (.int (6 : Int32)), (.ref b1), (.ref b1)])) rfl rfl (hb hby d1_154) _ ?_
    show Steps p.tables e below (T37.setTop (mkF m 155 #[.val (.ref w), .val (.int (8 : Int32))] [(.int c6), (.int (6 : Int32)), (.ref b1), (.ref b1)])) _
    refine st43 _ ?_
    refine XS.dup X43.here hx rfl (hb hby d1_156) rfl rfl ?_
    refine XS.bipush X43.here hx rfl (hb hby d1_157) ?_
    refine XS.aloadN X43.here hx rfl (hb hby d1_159) rfl rfl ?_
    refine XS.bipush X43.here hx rfl (hb hby d1_160) ?_
    show Steps p.tables e below (T43.setTop (mkF m 162 #[.val (.ref w), .val (.int (8 : Int32))] [(.int (7 : Int32)), (.ref w), (.int (7 : Int32)), (.ref b1), (.ref b1)])) _
    refine X43.caload hx (j := (7 : Int32)) (v := (.int c7)) (by rw [e43]; exact Ar48.1) (State.isArrayOf_alike hZ.alike Ar48.2.1) Ar48.2.2 in48 at48 (g := (mkF m 162 #[.val (.ref w), .val (.int (8 : Int32))] [(.int (7 : Int32)), (.ref w), (.int (7 : Int32)), (.ref b1), (.ref b1)])) rfl rfl (hb hby d1_162) _ ?_
    show Steps p.tables e below (T43.setTop (mkF m 163 #[.val (.ref w), .val (.int (8 : Int32))] [(.int c7), (.int (7 : Int32)), (.ref b1), (.ref b1)])) _
    refine st49 _ ?_
    exact kt
  obtain ⟨fs, hr, hrun, hended, hW, hsame⟩ := X49.leave (v := some (.ref b1)) (fun h => by rw [Bd.returns] at h; cases h)
  refine ⟨_, _, pre0 _ (S53 _ ?_), hrun, hended, _, _, rfl, ?_, ⟨_, rfl⟩, hW, hsame.mono (by decide) (by decide)⟩
  · exact retOut X49 hx Bd.returns rfl (Or.inr (Or.inr (Or.inr (Or.inr ⟨rfl, rfl, rfl⟩)))) (hb hby d1_164) hr
  · show Q_rm_cut8 Z w kw c0 c1 c2 c3 c4 c5 c6 c7 c8 c9 h0 n0 _ T49.heap _
    rw [e49]
    exact ⟨b1, k1, rfl, N52, K51, sz_b1, F49⟩
theorem d1_165 : decode method_4_code 165 = .ok (.iload_n 1, 1) := by decide +kernel
theorem d1_166 : decode method_4_code 166 = .ok (.bipush 9, 2) := by decide +kernel
theorem d1_168 : decode method_4_code 168 = .ok (.if_icmp .ne 68, 3) := by decide +kernel
theorem d1_171 : decode method_4_code 171 = .ok (.bipush 9, 2) := by decide +kernel
theorem d1_173 : decode method_4_code 173 = .ok (.newarray .char, 2) := by decide +kernel
theorem d1_175 : decode method_4_code 175 = .ok (.dup, 1) := by decide +kernel
theorem d1_176 : decode method_4_code 176 = .ok (.iconst 0, 1) := by decide +kernel
theorem d1_177 : decode method_4_code 177 = .ok (.aload_n 0, 1) := by decide +kernel
theorem d1_178 : decode method_4_code 178 = .ok (.iconst 0, 1) := by decide +kernel
theorem d1_179 : decode method_4_code 179 = .ok (.caload, 1) := by decide +kernel
theorem d1_180 : decode method_4_code 180 = .ok (.castore, 1) := by decide +kernel
theorem d1_181 : decode method_4_code 181 = .ok (.dup, 1) := by decide +kernel
theorem d1_182 : decode method_4_code 182 = .ok (.iconst 1, 1) := by decide +kernel
theorem d1_183 : decode method_4_code 183 = .ok (.aload_n 0, 1) := by decide +kernel
theorem d1_184 : decode method_4_code 184 = .ok (.iconst 1, 1) := by decide +kernel
theorem d1_185 : decode method_4_code 185 = .ok (.caload, 1) := by decide +kernel
theorem d1_186 : decode method_4_code 186 = .ok (.castore, 1) := by decide +kernel
theorem d1_187 : decode method_4_code 187 = .ok (.dup, 1) := by decide +kernel
theorem d1_188 : decode method_4_code 188 = .ok (.iconst 2, 1) := by decide +kernel
theorem d1_189 : decode method_4_code 189 = .ok (.aload_n 0, 1) := by decide +kernel
theorem d1_190 : decode method_4_code 190 = .ok (.iconst 2, 1) := by decide +kernel
theorem d1_191 : decode method_4_code 191 = .ok (.caload, 1) := by decide +kernel
theorem d1_192 : decode method_4_code 192 = .ok (.castore, 1) := by decide +kernel
theorem d1_193 : decode method_4_code 193 = .ok (.dup, 1) := by decide +kernel
theorem d1_194 : decode method_4_code 194 = .ok (.iconst 3, 1) := by decide +kernel
theorem d1_195 : decode method_4_code 195 = .ok (.aload_n 0, 1) := by decide +kernel
theorem d1_196 : decode method_4_code 196 = .ok (.iconst 3, 1) := by decide +kernel
theorem d1_197 : decode method_4_code 197 = .ok (.caload, 1) := by decide +kernel
theorem d1_198 : decode method_4_code 198 = .ok (.castore, 1) := by decide +kernel
theorem d1_199 : decode method_4_code 199 = .ok (.dup, 1) := by decide +kernel
theorem d1_200 : decode method_4_code 200 = .ok (.iconst 4, 1) := by decide +kernel
theorem d1_201 : decode method_4_code 201 = .ok (.aload_n 0, 1) := by decide +kernel
theorem d1_202 : decode method_4_code 202 = .ok (.iconst 4, 1) := by decide +kernel
theorem d1_203 : decode method_4_code 203 = .ok (.caload, 1) := by decide +kernel
theorem d1_204 : decode method_4_code 204 = .ok (.castore, 1) := by decide +kernel
theorem d1_205 : decode method_4_code 205 = .ok (.dup, 1) := by decide +kernel
theorem d1_206 : decode method_4_code 206 = .ok (.iconst 5, 1) := by decide +kernel
theorem d1_207 : decode method_4_code 207 = .ok (.aload_n 0, 1) := by decide +kernel
theorem d1_208 : decode method_4_code 208 = .ok (.iconst 5, 1) := by decide +kernel
theorem d1_209 : decode method_4_code 209 = .ok (.caload, 1) := by decide +kernel
theorem d1_210 : decode method_4_code 210 = .ok (.castore, 1) := by decide +kernel
theorem d1_211 : decode method_4_code 211 = .ok (.dup, 1) := by decide +kernel
theorem d1_212 : decode method_4_code 212 = .ok (.bipush 6, 2) := by decide +kernel
theorem d1_214 : decode method_4_code 214 = .ok (.aload_n 0, 1) := by decide +kernel
theorem d1_215 : decode method_4_code 215 = .ok (.bipush 6, 2) := by decide +kernel
theorem d1_217 : decode method_4_code 217 = .ok (.caload, 1) := by decide +kernel
theorem d1_218 : decode method_4_code 218 = .ok (.castore, 1) := by decide +kernel
theorem d1_219 : decode method_4_code 219 = .ok (.dup, 1) := by decide +kernel
theorem d1_220 : decode method_4_code 220 = .ok (.bipush 7, 2) := by decide +kernel
theorem d1_222 : decode method_4_code 222 = .ok (.aload_n 0, 1) := by decide +kernel
theorem d1_223 : decode method_4_code 223 = .ok (.bipush 7, 2) := by decide +kernel
theorem d1_225 : decode method_4_code 225 = .ok (.caload, 1) := by decide +kernel
theorem d1_226 : decode method_4_code 226 = .ok (.castore, 1) := by decide +kernel
theorem d1_227 : decode method_4_code 227 = .ok (.dup, 1) := by decide +kernel
theorem d1_228 : decode method_4_code 228 = .ok (.bipush 8, 2) := by decide +kernel
theorem d1_230 : decode method_4_code 230 = .ok (.aload_n 0, 1) := by decide +kernel
theorem d1_231 : decode method_4_code 231 = .ok (.bipush 8, 2) := by decide +kernel
theorem d1_233 : decode method_4_code 233 = .ok (.caload, 1) := by decide +kernel
theorem d1_234 : decode method_4_code 234 = .ok (.castore, 1) := by decide +kernel
theorem d1_235 : decode method_4_code 235 = .ok (.areturn, 1) := by decide +kernel
theorem ef_rm_cut9 (m : MethodId) (x0 : Addr) (x1 : Int32) : entryFrame m #[(.ref x0), (.int x1)] 2 = mkF m 0 #[.val (.ref x0), .val (.int x1)] [] := by first | (simp [entryFrame, mkF, argsToLocals, Value.category]; done) | rfl
def Q_rm_cut9 (Z : State) (w : Addr) (kw : ClassId) (c0 : Int32) (c1 : Int32) (c2 : Int32) (c3 : Int32) (c4 : Int32) (c5 : Int32) (c6 : Int32) (c7 : Int32) (c8 : Int32) (c9 : Int32) (h0 : Heap) (n0 : Nat) (v : Option Value) (h : Heap) (L : List Loc) : Prop := (∃ (r : Addr) (k : ClassId), (v = some (.ref r)) ∧ (Fr n0 L) ∧ (Keep h0 h []) ∧ (h0.size ≤ r) ∧ (Arv Z h r k .char (9 : Int32) [(.int c0), (.int c1), (.int c2), (.int c3), (.int c4), (.int c5), (.int c6), (.int c7), (.int c8)] (.int (0 : Int32))))
set_option maxRecDepth 65536 in
set_option maxHeartbeats 40000000 in
theorem rm_cut9 (l : Launch) (Z : State) (a0 : Array Value) (hw : ∀ d ∈ tables_1, d.before a0 Z = true) (ws : List Jvm.Cond) (w : Addr) (kw : ClassId) (c0 : Int32) (c1 : Int32) (c2 : Int32) (c3 : Int32) (c4 : Int32) (c5 : Int32) (c6 : Int32) (c7 : Int32) (c8 : Int32) (c9 : Int32) (h0 : Heap) (n0 : Nat) (O0 : Old Z n0 h0) (A_w : Arv Z h0 w kw .char (10 : Int32) [(.int c0), (.int c1), (.int c2), (.int c3), (.int c4), (.int c5), (.int c6), (.int c7), (.int c8), (.int c9)] (.int (0 : Int32))) (la_c0 : ¬ (c0 < (0 : Int32)) ∧ ¬ ((255 : Int32) < c0)) (la_c1 : ¬ (c1 < (0 : Int32)) ∧ ¬ ((255 : Int32) < c1)) (la_c2 : ¬ (c2 < (0 : Int32)) ∧ ¬ ((255 : Int32) < c2)) (la_c3 : ¬ (c3 < (0 : Int32)) ∧ ¬ ((255 : Int32) < c3)) (la_c4 : ¬ (c4 < (0 : Int32)) ∧ ¬ ((255 : Int32) < c4)) (la_c5 : ¬ (c5 < (0 : Int32)) ∧ ¬ ((255 : Int32) < c5)) (la_c6 : ¬ (c6 < (0 : Int32)) ∧ ¬ ((255 : Int32) < c6)) (la_c7 : ¬ (c7 < (0 : Int32)) ∧ ¬ ((255 : Int32) < c7)) (la_c8 : ¬ (c8 < (0 : Int32)) ∧ ¬ ((255 : Int32) < c8)) (la_c9 : ¬ (c9 < (0 : Int32)) ∧ ¬ ((255 : Int32) < c9)) :
    MetFree l (⟨"com/example/logtide/logtide/event/TemporalTextIsInfinitePinLaw", "cut", "([CI)[C"⟩ : MethodName) (head1 (Jvm.Cond.code (⟨"com/example/logtide/logtide/event/TemporalTextIsInfinitePinLaw", "cut", "([CI)[C"⟩ : MethodName) method_4_code 2 (some (.array .char)) :: ws) ({ frames := 0, cells := 1, slots := 9, locals := 0 } : Room)) (fun a U => a = #[(.ref w), (.int (9 : Int32))] ∧ Z.Warmed39 U.vm ∧ U.heap = h0) (fun _ _ _ _ _ => True) (fun _ U o U' => ∃ v L, o = .returned v ∧ Q_rm_cut9 Z w kw c0 c1 c2 c3 c4 c5 c6 c7 c8 c9 h0 n0 v U'.heap L ∧ FrameEnd U o U' L ({ frames := 0, cells := 1, slots := 9, locals := 0 } : Room).cells ({ frames := 0, cells := 1, slots := 9, locals := 0 } : Room).slots) := by
  refine MetFree.of_bodySF (plainFor_of_name pn_0) hisR ?_
  intro p e s m args below meth c s₁ Bd hml0 hP hK
  obtain ⟨rfl, hZ, hh⟩ := hP
  have hx := Bd.exec
  have hby := Bd.bytes
  have hml : c.maxLocals = 2 := hml0
  have hown : s.vm.findClass "com/example/logtide/logtide/event/TemporalTextIsInfinitePinLaw" = some m.cls := findClass_of_methodNamed Bd.named
  have hnm := (name_of_methodNamed Bd.named Bd.method).1
  have X0 : Stand p l e ({ frames := 0, cells := 1, slots := 9, locals := 0 } : Room) s m #[(.ref w), (.int (9 : Int32))] below meth c s₁ [] 0 0 := Stand.of_body Bd
  have e0 : s₁.heap = h0 := by rw [← hh, Bd.state]; rfl
  have N0 := Fr.nil n0
  have hwl : ∀ d ∈ StrChars.Road.wordsLen, d.before a0 Z = true := fun d hd => hw d (own_wordsLen d hd)
  have hwc : ∀ d ∈ StrChars.Road.wordsChN, d.before a0 Z = true := fun d hd => hw d (own_wordsChN d hd)
  have hwq : ∀ d ∈ StrChars.Road.wordsEq, d.before a0 Z = true := fun d hd => hw d (own_wordsEq d hd)
  have hws : ∀ d ∈ StrChars.Road.words, d.before a0 Z = true := fun d hd => hw d (own_words d hd)
  have K0 : Keep h0 h0 [] := Keep.refl _ _
  have pre0 : ∀ t, Steps p.tables e below (s₁.setTop (mkF m 0 #[.val (.ref w), .val (.int (9 : Int32))] [])) t → Steps p.tables e below (s₁.setTop (entryFrame m #[(.ref w), (.int (9 : Int32))] 2)) t := fun t k => castTop (ef_rm_cut9 m w (9 : Int32)) k
  obtain ⟨T1, h1, k1, X1, e1, E1, A1, B1, st1⟩ := newPE X0 hx hZ (own_w hw 9 rfl) e0 (g := (mkF m 173 #[.val (.ref w), .val (.int (9 : Int32))] [(.int (9 : Int32))])) rfl (hb hby d1_173) rfl (by decide) (cap := 9) (by decide) (by decide) (by decide) (by decide) (ad := "[C") (by first | rfl | decide)
  obtain ⟨b1, g1⟩ : ∃ z, z = h0.size := ⟨_, rfl⟩
  have ge_b1 : n0 ≤ b1 := by rw [g1, ← O0.1]; exact O0.2.1
  have sz_b1 : h0.size ≤ b1 := by rw [g1]; exact K0.1
  have ne2 : w ≠ b1 := Nat.ne_of_lt (Nat.lt_of_lt_of_le (Arv.lt A_w) (Nat.le_of_eq g1.symm))
  rw [← g1] at A1 B1 st1
  have O3 := O0.ext E1
  have K4 : Keep h0 h1 [] := K0.ext E1
  have F1 : Arv Z h1 b1 k1 .char (9 : Int32) [(.int (0 : Int32)), (.int (0 : Int32)), (.int (0 : Int32)), (.int (0 : Int32)), (.int (0 : Int32)), (.int (0 : Int32)), (.int (0 : Int32)), (.int (0 : Int32)), (.int (0 : Int32))] (.int (0 : Int32)) := (Arv.new A1 (by decide)).pad (pad_rep [] (.int (0 : Int32)) 9)
  have f5 := (Arv.ext A_w E1)
  obtain ⟨cl6, Ar6, q6, Sz6, Nn6, Hh6, Gg6⟩ := id f5
  have in6 : ¬ ((0 : Int32) < 0 ∨ cl6.slots.size ≤ ((0 : Int32)).toNatClampNeg) := by exact inb_of Sz6 ⟨by decide, by decide⟩
  have at6 : cl6.slots[((0 : Int32)).toNatClampNeg]? = some (.int c0) := by
    refine Has.at Hh6 in6 ?_
    rfl
  obtain ⟨cl7, Ar7, q7, Sz7, Nn7, Hh7, Gg7⟩ := id F1
  have in7 : ¬ ((0 : Int32) < 0 ∨ cl7.slots.size ≤ ((0 : Int32)).toNatClampNeg) := inb_of Sz7 ⟨by decide, by decide⟩
  obtain ⟨T7, h7, X7, e7, W7, st7⟩ := stC X1 hx hZ e1 Ar7 (j := (0 : Int32)) in7 (g := (mkF m 180 #[.val (.ref w), .val (.int (9 : Int32))] [(.int c0), (.int (0 : Int32)), (.ref b1), (.ref b1)])) rfl rfl (hb hby d1_180)
  rw [show nar .char c0 = c0 from own_nar la_c0] at W7
  have O8 := O3.wr W7 ge_b1
  have K9 : Keep h0 h7 [] := K4.wr W7 (Or.inr sz_b1)
  have N10 := Fr.snoc X7 N0 ge_b1
  have F7 : Arv Z h7 b1 k1 .char (9 : Int32) [(.int c0), (.int (0 : Int32)), (.int (0 : Int32)), (.int (0 : Int32)), (.int (0 : Int32)), (.int (0 : Int32)), (.int (0 : Int32)), (.int (0 : Int32)), (.int (0 : Int32))] (.int (0 : Int32)) := Arv.set Ar7 q7 Sz7 Nn7 Hh7 Gg7 (by rw [← (own_nar la_c0 : nar .char c0 = c0)]; exact fits_nar_char _) W7 0 rfl (Nat.le_of_ble_eq_true rfl)
  have f11 := (Arv.other f5 W7 ne2)
  obtain ⟨cl12, Ar12, q12, Sz12, Nn12, Hh12, Gg12⟩ := id f11
  have in12 : ¬ ((1 : Int32) < 0 ∨ cl12.slots.size ≤ ((1 : Int32)).toNatClampNeg) := by exact inb_of Sz12 ⟨by decide, by decide⟩
  have at12 : cl12.slots[((1 : Int32)).toNatClampNeg]? = some (.int c1) := by
    refine Has.at Hh12 in12 ?_
    rfl
  obtain ⟨cl13, Ar13, q13, Sz13, Nn13, Hh13, Gg13⟩ := id F7
  have in13 : ¬ ((1 : Int32) < 0 ∨ cl13.slots.size ≤ ((1 : Int32)).toNatClampNeg) := inb_of Sz13 ⟨by decide, by decide⟩
  obtain ⟨T13, h13, X13, e13, W13, st13⟩ := stC X7 hx hZ e7 Ar13 (j := (1 : Int32)) in13 (g := (mkF m 186 #[.val (.ref w), .val (.int (9 : Int32))] [(.int c1), (.int (1 : Int32)), (.ref b1), (.ref b1)])) rfl rfl (hb hby d1_186)
  rw [show nar .char c1 = c1 from own_nar la_c1] at W13
  have O14 := O8.wr W13 ge_b1
  have K15 : Keep h0 h13 [] := K9.wr W13 (Or.inr sz_b1)
  have N16 := Fr.snoc X13 N10 ge_b1
  have F13 : Arv Z h13 b1 k1 .char (9 : Int32) [(.int c0), (.int c1), (.int (0 : Int32)), (.int (0 : Int32)), (.int (0 : Int32)), (.int (0 : Int32)), (.int (0 : Int32)), (.int (0 : Int32)), (.int (0 : Int32))] (.int (0 : Int32)) := Arv.set Ar13 q13 Sz13 Nn13 Hh13 Gg13 (by rw [← (own_nar la_c1 : nar .char c1 = c1)]; exact fits_nar_char _) W13 1 rfl (Nat.le_of_ble_eq_true rfl)
  have f17 := (Arv.other f11 W13 ne2)
  obtain ⟨cl18, Ar18, q18, Sz18, Nn18, Hh18, Gg18⟩ := id f17
  have in18 : ¬ ((2 : Int32) < 0 ∨ cl18.slots.size ≤ ((2 : Int32)).toNatClampNeg) := by exact inb_of Sz18 ⟨by decide, by decide⟩
  have at18 : cl18.slots[((2 : Int32)).toNatClampNeg]? = some (.int c2) := by
    refine Has.at Hh18 in18 ?_
    rfl
  obtain ⟨cl19, Ar19, q19, Sz19, Nn19, Hh19, Gg19⟩ := id F13
  have in19 : ¬ ((2 : Int32) < 0 ∨ cl19.slots.size ≤ ((2 : Int32)).toNatClampNeg) := inb_of Sz19 ⟨by decide, by decide⟩
  obtain ⟨T19, h19, X19, e19, W19, st19⟩ := stC X13 hx hZ e13 Ar19 (j := (2 : Int32)) in19 (g := (mkF m 192 #[.val (.ref w), .val (.int (9 : Int32))] [(.int c2), (.int (2 : Int32)), (.ref b1), (.ref b1)])) rfl rfl (hb hby d1_192)
  rw [show nar .char c2 = c2 from own_nar la_c2] at W19
  have O20 := O14.wr W19 ge_b1
  have K21 : Keep h0 h19 [] := K15.wr W19 (Or.inr sz_b1)
  have N22 := Fr.snoc X19 N16 ge_b1
  have F19 : Arv Z h19 b1 k1 .char (9 : Int32) [(.int c0), (.int c1), (.int c2), (.int (0 : Int32)), (.int (0 : Int32)), (.int (0 : Int32)), (.int (0 : Int32)), (.int (0 : Int32)), (.int (0 : Int32))] (.int (0 : Int32)) := Arv.set Ar19 q19 Sz19 Nn19 Hh19 Gg19 (by rw [← (own_nar la_c2 : nar .char c2 = c2)]; exact fits_nar_char _) W19 2 rfl (Nat.le_of_ble_eq_true rfl)
  have f23 := (Arv.other f17 W19 ne2)
  obtain ⟨cl24, Ar24, q24, Sz24, Nn24, Hh24, Gg24⟩ := id f23
  have in24 : ¬ ((3 : Int32) < 0 ∨ cl24.slots.size ≤ ((3 : Int32)).toNatClampNeg) := by exact inb_of Sz24 ⟨by decide, by decide⟩
  have at24 : cl24.slots[((3 : Int32)).toNatClampNeg]? = some (.int c3) := by
    refine Has.at Hh24 in24 ?_
    rfl
  obtain ⟨cl25, Ar25, q25, Sz25, Nn25, Hh25, Gg25⟩ := id F19
  have in25 : ¬ ((3 : Int32) < 0 ∨ cl25.slots.size ≤ ((3 : Int32)).toNatClampNeg) := inb_of Sz25 ⟨by decide, by decide⟩
  obtain ⟨T25, h25, X25, e25, W25, st25⟩ := stC X19 hx hZ e19 Ar25 (j := (3 : Int32)) in25 (g := (mkF m 198 #[.val (.ref w), .val (.int (9 : Int32))] [(.int c3), (.int (3 : Int32)), (.ref b1), (.ref b1)])) rfl rfl (hb hby d1_198)
  rw [show nar .char c3 = c3 from own_nar la_c3] at W25
  have O26 := O20.wr W25 ge_b1
  have K27 : Keep h0 h25 [] := K21.wr W25 (Or.inr sz_b1)
  have N28 := Fr.snoc X25 N22 ge_b1
  have F25 : Arv Z h25 b1 k1 .char (9 : Int32) [(.int c0), (.int c1), (.int c2), (.int c3), (.int (0 : Int32)), (.int (0 : Int32)), (.int (0 : Int32)), (.int (0 : Int32)), (.int (0 : Int32))] (.int (0 : Int32)) := Arv.set Ar25 q25 Sz25 Nn25 Hh25 Gg25 (by rw [← (own_nar la_c3 : nar .char c3 = c3)]; exact fits_nar_char _) W25 3 rfl (Nat.le_of_ble_eq_true rfl)
  have f29 := (Arv.other f23 W25 ne2)
  obtain ⟨cl30, Ar30, q30, Sz30, Nn30, Hh30, Gg30⟩ := id f29
  have in30 : ¬ ((4 : Int32) < 0 ∨ cl30.slots.size ≤ ((4 : Int32)).toNatClampNeg) := by exact inb_of Sz30 ⟨by decide, by decide⟩
  have at30 : cl30.slots[((4 : Int32)).toNatClampNeg]? = some (.int c4) := by
    refine Has.at Hh30 in30 ?_
    rfl
  obtain ⟨cl31, Ar31, q31, Sz31, Nn31, Hh31, Gg31⟩ := id F25
  have in31 : ¬ ((4 : Int32) < 0 ∨ cl31.slots.size ≤ ((4 : Int32)).toNatClampNeg) := inb_of Sz31 ⟨by decide, by decide⟩
  obtain ⟨T31, h31, X31, e31, W31, st31⟩ := stC X25 hx hZ e25 Ar31 (j := (4 : Int32)) in31 (g := (mkF m 204 #[.val (.ref w), .val (.int (9 : Int32))] [(.int c4), (.int (4 : Int32)), (.ref b1), (.ref b1)])) rfl rfl (hb hby d1_204)
  rw [show nar .char c4 = c4 from own_nar la_c4] at W31
  have O32 := O26.wr W31 ge_b1
  have K33 : Keep h0 h31 [] := K27.wr W31 (Or.inr sz_b1)
  have N34 := Fr.snoc X31 N28 ge_b1
  have F31 : Arv Z h31 b1 k1 .char (9 : Int32) [(.int c0), (.int c1), (.int c2), (.int c3), (.int c4), (.int (0 : Int32)), (.int (0 : Int32)), (.int (0 : Int32)), (.int (0 : Int32))] (.int (0 : Int32)) := Arv.set Ar31 q31 Sz31 Nn31 Hh31 Gg31 (by rw [← (own_nar la_c4 : nar .char c4 = c4)]; exact fits_nar_char _) W31 4 rfl (Nat.le_of_ble_eq_true rfl)
  have f35 := (Arv.other f29 W31 ne2)
  obtain ⟨cl36, Ar36, q36, Sz36, Nn36, Hh36, Gg36⟩ := id f35
  have in36 : ¬ ((5 : Int32) < 0 ∨ cl36.slots.size ≤ ((5 : Int32)).toNatClampNeg) := by exact inb_of Sz36 ⟨by decide, by decide⟩
  have at36 : cl36.slots[((5 : Int32)).toNatClampNeg]? = some (.int c5) := by
    refine Has.at Hh36 in36 ?_
    rfl
  obtain ⟨cl37, Ar37, q37, Sz37, Nn37, Hh37, Gg37⟩ := id F31
  have in37 : ¬ ((5 : Int32) < 0 ∨ cl37.slots.size ≤ ((5 : Int32)).toNatClampNeg) := inb_of Sz37 ⟨by decide, by decide⟩
  obtain ⟨T37, h37, X37, e37, W37, st37⟩ := stC X31 hx hZ e31 Ar37 (j := (5 : Int32)) in37 (g := (mkF m 210 #[.val (.ref w), .val (.int (9 : Int32))] [(.int c5), (.int (5 : Int32)), (.ref b1), (.ref b1)])) rfl rfl (hb hby d1_210)
  rw [show nar .char c5 = c5 from own_nar la_c5] at W37
  have O38 := O32.wr W37 ge_b1
  have K39 : Keep h0 h37 [] := K33.wr W37 (Or.inr sz_b1)
  have N40 := Fr.snoc X37 N34 ge_b1
  have F37 : Arv Z h37 b1 k1 .char (9 : Int32) [(.int c0), (.int c1), (.int c2), (.int c3), (.int c4), (.int c5), (.int (0 : Int32)), (.int (0 : Int32)), (.int (0 : Int32))] (.int (0 : Int32)) := Arv.set Ar37 q37 Sz37 Nn37 Hh37 Gg37 (by rw [← (own_nar la_c5 : nar .char c5 = c5)]; exact fits_nar_char _) W37 5 rfl (Nat.le_of_ble_eq_true rfl)
  have f41 := (Arv.other f35 W37 ne2)
  obtain ⟨cl42, Ar42, q42, Sz42, Nn42, Hh42, Gg42⟩ := id f41
  have in42 : ¬ ((6 : Int32) < 0 ∨ cl42.slots.size ≤ ((6 : Int32)).toNatClampNeg) := by exact inb_of Sz42 ⟨by decide, by decide⟩
  have at42 : cl42.slots[((6 : Int32)).toNatClampNeg]? = some (.int c6) := by
    refine Has.at Hh42 in42 ?_
    rfl
  obtain ⟨cl43, Ar43, q43, Sz43, Nn43, Hh43, Gg43⟩ := id F37
  have in43 : ¬ ((6 : Int32) < 0 ∨ cl43.slots.size ≤ ((6 : Int32)).toNatClampNeg) := inb_of Sz43 ⟨by decide, by decide⟩
  obtain ⟨T43, h43, X43, e43, W43, st43⟩ := stC X37 hx hZ e37 Ar43 (j := (6 : Int32)) in43 (g := (mkF m 218 #[.val (.ref w), .val (.int (9 : Int32))] [(.int c6), (.int (6 : Int32)), (.ref b1), (.ref b1)])) rfl rfl (hb hby d1_218)
  rw [show nar .char c6 = c6 from own_nar la_c6] at W43
  have O44 := O38.wr W43 ge_b1
  have K45 : Keep h0 h43 [] := K39.wr W43 (Or.inr sz_b1)
  have N46 := Fr.snoc X43 N40 ge_b1
  have F43 : Arv Z h43 b1 k1 .char (9 : Int32) [(.int c0), (.int c1), (.int c2), (.int c3), (.int c4), (.int c5), (.int c6), (.int (0 : Int32)), (.int (0 : Int32))] (.int (0 : Int32)) := Arv.set Ar43 q43 Sz43 Nn43 Hh43 Gg43 (by rw [← (own_nar la_c6 : nar .char c6 = c6)]; exact fits_nar_char _) W43 6 rfl (Nat.le_of_ble_eq_true rfl)
  have f47 := (Arv.other f41 W43 ne2)
  obtain ⟨cl48, Ar48, q48, Sz48, Nn48, Hh48, Gg48⟩ := id f47
  have in48 : ¬ ((7 : Int32) < 0 ∨ cl48.slots.size ≤ ((7 : Int32)).toNatClampNeg) := by exact inb_of Sz48 ⟨by decide, by decide⟩
  have at48 : cl48.slots[((7 : Int32)).toNatClampNeg]? = some (.int c7) := by
    refine Has.at Hh48 in48 ?_
    rfl
  obtain ⟨cl49, Ar49, q49, Sz49, Nn49, Hh49, Gg49⟩ := id F43
  have in49 : ¬ ((7 : Int32) < 0 ∨ cl49.slots.size ≤ ((7 : Int32)).toNatClampNeg) := inb_of Sz49 ⟨by decide, by decide⟩
  obtain ⟨T49, h49, X49, e49, W49, st49⟩ := stC X43 hx hZ e43 Ar49 (j := (7 : Int32)) in49 (g := (mkF m 226 #[.val (.ref w), .val (.int (9 : Int32))] [(.int c7), (.int (7 : Int32)), (.ref b1), (.ref b1)])) rfl rfl (hb hby d1_226)
  rw [show nar .char c7 = c7 from own_nar la_c7] at W49
  have O50 := O44.wr W49 ge_b1
  have K51 : Keep h0 h49 [] := K45.wr W49 (Or.inr sz_b1)
  have N52 := Fr.snoc X49 N46 ge_b1
  have F49 : Arv Z h49 b1 k1 .char (9 : Int32) [(.int c0), (.int c1), (.int c2), (.int c3), (.int c4), (.int c5), (.int c6), (.int c7), (.int (0 : Int32))] (.int (0 : Int32)) := Arv.set Ar49 q49 Sz49 Nn49 Hh49 Gg49 (by rw [← (own_nar la_c7 : nar .char c7 = c7)]; exact fits_nar_char _) W49 7 rfl (Nat.le_of_ble_eq_true rfl)
  have f53 := (Arv.other f47 W49 ne2)
  obtain ⟨cl54, Ar54, q54, Sz54, Nn54, Hh54, Gg54⟩ := id f53
  have in54 : ¬ ((8 : Int32) < 0 ∨ cl54.slots.size ≤ ((8 : Int32)).toNatClampNeg) := by exact inb_of Sz54 ⟨by decide, by decide⟩
  have at54 : cl54.slots[((8 : Int32)).toNatClampNeg]? = some (.int c8) := by
    refine Has.at Hh54 in54 ?_
    rfl
  obtain ⟨cl55, Ar55, q55, Sz55, Nn55, Hh55, Gg55⟩ := id F49
  have in55 : ¬ ((8 : Int32) < 0 ∨ cl55.slots.size ≤ ((8 : Int32)).toNatClampNeg) := inb_of Sz55 ⟨by decide, by decide⟩
  obtain ⟨T55, h55, X55, e55, W55, st55⟩ := stC X49 hx hZ e49 Ar55 (j := (8 : Int32)) in55 (g := (mkF m 234 #[.val (.ref w), .val (.int (9 : Int32))] [(.int c8), (.int (8 : Int32)), (.ref b1), (.ref b1)])) rfl rfl (hb hby d1_234)
  rw [show nar .char c8 = c8 from own_nar la_c8] at W55
  have O56 := O50.wr W55 ge_b1
  have K57 : Keep h0 h55 [] := K51.wr W55 (Or.inr sz_b1)
  have N58 := Fr.snoc X55 N52 ge_b1
  have F55 : Arv Z h55 b1 k1 .char (9 : Int32) [(.int c0), (.int c1), (.int c2), (.int c3), (.int c4), (.int c5), (.int c6), (.int c7), (.int c8)] (.int (0 : Int32)) := Arv.set Ar55 q55 Sz55 Nn55 Hh55 Gg55 (by rw [← (own_nar la_c8 : nar .char c8 = c8)]; exact fits_nar_char _) W55 8 rfl (Nat.le_of_ble_eq_true rfl)
  have S59 : ∀ t, Steps p.tables e below (T55.setTop (mkF m 235 #[.val (.ref w), .val (.int (9 : Int32))] [(.ref b1)])) t → Steps p.tables e below (s₁.setTop (mkF m 0 #[.val (.ref w), .val (.int (9 : Int32))] [])) t := by
    intro t kt
    refine XS.iloadN X0.here hx rfl (hb hby d1_0) rfl ?_
    refine XS.bipush X0.here hx rfl (hb hby d1_1) ?_
    refine XS.icmpYes X0.here hx rfl (pc0 := 3) (pc' := 47) rfl (hb hby d1_3) rfl (feq ((by decide) : ¬ ((9 : Int32) = (6 : Int32)))).2 (by decide) (by decide) ?_
    refine XS.iloadN X0.here hx rfl (hb hby d1_47) rfl ?_
    refine XS.bipush X0.here hx rfl (hb hby d1_48) ?_
    refine XS.icmpYes X0.here hx rfl (pc0 := 50) (pc' := 102) rfl (hb hby d1_50) rfl (feq ((by decide) : ¬ ((9 : Int32) = (7 : Int32)))).2 (by decide) (by decide) ?_
    show Steps p.tables e below (s₁.setTop (mkF m 102 #[.val (.ref w), .val (.int (9 : Int32))] [])) _
    refine XS.iloadN X0.here hx rfl (hb hby d1_102) rfl ?_
    refine XS.bipush X0.here hx rfl (hb hby d1_103) ?_
    refine XS.icmpYes X0.here hx rfl (pc0 := 105) (pc' := 165) rfl (hb hby d1_105) rfl (feq ((by decide) : ¬ ((9 : Int32) = (8 : Int32)))).2 (by decide) (by decide) ?_
    refine XS.iloadN X0.here hx rfl (hb hby d1_165) rfl ?_
    refine XS.bipush X0.here hx rfl (hb hby d1_166) ?_
    refine XS.icmpNo X0.here hx rfl (hb hby d1_168) rfl (teq ((by decide) : (9 : Int32) = (9 : Int32))).2 ?_
    show Steps p.tables e below (s₁.setTop (mkF m 171 #[.val (.ref w), .val (.int (9 : Int32))] [])) _
    refine XS.bipush X0.here hx rfl (hb hby d1_171) ?_
    show Steps p.tables e below (s₁.setTop (mkF m 173 #[.val (.ref w), .val (.int (9 : Int32))] [(.int (9 : Int32))])) _
    refine st1 _ ?_
    refine XS.dup X1.here hx rfl (hb hby d1_175) rfl rfl ?_
    refine XS.iconst X1.here hx rfl (hb hby d1_176) ?_
    refine XS.aloadN X1.here hx rfl (hb hby d1_177) rfl rfl ?_
    refine XS.iconst X1.here hx rfl (hb hby d1_178) ?_
    show Steps p.tables e below (T1.setTop (mkF m 179 #[.val (.ref w), .val (.int (9 : Int32))] [(.int (0 : Int32)), (.ref w), (.int (0 : Int32)), (.ref b1), (.ref b1)])) _
    refine X1.caload hx (j := (0 : Int32)) (v := (.int c0)) (by rw [e1]; exact Ar6.1) (State.isArrayOf_alike hZ.alike Ar6.2.1) Ar6.2.2 in6 at6 (g := (mkF m 179 #[.val (.ref w), .val (.int (9 : Int32))] [(.int (0 : Int32)), (.ref w), (.int (0 : Int32)), (.ref b1), (.ref b1)])) rfl rfl (hb hby d1_179) _ ?_
    show Steps p.tables e below (T1.setTop (mkF m 180 #[.val (.ref w), .val (.int (9 : Int32))] [(.int c0), (.int (0 : Int32)), (.ref b1), (.ref b1)])) _
    refine st7 _ ?_
    refine XS.dup X7.here hx rfl (hb hby d1_181) rfl rfl ?_
    refine XS.iconst X7.here hx rfl (hb hby d1_182) ?_
    refine XS.aloadN X7.here hx rfl (hb hby d1_183) rfl rfl ?_
    refine XS.iconst X7.here hx rfl (hb hby d1_184) ?_
    show Steps p.tables e below (T7.setTop (mkF m 185 #[.val (.ref w), .val (.int (9 : Int32))] [(.int (1 : Int32)), (.ref w), (.int (1 : Int32)), (.ref b1), (.ref b1)])) _
    refine X7.caload hx (j := (1 : Int32)) (v := (.int c1)) (by rw [e7]; exact Ar12.1) (State.isArrayOf_alike hZ.alike Ar12.2.1) Ar12.2.2 in12 at12 (g := (mkF m 185 #[.val (.ref w), .val (.int (9 : Int32))] [(.int (1 : Int32)), (.ref w), (.int (1 : Int32)), (.ref b1), (.ref b1)])) rfl rfl (hb hby d1_185) _ ?_
    show Steps p.tables e below (T7.setTop (mkF m 186 #[.val (.ref w), .val (.int (9 : Int32))] [(.int c1), (.int (1 : Int32)), (.ref b1), (.ref b1)])) _
    refine st13 _ ?_
    refine XS.dup X13.here hx rfl (hb hby d1_187) rfl rfl ?_
    refine XS.iconst X13.here hx rfl (hb hby d1_188) ?_
    refine XS.aloadN X13.here hx rfl (hb hby d1_189) rfl rfl ?_
    refine XS.iconst X13.here hx rfl (hb hby d1_190) ?_
    show Steps p.tables e below (T13.setTop (mkF m 191 #[.val (.ref w), .val (.int (9 : Int32))] [(.int (2 : Int32)), (.ref w), (.int (2 : Int32)), (.ref b1), (.ref b1)])) _
    refine X13.caload hx (j := (2 : Int32)) (v := (.int c2)) (by rw [e13]; exact Ar18.1) (State.isArrayOf_alike hZ.alike Ar18.2.1) Ar18.2.2 in18 at18 (g := (mkF m 191 #[.val (.ref w), .val (.int (9 : Int32))] [(.int (2 : Int32)), (.ref w), (.int (2 : Int32)), (.ref b1), (.ref b1)])) rfl rfl (hb hby d1_191) _ ?_
    show Steps p.tables e below (T13.setTop (mkF m 192 #[.val (.ref w), .val (.int (9 : Int32))] [(.int c2), (.int (2 : Int32)), (.ref b1), (.ref b1)])) _
    refine st19 _ ?_
    refine XS.dup X19.here hx rfl (hb hby d1_193) rfl rfl ?_
    refine XS.iconst X19.here hx rfl (hb hby d1_194) ?_
    refine XS.aloadN X19.here hx rfl (hb hby d1_195) rfl rfl ?_
    refine XS.iconst X19.here hx rfl (hb hby d1_196) ?_
    show Steps p.tables e below (T19.setTop (mkF m 197 #[.val (.ref w), .val (.int (9 : Int32))] [(.int (3 : Int32)), (.ref w), (.int (3 : Int32)), (.ref b1), (.ref b1)])) _
    refine X19.caload hx (j := (3 : Int32)) (v := (.int c3)) (by rw [e19]; exact Ar24.1) (State.isArrayOf_alike hZ.alike Ar24.2.1) Ar24.2.2 in24 at24 (g := (mkF m 197 #[.val (.ref w), .val (.int (9 : Int32))] [(.int (3 : Int32)), (.ref w), (.int (3 : Int32)), (.ref b1), (.ref b1)])) rfl rfl (hb hby d1_197) _ ?_
    show Steps p.tables e below (T19.setTop (mkF m 198 #[.val (.ref w), .val (.int (9 : Int32))] [(.int c3), (.int (3 : Int32)), (.ref b1), (.ref b1)])) _
    refine st25 _ ?_
    refine XS.dup X25.here hx rfl (hb hby d1_199) rfl rfl ?_
    refine XS.iconst X25.here hx rfl (hb hby d1_200) ?_
    refine XS.aloadN X25.here hx rfl (hb hby d1_201) rfl rfl ?_
    refine XS.iconst X25.here hx rfl (hb hby d1_202) ?_
    show Steps p.tables e below (T25.setTop (mkF m 203 #[.val (.ref w), .val (.int (9 : Int32))] [(.int (4 : Int32)), (.ref w), (.int (4 : Int32)), (.ref b1), (.ref b1)])) _
    refine X25.caload hx (j := (4 : Int32)) (v := (.int c4)) (by rw [e25]; exact Ar30.1) (State.isArrayOf_alike hZ.alike Ar30.2.1) Ar30.2.2 in30 at30 (g := (mkF m 203 #[.val (.ref w), .val (.int (9 : Int32))] [(.int (4 : Int32)), (.ref w), (.int (4 : Int32)), (.ref b1), (.ref b1)])) rfl rfl (hb hby d1_203) _ ?_
    show Steps p.tables e below (T25.setTop (mkF m 204 #[.val (.ref w), .val (.int (9 : Int32))] [(.int c4), (.int (4 : Int32)), (.ref b1), (.ref b1)])) _
    refine st31 _ ?_
    refine XS.dup X31.here hx rfl (hb hby d1_205) rfl rfl ?_
    refine XS.iconst X31.here hx rfl (hb hby d1_206) ?_
    refine XS.aloadN X31.here hx rfl (hb hby d1_207) rfl rfl ?_
    refine XS.iconst X31.here hx rfl (hb hby d1_208) ?_
    show Steps p.tables e below (T31.setTop (mkF m 209 #[.val (.ref w), .val (.int (9 : Int32))] [(.int (5 : Int32)), (.ref w), (.int (5 : Int32)), (.ref b1), (.ref b1)])) _
    refine X31.caload hx (j := (5 : Int32)) (v := (.int c5)) (by rw [e31]; exact Ar36.1) (State.isArrayOf_alike hZ.alike Ar36.2.1) Ar36.2.2 in36 at36 (g := (mkF m 209 #[.val (.ref w), .val (.int (9 : Int32))] [(.int (5 : Int32)), (.ref w), (.int (5 : Int32)), (.ref b1), (.ref b1)])) rfl rfl (hb hby d1_209) _ ?_
    show Steps p.tables e below (T31.setTop (mkF m 210 #[.val (.ref w), .val (.int (9 : Int32))] [(.int c5), (.int (5 : Int32)), (.ref b1), (.ref b1)])) _
    refine st37 _ ?_
    refine XS.dup X37.here hx rfl (hb hby d1_211) rfl rfl ?_
    refine XS.bipush X37.here hx rfl (hb hby d1_212) ?_
    refine XS.aloadN X37.here hx rfl (hb hby d1_214) rfl rfl ?_
    refine XS.bipush X37.here hx rfl (hb hby d1_215) ?_
    show Steps p.tables e below (T37.setTop (mkF m 217 #[.val (.ref w), .val (.int (9 : Int32))] [(.int (6 : Int32)), (.ref w), (.int (6 : Int32)), (.ref b1), (.ref b1)])) _
    refine X37.caload hx (j := (6 : Int32)) (v := (.int c6)) (by rw [e37]; exact Ar42.1) (State.isArrayOf_alike hZ.alike Ar42.2.1) Ar42.2.2 in42 at42 (g := (mkF m 217 #[.val (.ref w), .val (.int (9 : Int32))] [(.int (6 : Int32)), (.ref w), (.int (6 : Int32)), (.ref b1), (.ref b1)])) rfl rfl (hb hby d1_217) _ ?_
    show Steps p.tables e below (T37.setTop (mkF m 218 #[.val (.ref w), .val (.int (9 : Int32))] [(.int c6), (.int (6 : Int32)), (.ref b1), (.ref b1)])) _
    refine st43 _ ?_
    refine XS.dup X43.here hx rfl (hb hby d1_219) rfl rfl ?_
    refine XS.bipush X43.here hx rfl (hb hby d1_220) ?_
    refine XS.aloadN X43.here hx rfl (hb hby d1_222) rfl rfl ?_
    refine XS.bipush X43.here hx rfl (hb hby d1_223) ?_
    show Steps p.tables e below (T43.setTop (mkF m 225 #[.val (.ref w), .val (.int (9 : Int32))] [(.int (7 : Int32)), (.ref w), (.int (7 : Int32)), (.ref b1), (.ref b1)])) _
    refine X43.caload hx (j := (7 : Int32)) (v := (.int c7)) (by rw [e43]; exact Ar48.1) (State.isArrayOf_alike hZ.alike Ar48.2.1) Ar48.2.2 in48 at48 (g := (mkF m 225 #[.val (.ref w), .val (.int (9 : Int32))] [(.int (7 : Int32)), (.ref w), (.int (7 : Int32)), (.ref b1), (.ref b1)])) rfl rfl (hb hby d1_225) _ ?_
    show Steps p.tables e below (T43.setTop (mkF m 226 #[.val (.ref w), .val (.int (9 : Int32))] [(.int c7), (.int (7 : Int32)), (.ref b1), (.ref b1)])) _
    refine st49 _ ?_
    refine XS.dup X49.here hx rfl (hb hby d1_227) rfl rfl ?_
    refine XS.bipush X49.here hx rfl (hb hby d1_228) ?_
    refine XS.aloadN X49.here hx rfl (hb hby d1_230) rfl rfl ?_
    refine XS.bipush X49.here hx rfl (hb hby d1_231) ?_
    show Steps p.tables e below (T49.setTop (mkF m 233 #[.val (.ref w), .val (.int (9 : Int32))] [(.int (8 : Int32)), (.ref w), (.int (8 : Int32)), (.ref b1), (.ref b1)])) _
    refine X49.caload hx (j := (8 : Int32)) (v := (.int c8)) (by rw [e49]; exact Ar54.1) (State.isArrayOf_alike hZ.alike Ar54.2.1) Ar54.2.2 in54 at54 (g := (mkF m 233 #[.val (.ref w), .val (.int (9 : Int32))] [(.int (8 : Int32)), (.ref w), (.int (8 : Int32)), (.ref b1), (.ref b1)])) rfl rfl (hb hby d1_233) _ ?_
    show Steps p.tables e below (T49.setTop (mkF m 234 #[.val (.ref w), .val (.int (9 : Int32))] [(.int c8), (.int (8 : Int32)), (.ref b1), (.ref b1)])) _
    refine st55 _ ?_
    exact kt
  obtain ⟨fs, hr, hrun, hended, hW, hsame⟩ := X55.leave (v := some (.ref b1)) (fun h => by rw [Bd.returns] at h; cases h)
  refine ⟨_, _, pre0 _ (S59 _ ?_), hrun, hended, _, _, rfl, ?_, ⟨_, rfl⟩, hW, hsame.mono (by decide) (by decide)⟩
  · exact retOut X55 hx Bd.returns rfl (Or.inr (Or.inr (Or.inr (Or.inr ⟨rfl, rfl, rfl⟩)))) (hb hby d1_235) hr
  · show Q_rm_cut9 Z w kw c0 c1 c2 c3 c4 c5 c6 c7 c8 c9 h0 n0 _ T55.heap _
    rw [e55]
    exact ⟨b1, k1, rfl, N58, K57, sz_b1, F55⟩
theorem d1_236 : decode method_4_code 236 = .ok (.bipush 10, 2) := by decide +kernel
theorem d1_238 : decode method_4_code 238 = .ok (.newarray .char, 2) := by decide +kernel
theorem d1_240 : decode method_4_code 240 = .ok (.dup, 1) := by decide +kernel
theorem d1_241 : decode method_4_code 241 = .ok (.iconst 0, 1) := by decide +kernel
theorem d1_242 : decode method_4_code 242 = .ok (.aload_n 0, 1) := by decide +kernel
theorem d1_243 : decode method_4_code 243 = .ok (.iconst 0, 1) := by decide +kernel
theorem d1_244 : decode method_4_code 244 = .ok (.caload, 1) := by decide +kernel
theorem d1_245 : decode method_4_code 245 = .ok (.castore, 1) := by decide +kernel
theorem d1_246 : decode method_4_code 246 = .ok (.dup, 1) := by decide +kernel
theorem d1_247 : decode method_4_code 247 = .ok (.iconst 1, 1) := by decide +kernel
theorem d1_248 : decode method_4_code 248 = .ok (.aload_n 0, 1) := by decide +kernel
theorem d1_249 : decode method_4_code 249 = .ok (.iconst 1, 1) := by decide +kernel
theorem d1_250 : decode method_4_code 250 = .ok (.caload, 1) := by decide +kernel
theorem d1_251 : decode method_4_code 251 = .ok (.castore, 1) := by decide +kernel
theorem d1_252 : decode method_4_code 252 = .ok (.dup, 1) := by decide +kernel
theorem d1_253 : decode method_4_code 253 = .ok (.iconst 2, 1) := by decide +kernel
theorem d1_254 : decode method_4_code 254 = .ok (.aload_n 0, 1) := by decide +kernel
theorem d1_255 : decode method_4_code 255 = .ok (.iconst 2, 1) := by decide +kernel
theorem d1_256 : decode method_4_code 256 = .ok (.caload, 1) := by decide +kernel
theorem d1_257 : decode method_4_code 257 = .ok (.castore, 1) := by decide +kernel
theorem d1_258 : decode method_4_code 258 = .ok (.dup, 1) := by decide +kernel
theorem d1_259 : decode method_4_code 259 = .ok (.iconst 3, 1) := by decide +kernel
theorem d1_260 : decode method_4_code 260 = .ok (.aload_n 0, 1) := by decide +kernel
theorem d1_261 : decode method_4_code 261 = .ok (.iconst 3, 1) := by decide +kernel
theorem d1_262 : decode method_4_code 262 = .ok (.caload, 1) := by decide +kernel
theorem d1_263 : decode method_4_code 263 = .ok (.castore, 1) := by decide +kernel
theorem d1_264 : decode method_4_code 264 = .ok (.dup, 1) := by decide +kernel
theorem d1_265 : decode method_4_code 265 = .ok (.iconst 4, 1) := by decide +kernel
theorem d1_266 : decode method_4_code 266 = .ok (.aload_n 0, 1) := by decide +kernel
theorem d1_267 : decode method_4_code 267 = .ok (.iconst 4, 1) := by decide +kernel
theorem d1_268 : decode method_4_code 268 = .ok (.caload, 1) := by decide +kernel
theorem d1_269 : decode method_4_code 269 = .ok (.castore, 1) := by decide +kernel
theorem d1_270 : decode method_4_code 270 = .ok (.dup, 1) := by decide +kernel
theorem d1_271 : decode method_4_code 271 = .ok (.iconst 5, 1) := by decide +kernel
theorem d1_272 : decode method_4_code 272 = .ok (.aload_n 0, 1) := by decide +kernel
theorem d1_273 : decode method_4_code 273 = .ok (.iconst 5, 1) := by decide +kernel
theorem d1_274 : decode method_4_code 274 = .ok (.caload, 1) := by decide +kernel
theorem d1_275 : decode method_4_code 275 = .ok (.castore, 1) := by decide +kernel
theorem d1_276 : decode method_4_code 276 = .ok (.dup, 1) := by decide +kernel
theorem d1_277 : decode method_4_code 277 = .ok (.bipush 6, 2) := by decide +kernel
theorem d1_279 : decode method_4_code 279 = .ok (.aload_n 0, 1) := by decide +kernel
theorem d1_280 : decode method_4_code 280 = .ok (.bipush 6, 2) := by decide +kernel
theorem d1_282 : decode method_4_code 282 = .ok (.caload, 1) := by decide +kernel
theorem d1_283 : decode method_4_code 283 = .ok (.castore, 1) := by decide +kernel
theorem d1_284 : decode method_4_code 284 = .ok (.dup, 1) := by decide +kernel
theorem d1_285 : decode method_4_code 285 = .ok (.bipush 7, 2) := by decide +kernel
theorem d1_287 : decode method_4_code 287 = .ok (.aload_n 0, 1) := by decide +kernel
theorem d1_288 : decode method_4_code 288 = .ok (.bipush 7, 2) := by decide +kernel
theorem d1_290 : decode method_4_code 290 = .ok (.caload, 1) := by decide +kernel
theorem d1_291 : decode method_4_code 291 = .ok (.castore, 1) := by decide +kernel
theorem d1_292 : decode method_4_code 292 = .ok (.dup, 1) := by decide +kernel
theorem d1_293 : decode method_4_code 293 = .ok (.bipush 8, 2) := by decide +kernel
theorem d1_295 : decode method_4_code 295 = .ok (.aload_n 0, 1) := by decide +kernel
theorem d1_296 : decode method_4_code 296 = .ok (.bipush 8, 2) := by decide +kernel
theorem d1_298 : decode method_4_code 298 = .ok (.caload, 1) := by decide +kernel
theorem d1_299 : decode method_4_code 299 = .ok (.castore, 1) := by decide +kernel
theorem d1_300 : decode method_4_code 300 = .ok (.dup, 1) := by decide +kernel
theorem d1_301 : decode method_4_code 301 = .ok (.bipush 9, 2) := by decide +kernel
theorem d1_303 : decode method_4_code 303 = .ok (.aload_n 0, 1) := by decide +kernel
theorem d1_304 : decode method_4_code 304 = .ok (.bipush 9, 2) := by decide +kernel
theorem d1_306 : decode method_4_code 306 = .ok (.caload, 1) := by decide +kernel
theorem d1_307 : decode method_4_code 307 = .ok (.castore, 1) := by decide +kernel
theorem d1_308 : decode method_4_code 308 = .ok (.areturn, 1) := by decide +kernel
theorem ef_rm_cut10 (m : MethodId) (x0 : Addr) (x1 : Int32) : entryFrame m #[(.ref x0), (.int x1)] 2 = mkF m 0 #[.val (.ref x0), .val (.int x1)] [] := by first | (simp [entryFrame, mkF, argsToLocals, Value.category]; done) | rfl
def Q_rm_cut10 (Z : State) (w : Addr) (kw : ClassId) (c0 : Int32) (c1 : Int32) (c2 : Int32) (c3 : Int32) (c4 : Int32) (c5 : Int32) (c6 : Int32) (c7 : Int32) (c8 : Int32) (c9 : Int32) (h0 : Heap) (n0 : Nat) (v : Option Value) (h : Heap) (L : List Loc) : Prop := (∃ (r : Addr) (k : ClassId), (v = some (.ref r)) ∧ (Fr n0 L) ∧ (Keep h0 h []) ∧ (h0.size ≤ r) ∧ (Arv Z h r k .char (10 : Int32) [(.int c0), (.int c1), (.int c2), (.int c3), (.int c4), (.int c5), (.int c6), (.int c7), (.int c8), (.int c9)] (.int (0 : Int32))))
set_option maxRecDepth 65536 in
set_option maxHeartbeats 40000000 in
theorem rm_cut10 (l : Launch) (Z : State) (a0 : Array Value) (hw : ∀ d ∈ tables_1, d.before a0 Z = true) (ws : List Jvm.Cond) (w : Addr) (kw : ClassId) (c0 : Int32) (c1 : Int32) (c2 : Int32) (c3 : Int32) (c4 : Int32) (c5 : Int32) (c6 : Int32) (c7 : Int32) (c8 : Int32) (c9 : Int32) (h0 : Heap) (n0 : Nat) (O0 : Old Z n0 h0) (A_w : Arv Z h0 w kw .char (10 : Int32) [(.int c0), (.int c1), (.int c2), (.int c3), (.int c4), (.int c5), (.int c6), (.int c7), (.int c8), (.int c9)] (.int (0 : Int32))) (la_c0 : ¬ (c0 < (0 : Int32)) ∧ ¬ ((255 : Int32) < c0)) (la_c1 : ¬ (c1 < (0 : Int32)) ∧ ¬ ((255 : Int32) < c1)) (la_c2 : ¬ (c2 < (0 : Int32)) ∧ ¬ ((255 : Int32) < c2)) (la_c3 : ¬ (c3 < (0 : Int32)) ∧ ¬ ((255 : Int32) < c3)) (la_c4 : ¬ (c4 < (0 : Int32)) ∧ ¬ ((255 : Int32) < c4)) (la_c5 : ¬ (c5 < (0 : Int32)) ∧ ¬ ((255 : Int32) < c5)) (la_c6 : ¬ (c6 < (0 : Int32)) ∧ ¬ ((255 : Int32) < c6)) (la_c7 : ¬ (c7 < (0 : Int32)) ∧ ¬ ((255 : Int32) < c7)) (la_c8 : ¬ (c8 < (0 : Int32)) ∧ ¬ ((255 : Int32) < c8)) (la_c9 : ¬ (c9 < (0 : Int32)) ∧ ¬ ((255 : Int32) < c9)) :
    MetFree l (⟨"com/example/logtide/logtide/event/TemporalTextIsInfinitePinLaw", "cut", "([CI)[C"⟩ : MethodName) (head1 (Jvm.Cond.code (⟨"com/example/logtide/logtide/event/TemporalTextIsInfinitePinLaw", "cut", "([CI)[C"⟩ : MethodName) method_4_code 2 (some (.array .char)) :: ws) ({ frames := 0, cells := 1, slots := 10, locals := 0 } : Room)) (fun a U => a = #[(.ref w), (.int (10 : Int32))] ∧ Z.Warmed39 U.vm ∧ U.heap = h0) (fun _ _ _ _ _ => True) (fun _ U o U' => ∃ v L, o = .returned v ∧ Q_rm_cut10 Z w kw c0 c1 c2 c3 c4 c5 c6 c7 c8 c9 h0 n0 v U'.heap L ∧ FrameEnd U o U' L ({ frames := 0, cells := 1, slots := 10, locals := 0 } : Room).cells ({ frames := 0, cells := 1, slots := 10, locals := 0 } : Room).slots) := by
  refine MetFree.of_bodySF (plainFor_of_name pn_0) hisR ?_
  intro p e s m args below meth c s₁ Bd hml0 hP hK
  obtain ⟨rfl, hZ, hh⟩ := hP
  have hx := Bd.exec
  have hby := Bd.bytes
  have hml : c.maxLocals = 2 := hml0
  have hown : s.vm.findClass "com/example/logtide/logtide/event/TemporalTextIsInfinitePinLaw" = some m.cls := findClass_of_methodNamed Bd.named
  have hnm := (name_of_methodNamed Bd.named Bd.method).1
  have X0 : Stand p l e ({ frames := 0, cells := 1, slots := 10, locals := 0 } : Room) s m #[(.ref w), (.int (10 : Int32))] below meth c s₁ [] 0 0 := Stand.of_body Bd
  have e0 : s₁.heap = h0 := by rw [← hh, Bd.state]; rfl
  have N0 := Fr.nil n0
  have hwl : ∀ d ∈ StrChars.Road.wordsLen, d.before a0 Z = true := fun d hd => hw d (own_wordsLen d hd)
  have hwc : ∀ d ∈ StrChars.Road.wordsChN, d.before a0 Z = true := fun d hd => hw d (own_wordsChN d hd)
  have hwq : ∀ d ∈ StrChars.Road.wordsEq, d.before a0 Z = true := fun d hd => hw d (own_wordsEq d hd)
  have hws : ∀ d ∈ StrChars.Road.words, d.before a0 Z = true := fun d hd => hw d (own_words d hd)
  have K0 : Keep h0 h0 [] := Keep.refl _ _
  have pre0 : ∀ t, Steps p.tables e below (s₁.setTop (mkF m 0 #[.val (.ref w), .val (.int (10 : Int32))] [])) t → Steps p.tables e below (s₁.setTop (entryFrame m #[(.ref w), (.int (10 : Int32))] 2)) t := fun t k => castTop (ef_rm_cut10 m w (10 : Int32)) k
  obtain ⟨T1, h1, k1, X1, e1, E1, A1, B1, st1⟩ := newPE X0 hx hZ (own_w hw 9 rfl) e0 (g := (mkF m 238 #[.val (.ref w), .val (.int (10 : Int32))] [(.int (10 : Int32))])) rfl (hb hby d1_238) rfl (by decide) (cap := 10) (by decide) (by decide) (by decide) (by decide) (ad := "[C") (by first | rfl | decide)
  obtain ⟨b1, g1⟩ : ∃ z, z = h0.size := ⟨_, rfl⟩
  have ge_b1 : n0 ≤ b1 := by rw [g1, ← O0.1]; exact O0.2.1
  have sz_b1 : h0.size ≤ b1 := by rw [g1]; exact K0.1
  have ne2 : w ≠ b1 := Nat.ne_of_lt (Nat.lt_of_lt_of_le (Arv.lt A_w) (Nat.le_of_eq g1.symm))
  rw [← g1] at A1 B1 st1
  have O3 := O0.ext E1
  have K4 : Keep h0 h1 [] := K0.ext E1
  have F1 : Arv Z h1 b1 k1 .char (10 : Int32) [(.int (0 : Int32)), (.int (0 : Int32)), (.int (0 : Int32)), (.int (0 : Int32)), (.int (0 : Int32)), (.int (0 : Int32)), (.int (0 : Int32)), (.int (0 : Int32)), (.int (0 : Int32)), (.int (0 : Int32))] (.int (0 : Int32)) := (Arv.new A1 (by decide)).pad (pad_rep [] (.int (0 : Int32)) 10)
  have f5 := (Arv.ext A_w E1)
  obtain ⟨cl6, Ar6, q6, Sz6, Nn6, Hh6, Gg6⟩ := id f5
  have in6 : ¬ ((0 : Int32) < 0 ∨ cl6.slots.size ≤ ((0 : Int32)).toNatClampNeg) := by exact inb_of Sz6 ⟨by decide, by decide⟩
  have at6 : cl6.slots[((0 : Int32)).toNatClampNeg]? = some (.int c0) := by
    refine Has.at Hh6 in6 ?_
    rfl
  obtain ⟨cl7, Ar7, q7, Sz7, Nn7, Hh7, Gg7⟩ := id F1
  have in7 : ¬ ((0 : Int32) < 0 ∨ cl7.slots.size ≤ ((0 : Int32)).toNatClampNeg) := inb_of Sz7 ⟨by decide, by decide⟩
  obtain ⟨T7, h7, X7, e7, W7, st7⟩ := stC X1 hx hZ e1 Ar7 (j := (0 : Int32)) in7 (g := (mkF m 245 #[.val (.ref w), .val (.int (10 : Int32))] [(.int c0), (.int (0 : Int32)), (.ref b1), (.ref b1)])) rfl rfl (hb hby d1_245)
  rw [show nar .char c0 = c0 from own_nar la_c0] at W7
  have O8 := O3.wr W7 ge_b1
  have K9 : Keep h0 h7 [] := K4.wr W7 (Or.inr sz_b1)
  have N10 := Fr.snoc X7 N0 ge_b1
  have F7 : Arv Z h7 b1 k1 .char (10 : Int32) [(.int c0), (.int (0 : Int32)), (.int (0 : Int32)), (.int (0 : Int32)), (.int (0 : Int32)), (.int (0 : Int32)), (.int (0 : Int32)), (.int (0 : Int32)), (.int (0 : Int32)), (.int (0 : Int32))] (.int (0 : Int32)) := Arv.set Ar7 q7 Sz7 Nn7 Hh7 Gg7 (by rw [← (own_nar la_c0 : nar .char c0 = c0)]; exact fits_nar_char _) W7 0 rfl (Nat.le_of_ble_eq_true rfl)
  have f11 := (Arv.other f5 W7 ne2)
  obtain ⟨cl12, Ar12, q12, Sz12, Nn12, Hh12, Gg12⟩ := id f11
  have in12 : ¬ ((1 : Int32) < 0 ∨ cl12.slots.size ≤ ((1 : Int32)).toNatClampNeg) := by exact inb_of Sz12 ⟨by decide, by decide⟩
  have at12 : cl12.slots[((1 : Int32)).toNatClampNeg]? = some (.int c1) := by
    refine Has.at Hh12 in12 ?_
    rfl
  obtain ⟨cl13, Ar13, q13, Sz13, Nn13, Hh13, Gg13⟩ := id F7
  have in13 : ¬ ((1 : Int32) < 0 ∨ cl13.slots.size ≤ ((1 : Int32)).toNatClampNeg) := inb_of Sz13 ⟨by decide, by decide⟩
  obtain ⟨T13, h13, X13, e13, W13, st13⟩ := stC X7 hx hZ e7 Ar13 (j := (1 : Int32)) in13 (g := (mkF m 251 #[.val (.ref w), .val (.int (10 : Int32))] [(.int c1), (.int (1 : Int32)), (.ref b1), (.ref b1)])) rfl rfl (hb hby d1_251)
  rw [show nar .char c1 = c1 from own_nar la_c1] at W13
  have O14 := O8.wr W13 ge_b1
  have K15 : Keep h0 h13 [] := K9.wr W13 (Or.inr sz_b1)
  have N16 := Fr.snoc X13 N10 ge_b1
  have F13 : Arv Z h13 b1 k1 .char (10 : Int32) [(.int c0), (.int c1), (.int (0 : Int32)), (.int (0 : Int32)), (.int (0 : Int32)), (.int (0 : Int32)), (.int (0 : Int32)), (.int (0 : Int32)), (.int (0 : Int32)), (.int (0 : Int32))] (.int (0 : Int32)) := Arv.set Ar13 q13 Sz13 Nn13 Hh13 Gg13 (by rw [← (own_nar la_c1 : nar .char c1 = c1)]; exact fits_nar_char _) W13 1 rfl (Nat.le_of_ble_eq_true rfl)
  have f17 := (Arv.other f11 W13 ne2)
  obtain ⟨cl18, Ar18, q18, Sz18, Nn18, Hh18, Gg18⟩ := id f17
  have in18 : ¬ ((2 : Int32) < 0 ∨ cl18.slots.size ≤ ((2 : Int32)).toNatClampNeg) := by exact inb_of Sz18 ⟨by decide, by decide⟩
  have at18 : cl18.slots[((2 : Int32)).toNatClampNeg]? = some (.int c2) := by
    refine Has.at Hh18 in18 ?_
    rfl
  obtain ⟨cl19, Ar19, q19, Sz19, Nn19, Hh19, Gg19⟩ := id F13
  have in19 : ¬ ((2 : Int32) < 0 ∨ cl19.slots.size ≤ ((2 : Int32)).toNatClampNeg) := inb_of Sz19 ⟨by decide, by decide⟩
  obtain ⟨T19, h19, X19, e19, W19, st19⟩ := stC X13 hx hZ e13 Ar19 (j := (2 : Int32)) in19 (g := (mkF m 257 #[.val (.ref w), .val (.int (10 : Int32))] [(.int c2), (.int (2 : Int32)), (.ref b1), (.ref b1)])) rfl rfl (hb hby d1_257)
  rw [show nar .char c2 = c2 from own_nar la_c2] at W19
  have O20 := O14.wr W19 ge_b1
  have K21 : Keep h0 h19 [] := K15.wr W19 (Or.inr sz_b1)
  have N22 := Fr.snoc X19 N16 ge_b1
  have F19 : Arv Z h19 b1 k1 .char (10 : Int32) [(.int c0), (.int c1), (.int c2), (.int (0 : Int32)), (.int (0 : Int32)), (.int (0 : Int32)), (.int (0 : Int32)), (.int (0 : Int32)), (.int (0 : Int32)), (.int (0 : Int32))] (.int (0 : Int32)) := Arv.set Ar19 q19 Sz19 Nn19 Hh19 Gg19 (by rw [← (own_nar la_c2 : nar .char c2 = c2)]; exact fits_nar_char _) W19 2 rfl (Nat.le_of_ble_eq_true rfl)
  have f23 := (Arv.other f17 W19 ne2)
  obtain ⟨cl24, Ar24, q24, Sz24, Nn24, Hh24, Gg24⟩ := id f23
  have in24 : ¬ ((3 : Int32) < 0 ∨ cl24.slots.size ≤ ((3 : Int32)).toNatClampNeg) := by exact inb_of Sz24 ⟨by decide, by decide⟩
  have at24 : cl24.slots[((3 : Int32)).toNatClampNeg]? = some (.int c3) := by
    refine Has.at Hh24 in24 ?_
    rfl
  obtain ⟨cl25, Ar25, q25, Sz25, Nn25, Hh25, Gg25⟩ := id F19
  have in25 : ¬ ((3 : Int32) < 0 ∨ cl25.slots.size ≤ ((3 : Int32)).toNatClampNeg) := inb_of Sz25 ⟨by decide, by decide⟩
  obtain ⟨T25, h25, X25, e25, W25, st25⟩ := stC X19 hx hZ e19 Ar25 (j := (3 : Int32)) in25 (g := (mkF m 263 #[.val (.ref w), .val (.int (10 : Int32))] [(.int c3), (.int (3 : Int32)), (.ref b1), (.ref b1)])) rfl rfl (hb hby d1_263)
  rw [show nar .char c3 = c3 from own_nar la_c3] at W25
  have O26 := O20.wr W25 ge_b1
  have K27 : Keep h0 h25 [] := K21.wr W25 (Or.inr sz_b1)
  have N28 := Fr.snoc X25 N22 ge_b1
  have F25 : Arv Z h25 b1 k1 .char (10 : Int32) [(.int c0), (.int c1), (.int c2), (.int c3), (.int (0 : Int32)), (.int (0 : Int32)), (.int (0 : Int32)), (.int (0 : Int32)), (.int (0 : Int32)), (.int (0 : Int32))] (.int (0 : Int32)) := Arv.set Ar25 q25 Sz25 Nn25 Hh25 Gg25 (by rw [← (own_nar la_c3 : nar .char c3 = c3)]; exact fits_nar_char _) W25 3 rfl (Nat.le_of_ble_eq_true rfl)
  have f29 := (Arv.other f23 W25 ne2)
  obtain ⟨cl30, Ar30, q30, Sz30, Nn30, Hh30, Gg30⟩ := id f29
  have in30 : ¬ ((4 : Int32) < 0 ∨ cl30.slots.size ≤ ((4 : Int32)).toNatClampNeg) := by exact inb_of Sz30 ⟨by decide, by decide⟩
  have at30 : cl30.slots[((4 : Int32)).toNatClampNeg]? = some (.int c4) := by
    refine Has.at Hh30 in30 ?_
    rfl
  obtain ⟨cl31, Ar31, q31, Sz31, Nn31, Hh31, Gg31⟩ := id F25
  have in31 : ¬ ((4 : Int32) < 0 ∨ cl31.slots.size ≤ ((4 : Int32)).toNatClampNeg) := inb_of Sz31 ⟨by decide, by decide⟩
  obtain ⟨T31, h31, X31, e31, W31, st31⟩ := stC X25 hx hZ e25 Ar31 (j := (4 : Int32)) in31 (g := (mkF m 269 #[.val (.ref w), .val (.int (10 : Int32))] [(.int c4), (.int (4 : Int32)), (.ref b1), (.ref b1)])) rfl rfl (hb hby d1_269)
  rw [show nar .char c4 = c4 from own_nar la_c4] at W31
  have O32 := O26.wr W31 ge_b1
  have K33 : Keep h0 h31 [] := K27.wr W31 (Or.inr sz_b1)
  have N34 := Fr.snoc X31 N28 ge_b1
  have F31 : Arv Z h31 b1 k1 .char (10 : Int32) [(.int c0), (.int c1), (.int c2), (.int c3), (.int c4), (.int (0 : Int32)), (.int (0 : Int32)), (.int (0 : Int32)), (.int (0 : Int32)), (.int (0 : Int32))] (.int (0 : Int32)) := Arv.set Ar31 q31 Sz31 Nn31 Hh31 Gg31 (by rw [← (own_nar la_c4 : nar .char c4 = c4)]; exact fits_nar_char _) W31 4 rfl (Nat.le_of_ble_eq_true rfl)
  have f35 := (Arv.other f29 W31 ne2)
  obtain ⟨cl36, Ar36, q36, Sz36, Nn36, Hh36, Gg36⟩ := id f35
  have in36 : ¬ ((5 : Int32) < 0 ∨ cl36.slots.size ≤ ((5 : Int32)).toNatClampNeg) := by exact inb_of Sz36 ⟨by decide, by decide⟩
  have at36 : cl36.slots[((5 : Int32)).toNatClampNeg]? = some (.int c5) := by
    refine Has.at Hh36 in36 ?_
    rfl
  obtain ⟨cl37, Ar37, q37, Sz37, Nn37, Hh37, Gg37⟩ := id F31
  have in37 : ¬ ((5 : Int32) < 0 ∨ cl37.slots.size ≤ ((5 : Int32)).toNatClampNeg) := inb_of Sz37 ⟨by decide, by decide⟩
  obtain ⟨T37, h37, X37, e37, W37, st37⟩ := stC X31 hx hZ e31 Ar37 (j := (5 : Int32)) in37 (g := (mkF m 275 #[.val (.ref w), .val (.int (10 : Int32))] [(.int c5), (.int (5 : Int32)), (.ref b1), (.ref b1)])) rfl rfl (hb hby d1_275)
  rw [show nar .char c5 = c5 from own_nar la_c5] at W37
  have O38 := O32.wr W37 ge_b1
  have K39 : Keep h0 h37 [] := K33.wr W37 (Or.inr sz_b1)
  have N40 := Fr.snoc X37 N34 ge_b1
  have F37 : Arv Z h37 b1 k1 .char (10 : Int32) [(.int c0), (.int c1), (.int c2), (.int c3), (.int c4), (.int c5), (.int (0 : Int32)), (.int (0 : Int32)), (.int (0 : Int32)), (.int (0 : Int32))] (.int (0 : Int32)) := Arv.set Ar37 q37 Sz37 Nn37 Hh37 Gg37 (by rw [← (own_nar la_c5 : nar .char c5 = c5)]; exact fits_nar_char _) W37 5 rfl (Nat.le_of_ble_eq_true rfl)
  have f41 := (Arv.other f35 W37 ne2)
  obtain ⟨cl42, Ar42, q42, Sz42, Nn42, Hh42, Gg42⟩ := id f41
  have in42 : ¬ ((6 : Int32) < 0 ∨ cl42.slots.size ≤ ((6 : Int32)).toNatClampNeg) := by exact inb_of Sz42 ⟨by decide, by decide⟩
  have at42 : cl42.slots[((6 : Int32)).toNatClampNeg]? = some (.int c6) := by
    refine Has.at Hh42 in42 ?_
    rfl
  obtain ⟨cl43, Ar43, q43, Sz43, Nn43, Hh43, Gg43⟩ := id F37
  have in43 : ¬ ((6 : Int32) < 0 ∨ cl43.slots.size ≤ ((6 : Int32)).toNatClampNeg) := inb_of Sz43 ⟨by decide, by decide⟩
  obtain ⟨T43, h43, X43, e43, W43, st43⟩ := stC X37 hx hZ e37 Ar43 (j := (6 : Int32)) in43 (g := (mkF m 283 #[.val (.ref w), .val (.int (10 : Int32))] [(.int c6), (.int (6 : Int32)), (.ref b1), (.ref b1)])) rfl rfl (hb hby d1_283)
  rw [show nar .char c6 = c6 from own_nar la_c6] at W43
  have O44 := O38.wr W43 ge_b1
  have K45 : Keep h0 h43 [] := K39.wr W43 (Or.inr sz_b1)
  have N46 := Fr.snoc X43 N40 ge_b1
  have F43 : Arv Z h43 b1 k1 .char (10 : Int32) [(.int c0), (.int c1), (.int c2), (.int c3), (.int c4), (.int c5), (.int c6), (.int (0 : Int32)), (.int (0 : Int32)), (.int (0 : Int32))] (.int (0 : Int32)) := Arv.set Ar43 q43 Sz43 Nn43 Hh43 Gg43 (by rw [← (own_nar la_c6 : nar .char c6 = c6)]; exact fits_nar_char _) W43 6 rfl (Nat.le_of_ble_eq_true rfl)
  have f47 := (Arv.other f41 W43 ne2)
  obtain ⟨cl48, Ar48, q48, Sz48, Nn48, Hh48, Gg48⟩ := id f47
  have in48 : ¬ ((7 : Int32) < 0 ∨ cl48.slots.size ≤ ((7 : Int32)).toNatClampNeg) := by exact inb_of Sz48 ⟨by decide, by decide⟩
  have at48 : cl48.slots[((7 : Int32)).toNatClampNeg]? = some (.int c7) := by
    refine Has.at Hh48 in48 ?_
    rfl
  obtain ⟨cl49, Ar49, q49, Sz49, Nn49, Hh49, Gg49⟩ := id F43
  have in49 : ¬ ((7 : Int32) < 0 ∨ cl49.slots.size ≤ ((7 : Int32)).toNatClampNeg) := inb_of Sz49 ⟨by decide, by decide⟩
  obtain ⟨T49, h49, X49, e49, W49, st49⟩ := stC X43 hx hZ e43 Ar49 (j := (7 : Int32)) in49 (g := (mkF m 291 #[.val (.ref w), .val (.int (10 : Int32))] [(.int c7), (.int (7 : Int32)), (.ref b1), (.ref b1)])) rfl rfl (hb hby d1_291)
  rw [show nar .char c7 = c7 from own_nar la_c7] at W49
  have O50 := O44.wr W49 ge_b1
  have K51 : Keep h0 h49 [] := K45.wr W49 (Or.inr sz_b1)
  have N52 := Fr.snoc X49 N46 ge_b1
  have F49 : Arv Z h49 b1 k1 .char (10 : Int32) [(.int c0), (.int c1), (.int c2), (.int c3), (.int c4), (.int c5), (.int c6), (.int c7), (.int (0 : Int32)), (.int (0 : Int32))] (.int (0 : Int32)) := Arv.set Ar49 q49 Sz49 Nn49 Hh49 Gg49 (by rw [← (own_nar la_c7 : nar .char c7 = c7)]; exact fits_nar_char _) W49 7 rfl (Nat.le_of_ble_eq_true rfl)
  have f53 := (Arv.other f47 W49 ne2)
  obtain ⟨cl54, Ar54, q54, Sz54, Nn54, Hh54, Gg54⟩ := id f53
  have in54 : ¬ ((8 : Int32) < 0 ∨ cl54.slots.size ≤ ((8 : Int32)).toNatClampNeg) := by exact inb_of Sz54 ⟨by decide, by decide⟩
  have at54 : cl54.slots[((8 : Int32)).toNatClampNeg]? = some (.int c8) := by
    refine Has.at Hh54 in54 ?_
    rfl
  obtain ⟨cl55, Ar55, q55, Sz55, Nn55, Hh55, Gg55⟩ := id F49
  have in55 : ¬ ((8 : Int32) < 0 ∨ cl55.slots.size ≤ ((8 : Int32)).toNatClampNeg) := inb_of Sz55 ⟨by decide, by decide⟩
  obtain ⟨T55, h55, X55, e55, W55, st55⟩ := stC X49 hx hZ e49 Ar55 (j := (8 : Int32)) in55 (g := (mkF m 299 #[.val (.ref w), .val (.int (10 : Int32))] [(.int c8), (.int (8 : Int32)), (.ref b1), (.ref b1)])) rfl rfl (hb hby d1_299)
  rw [show nar .char c8 = c8 from own_nar la_c8] at W55
  have O56 := O50.wr W55 ge_b1
  have K57 : Keep h0 h55 [] := K51.wr W55 (Or.inr sz_b1)
  have N58 := Fr.snoc X55 N52 ge_b1
  have F55 : Arv Z h55 b1 k1 .char (10 : Int32) [(.int c0), (.int c1), (.int c2), (.int c3), (.int c4), (.int c5), (.int c6), (.int c7), (.int c8), (.int (0 : Int32))] (.int (0 : Int32)) := Arv.set Ar55 q55 Sz55 Nn55 Hh55 Gg55 (by rw [← (own_nar la_c8 : nar .char c8 = c8)]; exact fits_nar_char _) W55 8 rfl (Nat.le_of_ble_eq_true rfl)
  have f59 := (Arv.other f53 W55 ne2)
  obtain ⟨cl60, Ar60, q60, Sz60, Nn60, Hh60, Gg60⟩ := id f59
  have in60 : ¬ ((9 : Int32) < 0 ∨ cl60.slots.size ≤ ((9 : Int32)).toNatClampNeg) := by exact inb_of Sz60 ⟨by decide, by decide⟩
  have at60 : cl60.slots[((9 : Int32)).toNatClampNeg]? = some (.int c9) := by
    refine Has.at Hh60 in60 ?_
    rfl
  obtain ⟨cl61, Ar61, q61, Sz61, Nn61, Hh61, Gg61⟩ := id F55
  have in61 : ¬ ((9 : Int32) < 0 ∨ cl61.slots.size ≤ ((9 : Int32)).toNatClampNeg) := inb_of Sz61 ⟨by decide, by decide⟩
  obtain ⟨T61, h61, X61, e61, W61, st61⟩ := stC X55 hx hZ e55 Ar61 (j := (9 : Int32)) in61 (g := (mkF m 307 #[.val (.ref w), .val (.int (10 : Int32))] [(.int c9), (.int (9 : Int32)), (.ref b1), (.ref b1)])) rfl rfl (hb hby d1_307)
  rw [show nar .char c9 = c9 from own_nar la_c9] at W61
  have O62 := O56.wr W61 ge_b1
  have K63 : Keep h0 h61 [] := K57.wr W61 (Or.inr sz_b1)
  have N64 := Fr.snoc X61 N58 ge_b1
  have F61 : Arv Z h61 b1 k1 .char (10 : Int32) [(.int c0), (.int c1), (.int c2), (.int c3), (.int c4), (.int c5), (.int c6), (.int c7), (.int c8), (.int c9)] (.int (0 : Int32)) := Arv.set Ar61 q61 Sz61 Nn61 Hh61 Gg61 (by rw [← (own_nar la_c9 : nar .char c9 = c9)]; exact fits_nar_char _) W61 9 rfl (Nat.le_of_ble_eq_true rfl)
  have S65 : ∀ t, Steps p.tables e below (T61.setTop (mkF m 308 #[.val (.ref w), .val (.int (10 : Int32))] [(.ref b1)])) t → Steps p.tables e below (s₁.setTop (mkF m 0 #[.val (.ref w), .val (.int (10 : Int32))] [])) t := by
    intro t kt
    refine XS.iloadN X0.here hx rfl (hb hby d1_0) rfl ?_
    refine XS.bipush X0.here hx rfl (hb hby d1_1) ?_
    refine XS.icmpYes X0.here hx rfl (pc0 := 3) (pc' := 47) rfl (hb hby d1_3) rfl (feq ((by decide) : ¬ ((10 : Int32) = (6 : Int32)))).2 (by decide) (by decide) ?_
    refine XS.iloadN X0.here hx rfl (hb hby d1_47) rfl ?_
    refine XS.bipush X0.here hx rfl (hb hby d1_48) ?_
    refine XS.icmpYes X0.here hx rfl (pc0 := 50) (pc' := 102) rfl (hb hby d1_50) rfl (feq ((by decide) : ¬ ((10 : Int32) = (7 : Int32)))).2 (by decide) (by decide) ?_
    show Steps p.tables e below (s₁.setTop (mkF m 102 #[.val (.ref w), .val (.int (10 : Int32))] [])) _
    refine XS.iloadN X0.here hx rfl (hb hby d1_102) rfl ?_
    refine XS.bipush X0.here hx rfl (hb hby d1_103) ?_
    refine XS.icmpYes X0.here hx rfl (pc0 := 105) (pc' := 165) rfl (hb hby d1_105) rfl (feq ((by decide) : ¬ ((10 : Int32) = (8 : Int32)))).2 (by decide) (by decide) ?_
    refine XS.iloadN X0.here hx rfl (hb hby d1_165) rfl ?_
    refine XS.bipush X0.here hx rfl (hb hby d1_166) ?_
    refine XS.icmpYes X0.here hx rfl (pc0 := 168) (pc' := 236) rfl (hb hby d1_168) rfl (feq ((by decide) : ¬ ((10 : Int32) = (9 : Int32)))).2 (by decide) (by decide) ?_
    show Steps p.tables e below (s₁.setTop (mkF m 236 #[.val (.ref w), .val (.int (10 : Int32))] [])) _
    refine XS.bipush X0.here hx rfl (hb hby d1_236) ?_
    show Steps p.tables e below (s₁.setTop (mkF m 238 #[.val (.ref w), .val (.int (10 : Int32))] [(.int (10 : Int32))])) _
    refine st1 _ ?_
    refine XS.dup X1.here hx rfl (hb hby d1_240) rfl rfl ?_
    refine XS.iconst X1.here hx rfl (hb hby d1_241) ?_
    refine XS.aloadN X1.here hx rfl (hb hby d1_242) rfl rfl ?_
    refine XS.iconst X1.here hx rfl (hb hby d1_243) ?_
    show Steps p.tables e below (T1.setTop (mkF m 244 #[.val (.ref w), .val (.int (10 : Int32))] [(.int (0 : Int32)), (.ref w), (.int (0 : Int32)), (.ref b1), (.ref b1)])) _
    refine X1.caload hx (j := (0 : Int32)) (v := (.int c0)) (by rw [e1]; exact Ar6.1) (State.isArrayOf_alike hZ.alike Ar6.2.1) Ar6.2.2 in6 at6 (g := (mkF m 244 #[.val (.ref w), .val (.int (10 : Int32))] [(.int (0 : Int32)), (.ref w), (.int (0 : Int32)), (.ref b1), (.ref b1)])) rfl rfl (hb hby d1_244) _ ?_
    show Steps p.tables e below (T1.setTop (mkF m 245 #[.val (.ref w), .val (.int (10 : Int32))] [(.int c0), (.int (0 : Int32)), (.ref b1), (.ref b1)])) _
    refine st7 _ ?_
    refine XS.dup X7.here hx rfl (hb hby d1_246) rfl rfl ?_
    refine XS.iconst X7.here hx rfl (hb hby d1_247) ?_
    refine XS.aloadN X7.here hx rfl (hb hby d1_248) rfl rfl ?_
    refine XS.iconst X7.here hx rfl (hb hby d1_249) ?_
    show Steps p.tables e below (T7.setTop (mkF m 250 #[.val (.ref w), .val (.int (10 : Int32))] [(.int (1 : Int32)), (.ref w), (.int (1 : Int32)), (.ref b1), (.ref b1)])) _
    refine X7.caload hx (j := (1 : Int32)) (v := (.int c1)) (by rw [e7]; exact Ar12.1) (State.isArrayOf_alike hZ.alike Ar12.2.1) Ar12.2.2 in12 at12 (g := (mkF m 250 #[.val (.ref w), .val (.int (10 : Int32))] [(.int (1 : Int32)), (.ref w), (.int (1 : Int32)), (.ref b1), (.ref b1)])) rfl rfl (hb hby d1_250) _ ?_
    show Steps p.tables e below (T7.setTop (mkF m 251 #[.val (.ref w), .val (.int (10 : Int32))] [(.int c1), (.int (1 : Int32)), (.ref b1), (.ref b1)])) _
    refine st13 _ ?_
    refine XS.dup X13.here hx rfl (hb hby d1_252) rfl rfl ?_
    refine XS.iconst X13.here hx rfl (hb hby d1_253) ?_
    refine XS.aloadN X13.here hx rfl (hb hby d1_254) rfl rfl ?_
    refine XS.iconst X13.here hx rfl (hb hby d1_255) ?_
    show Steps p.tables e below (T13.setTop (mkF m 256 #[.val (.ref w), .val (.int (10 : Int32))] [(.int (2 : Int32)), (.ref w), (.int (2 : Int32)), (.ref b1), (.ref b1)])) _
    refine X13.caload hx (j := (2 : Int32)) (v := (.int c2)) (by rw [e13]; exact Ar18.1) (State.isArrayOf_alike hZ.alike Ar18.2.1) Ar18.2.2 in18 at18 (g := (mkF m 256 #[.val (.ref w), .val (.int (10 : Int32))] [(.int (2 : Int32)), (.ref w), (.int (2 : Int32)), (.ref b1), (.ref b1)])) rfl rfl (hb hby d1_256) _ ?_
    show Steps p.tables e below (T13.setTop (mkF m 257 #[.val (.ref w), .val (.int (10 : Int32))] [(.int c2), (.int (2 : Int32)), (.ref b1), (.ref b1)])) _
    refine st19 _ ?_
    refine XS.dup X19.here hx rfl (hb hby d1_258) rfl rfl ?_
    refine XS.iconst X19.here hx rfl (hb hby d1_259) ?_
    refine XS.aloadN X19.here hx rfl (hb hby d1_260) rfl rfl ?_
    refine XS.iconst X19.here hx rfl (hb hby d1_261) ?_
    show Steps p.tables e below (T19.setTop (mkF m 262 #[.val (.ref w), .val (.int (10 : Int32))] [(.int (3 : Int32)), (.ref w), (.int (3 : Int32)), (.ref b1), (.ref b1)])) _
    refine X19.caload hx (j := (3 : Int32)) (v := (.int c3)) (by rw [e19]; exact Ar24.1) (State.isArrayOf_alike hZ.alike Ar24.2.1) Ar24.2.2 in24 at24 (g := (mkF m 262 #[.val (.ref w), .val (.int (10 : Int32))] [(.int (3 : Int32)), (.ref w), (.int (3 : Int32)), (.ref b1), (.ref b1)])) rfl rfl (hb hby d1_262) _ ?_
    show Steps p.tables e below (T19.setTop (mkF m 263 #[.val (.ref w), .val (.int (10 : Int32))] [(.int c3), (.int (3 : Int32)), (.ref b1), (.ref b1)])) _
    refine st25 _ ?_
    refine XS.dup X25.here hx rfl (hb hby d1_264) rfl rfl ?_
    refine XS.iconst X25.here hx rfl (hb hby d1_265) ?_
    refine XS.aloadN X25.here hx rfl (hb hby d1_266) rfl rfl ?_
    refine XS.iconst X25.here hx rfl (hb hby d1_267) ?_
    show Steps p.tables e below (T25.setTop (mkF m 268 #[.val (.ref w), .val (.int (10 : Int32))] [(.int (4 : Int32)), (.ref w), (.int (4 : Int32)), (.ref b1), (.ref b1)])) _
    refine X25.caload hx (j := (4 : Int32)) (v := (.int c4)) (by rw [e25]; exact Ar30.1) (State.isArrayOf_alike hZ.alike Ar30.2.1) Ar30.2.2 in30 at30 (g := (mkF m 268 #[.val (.ref w), .val (.int (10 : Int32))] [(.int (4 : Int32)), (.ref w), (.int (4 : Int32)), (.ref b1), (.ref b1)])) rfl rfl (hb hby d1_268) _ ?_
    show Steps p.tables e below (T25.setTop (mkF m 269 #[.val (.ref w), .val (.int (10 : Int32))] [(.int c4), (.int (4 : Int32)), (.ref b1), (.ref b1)])) _
    refine st31 _ ?_
    refine XS.dup X31.here hx rfl (hb hby d1_270) rfl rfl ?_
    refine XS.iconst X31.here hx rfl (hb hby d1_271) ?_
    refine XS.aloadN X31.here hx rfl (hb hby d1_272) rfl rfl ?_
    refine XS.iconst X31.here hx rfl (hb hby d1_273) ?_
    show Steps p.tables e below (T31.setTop (mkF m 274 #[.val (.ref w), .val (.int (10 : Int32))] [(.int (5 : Int32)), (.ref w), (.int (5 : Int32)), (.ref b1), (.ref b1)])) _
    refine X31.caload hx (j := (5 : Int32)) (v := (.int c5)) (by rw [e31]; exact Ar36.1) (State.isArrayOf_alike hZ.alike Ar36.2.1) Ar36.2.2 in36 at36 (g := (mkF m 274 #[.val (.ref w), .val (.int (10 : Int32))] [(.int (5 : Int32)), (.ref w), (.int (5 : Int32)), (.ref b1), (.ref b1)])) rfl rfl (hb hby d1_274) _ ?_
    show Steps p.tables e below (T31.setTop (mkF m 275 #[.val (.ref w), .val (.int (10 : Int32))] [(.int c5), (.int (5 : Int32)), (.ref b1), (.ref b1)])) _
    refine st37 _ ?_
    refine XS.dup X37.here hx rfl (hb hby d1_276) rfl rfl ?_
    refine XS.bipush X37.here hx rfl (hb hby d1_277) ?_
    refine XS.aloadN X37.here hx rfl (hb hby d1_279) rfl rfl ?_
    refine XS.bipush X37.here hx rfl (hb hby d1_280) ?_
    show Steps p.tables e below (T37.setTop (mkF m 282 #[.val (.ref w), .val (.int (10 : Int32))] [(.int (6 : Int32)), (.ref w), (.int (6 : Int32)), (.ref b1), (.ref b1)])) _
    refine X37.caload hx (j := (6 : Int32)) (v := (.int c6)) (by rw [e37]; exact Ar42.1) (State.isArrayOf_alike hZ.alike Ar42.2.1) Ar42.2.2 in42 at42 (g := (mkF m 282 #[.val (.ref w), .val (.int (10 : Int32))] [(.int (6 : Int32)), (.ref w), (.int (6 : Int32)), (.ref b1), (.ref b1)])) rfl rfl (hb hby d1_282) _ ?_
    show Steps p.tables e below (T37.setTop (mkF m 283 #[.val (.ref w), .val (.int (10 : Int32))] [(.int c6), (.int (6 : Int32)), (.ref b1), (.ref b1)])) _
    refine st43 _ ?_
    refine XS.dup X43.here hx rfl (hb hby d1_284) rfl rfl ?_
    refine XS.bipush X43.here hx rfl (hb hby d1_285) ?_
    refine XS.aloadN X43.here hx rfl (hb hby d1_287) rfl rfl ?_
    refine XS.bipush X43.here hx rfl (hb hby d1_288) ?_
    show Steps p.tables e below (T43.setTop (mkF m 290 #[.val (.ref w), .val (.int (10 : Int32))] [(.int (7 : Int32)), (.ref w), (.int (7 : Int32)), (.ref b1), (.ref b1)])) _
    refine X43.caload hx (j := (7 : Int32)) (v := (.int c7)) (by rw [e43]; exact Ar48.1) (State.isArrayOf_alike hZ.alike Ar48.2.1) Ar48.2.2 in48 at48 (g := (mkF m 290 #[.val (.ref w), .val (.int (10 : Int32))] [(.int (7 : Int32)), (.ref w), (.int (7 : Int32)), (.ref b1), (.ref b1)])) rfl rfl (hb hby d1_290) _ ?_
    show Steps p.tables e below (T43.setTop (mkF m 291 #[.val (.ref w), .val (.int (10 : Int32))] [(.int c7), (.int (7 : Int32)), (.ref b1), (.ref b1)])) _
    refine st49 _ ?_
    refine XS.dup X49.here hx rfl (hb hby d1_292) rfl rfl ?_
    refine XS.bipush X49.here hx rfl (hb hby d1_293) ?_
    refine XS.aloadN X49.here hx rfl (hb hby d1_295) rfl rfl ?_
    refine XS.bipush X49.here hx rfl (hb hby d1_296) ?_
    show Steps p.tables e below (T49.setTop (mkF m 298 #[.val (.ref w), .val (.int (10 : Int32))] [(.int (8 : Int32)), (.ref w), (.int (8 : Int32)), (.ref b1), (.ref b1)])) _
    refine X49.caload hx (j := (8 : Int32)) (v := (.int c8)) (by rw [e49]; exact Ar54.1) (State.isArrayOf_alike hZ.alike Ar54.2.1) Ar54.2.2 in54 at54 (g := (mkF m 298 #[.val (.ref w), .val (.int (10 : Int32))] [(.int (8 : Int32)), (.ref w), (.int (8 : Int32)), (.ref b1), (.ref b1)])) rfl rfl (hb hby d1_298) _ ?_
    show Steps p.tables e below (T49.setTop (mkF m 299 #[.val (.ref w), .val (.int (10 : Int32))] [(.int c8), (.int (8 : Int32)), (.ref b1), (.ref b1)])) _
    refine st55 _ ?_
    refine XS.dup X55.here hx rfl (hb hby d1_300) rfl rfl ?_
    refine XS.bipush X55.here hx rfl (hb hby d1_301) ?_
    refine XS.aloadN X55.here hx rfl (hb hby d1_303) rfl rfl ?_
    refine XS.bipush X55.here hx rfl (hb hby d1_304) ?_
    show Steps p.tables e below (T55.setTop (mkF m 306 #[.val (.ref w), .val (.int (10 : Int32))] [(.int (9 : Int32)), (.ref w), (.int (9 : Int32)), (.ref b1), (.ref b1)])) _
    refine X55.caload hx (j := (9 : Int32)) (v := (.int c9)) (by rw [e55]; exact Ar60.1) (State.isArrayOf_alike hZ.alike Ar60.2.1) Ar60.2.2 in60 at60 (g := (mkF m 306 #[.val (.ref w), .val (.int (10 : Int32))] [(.int (9 : Int32)), (.ref w), (.int (9 : Int32)), (.ref b1), (.ref b1)])) rfl rfl (hb hby d1_306) _ ?_
    show Steps p.tables e below (T55.setTop (mkF m 307 #[.val (.ref w), .val (.int (10 : Int32))] [(.int c9), (.int (9 : Int32)), (.ref b1), (.ref b1)])) _
    refine st61 _ ?_
    exact kt
  obtain ⟨fs, hr, hrun, hended, hW, hsame⟩ := X61.leave (v := some (.ref b1)) (fun h => by rw [Bd.returns] at h; cases h)
  refine ⟨_, _, pre0 _ (S65 _ ?_), hrun, hended, _, _, rfl, ?_, ⟨_, rfl⟩, hW, hsame.mono (by decide) (by decide)⟩
  · exact retOut X61 hx Bd.returns rfl (Or.inr (Or.inr (Or.inr (Or.inr ⟨rfl, rfl, rfl⟩)))) (hb hby d1_308) hr
  · show Q_rm_cut10 Z w kw c0 c1 c2 c3 c4 c5 c6 c7 c8 c9 h0 n0 _ T61.heap _
    rw [e61]
    exact ⟨b1, k1, rfl, N64, K63, sz_b1, F61⟩
theorem d2_0 : decode prog_21_method_6_code 0 = .ok (.aload_n 0, 1) := by decide +kernel
theorem d2_1 : decode prog_21_method_6_code 1 = .ok (.ldc 128, 2) := by decide +kernel
theorem d2_3 : decode prog_21_method_6_code 3 = .ok (.invokevirtual 130, 3) := by decide +kernel
theorem pd_2 : parseMethodDescriptor "(Ljava/lang/Object;)Z" = some ⟨[(.object "java/lang/Object")], some .boolean⟩ := by decide +kernel
theorem d2_6 : decode prog_21_method_6_code 6 = .ok (.ifCond .ne 12, 3) := by decide +kernel
theorem d2_9 : decode prog_21_method_6_code 9 = .ok (.aload_n 0, 1) := by decide +kernel
theorem d2_10 : decode prog_21_method_6_code 10 = .ok (.ldc 134, 2) := by decide +kernel
theorem d2_12 : decode prog_21_method_6_code 12 = .ok (.invokevirtual 130, 3) := by decide +kernel
theorem d2_15 : decode prog_21_method_6_code 15 = .ok (.ifCond .eq 7, 3) := by decide +kernel
theorem d2_22 : decode prog_21_method_6_code 22 = .ok (.iconst 0, 1) := by decide +kernel
theorem d2_23 : decode prog_21_method_6_code 23 = .ok (.ireturn, 1) := by decide +kernel
theorem pn_1 : plainName "com/example/logtide/logtide/event/TemporalText" = true := by first | (simp [plainName, overriddenIn]; done) | decide +kernel
theorem ef_rm_inf6 (m : MethodId) (x0 : Addr) : entryFrame m #[(.ref x0)] 1 = mkF m 0 #[.val (.ref x0)] [] := by first | (simp [entryFrame, mkF, argsToLocals, Value.category]; done) | rfl
def Q_rm_inf6 (Z : State) (x : Addr) (tx : Addr) (kx : ClassId) (c0 : Int32) (c1 : Int32) (c2 : Int32) (c3 : Int32) (c4 : Int32) (c5 : Int32) (zc : Int32) (h0 : Heap) (n0 : Nat) (v : Option Value) (h : Heap) (L : List Loc) : Prop := ((v = some (.int (0 : Int32))) ∧ (Fr n0 L) ∧ (Keep h0 h []))
set_option maxRecDepth 65536 in
set_option maxHeartbeats 40000000 in
theorem rm_inf6 (l : Launch) (Z : State) (a0 : Array Value) (hw : ∀ d ∈ tables_1, d.before a0 Z = true) (ws : List Jvm.Cond) (x : Addr) (tx : Addr) (kx : ClassId) (c0 : Int32) (c1 : Int32) (c2 : Int32) (c3 : Int32) (c4 : Int32) (c5 : Int32) (zc : Int32) (h0 : Heap) (n0 : Nat) (O0 : Old Z n0 h0) (E_x : Exa Z h0 x "java/lang/String") (V_x : Fld Z h0 x "java/lang/String" "value" "[B" (.ref tx)) (C_x : Fld Z h0 x "java/lang/String" "coder" "B" (.int (0 : Int32))) (K_x : Arv Z h0 tx kx .byte (6 : Int32) [(.int c0.toInt8.toInt32), (.int c1.toInt8.toInt32), (.int c2.toInt8.toInt32), (.int c3.toInt8.toInt32), (.int c4.toInt8.toInt32), (.int c5.toInt8.toInt32)] (.int (0 : Int32))) (la_c0 : ¬ (c0 < (0 : Int32)) ∧ ¬ ((255 : Int32) < c0)) (la_c1 : ¬ (c1 < (0 : Int32)) ∧ ¬ ((255 : Int32) < c1)) (la_c2 : ¬ (c2 < (0 : Int32)) ∧ ¬ ((255 : Int32) < c2)) (la_c3 : ¬ (c3 < (0 : Int32)) ∧ ¬ ((255 : Int32) < c3)) (la_c4 : ¬ (c4 < (0 : Int32)) ∧ ¬ ((255 : Int32) < c4)) (la_c5 : ¬ (c5 < (0 : Int32)) ∧ ¬ ((255 : Int32) < c5)) (S_C : Sta Z Z.heap "java/lang/String" "COMPACT_STRINGS" "Z" (.int zc)) (hzc : ¬ (zc = (0 : Int32))) :
    MetFree l (⟨"com/example/logtide/logtide/event/TemporalText", "isInfinite", "(Ljava/lang/String;)Z"⟩ : MethodName) (head1 (Jvm.Cond.code (⟨"com/example/logtide/logtide/event/TemporalText", "isInfinite", "(Ljava/lang/String;)Z"⟩ : MethodName) prog_21_method_6_code 1 (some .boolean) :: ws) ({ frames := 2, cells := 4, slots := 80, locals := 28 } : Room)) (fun a U => a = #[(.ref x)] ∧ Z.Warmed39 U.vm ∧ U.heap = h0 ∧ CHv Z own_EL U.vm h0 ∧ ∀ own_y ∈ ([] : List Addr), Safe Z own_EL U.vm h0 own_y) (fun _ _ _ _ _ => True) (fun _ U o U' => ∃ v L, o = .returned v ∧ Q_rm_inf6 Z x tx kx c0 c1 c2 c3 c4 c5 zc h0 n0 v U'.heap L ∧ CHr Z own_EL U.vm U.heap U'.vm U'.heap ∧ ReturnedEndW U o U' L ({ frames := 2, cells := 4, slots := 80, locals := 28 } : Room).cells ({ frames := 2, cells := 4, slots := 80, locals := 28 } : Room).slots) := by
  refine MetFree.of_bodySF (plainFor_of_name pn_1) hisR ?_
  intro p e s m args below meth c s₁ Bd hml0 hP hK
  obtain ⟨rfl, hZ, hh, hCH, hSf⟩ := hP
  have hx := Bd.exec
  have hby := Bd.bytes
  have hml : c.maxLocals = 1 := hml0
  have hown : s.vm.findClass "com/example/logtide/logtide/event/TemporalText" = some m.cls := findClass_of_methodNamed Bd.named
  have hnm := (name_of_methodNamed Bd.named Bd.method).1
  have X0 : Stand p l e ({ frames := 2, cells := 4, slots := 80, locals := 28 } : Room) (s.setVm s.vm) m #[(.ref x)] below meth c s₁ [] 0 0 := Stand.of_body Bd
  have e0 : s₁.heap = h0 := by rw [← hh, Bd.state]; rfl
  have N0 := Fr.nil n0
  have hZ0 := hZ
  have ho0 := hown
  have hS0 : s.Since s.vm 0 := (State.WarmedH.refl s).since 0
  have hk0 : 0 ≤ h0.size := Nat.zero_le _
  have CR0 : CHr Z own_EL s.vm h0 s.vm h0 := CHr.refl hCH
  have own_at : ∀ d ∈ Bundle.stringAtoms, d.before a0 Z = true := fun d hd => hw d (own_atoms d hd)
  have own_ew : EW Z a0 own_EL := own_EWof hw
  have hwl : ∀ d ∈ StrChars.Road.wordsLen, d.before a0 Z = true := fun d hd => hw d (own_wordsLen d hd)
  have hwc : ∀ d ∈ StrChars.Road.wordsChN, d.before a0 Z = true := fun d hd => hw d (own_wordsChN d hd)
  have hwq : ∀ d ∈ StrChars.Road.wordsEq, d.before a0 Z = true := fun d hd => hw d (own_wordsEq d hd)
  have hws : ∀ d ∈ StrChars.Road.words, d.before a0 Z = true := fun d hd => hw d (own_words d hd)
  have K0 : Keep h0 h0 [] := Keep.refl _ _
  have pre0 : ∀ t, Steps p.tables e below (s₁.setTop (mkF m 0 #[.val (.ref x)] [])) t → Steps p.tables e below (s₁.setTop (entryFrame m #[(.ref x)] 1)) t := fun t k => castTop (ef_rm_inf6 m x) k
  obtain ⟨x1, T1, h1, q1, y1, j1, X1, e1, E1, hS1, hk1, hZ1, ho1, fE1, fC1, fV1, fA1, la1, lb1, C1, -, ns1, st1⟩ := ldcCH X0 hx hZ0 ho0 (own_w hw 77 rfl) own_at e0 hS0 hk0 own_ew (by decide) CR0.1 (vs := [(.int (105 : Int32).toInt8.toInt32), (.int (110 : Int32).toInt8.toInt32), (.int (102 : Int32).toInt8.toInt32), (.int (105 : Int32).toInt8.toInt32), (.int (110 : Int32).toInt8.toInt32), (.int (105 : Int32).toInt8.toInt32), (.int (116 : Int32).toInt8.toInt32), (.int (121 : Int32).toInt8.toInt32)]) (z := (8 : Int32)) ⟨by decide, by decide +kernel⟩ (by decide) rfl (g := (mkF m 1 #[.val (.ref x)] [(.ref x)])) rfl (hb hby d2_1) (n := 36) (by decide) (by decide) (by decide) (by decide)
  have O2 := O0.ext E1
  have K3 : Keep h0 h1 [] := K0.ext E1
  have CR4 := CR0.trans C1
  have f6 := (Exa.ext E1 E_x)
  have f7 := (Fld.ext E1 V_x)
  have f8 := (Fld.ext E1 C_x)
  have f9 := (Arv.ext K_x E1)
  have la10 : ∀ c ∈ ([c0, c1, c2, c3, c4, c5] : List Int32), ¬ c < 0 ∧ ¬ (255 : Int32) < c := by
    intro c hc
    simp only [List.mem_cons, List.not_mem_nil, or_false] at hc
    rcases hc with rfl | rfl | rfl | rfl | rfl | rfl
    · exact la_c0
    · exact la_c1
    · exact la_c2
    · exact la_c3
    · exact la_c4
    · exact la_c5
  have cd10 : StrChars.Road.CodA ([c0, c1, c2, c3, c4, c5] : List Int32) 0 (6 : Int32) [(.int c0.toInt8.toInt32), (.int c1.toInt8.toInt32), (.int c2.toInt8.toInt32), (.int c3.toInt8.toInt32), (.int c4.toInt8.toInt32), (.int c5.toInt8.toInt32)] := StrChars.Road.codOf (n := 6) rfl (fun x hx => (la10 x hx).2)
  have bd10 := own_up la10
  have la11 : ∀ c ∈ ([(105 : Int32), (110 : Int32), (102 : Int32), (105 : Int32), (110 : Int32), (105 : Int32), (116 : Int32), (121 : Int32)] : List Int32), ¬ c < 0 ∧ ¬ (255 : Int32) < c := by
    intro c hc
    simp only [List.mem_cons, List.not_mem_nil, or_false] at hc
    rcases hc with rfl | rfl | rfl | rfl | rfl | rfl | rfl | rfl
    · exact ⟨by decide, by decide⟩
    · exact ⟨by decide, by decide⟩
    · exact ⟨by decide, by decide⟩
    · exact ⟨by decide, by decide⟩
    · exact ⟨by decide, by decide⟩
    · exact ⟨by decide, by decide⟩
    · exact ⟨by decide, by decide⟩
    · exact ⟨by decide, by decide⟩
  have cd11 : StrChars.Road.CodA ([(105 : Int32), (110 : Int32), (102 : Int32), (105 : Int32), (110 : Int32), (105 : Int32), (116 : Int32), (121 : Int32)] : List Int32) 0 (8 : Int32) [(.int (105 : Int32).toInt8.toInt32), (.int (110 : Int32).toInt8.toInt32), (.int (102 : Int32).toInt8.toInt32), (.int (105 : Int32).toInt8.toInt32), (.int (110 : Int32).toInt8.toInt32), (.int (105 : Int32).toInt8.toInt32), (.int (116 : Int32).toInt8.toInt32), (.int (121 : Int32).toInt8.toInt32)] := StrChars.Road.codOf (n := 8) rfl (fun x hx => (la11 x hx).2)
  have bd11 := own_up la11
  obtain ⟨cq5, kq5, q5a, q5b, q5c⟩ := isOf hZ1 e1 f6
  obtain ⟨_, _, ⟨T5, L5, k5, n5⟩, -, X5, ⟨Lc5, hQ5, l5, y5, z5⟩, st5⟩ := X1.virtualBack hx (y := (⟨"java/lang/String", "equals", "(Ljava/lang/Object;)Z"⟩ : MethodName)) (z := (⟨"java/lang/String", "equals", "(Ljava/lang/Object;)Z"⟩ : MethodName)) ho1 (mvT hZ1 (own_w hw 78 rfl)) (mvT hZ1 (own_w hw 79 rfl)) (notFace_of_selects (args := #[]) (mvT hZ1 (own_w hw 81 rfl))) (mvT hZ1 (own_w hw 81 rfl)) (mvT hZ1 (own_w hw 80 rfl)) (by decide) (StrChars.Road.eqW (W := 0) hZ1 hwq (kI := 4) (own_w hw 3 rfl) (cs := [c0, c1, c2, c3, c4, c5]) f6 f7 f8 f9 cd10 bd10 (by show 6 ≤ 4000; decide) (ds := [(105 : Int32), (110 : Int32), (102 : Int32), (105 : Int32), (110 : Int32), (105 : Int32), (116 : Int32), (121 : Int32)]) fE1 fV1 fC1 fA1 cd11 bd11 (by show 8 ≤ 4000; decide) (S_C.ext O2.2) hzc (by decide) (by decide)) q5a q5c (g := (mkF m 3 #[.val (.ref x)] [(.ref x1), (.ref x)])) rfl (by rw [hml]; rfl) (Steps.refl _) (argsL := [(.ref x1)]) (rest := []) (lenOf pd_2 rfl) rfl (by show 2 * 0 + _ ≤ _; exact Nat.le_of_eq rfl) (hb hby d2_3) (fun _ _ => ⟨rfl, e1, (by decide : 2 + 0 ≤ _), (by decide : 40 + 0 ≤ _)⟩)
  dsimp only [Pt.U, Pt.locs, Pt.cells, Pt.slots] at X5 l5 y5 z5 st5 hQ5
  subst l5 y5 z5
  obtain ⟨hQ5, rfl, k12⟩ := hQ5
  have N14 := Fr.app N0 (Fr.nil n0)
  rcases hQ5 with ⟨rfl, c13⟩ | ⟨rfl, c13⟩
  · exact absurd c13 (fun q => by have := congrArg List.length q; simp at this)
  · obtain ⟨x15, T15, h15, q15, y15, j15, X15, e15, E15, hS15, hk15, hZ15, ho15, fE15, fC15, fV15, fA15, la15, lb15, C15, -, ns15, st15⟩ := ldcCH X5 hx hZ1 ho1 (own_w hw 87 rfl) own_at k12 hS1 hk1 own_ew (by decide) CR4.1 (vs := [(.int (45 : Int32).toInt8.toInt32), (.int (105 : Int32).toInt8.toInt32), (.int (110 : Int32).toInt8.toInt32), (.int (102 : Int32).toInt8.toInt32), (.int (105 : Int32).toInt8.toInt32), (.int (110 : Int32).toInt8.toInt32), (.int (105 : Int32).toInt8.toInt32), (.int (116 : Int32).toInt8.toInt32), (.int (121 : Int32).toInt8.toInt32)]) (z := (9 : Int32)) ⟨by decide, by decide +kernel⟩ (by decide) rfl (g := (mkF m 10 #[.val (.ref x)] [(.ref x)])) rfl (hb hby d2_10) (n := 36) (by decide) (by decide) (by decide) (by decide)
    have O16 := O2.ext E15
    have K17 : Keep h0 h15 [] := K3.ext E15
    have CR18 := CR4.trans C15
    have f20 := (Exa.ext E15 f6)
    have f21 := (Fld.ext E15 f7)
    have f22 := (Fld.ext E15 f8)
    have f23 := (Arv.ext f9 E15)
    have la24 : ∀ c ∈ ([(45 : Int32), (105 : Int32), (110 : Int32), (102 : Int32), (105 : Int32), (110 : Int32), (105 : Int32), (116 : Int32), (121 : Int32)] : List Int32), ¬ c < 0 ∧ ¬ (255 : Int32) < c := by
      intro c hc
      simp only [List.mem_cons, List.not_mem_nil, or_false] at hc
      rcases hc with rfl | rfl | rfl | rfl | rfl | rfl | rfl | rfl | rfl
      · exact ⟨by decide, by decide⟩
      · exact ⟨by decide, by decide⟩
      · exact ⟨by decide, by decide⟩
      · exact ⟨by decide, by decide⟩
      · exact ⟨by decide, by decide⟩
      · exact ⟨by decide, by decide⟩
      · exact ⟨by decide, by decide⟩
      · exact ⟨by decide, by decide⟩
      · exact ⟨by decide, by decide⟩
    have cd24 : StrChars.Road.CodA ([(45 : Int32), (105 : Int32), (110 : Int32), (102 : Int32), (105 : Int32), (110 : Int32), (105 : Int32), (116 : Int32), (121 : Int32)] : List Int32) 0 (9 : Int32) [(.int (45 : Int32).toInt8.toInt32), (.int (105 : Int32).toInt8.toInt32), (.int (110 : Int32).toInt8.toInt32), (.int (102 : Int32).toInt8.toInt32), (.int (105 : Int32).toInt8.toInt32), (.int (110 : Int32).toInt8.toInt32), (.int (105 : Int32).toInt8.toInt32), (.int (116 : Int32).toInt8.toInt32), (.int (121 : Int32).toInt8.toInt32)] := StrChars.Road.codOf (n := 9) rfl (fun x hx => (la24 x hx).2)
    have bd24 := own_up la24
    obtain ⟨cq19, kq19, q19a, q19b, q19c⟩ := isOf hZ15 e15 f20
    obtain ⟨_, _, ⟨T19, L19, k19, n19⟩, -, X19, ⟨Lc19, hQ19, l19, y19, z19⟩, st19⟩ := X15.virtualBack hx (y := (⟨"java/lang/String", "equals", "(Ljava/lang/Object;)Z"⟩ : MethodName)) (z := (⟨"java/lang/String", "equals", "(Ljava/lang/Object;)Z"⟩ : MethodName)) ho15 (mvT hZ15 (own_w hw 78 rfl)) (mvT hZ15 (own_w hw 79 rfl)) (notFace_of_selects (args := #[]) (mvT hZ15 (own_w hw 81 rfl))) (mvT hZ15 (own_w hw 81 rfl)) (mvT hZ15 (own_w hw 80 rfl)) (by decide) (StrChars.Road.eqW (W := 0) hZ15 hwq (kI := 4) (own_w hw 3 rfl) (cs := [c0, c1, c2, c3, c4, c5]) f20 f21 f22 f23 cd10 bd10 (by show 6 ≤ 4000; decide) (ds := [(45 : Int32), (105 : Int32), (110 : Int32), (102 : Int32), (105 : Int32), (110 : Int32), (105 : Int32), (116 : Int32), (121 : Int32)]) fE15 fV15 fC15 fA15 cd24 bd24 (by show 9 ≤ 4000; decide) (S_C.ext O16.2) hzc (by decide) (by decide)) q19a q19c (g := (mkF m 12 #[.val (.ref x)] [(.ref x15), (.ref x)])) rfl (by rw [hml]; rfl) (Steps.refl _) (argsL := [(.ref x15)]) (rest := []) (lenOf pd_2 rfl) rfl (by show 2 * 0 + _ ≤ _; exact Nat.le_of_eq rfl) (hb hby d2_12) (fun _ _ => ⟨rfl, e15, (by decide : 4 + 0 ≤ _), (by decide : 80 + 0 ≤ _)⟩)
    dsimp only [Pt.U, Pt.locs, Pt.cells, Pt.slots] at X19 l19 y19 z19 st19 hQ19
    subst l19 y19 z19
    obtain ⟨hQ19, rfl, k25⟩ := hQ19
    have N27 := Fr.app N14 (Fr.nil n0)
    rcases hQ19 with ⟨rfl, c26⟩ | ⟨rfl, c26⟩
    · exact absurd c26 (fun q => by have := congrArg List.length q; simp at this)
    · have S28 : ∀ t, Steps p.tables e below (T19.setTop (mkF m 23 #[.val (.ref x)] [(.int (0 : Int32))])) t → Steps p.tables e below (s₁.setTop (mkF m 0 #[.val (.ref x)] [])) t := by
        intro t kt
        refine XS.aloadN X0.here hx rfl (hb hby d2_0) rfl rfl ?_
        show Steps p.tables e below (s₁.setTop (mkF m 1 #[.val (.ref x)] [(.ref x)])) _
        refine st1 _ ?_
        show Steps p.tables e below (T1.setTop (mkF m 3 #[.val (.ref x)] [(.ref x1), (.ref x)])) _
        refine st5.trans ?_
        refine XS.ifNo X5.here hx rfl (hb hby d2_6) rfl ((if0 _ _).trans (teq ((by decide) : (0 : Int32) = (0 : Int32))).2) ?_
        refine XS.aloadN X5.here hx rfl (hb hby d2_9) rfl rfl ?_
        show Steps p.tables e below (T5.setTop (mkF m 10 #[.val (.ref x)] [(.ref x)])) _
        refine st15 _ ?_
        show Steps p.tables e below (T15.setTop (mkF m 12 #[.val (.ref x)] [(.ref x15), (.ref x)])) _
        refine st19.trans ?_
        refine XS.ifYes X19.here hx rfl (pc0 := 15) (pc' := 22) rfl (hb hby d2_15) rfl ((if0 _ _).trans (teq ((by decide) : (0 : Int32) = (0 : Int32))).1) (by decide) (by decide) ?_
        refine XS.iconst X19.here hx rfl (hb hby d2_22) ?_
        exact kt
      obtain ⟨fs, hr, hrun, hended, hRW⟩ := X19.leaveW hS15 (by rw [k25]; exact hk15) (v := some (.int (0 : Int32))) (fun h => by rw [Bd.returns] at h; cases h)
      refine ⟨_, _, pre0 _ (S28 _ ?_), hrun, hended, _, _, rfl, ?_, ?_, hRW.1, hRW.2.1, hRW.2.2.1, hRW.2.2.2.mono (by decide) (by decide)⟩
      · exact retN X19 hx (t := .boolean) Bd.returns (by simp) (hb hby d2_23) hr
      · show Q_rm_inf6 Z x tx kx c0 c1 c2 c3 c4 c5 zc h0 n0 _ T19.heap _
        rw [k25]
        exact ⟨rfl, N27, K17⟩
      · show CHr Z own_EL s.vm s.heap T19.vm T19.heap
        rw [hh, k25]
        exact CR18.trans (CHv.at X19 hZ15 own_ew CR18.1)
theorem ef_rm_inf7 (m : MethodId) (x0 : Addr) : entryFrame m #[(.ref x0)] 1 = mkF m 0 #[.val (.ref x0)] [] := by first | (simp [entryFrame, mkF, argsToLocals, Value.category]; done) | rfl
def Q_rm_inf7 (Z : State) (x : Addr) (tx : Addr) (kx : ClassId) (c0 : Int32) (c1 : Int32) (c2 : Int32) (c3 : Int32) (c4 : Int32) (c5 : Int32) (c6 : Int32) (zc : Int32) (h0 : Heap) (n0 : Nat) (v : Option Value) (h : Heap) (L : List Loc) : Prop := ((v = some (.int (0 : Int32))) ∧ (Fr n0 L) ∧ (Keep h0 h []))
set_option maxRecDepth 65536 in
set_option maxHeartbeats 40000000 in
theorem rm_inf7 (l : Launch) (Z : State) (a0 : Array Value) (hw : ∀ d ∈ tables_1, d.before a0 Z = true) (ws : List Jvm.Cond) (x : Addr) (tx : Addr) (kx : ClassId) (c0 : Int32) (c1 : Int32) (c2 : Int32) (c3 : Int32) (c4 : Int32) (c5 : Int32) (c6 : Int32) (zc : Int32) (h0 : Heap) (n0 : Nat) (O0 : Old Z n0 h0) (E_x : Exa Z h0 x "java/lang/String") (V_x : Fld Z h0 x "java/lang/String" "value" "[B" (.ref tx)) (C_x : Fld Z h0 x "java/lang/String" "coder" "B" (.int (0 : Int32))) (K_x : Arv Z h0 tx kx .byte (7 : Int32) [(.int c0.toInt8.toInt32), (.int c1.toInt8.toInt32), (.int c2.toInt8.toInt32), (.int c3.toInt8.toInt32), (.int c4.toInt8.toInt32), (.int c5.toInt8.toInt32), (.int c6.toInt8.toInt32)] (.int (0 : Int32))) (la_c0 : ¬ (c0 < (0 : Int32)) ∧ ¬ ((255 : Int32) < c0)) (la_c1 : ¬ (c1 < (0 : Int32)) ∧ ¬ ((255 : Int32) < c1)) (la_c2 : ¬ (c2 < (0 : Int32)) ∧ ¬ ((255 : Int32) < c2)) (la_c3 : ¬ (c3 < (0 : Int32)) ∧ ¬ ((255 : Int32) < c3)) (la_c4 : ¬ (c4 < (0 : Int32)) ∧ ¬ ((255 : Int32) < c4)) (la_c5 : ¬ (c5 < (0 : Int32)) ∧ ¬ ((255 : Int32) < c5)) (la_c6 : ¬ (c6 < (0 : Int32)) ∧ ¬ ((255 : Int32) < c6)) (S_C : Sta Z Z.heap "java/lang/String" "COMPACT_STRINGS" "Z" (.int zc)) (hzc : ¬ (zc = (0 : Int32))) :
    MetFree l (⟨"com/example/logtide/logtide/event/TemporalText", "isInfinite", "(Ljava/lang/String;)Z"⟩ : MethodName) (head1 (Jvm.Cond.code (⟨"com/example/logtide/logtide/event/TemporalText", "isInfinite", "(Ljava/lang/String;)Z"⟩ : MethodName) prog_21_method_6_code 1 (some .boolean) :: ws) ({ frames := 2, cells := 4, slots := 80, locals := 28 } : Room)) (fun a U => a = #[(.ref x)] ∧ Z.Warmed39 U.vm ∧ U.heap = h0 ∧ CHv Z own_EL U.vm h0 ∧ ∀ own_y ∈ ([] : List Addr), Safe Z own_EL U.vm h0 own_y) (fun _ _ _ _ _ => True) (fun _ U o U' => ∃ v L, o = .returned v ∧ Q_rm_inf7 Z x tx kx c0 c1 c2 c3 c4 c5 c6 zc h0 n0 v U'.heap L ∧ CHr Z own_EL U.vm U.heap U'.vm U'.heap ∧ ReturnedEndW U o U' L ({ frames := 2, cells := 4, slots := 80, locals := 28 } : Room).cells ({ frames := 2, cells := 4, slots := 80, locals := 28 } : Room).slots) := by
  refine MetFree.of_bodySF (plainFor_of_name pn_1) hisR ?_
  intro p e s m args below meth c s₁ Bd hml0 hP hK
  obtain ⟨rfl, hZ, hh, hCH, hSf⟩ := hP
  have hx := Bd.exec
  have hby := Bd.bytes
  have hml : c.maxLocals = 1 := hml0
  have hown : s.vm.findClass "com/example/logtide/logtide/event/TemporalText" = some m.cls := findClass_of_methodNamed Bd.named
  have hnm := (name_of_methodNamed Bd.named Bd.method).1
  have X0 : Stand p l e ({ frames := 2, cells := 4, slots := 80, locals := 28 } : Room) (s.setVm s.vm) m #[(.ref x)] below meth c s₁ [] 0 0 := Stand.of_body Bd
  have e0 : s₁.heap = h0 := by rw [← hh, Bd.state]; rfl
  have N0 := Fr.nil n0
  have hZ0 := hZ
  have ho0 := hown
  have hS0 : s.Since s.vm 0 := (State.WarmedH.refl s).since 0
  have hk0 : 0 ≤ h0.size := Nat.zero_le _
  have CR0 : CHr Z own_EL s.vm h0 s.vm h0 := CHr.refl hCH
  have own_at : ∀ d ∈ Bundle.stringAtoms, d.before a0 Z = true := fun d hd => hw d (own_atoms d hd)
  have own_ew : EW Z a0 own_EL := own_EWof hw
  have hwl : ∀ d ∈ StrChars.Road.wordsLen, d.before a0 Z = true := fun d hd => hw d (own_wordsLen d hd)
  have hwc : ∀ d ∈ StrChars.Road.wordsChN, d.before a0 Z = true := fun d hd => hw d (own_wordsChN d hd)
  have hwq : ∀ d ∈ StrChars.Road.wordsEq, d.before a0 Z = true := fun d hd => hw d (own_wordsEq d hd)
  have hws : ∀ d ∈ StrChars.Road.words, d.before a0 Z = true := fun d hd => hw d (own_words d hd)
  have K0 : Keep h0 h0 [] := Keep.refl _ _
  have pre0 : ∀ t, Steps p.tables e below (s₁.setTop (mkF m 0 #[.val (.ref x)] [])) t → Steps p.tables e below (s₁.setTop (entryFrame m #[(.ref x)] 1)) t := fun t k => castTop (ef_rm_inf7 m x) k
  obtain ⟨x1, T1, h1, q1, y1, j1, X1, e1, E1, hS1, hk1, hZ1, ho1, fE1, fC1, fV1, fA1, la1, lb1, C1, -, ns1, st1⟩ := ldcCH X0 hx hZ0 ho0 (own_w hw 77 rfl) own_at e0 hS0 hk0 own_ew (by decide) CR0.1 (vs := [(.int (105 : Int32).toInt8.toInt32), (.int (110 : Int32).toInt8.toInt32), (.int (102 : Int32).toInt8.toInt32), (.int (105 : Int32).toInt8.toInt32), (.int (110 : Int32).toInt8.toInt32), (.int (105 : Int32).toInt8.toInt32), (.int (116 : Int32).toInt8.toInt32), (.int (121 : Int32).toInt8.toInt32)]) (z := (8 : Int32)) ⟨by decide, by decide +kernel⟩ (by decide) rfl (g := (mkF m 1 #[.val (.ref x)] [(.ref x)])) rfl (hb hby d2_1) (n := 36) (by decide) (by decide) (by decide) (by decide)
  have O2 := O0.ext E1
  have K3 : Keep h0 h1 [] := K0.ext E1
  have CR4 := CR0.trans C1
  have f6 := (Exa.ext E1 E_x)
  have f7 := (Fld.ext E1 V_x)
  have f8 := (Fld.ext E1 C_x)
  have f9 := (Arv.ext K_x E1)
  have la10 : ∀ c ∈ ([c0, c1, c2, c3, c4, c5, c6] : List Int32), ¬ c < 0 ∧ ¬ (255 : Int32) < c := by
    intro c hc
    simp only [List.mem_cons, List.not_mem_nil, or_false] at hc
    rcases hc with rfl | rfl | rfl | rfl | rfl | rfl | rfl
    · exact la_c0
    · exact la_c1
    · exact la_c2
    · exact la_c3
    · exact la_c4
    · exact la_c5
    · exact la_c6
  have cd10 : StrChars.Road.CodA ([c0, c1, c2, c3, c4, c5, c6] : List Int32) 0 (7 : Int32) [(.int c0.toInt8.toInt32), (.int c1.toInt8.toInt32), (.int c2.toInt8.toInt32), (.int c3.toInt8.toInt32), (.int c4.toInt8.toInt32), (.int c5.toInt8.toInt32), (.int c6.toInt8.toInt32)] := StrChars.Road.codOf (n := 7) rfl (fun x hx => (la10 x hx).2)
  have bd10 := own_up la10
  have la11 : ∀ c ∈ ([(105 : Int32), (110 : Int32), (102 : Int32), (105 : Int32), (110 : Int32), (105 : Int32), (116 : Int32), (121 : Int32)] : List Int32), ¬ c < 0 ∧ ¬ (255 : Int32) < c := by
    intro c hc
    simp only [List.mem_cons, List.not_mem_nil, or_false] at hc
    rcases hc with rfl | rfl | rfl | rfl | rfl | rfl | rfl | rfl
    · exact ⟨by decide, by decide⟩
    · exact ⟨by decide, by decide⟩
    · exact ⟨by decide, by decide⟩
    · exact ⟨by decide, by decide⟩
    · exact ⟨by decide, by decide⟩
    · exact ⟨by decide, by decide⟩
    · exact ⟨by decide, by decide⟩
    · exact ⟨by decide, by decide⟩
  have cd11 : StrChars.Road.CodA ([(105 : Int32), (110 : Int32), (102 : Int32), (105 : Int32), (110 : Int32), (105 : Int32), (116 : Int32), (121 : Int32)] : List Int32) 0 (8 : Int32) [(.int (105 : Int32).toInt8.toInt32), (.int (110 : Int32).toInt8.toInt32), (.int (102 : Int32).toInt8.toInt32), (.int (105 : Int32).toInt8.toInt32), (.int (110 : Int32).toInt8.toInt32), (.int (105 : Int32).toInt8.toInt32), (.int (116 : Int32).toInt8.toInt32), (.int (121 : Int32).toInt8.toInt32)] := StrChars.Road.codOf (n := 8) rfl (fun x hx => (la11 x hx).2)
  have bd11 := own_up la11
  obtain ⟨cq5, kq5, q5a, q5b, q5c⟩ := isOf hZ1 e1 f6
  obtain ⟨_, _, ⟨T5, L5, k5, n5⟩, -, X5, ⟨Lc5, hQ5, l5, y5, z5⟩, st5⟩ := X1.virtualBack hx (y := (⟨"java/lang/String", "equals", "(Ljava/lang/Object;)Z"⟩ : MethodName)) (z := (⟨"java/lang/String", "equals", "(Ljava/lang/Object;)Z"⟩ : MethodName)) ho1 (mvT hZ1 (own_w hw 78 rfl)) (mvT hZ1 (own_w hw 79 rfl)) (notFace_of_selects (args := #[]) (mvT hZ1 (own_w hw 81 rfl))) (mvT hZ1 (own_w hw 81 rfl)) (mvT hZ1 (own_w hw 80 rfl)) (by decide) (StrChars.Road.eqW (W := 0) hZ1 hwq (kI := 4) (own_w hw 3 rfl) (cs := [c0, c1, c2, c3, c4, c5, c6]) f6 f7 f8 f9 cd10 bd10 (by show 7 ≤ 4000; decide) (ds := [(105 : Int32), (110 : Int32), (102 : Int32), (105 : Int32), (110 : Int32), (105 : Int32), (116 : Int32), (121 : Int32)]) fE1 fV1 fC1 fA1 cd11 bd11 (by show 8 ≤ 4000; decide) (S_C.ext O2.2) hzc (by decide) (by decide)) q5a q5c (g := (mkF m 3 #[.val (.ref x)] [(.ref x1), (.ref x)])) rfl (by rw [hml]; rfl) (Steps.refl _) (argsL := [(.ref x1)]) (rest := []) (lenOf pd_2 rfl) rfl (by show 2 * 0 + _ ≤ _; exact Nat.le_of_eq rfl) (hb hby d2_3) (fun _ _ => ⟨rfl, e1, (by decide : 2 + 0 ≤ _), (by decide : 40 + 0 ≤ _)⟩)
  dsimp only [Pt.U, Pt.locs, Pt.cells, Pt.slots] at X5 l5 y5 z5 st5 hQ5
  subst l5 y5 z5
  obtain ⟨hQ5, rfl, k12⟩ := hQ5
  have N14 := Fr.app N0 (Fr.nil n0)
  rcases hQ5 with ⟨rfl, c13⟩ | ⟨rfl, c13⟩
  · exact absurd c13 (fun q => by have := congrArg List.length q; simp at this)
  · obtain ⟨x15, T15, h15, q15, y15, j15, X15, e15, E15, hS15, hk15, hZ15, ho15, fE15, fC15, fV15, fA15, la15, lb15, C15, -, ns15, st15⟩ := ldcCH X5 hx hZ1 ho1 (own_w hw 87 rfl) own_at k12 hS1 hk1 own_ew (by decide) CR4.1 (vs := [(.int (45 : Int32).toInt8.toInt32), (.int (105 : Int32).toInt8.toInt32), (.int (110 : Int32).toInt8.toInt32), (.int (102 : Int32).toInt8.toInt32), (.int (105 : Int32).toInt8.toInt32), (.int (110 : Int32).toInt8.toInt32), (.int (105 : Int32).toInt8.toInt32), (.int (116 : Int32).toInt8.toInt32), (.int (121 : Int32).toInt8.toInt32)]) (z := (9 : Int32)) ⟨by decide, by decide +kernel⟩ (by decide) rfl (g := (mkF m 10 #[.val (.ref x)] [(.ref x)])) rfl (hb hby d2_10) (n := 36) (by decide) (by decide) (by decide) (by decide)
    have O16 := O2.ext E15
    have K17 : Keep h0 h15 [] := K3.ext E15
    have CR18 := CR4.trans C15
    have f20 := (Exa.ext E15 f6)
    have f21 := (Fld.ext E15 f7)
    have f22 := (Fld.ext E15 f8)
    have f23 := (Arv.ext f9 E15)
    have la24 : ∀ c ∈ ([(45 : Int32), (105 : Int32), (110 : Int32), (102 : Int32), (105 : Int32), (110 : Int32), (105 : Int32), (116 : Int32), (121 : Int32)] : List Int32), ¬ c < 0 ∧ ¬ (255 : Int32) < c := by
      intro c hc
      simp only [List.mem_cons, List.not_mem_nil, or_false] at hc
      rcases hc with rfl | rfl | rfl | rfl | rfl | rfl | rfl | rfl | rfl
      · exact ⟨by decide, by decide⟩
      · exact ⟨by decide, by decide⟩
      · exact ⟨by decide, by decide⟩
      · exact ⟨by decide, by decide⟩
      · exact ⟨by decide, by decide⟩
      · exact ⟨by decide, by decide⟩
      · exact ⟨by decide, by decide⟩
      · exact ⟨by decide, by decide⟩
      · exact ⟨by decide, by decide⟩
    have cd24 : StrChars.Road.CodA ([(45 : Int32), (105 : Int32), (110 : Int32), (102 : Int32), (105 : Int32), (110 : Int32), (105 : Int32), (116 : Int32), (121 : Int32)] : List Int32) 0 (9 : Int32) [(.int (45 : Int32).toInt8.toInt32), (.int (105 : Int32).toInt8.toInt32), (.int (110 : Int32).toInt8.toInt32), (.int (102 : Int32).toInt8.toInt32), (.int (105 : Int32).toInt8.toInt32), (.int (110 : Int32).toInt8.toInt32), (.int (105 : Int32).toInt8.toInt32), (.int (116 : Int32).toInt8.toInt32), (.int (121 : Int32).toInt8.toInt32)] := StrChars.Road.codOf (n := 9) rfl (fun x hx => (la24 x hx).2)
    have bd24 := own_up la24
    obtain ⟨cq19, kq19, q19a, q19b, q19c⟩ := isOf hZ15 e15 f20
    obtain ⟨_, _, ⟨T19, L19, k19, n19⟩, -, X19, ⟨Lc19, hQ19, l19, y19, z19⟩, st19⟩ := X15.virtualBack hx (y := (⟨"java/lang/String", "equals", "(Ljava/lang/Object;)Z"⟩ : MethodName)) (z := (⟨"java/lang/String", "equals", "(Ljava/lang/Object;)Z"⟩ : MethodName)) ho15 (mvT hZ15 (own_w hw 78 rfl)) (mvT hZ15 (own_w hw 79 rfl)) (notFace_of_selects (args := #[]) (mvT hZ15 (own_w hw 81 rfl))) (mvT hZ15 (own_w hw 81 rfl)) (mvT hZ15 (own_w hw 80 rfl)) (by decide) (StrChars.Road.eqW (W := 0) hZ15 hwq (kI := 4) (own_w hw 3 rfl) (cs := [c0, c1, c2, c3, c4, c5, c6]) f20 f21 f22 f23 cd10 bd10 (by show 7 ≤ 4000; decide) (ds := [(45 : Int32), (105 : Int32), (110 : Int32), (102 : Int32), (105 : Int32), (110 : Int32), (105 : Int32), (116 : Int32), (121 : Int32)]) fE15 fV15 fC15 fA15 cd24 bd24 (by show 9 ≤ 4000; decide) (S_C.ext O16.2) hzc (by decide) (by decide)) q19a q19c (g := (mkF m 12 #[.val (.ref x)] [(.ref x15), (.ref x)])) rfl (by rw [hml]; rfl) (Steps.refl _) (argsL := [(.ref x15)]) (rest := []) (lenOf pd_2 rfl) rfl (by show 2 * 0 + _ ≤ _; exact Nat.le_of_eq rfl) (hb hby d2_12) (fun _ _ => ⟨rfl, e15, (by decide : 4 + 0 ≤ _), (by decide : 80 + 0 ≤ _)⟩)
    dsimp only [Pt.U, Pt.locs, Pt.cells, Pt.slots] at X19 l19 y19 z19 st19 hQ19
    subst l19 y19 z19
    obtain ⟨hQ19, rfl, k25⟩ := hQ19
    have N27 := Fr.app N14 (Fr.nil n0)
    rcases hQ19 with ⟨rfl, c26⟩ | ⟨rfl, c26⟩
    · exact absurd c26 (fun q => by have := congrArg List.length q; simp at this)
    · have S28 : ∀ t, Steps p.tables e below (T19.setTop (mkF m 23 #[.val (.ref x)] [(.int (0 : Int32))])) t → Steps p.tables e below (s₁.setTop (mkF m 0 #[.val (.ref x)] [])) t := by
        intro t kt
        refine XS.aloadN X0.here hx rfl (hb hby d2_0) rfl rfl ?_
        show Steps p.tables e below (s₁.setTop (mkF m 1 #[.val (.ref x)] [(.ref x)])) _
        refine st1 _ ?_
        show Steps p.tables e below (T1.setTop (mkF m 3 #[.val (.ref x)] [(.ref x1), (.ref x)])) _
        refine st5.trans ?_
        refine XS.ifNo X5.here hx rfl (hb hby d2_6) rfl ((if0 _ _).trans (teq ((by decide) : (0 : Int32) = (0 : Int32))).2) ?_
        refine XS.aloadN X5.here hx rfl (hb hby d2_9) rfl rfl ?_
        show Steps p.tables e below (T5.setTop (mkF m 10 #[.val (.ref x)] [(.ref x)])) _
        refine st15 _ ?_
        show Steps p.tables e below (T15.setTop (mkF m 12 #[.val (.ref x)] [(.ref x15), (.ref x)])) _
        refine st19.trans ?_
        refine XS.ifYes X19.here hx rfl (pc0 := 15) (pc' := 22) rfl (hb hby d2_15) rfl ((if0 _ _).trans (teq ((by decide) : (0 : Int32) = (0 : Int32))).1) (by decide) (by decide) ?_
        refine XS.iconst X19.here hx rfl (hb hby d2_22) ?_
        exact kt
      obtain ⟨fs, hr, hrun, hended, hRW⟩ := X19.leaveW hS15 (by rw [k25]; exact hk15) (v := some (.int (0 : Int32))) (fun h => by rw [Bd.returns] at h; cases h)
      refine ⟨_, _, pre0 _ (S28 _ ?_), hrun, hended, _, _, rfl, ?_, ?_, hRW.1, hRW.2.1, hRW.2.2.1, hRW.2.2.2.mono (by decide) (by decide)⟩
      · exact retN X19 hx (t := .boolean) Bd.returns (by simp) (hb hby d2_23) hr
      · show Q_rm_inf7 Z x tx kx c0 c1 c2 c3 c4 c5 c6 zc h0 n0 _ T19.heap _
        rw [k25]
        exact ⟨rfl, N27, K17⟩
      · show CHr Z own_EL s.vm s.heap T19.vm T19.heap
        rw [hh, k25]
        exact CR18.trans (CHv.at X19 hZ15 own_ew CR18.1)
theorem d2_18 : decode prog_21_method_6_code 18 = .ok (.iconst 1, 1) := by decide +kernel
theorem d2_19 : decode prog_21_method_6_code 19 = .ok (.goto 4, 3) := by decide +kernel
theorem ef_rm_inf8 (m : MethodId) (x0 : Addr) : entryFrame m #[(.ref x0)] 1 = mkF m 0 #[.val (.ref x0)] [] := by first | (simp [entryFrame, mkF, argsToLocals, Value.category]; done) | rfl
def Q_rm_inf8 (Z : State) (x : Addr) (tx : Addr) (kx : ClassId) (c0 : Int32) (c1 : Int32) (c2 : Int32) (c3 : Int32) (c4 : Int32) (c5 : Int32) (c6 : Int32) (c7 : Int32) (zc : Int32) (h0 : Heap) (n0 : Nat) (v : Option Value) (h : Heap) (L : List Loc) : Prop := ((([c0, c1, c2, c3, c4, c5, c6, c7] : List Int32) = [(105 : Int32), (110 : Int32), (102 : Int32), (105 : Int32), (110 : Int32), (105 : Int32), (116 : Int32), (121 : Int32)]) ∧ (v = some (.int (1 : Int32))) ∧ (Fr n0 L) ∧ (Keep h0 h [])) ∨ ((¬ (([c0, c1, c2, c3, c4, c5, c6, c7] : List Int32) = [(105 : Int32), (110 : Int32), (102 : Int32), (105 : Int32), (110 : Int32), (105 : Int32), (116 : Int32), (121 : Int32)])) ∧ (v = some (.int (0 : Int32))) ∧ (Fr n0 L) ∧ (Keep h0 h []))
set_option maxRecDepth 65536 in
set_option maxHeartbeats 40000000 in
theorem rm_inf8 (l : Launch) (Z : State) (a0 : Array Value) (hw : ∀ d ∈ tables_1, d.before a0 Z = true) (ws : List Jvm.Cond) (x : Addr) (tx : Addr) (kx : ClassId) (c0 : Int32) (c1 : Int32) (c2 : Int32) (c3 : Int32) (c4 : Int32) (c5 : Int32) (c6 : Int32) (c7 : Int32) (zc : Int32) (h0 : Heap) (n0 : Nat) (O0 : Old Z n0 h0) (E_x : Exa Z h0 x "java/lang/String") (V_x : Fld Z h0 x "java/lang/String" "value" "[B" (.ref tx)) (C_x : Fld Z h0 x "java/lang/String" "coder" "B" (.int (0 : Int32))) (K_x : Arv Z h0 tx kx .byte (8 : Int32) [(.int c0.toInt8.toInt32), (.int c1.toInt8.toInt32), (.int c2.toInt8.toInt32), (.int c3.toInt8.toInt32), (.int c4.toInt8.toInt32), (.int c5.toInt8.toInt32), (.int c6.toInt8.toInt32), (.int c7.toInt8.toInt32)] (.int (0 : Int32))) (la_c0 : ¬ (c0 < (0 : Int32)) ∧ ¬ ((255 : Int32) < c0)) (la_c1 : ¬ (c1 < (0 : Int32)) ∧ ¬ ((255 : Int32) < c1)) (la_c2 : ¬ (c2 < (0 : Int32)) ∧ ¬ ((255 : Int32) < c2)) (la_c3 : ¬ (c3 < (0 : Int32)) ∧ ¬ ((255 : Int32) < c3)) (la_c4 : ¬ (c4 < (0 : Int32)) ∧ ¬ ((255 : Int32) < c4)) (la_c5 : ¬ (c5 < (0 : Int32)) ∧ ¬ ((255 : Int32) < c5)) (la_c6 : ¬ (c6 < (0 : Int32)) ∧ ¬ ((255 : Int32) < c6)) (la_c7 : ¬ (c7 < (0 : Int32)) ∧ ¬ ((255 : Int32) < c7)) (S_C : Sta Z Z.heap "java/lang/String" "COMPACT_STRINGS" "Z" (.int zc)) (hzc : ¬ (zc = (0 : Int32))) :
    MetFree l (⟨"com/example/logtide/logtide/event/TemporalText", "isInfinite", "(Ljava/lang/String;)Z"⟩ : MethodName) (head1 (Jvm.Cond.code (⟨"com/example/logtide/logtide/event/TemporalText", "isInfinite", "(Ljava/lang/String;)Z"⟩ : MethodName) prog_21_method_6_code 1 (some .boolean) :: ws) ({ frames := 2, cells := 4, slots := 80, locals := 28 } : Room)) (fun a U => a = #[(.ref x)] ∧ Z.Warmed39 U.vm ∧ U.heap = h0 ∧ CHv Z own_EL U.vm h0 ∧ ∀ own_y ∈ ([] : List Addr), Safe Z own_EL U.vm h0 own_y) (fun _ _ _ _ _ => True) (fun _ U o U' => ∃ v L, o = .returned v ∧ Q_rm_inf8 Z x tx kx c0 c1 c2 c3 c4 c5 c6 c7 zc h0 n0 v U'.heap L ∧ CHr Z own_EL U.vm U.heap U'.vm U'.heap ∧ ReturnedEndW U o U' L ({ frames := 2, cells := 4, slots := 80, locals := 28 } : Room).cells ({ frames := 2, cells := 4, slots := 80, locals := 28 } : Room).slots) := by
  refine MetFree.of_bodySF (plainFor_of_name pn_1) hisR ?_
  intro p e s m args below meth c s₁ Bd hml0 hP hK
  obtain ⟨rfl, hZ, hh, hCH, hSf⟩ := hP
  have hx := Bd.exec
  have hby := Bd.bytes
  have hml : c.maxLocals = 1 := hml0
  have hown : s.vm.findClass "com/example/logtide/logtide/event/TemporalText" = some m.cls := findClass_of_methodNamed Bd.named
  have hnm := (name_of_methodNamed Bd.named Bd.method).1
  have X0 : Stand p l e ({ frames := 2, cells := 4, slots := 80, locals := 28 } : Room) (s.setVm s.vm) m #[(.ref x)] below meth c s₁ [] 0 0 := Stand.of_body Bd
  have e0 : s₁.heap = h0 := by rw [← hh, Bd.state]; rfl
  have N0 := Fr.nil n0
  have hZ0 := hZ
  have ho0 := hown
  have hS0 : s.Since s.vm 0 := (State.WarmedH.refl s).since 0
  have hk0 : 0 ≤ h0.size := Nat.zero_le _
  have CR0 : CHr Z own_EL s.vm h0 s.vm h0 := CHr.refl hCH
  have own_at : ∀ d ∈ Bundle.stringAtoms, d.before a0 Z = true := fun d hd => hw d (own_atoms d hd)
  have own_ew : EW Z a0 own_EL := own_EWof hw
  have hwl : ∀ d ∈ StrChars.Road.wordsLen, d.before a0 Z = true := fun d hd => hw d (own_wordsLen d hd)
  have hwc : ∀ d ∈ StrChars.Road.wordsChN, d.before a0 Z = true := fun d hd => hw d (own_wordsChN d hd)
  have hwq : ∀ d ∈ StrChars.Road.wordsEq, d.before a0 Z = true := fun d hd => hw d (own_wordsEq d hd)
  have hws : ∀ d ∈ StrChars.Road.words, d.before a0 Z = true := fun d hd => hw d (own_words d hd)
  have K0 : Keep h0 h0 [] := Keep.refl _ _
  have pre0 : ∀ t, Steps p.tables e below (s₁.setTop (mkF m 0 #[.val (.ref x)] [])) t → Steps p.tables e below (s₁.setTop (entryFrame m #[(.ref x)] 1)) t := fun t k => castTop (ef_rm_inf8 m x) k
  obtain ⟨x1, T1, h1, q1, y1, j1, X1, e1, E1, hS1, hk1, hZ1, ho1, fE1, fC1, fV1, fA1, la1, lb1, C1, -, ns1, st1⟩ := ldcCH X0 hx hZ0 ho0 (own_w hw 77 rfl) own_at e0 hS0 hk0 own_ew (by decide) CR0.1 (vs := [(.int (105 : Int32).toInt8.toInt32), (.int (110 : Int32).toInt8.toInt32), (.int (102 : Int32).toInt8.toInt32), (.int (105 : Int32).toInt8.toInt32), (.int (110 : Int32).toInt8.toInt32), (.int (105 : Int32).toInt8.toInt32), (.int (116 : Int32).toInt8.toInt32), (.int (121 : Int32).toInt8.toInt32)]) (z := (8 : Int32)) ⟨by decide, by decide +kernel⟩ (by decide) rfl (g := (mkF m 1 #[.val (.ref x)] [(.ref x)])) rfl (hb hby d2_1) (n := 36) (by decide) (by decide) (by decide) (by decide)
  have O2 := O0.ext E1
  have K3 : Keep h0 h1 [] := K0.ext E1
  have CR4 := CR0.trans C1
  have f6 := (Exa.ext E1 E_x)
  have f7 := (Fld.ext E1 V_x)
  have f8 := (Fld.ext E1 C_x)
  have f9 := (Arv.ext K_x E1)
  have la10 : ∀ c ∈ ([c0, c1, c2, c3, c4, c5, c6, c7] : List Int32), ¬ c < 0 ∧ ¬ (255 : Int32) < c := by
    intro c hc
    simp only [List.mem_cons, List.not_mem_nil, or_false] at hc
    rcases hc with rfl | rfl | rfl | rfl | rfl | rfl | rfl | rfl
    · exact la_c0
    · exact la_c1
    · exact la_c2
    · exact la_c3
    · exact la_c4
    · exact la_c5
    · exact la_c6
    · exact la_c7
  have cd10 : StrChars.Road.CodA ([c0, c1, c2, c3, c4, c5, c6, c7] : List Int32) 0 (8 : Int32) [(.int c0.toInt8.toInt32), (.int c1.toInt8.toInt32), (.int c2.toInt8.toInt32), (.int c3.toInt8.toInt32), (.int c4.toInt8.toInt32), (.int c5.toInt8.toInt32), (.int c6.toInt8.toInt32), (.int c7.toInt8.toInt32)] := StrChars.Road.codOf (n := 8) rfl (fun x hx => (la10 x hx).2)
  have bd10 := own_up la10
  have la11 : ∀ c ∈ ([(105 : Int32), (110 : Int32), (102 : Int32), (105 : Int32), (110 : Int32), (105 : Int32), (116 : Int32), (121 : Int32)] : List Int32), ¬ c < 0 ∧ ¬ (255 : Int32) < c := by
    intro c hc
    simp only [List.mem_cons, List.not_mem_nil, or_false] at hc
    rcases hc with rfl | rfl | rfl | rfl | rfl | rfl | rfl | rfl
    · exact ⟨by decide, by decide⟩
    · exact ⟨by decide, by decide⟩
    · exact ⟨by decide, by decide⟩
    · exact ⟨by decide, by decide⟩
    · exact ⟨by decide, by decide⟩
    · exact ⟨by decide, by decide⟩
    · exact ⟨by decide, by decide⟩
    · exact ⟨by decide, by decide⟩
  have cd11 : StrChars.Road.CodA ([(105 : Int32), (110 : Int32), (102 : Int32), (105 : Int32), (110 : Int32), (105 : Int32), (116 : Int32), (121 : Int32)] : List Int32) 0 (8 : Int32) [(.int (105 : Int32).toInt8.toInt32), (.int (110 : Int32).toInt8.toInt32), (.int (102 : Int32).toInt8.toInt32), (.int (105 : Int32).toInt8.toInt32), (.int (110 : Int32).toInt8.toInt32), (.int (105 : Int32).toInt8.toInt32), (.int (116 : Int32).toInt8.toInt32), (.int (121 : Int32).toInt8.toInt32)] := StrChars.Road.codOf (n := 8) rfl (fun x hx => (la11 x hx).2)
  have bd11 := own_up la11
  obtain ⟨cq5, kq5, q5a, q5b, q5c⟩ := isOf hZ1 e1 f6
  obtain ⟨_, _, ⟨T5, L5, k5, n5⟩, -, X5, ⟨Lc5, hQ5, l5, y5, z5⟩, st5⟩ := X1.virtualBack hx (y := (⟨"java/lang/String", "equals", "(Ljava/lang/Object;)Z"⟩ : MethodName)) (z := (⟨"java/lang/String", "equals", "(Ljava/lang/Object;)Z"⟩ : MethodName)) ho1 (mvT hZ1 (own_w hw 78 rfl)) (mvT hZ1 (own_w hw 79 rfl)) (notFace_of_selects (args := #[]) (mvT hZ1 (own_w hw 81 rfl))) (mvT hZ1 (own_w hw 81 rfl)) (mvT hZ1 (own_w hw 80 rfl)) (by decide) (StrChars.Road.eqW (W := 0) hZ1 hwq (kI := 4) (own_w hw 3 rfl) (cs := [c0, c1, c2, c3, c4, c5, c6, c7]) f6 f7 f8 f9 cd10 bd10 (by show 8 ≤ 4000; decide) (ds := [(105 : Int32), (110 : Int32), (102 : Int32), (105 : Int32), (110 : Int32), (105 : Int32), (116 : Int32), (121 : Int32)]) fE1 fV1 fC1 fA1 cd11 bd11 (by show 8 ≤ 4000; decide) (S_C.ext O2.2) hzc (by decide) (by decide)) q5a q5c (g := (mkF m 3 #[.val (.ref x)] [(.ref x1), (.ref x)])) rfl (by rw [hml]; rfl) (Steps.refl _) (argsL := [(.ref x1)]) (rest := []) (lenOf pd_2 rfl) rfl (by show 2 * 0 + _ ≤ _; exact Nat.le_of_eq rfl) (hb hby d2_3) (fun _ _ => ⟨rfl, e1, (by decide : 2 + 0 ≤ _), (by decide : 40 + 0 ≤ _)⟩)
  dsimp only [Pt.U, Pt.locs, Pt.cells, Pt.slots] at X5 l5 y5 z5 st5 hQ5
  subst l5 y5 z5
  obtain ⟨hQ5, rfl, k12⟩ := hQ5
  have N14 := Fr.app N0 (Fr.nil n0)
  rcases hQ5 with ⟨rfl, c13⟩ | ⟨rfl, c13⟩
  · have c15 : c0 = (105 : Int32) := congrArg (fun l => l.getD 0 0) c13
    have c16 : c1 = (110 : Int32) := congrArg (fun l => l.getD 1 0) c13
    have c17 : c2 = (102 : Int32) := congrArg (fun l => l.getD 2 0) c13
    have c18 : c3 = (105 : Int32) := congrArg (fun l => l.getD 3 0) c13
    have c19 : c4 = (110 : Int32) := congrArg (fun l => l.getD 4 0) c13
    have c20 : c5 = (105 : Int32) := congrArg (fun l => l.getD 5 0) c13
    have c21 : c6 = (116 : Int32) := congrArg (fun l => l.getD 6 0) c13
    have c22 : c7 = (121 : Int32) := congrArg (fun l => l.getD 7 0) c13
    have S23 : ∀ t, Steps p.tables e below (T5.setTop (mkF m 23 #[.val (.ref x)] [(.int (1 : Int32))])) t → Steps p.tables e below (s₁.setTop (mkF m 0 #[.val (.ref x)] [])) t := by
      intro t kt
      refine XS.aloadN X0.here hx rfl (hb hby d2_0) rfl rfl ?_
      show Steps p.tables e below (s₁.setTop (mkF m 1 #[.val (.ref x)] [(.ref x)])) _
      refine st1 _ ?_
      show Steps p.tables e below (T1.setTop (mkF m 3 #[.val (.ref x)] [(.ref x1), (.ref x)])) _
      refine st5.trans ?_
      refine XS.ifYes X5.here hx rfl (pc0 := 6) (pc' := 18) rfl (hb hby d2_6) rfl ((if0 _ _).trans (feq ((by decide) : ¬ ((1 : Int32) = (0 : Int32)))).2) (by decide) (by decide) ?_
      refine XS.iconst X5.here hx rfl (hb hby d2_18) ?_
      refine XS.goto X5.here hx rfl (pc0 := 19) (pc' := 23) rfl (hb hby d2_19) (by decide) (by decide) ?_
      exact kt
    obtain ⟨fs, hr, hrun, hended, hRW⟩ := X5.leaveW hS1 (by rw [k12]; exact hk1) (v := some (.int (1 : Int32))) (fun h => by rw [Bd.returns] at h; cases h)
    refine ⟨_, _, pre0 _ (S23 _ ?_), hrun, hended, _, _, rfl, ?_, ?_, hRW.1, hRW.2.1, hRW.2.2.1, hRW.2.2.2.mono (by decide) (by decide)⟩
    · exact retN X5 hx (t := .boolean) Bd.returns (by simp) (hb hby d2_23) hr
    · show Q_rm_inf8 Z x tx kx c0 c1 c2 c3 c4 c5 c6 c7 zc h0 n0 _ T5.heap _
      rw [k12]
      exact Or.inl ⟨c13, rfl, N14, K3⟩
    · show CHr Z own_EL s.vm s.heap T5.vm T5.heap
      rw [hh, k12]
      exact CR4.trans (CHv.at X5 hZ1 own_ew CR4.1)
  · obtain ⟨x24, T24, h24, q24, y24, j24, X24, e24, E24, hS24, hk24, hZ24, ho24, fE24, fC24, fV24, fA24, la24, lb24, C24, -, ns24, st24⟩ := ldcCH X5 hx hZ1 ho1 (own_w hw 87 rfl) own_at k12 hS1 hk1 own_ew (by decide) CR4.1 (vs := [(.int (45 : Int32).toInt8.toInt32), (.int (105 : Int32).toInt8.toInt32), (.int (110 : Int32).toInt8.toInt32), (.int (102 : Int32).toInt8.toInt32), (.int (105 : Int32).toInt8.toInt32), (.int (110 : Int32).toInt8.toInt32), (.int (105 : Int32).toInt8.toInt32), (.int (116 : Int32).toInt8.toInt32), (.int (121 : Int32).toInt8.toInt32)]) (z := (9 : Int32)) ⟨by decide, by decide +kernel⟩ (by decide) rfl (g := (mkF m 10 #[.val (.ref x)] [(.ref x)])) rfl (hb hby d2_10) (n := 36) (by decide) (by decide) (by decide) (by decide)
    have O25 := O2.ext E24
    have K26 : Keep h0 h24 [] := K3.ext E24
    have CR27 := CR4.trans C24
    have f29 := (Exa.ext E24 f6)
    have f30 := (Fld.ext E24 f7)
    have f31 := (Fld.ext E24 f8)
    have f32 := (Arv.ext f9 E24)
    have la33 : ∀ c ∈ ([(45 : Int32), (105 : Int32), (110 : Int32), (102 : Int32), (105 : Int32), (110 : Int32), (105 : Int32), (116 : Int32), (121 : Int32)] : List Int32), ¬ c < 0 ∧ ¬ (255 : Int32) < c := by
      intro c hc
      simp only [List.mem_cons, List.not_mem_nil, or_false] at hc
      rcases hc with rfl | rfl | rfl | rfl | rfl | rfl | rfl | rfl | rfl
      · exact ⟨by decide, by decide⟩
      · exact ⟨by decide, by decide⟩
      · exact ⟨by decide, by decide⟩
      · exact ⟨by decide, by decide⟩
      · exact ⟨by decide, by decide⟩
      · exact ⟨by decide, by decide⟩
      · exact ⟨by decide, by decide⟩
      · exact ⟨by decide, by decide⟩
      · exact ⟨by decide, by decide⟩
    have cd33 : StrChars.Road.CodA ([(45 : Int32), (105 : Int32), (110 : Int32), (102 : Int32), (105 : Int32), (110 : Int32), (105 : Int32), (116 : Int32), (121 : Int32)] : List Int32) 0 (9 : Int32) [(.int (45 : Int32).toInt8.toInt32), (.int (105 : Int32).toInt8.toInt32), (.int (110 : Int32).toInt8.toInt32), (.int (102 : Int32).toInt8.toInt32), (.int (105 : Int32).toInt8.toInt32), (.int (110 : Int32).toInt8.toInt32), (.int (105 : Int32).toInt8.toInt32), (.int (116 : Int32).toInt8.toInt32), (.int (121 : Int32).toInt8.toInt32)] := StrChars.Road.codOf (n := 9) rfl (fun x hx => (la33 x hx).2)
    have bd33 := own_up la33
    obtain ⟨cq28, kq28, q28a, q28b, q28c⟩ := isOf hZ24 e24 f29
    obtain ⟨_, _, ⟨T28, L28, k28, n28⟩, -, X28, ⟨Lc28, hQ28, l28, y28, z28⟩, st28⟩ := X24.virtualBack hx (y := (⟨"java/lang/String", "equals", "(Ljava/lang/Object;)Z"⟩ : MethodName)) (z := (⟨"java/lang/String", "equals", "(Ljava/lang/Object;)Z"⟩ : MethodName)) ho24 (mvT hZ24 (own_w hw 78 rfl)) (mvT hZ24 (own_w hw 79 rfl)) (notFace_of_selects (args := #[]) (mvT hZ24 (own_w hw 81 rfl))) (mvT hZ24 (own_w hw 81 rfl)) (mvT hZ24 (own_w hw 80 rfl)) (by decide) (StrChars.Road.eqW (W := 0) hZ24 hwq (kI := 4) (own_w hw 3 rfl) (cs := [c0, c1, c2, c3, c4, c5, c6, c7]) f29 f30 f31 f32 cd10 bd10 (by show 8 ≤ 4000; decide) (ds := [(45 : Int32), (105 : Int32), (110 : Int32), (102 : Int32), (105 : Int32), (110 : Int32), (105 : Int32), (116 : Int32), (121 : Int32)]) fE24 fV24 fC24 fA24 cd33 bd33 (by show 9 ≤ 4000; decide) (S_C.ext O25.2) hzc (by decide) (by decide)) q28a q28c (g := (mkF m 12 #[.val (.ref x)] [(.ref x24), (.ref x)])) rfl (by rw [hml]; rfl) (Steps.refl _) (argsL := [(.ref x24)]) (rest := []) (lenOf pd_2 rfl) rfl (by show 2 * 0 + _ ≤ _; exact Nat.le_of_eq rfl) (hb hby d2_12) (fun _ _ => ⟨rfl, e24, (by decide : 4 + 0 ≤ _), (by decide : 80 + 0 ≤ _)⟩)
    dsimp only [Pt.U, Pt.locs, Pt.cells, Pt.slots] at X28 l28 y28 z28 st28 hQ28
    subst l28 y28 z28
    obtain ⟨hQ28, rfl, k34⟩ := hQ28
    have N36 := Fr.app N14 (Fr.nil n0)
    rcases hQ28 with ⟨rfl, c35⟩ | ⟨rfl, c35⟩
    · exact absurd c35 (fun q => by have := congrArg List.length q; simp at this)
    · have S37 : ∀ t, Steps p.tables e below (T28.setTop (mkF m 23 #[.val (.ref x)] [(.int (0 : Int32))])) t → Steps p.tables e below (s₁.setTop (mkF m 0 #[.val (.ref x)] [])) t := by
        intro t kt
        refine XS.aloadN X0.here hx rfl (hb hby d2_0) rfl rfl ?_
        show Steps p.tables e below (s₁.setTop (mkF m 1 #[.val (.ref x)] [(.ref x)])) _
        refine st1 _ ?_
        show Steps p.tables e below (T1.setTop (mkF m 3 #[.val (.ref x)] [(.ref x1), (.ref x)])) _
        refine st5.trans ?_
        refine XS.ifNo X5.here hx rfl (hb hby d2_6) rfl ((if0 _ _).trans (teq ((by decide) : (0 : Int32) = (0 : Int32))).2) ?_
        refine XS.aloadN X5.here hx rfl (hb hby d2_9) rfl rfl ?_
        show Steps p.tables e below (T5.setTop (mkF m 10 #[.val (.ref x)] [(.ref x)])) _
        refine st24 _ ?_
        show Steps p.tables e below (T24.setTop (mkF m 12 #[.val (.ref x)] [(.ref x24), (.ref x)])) _
        refine st28.trans ?_
        refine XS.ifYes X28.here hx rfl (pc0 := 15) (pc' := 22) rfl (hb hby d2_15) rfl ((if0 _ _).trans (teq ((by decide) : (0 : Int32) = (0 : Int32))).1) (by decide) (by decide) ?_
        refine XS.iconst X28.here hx rfl (hb hby d2_22) ?_
        exact kt
      obtain ⟨fs, hr, hrun, hended, hRW⟩ := X28.leaveW hS24 (by rw [k34]; exact hk24) (v := some (.int (0 : Int32))) (fun h => by rw [Bd.returns] at h; cases h)
      refine ⟨_, _, pre0 _ (S37 _ ?_), hrun, hended, _, _, rfl, ?_, ?_, hRW.1, hRW.2.1, hRW.2.2.1, hRW.2.2.2.mono (by decide) (by decide)⟩
      · exact retN X28 hx (t := .boolean) Bd.returns (by simp) (hb hby d2_23) hr
      · show Q_rm_inf8 Z x tx kx c0 c1 c2 c3 c4 c5 c6 c7 zc h0 n0 _ T28.heap _
        rw [k34]
        exact Or.inr (⟨c13, rfl, N36, K26⟩)
      · show CHr Z own_EL s.vm s.heap T28.vm T28.heap
        rw [hh, k34]
        exact CR27.trans (CHv.at X28 hZ24 own_ew CR27.1)
theorem ef_rm_inf9 (m : MethodId) (x0 : Addr) : entryFrame m #[(.ref x0)] 1 = mkF m 0 #[.val (.ref x0)] [] := by first | (simp [entryFrame, mkF, argsToLocals, Value.category]; done) | rfl
def Q_rm_inf9 (Z : State) (x : Addr) (tx : Addr) (kx : ClassId) (c0 : Int32) (c1 : Int32) (c2 : Int32) (c3 : Int32) (c4 : Int32) (c5 : Int32) (c6 : Int32) (c7 : Int32) (c8 : Int32) (zc : Int32) (h0 : Heap) (n0 : Nat) (v : Option Value) (h : Heap) (L : List Loc) : Prop := ((([c0, c1, c2, c3, c4, c5, c6, c7, c8] : List Int32) = [(45 : Int32), (105 : Int32), (110 : Int32), (102 : Int32), (105 : Int32), (110 : Int32), (105 : Int32), (116 : Int32), (121 : Int32)]) ∧ (v = some (.int (1 : Int32))) ∧ (Fr n0 L) ∧ (Keep h0 h [])) ∨ ((¬ (([c0, c1, c2, c3, c4, c5, c6, c7, c8] : List Int32) = [(45 : Int32), (105 : Int32), (110 : Int32), (102 : Int32), (105 : Int32), (110 : Int32), (105 : Int32), (116 : Int32), (121 : Int32)])) ∧ (v = some (.int (0 : Int32))) ∧ (Fr n0 L) ∧ (Keep h0 h []))
set_option maxRecDepth 65536 in
set_option maxHeartbeats 40000000 in
theorem rm_inf9 (l : Launch) (Z : State) (a0 : Array Value) (hw : ∀ d ∈ tables_1, d.before a0 Z = true) (ws : List Jvm.Cond) (x : Addr) (tx : Addr) (kx : ClassId) (c0 : Int32) (c1 : Int32) (c2 : Int32) (c3 : Int32) (c4 : Int32) (c5 : Int32) (c6 : Int32) (c7 : Int32) (c8 : Int32) (zc : Int32) (h0 : Heap) (n0 : Nat) (O0 : Old Z n0 h0) (E_x : Exa Z h0 x "java/lang/String") (V_x : Fld Z h0 x "java/lang/String" "value" "[B" (.ref tx)) (C_x : Fld Z h0 x "java/lang/String" "coder" "B" (.int (0 : Int32))) (K_x : Arv Z h0 tx kx .byte (9 : Int32) [(.int c0.toInt8.toInt32), (.int c1.toInt8.toInt32), (.int c2.toInt8.toInt32), (.int c3.toInt8.toInt32), (.int c4.toInt8.toInt32), (.int c5.toInt8.toInt32), (.int c6.toInt8.toInt32), (.int c7.toInt8.toInt32), (.int c8.toInt8.toInt32)] (.int (0 : Int32))) (la_c0 : ¬ (c0 < (0 : Int32)) ∧ ¬ ((255 : Int32) < c0)) (la_c1 : ¬ (c1 < (0 : Int32)) ∧ ¬ ((255 : Int32) < c1)) (la_c2 : ¬ (c2 < (0 : Int32)) ∧ ¬ ((255 : Int32) < c2)) (la_c3 : ¬ (c3 < (0 : Int32)) ∧ ¬ ((255 : Int32) < c3)) (la_c4 : ¬ (c4 < (0 : Int32)) ∧ ¬ ((255 : Int32) < c4)) (la_c5 : ¬ (c5 < (0 : Int32)) ∧ ¬ ((255 : Int32) < c5)) (la_c6 : ¬ (c6 < (0 : Int32)) ∧ ¬ ((255 : Int32) < c6)) (la_c7 : ¬ (c7 < (0 : Int32)) ∧ ¬ ((255 : Int32) < c7)) (la_c8 : ¬ (c8 < (0 : Int32)) ∧ ¬ ((255 : Int32) < c8)) (S_C : Sta Z Z.heap "java/lang/String" "COMPACT_STRINGS" "Z" (.int zc)) (hzc : ¬ (zc = (0 : Int32))) :
    MetFree l (⟨"com/example/logtide/logtide/event/TemporalText", "isInfinite", "(Ljava/lang/String;)Z"⟩ : MethodName) (head1 (Jvm.Cond.code (⟨"com/example/logtide/logtide/event/TemporalText", "isInfinite", "(Ljava/lang/String;)Z"⟩ : MethodName) prog_21_method_6_code 1 (some .boolean) :: ws) ({ frames := 2, cells := 4, slots := 80, locals := 28 } : Room)) (fun a U => a = #[(.ref x)] ∧ Z.Warmed39 U.vm ∧ U.heap = h0 ∧ CHv Z own_EL U.vm h0 ∧ ∀ own_y ∈ ([] : List Addr), Safe Z own_EL U.vm h0 own_y) (fun _ _ _ _ _ => True) (fun _ U o U' => ∃ v L, o = .returned v ∧ Q_rm_inf9 Z x tx kx c0 c1 c2 c3 c4 c5 c6 c7 c8 zc h0 n0 v U'.heap L ∧ CHr Z own_EL U.vm U.heap U'.vm U'.heap ∧ ReturnedEndW U o U' L ({ frames := 2, cells := 4, slots := 80, locals := 28 } : Room).cells ({ frames := 2, cells := 4, slots := 80, locals := 28 } : Room).slots) := by
  refine MetFree.of_bodySF (plainFor_of_name pn_1) hisR ?_
  intro p e s m args below meth c s₁ Bd hml0 hP hK
  obtain ⟨rfl, hZ, hh, hCH, hSf⟩ := hP
  have hx := Bd.exec
  have hby := Bd.bytes
  have hml : c.maxLocals = 1 := hml0
  have hown : s.vm.findClass "com/example/logtide/logtide/event/TemporalText" = some m.cls := findClass_of_methodNamed Bd.named
  have hnm := (name_of_methodNamed Bd.named Bd.method).1
  have X0 : Stand p l e ({ frames := 2, cells := 4, slots := 80, locals := 28 } : Room) (s.setVm s.vm) m #[(.ref x)] below meth c s₁ [] 0 0 := Stand.of_body Bd
  have e0 : s₁.heap = h0 := by rw [← hh, Bd.state]; rfl
  have N0 := Fr.nil n0
  have hZ0 := hZ
  have ho0 := hown
  have hS0 : s.Since s.vm 0 := (State.WarmedH.refl s).since 0
  have hk0 : 0 ≤ h0.size := Nat.zero_le _
  have CR0 : CHr Z own_EL s.vm h0 s.vm h0 := CHr.refl hCH
  have own_at : ∀ d ∈ Bundle.stringAtoms, d.before a0 Z = true := fun d hd => hw d (own_atoms d hd)
  have own_ew : EW Z a0 own_EL := own_EWof hw
  have hwl : ∀ d ∈ StrChars.Road.wordsLen, d.before a0 Z = true := fun d hd => hw d (own_wordsLen d hd)
  have hwc : ∀ d ∈ StrChars.Road.wordsChN, d.before a0 Z = true := fun d hd => hw d (own_wordsChN d hd)
  have hwq : ∀ d ∈ StrChars.Road.wordsEq, d.before a0 Z = true := fun d hd => hw d (own_wordsEq d hd)
  have hws : ∀ d ∈ StrChars.Road.words, d.before a0 Z = true := fun d hd => hw d (own_words d hd)
  have K0 : Keep h0 h0 [] := Keep.refl _ _
  have pre0 : ∀ t, Steps p.tables e below (s₁.setTop (mkF m 0 #[.val (.ref x)] [])) t → Steps p.tables e below (s₁.setTop (entryFrame m #[(.ref x)] 1)) t := fun t k => castTop (ef_rm_inf9 m x) k
  obtain ⟨x1, T1, h1, q1, y1, j1, X1, e1, E1, hS1, hk1, hZ1, ho1, fE1, fC1, fV1, fA1, la1, lb1, C1, -, ns1, st1⟩ := ldcCH X0 hx hZ0 ho0 (own_w hw 77 rfl) own_at e0 hS0 hk0 own_ew (by decide) CR0.1 (vs := [(.int (105 : Int32).toInt8.toInt32), (.int (110 : Int32).toInt8.toInt32), (.int (102 : Int32).toInt8.toInt32), (.int (105 : Int32).toInt8.toInt32), (.int (110 : Int32).toInt8.toInt32), (.int (105 : Int32).toInt8.toInt32), (.int (116 : Int32).toInt8.toInt32), (.int (121 : Int32).toInt8.toInt32)]) (z := (8 : Int32)) ⟨by decide, by decide +kernel⟩ (by decide) rfl (g := (mkF m 1 #[.val (.ref x)] [(.ref x)])) rfl (hb hby d2_1) (n := 36) (by decide) (by decide) (by decide) (by decide)
  have O2 := O0.ext E1
  have K3 : Keep h0 h1 [] := K0.ext E1
  have CR4 := CR0.trans C1
  have f6 := (Exa.ext E1 E_x)
  have f7 := (Fld.ext E1 V_x)
  have f8 := (Fld.ext E1 C_x)
  have f9 := (Arv.ext K_x E1)
  have la10 : ∀ c ∈ ([c0, c1, c2, c3, c4, c5, c6, c7, c8] : List Int32), ¬ c < 0 ∧ ¬ (255 : Int32) < c := by
    intro c hc
    simp only [List.mem_cons, List.not_mem_nil, or_false] at hc
    rcases hc with rfl | rfl | rfl | rfl | rfl | rfl | rfl | rfl | rfl
    · exact la_c0
    · exact la_c1
    · exact la_c2
    · exact la_c3
    · exact la_c4
    · exact la_c5
    · exact la_c6
    · exact la_c7
    · exact la_c8
  have cd10 : StrChars.Road.CodA ([c0, c1, c2, c3, c4, c5, c6, c7, c8] : List Int32) 0 (9 : Int32) [(.int c0.toInt8.toInt32), (.int c1.toInt8.toInt32), (.int c2.toInt8.toInt32), (.int c3.toInt8.toInt32), (.int c4.toInt8.toInt32), (.int c5.toInt8.toInt32), (.int c6.toInt8.toInt32), (.int c7.toInt8.toInt32), (.int c8.toInt8.toInt32)] := StrChars.Road.codOf (n := 9) rfl (fun x hx => (la10 x hx).2)
  have bd10 := own_up la10
  have la11 : ∀ c ∈ ([(105 : Int32), (110 : Int32), (102 : Int32), (105 : Int32), (110 : Int32), (105 : Int32), (116 : Int32), (121 : Int32)] : List Int32), ¬ c < 0 ∧ ¬ (255 : Int32) < c := by
    intro c hc
    simp only [List.mem_cons, List.not_mem_nil, or_false] at hc
    rcases hc with rfl | rfl | rfl | rfl | rfl | rfl | rfl | rfl
    · exact ⟨by decide, by decide⟩
    · exact ⟨by decide, by decide⟩
    · exact ⟨by decide, by decide⟩
    · exact ⟨by decide, by decide⟩
    · exact ⟨by decide, by decide⟩
    · exact ⟨by decide, by decide⟩
    · exact ⟨by decide, by decide⟩
    · exact ⟨by decide, by decide⟩
  have cd11 : StrChars.Road.CodA ([(105 : Int32), (110 : Int32), (102 : Int32), (105 : Int32), (110 : Int32), (105 : Int32), (116 : Int32), (121 : Int32)] : List Int32) 0 (8 : Int32) [(.int (105 : Int32).toInt8.toInt32), (.int (110 : Int32).toInt8.toInt32), (.int (102 : Int32).toInt8.toInt32), (.int (105 : Int32).toInt8.toInt32), (.int (110 : Int32).toInt8.toInt32), (.int (105 : Int32).toInt8.toInt32), (.int (116 : Int32).toInt8.toInt32), (.int (121 : Int32).toInt8.toInt32)] := StrChars.Road.codOf (n := 8) rfl (fun x hx => (la11 x hx).2)
  have bd11 := own_up la11
  obtain ⟨cq5, kq5, q5a, q5b, q5c⟩ := isOf hZ1 e1 f6
  obtain ⟨_, _, ⟨T5, L5, k5, n5⟩, -, X5, ⟨Lc5, hQ5, l5, y5, z5⟩, st5⟩ := X1.virtualBack hx (y := (⟨"java/lang/String", "equals", "(Ljava/lang/Object;)Z"⟩ : MethodName)) (z := (⟨"java/lang/String", "equals", "(Ljava/lang/Object;)Z"⟩ : MethodName)) ho1 (mvT hZ1 (own_w hw 78 rfl)) (mvT hZ1 (own_w hw 79 rfl)) (notFace_of_selects (args := #[]) (mvT hZ1 (own_w hw 81 rfl))) (mvT hZ1 (own_w hw 81 rfl)) (mvT hZ1 (own_w hw 80 rfl)) (by decide) (StrChars.Road.eqW (W := 0) hZ1 hwq (kI := 4) (own_w hw 3 rfl) (cs := [c0, c1, c2, c3, c4, c5, c6, c7, c8]) f6 f7 f8 f9 cd10 bd10 (by show 9 ≤ 4000; decide) (ds := [(105 : Int32), (110 : Int32), (102 : Int32), (105 : Int32), (110 : Int32), (105 : Int32), (116 : Int32), (121 : Int32)]) fE1 fV1 fC1 fA1 cd11 bd11 (by show 8 ≤ 4000; decide) (S_C.ext O2.2) hzc (by decide) (by decide)) q5a q5c (g := (mkF m 3 #[.val (.ref x)] [(.ref x1), (.ref x)])) rfl (by rw [hml]; rfl) (Steps.refl _) (argsL := [(.ref x1)]) (rest := []) (lenOf pd_2 rfl) rfl (by show 2 * 0 + _ ≤ _; exact Nat.le_of_eq rfl) (hb hby d2_3) (fun _ _ => ⟨rfl, e1, (by decide : 2 + 0 ≤ _), (by decide : 40 + 0 ≤ _)⟩)
  dsimp only [Pt.U, Pt.locs, Pt.cells, Pt.slots] at X5 l5 y5 z5 st5 hQ5
  subst l5 y5 z5
  obtain ⟨hQ5, rfl, k12⟩ := hQ5
  have N14 := Fr.app N0 (Fr.nil n0)
  rcases hQ5 with ⟨rfl, c13⟩ | ⟨rfl, c13⟩
  · exact absurd c13 (fun q => by have := congrArg List.length q; simp at this)
  · obtain ⟨x15, T15, h15, q15, y15, j15, X15, e15, E15, hS15, hk15, hZ15, ho15, fE15, fC15, fV15, fA15, la15, lb15, C15, -, ns15, st15⟩ := ldcCH X5 hx hZ1 ho1 (own_w hw 87 rfl) own_at k12 hS1 hk1 own_ew (by decide) CR4.1 (vs := [(.int (45 : Int32).toInt8.toInt32), (.int (105 : Int32).toInt8.toInt32), (.int (110 : Int32).toInt8.toInt32), (.int (102 : Int32).toInt8.toInt32), (.int (105 : Int32).toInt8.toInt32), (.int (110 : Int32).toInt8.toInt32), (.int (105 : Int32).toInt8.toInt32), (.int (116 : Int32).toInt8.toInt32), (.int (121 : Int32).toInt8.toInt32)]) (z := (9 : Int32)) ⟨by decide, by decide +kernel⟩ (by decide) rfl (g := (mkF m 10 #[.val (.ref x)] [(.ref x)])) rfl (hb hby d2_10) (n := 36) (by decide) (by decide) (by decide) (by decide)
    have O16 := O2.ext E15
    have K17 : Keep h0 h15 [] := K3.ext E15
    have CR18 := CR4.trans C15
    have f20 := (Exa.ext E15 f6)
    have f21 := (Fld.ext E15 f7)
    have f22 := (Fld.ext E15 f8)
    have f23 := (Arv.ext f9 E15)
    have la24 : ∀ c ∈ ([(45 : Int32), (105 : Int32), (110 : Int32), (102 : Int32), (105 : Int32), (110 : Int32), (105 : Int32), (116 : Int32), (121 : Int32)] : List Int32), ¬ c < 0 ∧ ¬ (255 : Int32) < c := by
      intro c hc
      simp only [List.mem_cons, List.not_mem_nil, or_false] at hc
      rcases hc with rfl | rfl | rfl | rfl | rfl | rfl | rfl | rfl | rfl
      · exact ⟨by decide, by decide⟩
      · exact ⟨by decide, by decide⟩
      · exact ⟨by decide, by decide⟩
      · exact ⟨by decide, by decide⟩
      · exact ⟨by decide, by decide⟩
      · exact ⟨by decide, by decide⟩
      · exact ⟨by decide, by decide⟩
      · exact ⟨by decide, by decide⟩
      · exact ⟨by decide, by decide⟩
    have cd24 : StrChars.Road.CodA ([(45 : Int32), (105 : Int32), (110 : Int32), (102 : Int32), (105 : Int32), (110 : Int32), (105 : Int32), (116 : Int32), (121 : Int32)] : List Int32) 0 (9 : Int32) [(.int (45 : Int32).toInt8.toInt32), (.int (105 : Int32).toInt8.toInt32), (.int (110 : Int32).toInt8.toInt32), (.int (102 : Int32).toInt8.toInt32), (.int (105 : Int32).toInt8.toInt32), (.int (110 : Int32).toInt8.toInt32), (.int (105 : Int32).toInt8.toInt32), (.int (116 : Int32).toInt8.toInt32), (.int (121 : Int32).toInt8.toInt32)] := StrChars.Road.codOf (n := 9) rfl (fun x hx => (la24 x hx).2)
    have bd24 := own_up la24
    obtain ⟨cq19, kq19, q19a, q19b, q19c⟩ := isOf hZ15 e15 f20
    obtain ⟨_, _, ⟨T19, L19, k19, n19⟩, -, X19, ⟨Lc19, hQ19, l19, y19, z19⟩, st19⟩ := X15.virtualBack hx (y := (⟨"java/lang/String", "equals", "(Ljava/lang/Object;)Z"⟩ : MethodName)) (z := (⟨"java/lang/String", "equals", "(Ljava/lang/Object;)Z"⟩ : MethodName)) ho15 (mvT hZ15 (own_w hw 78 rfl)) (mvT hZ15 (own_w hw 79 rfl)) (notFace_of_selects (args := #[]) (mvT hZ15 (own_w hw 81 rfl))) (mvT hZ15 (own_w hw 81 rfl)) (mvT hZ15 (own_w hw 80 rfl)) (by decide) (StrChars.Road.eqW (W := 0) hZ15 hwq (kI := 4) (own_w hw 3 rfl) (cs := [c0, c1, c2, c3, c4, c5, c6, c7, c8]) f20 f21 f22 f23 cd10 bd10 (by show 9 ≤ 4000; decide) (ds := [(45 : Int32), (105 : Int32), (110 : Int32), (102 : Int32), (105 : Int32), (110 : Int32), (105 : Int32), (116 : Int32), (121 : Int32)]) fE15 fV15 fC15 fA15 cd24 bd24 (by show 9 ≤ 4000; decide) (S_C.ext O16.2) hzc (by decide) (by decide)) q19a q19c (g := (mkF m 12 #[.val (.ref x)] [(.ref x15), (.ref x)])) rfl (by rw [hml]; rfl) (Steps.refl _) (argsL := [(.ref x15)]) (rest := []) (lenOf pd_2 rfl) rfl (by show 2 * 0 + _ ≤ _; exact Nat.le_of_eq rfl) (hb hby d2_12) (fun _ _ => ⟨rfl, e15, (by decide : 4 + 0 ≤ _), (by decide : 80 + 0 ≤ _)⟩)
    dsimp only [Pt.U, Pt.locs, Pt.cells, Pt.slots] at X19 l19 y19 z19 st19 hQ19
    subst l19 y19 z19
    obtain ⟨hQ19, rfl, k25⟩ := hQ19
    have N27 := Fr.app N14 (Fr.nil n0)
    rcases hQ19 with ⟨rfl, c26⟩ | ⟨rfl, c26⟩
    · have c28 : c0 = (45 : Int32) := congrArg (fun l => l.getD 0 0) c26
      have c29 : c1 = (105 : Int32) := congrArg (fun l => l.getD 1 0) c26
      have c30 : c2 = (110 : Int32) := congrArg (fun l => l.getD 2 0) c26
      have c31 : c3 = (102 : Int32) := congrArg (fun l => l.getD 3 0) c26
      have c32 : c4 = (105 : Int32) := congrArg (fun l => l.getD 4 0) c26
      have c33 : c5 = (110 : Int32) := congrArg (fun l => l.getD 5 0) c26
      have c34 : c6 = (105 : Int32) := congrArg (fun l => l.getD 6 0) c26
      have c35 : c7 = (116 : Int32) := congrArg (fun l => l.getD 7 0) c26
      have c36 : c8 = (121 : Int32) := congrArg (fun l => l.getD 8 0) c26
      have S37 : ∀ t, Steps p.tables e below (T19.setTop (mkF m 23 #[.val (.ref x)] [(.int (1 : Int32))])) t → Steps p.tables e below (s₁.setTop (mkF m 0 #[.val (.ref x)] [])) t := by
        intro t kt
        refine XS.aloadN X0.here hx rfl (hb hby d2_0) rfl rfl ?_
        show Steps p.tables e below (s₁.setTop (mkF m 1 #[.val (.ref x)] [(.ref x)])) _
        refine st1 _ ?_
        show Steps p.tables e below (T1.setTop (mkF m 3 #[.val (.ref x)] [(.ref x1), (.ref x)])) _
        refine st5.trans ?_
        refine XS.ifNo X5.here hx rfl (hb hby d2_6) rfl ((if0 _ _).trans (teq ((by decide) : (0 : Int32) = (0 : Int32))).2) ?_
        refine XS.aloadN X5.here hx rfl (hb hby d2_9) rfl rfl ?_
        show Steps p.tables e below (T5.setTop (mkF m 10 #[.val (.ref x)] [(.ref x)])) _
        refine st15 _ ?_
        show Steps p.tables e below (T15.setTop (mkF m 12 #[.val (.ref x)] [(.ref x15), (.ref x)])) _
        refine st19.trans ?_
        refine XS.ifNo X19.here hx rfl (hb hby d2_15) rfl ((if0 _ _).trans (feq ((by decide) : ¬ ((1 : Int32) = (0 : Int32)))).1) ?_
        refine XS.iconst X19.here hx rfl (hb hby d2_18) ?_
        refine XS.goto X19.here hx rfl (pc0 := 19) (pc' := 23) rfl (hb hby d2_19) (by decide) (by decide) ?_
        exact kt
      obtain ⟨fs, hr, hrun, hended, hRW⟩ := X19.leaveW hS15 (by rw [k25]; exact hk15) (v := some (.int (1 : Int32))) (fun h => by rw [Bd.returns] at h; cases h)
      refine ⟨_, _, pre0 _ (S37 _ ?_), hrun, hended, _, _, rfl, ?_, ?_, hRW.1, hRW.2.1, hRW.2.2.1, hRW.2.2.2.mono (by decide) (by decide)⟩
      · exact retN X19 hx (t := .boolean) Bd.returns (by simp) (hb hby d2_23) hr
      · show Q_rm_inf9 Z x tx kx c0 c1 c2 c3 c4 c5 c6 c7 c8 zc h0 n0 _ T19.heap _
        rw [k25]
        exact Or.inl ⟨c26, rfl, N27, K17⟩
      · show CHr Z own_EL s.vm s.heap T19.vm T19.heap
        rw [hh, k25]
        exact CR18.trans (CHv.at X19 hZ15 own_ew CR18.1)
    · have S38 : ∀ t, Steps p.tables e below (T19.setTop (mkF m 23 #[.val (.ref x)] [(.int (0 : Int32))])) t → Steps p.tables e below (s₁.setTop (mkF m 0 #[.val (.ref x)] [])) t := by
        intro t kt
        refine XS.aloadN X0.here hx rfl (hb hby d2_0) rfl rfl ?_
        show Steps p.tables e below (s₁.setTop (mkF m 1 #[.val (.ref x)] [(.ref x)])) _
        refine st1 _ ?_
        show Steps p.tables e below (T1.setTop (mkF m 3 #[.val (.ref x)] [(.ref x1), (.ref x)])) _
        refine st5.trans ?_
        refine XS.ifNo X5.here hx rfl (hb hby d2_6) rfl ((if0 _ _).trans (teq ((by decide) : (0 : Int32) = (0 : Int32))).2) ?_
        refine XS.aloadN X5.here hx rfl (hb hby d2_9) rfl rfl ?_
        show Steps p.tables e below (T5.setTop (mkF m 10 #[.val (.ref x)] [(.ref x)])) _
        refine st15 _ ?_
        show Steps p.tables e below (T15.setTop (mkF m 12 #[.val (.ref x)] [(.ref x15), (.ref x)])) _
        refine st19.trans ?_
        refine XS.ifYes X19.here hx rfl (pc0 := 15) (pc' := 22) rfl (hb hby d2_15) rfl ((if0 _ _).trans (teq ((by decide) : (0 : Int32) = (0 : Int32))).1) (by decide) (by decide) ?_
        refine XS.iconst X19.here hx rfl (hb hby d2_22) ?_
        exact kt
      obtain ⟨fs, hr, hrun, hended, hRW⟩ := X19.leaveW hS15 (by rw [k25]; exact hk15) (v := some (.int (0 : Int32))) (fun h => by rw [Bd.returns] at h; cases h)
      refine ⟨_, _, pre0 _ (S38 _ ?_), hrun, hended, _, _, rfl, ?_, ?_, hRW.1, hRW.2.1, hRW.2.2.1, hRW.2.2.2.mono (by decide) (by decide)⟩
      · exact retN X19 hx (t := .boolean) Bd.returns (by simp) (hb hby d2_23) hr
      · show Q_rm_inf9 Z x tx kx c0 c1 c2 c3 c4 c5 c6 c7 c8 zc h0 n0 _ T19.heap _
        rw [k25]
        exact Or.inr (⟨c26, rfl, N27, K17⟩)
      · show CHr Z own_EL s.vm s.heap T19.vm T19.heap
        rw [hh, k25]
        exact CR18.trans (CHv.at X19 hZ15 own_ew CR18.1)
theorem ef_rm_inf10 (m : MethodId) (x0 : Addr) : entryFrame m #[(.ref x0)] 1 = mkF m 0 #[.val (.ref x0)] [] := by first | (simp [entryFrame, mkF, argsToLocals, Value.category]; done) | rfl
def Q_rm_inf10 (Z : State) (x : Addr) (tx : Addr) (kx : ClassId) (c0 : Int32) (c1 : Int32) (c2 : Int32) (c3 : Int32) (c4 : Int32) (c5 : Int32) (c6 : Int32) (c7 : Int32) (c8 : Int32) (c9 : Int32) (zc : Int32) (h0 : Heap) (n0 : Nat) (v : Option Value) (h : Heap) (L : List Loc) : Prop := ((v = some (.int (0 : Int32))) ∧ (Fr n0 L) ∧ (Keep h0 h []))
set_option maxRecDepth 65536 in
set_option maxHeartbeats 40000000 in
theorem rm_inf10 (l : Launch) (Z : State) (a0 : Array Value) (hw : ∀ d ∈ tables_1, d.before a0 Z = true) (ws : List Jvm.Cond) (x : Addr) (tx : Addr) (kx : ClassId) (c0 : Int32) (c1 : Int32) (c2 : Int32) (c3 : Int32) (c4 : Int32) (c5 : Int32) (c6 : Int32) (c7 : Int32) (c8 : Int32) (c9 : Int32) (zc : Int32) (h0 : Heap) (n0 : Nat) (O0 : Old Z n0 h0) (E_x : Exa Z h0 x "java/lang/String") (V_x : Fld Z h0 x "java/lang/String" "value" "[B" (.ref tx)) (C_x : Fld Z h0 x "java/lang/String" "coder" "B" (.int (0 : Int32))) (K_x : Arv Z h0 tx kx .byte (10 : Int32) [(.int c0.toInt8.toInt32), (.int c1.toInt8.toInt32), (.int c2.toInt8.toInt32), (.int c3.toInt8.toInt32), (.int c4.toInt8.toInt32), (.int c5.toInt8.toInt32), (.int c6.toInt8.toInt32), (.int c7.toInt8.toInt32), (.int c8.toInt8.toInt32), (.int c9.toInt8.toInt32)] (.int (0 : Int32))) (la_c0 : ¬ (c0 < (0 : Int32)) ∧ ¬ ((255 : Int32) < c0)) (la_c1 : ¬ (c1 < (0 : Int32)) ∧ ¬ ((255 : Int32) < c1)) (la_c2 : ¬ (c2 < (0 : Int32)) ∧ ¬ ((255 : Int32) < c2)) (la_c3 : ¬ (c3 < (0 : Int32)) ∧ ¬ ((255 : Int32) < c3)) (la_c4 : ¬ (c4 < (0 : Int32)) ∧ ¬ ((255 : Int32) < c4)) (la_c5 : ¬ (c5 < (0 : Int32)) ∧ ¬ ((255 : Int32) < c5)) (la_c6 : ¬ (c6 < (0 : Int32)) ∧ ¬ ((255 : Int32) < c6)) (la_c7 : ¬ (c7 < (0 : Int32)) ∧ ¬ ((255 : Int32) < c7)) (la_c8 : ¬ (c8 < (0 : Int32)) ∧ ¬ ((255 : Int32) < c8)) (la_c9 : ¬ (c9 < (0 : Int32)) ∧ ¬ ((255 : Int32) < c9)) (S_C : Sta Z Z.heap "java/lang/String" "COMPACT_STRINGS" "Z" (.int zc)) (hzc : ¬ (zc = (0 : Int32))) :
    MetFree l (⟨"com/example/logtide/logtide/event/TemporalText", "isInfinite", "(Ljava/lang/String;)Z"⟩ : MethodName) (head1 (Jvm.Cond.code (⟨"com/example/logtide/logtide/event/TemporalText", "isInfinite", "(Ljava/lang/String;)Z"⟩ : MethodName) prog_21_method_6_code 1 (some .boolean) :: ws) ({ frames := 2, cells := 4, slots := 80, locals := 28 } : Room)) (fun a U => a = #[(.ref x)] ∧ Z.Warmed39 U.vm ∧ U.heap = h0 ∧ CHv Z own_EL U.vm h0 ∧ ∀ own_y ∈ ([] : List Addr), Safe Z own_EL U.vm h0 own_y) (fun _ _ _ _ _ => True) (fun _ U o U' => ∃ v L, o = .returned v ∧ Q_rm_inf10 Z x tx kx c0 c1 c2 c3 c4 c5 c6 c7 c8 c9 zc h0 n0 v U'.heap L ∧ CHr Z own_EL U.vm U.heap U'.vm U'.heap ∧ ReturnedEndW U o U' L ({ frames := 2, cells := 4, slots := 80, locals := 28 } : Room).cells ({ frames := 2, cells := 4, slots := 80, locals := 28 } : Room).slots) := by
  refine MetFree.of_bodySF (plainFor_of_name pn_1) hisR ?_
  intro p e s m args below meth c s₁ Bd hml0 hP hK
  obtain ⟨rfl, hZ, hh, hCH, hSf⟩ := hP
  have hx := Bd.exec
  have hby := Bd.bytes
  have hml : c.maxLocals = 1 := hml0
  have hown : s.vm.findClass "com/example/logtide/logtide/event/TemporalText" = some m.cls := findClass_of_methodNamed Bd.named
  have hnm := (name_of_methodNamed Bd.named Bd.method).1
  have X0 : Stand p l e ({ frames := 2, cells := 4, slots := 80, locals := 28 } : Room) (s.setVm s.vm) m #[(.ref x)] below meth c s₁ [] 0 0 := Stand.of_body Bd
  have e0 : s₁.heap = h0 := by rw [← hh, Bd.state]; rfl
  have N0 := Fr.nil n0
  have hZ0 := hZ
  have ho0 := hown
  have hS0 : s.Since s.vm 0 := (State.WarmedH.refl s).since 0
  have hk0 : 0 ≤ h0.size := Nat.zero_le _
  have CR0 : CHr Z own_EL s.vm h0 s.vm h0 := CHr.refl hCH
  have own_at : ∀ d ∈ Bundle.stringAtoms, d.before a0 Z = true := fun d hd => hw d (own_atoms d hd)
  have own_ew : EW Z a0 own_EL := own_EWof hw
  have hwl : ∀ d ∈ StrChars.Road.wordsLen, d.before a0 Z = true := fun d hd => hw d (own_wordsLen d hd)
  have hwc : ∀ d ∈ StrChars.Road.wordsChN, d.before a0 Z = true := fun d hd => hw d (own_wordsChN d hd)
  have hwq : ∀ d ∈ StrChars.Road.wordsEq, d.before a0 Z = true := fun d hd => hw d (own_wordsEq d hd)
  have hws : ∀ d ∈ StrChars.Road.words, d.before a0 Z = true := fun d hd => hw d (own_words d hd)
  have K0 : Keep h0 h0 [] := Keep.refl _ _
  have pre0 : ∀ t, Steps p.tables e below (s₁.setTop (mkF m 0 #[.val (.ref x)] [])) t → Steps p.tables e below (s₁.setTop (entryFrame m #[(.ref x)] 1)) t := fun t k => castTop (ef_rm_inf10 m x) k
  obtain ⟨x1, T1, h1, q1, y1, j1, X1, e1, E1, hS1, hk1, hZ1, ho1, fE1, fC1, fV1, fA1, la1, lb1, C1, -, ns1, st1⟩ := ldcCH X0 hx hZ0 ho0 (own_w hw 77 rfl) own_at e0 hS0 hk0 own_ew (by decide) CR0.1 (vs := [(.int (105 : Int32).toInt8.toInt32), (.int (110 : Int32).toInt8.toInt32), (.int (102 : Int32).toInt8.toInt32), (.int (105 : Int32).toInt8.toInt32), (.int (110 : Int32).toInt8.toInt32), (.int (105 : Int32).toInt8.toInt32), (.int (116 : Int32).toInt8.toInt32), (.int (121 : Int32).toInt8.toInt32)]) (z := (8 : Int32)) ⟨by decide, by decide +kernel⟩ (by decide) rfl (g := (mkF m 1 #[.val (.ref x)] [(.ref x)])) rfl (hb hby d2_1) (n := 36) (by decide) (by decide) (by decide) (by decide)
  have O2 := O0.ext E1
  have K3 : Keep h0 h1 [] := K0.ext E1
  have CR4 := CR0.trans C1
  have f6 := (Exa.ext E1 E_x)
  have f7 := (Fld.ext E1 V_x)
  have f8 := (Fld.ext E1 C_x)
  have f9 := (Arv.ext K_x E1)
  have la10 : ∀ c ∈ ([c0, c1, c2, c3, c4, c5, c6, c7, c8, c9] : List Int32), ¬ c < 0 ∧ ¬ (255 : Int32) < c := by
    intro c hc
    simp only [List.mem_cons, List.not_mem_nil, or_false] at hc
    rcases hc with rfl | rfl | rfl | rfl | rfl | rfl | rfl | rfl | rfl | rfl
    · exact la_c0
    · exact la_c1
    · exact la_c2
    · exact la_c3
    · exact la_c4
    · exact la_c5
    · exact la_c6
    · exact la_c7
    · exact la_c8
    · exact la_c9
  have cd10 : StrChars.Road.CodA ([c0, c1, c2, c3, c4, c5, c6, c7, c8, c9] : List Int32) 0 (10 : Int32) [(.int c0.toInt8.toInt32), (.int c1.toInt8.toInt32), (.int c2.toInt8.toInt32), (.int c3.toInt8.toInt32), (.int c4.toInt8.toInt32), (.int c5.toInt8.toInt32), (.int c6.toInt8.toInt32), (.int c7.toInt8.toInt32), (.int c8.toInt8.toInt32), (.int c9.toInt8.toInt32)] := StrChars.Road.codOf (n := 10) rfl (fun x hx => (la10 x hx).2)
  have bd10 := own_up la10
  have la11 : ∀ c ∈ ([(105 : Int32), (110 : Int32), (102 : Int32), (105 : Int32), (110 : Int32), (105 : Int32), (116 : Int32), (121 : Int32)] : List Int32), ¬ c < 0 ∧ ¬ (255 : Int32) < c := by
    intro c hc
    simp only [List.mem_cons, List.not_mem_nil, or_false] at hc
    rcases hc with rfl | rfl | rfl | rfl | rfl | rfl | rfl | rfl
    · exact ⟨by decide, by decide⟩
    · exact ⟨by decide, by decide⟩
    · exact ⟨by decide, by decide⟩
    · exact ⟨by decide, by decide⟩
    · exact ⟨by decide, by decide⟩
    · exact ⟨by decide, by decide⟩
    · exact ⟨by decide, by decide⟩
    · exact ⟨by decide, by decide⟩
  have cd11 : StrChars.Road.CodA ([(105 : Int32), (110 : Int32), (102 : Int32), (105 : Int32), (110 : Int32), (105 : Int32), (116 : Int32), (121 : Int32)] : List Int32) 0 (8 : Int32) [(.int (105 : Int32).toInt8.toInt32), (.int (110 : Int32).toInt8.toInt32), (.int (102 : Int32).toInt8.toInt32), (.int (105 : Int32).toInt8.toInt32), (.int (110 : Int32).toInt8.toInt32), (.int (105 : Int32).toInt8.toInt32), (.int (116 : Int32).toInt8.toInt32), (.int (121 : Int32).toInt8.toInt32)] := StrChars.Road.codOf (n := 8) rfl (fun x hx => (la11 x hx).2)
  have bd11 := own_up la11
  obtain ⟨cq5, kq5, q5a, q5b, q5c⟩ := isOf hZ1 e1 f6
  obtain ⟨_, _, ⟨T5, L5, k5, n5⟩, -, X5, ⟨Lc5, hQ5, l5, y5, z5⟩, st5⟩ := X1.virtualBack hx (y := (⟨"java/lang/String", "equals", "(Ljava/lang/Object;)Z"⟩ : MethodName)) (z := (⟨"java/lang/String", "equals", "(Ljava/lang/Object;)Z"⟩ : MethodName)) ho1 (mvT hZ1 (own_w hw 78 rfl)) (mvT hZ1 (own_w hw 79 rfl)) (notFace_of_selects (args := #[]) (mvT hZ1 (own_w hw 81 rfl))) (mvT hZ1 (own_w hw 81 rfl)) (mvT hZ1 (own_w hw 80 rfl)) (by decide) (StrChars.Road.eqW (W := 0) hZ1 hwq (kI := 4) (own_w hw 3 rfl) (cs := [c0, c1, c2, c3, c4, c5, c6, c7, c8, c9]) f6 f7 f8 f9 cd10 bd10 (by show 10 ≤ 4000; decide) (ds := [(105 : Int32), (110 : Int32), (102 : Int32), (105 : Int32), (110 : Int32), (105 : Int32), (116 : Int32), (121 : Int32)]) fE1 fV1 fC1 fA1 cd11 bd11 (by show 8 ≤ 4000; decide) (S_C.ext O2.2) hzc (by decide) (by decide)) q5a q5c (g := (mkF m 3 #[.val (.ref x)] [(.ref x1), (.ref x)])) rfl (by rw [hml]; rfl) (Steps.refl _) (argsL := [(.ref x1)]) (rest := []) (lenOf pd_2 rfl) rfl (by show 2 * 0 + _ ≤ _; exact Nat.le_of_eq rfl) (hb hby d2_3) (fun _ _ => ⟨rfl, e1, (by decide : 2 + 0 ≤ _), (by decide : 40 + 0 ≤ _)⟩)
  dsimp only [Pt.U, Pt.locs, Pt.cells, Pt.slots] at X5 l5 y5 z5 st5 hQ5
  subst l5 y5 z5
  obtain ⟨hQ5, rfl, k12⟩ := hQ5
  have N14 := Fr.app N0 (Fr.nil n0)
  rcases hQ5 with ⟨rfl, c13⟩ | ⟨rfl, c13⟩
  · exact absurd c13 (fun q => by have := congrArg List.length q; simp at this)
  · obtain ⟨x15, T15, h15, q15, y15, j15, X15, e15, E15, hS15, hk15, hZ15, ho15, fE15, fC15, fV15, fA15, la15, lb15, C15, -, ns15, st15⟩ := ldcCH X5 hx hZ1 ho1 (own_w hw 87 rfl) own_at k12 hS1 hk1 own_ew (by decide) CR4.1 (vs := [(.int (45 : Int32).toInt8.toInt32), (.int (105 : Int32).toInt8.toInt32), (.int (110 : Int32).toInt8.toInt32), (.int (102 : Int32).toInt8.toInt32), (.int (105 : Int32).toInt8.toInt32), (.int (110 : Int32).toInt8.toInt32), (.int (105 : Int32).toInt8.toInt32), (.int (116 : Int32).toInt8.toInt32), (.int (121 : Int32).toInt8.toInt32)]) (z := (9 : Int32)) ⟨by decide, by decide +kernel⟩ (by decide) rfl (g := (mkF m 10 #[.val (.ref x)] [(.ref x)])) rfl (hb hby d2_10) (n := 36) (by decide) (by decide) (by decide) (by decide)
    have O16 := O2.ext E15
    have K17 : Keep h0 h15 [] := K3.ext E15
    have CR18 := CR4.trans C15
    have f20 := (Exa.ext E15 f6)
    have f21 := (Fld.ext E15 f7)
    have f22 := (Fld.ext E15 f8)
    have f23 := (Arv.ext f9 E15)
    have la24 : ∀ c ∈ ([(45 : Int32), (105 : Int32), (110 : Int32), (102 : Int32), (105 : Int32), (110 : Int32), (105 : Int32), (116 : Int32), (121 : Int32)] : List Int32), ¬ c < 0 ∧ ¬ (255 : Int32) < c := by
      intro c hc
      simp only [List.mem_cons, List.not_mem_nil, or_false] at hc
      rcases hc with rfl | rfl | rfl | rfl | rfl | rfl | rfl | rfl | rfl
      · exact ⟨by decide, by decide⟩
      · exact ⟨by decide, by decide⟩
      · exact ⟨by decide, by decide⟩
      · exact ⟨by decide, by decide⟩
      · exact ⟨by decide, by decide⟩
      · exact ⟨by decide, by decide⟩
      · exact ⟨by decide, by decide⟩
      · exact ⟨by decide, by decide⟩
      · exact ⟨by decide, by decide⟩
    have cd24 : StrChars.Road.CodA ([(45 : Int32), (105 : Int32), (110 : Int32), (102 : Int32), (105 : Int32), (110 : Int32), (105 : Int32), (116 : Int32), (121 : Int32)] : List Int32) 0 (9 : Int32) [(.int (45 : Int32).toInt8.toInt32), (.int (105 : Int32).toInt8.toInt32), (.int (110 : Int32).toInt8.toInt32), (.int (102 : Int32).toInt8.toInt32), (.int (105 : Int32).toInt8.toInt32), (.int (110 : Int32).toInt8.toInt32), (.int (105 : Int32).toInt8.toInt32), (.int (116 : Int32).toInt8.toInt32), (.int (121 : Int32).toInt8.toInt32)] := StrChars.Road.codOf (n := 9) rfl (fun x hx => (la24 x hx).2)
    have bd24 := own_up la24
    obtain ⟨cq19, kq19, q19a, q19b, q19c⟩ := isOf hZ15 e15 f20
    obtain ⟨_, _, ⟨T19, L19, k19, n19⟩, -, X19, ⟨Lc19, hQ19, l19, y19, z19⟩, st19⟩ := X15.virtualBack hx (y := (⟨"java/lang/String", "equals", "(Ljava/lang/Object;)Z"⟩ : MethodName)) (z := (⟨"java/lang/String", "equals", "(Ljava/lang/Object;)Z"⟩ : MethodName)) ho15 (mvT hZ15 (own_w hw 78 rfl)) (mvT hZ15 (own_w hw 79 rfl)) (notFace_of_selects (args := #[]) (mvT hZ15 (own_w hw 81 rfl))) (mvT hZ15 (own_w hw 81 rfl)) (mvT hZ15 (own_w hw 80 rfl)) (by decide) (StrChars.Road.eqW (W := 0) hZ15 hwq (kI := 4) (own_w hw 3 rfl) (cs := [c0, c1, c2, c3, c4, c5, c6, c7, c8, c9]) f20 f21 f22 f23 cd10 bd10 (by show 10 ≤ 4000; decide) (ds := [(45 : Int32), (105 : Int32), (110 : Int32), (102 : Int32), (105 : Int32), (110 : Int32), (105 : Int32), (116 : Int32), (121 : Int32)]) fE15 fV15 fC15 fA15 cd24 bd24 (by show 9 ≤ 4000; decide) (S_C.ext O16.2) hzc (by decide) (by decide)) q19a q19c (g := (mkF m 12 #[.val (.ref x)] [(.ref x15), (.ref x)])) rfl (by rw [hml]; rfl) (Steps.refl _) (argsL := [(.ref x15)]) (rest := []) (lenOf pd_2 rfl) rfl (by show 2 * 0 + _ ≤ _; exact Nat.le_of_eq rfl) (hb hby d2_12) (fun _ _ => ⟨rfl, e15, (by decide : 4 + 0 ≤ _), (by decide : 80 + 0 ≤ _)⟩)
    dsimp only [Pt.U, Pt.locs, Pt.cells, Pt.slots] at X19 l19 y19 z19 st19 hQ19
    subst l19 y19 z19
    obtain ⟨hQ19, rfl, k25⟩ := hQ19
    have N27 := Fr.app N14 (Fr.nil n0)
    rcases hQ19 with ⟨rfl, c26⟩ | ⟨rfl, c26⟩
    · exact absurd c26 (fun q => by have := congrArg List.length q; simp at this)
    · have S28 : ∀ t, Steps p.tables e below (T19.setTop (mkF m 23 #[.val (.ref x)] [(.int (0 : Int32))])) t → Steps p.tables e below (s₁.setTop (mkF m 0 #[.val (.ref x)] [])) t := by
        intro t kt
        refine XS.aloadN X0.here hx rfl (hb hby d2_0) rfl rfl ?_
        show Steps p.tables e below (s₁.setTop (mkF m 1 #[.val (.ref x)] [(.ref x)])) _
        refine st1 _ ?_
        show Steps p.tables e below (T1.setTop (mkF m 3 #[.val (.ref x)] [(.ref x1), (.ref x)])) _
        refine st5.trans ?_
        refine XS.ifNo X5.here hx rfl (hb hby d2_6) rfl ((if0 _ _).trans (teq ((by decide) : (0 : Int32) = (0 : Int32))).2) ?_
        refine XS.aloadN X5.here hx rfl (hb hby d2_9) rfl rfl ?_
        show Steps p.tables e below (T5.setTop (mkF m 10 #[.val (.ref x)] [(.ref x)])) _
        refine st15 _ ?_
        show Steps p.tables e below (T15.setTop (mkF m 12 #[.val (.ref x)] [(.ref x15), (.ref x)])) _
        refine st19.trans ?_
        refine XS.ifYes X19.here hx rfl (pc0 := 15) (pc' := 22) rfl (hb hby d2_15) rfl ((if0 _ _).trans (teq ((by decide) : (0 : Int32) = (0 : Int32))).1) (by decide) (by decide) ?_
        refine XS.iconst X19.here hx rfl (hb hby d2_22) ?_
        exact kt
      obtain ⟨fs, hr, hrun, hended, hRW⟩ := X19.leaveW hS15 (by rw [k25]; exact hk15) (v := some (.int (0 : Int32))) (fun h => by rw [Bd.returns] at h; cases h)
      refine ⟨_, _, pre0 _ (S28 _ ?_), hrun, hended, _, _, rfl, ?_, ?_, hRW.1, hRW.2.1, hRW.2.2.1, hRW.2.2.2.mono (by decide) (by decide)⟩
      · exact retN X19 hx (t := .boolean) Bd.returns (by simp) (hb hby d2_23) hr
      · show Q_rm_inf10 Z x tx kx c0 c1 c2 c3 c4 c5 c6 c7 c8 c9 zc h0 n0 _ T19.heap _
        rw [k25]
        exact ⟨rfl, N27, K17⟩
      · show CHr Z own_EL s.vm s.heap T19.vm T19.heap
        rw [hh, k25]
        exact CR18.trans (CHv.at X19 hZ15 own_ew CR18.1)
theorem pd_3 : parseMethodDescriptor "([CI)[C" = some ⟨[(.array .char), .int], some (.array .char)⟩ := by decide +kernel
theorem pd_4 : parseMethodDescriptor "([C)V" = some ⟨[(.array .char)], none⟩ := by decide +kernel
theorem pd_5 : parseMethodDescriptor "(Ljava/lang/String;)Z" = some ⟨[(.object "java/lang/String")], some .boolean⟩ := by decide +kernel
set_option maxRecDepth 65536 in
set_option maxHeartbeats 40000000 in
theorem rm_tail (l : Launch) (Z : State) (a0 : Array Value) (hw : ∀ d ∈ tables_1, d.before a0 Z = true) (q0 : Int32) (q1 : Int32) (q2 : Int32) (q3 : Int32) (q4 : Int32) (nv : Int32) (z6 : Int32) (a7 : Addr) (f8 : Int32) (w : Addr) (kw : ClassId) (c0 : Int32) (c1 : Int32) (c2 : Int32) (c3 : Int32) (c4 : Int32) (c5 : Int32) (c6 : Int32) (c7 : Int32) (c8 : Int32) (c9 : Int32) (zc : Int32) (h0 : Heap) (n0 : Nat) (O0 : Old Z n0 h0) (hn : nv = (6 : Int32) ∨ nv = (7 : Int32) ∨ nv = (8 : Int32) ∨ nv = (9 : Int32) ∨ nv = (10 : Int32)) (A_w : Arv Z h0 w kw .char (10 : Int32) [(.int c0), (.int c1), (.int c2), (.int c3), (.int c4), (.int c5), (.int c6), (.int c7), (.int c8), (.int c9)] (.int (0 : Int32))) (la_c0 : ¬ (c0 < (0 : Int32)) ∧ ¬ ((255 : Int32) < c0)) (la_c1 : ¬ (c1 < (0 : Int32)) ∧ ¬ ((255 : Int32) < c1)) (la_c2 : ¬ (c2 < (0 : Int32)) ∧ ¬ ((255 : Int32) < c2)) (la_c3 : ¬ (c3 < (0 : Int32)) ∧ ¬ ((255 : Int32) < c3)) (la_c4 : ¬ (c4 < (0 : Int32)) ∧ ¬ ((255 : Int32) < c4)) (la_c5 : ¬ (c5 < (0 : Int32)) ∧ ¬ ((255 : Int32) < c5)) (la_c6 : ¬ (c6 < (0 : Int32)) ∧ ¬ ((255 : Int32) < c6)) (la_c7 : ¬ (c7 < (0 : Int32)) ∧ ¬ ((255 : Int32) < c7)) (la_c8 : ¬ (c8 < (0 : Int32)) ∧ ¬ ((255 : Int32) < c8)) (la_c9 : ¬ (c9 < (0 : Int32)) ∧ ¬ ((255 : Int32) < c9)) (S_C : Sta Z Z.heap "java/lang/String" "COMPACT_STRINGS" "Z" (.int zc)) (hzc : ¬ (zc = (0 : Int32)))
    {p : Program} {e : Env} {s : State} {m : MethodId} {args : Array Value} {below : List Frame} {meth : Method} {c : Code} {T0 : State} {locs : List Loc} {vm0 : Vm} {k0 : Nat} (X0 : Stand p l e room_1 (s.setVm vm0) m args below meth c T0 locs 3 50) (hx : p.tables.exec = Jvm.exec) (hZ : Z.Warmed39 (s.setVm vm0).vm) (hby : c.code = code) (hml : c.maxLocals = 14) (hown : (s.setVm vm0).vm.findClass "com/example/logtide/logtide/event/TemporalTextIsInfinitePinLaw" = some m.cls) (hret : meth.sig.returnType = some .boolean) (hlocks : meth.locks = false) (e0 : T0.heap = h0) (N0 : Fr n0 locs) (hS0 : s.Since vm0 k0) (hk0 : k0 ≤ h0.size) (CR0 : CHr Z own_EL s.vm s.heap vm0 h0) :
    ∃ s₂ o, Steps p.tables e below (T0.setTop (mkF m 203 #[.val (.int q0), .val (.int q1), .val (.int q2), .val (.int q3), .val (.int q4), .val (.int nv), .val (.int z6), .val (.ref a7), .val (.int f8), .val (.ref w), .unset, .unset, .unset, .unset] [])) s₂ ∧ s₂.status = .running ∧ Ended s₂ below o ∧ ∃ v L, o = .returned v ∧ (((v = some (.int (1 : Int32))) ∧ (Fr n0 L))) ∧ CHr Z own_EL s.vm s.heap s₂.vm s₂.heap ∧ ReturnedEndW s o s₂ L room_1.cells room_1.slots := by
  have hZ0 := hZ
  have ho0 := hown
  have own_at : ∀ d ∈ Bundle.stringAtoms, d.before a0 Z = true := fun d hd => hw d (own_atoms d hd)
  have own_ew : EW Z a0 own_EL := own_EWof hw
  have hwl : ∀ d ∈ StrChars.Road.wordsLen, d.before a0 Z = true := fun d hd => hw d (own_wordsLen d hd)
  have hwc : ∀ d ∈ StrChars.Road.wordsChN, d.before a0 Z = true := fun d hd => hw d (own_wordsChN d hd)
  have hwq : ∀ d ∈ StrChars.Road.wordsEq, d.before a0 Z = true := fun d hd => hw d (own_wordsEq d hd)
  have hws : ∀ d ∈ StrChars.Road.words, d.before a0 Z = true := fun d hd => hw d (own_words d hd)
  rcases hn with rfl | rfl | rfl | rfl | rfl
  · obtain ⟨_, _, ⟨T1, L1, k1, n1⟩, -, X1, ⟨Lc1, hQ1, l1, y1, z1⟩, st1⟩ := Jvm.LawKit.callS X0 hx (y := (⟨"com/example/logtide/logtide/event/TemporalTextIsInfinitePinLaw", "cut", "([CI)[C"⟩ : MethodName)) ho0 (mvT hZ0 (own_w hw 49 rfl)) (mvT hZ0 (own_w hw 50 rfl)) (mvT hZ0 (own_w hw 12 rfl)) (mvT hZ0 (own_w hw 51 rfl)) (by decide) (backOf (W := 0) (rm_cut6 l Z a0 hw [] w kw c0 c1 c2 c3 c4 c5 c6 c7 c8 c9 h0 n0 O0 A_w la_c0 la_c1 la_c2 la_c3 la_c4 la_c5 la_c6 la_c7 la_c8 la_c9) hZ0 (own_w hw 51 rfl) (own_w hw 12 rfl) (by decide) (by decide)) (g := (mkF m 207 #[.val (.int q0), .val (.int q1), .val (.int q2), .val (.int q3), .val (.int q4), .val (.int (6 : Int32)), .val (.int z6), .val (.ref a7), .val (.int f8), .val (.ref w), .unset, .unset, .unset, .unset] [(.int (6 : Int32)), (.ref w)])) rfl (by rw [hml]; rfl) (argsL := [(.ref w), (.int (6 : Int32))]) (rest := []) (lenOf pd_3 rfl) rfl (by show 2 * 0 + _ ≤ _; exact Nat.le_of_eq rfl) (hb hby at_207) (fun _ _ => ⟨rfl, e0, (by decide : 3 + 1 ≤ _), (by decide : 50 + 6 ≤ _)⟩)
    dsimp only [Pt.U, Pt.locs, Pt.cells, Pt.slots] at X1 l1 y1 z1 st1 hQ1
    subst l1 y1 z1
    obtain ⟨x2, x3, rfl, N4, k5, f6, f7⟩ := hQ1
    have N8 := Fr.app N0 N4
    have ge9 : n0 ≤ x2 := by rw [← O0.1]; exact Nat.le_trans O0.2.1 f6
    have ne10 : w ≠ x2 := Nat.ne_of_lt (Nat.lt_of_lt_of_le (Arv.lt A_w) f6)
    have CR11 := CR0.trans (CHr.keep k5 sf0 CR0.1)
    have hk12 := Nat.le_trans hk0 k5.1
    have O13 := O0.keep k5 all0
    obtain ⟨T14, h14, X14, e14, E14, A14, D14, -, st14⟩ := newO X1 hx hZ0 ho0 (own_w hw 52 rfl) (own_w hw 3 rfl) (own_w hw 2 rfl) rfl (g := (mkF m 415 #[.val (.int q0), .val (.int q1), .val (.int q2), .val (.int q3), .val (.int q4), .val (.int (6 : Int32)), .val (.int z6), .val (.ref a7), .val (.int f8), .val (.ref w), .val (.ref x2), .val (.int (0 : Int32)), .val (.int (0 : Int32)), .val (.int (0 : Int32))] [])) rfl (hb hby at_415) (by decide) (by decide)
    obtain ⟨b14, g14⟩ : ∃ z, z = T1.heap.size := ⟨_, rfl⟩
    have ge_b14 : n0 ≤ b14 := by rw [g14, ← O13.1]; exact O13.2.1
    have f15 := (Arv.keep A_w k5 nin0)
    have ne16 : w ≠ b14 := Nat.ne_of_lt (Nat.lt_of_lt_of_le (Arv.lt f15) (Nat.le_of_eq g14.symm))
    have ne17 : x2 ≠ b14 := Nat.ne_of_lt (Nat.lt_of_lt_of_le (Arv.lt f7) (Nat.le_of_eq g14.symm))
    have sf18 : Safe Z own_EL vm0 T1.heap b14 := Safe.new (Nat.le_of_eq g14.symm)
    rw [← g14] at A14 D14 st14
    have CR19 := CR11.trans (CHr.ext E14 CR11.1)
    have hk20 := Nat.le_trans hk12 E14.1
    have sf21 := Safe.ext E14 CR11.1 sf18
    have O22 := O13.ext E14
    have F23 : Fld Z h14 b14 "java/lang/String" "value" "[B" .null := D14 (Or.inr (own_w hw 5 rfl)) (ty := (.array .byte)) (by decide)
    have F24 : Fld Z h14 b14 "java/lang/String" "coder" "B" (.int (0 : Int32)) := D14 (Or.inr (own_w hw 6 rfl)) (ty := .byte) (by decide)
    have f26 := (Arv.ext f7 E14)
    have la27 : ∀ c ∈ ([c0, c1, c2, c3, c4, c5] : List Int32), ¬ c < 0 ∧ ¬ (255 : Int32) < c := by
      intro c hc
      simp only [List.mem_cons, List.not_mem_nil, or_false] at hc
      rcases hc with rfl | rfl | rfl | rfl | rfl | rfl
      · exact la_c0
      · exact la_c1
      · exact la_c2
      · exact la_c3
      · exact la_c4
      · exact la_c5
    obtain ⟨_, _, ⟨T25, L25, k25, n25⟩, -, X25, ⟨Lc25, hQ25, l25, y25, z25⟩, st25⟩ := X14.specialBack hx (y := (⟨"java/lang/String", "<init>", "([C)V"⟩ : MethodName)) rfl ho0 (mvT hZ0 (own_w hw 53 rfl)) (mvT hZ0 (own_w hw 54 rfl)) (mvT hZ0 (own_w hw 55 rfl)) (by decide) (StrChars.Road.backV (W := 1) hZ0 hws (kI := 4) (own_w hw 3 rfl) (cs := [c0, c1, c2, c3, c4, c5]) (bs := [c0.toInt8.toInt32, c1.toInt8.toInt32, c2.toInt8.toInt32, c3.toInt8.toInt32, c4.toInt8.toInt32, c5.toInt8.toInt32]) (n := 6) ge_b14 (by rw [← O22.1]; exact O22.2.1) A14 F23 F24 f26 (S_C.ext O22.2) hzc rfl rfl (by decide) (by decide) la27 rfl (by decide) (by decide)) (g := (mkF m 421 #[.val (.int q0), .val (.int q1), .val (.int q2), .val (.int q3), .val (.int q4), .val (.int (6 : Int32)), .val (.int z6), .val (.ref a7), .val (.int f8), .val (.ref w), .val (.ref x2), .val (.int (0 : Int32)), .val (.int (0 : Int32)), .val (.int (0 : Int32))] [(.ref x2), (.ref b14), (.ref b14)])) rfl (by rw [hml]; rfl) (Steps.refl _) (a := b14) (argsL := [(.ref x2)]) (rest := [(.ref b14)]) (lenOf pd_4 rfl) rfl (by show 2 * 0 + _ ≤ _; exact Nat.le_of_eq rfl) (hb hby at_421) (fun _ _ => ⟨rfl, e14, (by decide : 5 + 1 ≤ _), (by decide : 60 + 6 ≤ _)⟩)
    dsimp only [Pt.U, Pt.locs, Pt.cells, Pt.slots] at X25 l25 y25 z25 st25 hQ25
    subst l25 y25 z25
    obtain ⟨rfl, f30, f31, f32, f33, x28, x29, f34, f35, qf35, f36, f37⟩ := hQ25
    have N38 := Fr.app N8 f30
    have ge39 : n0 ≤ x28 := by rw [← O22.1]; exact Nat.le_trans O22.2.1 f35
    have f40 := (Arv.ext f15 E14)
    have ne41 : w ≠ x28 := Nat.ne_of_lt (Nat.lt_of_lt_of_le (Arv.lt f40) f35)
    have ne42 : x2 ≠ x28 := Nat.ne_of_lt (Nat.lt_of_lt_of_le (Arv.lt f26) f35)
    have ne43 : b14 ≠ x28 := Nat.ne_of_lt (Nat.lt_of_lt_of_le (Exa.lt A14) f35)
    have CR44 := CR19.trans (CHr.keep f31 (sfS sf21 sf0) CR19.1)
    have hk45 := Nat.le_trans hk20 f31.1
    have sf46 := Safe.keep f31 (sfS sf21 sf0) CR19.1 sf21
    have O47 := O22.keep f31 (allS ge_b14 all0)
    obtain ⟨_, _, ⟨T48, L48, k48, n48⟩, -, Xq48, hSq48, hgq48, ⟨Lc48, hQ48, l48, y48, z48, C48⟩, st48⟩ := callSS X25 hx (y := (⟨"com/example/logtide/logtide/event/TemporalText", "isInfinite", "(Ljava/lang/String;)Z"⟩ : MethodName)) ho0 (mvT hZ0 (own_w hw 73 rfl)) (mvT hZ0 (own_w hw 74 rfl)) (mvT hZ0 (own_w hw 75 rfl)) (mvT hZ0 (own_w hw 76 rfl)) (by decide) (own_backS (W := 0) (rm := ({ frames := 2, cells := 4, slots := 80, locals := 28 } : Room)) (xs := []) (rm_inf6 l Z a0 hw [] b14 x28 x29 c0 c1 c2 c3 c4 c5 zc T25.heap n0 O47 f32 f36 f33 f37 la_c0 la_c1 la_c2 la_c3 la_c4 la_c5 S_C hzc) hZ0 (own_w hw 76 rfl) (own_w hw 75 rfl) (by decide) (by decide) own_ew CR44.1 all0) (g := (mkF m 424 #[.val (.int q0), .val (.int q1), .val (.int q2), .val (.int q3), .val (.int q4), .val (.int (6 : Int32)), .val (.int z6), .val (.ref a7), .val (.int f8), .val (.ref w), .val (.ref x2), .val (.int (0 : Int32)), .val (.int (0 : Int32)), .val (.int (0 : Int32))] [(.ref b14)])) rfl (by rw [hml]; rfl) (argsL := [(.ref b14)]) (rest := []) (lenOf pd_5 rfl) rfl (by show 2 * 0 + _ ≤ _; exact Nat.le_of_eq rfl) (hb hby at_424) (fun _ _ => ⟨rfl, rfl, (by decide : 6 + 4 ≤ _), (by decide : 66 + 80 ≤ _)⟩)
    dsimp only [Pt.U, Pt.locs, Pt.cells, Pt.slots] at Xq48 hSq48 hgq48 l48 y48 z48 st48 hQ48 C48
    obtain ⟨X48, hS48, hZ48, ho48⟩ := rebS hS0 (by exact hk45) Xq48 hSq48 hgq48 hZ0 ho0
    subst l48 y48 z48
    obtain ⟨rfl, N49, k50⟩ := hQ48
    have N51 := Fr.app N38 N49
    have sf52 := CHr.safe C48 (Exa.lt f32) sf46
    have CR53 := CR44.trans C48
    have hk54 : T48.heap.size ≤ T48.heap.size := Nat.le_refl _
    have O55 := O47.keep k50 all0
    have S56 : ∀ t, Steps p.tables e below (T48.setTop (mkF m 437 #[.val (.int q0), .val (.int q1), .val (.int q2), .val (.int q3), .val (.int q4), .val (.int (6 : Int32)), .val (.int z6), .val (.ref a7), .val (.int f8), .val (.ref w), .val (.ref x2), .val (.int (0 : Int32)), .val (.int (0 : Int32)), .val (.int (0 : Int32))] [(.int (1 : Int32))])) t → Steps p.tables e below (T0.setTop (mkF m 203 #[.val (.int q0), .val (.int q1), .val (.int q2), .val (.int q3), .val (.int q4), .val (.int (6 : Int32)), .val (.int z6), .val (.ref a7), .val (.int f8), .val (.ref w), .unset, .unset, .unset, .unset] [])) t := by
      intro t kt
      refine XS.aload X0.here hx rfl (hb hby at_203) rfl rfl ?_
      refine XS.iload X0.here hx rfl (hb hby at_205) rfl ?_
      show Steps p.tables e below (T0.setTop (mkF m 207 #[.val (.int q0), .val (.int q1), .val (.int q2), .val (.int q3), .val (.int q4), .val (.int (6 : Int32)), .val (.int z6), .val (.ref a7), .val (.int f8), .val (.ref w), .unset, .unset, .unset, .unset] [(.int (6 : Int32)), (.ref w)])) _
      refine st1 _ ?_
      refine XS.astore X1.here hx rfl (hb hby at_210) rfl rfl (l' := #[.val (.int q0), .val (.int q1), .val (.int q2), .val (.int q3), .val (.int q4), .val (.int (6 : Int32)), .val (.int z6), .val (.ref a7), .val (.int f8), .val (.ref w), .val (.ref x2), .unset, .unset, .unset]) rfl ?_
      refine XS.iload X1.here hx rfl (hb hby at_212) rfl ?_
      refine XS.bipush X1.here hx rfl (hb hby at_214) ?_
      refine XS.icmpYes X1.here hx rfl (pc0 := 216) (pc' := 297) rfl (hb hby at_216) rfl (feq ((by decide) : ¬ ((6 : Int32) = (8 : Int32)))).2 (by decide) (by decide) ?_
      refine XS.iconst X1.here hx rfl (hb hby at_297) ?_
      show Steps p.tables e below (T1.setTop (mkF m 298 #[.val (.int q0), .val (.int q1), .val (.int q2), .val (.int q3), .val (.int q4), .val (.int (6 : Int32)), .val (.int z6), .val (.ref a7), .val (.int f8), .val (.ref w), .val (.ref x2), .unset, .unset, .unset] [(.int (0 : Int32))])) _
      refine XS.istore X1.here hx rfl (hb hby at_298) rfl (l' := #[.val (.int q0), .val (.int q1), .val (.int q2), .val (.int q3), .val (.int q4), .val (.int (6 : Int32)), .val (.int z6), .val (.ref a7), .val (.int f8), .val (.ref w), .val (.ref x2), .val (.int (0 : Int32)), .unset, .unset]) rfl ?_
      refine XS.iload X1.here hx rfl (hb hby at_300) rfl ?_
      refine XS.bipush X1.here hx rfl (hb hby at_302) ?_
      refine XS.icmpYes X1.here hx rfl (pc0 := 304) (pc' := 395) rfl (hb hby at_304) rfl (feq ((by decide) : ¬ ((6 : Int32) = (9 : Int32)))).2 (by decide) (by decide) ?_
      refine XS.iconst X1.here hx rfl (hb hby at_395) ?_
      refine XS.istore X1.here hx rfl (hb hby at_396) rfl (l' := #[.val (.int q0), .val (.int q1), .val (.int q2), .val (.int q3), .val (.int q4), .val (.int (6 : Int32)), .val (.int z6), .val (.ref a7), .val (.int f8), .val (.ref w), .val (.ref x2), .val (.int (0 : Int32)), .val (.int (0 : Int32)), .unset]) rfl ?_
      show Steps p.tables e below (T1.setTop (mkF m 398 #[.val (.int q0), .val (.int q1), .val (.int q2), .val (.int q3), .val (.int q4), .val (.int (6 : Int32)), .val (.int z6), .val (.ref a7), .val (.int f8), .val (.ref w), .val (.ref x2), .val (.int (0 : Int32)), .val (.int (0 : Int32)), .unset] [])) _
      refine XS.iload X1.here hx rfl (hb hby at_398) rfl ?_
      refine XS.ifNo X1.here hx rfl (hb hby at_400) rfl ((if0 _ _).trans (teq ((by decide) : (0 : Int32) = (0 : Int32))).2) ?_
      refine XS.iload X1.here hx rfl (hb hby at_403) rfl ?_
      refine XS.ifYes X1.here hx rfl (pc0 := 405) (pc' := 412) rfl (hb hby at_405) rfl ((if0 _ _).trans (teq ((by decide) : (0 : Int32) = (0 : Int32))).1) (by decide) (by decide) ?_
      refine XS.iconst X1.here hx rfl (hb hby at_412) ?_
      refine XS.istore X1.here hx rfl (hb hby at_413) rfl (l' := #[.val (.int q0), .val (.int q1), .val (.int q2), .val (.int q3), .val (.int q4), .val (.int (6 : Int32)), .val (.int z6), .val (.ref a7), .val (.int f8), .val (.ref w), .val (.ref x2), .val (.int (0 : Int32)), .val (.int (0 : Int32)), .val (.int (0 : Int32))]) rfl ?_
      show Steps p.tables e below (T1.setTop (mkF m 415 #[.val (.int q0), .val (.int q1), .val (.int q2), .val (.int q3), .val (.int q4), .val (.int (6 : Int32)), .val (.int z6), .val (.ref a7), .val (.int f8), .val (.ref w), .val (.ref x2), .val (.int (0 : Int32)), .val (.int (0 : Int32)), .val (.int (0 : Int32))] [])) _
      refine st14 _ ?_
      refine XS.dup X14.here hx rfl (hb hby at_418) rfl rfl ?_
      refine XS.aload X14.here hx rfl (hb hby at_419) rfl rfl ?_
      show Steps p.tables e below (T14.setTop (mkF m 421 #[.val (.int q0), .val (.int q1), .val (.int q2), .val (.int q3), .val (.int q4), .val (.int (6 : Int32)), .val (.int z6), .val (.ref a7), .val (.int f8), .val (.ref w), .val (.ref x2), .val (.int (0 : Int32)), .val (.int (0 : Int32)), .val (.int (0 : Int32))] [(.ref x2), (.ref b14), (.ref b14)])) _
      refine st25.trans ?_
      show Steps p.tables e below (T25.setTop (mkF m 424 #[.val (.int q0), .val (.int q1), .val (.int q2), .val (.int q3), .val (.int q4), .val (.int (6 : Int32)), .val (.int z6), .val (.ref a7), .val (.int f8), .val (.ref w), .val (.ref x2), .val (.int (0 : Int32)), .val (.int (0 : Int32)), .val (.int (0 : Int32))] [(.ref b14)])) _
      refine st48.trans ?_
      refine XS.iload X48.here hx rfl (hb hby at_427) rfl ?_
      refine XS.icmpNo X48.here hx rfl (hb hby at_429) rfl (teq ((by decide) : (0 : Int32) = (0 : Int32))).2 ?_
      refine XS.iconst X48.here hx rfl (hb hby at_432) ?_
      refine XS.goto X48.here hx rfl (pc0 := 433) (pc' := 437) rfl (hb hby at_433) (by decide) (by decide) ?_
      exact kt
    obtain ⟨fs, hr, hrun, hended, hRW⟩ := X48.leaveW hS48 (by exact hk54) (v := some (.int (1 : Int32))) (fun h => by rw [hret] at h; cases h)
    refine ⟨_, _, S56 _ ?_, hrun, hended, _, _, rfl, ?_, ?_, hRW.1, hRW.2.1, hRW.2.2.1, hRW.2.2.2.mono (by decide) (by decide)⟩
    · exact retN X48 hx (t := .boolean) hret (by simp) (hb hby at_437) hr
    · skip
      exact ⟨rfl, N51⟩
    · show CHr Z own_EL s.vm s.heap T48.vm T48.heap
      skip
      exact CR53.trans (CHv.at X48 hZ48 own_ew CR53.1)
  · obtain ⟨_, _, ⟨T57, L57, k57, n57⟩, -, X57, ⟨Lc57, hQ57, l57, y57, z57⟩, st57⟩ := Jvm.LawKit.callS X0 hx (y := (⟨"com/example/logtide/logtide/event/TemporalTextIsInfinitePinLaw", "cut", "([CI)[C"⟩ : MethodName)) ho0 (mvT hZ0 (own_w hw 49 rfl)) (mvT hZ0 (own_w hw 50 rfl)) (mvT hZ0 (own_w hw 12 rfl)) (mvT hZ0 (own_w hw 51 rfl)) (by decide) (backOf (W := 0) (rm_cut7 l Z a0 hw [] w kw c0 c1 c2 c3 c4 c5 c6 c7 c8 c9 h0 n0 O0 A_w la_c0 la_c1 la_c2 la_c3 la_c4 la_c5 la_c6 la_c7 la_c8 la_c9) hZ0 (own_w hw 51 rfl) (own_w hw 12 rfl) (by decide) (by decide)) (g := (mkF m 207 #[.val (.int q0), .val (.int q1), .val (.int q2), .val (.int q3), .val (.int q4), .val (.int (7 : Int32)), .val (.int z6), .val (.ref a7), .val (.int f8), .val (.ref w), .unset, .unset, .unset, .unset] [(.int (7 : Int32)), (.ref w)])) rfl (by rw [hml]; rfl) (argsL := [(.ref w), (.int (7 : Int32))]) (rest := []) (lenOf pd_3 rfl) rfl (by show 2 * 0 + _ ≤ _; exact Nat.le_of_eq rfl) (hb hby at_207) (fun _ _ => ⟨rfl, e0, (by decide : 3 + 1 ≤ _), (by decide : 50 + 7 ≤ _)⟩)
    dsimp only [Pt.U, Pt.locs, Pt.cells, Pt.slots] at X57 l57 y57 z57 st57 hQ57
    subst l57 y57 z57
    obtain ⟨x58, x59, rfl, N60, k61, f62, f63⟩ := hQ57
    have N64 := Fr.app N0 N60
    have ge65 : n0 ≤ x58 := by rw [← O0.1]; exact Nat.le_trans O0.2.1 f62
    have ne66 : w ≠ x58 := Nat.ne_of_lt (Nat.lt_of_lt_of_le (Arv.lt A_w) f62)
    have CR67 := CR0.trans (CHr.keep k61 sf0 CR0.1)
    have hk68 := Nat.le_trans hk0 k61.1
    have O69 := O0.keep k61 all0
    obtain ⟨T70, h70, X70, e70, E70, A70, D70, -, st70⟩ := newO X57 hx hZ0 ho0 (own_w hw 52 rfl) (own_w hw 3 rfl) (own_w hw 2 rfl) rfl (g := (mkF m 415 #[.val (.int q0), .val (.int q1), .val (.int q2), .val (.int q3), .val (.int q4), .val (.int (7 : Int32)), .val (.int z6), .val (.ref a7), .val (.int f8), .val (.ref w), .val (.ref x58), .val (.int (0 : Int32)), .val (.int (0 : Int32)), .val (.int (0 : Int32))] [])) rfl (hb hby at_415) (by decide) (by decide)
    obtain ⟨b70, g70⟩ : ∃ z, z = T57.heap.size := ⟨_, rfl⟩
    have ge_b70 : n0 ≤ b70 := by rw [g70, ← O69.1]; exact O69.2.1
    have f71 := (Arv.keep A_w k61 nin0)
    have ne72 : w ≠ b70 := Nat.ne_of_lt (Nat.lt_of_lt_of_le (Arv.lt f71) (Nat.le_of_eq g70.symm))
    have ne73 : x58 ≠ b70 := Nat.ne_of_lt (Nat.lt_of_lt_of_le (Arv.lt f63) (Nat.le_of_eq g70.symm))
    have sf74 : Safe Z own_EL vm0 T57.heap b70 := Safe.new (Nat.le_of_eq g70.symm)
    rw [← g70] at A70 D70 st70
    have CR75 := CR67.trans (CHr.ext E70 CR67.1)
    have hk76 := Nat.le_trans hk68 E70.1
    have sf77 := Safe.ext E70 CR67.1 sf74
    have O78 := O69.ext E70
    have F79 : Fld Z h70 b70 "java/lang/String" "value" "[B" .null := D70 (Or.inr (own_w hw 5 rfl)) (ty := (.array .byte)) (by decide)
    have F80 : Fld Z h70 b70 "java/lang/String" "coder" "B" (.int (0 : Int32)) := D70 (Or.inr (own_w hw 6 rfl)) (ty := .byte) (by decide)
    have f82 := (Arv.ext f63 E70)
    have la83 : ∀ c ∈ ([c0, c1, c2, c3, c4, c5, c6] : List Int32), ¬ c < 0 ∧ ¬ (255 : Int32) < c := by
      intro c hc
      simp only [List.mem_cons, List.not_mem_nil, or_false] at hc
      rcases hc with rfl | rfl | rfl | rfl | rfl | rfl | rfl
      · exact la_c0
      · exact la_c1
      · exact la_c2
      · exact la_c3
      · exact la_c4
      · exact la_c5
      · exact la_c6
    obtain ⟨_, _, ⟨T81, L81, k81, n81⟩, -, X81, ⟨Lc81, hQ81, l81, y81, z81⟩, st81⟩ := X70.specialBack hx (y := (⟨"java/lang/String", "<init>", "([C)V"⟩ : MethodName)) rfl ho0 (mvT hZ0 (own_w hw 53 rfl)) (mvT hZ0 (own_w hw 54 rfl)) (mvT hZ0 (own_w hw 55 rfl)) (by decide) (StrChars.Road.backV (W := 1) hZ0 hws (kI := 4) (own_w hw 3 rfl) (cs := [c0, c1, c2, c3, c4, c5, c6]) (bs := [c0.toInt8.toInt32, c1.toInt8.toInt32, c2.toInt8.toInt32, c3.toInt8.toInt32, c4.toInt8.toInt32, c5.toInt8.toInt32, c6.toInt8.toInt32]) (n := 7) ge_b70 (by rw [← O78.1]; exact O78.2.1) A70 F79 F80 f82 (S_C.ext O78.2) hzc rfl rfl (by decide) (by decide) la83 rfl (by decide) (by decide)) (g := (mkF m 421 #[.val (.int q0), .val (.int q1), .val (.int q2), .val (.int q3), .val (.int q4), .val (.int (7 : Int32)), .val (.int z6), .val (.ref a7), .val (.int f8), .val (.ref w), .val (.ref x58), .val (.int (0 : Int32)), .val (.int (0 : Int32)), .val (.int (0 : Int32))] [(.ref x58), (.ref b70), (.ref b70)])) rfl (by rw [hml]; rfl) (Steps.refl _) (a := b70) (argsL := [(.ref x58)]) (rest := [(.ref b70)]) (lenOf pd_4 rfl) rfl (by show 2 * 0 + _ ≤ _; exact Nat.le_of_eq rfl) (hb hby at_421) (fun _ _ => ⟨rfl, e70, (by decide : 5 + 1 ≤ _), (by decide : 61 + 7 ≤ _)⟩)
    dsimp only [Pt.U, Pt.locs, Pt.cells, Pt.slots] at X81 l81 y81 z81 st81 hQ81
    subst l81 y81 z81
    obtain ⟨rfl, f86, f87, f88, f89, x84, x85, f90, f91, qf91, f92, f93⟩ := hQ81
    have N94 := Fr.app N64 f86
    have ge95 : n0 ≤ x84 := by rw [← O78.1]; exact Nat.le_trans O78.2.1 f91
    have f96 := (Arv.ext f71 E70)
    have ne97 : w ≠ x84 := Nat.ne_of_lt (Nat.lt_of_lt_of_le (Arv.lt f96) f91)
    have ne98 : x58 ≠ x84 := Nat.ne_of_lt (Nat.lt_of_lt_of_le (Arv.lt f82) f91)
    have ne99 : b70 ≠ x84 := Nat.ne_of_lt (Nat.lt_of_lt_of_le (Exa.lt A70) f91)
    have CR100 := CR75.trans (CHr.keep f87 (sfS sf77 sf0) CR75.1)
    have hk101 := Nat.le_trans hk76 f87.1
    have sf102 := Safe.keep f87 (sfS sf77 sf0) CR75.1 sf77
    have O103 := O78.keep f87 (allS ge_b70 all0)
    obtain ⟨_, _, ⟨T104, L104, k104, n104⟩, -, Xq104, hSq104, hgq104, ⟨Lc104, hQ104, l104, y104, z104, C104⟩, st104⟩ := callSS X81 hx (y := (⟨"com/example/logtide/logtide/event/TemporalText", "isInfinite", "(Ljava/lang/String;)Z"⟩ : MethodName)) ho0 (mvT hZ0 (own_w hw 73 rfl)) (mvT hZ0 (own_w hw 74 rfl)) (mvT hZ0 (own_w hw 75 rfl)) (mvT hZ0 (own_w hw 76 rfl)) (by decide) (own_backS (W := 0) (rm := ({ frames := 2, cells := 4, slots := 80, locals := 28 } : Room)) (xs := []) (rm_inf7 l Z a0 hw [] b70 x84 x85 c0 c1 c2 c3 c4 c5 c6 zc T81.heap n0 O103 f88 f92 f89 f93 la_c0 la_c1 la_c2 la_c3 la_c4 la_c5 la_c6 S_C hzc) hZ0 (own_w hw 76 rfl) (own_w hw 75 rfl) (by decide) (by decide) own_ew CR100.1 all0) (g := (mkF m 424 #[.val (.int q0), .val (.int q1), .val (.int q2), .val (.int q3), .val (.int q4), .val (.int (7 : Int32)), .val (.int z6), .val (.ref a7), .val (.int f8), .val (.ref w), .val (.ref x58), .val (.int (0 : Int32)), .val (.int (0 : Int32)), .val (.int (0 : Int32))] [(.ref b70)])) rfl (by rw [hml]; rfl) (argsL := [(.ref b70)]) (rest := []) (lenOf pd_5 rfl) rfl (by show 2 * 0 + _ ≤ _; exact Nat.le_of_eq rfl) (hb hby at_424) (fun _ _ => ⟨rfl, rfl, (by decide : 6 + 4 ≤ _), (by decide : 68 + 80 ≤ _)⟩)
    dsimp only [Pt.U, Pt.locs, Pt.cells, Pt.slots] at Xq104 hSq104 hgq104 l104 y104 z104 st104 hQ104 C104
    obtain ⟨X104, hS104, hZ104, ho104⟩ := rebS hS0 (by exact hk101) Xq104 hSq104 hgq104 hZ0 ho0
    subst l104 y104 z104
    obtain ⟨rfl, N105, k106⟩ := hQ104
    have N107 := Fr.app N94 N105
    have sf108 := CHr.safe C104 (Exa.lt f88) sf102
    have CR109 := CR100.trans C104
    have hk110 : T104.heap.size ≤ T104.heap.size := Nat.le_refl _
    have O111 := O103.keep k106 all0
    have S112 : ∀ t, Steps p.tables e below (T104.setTop (mkF m 437 #[.val (.int q0), .val (.int q1), .val (.int q2), .val (.int q3), .val (.int q4), .val (.int (7 : Int32)), .val (.int z6), .val (.ref a7), .val (.int f8), .val (.ref w), .val (.ref x58), .val (.int (0 : Int32)), .val (.int (0 : Int32)), .val (.int (0 : Int32))] [(.int (1 : Int32))])) t → Steps p.tables e below (T0.setTop (mkF m 203 #[.val (.int q0), .val (.int q1), .val (.int q2), .val (.int q3), .val (.int q4), .val (.int (7 : Int32)), .val (.int z6), .val (.ref a7), .val (.int f8), .val (.ref w), .unset, .unset, .unset, .unset] [])) t := by
      intro t kt
      refine XS.aload X0.here hx rfl (hb hby at_203) rfl rfl ?_
      refine XS.iload X0.here hx rfl (hb hby at_205) rfl ?_
      show Steps p.tables e below (T0.setTop (mkF m 207 #[.val (.int q0), .val (.int q1), .val (.int q2), .val (.int q3), .val (.int q4), .val (.int (7 : Int32)), .val (.int z6), .val (.ref a7), .val (.int f8), .val (.ref w), .unset, .unset, .unset, .unset] [(.int (7 : Int32)), (.ref w)])) _
      refine st57 _ ?_
      refine XS.astore X57.here hx rfl (hb hby at_210) rfl rfl (l' := #[.val (.int q0), .val (.int q1), .val (.int q2), .val (.int q3), .val (.int q4), .val (.int (7 : Int32)), .val (.int z6), .val (.ref a7), .val (.int f8), .val (.ref w), .val (.ref x58), .unset, .unset, .unset]) rfl ?_
      refine XS.iload X57.here hx rfl (hb hby at_212) rfl ?_
      refine XS.bipush X57.here hx rfl (hb hby at_214) ?_
      refine XS.icmpYes X57.here hx rfl (pc0 := 216) (pc' := 297) rfl (hb hby at_216) rfl (feq ((by decide) : ¬ ((7 : Int32) = (8 : Int32)))).2 (by decide) (by decide) ?_
      refine XS.iconst X57.here hx rfl (hb hby at_297) ?_
      show Steps p.tables e below (T57.setTop (mkF m 298 #[.val (.int q0), .val (.int q1), .val (.int q2), .val (.int q3), .val (.int q4), .val (.int (7 : Int32)), .val (.int z6), .val (.ref a7), .val (.int f8), .val (.ref w), .val (.ref x58), .unset, .unset, .unset] [(.int (0 : Int32))])) _
      refine XS.istore X57.here hx rfl (hb hby at_298) rfl (l' := #[.val (.int q0), .val (.int q1), .val (.int q2), .val (.int q3), .val (.int q4), .val (.int (7 : Int32)), .val (.int z6), .val (.ref a7), .val (.int f8), .val (.ref w), .val (.ref x58), .val (.int (0 : Int32)), .unset, .unset]) rfl ?_
      refine XS.iload X57.here hx rfl (hb hby at_300) rfl ?_
      refine XS.bipush X57.here hx rfl (hb hby at_302) ?_
      refine XS.icmpYes X57.here hx rfl (pc0 := 304) (pc' := 395) rfl (hb hby at_304) rfl (feq ((by decide) : ¬ ((7 : Int32) = (9 : Int32)))).2 (by decide) (by decide) ?_
      refine XS.iconst X57.here hx rfl (hb hby at_395) ?_
      refine XS.istore X57.here hx rfl (hb hby at_396) rfl (l' := #[.val (.int q0), .val (.int q1), .val (.int q2), .val (.int q3), .val (.int q4), .val (.int (7 : Int32)), .val (.int z6), .val (.ref a7), .val (.int f8), .val (.ref w), .val (.ref x58), .val (.int (0 : Int32)), .val (.int (0 : Int32)), .unset]) rfl ?_
      show Steps p.tables e below (T57.setTop (mkF m 398 #[.val (.int q0), .val (.int q1), .val (.int q2), .val (.int q3), .val (.int q4), .val (.int (7 : Int32)), .val (.int z6), .val (.ref a7), .val (.int f8), .val (.ref w), .val (.ref x58), .val (.int (0 : Int32)), .val (.int (0 : Int32)), .unset] [])) _
      refine XS.iload X57.here hx rfl (hb hby at_398) rfl ?_
      refine XS.ifNo X57.here hx rfl (hb hby at_400) rfl ((if0 _ _).trans (teq ((by decide) : (0 : Int32) = (0 : Int32))).2) ?_
      refine XS.iload X57.here hx rfl (hb hby at_403) rfl ?_
      refine XS.ifYes X57.here hx rfl (pc0 := 405) (pc' := 412) rfl (hb hby at_405) rfl ((if0 _ _).trans (teq ((by decide) : (0 : Int32) = (0 : Int32))).1) (by decide) (by decide) ?_
      refine XS.iconst X57.here hx rfl (hb hby at_412) ?_
      refine XS.istore X57.here hx rfl (hb hby at_413) rfl (l' := #[.val (.int q0), .val (.int q1), .val (.int q2), .val (.int q3), .val (.int q4), .val (.int (7 : Int32)), .val (.int z6), .val (.ref a7), .val (.int f8), .val (.ref w), .val (.ref x58), .val (.int (0 : Int32)), .val (.int (0 : Int32)), .val (.int (0 : Int32))]) rfl ?_
      show Steps p.tables e below (T57.setTop (mkF m 415 #[.val (.int q0), .val (.int q1), .val (.int q2), .val (.int q3), .val (.int q4), .val (.int (7 : Int32)), .val (.int z6), .val (.ref a7), .val (.int f8), .val (.ref w), .val (.ref x58), .val (.int (0 : Int32)), .val (.int (0 : Int32)), .val (.int (0 : Int32))] [])) _
      refine st70 _ ?_
      refine XS.dup X70.here hx rfl (hb hby at_418) rfl rfl ?_
      refine XS.aload X70.here hx rfl (hb hby at_419) rfl rfl ?_
      show Steps p.tables e below (T70.setTop (mkF m 421 #[.val (.int q0), .val (.int q1), .val (.int q2), .val (.int q3), .val (.int q4), .val (.int (7 : Int32)), .val (.int z6), .val (.ref a7), .val (.int f8), .val (.ref w), .val (.ref x58), .val (.int (0 : Int32)), .val (.int (0 : Int32)), .val (.int (0 : Int32))] [(.ref x58), (.ref b70), (.ref b70)])) _
      refine st81.trans ?_
      show Steps p.tables e below (T81.setTop (mkF m 424 #[.val (.int q0), .val (.int q1), .val (.int q2), .val (.int q3), .val (.int q4), .val (.int (7 : Int32)), .val (.int z6), .val (.ref a7), .val (.int f8), .val (.ref w), .val (.ref x58), .val (.int (0 : Int32)), .val (.int (0 : Int32)), .val (.int (0 : Int32))] [(.ref b70)])) _
      refine st104.trans ?_
      refine XS.iload X104.here hx rfl (hb hby at_427) rfl ?_
      refine XS.icmpNo X104.here hx rfl (hb hby at_429) rfl (teq ((by decide) : (0 : Int32) = (0 : Int32))).2 ?_
      refine XS.iconst X104.here hx rfl (hb hby at_432) ?_
      refine XS.goto X104.here hx rfl (pc0 := 433) (pc' := 437) rfl (hb hby at_433) (by decide) (by decide) ?_
      exact kt
    obtain ⟨fs, hr, hrun, hended, hRW⟩ := X104.leaveW hS104 (by exact hk110) (v := some (.int (1 : Int32))) (fun h => by rw [hret] at h; cases h)
    refine ⟨_, _, S112 _ ?_, hrun, hended, _, _, rfl, ?_, ?_, hRW.1, hRW.2.1, hRW.2.2.1, hRW.2.2.2.mono (by decide) (by decide)⟩
    · exact retN X104 hx (t := .boolean) hret (by simp) (hb hby at_437) hr
    · skip
      exact ⟨rfl, N107⟩
    · show CHr Z own_EL s.vm s.heap T104.vm T104.heap
      skip
      exact CR109.trans (CHv.at X104 hZ104 own_ew CR109.1)
  · obtain ⟨_, _, ⟨T113, L113, k113, n113⟩, -, X113, ⟨Lc113, hQ113, l113, y113, z113⟩, st113⟩ := Jvm.LawKit.callS X0 hx (y := (⟨"com/example/logtide/logtide/event/TemporalTextIsInfinitePinLaw", "cut", "([CI)[C"⟩ : MethodName)) ho0 (mvT hZ0 (own_w hw 49 rfl)) (mvT hZ0 (own_w hw 50 rfl)) (mvT hZ0 (own_w hw 12 rfl)) (mvT hZ0 (own_w hw 51 rfl)) (by decide) (backOf (W := 0) (rm_cut8 l Z a0 hw [] w kw c0 c1 c2 c3 c4 c5 c6 c7 c8 c9 h0 n0 O0 A_w la_c0 la_c1 la_c2 la_c3 la_c4 la_c5 la_c6 la_c7 la_c8 la_c9) hZ0 (own_w hw 51 rfl) (own_w hw 12 rfl) (by decide) (by decide)) (g := (mkF m 207 #[.val (.int q0), .val (.int q1), .val (.int q2), .val (.int q3), .val (.int q4), .val (.int (8 : Int32)), .val (.int z6), .val (.ref a7), .val (.int f8), .val (.ref w), .unset, .unset, .unset, .unset] [(.int (8 : Int32)), (.ref w)])) rfl (by rw [hml]; rfl) (argsL := [(.ref w), (.int (8 : Int32))]) (rest := []) (lenOf pd_3 rfl) rfl (by show 2 * 0 + _ ≤ _; exact Nat.le_of_eq rfl) (hb hby at_207) (fun _ _ => ⟨rfl, e0, (by decide : 3 + 1 ≤ _), (by decide : 50 + 8 ≤ _)⟩)
    dsimp only [Pt.U, Pt.locs, Pt.cells, Pt.slots] at X113 l113 y113 z113 st113 hQ113
    subst l113 y113 z113
    obtain ⟨x114, x115, rfl, N116, k117, f118, f119⟩ := hQ113
    have N120 := Fr.app N0 N116
    have ge121 : n0 ≤ x114 := by rw [← O0.1]; exact Nat.le_trans O0.2.1 f118
    have ne122 : w ≠ x114 := Nat.ne_of_lt (Nat.lt_of_lt_of_le (Arv.lt A_w) f118)
    have CR123 := CR0.trans (CHr.keep k117 sf0 CR0.1)
    have hk124 := Nat.le_trans hk0 k117.1
    have O125 := O0.keep k117 all0
    have S126 : ∀ t, Steps p.tables e below (T113.setTop (mkF m 212 #[.val (.int q0), .val (.int q1), .val (.int q2), .val (.int q3), .val (.int q4), .val (.int (8 : Int32)), .val (.int z6), .val (.ref a7), .val (.int f8), .val (.ref w), .val (.ref x114), .unset, .unset, .unset] [])) t → Steps p.tables e below (T0.setTop (mkF m 203 #[.val (.int q0), .val (.int q1), .val (.int q2), .val (.int q3), .val (.int q4), .val (.int (8 : Int32)), .val (.int z6), .val (.ref a7), .val (.int f8), .val (.ref w), .unset, .unset, .unset, .unset] [])) t := by
      intro t kt
      refine XS.aload X0.here hx rfl (hb hby at_203) rfl rfl ?_
      refine XS.iload X0.here hx rfl (hb hby at_205) rfl ?_
      show Steps p.tables e below (T0.setTop (mkF m 207 #[.val (.int q0), .val (.int q1), .val (.int q2), .val (.int q3), .val (.int q4), .val (.int (8 : Int32)), .val (.int z6), .val (.ref a7), .val (.int f8), .val (.ref w), .unset, .unset, .unset, .unset] [(.int (8 : Int32)), (.ref w)])) _
      refine st113 _ ?_
      refine XS.astore X113.here hx rfl (hb hby at_210) rfl rfl (l' := #[.val (.int q0), .val (.int q1), .val (.int q2), .val (.int q3), .val (.int q4), .val (.int (8 : Int32)), .val (.int z6), .val (.ref a7), .val (.int f8), .val (.ref w), .val (.ref x114), .unset, .unset, .unset]) rfl ?_
      exact kt
    have S127 : ∀ t, Steps p.tables e below (T113.setTop (mkF m 413 #[.val (.int q0), .val (.int q1), .val (.int q2), .val (.int q3), .val (.int q4), .val (.int (8 : Int32)), .val (.int z6), .val (.ref a7), .val (.int f8), .val (.ref w), .val (.ref x114), .val (.int (if ([c0, c1, c2, c3, c4, c5, c6, c7] : List Int32) = [(105 : Int32), (110 : Int32), (102 : Int32), (105 : Int32), (110 : Int32), (105 : Int32), (116 : Int32), (121 : Int32)] then (1 : Int32) else (0 : Int32))), .val (.int (0 : Int32)), .unset] [(.int (if ([c0, c1, c2, c3, c4, c5, c6, c7] : List Int32) = [(105 : Int32), (110 : Int32), (102 : Int32), (105 : Int32), (110 : Int32), (105 : Int32), (116 : Int32), (121 : Int32)] then (1 : Int32) else (0 : Int32)))])) t → Steps p.tables e below (T0.setTop (mkF m 203 #[.val (.int q0), .val (.int q1), .val (.int q2), .val (.int q3), .val (.int q4), .val (.int (8 : Int32)), .val (.int z6), .val (.ref a7), .val (.int f8), .val (.ref w), .unset, .unset, .unset, .unset] [])) t := by
      intro t kt
      have f128 := (Arv.keep A_w k117 nin0)
      obtain ⟨cl129, Ar129, q129, Sz129, Nn129, Hh129, Gg129⟩ := id f128
      have in129 : ¬ ((0 : Int32) < 0 ∨ cl129.slots.size ≤ ((0 : Int32)).toNatClampNeg) := by exact inb_of Sz129 ⟨by decide, by decide⟩
      have at129 : cl129.slots[((0 : Int32)).toNatClampNeg]? = some (.int c0) := by
        refine Has.at Hh129 in129 ?_
        rfl
      have S130 : ∀ t, Steps p.tables e below (T113.setTop (mkF m 225 #[.val (.int q0), .val (.int q1), .val (.int q2), .val (.int q3), .val (.int q4), .val (.int (8 : Int32)), .val (.int z6), .val (.ref a7), .val (.int f8), .val (.ref w), .val (.ref x114), .unset, .unset, .unset] [(.int (105 : Int32)), (.int c0)])) t → Steps p.tables e below (T0.setTop (mkF m 203 #[.val (.int q0), .val (.int q1), .val (.int q2), .val (.int q3), .val (.int q4), .val (.int (8 : Int32)), .val (.int z6), .val (.ref a7), .val (.int f8), .val (.ref w), .unset, .unset, .unset, .unset] [])) t := by
        intro t kt
        refine S126 t ?_
        refine XS.iload X113.here hx rfl (hb hby at_212) rfl ?_
        refine XS.bipush X113.here hx rfl (hb hby at_214) ?_
        refine XS.icmpNo X113.here hx rfl (hb hby at_216) rfl (teq ((by decide) : (8 : Int32) = (8 : Int32))).2 ?_
        refine XS.aload X113.here hx rfl (hb hby at_219) rfl rfl ?_
        refine XS.iconst X113.here hx rfl (hb hby at_221) ?_
        show Steps p.tables e below (T113.setTop (mkF m 222 #[.val (.int q0), .val (.int q1), .val (.int q2), .val (.int q3), .val (.int q4), .val (.int (8 : Int32)), .val (.int z6), .val (.ref a7), .val (.int f8), .val (.ref w), .val (.ref x114), .unset, .unset, .unset] [(.int (0 : Int32)), (.ref w)])) _
        refine X113.caload hx (j := (0 : Int32)) (v := (.int c0)) (by exact Ar129.1) (State.isArrayOf_alike hZ0.alike Ar129.2.1) Ar129.2.2 in129 at129 (g := (mkF m 222 #[.val (.int q0), .val (.int q1), .val (.int q2), .val (.int q3), .val (.int q4), .val (.int (8 : Int32)), .val (.int z6), .val (.ref a7), .val (.int f8), .val (.ref w), .val (.ref x114), .unset, .unset, .unset] [(.int (0 : Int32)), (.ref w)])) rfl rfl (hb hby at_222) _ ?_
        refine XS.bipush X113.here hx rfl (hb hby at_223) ?_
        exact kt
      rcases Decidable.em (c0 = (105 : Int32)) with c131 | c131
      · obtain ⟨cl132, Ar132, q132, Sz132, Nn132, Hh132, Gg132⟩ := id f128
        have in132 : ¬ ((1 : Int32) < 0 ∨ cl132.slots.size ≤ ((1 : Int32)).toNatClampNeg) := by exact inb_of Sz132 ⟨by decide, by decide⟩
        have at132 : cl132.slots[((1 : Int32)).toNatClampNeg]? = some (.int c1) := by
          refine Has.at Hh132 in132 ?_
          rfl
        have S133 : ∀ t, Steps p.tables e below (T113.setTop (mkF m 234 #[.val (.int q0), .val (.int q1), .val (.int q2), .val (.int q3), .val (.int q4), .val (.int (8 : Int32)), .val (.int z6), .val (.ref a7), .val (.int f8), .val (.ref w), .val (.ref x114), .unset, .unset, .unset] [(.int (110 : Int32)), (.int c1)])) t → Steps p.tables e below (T0.setTop (mkF m 203 #[.val (.int q0), .val (.int q1), .val (.int q2), .val (.int q3), .val (.int q4), .val (.int (8 : Int32)), .val (.int z6), .val (.ref a7), .val (.int f8), .val (.ref w), .unset, .unset, .unset, .unset] [])) t := by
          intro t kt
          refine S130 t ?_
          refine XS.icmpNo X113.here hx rfl (hb hby at_225) rfl (teq (c131 : c0 = (105 : Int32))).2 ?_
          refine XS.aload X113.here hx rfl (hb hby at_228) rfl rfl ?_
          refine XS.iconst X113.here hx rfl (hb hby at_230) ?_
          show Steps p.tables e below (T113.setTop (mkF m 231 #[.val (.int q0), .val (.int q1), .val (.int q2), .val (.int q3), .val (.int q4), .val (.int (8 : Int32)), .val (.int z6), .val (.ref a7), .val (.int f8), .val (.ref w), .val (.ref x114), .unset, .unset, .unset] [(.int (1 : Int32)), (.ref w)])) _
          refine X113.caload hx (j := (1 : Int32)) (v := (.int c1)) (by exact Ar132.1) (State.isArrayOf_alike hZ0.alike Ar132.2.1) Ar132.2.2 in132 at132 (g := (mkF m 231 #[.val (.int q0), .val (.int q1), .val (.int q2), .val (.int q3), .val (.int q4), .val (.int (8 : Int32)), .val (.int z6), .val (.ref a7), .val (.int f8), .val (.ref w), .val (.ref x114), .unset, .unset, .unset] [(.int (1 : Int32)), (.ref w)])) rfl rfl (hb hby at_231) _ ?_
          refine XS.bipush X113.here hx rfl (hb hby at_232) ?_
          exact kt
        rcases Decidable.em (c1 = (110 : Int32)) with c134 | c134
        · obtain ⟨cl135, Ar135, q135, Sz135, Nn135, Hh135, Gg135⟩ := id f128
          have in135 : ¬ ((2 : Int32) < 0 ∨ cl135.slots.size ≤ ((2 : Int32)).toNatClampNeg) := by exact inb_of Sz135 ⟨by decide, by decide⟩
          have at135 : cl135.slots[((2 : Int32)).toNatClampNeg]? = some (.int c2) := by
            refine Has.at Hh135 in135 ?_
            rfl
          have S136 : ∀ t, Steps p.tables e below (T113.setTop (mkF m 243 #[.val (.int q0), .val (.int q1), .val (.int q2), .val (.int q3), .val (.int q4), .val (.int (8 : Int32)), .val (.int z6), .val (.ref a7), .val (.int f8), .val (.ref w), .val (.ref x114), .unset, .unset, .unset] [(.int (102 : Int32)), (.int c2)])) t → Steps p.tables e below (T0.setTop (mkF m 203 #[.val (.int q0), .val (.int q1), .val (.int q2), .val (.int q3), .val (.int q4), .val (.int (8 : Int32)), .val (.int z6), .val (.ref a7), .val (.int f8), .val (.ref w), .unset, .unset, .unset, .unset] [])) t := by
            intro t kt
            refine S133 t ?_
            refine XS.icmpNo X113.here hx rfl (hb hby at_234) rfl (teq (c134 : c1 = (110 : Int32))).2 ?_
            refine XS.aload X113.here hx rfl (hb hby at_237) rfl rfl ?_
            refine XS.iconst X113.here hx rfl (hb hby at_239) ?_
            show Steps p.tables e below (T113.setTop (mkF m 240 #[.val (.int q0), .val (.int q1), .val (.int q2), .val (.int q3), .val (.int q4), .val (.int (8 : Int32)), .val (.int z6), .val (.ref a7), .val (.int f8), .val (.ref w), .val (.ref x114), .unset, .unset, .unset] [(.int (2 : Int32)), (.ref w)])) _
            refine X113.caload hx (j := (2 : Int32)) (v := (.int c2)) (by exact Ar135.1) (State.isArrayOf_alike hZ0.alike Ar135.2.1) Ar135.2.2 in135 at135 (g := (mkF m 240 #[.val (.int q0), .val (.int q1), .val (.int q2), .val (.int q3), .val (.int q4), .val (.int (8 : Int32)), .val (.int z6), .val (.ref a7), .val (.int f8), .val (.ref w), .val (.ref x114), .unset, .unset, .unset] [(.int (2 : Int32)), (.ref w)])) rfl rfl (hb hby at_240) _ ?_
            refine XS.bipush X113.here hx rfl (hb hby at_241) ?_
            exact kt
          rcases Decidable.em (c2 = (102 : Int32)) with c137 | c137
          · obtain ⟨cl138, Ar138, q138, Sz138, Nn138, Hh138, Gg138⟩ := id f128
            have in138 : ¬ ((3 : Int32) < 0 ∨ cl138.slots.size ≤ ((3 : Int32)).toNatClampNeg) := by exact inb_of Sz138 ⟨by decide, by decide⟩
            have at138 : cl138.slots[((3 : Int32)).toNatClampNeg]? = some (.int c3) := by
              refine Has.at Hh138 in138 ?_
              rfl
            have S139 : ∀ t, Steps p.tables e below (T113.setTop (mkF m 252 #[.val (.int q0), .val (.int q1), .val (.int q2), .val (.int q3), .val (.int q4), .val (.int (8 : Int32)), .val (.int z6), .val (.ref a7), .val (.int f8), .val (.ref w), .val (.ref x114), .unset, .unset, .unset] [(.int (105 : Int32)), (.int c3)])) t → Steps p.tables e below (T0.setTop (mkF m 203 #[.val (.int q0), .val (.int q1), .val (.int q2), .val (.int q3), .val (.int q4), .val (.int (8 : Int32)), .val (.int z6), .val (.ref a7), .val (.int f8), .val (.ref w), .unset, .unset, .unset, .unset] [])) t := by
              intro t kt
              refine S136 t ?_
              refine XS.icmpNo X113.here hx rfl (hb hby at_243) rfl (teq (c137 : c2 = (102 : Int32))).2 ?_
              refine XS.aload X113.here hx rfl (hb hby at_246) rfl rfl ?_
              refine XS.iconst X113.here hx rfl (hb hby at_248) ?_
              show Steps p.tables e below (T113.setTop (mkF m 249 #[.val (.int q0), .val (.int q1), .val (.int q2), .val (.int q3), .val (.int q4), .val (.int (8 : Int32)), .val (.int z6), .val (.ref a7), .val (.int f8), .val (.ref w), .val (.ref x114), .unset, .unset, .unset] [(.int (3 : Int32)), (.ref w)])) _
              refine X113.caload hx (j := (3 : Int32)) (v := (.int c3)) (by exact Ar138.1) (State.isArrayOf_alike hZ0.alike Ar138.2.1) Ar138.2.2 in138 at138 (g := (mkF m 249 #[.val (.int q0), .val (.int q1), .val (.int q2), .val (.int q3), .val (.int q4), .val (.int (8 : Int32)), .val (.int z6), .val (.ref a7), .val (.int f8), .val (.ref w), .val (.ref x114), .unset, .unset, .unset] [(.int (3 : Int32)), (.ref w)])) rfl rfl (hb hby at_249) _ ?_
              refine XS.bipush X113.here hx rfl (hb hby at_250) ?_
              exact kt
            rcases Decidable.em (c3 = (105 : Int32)) with c140 | c140
            · obtain ⟨cl141, Ar141, q141, Sz141, Nn141, Hh141, Gg141⟩ := id f128
              have in141 : ¬ ((4 : Int32) < 0 ∨ cl141.slots.size ≤ ((4 : Int32)).toNatClampNeg) := by exact inb_of Sz141 ⟨by decide, by decide⟩
              have at141 : cl141.slots[((4 : Int32)).toNatClampNeg]? = some (.int c4) := by
                refine Has.at Hh141 in141 ?_
                rfl
              have S142 : ∀ t, Steps p.tables e below (T113.setTop (mkF m 261 #[.val (.int q0), .val (.int q1), .val (.int q2), .val (.int q3), .val (.int q4), .val (.int (8 : Int32)), .val (.int z6), .val (.ref a7), .val (.int f8), .val (.ref w), .val (.ref x114), .unset, .unset, .unset] [(.int (110 : Int32)), (.int c4)])) t → Steps p.tables e below (T0.setTop (mkF m 203 #[.val (.int q0), .val (.int q1), .val (.int q2), .val (.int q3), .val (.int q4), .val (.int (8 : Int32)), .val (.int z6), .val (.ref a7), .val (.int f8), .val (.ref w), .unset, .unset, .unset, .unset] [])) t := by
                intro t kt
                refine S139 t ?_
                refine XS.icmpNo X113.here hx rfl (hb hby at_252) rfl (teq (c140 : c3 = (105 : Int32))).2 ?_
                refine XS.aload X113.here hx rfl (hb hby at_255) rfl rfl ?_
                refine XS.iconst X113.here hx rfl (hb hby at_257) ?_
                show Steps p.tables e below (T113.setTop (mkF m 258 #[.val (.int q0), .val (.int q1), .val (.int q2), .val (.int q3), .val (.int q4), .val (.int (8 : Int32)), .val (.int z6), .val (.ref a7), .val (.int f8), .val (.ref w), .val (.ref x114), .unset, .unset, .unset] [(.int (4 : Int32)), (.ref w)])) _
                refine X113.caload hx (j := (4 : Int32)) (v := (.int c4)) (by exact Ar141.1) (State.isArrayOf_alike hZ0.alike Ar141.2.1) Ar141.2.2 in141 at141 (g := (mkF m 258 #[.val (.int q0), .val (.int q1), .val (.int q2), .val (.int q3), .val (.int q4), .val (.int (8 : Int32)), .val (.int z6), .val (.ref a7), .val (.int f8), .val (.ref w), .val (.ref x114), .unset, .unset, .unset] [(.int (4 : Int32)), (.ref w)])) rfl rfl (hb hby at_258) _ ?_
                refine XS.bipush X113.here hx rfl (hb hby at_259) ?_
                exact kt
              rcases Decidable.em (c4 = (110 : Int32)) with c143 | c143
              · obtain ⟨cl144, Ar144, q144, Sz144, Nn144, Hh144, Gg144⟩ := id f128
                have in144 : ¬ ((5 : Int32) < 0 ∨ cl144.slots.size ≤ ((5 : Int32)).toNatClampNeg) := by exact inb_of Sz144 ⟨by decide, by decide⟩
                have at144 : cl144.slots[((5 : Int32)).toNatClampNeg]? = some (.int c5) := by
                  refine Has.at Hh144 in144 ?_
                  rfl
                have S145 : ∀ t, Steps p.tables e below (T113.setTop (mkF m 270 #[.val (.int q0), .val (.int q1), .val (.int q2), .val (.int q3), .val (.int q4), .val (.int (8 : Int32)), .val (.int z6), .val (.ref a7), .val (.int f8), .val (.ref w), .val (.ref x114), .unset, .unset, .unset] [(.int (105 : Int32)), (.int c5)])) t → Steps p.tables e below (T0.setTop (mkF m 203 #[.val (.int q0), .val (.int q1), .val (.int q2), .val (.int q3), .val (.int q4), .val (.int (8 : Int32)), .val (.int z6), .val (.ref a7), .val (.int f8), .val (.ref w), .unset, .unset, .unset, .unset] [])) t := by
                  intro t kt
                  refine S142 t ?_
                  refine XS.icmpNo X113.here hx rfl (hb hby at_261) rfl (teq (c143 : c4 = (110 : Int32))).2 ?_
                  refine XS.aload X113.here hx rfl (hb hby at_264) rfl rfl ?_
                  refine XS.iconst X113.here hx rfl (hb hby at_266) ?_
                  show Steps p.tables e below (T113.setTop (mkF m 267 #[.val (.int q0), .val (.int q1), .val (.int q2), .val (.int q3), .val (.int q4), .val (.int (8 : Int32)), .val (.int z6), .val (.ref a7), .val (.int f8), .val (.ref w), .val (.ref x114), .unset, .unset, .unset] [(.int (5 : Int32)), (.ref w)])) _
                  refine X113.caload hx (j := (5 : Int32)) (v := (.int c5)) (by exact Ar144.1) (State.isArrayOf_alike hZ0.alike Ar144.2.1) Ar144.2.2 in144 at144 (g := (mkF m 267 #[.val (.int q0), .val (.int q1), .val (.int q2), .val (.int q3), .val (.int q4), .val (.int (8 : Int32)), .val (.int z6), .val (.ref a7), .val (.int f8), .val (.ref w), .val (.ref x114), .unset, .unset, .unset] [(.int (5 : Int32)), (.ref w)])) rfl rfl (hb hby at_267) _ ?_
                  refine XS.bipush X113.here hx rfl (hb hby at_268) ?_
                  exact kt
                rcases Decidable.em (c5 = (105 : Int32)) with c146 | c146
                · obtain ⟨cl147, Ar147, q147, Sz147, Nn147, Hh147, Gg147⟩ := id f128
                  have in147 : ¬ ((6 : Int32) < 0 ∨ cl147.slots.size ≤ ((6 : Int32)).toNatClampNeg) := by exact inb_of Sz147 ⟨by decide, by decide⟩
                  have at147 : cl147.slots[((6 : Int32)).toNatClampNeg]? = some (.int c6) := by
                    refine Has.at Hh147 in147 ?_
                    rfl
                  have S148 : ∀ t, Steps p.tables e below (T113.setTop (mkF m 280 #[.val (.int q0), .val (.int q1), .val (.int q2), .val (.int q3), .val (.int q4), .val (.int (8 : Int32)), .val (.int z6), .val (.ref a7), .val (.int f8), .val (.ref w), .val (.ref x114), .unset, .unset, .unset] [(.int (116 : Int32)), (.int c6)])) t → Steps p.tables e below (T0.setTop (mkF m 203 #[.val (.int q0), .val (.int q1), .val (.int q2), .val (.int q3), .val (.int q4), .val (.int (8 : Int32)), .val (.int z6), .val (.ref a7), .val (.int f8), .val (.ref w), .unset, .unset, .unset, .unset] [])) t := by
                    intro t kt
                    refine S145 t ?_
                    refine XS.icmpNo X113.here hx rfl (hb hby at_270) rfl (teq (c146 : c5 = (105 : Int32))).2 ?_
                    refine XS.aload X113.here hx rfl (hb hby at_273) rfl rfl ?_
                    refine XS.bipush X113.here hx rfl (hb hby at_275) ?_
                    show Steps p.tables e below (T113.setTop (mkF m 277 #[.val (.int q0), .val (.int q1), .val (.int q2), .val (.int q3), .val (.int q4), .val (.int (8 : Int32)), .val (.int z6), .val (.ref a7), .val (.int f8), .val (.ref w), .val (.ref x114), .unset, .unset, .unset] [(.int (6 : Int32)), (.ref w)])) _
                    refine X113.caload hx (j := (6 : Int32)) (v := (.int c6)) (by exact Ar147.1) (State.isArrayOf_alike hZ0.alike Ar147.2.1) Ar147.2.2 in147 at147 (g := (mkF m 277 #[.val (.int q0), .val (.int q1), .val (.int q2), .val (.int q3), .val (.int q4), .val (.int (8 : Int32)), .val (.int z6), .val (.ref a7), .val (.int f8), .val (.ref w), .val (.ref x114), .unset, .unset, .unset] [(.int (6 : Int32)), (.ref w)])) rfl rfl (hb hby at_277) _ ?_
                    refine XS.bipush X113.here hx rfl (hb hby at_278) ?_
                    exact kt
                  rcases Decidable.em (c6 = (116 : Int32)) with c149 | c149
                  · obtain ⟨cl150, Ar150, q150, Sz150, Nn150, Hh150, Gg150⟩ := id f128
                    have in150 : ¬ ((7 : Int32) < 0 ∨ cl150.slots.size ≤ ((7 : Int32)).toNatClampNeg) := by exact inb_of Sz150 ⟨by decide, by decide⟩
                    have at150 : cl150.slots[((7 : Int32)).toNatClampNeg]? = some (.int c7) := by
                      refine Has.at Hh150 in150 ?_
                      rfl
                    have S151 : ∀ t, Steps p.tables e below (T113.setTop (mkF m 290 #[.val (.int q0), .val (.int q1), .val (.int q2), .val (.int q3), .val (.int q4), .val (.int (8 : Int32)), .val (.int z6), .val (.ref a7), .val (.int f8), .val (.ref w), .val (.ref x114), .unset, .unset, .unset] [(.int (121 : Int32)), (.int c7)])) t → Steps p.tables e below (T0.setTop (mkF m 203 #[.val (.int q0), .val (.int q1), .val (.int q2), .val (.int q3), .val (.int q4), .val (.int (8 : Int32)), .val (.int z6), .val (.ref a7), .val (.int f8), .val (.ref w), .unset, .unset, .unset, .unset] [])) t := by
                      intro t kt
                      refine S148 t ?_
                      refine XS.icmpNo X113.here hx rfl (hb hby at_280) rfl (teq (c149 : c6 = (116 : Int32))).2 ?_
                      refine XS.aload X113.here hx rfl (hb hby at_283) rfl rfl ?_
                      refine XS.bipush X113.here hx rfl (hb hby at_285) ?_
                      show Steps p.tables e below (T113.setTop (mkF m 287 #[.val (.int q0), .val (.int q1), .val (.int q2), .val (.int q3), .val (.int q4), .val (.int (8 : Int32)), .val (.int z6), .val (.ref a7), .val (.int f8), .val (.ref w), .val (.ref x114), .unset, .unset, .unset] [(.int (7 : Int32)), (.ref w)])) _
                      refine X113.caload hx (j := (7 : Int32)) (v := (.int c7)) (by exact Ar150.1) (State.isArrayOf_alike hZ0.alike Ar150.2.1) Ar150.2.2 in150 at150 (g := (mkF m 287 #[.val (.int q0), .val (.int q1), .val (.int q2), .val (.int q3), .val (.int q4), .val (.int (8 : Int32)), .val (.int z6), .val (.ref a7), .val (.int f8), .val (.ref w), .val (.ref x114), .unset, .unset, .unset] [(.int (7 : Int32)), (.ref w)])) rfl rfl (hb hby at_287) _ ?_
                      refine XS.bipush X113.here hx rfl (hb hby at_288) ?_
                      exact kt
                    rcases Decidable.em (c7 = (121 : Int32)) with c152 | c152
                    · have S153 : ∀ t, Steps p.tables e below (T113.setTop (mkF m 413 #[.val (.int q0), .val (.int q1), .val (.int q2), .val (.int q3), .val (.int q4), .val (.int (8 : Int32)), .val (.int z6), .val (.ref a7), .val (.int f8), .val (.ref w), .val (.ref x114), .val (.int (1 : Int32)), .val (.int (0 : Int32)), .unset] [(.int (1 : Int32))])) t → Steps p.tables e below (T0.setTop (mkF m 203 #[.val (.int q0), .val (.int q1), .val (.int q2), .val (.int q3), .val (.int q4), .val (.int (8 : Int32)), .val (.int z6), .val (.ref a7), .val (.int f8), .val (.ref w), .unset, .unset, .unset, .unset] [])) t := by
                        intro t kt
                        refine S151 t ?_
                        refine XS.icmpNo X113.here hx rfl (hb hby at_290) rfl (teq (c152 : c7 = (121 : Int32))).2 ?_
                        refine XS.iconst X113.here hx rfl (hb hby at_293) ?_
                        refine XS.goto X113.here hx rfl (pc0 := 294) (pc' := 298) rfl (hb hby at_294) (by decide) (by decide) ?_
                        refine XS.istore X113.here hx rfl (hb hby at_298) rfl (l' := #[.val (.int q0), .val (.int q1), .val (.int q2), .val (.int q3), .val (.int q4), .val (.int (8 : Int32)), .val (.int z6), .val (.ref a7), .val (.int f8), .val (.ref w), .val (.ref x114), .val (.int (1 : Int32)), .unset, .unset]) rfl ?_
                        refine XS.iload X113.here hx rfl (hb hby at_300) rfl ?_
                        refine XS.bipush X113.here hx rfl (hb hby at_302) ?_
                        show Steps p.tables e below (T113.setTop (mkF m 304 #[.val (.int q0), .val (.int q1), .val (.int q2), .val (.int q3), .val (.int q4), .val (.int (8 : Int32)), .val (.int z6), .val (.ref a7), .val (.int f8), .val (.ref w), .val (.ref x114), .val (.int (1 : Int32)), .unset, .unset] [(.int (9 : Int32)), (.int (8 : Int32))])) _
                        refine XS.icmpYes X113.here hx rfl (pc0 := 304) (pc' := 395) rfl (hb hby at_304) rfl (feq ((by decide) : ¬ ((8 : Int32) = (9 : Int32)))).2 (by decide) (by decide) ?_
                        refine XS.iconst X113.here hx rfl (hb hby at_395) ?_
                        refine XS.istore X113.here hx rfl (hb hby at_396) rfl (l' := #[.val (.int q0), .val (.int q1), .val (.int q2), .val (.int q3), .val (.int q4), .val (.int (8 : Int32)), .val (.int z6), .val (.ref a7), .val (.int f8), .val (.ref w), .val (.ref x114), .val (.int (1 : Int32)), .val (.int (0 : Int32)), .unset]) rfl ?_
                        refine XS.iload X113.here hx rfl (hb hby at_398) rfl ?_
                        refine XS.ifYes X113.here hx rfl (pc0 := 400) (pc' := 408) rfl (hb hby at_400) rfl ((if0 _ _).trans (feq ((by decide) : ¬ ((1 : Int32) = (0 : Int32)))).2) (by decide) (by decide) ?_
                        refine XS.iconst X113.here hx rfl (hb hby at_408) ?_
                        show Steps p.tables e below (T113.setTop (mkF m 409 #[.val (.int q0), .val (.int q1), .val (.int q2), .val (.int q3), .val (.int q4), .val (.int (8 : Int32)), .val (.int z6), .val (.ref a7), .val (.int f8), .val (.ref w), .val (.ref x114), .val (.int (1 : Int32)), .val (.int (0 : Int32)), .unset] [(.int (1 : Int32))])) _
                        refine XS.goto X113.here hx rfl (pc0 := 409) (pc' := 413) rfl (hb hby at_409) (by decide) (by decide) ?_
                        exact kt
                      rw [if_pos (by rw [(c131 : c0 = (105 : Int32)), (c134 : c1 = (110 : Int32)), (c137 : c2 = (102 : Int32)), (c140 : c3 = (105 : Int32)), (c143 : c4 = (110 : Int32)), (c146 : c5 = (105 : Int32)), (c149 : c6 = (116 : Int32)), (c152 : c7 = (121 : Int32))])] at kt
                      exact S153 t kt
                    · have S154 : ∀ t, Steps p.tables e below (T113.setTop (mkF m 413 #[.val (.int q0), .val (.int q1), .val (.int q2), .val (.int q3), .val (.int q4), .val (.int (8 : Int32)), .val (.int z6), .val (.ref a7), .val (.int f8), .val (.ref w), .val (.ref x114), .val (.int (0 : Int32)), .val (.int (0 : Int32)), .unset] [(.int (0 : Int32))])) t → Steps p.tables e below (T0.setTop (mkF m 203 #[.val (.int q0), .val (.int q1), .val (.int q2), .val (.int q3), .val (.int q4), .val (.int (8 : Int32)), .val (.int z6), .val (.ref a7), .val (.int f8), .val (.ref w), .unset, .unset, .unset, .unset] [])) t := by
                        intro t kt
                        refine S151 t ?_
                        refine XS.icmpYes X113.here hx rfl (pc0 := 290) (pc' := 297) rfl (hb hby at_290) rfl (feq (c152 : ¬ (c7 = (121 : Int32)))).2 (by decide) (by decide) ?_
                        refine XS.iconst X113.here hx rfl (hb hby at_297) ?_
                        refine XS.istore X113.here hx rfl (hb hby at_298) rfl (l' := #[.val (.int q0), .val (.int q1), .val (.int q2), .val (.int q3), .val (.int q4), .val (.int (8 : Int32)), .val (.int z6), .val (.ref a7), .val (.int f8), .val (.ref w), .val (.ref x114), .val (.int (0 : Int32)), .unset, .unset]) rfl ?_
                        refine XS.iload X113.here hx rfl (hb hby at_300) rfl ?_
                        refine XS.bipush X113.here hx rfl (hb hby at_302) ?_
                        refine XS.icmpYes X113.here hx rfl (pc0 := 304) (pc' := 395) rfl (hb hby at_304) rfl (feq ((by decide) : ¬ ((8 : Int32) = (9 : Int32)))).2 (by decide) (by decide) ?_
                        show Steps p.tables e below (T113.setTop (mkF m 395 #[.val (.int q0), .val (.int q1), .val (.int q2), .val (.int q3), .val (.int q4), .val (.int (8 : Int32)), .val (.int z6), .val (.ref a7), .val (.int f8), .val (.ref w), .val (.ref x114), .val (.int (0 : Int32)), .unset, .unset] [])) _
                        refine XS.iconst X113.here hx rfl (hb hby at_395) ?_
                        refine XS.istore X113.here hx rfl (hb hby at_396) rfl (l' := #[.val (.int q0), .val (.int q1), .val (.int q2), .val (.int q3), .val (.int q4), .val (.int (8 : Int32)), .val (.int z6), .val (.ref a7), .val (.int f8), .val (.ref w), .val (.ref x114), .val (.int (0 : Int32)), .val (.int (0 : Int32)), .unset]) rfl ?_
                        refine XS.iload X113.here hx rfl (hb hby at_398) rfl ?_
                        refine XS.ifNo X113.here hx rfl (hb hby at_400) rfl ((if0 _ _).trans (teq ((by decide) : (0 : Int32) = (0 : Int32))).2) ?_
                        refine XS.iload X113.here hx rfl (hb hby at_403) rfl ?_
                        refine XS.ifYes X113.here hx rfl (pc0 := 405) (pc' := 412) rfl (hb hby at_405) rfl ((if0 _ _).trans (teq ((by decide) : (0 : Int32) = (0 : Int32))).1) (by decide) (by decide) ?_
                        show Steps p.tables e below (T113.setTop (mkF m 412 #[.val (.int q0), .val (.int q1), .val (.int q2), .val (.int q3), .val (.int q4), .val (.int (8 : Int32)), .val (.int z6), .val (.ref a7), .val (.int f8), .val (.ref w), .val (.ref x114), .val (.int (0 : Int32)), .val (.int (0 : Int32)), .unset] [])) _
                        refine XS.iconst X113.here hx rfl (hb hby at_412) ?_
                        exact kt
                      rw [if_neg (fun q => (c152 : ¬ (c7 = (121 : Int32))) (congrArg (fun l => l.getD 7 0) q))] at kt
                      exact S154 t kt
                  · have S155 : ∀ t, Steps p.tables e below (T113.setTop (mkF m 413 #[.val (.int q0), .val (.int q1), .val (.int q2), .val (.int q3), .val (.int q4), .val (.int (8 : Int32)), .val (.int z6), .val (.ref a7), .val (.int f8), .val (.ref w), .val (.ref x114), .val (.int (0 : Int32)), .val (.int (0 : Int32)), .unset] [(.int (0 : Int32))])) t → Steps p.tables e below (T0.setTop (mkF m 203 #[.val (.int q0), .val (.int q1), .val (.int q2), .val (.int q3), .val (.int q4), .val (.int (8 : Int32)), .val (.int z6), .val (.ref a7), .val (.int f8), .val (.ref w), .unset, .unset, .unset, .unset] [])) t := by
                      intro t kt
                      refine S148 t ?_
                      refine XS.icmpYes X113.here hx rfl (pc0 := 280) (pc' := 297) rfl (hb hby at_280) rfl (feq (c149 : ¬ (c6 = (116 : Int32)))).2 (by decide) (by decide) ?_
                      refine XS.iconst X113.here hx rfl (hb hby at_297) ?_
                      refine XS.istore X113.here hx rfl (hb hby at_298) rfl (l' := #[.val (.int q0), .val (.int q1), .val (.int q2), .val (.int q3), .val (.int q4), .val (.int (8 : Int32)), .val (.int z6), .val (.ref a7), .val (.int f8), .val (.ref w), .val (.ref x114), .val (.int (0 : Int32)), .unset, .unset]) rfl ?_
                      refine XS.iload X113.here hx rfl (hb hby at_300) rfl ?_
                      refine XS.bipush X113.here hx rfl (hb hby at_302) ?_
                      refine XS.icmpYes X113.here hx rfl (pc0 := 304) (pc' := 395) rfl (hb hby at_304) rfl (feq ((by decide) : ¬ ((8 : Int32) = (9 : Int32)))).2 (by decide) (by decide) ?_
                      show Steps p.tables e below (T113.setTop (mkF m 395 #[.val (.int q0), .val (.int q1), .val (.int q2), .val (.int q3), .val (.int q4), .val (.int (8 : Int32)), .val (.int z6), .val (.ref a7), .val (.int f8), .val (.ref w), .val (.ref x114), .val (.int (0 : Int32)), .unset, .unset] [])) _
                      refine XS.iconst X113.here hx rfl (hb hby at_395) ?_
                      refine XS.istore X113.here hx rfl (hb hby at_396) rfl (l' := #[.val (.int q0), .val (.int q1), .val (.int q2), .val (.int q3), .val (.int q4), .val (.int (8 : Int32)), .val (.int z6), .val (.ref a7), .val (.int f8), .val (.ref w), .val (.ref x114), .val (.int (0 : Int32)), .val (.int (0 : Int32)), .unset]) rfl ?_
                      refine XS.iload X113.here hx rfl (hb hby at_398) rfl ?_
                      refine XS.ifNo X113.here hx rfl (hb hby at_400) rfl ((if0 _ _).trans (teq ((by decide) : (0 : Int32) = (0 : Int32))).2) ?_
                      refine XS.iload X113.here hx rfl (hb hby at_403) rfl ?_
                      refine XS.ifYes X113.here hx rfl (pc0 := 405) (pc' := 412) rfl (hb hby at_405) rfl ((if0 _ _).trans (teq ((by decide) : (0 : Int32) = (0 : Int32))).1) (by decide) (by decide) ?_
                      show Steps p.tables e below (T113.setTop (mkF m 412 #[.val (.int q0), .val (.int q1), .val (.int q2), .val (.int q3), .val (.int q4), .val (.int (8 : Int32)), .val (.int z6), .val (.ref a7), .val (.int f8), .val (.ref w), .val (.ref x114), .val (.int (0 : Int32)), .val (.int (0 : Int32)), .unset] [])) _
                      refine XS.iconst X113.here hx rfl (hb hby at_412) ?_
                      exact kt
                    rw [if_neg (fun q => (c149 : ¬ (c6 = (116 : Int32))) (congrArg (fun l => l.getD 6 0) q))] at kt
                    exact S155 t kt
                · have S156 : ∀ t, Steps p.tables e below (T113.setTop (mkF m 413 #[.val (.int q0), .val (.int q1), .val (.int q2), .val (.int q3), .val (.int q4), .val (.int (8 : Int32)), .val (.int z6), .val (.ref a7), .val (.int f8), .val (.ref w), .val (.ref x114), .val (.int (0 : Int32)), .val (.int (0 : Int32)), .unset] [(.int (0 : Int32))])) t → Steps p.tables e below (T0.setTop (mkF m 203 #[.val (.int q0), .val (.int q1), .val (.int q2), .val (.int q3), .val (.int q4), .val (.int (8 : Int32)), .val (.int z6), .val (.ref a7), .val (.int f8), .val (.ref w), .unset, .unset, .unset, .unset] [])) t := by
                    intro t kt
                    refine S145 t ?_
                    refine XS.icmpYes X113.here hx rfl (pc0 := 270) (pc' := 297) rfl (hb hby at_270) rfl (feq (c146 : ¬ (c5 = (105 : Int32)))).2 (by decide) (by decide) ?_
                    refine XS.iconst X113.here hx rfl (hb hby at_297) ?_
                    refine XS.istore X113.here hx rfl (hb hby at_298) rfl (l' := #[.val (.int q0), .val (.int q1), .val (.int q2), .val (.int q3), .val (.int q4), .val (.int (8 : Int32)), .val (.int z6), .val (.ref a7), .val (.int f8), .val (.ref w), .val (.ref x114), .val (.int (0 : Int32)), .unset, .unset]) rfl ?_
                    refine XS.iload X113.here hx rfl (hb hby at_300) rfl ?_
                    refine XS.bipush X113.here hx rfl (hb hby at_302) ?_
                    refine XS.icmpYes X113.here hx rfl (pc0 := 304) (pc' := 395) rfl (hb hby at_304) rfl (feq ((by decide) : ¬ ((8 : Int32) = (9 : Int32)))).2 (by decide) (by decide) ?_
                    show Steps p.tables e below (T113.setTop (mkF m 395 #[.val (.int q0), .val (.int q1), .val (.int q2), .val (.int q3), .val (.int q4), .val (.int (8 : Int32)), .val (.int z6), .val (.ref a7), .val (.int f8), .val (.ref w), .val (.ref x114), .val (.int (0 : Int32)), .unset, .unset] [])) _
                    refine XS.iconst X113.here hx rfl (hb hby at_395) ?_
                    refine XS.istore X113.here hx rfl (hb hby at_396) rfl (l' := #[.val (.int q0), .val (.int q1), .val (.int q2), .val (.int q3), .val (.int q4), .val (.int (8 : Int32)), .val (.int z6), .val (.ref a7), .val (.int f8), .val (.ref w), .val (.ref x114), .val (.int (0 : Int32)), .val (.int (0 : Int32)), .unset]) rfl ?_
                    refine XS.iload X113.here hx rfl (hb hby at_398) rfl ?_
                    refine XS.ifNo X113.here hx rfl (hb hby at_400) rfl ((if0 _ _).trans (teq ((by decide) : (0 : Int32) = (0 : Int32))).2) ?_
                    refine XS.iload X113.here hx rfl (hb hby at_403) rfl ?_
                    refine XS.ifYes X113.here hx rfl (pc0 := 405) (pc' := 412) rfl (hb hby at_405) rfl ((if0 _ _).trans (teq ((by decide) : (0 : Int32) = (0 : Int32))).1) (by decide) (by decide) ?_
                    show Steps p.tables e below (T113.setTop (mkF m 412 #[.val (.int q0), .val (.int q1), .val (.int q2), .val (.int q3), .val (.int q4), .val (.int (8 : Int32)), .val (.int z6), .val (.ref a7), .val (.int f8), .val (.ref w), .val (.ref x114), .val (.int (0 : Int32)), .val (.int (0 : Int32)), .unset] [])) _
                    refine XS.iconst X113.here hx rfl (hb hby at_412) ?_
                    exact kt
                  rw [if_neg (fun q => (c146 : ¬ (c5 = (105 : Int32))) (congrArg (fun l => l.getD 5 0) q))] at kt
                  exact S156 t kt
              · have S157 : ∀ t, Steps p.tables e below (T113.setTop (mkF m 413 #[.val (.int q0), .val (.int q1), .val (.int q2), .val (.int q3), .val (.int q4), .val (.int (8 : Int32)), .val (.int z6), .val (.ref a7), .val (.int f8), .val (.ref w), .val (.ref x114), .val (.int (0 : Int32)), .val (.int (0 : Int32)), .unset] [(.int (0 : Int32))])) t → Steps p.tables e below (T0.setTop (mkF m 203 #[.val (.int q0), .val (.int q1), .val (.int q2), .val (.int q3), .val (.int q4), .val (.int (8 : Int32)), .val (.int z6), .val (.ref a7), .val (.int f8), .val (.ref w), .unset, .unset, .unset, .unset] [])) t := by
                  intro t kt
                  refine S142 t ?_
                  refine XS.icmpYes X113.here hx rfl (pc0 := 261) (pc' := 297) rfl (hb hby at_261) rfl (feq (c143 : ¬ (c4 = (110 : Int32)))).2 (by decide) (by decide) ?_
                  refine XS.iconst X113.here hx rfl (hb hby at_297) ?_
                  refine XS.istore X113.here hx rfl (hb hby at_298) rfl (l' := #[.val (.int q0), .val (.int q1), .val (.int q2), .val (.int q3), .val (.int q4), .val (.int (8 : Int32)), .val (.int z6), .val (.ref a7), .val (.int f8), .val (.ref w), .val (.ref x114), .val (.int (0 : Int32)), .unset, .unset]) rfl ?_
                  refine XS.iload X113.here hx rfl (hb hby at_300) rfl ?_
                  refine XS.bipush X113.here hx rfl (hb hby at_302) ?_
                  refine XS.icmpYes X113.here hx rfl (pc0 := 304) (pc' := 395) rfl (hb hby at_304) rfl (feq ((by decide) : ¬ ((8 : Int32) = (9 : Int32)))).2 (by decide) (by decide) ?_
                  show Steps p.tables e below (T113.setTop (mkF m 395 #[.val (.int q0), .val (.int q1), .val (.int q2), .val (.int q3), .val (.int q4), .val (.int (8 : Int32)), .val (.int z6), .val (.ref a7), .val (.int f8), .val (.ref w), .val (.ref x114), .val (.int (0 : Int32)), .unset, .unset] [])) _
                  refine XS.iconst X113.here hx rfl (hb hby at_395) ?_
                  refine XS.istore X113.here hx rfl (hb hby at_396) rfl (l' := #[.val (.int q0), .val (.int q1), .val (.int q2), .val (.int q3), .val (.int q4), .val (.int (8 : Int32)), .val (.int z6), .val (.ref a7), .val (.int f8), .val (.ref w), .val (.ref x114), .val (.int (0 : Int32)), .val (.int (0 : Int32)), .unset]) rfl ?_
                  refine XS.iload X113.here hx rfl (hb hby at_398) rfl ?_
                  refine XS.ifNo X113.here hx rfl (hb hby at_400) rfl ((if0 _ _).trans (teq ((by decide) : (0 : Int32) = (0 : Int32))).2) ?_
                  refine XS.iload X113.here hx rfl (hb hby at_403) rfl ?_
                  refine XS.ifYes X113.here hx rfl (pc0 := 405) (pc' := 412) rfl (hb hby at_405) rfl ((if0 _ _).trans (teq ((by decide) : (0 : Int32) = (0 : Int32))).1) (by decide) (by decide) ?_
                  show Steps p.tables e below (T113.setTop (mkF m 412 #[.val (.int q0), .val (.int q1), .val (.int q2), .val (.int q3), .val (.int q4), .val (.int (8 : Int32)), .val (.int z6), .val (.ref a7), .val (.int f8), .val (.ref w), .val (.ref x114), .val (.int (0 : Int32)), .val (.int (0 : Int32)), .unset] [])) _
                  refine XS.iconst X113.here hx rfl (hb hby at_412) ?_
                  exact kt
                rw [if_neg (fun q => (c143 : ¬ (c4 = (110 : Int32))) (congrArg (fun l => l.getD 4 0) q))] at kt
                exact S157 t kt
            · have S158 : ∀ t, Steps p.tables e below (T113.setTop (mkF m 413 #[.val (.int q0), .val (.int q1), .val (.int q2), .val (.int q3), .val (.int q4), .val (.int (8 : Int32)), .val (.int z6), .val (.ref a7), .val (.int f8), .val (.ref w), .val (.ref x114), .val (.int (0 : Int32)), .val (.int (0 : Int32)), .unset] [(.int (0 : Int32))])) t → Steps p.tables e below (T0.setTop (mkF m 203 #[.val (.int q0), .val (.int q1), .val (.int q2), .val (.int q3), .val (.int q4), .val (.int (8 : Int32)), .val (.int z6), .val (.ref a7), .val (.int f8), .val (.ref w), .unset, .unset, .unset, .unset] [])) t := by
                intro t kt
                refine S139 t ?_
                refine XS.icmpYes X113.here hx rfl (pc0 := 252) (pc' := 297) rfl (hb hby at_252) rfl (feq (c140 : ¬ (c3 = (105 : Int32)))).2 (by decide) (by decide) ?_
                refine XS.iconst X113.here hx rfl (hb hby at_297) ?_
                refine XS.istore X113.here hx rfl (hb hby at_298) rfl (l' := #[.val (.int q0), .val (.int q1), .val (.int q2), .val (.int q3), .val (.int q4), .val (.int (8 : Int32)), .val (.int z6), .val (.ref a7), .val (.int f8), .val (.ref w), .val (.ref x114), .val (.int (0 : Int32)), .unset, .unset]) rfl ?_
                refine XS.iload X113.here hx rfl (hb hby at_300) rfl ?_
                refine XS.bipush X113.here hx rfl (hb hby at_302) ?_
                refine XS.icmpYes X113.here hx rfl (pc0 := 304) (pc' := 395) rfl (hb hby at_304) rfl (feq ((by decide) : ¬ ((8 : Int32) = (9 : Int32)))).2 (by decide) (by decide) ?_
                show Steps p.tables e below (T113.setTop (mkF m 395 #[.val (.int q0), .val (.int q1), .val (.int q2), .val (.int q3), .val (.int q4), .val (.int (8 : Int32)), .val (.int z6), .val (.ref a7), .val (.int f8), .val (.ref w), .val (.ref x114), .val (.int (0 : Int32)), .unset, .unset] [])) _
                refine XS.iconst X113.here hx rfl (hb hby at_395) ?_
                refine XS.istore X113.here hx rfl (hb hby at_396) rfl (l' := #[.val (.int q0), .val (.int q1), .val (.int q2), .val (.int q3), .val (.int q4), .val (.int (8 : Int32)), .val (.int z6), .val (.ref a7), .val (.int f8), .val (.ref w), .val (.ref x114), .val (.int (0 : Int32)), .val (.int (0 : Int32)), .unset]) rfl ?_
                refine XS.iload X113.here hx rfl (hb hby at_398) rfl ?_
                refine XS.ifNo X113.here hx rfl (hb hby at_400) rfl ((if0 _ _).trans (teq ((by decide) : (0 : Int32) = (0 : Int32))).2) ?_
                refine XS.iload X113.here hx rfl (hb hby at_403) rfl ?_
                refine XS.ifYes X113.here hx rfl (pc0 := 405) (pc' := 412) rfl (hb hby at_405) rfl ((if0 _ _).trans (teq ((by decide) : (0 : Int32) = (0 : Int32))).1) (by decide) (by decide) ?_
                show Steps p.tables e below (T113.setTop (mkF m 412 #[.val (.int q0), .val (.int q1), .val (.int q2), .val (.int q3), .val (.int q4), .val (.int (8 : Int32)), .val (.int z6), .val (.ref a7), .val (.int f8), .val (.ref w), .val (.ref x114), .val (.int (0 : Int32)), .val (.int (0 : Int32)), .unset] [])) _
                refine XS.iconst X113.here hx rfl (hb hby at_412) ?_
                exact kt
              rw [if_neg (fun q => (c140 : ¬ (c3 = (105 : Int32))) (congrArg (fun l => l.getD 3 0) q))] at kt
              exact S158 t kt
          · have S159 : ∀ t, Steps p.tables e below (T113.setTop (mkF m 413 #[.val (.int q0), .val (.int q1), .val (.int q2), .val (.int q3), .val (.int q4), .val (.int (8 : Int32)), .val (.int z6), .val (.ref a7), .val (.int f8), .val (.ref w), .val (.ref x114), .val (.int (0 : Int32)), .val (.int (0 : Int32)), .unset] [(.int (0 : Int32))])) t → Steps p.tables e below (T0.setTop (mkF m 203 #[.val (.int q0), .val (.int q1), .val (.int q2), .val (.int q3), .val (.int q4), .val (.int (8 : Int32)), .val (.int z6), .val (.ref a7), .val (.int f8), .val (.ref w), .unset, .unset, .unset, .unset] [])) t := by
              intro t kt
              refine S136 t ?_
              refine XS.icmpYes X113.here hx rfl (pc0 := 243) (pc' := 297) rfl (hb hby at_243) rfl (feq (c137 : ¬ (c2 = (102 : Int32)))).2 (by decide) (by decide) ?_
              refine XS.iconst X113.here hx rfl (hb hby at_297) ?_
              refine XS.istore X113.here hx rfl (hb hby at_298) rfl (l' := #[.val (.int q0), .val (.int q1), .val (.int q2), .val (.int q3), .val (.int q4), .val (.int (8 : Int32)), .val (.int z6), .val (.ref a7), .val (.int f8), .val (.ref w), .val (.ref x114), .val (.int (0 : Int32)), .unset, .unset]) rfl ?_
              refine XS.iload X113.here hx rfl (hb hby at_300) rfl ?_
              refine XS.bipush X113.here hx rfl (hb hby at_302) ?_
              refine XS.icmpYes X113.here hx rfl (pc0 := 304) (pc' := 395) rfl (hb hby at_304) rfl (feq ((by decide) : ¬ ((8 : Int32) = (9 : Int32)))).2 (by decide) (by decide) ?_
              show Steps p.tables e below (T113.setTop (mkF m 395 #[.val (.int q0), .val (.int q1), .val (.int q2), .val (.int q3), .val (.int q4), .val (.int (8 : Int32)), .val (.int z6), .val (.ref a7), .val (.int f8), .val (.ref w), .val (.ref x114), .val (.int (0 : Int32)), .unset, .unset] [])) _
              refine XS.iconst X113.here hx rfl (hb hby at_395) ?_
              refine XS.istore X113.here hx rfl (hb hby at_396) rfl (l' := #[.val (.int q0), .val (.int q1), .val (.int q2), .val (.int q3), .val (.int q4), .val (.int (8 : Int32)), .val (.int z6), .val (.ref a7), .val (.int f8), .val (.ref w), .val (.ref x114), .val (.int (0 : Int32)), .val (.int (0 : Int32)), .unset]) rfl ?_
              refine XS.iload X113.here hx rfl (hb hby at_398) rfl ?_
              refine XS.ifNo X113.here hx rfl (hb hby at_400) rfl ((if0 _ _).trans (teq ((by decide) : (0 : Int32) = (0 : Int32))).2) ?_
              refine XS.iload X113.here hx rfl (hb hby at_403) rfl ?_
              refine XS.ifYes X113.here hx rfl (pc0 := 405) (pc' := 412) rfl (hb hby at_405) rfl ((if0 _ _).trans (teq ((by decide) : (0 : Int32) = (0 : Int32))).1) (by decide) (by decide) ?_
              show Steps p.tables e below (T113.setTop (mkF m 412 #[.val (.int q0), .val (.int q1), .val (.int q2), .val (.int q3), .val (.int q4), .val (.int (8 : Int32)), .val (.int z6), .val (.ref a7), .val (.int f8), .val (.ref w), .val (.ref x114), .val (.int (0 : Int32)), .val (.int (0 : Int32)), .unset] [])) _
              refine XS.iconst X113.here hx rfl (hb hby at_412) ?_
              exact kt
            rw [if_neg (fun q => (c137 : ¬ (c2 = (102 : Int32))) (congrArg (fun l => l.getD 2 0) q))] at kt
            exact S159 t kt
        · have S160 : ∀ t, Steps p.tables e below (T113.setTop (mkF m 413 #[.val (.int q0), .val (.int q1), .val (.int q2), .val (.int q3), .val (.int q4), .val (.int (8 : Int32)), .val (.int z6), .val (.ref a7), .val (.int f8), .val (.ref w), .val (.ref x114), .val (.int (0 : Int32)), .val (.int (0 : Int32)), .unset] [(.int (0 : Int32))])) t → Steps p.tables e below (T0.setTop (mkF m 203 #[.val (.int q0), .val (.int q1), .val (.int q2), .val (.int q3), .val (.int q4), .val (.int (8 : Int32)), .val (.int z6), .val (.ref a7), .val (.int f8), .val (.ref w), .unset, .unset, .unset, .unset] [])) t := by
            intro t kt
            refine S133 t ?_
            refine XS.icmpYes X113.here hx rfl (pc0 := 234) (pc' := 297) rfl (hb hby at_234) rfl (feq (c134 : ¬ (c1 = (110 : Int32)))).2 (by decide) (by decide) ?_
            refine XS.iconst X113.here hx rfl (hb hby at_297) ?_
            refine XS.istore X113.here hx rfl (hb hby at_298) rfl (l' := #[.val (.int q0), .val (.int q1), .val (.int q2), .val (.int q3), .val (.int q4), .val (.int (8 : Int32)), .val (.int z6), .val (.ref a7), .val (.int f8), .val (.ref w), .val (.ref x114), .val (.int (0 : Int32)), .unset, .unset]) rfl ?_
            refine XS.iload X113.here hx rfl (hb hby at_300) rfl ?_
            refine XS.bipush X113.here hx rfl (hb hby at_302) ?_
            refine XS.icmpYes X113.here hx rfl (pc0 := 304) (pc' := 395) rfl (hb hby at_304) rfl (feq ((by decide) : ¬ ((8 : Int32) = (9 : Int32)))).2 (by decide) (by decide) ?_
            show Steps p.tables e below (T113.setTop (mkF m 395 #[.val (.int q0), .val (.int q1), .val (.int q2), .val (.int q3), .val (.int q4), .val (.int (8 : Int32)), .val (.int z6), .val (.ref a7), .val (.int f8), .val (.ref w), .val (.ref x114), .val (.int (0 : Int32)), .unset, .unset] [])) _
            refine XS.iconst X113.here hx rfl (hb hby at_395) ?_
            refine XS.istore X113.here hx rfl (hb hby at_396) rfl (l' := #[.val (.int q0), .val (.int q1), .val (.int q2), .val (.int q3), .val (.int q4), .val (.int (8 : Int32)), .val (.int z6), .val (.ref a7), .val (.int f8), .val (.ref w), .val (.ref x114), .val (.int (0 : Int32)), .val (.int (0 : Int32)), .unset]) rfl ?_
            refine XS.iload X113.here hx rfl (hb hby at_398) rfl ?_
            refine XS.ifNo X113.here hx rfl (hb hby at_400) rfl ((if0 _ _).trans (teq ((by decide) : (0 : Int32) = (0 : Int32))).2) ?_
            refine XS.iload X113.here hx rfl (hb hby at_403) rfl ?_
            refine XS.ifYes X113.here hx rfl (pc0 := 405) (pc' := 412) rfl (hb hby at_405) rfl ((if0 _ _).trans (teq ((by decide) : (0 : Int32) = (0 : Int32))).1) (by decide) (by decide) ?_
            show Steps p.tables e below (T113.setTop (mkF m 412 #[.val (.int q0), .val (.int q1), .val (.int q2), .val (.int q3), .val (.int q4), .val (.int (8 : Int32)), .val (.int z6), .val (.ref a7), .val (.int f8), .val (.ref w), .val (.ref x114), .val (.int (0 : Int32)), .val (.int (0 : Int32)), .unset] [])) _
            refine XS.iconst X113.here hx rfl (hb hby at_412) ?_
            exact kt
          rw [if_neg (fun q => (c134 : ¬ (c1 = (110 : Int32))) (congrArg (fun l => l.getD 1 0) q))] at kt
          exact S160 t kt
      · have S161 : ∀ t, Steps p.tables e below (T113.setTop (mkF m 413 #[.val (.int q0), .val (.int q1), .val (.int q2), .val (.int q3), .val (.int q4), .val (.int (8 : Int32)), .val (.int z6), .val (.ref a7), .val (.int f8), .val (.ref w), .val (.ref x114), .val (.int (0 : Int32)), .val (.int (0 : Int32)), .unset] [(.int (0 : Int32))])) t → Steps p.tables e below (T0.setTop (mkF m 203 #[.val (.int q0), .val (.int q1), .val (.int q2), .val (.int q3), .val (.int q4), .val (.int (8 : Int32)), .val (.int z6), .val (.ref a7), .val (.int f8), .val (.ref w), .unset, .unset, .unset, .unset] [])) t := by
          intro t kt
          refine S130 t ?_
          refine XS.icmpYes X113.here hx rfl (pc0 := 225) (pc' := 297) rfl (hb hby at_225) rfl (feq (c131 : ¬ (c0 = (105 : Int32)))).2 (by decide) (by decide) ?_
          refine XS.iconst X113.here hx rfl (hb hby at_297) ?_
          refine XS.istore X113.here hx rfl (hb hby at_298) rfl (l' := #[.val (.int q0), .val (.int q1), .val (.int q2), .val (.int q3), .val (.int q4), .val (.int (8 : Int32)), .val (.int z6), .val (.ref a7), .val (.int f8), .val (.ref w), .val (.ref x114), .val (.int (0 : Int32)), .unset, .unset]) rfl ?_
          refine XS.iload X113.here hx rfl (hb hby at_300) rfl ?_
          refine XS.bipush X113.here hx rfl (hb hby at_302) ?_
          refine XS.icmpYes X113.here hx rfl (pc0 := 304) (pc' := 395) rfl (hb hby at_304) rfl (feq ((by decide) : ¬ ((8 : Int32) = (9 : Int32)))).2 (by decide) (by decide) ?_
          show Steps p.tables e below (T113.setTop (mkF m 395 #[.val (.int q0), .val (.int q1), .val (.int q2), .val (.int q3), .val (.int q4), .val (.int (8 : Int32)), .val (.int z6), .val (.ref a7), .val (.int f8), .val (.ref w), .val (.ref x114), .val (.int (0 : Int32)), .unset, .unset] [])) _
          refine XS.iconst X113.here hx rfl (hb hby at_395) ?_
          refine XS.istore X113.here hx rfl (hb hby at_396) rfl (l' := #[.val (.int q0), .val (.int q1), .val (.int q2), .val (.int q3), .val (.int q4), .val (.int (8 : Int32)), .val (.int z6), .val (.ref a7), .val (.int f8), .val (.ref w), .val (.ref x114), .val (.int (0 : Int32)), .val (.int (0 : Int32)), .unset]) rfl ?_
          refine XS.iload X113.here hx rfl (hb hby at_398) rfl ?_
          refine XS.ifNo X113.here hx rfl (hb hby at_400) rfl ((if0 _ _).trans (teq ((by decide) : (0 : Int32) = (0 : Int32))).2) ?_
          refine XS.iload X113.here hx rfl (hb hby at_403) rfl ?_
          refine XS.ifYes X113.here hx rfl (pc0 := 405) (pc' := 412) rfl (hb hby at_405) rfl ((if0 _ _).trans (teq ((by decide) : (0 : Int32) = (0 : Int32))).1) (by decide) (by decide) ?_
          show Steps p.tables e below (T113.setTop (mkF m 412 #[.val (.int q0), .val (.int q1), .val (.int q2), .val (.int q3), .val (.int q4), .val (.int (8 : Int32)), .val (.int z6), .val (.ref a7), .val (.int f8), .val (.ref w), .val (.ref x114), .val (.int (0 : Int32)), .val (.int (0 : Int32)), .unset] [])) _
          refine XS.iconst X113.here hx rfl (hb hby at_412) ?_
          exact kt
        rw [if_neg (fun q => (c131 : ¬ (c0 = (105 : Int32))) (congrArg (fun l => l.getD 0 0) q))] at kt
        exact S161 t kt
    obtain ⟨T162, h162, X162, e162, E162, A162, D162, -, st162⟩ := newO X113 hx hZ0 ho0 (own_w hw 52 rfl) (own_w hw 3 rfl) (own_w hw 2 rfl) rfl (g := (mkF m 415 #[.val (.int q0), .val (.int q1), .val (.int q2), .val (.int q3), .val (.int q4), .val (.int (8 : Int32)), .val (.int z6), .val (.ref a7), .val (.int f8), .val (.ref w), .val (.ref x114), .val (.int (if ([c0, c1, c2, c3, c4, c5, c6, c7] : List Int32) = [(105 : Int32), (110 : Int32), (102 : Int32), (105 : Int32), (110 : Int32), (105 : Int32), (116 : Int32), (121 : Int32)] then (1 : Int32) else (0 : Int32))), .val (.int (0 : Int32)), .val (.int (if ([c0, c1, c2, c3, c4, c5, c6, c7] : List Int32) = [(105 : Int32), (110 : Int32), (102 : Int32), (105 : Int32), (110 : Int32), (105 : Int32), (116 : Int32), (121 : Int32)] then (1 : Int32) else (0 : Int32)))] [])) rfl (hb hby at_415) (by decide) (by decide)
    obtain ⟨b162, g162⟩ : ∃ z, z = T113.heap.size := ⟨_, rfl⟩
    have ge_b162 : n0 ≤ b162 := by rw [g162, ← O125.1]; exact O125.2.1
    have f163 := (Arv.keep A_w k117 nin0)
    have ne164 : w ≠ b162 := Nat.ne_of_lt (Nat.lt_of_lt_of_le (Arv.lt f163) (Nat.le_of_eq g162.symm))
    have ne165 : x114 ≠ b162 := Nat.ne_of_lt (Nat.lt_of_lt_of_le (Arv.lt f119) (Nat.le_of_eq g162.symm))
    have sf166 : Safe Z own_EL vm0 T113.heap b162 := Safe.new (Nat.le_of_eq g162.symm)
    rw [← g162] at A162 D162 st162
    have CR167 := CR123.trans (CHr.ext E162 CR123.1)
    have hk168 := Nat.le_trans hk124 E162.1
    have sf169 := Safe.ext E162 CR123.1 sf166
    have O170 := O125.ext E162
    have F171 : Fld Z h162 b162 "java/lang/String" "value" "[B" .null := D162 (Or.inr (own_w hw 5 rfl)) (ty := (.array .byte)) (by decide)
    have F172 : Fld Z h162 b162 "java/lang/String" "coder" "B" (.int (0 : Int32)) := D162 (Or.inr (own_w hw 6 rfl)) (ty := .byte) (by decide)
    have f174 := (Arv.ext f119 E162)
    have la175 : ∀ c ∈ ([c0, c1, c2, c3, c4, c5, c6, c7] : List Int32), ¬ c < 0 ∧ ¬ (255 : Int32) < c := by
      intro c hc
      simp only [List.mem_cons, List.not_mem_nil, or_false] at hc
      rcases hc with rfl | rfl | rfl | rfl | rfl | rfl | rfl | rfl
      · exact la_c0
      · exact la_c1
      · exact la_c2
      · exact la_c3
      · exact la_c4
      · exact la_c5
      · exact la_c6
      · exact la_c7
    obtain ⟨_, _, ⟨T173, L173, k173, n173⟩, -, X173, ⟨Lc173, hQ173, l173, y173, z173⟩, st173⟩ := X162.specialBack hx (y := (⟨"java/lang/String", "<init>", "([C)V"⟩ : MethodName)) rfl ho0 (mvT hZ0 (own_w hw 53 rfl)) (mvT hZ0 (own_w hw 54 rfl)) (mvT hZ0 (own_w hw 55 rfl)) (by decide) (StrChars.Road.backV (W := 1) hZ0 hws (kI := 4) (own_w hw 3 rfl) (cs := [c0, c1, c2, c3, c4, c5, c6, c7]) (bs := [c0.toInt8.toInt32, c1.toInt8.toInt32, c2.toInt8.toInt32, c3.toInt8.toInt32, c4.toInt8.toInt32, c5.toInt8.toInt32, c6.toInt8.toInt32, c7.toInt8.toInt32]) (n := 8) ge_b162 (by rw [← O170.1]; exact O170.2.1) A162 F171 F172 f174 (S_C.ext O170.2) hzc rfl rfl (by decide) (by decide) la175 rfl (by decide) (by decide)) (g := (mkF m 421 #[.val (.int q0), .val (.int q1), .val (.int q2), .val (.int q3), .val (.int q4), .val (.int (8 : Int32)), .val (.int z6), .val (.ref a7), .val (.int f8), .val (.ref w), .val (.ref x114), .val (.int (if ([c0, c1, c2, c3, c4, c5, c6, c7] : List Int32) = [(105 : Int32), (110 : Int32), (102 : Int32), (105 : Int32), (110 : Int32), (105 : Int32), (116 : Int32), (121 : Int32)] then (1 : Int32) else (0 : Int32))), .val (.int (0 : Int32)), .val (.int (if ([c0, c1, c2, c3, c4, c5, c6, c7] : List Int32) = [(105 : Int32), (110 : Int32), (102 : Int32), (105 : Int32), (110 : Int32), (105 : Int32), (116 : Int32), (121 : Int32)] then (1 : Int32) else (0 : Int32)))] [(.ref x114), (.ref b162), (.ref b162)])) rfl (by rw [hml]; rfl) (Steps.refl _) (a := b162) (argsL := [(.ref x114)]) (rest := [(.ref b162)]) (lenOf pd_4 rfl) rfl (by show 2 * 0 + _ ≤ _; exact Nat.le_of_eq rfl) (hb hby at_421) (fun _ _ => ⟨rfl, e162, (by decide : 5 + 1 ≤ _), (by decide : 62 + 8 ≤ _)⟩)
    dsimp only [Pt.U, Pt.locs, Pt.cells, Pt.slots] at X173 l173 y173 z173 st173 hQ173
    subst l173 y173 z173
    obtain ⟨rfl, f178, f179, f180, f181, x176, x177, f182, f183, qf183, f184, f185⟩ := hQ173
    have N186 := Fr.app N120 f178
    have ge187 : n0 ≤ x176 := by rw [← O170.1]; exact Nat.le_trans O170.2.1 f183
    have f188 := (Arv.ext f163 E162)
    have ne189 : w ≠ x176 := Nat.ne_of_lt (Nat.lt_of_lt_of_le (Arv.lt f188) f183)
    have ne190 : x114 ≠ x176 := Nat.ne_of_lt (Nat.lt_of_lt_of_le (Arv.lt f174) f183)
    have ne191 : b162 ≠ x176 := Nat.ne_of_lt (Nat.lt_of_lt_of_le (Exa.lt A162) f183)
    have CR192 := CR167.trans (CHr.keep f179 (sfS sf169 sf0) CR167.1)
    have hk193 := Nat.le_trans hk168 f179.1
    have sf194 := Safe.keep f179 (sfS sf169 sf0) CR167.1 sf169
    have O195 := O170.keep f179 (allS ge_b162 all0)
    obtain ⟨_, _, ⟨T196, L196, k196, n196⟩, -, Xq196, hSq196, hgq196, ⟨Lc196, hQ196, l196, y196, z196, C196⟩, st196⟩ := callSS X173 hx (y := (⟨"com/example/logtide/logtide/event/TemporalText", "isInfinite", "(Ljava/lang/String;)Z"⟩ : MethodName)) ho0 (mvT hZ0 (own_w hw 73 rfl)) (mvT hZ0 (own_w hw 74 rfl)) (mvT hZ0 (own_w hw 75 rfl)) (mvT hZ0 (own_w hw 76 rfl)) (by decide) (own_backS (W := 0) (rm := ({ frames := 2, cells := 4, slots := 80, locals := 28 } : Room)) (xs := []) (rm_inf8 l Z a0 hw [] b162 x176 x177 c0 c1 c2 c3 c4 c5 c6 c7 zc T173.heap n0 O195 f180 f184 f181 f185 la_c0 la_c1 la_c2 la_c3 la_c4 la_c5 la_c6 la_c7 S_C hzc) hZ0 (own_w hw 76 rfl) (own_w hw 75 rfl) (by decide) (by decide) own_ew CR192.1 all0) (g := (mkF m 424 #[.val (.int q0), .val (.int q1), .val (.int q2), .val (.int q3), .val (.int q4), .val (.int (8 : Int32)), .val (.int z6), .val (.ref a7), .val (.int f8), .val (.ref w), .val (.ref x114), .val (.int (if ([c0, c1, c2, c3, c4, c5, c6, c7] : List Int32) = [(105 : Int32), (110 : Int32), (102 : Int32), (105 : Int32), (110 : Int32), (105 : Int32), (116 : Int32), (121 : Int32)] then (1 : Int32) else (0 : Int32))), .val (.int (0 : Int32)), .val (.int (if ([c0, c1, c2, c3, c4, c5, c6, c7] : List Int32) = [(105 : Int32), (110 : Int32), (102 : Int32), (105 : Int32), (110 : Int32), (105 : Int32), (116 : Int32), (121 : Int32)] then (1 : Int32) else (0 : Int32)))] [(.ref b162)])) rfl (by rw [hml]; rfl) (argsL := [(.ref b162)]) (rest := []) (lenOf pd_5 rfl) rfl (by show 2 * 0 + _ ≤ _; exact Nat.le_of_eq rfl) (hb hby at_424) (fun _ _ => ⟨rfl, rfl, (by decide : 6 + 4 ≤ _), (by decide : 70 + 80 ≤ _)⟩)
    dsimp only [Pt.U, Pt.locs, Pt.cells, Pt.slots] at Xq196 hSq196 hgq196 l196 y196 z196 st196 hQ196 C196
    obtain ⟨X196, hS196, hZ196, ho196⟩ := rebS hS0 (by exact hk193) Xq196 hSq196 hgq196 hZ0 ho0
    subst l196 y196 z196
    rcases hQ196 with ⟨c197, rfl, N198, k199⟩ | ⟨c200, rfl, N201, k202⟩
    · have N203 := Fr.app N186 N198
      have sf204 := CHr.safe C196 (Exa.lt f180) sf194
      have CR205 := CR192.trans C196
      have hk206 : T196.heap.size ≤ T196.heap.size := Nat.le_refl _
      have O207 := O195.keep k199 all0
      have q208 : (1 : Int32) = (if ([c0, c1, c2, c3, c4, c5, c6, c7] : List Int32) = [(105 : Int32), (110 : Int32), (102 : Int32), (105 : Int32), (110 : Int32), (105 : Int32), (116 : Int32), (121 : Int32)] then (1 : Int32) else (0 : Int32)) := (if_pos c197).symm
      have S209 : ∀ t, Steps p.tables e below (T196.setTop (mkF m 437 #[.val (.int q0), .val (.int q1), .val (.int q2), .val (.int q3), .val (.int q4), .val (.int (8 : Int32)), .val (.int z6), .val (.ref a7), .val (.int f8), .val (.ref w), .val (.ref x114), .val (.int (if ([c0, c1, c2, c3, c4, c5, c6, c7] : List Int32) = [(105 : Int32), (110 : Int32), (102 : Int32), (105 : Int32), (110 : Int32), (105 : Int32), (116 : Int32), (121 : Int32)] then (1 : Int32) else (0 : Int32))), .val (.int (0 : Int32)), .val (.int (if ([c0, c1, c2, c3, c4, c5, c6, c7] : List Int32) = [(105 : Int32), (110 : Int32), (102 : Int32), (105 : Int32), (110 : Int32), (105 : Int32), (116 : Int32), (121 : Int32)] then (1 : Int32) else (0 : Int32)))] [(.int (1 : Int32))])) t → Steps p.tables e below (T0.setTop (mkF m 203 #[.val (.int q0), .val (.int q1), .val (.int q2), .val (.int q3), .val (.int q4), .val (.int (8 : Int32)), .val (.int z6), .val (.ref a7), .val (.int f8), .val (.ref w), .unset, .unset, .unset, .unset] [])) t := by
        intro t kt
        refine S127 t ?_
        refine XS.istore X113.here hx rfl (hb hby at_413) rfl (l' := #[.val (.int q0), .val (.int q1), .val (.int q2), .val (.int q3), .val (.int q4), .val (.int (8 : Int32)), .val (.int z6), .val (.ref a7), .val (.int f8), .val (.ref w), .val (.ref x114), .val (.int (if ([c0, c1, c2, c3, c4, c5, c6, c7] : List Int32) = [(105 : Int32), (110 : Int32), (102 : Int32), (105 : Int32), (110 : Int32), (105 : Int32), (116 : Int32), (121 : Int32)] then (1 : Int32) else (0 : Int32))), .val (.int (0 : Int32)), .val (.int (if ([c0, c1, c2, c3, c4, c5, c6, c7] : List Int32) = [(105 : Int32), (110 : Int32), (102 : Int32), (105 : Int32), (110 : Int32), (105 : Int32), (116 : Int32), (121 : Int32)] then (1 : Int32) else (0 : Int32)))]) rfl ?_
        show Steps p.tables e below (T113.setTop (mkF m 415 #[.val (.int q0), .val (.int q1), .val (.int q2), .val (.int q3), .val (.int q4), .val (.int (8 : Int32)), .val (.int z6), .val (.ref a7), .val (.int f8), .val (.ref w), .val (.ref x114), .val (.int (if ([c0, c1, c2, c3, c4, c5, c6, c7] : List Int32) = [(105 : Int32), (110 : Int32), (102 : Int32), (105 : Int32), (110 : Int32), (105 : Int32), (116 : Int32), (121 : Int32)] then (1 : Int32) else (0 : Int32))), .val (.int (0 : Int32)), .val (.int (if ([c0, c1, c2, c3, c4, c5, c6, c7] : List Int32) = [(105 : Int32), (110 : Int32), (102 : Int32), (105 : Int32), (110 : Int32), (105 : Int32), (116 : Int32), (121 : Int32)] then (1 : Int32) else (0 : Int32)))] [])) _
        refine st162 _ ?_
        refine XS.dup X162.here hx rfl (hb hby at_418) rfl rfl ?_
        refine XS.aload X162.here hx rfl (hb hby at_419) rfl rfl ?_
        show Steps p.tables e below (T162.setTop (mkF m 421 #[.val (.int q0), .val (.int q1), .val (.int q2), .val (.int q3), .val (.int q4), .val (.int (8 : Int32)), .val (.int z6), .val (.ref a7), .val (.int f8), .val (.ref w), .val (.ref x114), .val (.int (if ([c0, c1, c2, c3, c4, c5, c6, c7] : List Int32) = [(105 : Int32), (110 : Int32), (102 : Int32), (105 : Int32), (110 : Int32), (105 : Int32), (116 : Int32), (121 : Int32)] then (1 : Int32) else (0 : Int32))), .val (.int (0 : Int32)), .val (.int (if ([c0, c1, c2, c3, c4, c5, c6, c7] : List Int32) = [(105 : Int32), (110 : Int32), (102 : Int32), (105 : Int32), (110 : Int32), (105 : Int32), (116 : Int32), (121 : Int32)] then (1 : Int32) else (0 : Int32)))] [(.ref x114), (.ref b162), (.ref b162)])) _
        refine st173.trans ?_
        show Steps p.tables e below (T173.setTop (mkF m 424 #[.val (.int q0), .val (.int q1), .val (.int q2), .val (.int q3), .val (.int q4), .val (.int (8 : Int32)), .val (.int z6), .val (.ref a7), .val (.int f8), .val (.ref w), .val (.ref x114), .val (.int (if ([c0, c1, c2, c3, c4, c5, c6, c7] : List Int32) = [(105 : Int32), (110 : Int32), (102 : Int32), (105 : Int32), (110 : Int32), (105 : Int32), (116 : Int32), (121 : Int32)] then (1 : Int32) else (0 : Int32))), .val (.int (0 : Int32)), .val (.int (if ([c0, c1, c2, c3, c4, c5, c6, c7] : List Int32) = [(105 : Int32), (110 : Int32), (102 : Int32), (105 : Int32), (110 : Int32), (105 : Int32), (116 : Int32), (121 : Int32)] then (1 : Int32) else (0 : Int32)))] [(.ref b162)])) _
        refine st196.trans ?_
        refine XS.iload X196.here hx rfl (hb hby at_427) rfl ?_
        refine XS.icmpNo X196.here hx rfl (hb hby at_429) rfl (teq (q208 : (1 : Int32) = (if ([c0, c1, c2, c3, c4, c5, c6, c7] : List Int32) = [(105 : Int32), (110 : Int32), (102 : Int32), (105 : Int32), (110 : Int32), (105 : Int32), (116 : Int32), (121 : Int32)] then (1 : Int32) else (0 : Int32)))).2 ?_
        refine XS.iconst X196.here hx rfl (hb hby at_432) ?_
        refine XS.goto X196.here hx rfl (pc0 := 433) (pc' := 437) rfl (hb hby at_433) (by decide) (by decide) ?_
        exact kt
      obtain ⟨fs, hr, hrun, hended, hRW⟩ := X196.leaveW hS196 (by exact hk206) (v := some (.int (1 : Int32))) (fun h => by rw [hret] at h; cases h)
      refine ⟨_, _, S209 _ ?_, hrun, hended, _, _, rfl, ?_, ?_, hRW.1, hRW.2.1, hRW.2.2.1, hRW.2.2.2.mono (by decide) (by decide)⟩
      · exact retN X196 hx (t := .boolean) hret (by simp) (hb hby at_437) hr
      · skip
        exact ⟨rfl, N203⟩
      · show CHr Z own_EL s.vm s.heap T196.vm T196.heap
        skip
        exact CR205.trans (CHv.at X196 hZ196 own_ew CR205.1)
    · have N210 := Fr.app N186 N201
      have sf211 := CHr.safe C196 (Exa.lt f180) sf194
      have CR212 := CR192.trans C196
      have hk213 : T196.heap.size ≤ T196.heap.size := Nat.le_refl _
      have O214 := O195.keep k202 all0
      have q215 : (0 : Int32) = (if ([c0, c1, c2, c3, c4, c5, c6, c7] : List Int32) = [(105 : Int32), (110 : Int32), (102 : Int32), (105 : Int32), (110 : Int32), (105 : Int32), (116 : Int32), (121 : Int32)] then (1 : Int32) else (0 : Int32)) := (if_neg c200).symm
      have S216 : ∀ t, Steps p.tables e below (T196.setTop (mkF m 437 #[.val (.int q0), .val (.int q1), .val (.int q2), .val (.int q3), .val (.int q4), .val (.int (8 : Int32)), .val (.int z6), .val (.ref a7), .val (.int f8), .val (.ref w), .val (.ref x114), .val (.int (if ([c0, c1, c2, c3, c4, c5, c6, c7] : List Int32) = [(105 : Int32), (110 : Int32), (102 : Int32), (105 : Int32), (110 : Int32), (105 : Int32), (116 : Int32), (121 : Int32)] then (1 : Int32) else (0 : Int32))), .val (.int (0 : Int32)), .val (.int (if ([c0, c1, c2, c3, c4, c5, c6, c7] : List Int32) = [(105 : Int32), (110 : Int32), (102 : Int32), (105 : Int32), (110 : Int32), (105 : Int32), (116 : Int32), (121 : Int32)] then (1 : Int32) else (0 : Int32)))] [(.int (1 : Int32))])) t → Steps p.tables e below (T0.setTop (mkF m 203 #[.val (.int q0), .val (.int q1), .val (.int q2), .val (.int q3), .val (.int q4), .val (.int (8 : Int32)), .val (.int z6), .val (.ref a7), .val (.int f8), .val (.ref w), .unset, .unset, .unset, .unset] [])) t := by
        intro t kt
        refine S127 t ?_
        refine XS.istore X113.here hx rfl (hb hby at_413) rfl (l' := #[.val (.int q0), .val (.int q1), .val (.int q2), .val (.int q3), .val (.int q4), .val (.int (8 : Int32)), .val (.int z6), .val (.ref a7), .val (.int f8), .val (.ref w), .val (.ref x114), .val (.int (if ([c0, c1, c2, c3, c4, c5, c6, c7] : List Int32) = [(105 : Int32), (110 : Int32), (102 : Int32), (105 : Int32), (110 : Int32), (105 : Int32), (116 : Int32), (121 : Int32)] then (1 : Int32) else (0 : Int32))), .val (.int (0 : Int32)), .val (.int (if ([c0, c1, c2, c3, c4, c5, c6, c7] : List Int32) = [(105 : Int32), (110 : Int32), (102 : Int32), (105 : Int32), (110 : Int32), (105 : Int32), (116 : Int32), (121 : Int32)] then (1 : Int32) else (0 : Int32)))]) rfl ?_
        show Steps p.tables e below (T113.setTop (mkF m 415 #[.val (.int q0), .val (.int q1), .val (.int q2), .val (.int q3), .val (.int q4), .val (.int (8 : Int32)), .val (.int z6), .val (.ref a7), .val (.int f8), .val (.ref w), .val (.ref x114), .val (.int (if ([c0, c1, c2, c3, c4, c5, c6, c7] : List Int32) = [(105 : Int32), (110 : Int32), (102 : Int32), (105 : Int32), (110 : Int32), (105 : Int32), (116 : Int32), (121 : Int32)] then (1 : Int32) else (0 : Int32))), .val (.int (0 : Int32)), .val (.int (if ([c0, c1, c2, c3, c4, c5, c6, c7] : List Int32) = [(105 : Int32), (110 : Int32), (102 : Int32), (105 : Int32), (110 : Int32), (105 : Int32), (116 : Int32), (121 : Int32)] then (1 : Int32) else (0 : Int32)))] [])) _
        refine st162 _ ?_
        refine XS.dup X162.here hx rfl (hb hby at_418) rfl rfl ?_
        refine XS.aload X162.here hx rfl (hb hby at_419) rfl rfl ?_
        show Steps p.tables e below (T162.setTop (mkF m 421 #[.val (.int q0), .val (.int q1), .val (.int q2), .val (.int q3), .val (.int q4), .val (.int (8 : Int32)), .val (.int z6), .val (.ref a7), .val (.int f8), .val (.ref w), .val (.ref x114), .val (.int (if ([c0, c1, c2, c3, c4, c5, c6, c7] : List Int32) = [(105 : Int32), (110 : Int32), (102 : Int32), (105 : Int32), (110 : Int32), (105 : Int32), (116 : Int32), (121 : Int32)] then (1 : Int32) else (0 : Int32))), .val (.int (0 : Int32)), .val (.int (if ([c0, c1, c2, c3, c4, c5, c6, c7] : List Int32) = [(105 : Int32), (110 : Int32), (102 : Int32), (105 : Int32), (110 : Int32), (105 : Int32), (116 : Int32), (121 : Int32)] then (1 : Int32) else (0 : Int32)))] [(.ref x114), (.ref b162), (.ref b162)])) _
        refine st173.trans ?_
        show Steps p.tables e below (T173.setTop (mkF m 424 #[.val (.int q0), .val (.int q1), .val (.int q2), .val (.int q3), .val (.int q4), .val (.int (8 : Int32)), .val (.int z6), .val (.ref a7), .val (.int f8), .val (.ref w), .val (.ref x114), .val (.int (if ([c0, c1, c2, c3, c4, c5, c6, c7] : List Int32) = [(105 : Int32), (110 : Int32), (102 : Int32), (105 : Int32), (110 : Int32), (105 : Int32), (116 : Int32), (121 : Int32)] then (1 : Int32) else (0 : Int32))), .val (.int (0 : Int32)), .val (.int (if ([c0, c1, c2, c3, c4, c5, c6, c7] : List Int32) = [(105 : Int32), (110 : Int32), (102 : Int32), (105 : Int32), (110 : Int32), (105 : Int32), (116 : Int32), (121 : Int32)] then (1 : Int32) else (0 : Int32)))] [(.ref b162)])) _
        refine st196.trans ?_
        refine XS.iload X196.here hx rfl (hb hby at_427) rfl ?_
        refine XS.icmpNo X196.here hx rfl (hb hby at_429) rfl (teq (q215 : (0 : Int32) = (if ([c0, c1, c2, c3, c4, c5, c6, c7] : List Int32) = [(105 : Int32), (110 : Int32), (102 : Int32), (105 : Int32), (110 : Int32), (105 : Int32), (116 : Int32), (121 : Int32)] then (1 : Int32) else (0 : Int32)))).2 ?_
        refine XS.iconst X196.here hx rfl (hb hby at_432) ?_
        refine XS.goto X196.here hx rfl (pc0 := 433) (pc' := 437) rfl (hb hby at_433) (by decide) (by decide) ?_
        exact kt
      obtain ⟨fs, hr, hrun, hended, hRW⟩ := X196.leaveW hS196 (by exact hk213) (v := some (.int (1 : Int32))) (fun h => by rw [hret] at h; cases h)
      refine ⟨_, _, S216 _ ?_, hrun, hended, _, _, rfl, ?_, ?_, hRW.1, hRW.2.1, hRW.2.2.1, hRW.2.2.2.mono (by decide) (by decide)⟩
      · exact retN X196 hx (t := .boolean) hret (by simp) (hb hby at_437) hr
      · skip
        exact ⟨rfl, N210⟩
      · show CHr Z own_EL s.vm s.heap T196.vm T196.heap
        skip
        exact CR212.trans (CHv.at X196 hZ196 own_ew CR212.1)
  · obtain ⟨_, _, ⟨T217, L217, k217, n217⟩, -, X217, ⟨Lc217, hQ217, l217, y217, z217⟩, st217⟩ := Jvm.LawKit.callS X0 hx (y := (⟨"com/example/logtide/logtide/event/TemporalTextIsInfinitePinLaw", "cut", "([CI)[C"⟩ : MethodName)) ho0 (mvT hZ0 (own_w hw 49 rfl)) (mvT hZ0 (own_w hw 50 rfl)) (mvT hZ0 (own_w hw 12 rfl)) (mvT hZ0 (own_w hw 51 rfl)) (by decide) (backOf (W := 0) (rm_cut9 l Z a0 hw [] w kw c0 c1 c2 c3 c4 c5 c6 c7 c8 c9 h0 n0 O0 A_w la_c0 la_c1 la_c2 la_c3 la_c4 la_c5 la_c6 la_c7 la_c8 la_c9) hZ0 (own_w hw 51 rfl) (own_w hw 12 rfl) (by decide) (by decide)) (g := (mkF m 207 #[.val (.int q0), .val (.int q1), .val (.int q2), .val (.int q3), .val (.int q4), .val (.int (9 : Int32)), .val (.int z6), .val (.ref a7), .val (.int f8), .val (.ref w), .unset, .unset, .unset, .unset] [(.int (9 : Int32)), (.ref w)])) rfl (by rw [hml]; rfl) (argsL := [(.ref w), (.int (9 : Int32))]) (rest := []) (lenOf pd_3 rfl) rfl (by show 2 * 0 + _ ≤ _; exact Nat.le_of_eq rfl) (hb hby at_207) (fun _ _ => ⟨rfl, e0, (by decide : 3 + 1 ≤ _), (by decide : 50 + 9 ≤ _)⟩)
    dsimp only [Pt.U, Pt.locs, Pt.cells, Pt.slots] at X217 l217 y217 z217 st217 hQ217
    subst l217 y217 z217
    obtain ⟨x218, x219, rfl, N220, k221, f222, f223⟩ := hQ217
    have N224 := Fr.app N0 N220
    have ge225 : n0 ≤ x218 := by rw [← O0.1]; exact Nat.le_trans O0.2.1 f222
    have ne226 : w ≠ x218 := Nat.ne_of_lt (Nat.lt_of_lt_of_le (Arv.lt A_w) f222)
    have CR227 := CR0.trans (CHr.keep k221 sf0 CR0.1)
    have hk228 := Nat.le_trans hk0 k221.1
    have O229 := O0.keep k221 all0
    have S230 : ∀ t, Steps p.tables e below (T217.setTop (mkF m 212 #[.val (.int q0), .val (.int q1), .val (.int q2), .val (.int q3), .val (.int q4), .val (.int (9 : Int32)), .val (.int z6), .val (.ref a7), .val (.int f8), .val (.ref w), .val (.ref x218), .unset, .unset, .unset] [])) t → Steps p.tables e below (T0.setTop (mkF m 203 #[.val (.int q0), .val (.int q1), .val (.int q2), .val (.int q3), .val (.int q4), .val (.int (9 : Int32)), .val (.int z6), .val (.ref a7), .val (.int f8), .val (.ref w), .unset, .unset, .unset, .unset] [])) t := by
      intro t kt
      refine XS.aload X0.here hx rfl (hb hby at_203) rfl rfl ?_
      refine XS.iload X0.here hx rfl (hb hby at_205) rfl ?_
      show Steps p.tables e below (T0.setTop (mkF m 207 #[.val (.int q0), .val (.int q1), .val (.int q2), .val (.int q3), .val (.int q4), .val (.int (9 : Int32)), .val (.int z6), .val (.ref a7), .val (.int f8), .val (.ref w), .unset, .unset, .unset, .unset] [(.int (9 : Int32)), (.ref w)])) _
      refine st217 _ ?_
      refine XS.astore X217.here hx rfl (hb hby at_210) rfl rfl (l' := #[.val (.int q0), .val (.int q1), .val (.int q2), .val (.int q3), .val (.int q4), .val (.int (9 : Int32)), .val (.int z6), .val (.ref a7), .val (.int f8), .val (.ref w), .val (.ref x218), .unset, .unset, .unset]) rfl ?_
      exact kt
    have S231 : ∀ t, Steps p.tables e below (T217.setTop (mkF m 413 #[.val (.int q0), .val (.int q1), .val (.int q2), .val (.int q3), .val (.int q4), .val (.int (9 : Int32)), .val (.int z6), .val (.ref a7), .val (.int f8), .val (.ref w), .val (.ref x218), .val (.int (0 : Int32)), .val (.int (if ([c0, c1, c2, c3, c4, c5, c6, c7, c8] : List Int32) = [(45 : Int32), (105 : Int32), (110 : Int32), (102 : Int32), (105 : Int32), (110 : Int32), (105 : Int32), (116 : Int32), (121 : Int32)] then (1 : Int32) else (0 : Int32))), .unset] [(.int (if ([c0, c1, c2, c3, c4, c5, c6, c7, c8] : List Int32) = [(45 : Int32), (105 : Int32), (110 : Int32), (102 : Int32), (105 : Int32), (110 : Int32), (105 : Int32), (116 : Int32), (121 : Int32)] then (1 : Int32) else (0 : Int32)))])) t → Steps p.tables e below (T0.setTop (mkF m 203 #[.val (.int q0), .val (.int q1), .val (.int q2), .val (.int q3), .val (.int q4), .val (.int (9 : Int32)), .val (.int z6), .val (.ref a7), .val (.int f8), .val (.ref w), .unset, .unset, .unset, .unset] [])) t := by
      intro t kt
      have f232 := (Arv.keep A_w k221 nin0)
      obtain ⟨cl233, Ar233, q233, Sz233, Nn233, Hh233, Gg233⟩ := id f232
      have in233 : ¬ ((0 : Int32) < 0 ∨ cl233.slots.size ≤ ((0 : Int32)).toNatClampNeg) := by exact inb_of Sz233 ⟨by decide, by decide⟩
      have at233 : cl233.slots[((0 : Int32)).toNatClampNeg]? = some (.int c0) := by
        refine Has.at Hh233 in233 ?_
        rfl
      have S234 : ∀ t, Steps p.tables e below (T217.setTop (mkF m 313 #[.val (.int q0), .val (.int q1), .val (.int q2), .val (.int q3), .val (.int q4), .val (.int (9 : Int32)), .val (.int z6), .val (.ref a7), .val (.int f8), .val (.ref w), .val (.ref x218), .val (.int (0 : Int32)), .unset, .unset] [(.int (45 : Int32)), (.int c0)])) t → Steps p.tables e below (T0.setTop (mkF m 203 #[.val (.int q0), .val (.int q1), .val (.int q2), .val (.int q3), .val (.int q4), .val (.int (9 : Int32)), .val (.int z6), .val (.ref a7), .val (.int f8), .val (.ref w), .unset, .unset, .unset, .unset] [])) t := by
        intro t kt
        refine S230 t ?_
        refine XS.iload X217.here hx rfl (hb hby at_212) rfl ?_
        refine XS.bipush X217.here hx rfl (hb hby at_214) ?_
        refine XS.icmpYes X217.here hx rfl (pc0 := 216) (pc' := 297) rfl (hb hby at_216) rfl (feq ((by decide) : ¬ ((9 : Int32) = (8 : Int32)))).2 (by decide) (by decide) ?_
        refine XS.iconst X217.here hx rfl (hb hby at_297) ?_
        refine XS.istore X217.here hx rfl (hb hby at_298) rfl (l' := #[.val (.int q0), .val (.int q1), .val (.int q2), .val (.int q3), .val (.int q4), .val (.int (9 : Int32)), .val (.int z6), .val (.ref a7), .val (.int f8), .val (.ref w), .val (.ref x218), .val (.int (0 : Int32)), .unset, .unset]) rfl ?_
        refine XS.iload X217.here hx rfl (hb hby at_300) rfl ?_
        show Steps p.tables e below (T217.setTop (mkF m 302 #[.val (.int q0), .val (.int q1), .val (.int q2), .val (.int q3), .val (.int q4), .val (.int (9 : Int32)), .val (.int z6), .val (.ref a7), .val (.int f8), .val (.ref w), .val (.ref x218), .val (.int (0 : Int32)), .unset, .unset] [(.int (9 : Int32))])) _
        refine XS.bipush X217.here hx rfl (hb hby at_302) ?_
        refine XS.icmpNo X217.here hx rfl (hb hby at_304) rfl (teq ((by decide) : (9 : Int32) = (9 : Int32))).2 ?_
        refine XS.aload X217.here hx rfl (hb hby at_307) rfl rfl ?_
        refine XS.iconst X217.here hx rfl (hb hby at_309) ?_
        show Steps p.tables e below (T217.setTop (mkF m 310 #[.val (.int q0), .val (.int q1), .val (.int q2), .val (.int q3), .val (.int q4), .val (.int (9 : Int32)), .val (.int z6), .val (.ref a7), .val (.int f8), .val (.ref w), .val (.ref x218), .val (.int (0 : Int32)), .unset, .unset] [(.int (0 : Int32)), (.ref w)])) _
        refine X217.caload hx (j := (0 : Int32)) (v := (.int c0)) (by exact Ar233.1) (State.isArrayOf_alike hZ0.alike Ar233.2.1) Ar233.2.2 in233 at233 (g := (mkF m 310 #[.val (.int q0), .val (.int q1), .val (.int q2), .val (.int q3), .val (.int q4), .val (.int (9 : Int32)), .val (.int z6), .val (.ref a7), .val (.int f8), .val (.ref w), .val (.ref x218), .val (.int (0 : Int32)), .unset, .unset] [(.int (0 : Int32)), (.ref w)])) rfl rfl (hb hby at_310) _ ?_
        refine XS.bipush X217.here hx rfl (hb hby at_311) ?_
        exact kt
      rcases Decidable.em (c0 = (45 : Int32)) with c235 | c235
      · obtain ⟨cl236, Ar236, q236, Sz236, Nn236, Hh236, Gg236⟩ := id f232
        have in236 : ¬ ((1 : Int32) < 0 ∨ cl236.slots.size ≤ ((1 : Int32)).toNatClampNeg) := by exact inb_of Sz236 ⟨by decide, by decide⟩
        have at236 : cl236.slots[((1 : Int32)).toNatClampNeg]? = some (.int c1) := by
          refine Has.at Hh236 in236 ?_
          rfl
        have S237 : ∀ t, Steps p.tables e below (T217.setTop (mkF m 322 #[.val (.int q0), .val (.int q1), .val (.int q2), .val (.int q3), .val (.int q4), .val (.int (9 : Int32)), .val (.int z6), .val (.ref a7), .val (.int f8), .val (.ref w), .val (.ref x218), .val (.int (0 : Int32)), .unset, .unset] [(.int (105 : Int32)), (.int c1)])) t → Steps p.tables e below (T0.setTop (mkF m 203 #[.val (.int q0), .val (.int q1), .val (.int q2), .val (.int q3), .val (.int q4), .val (.int (9 : Int32)), .val (.int z6), .val (.ref a7), .val (.int f8), .val (.ref w), .unset, .unset, .unset, .unset] [])) t := by
          intro t kt
          refine S234 t ?_
          refine XS.icmpNo X217.here hx rfl (hb hby at_313) rfl (teq (c235 : c0 = (45 : Int32))).2 ?_
          refine XS.aload X217.here hx rfl (hb hby at_316) rfl rfl ?_
          refine XS.iconst X217.here hx rfl (hb hby at_318) ?_
          show Steps p.tables e below (T217.setTop (mkF m 319 #[.val (.int q0), .val (.int q1), .val (.int q2), .val (.int q3), .val (.int q4), .val (.int (9 : Int32)), .val (.int z6), .val (.ref a7), .val (.int f8), .val (.ref w), .val (.ref x218), .val (.int (0 : Int32)), .unset, .unset] [(.int (1 : Int32)), (.ref w)])) _
          refine X217.caload hx (j := (1 : Int32)) (v := (.int c1)) (by exact Ar236.1) (State.isArrayOf_alike hZ0.alike Ar236.2.1) Ar236.2.2 in236 at236 (g := (mkF m 319 #[.val (.int q0), .val (.int q1), .val (.int q2), .val (.int q3), .val (.int q4), .val (.int (9 : Int32)), .val (.int z6), .val (.ref a7), .val (.int f8), .val (.ref w), .val (.ref x218), .val (.int (0 : Int32)), .unset, .unset] [(.int (1 : Int32)), (.ref w)])) rfl rfl (hb hby at_319) _ ?_
          refine XS.bipush X217.here hx rfl (hb hby at_320) ?_
          exact kt
        rcases Decidable.em (c1 = (105 : Int32)) with c238 | c238
        · obtain ⟨cl239, Ar239, q239, Sz239, Nn239, Hh239, Gg239⟩ := id f232
          have in239 : ¬ ((2 : Int32) < 0 ∨ cl239.slots.size ≤ ((2 : Int32)).toNatClampNeg) := by exact inb_of Sz239 ⟨by decide, by decide⟩
          have at239 : cl239.slots[((2 : Int32)).toNatClampNeg]? = some (.int c2) := by
            refine Has.at Hh239 in239 ?_
            rfl
          have S240 : ∀ t, Steps p.tables e below (T217.setTop (mkF m 331 #[.val (.int q0), .val (.int q1), .val (.int q2), .val (.int q3), .val (.int q4), .val (.int (9 : Int32)), .val (.int z6), .val (.ref a7), .val (.int f8), .val (.ref w), .val (.ref x218), .val (.int (0 : Int32)), .unset, .unset] [(.int (110 : Int32)), (.int c2)])) t → Steps p.tables e below (T0.setTop (mkF m 203 #[.val (.int q0), .val (.int q1), .val (.int q2), .val (.int q3), .val (.int q4), .val (.int (9 : Int32)), .val (.int z6), .val (.ref a7), .val (.int f8), .val (.ref w), .unset, .unset, .unset, .unset] [])) t := by
            intro t kt
            refine S237 t ?_
            refine XS.icmpNo X217.here hx rfl (hb hby at_322) rfl (teq (c238 : c1 = (105 : Int32))).2 ?_
            refine XS.aload X217.here hx rfl (hb hby at_325) rfl rfl ?_
            refine XS.iconst X217.here hx rfl (hb hby at_327) ?_
            show Steps p.tables e below (T217.setTop (mkF m 328 #[.val (.int q0), .val (.int q1), .val (.int q2), .val (.int q3), .val (.int q4), .val (.int (9 : Int32)), .val (.int z6), .val (.ref a7), .val (.int f8), .val (.ref w), .val (.ref x218), .val (.int (0 : Int32)), .unset, .unset] [(.int (2 : Int32)), (.ref w)])) _
            refine X217.caload hx (j := (2 : Int32)) (v := (.int c2)) (by exact Ar239.1) (State.isArrayOf_alike hZ0.alike Ar239.2.1) Ar239.2.2 in239 at239 (g := (mkF m 328 #[.val (.int q0), .val (.int q1), .val (.int q2), .val (.int q3), .val (.int q4), .val (.int (9 : Int32)), .val (.int z6), .val (.ref a7), .val (.int f8), .val (.ref w), .val (.ref x218), .val (.int (0 : Int32)), .unset, .unset] [(.int (2 : Int32)), (.ref w)])) rfl rfl (hb hby at_328) _ ?_
            refine XS.bipush X217.here hx rfl (hb hby at_329) ?_
            exact kt
          rcases Decidable.em (c2 = (110 : Int32)) with c241 | c241
          · obtain ⟨cl242, Ar242, q242, Sz242, Nn242, Hh242, Gg242⟩ := id f232
            have in242 : ¬ ((3 : Int32) < 0 ∨ cl242.slots.size ≤ ((3 : Int32)).toNatClampNeg) := by exact inb_of Sz242 ⟨by decide, by decide⟩
            have at242 : cl242.slots[((3 : Int32)).toNatClampNeg]? = some (.int c3) := by
              refine Has.at Hh242 in242 ?_
              rfl
            have S243 : ∀ t, Steps p.tables e below (T217.setTop (mkF m 340 #[.val (.int q0), .val (.int q1), .val (.int q2), .val (.int q3), .val (.int q4), .val (.int (9 : Int32)), .val (.int z6), .val (.ref a7), .val (.int f8), .val (.ref w), .val (.ref x218), .val (.int (0 : Int32)), .unset, .unset] [(.int (102 : Int32)), (.int c3)])) t → Steps p.tables e below (T0.setTop (mkF m 203 #[.val (.int q0), .val (.int q1), .val (.int q2), .val (.int q3), .val (.int q4), .val (.int (9 : Int32)), .val (.int z6), .val (.ref a7), .val (.int f8), .val (.ref w), .unset, .unset, .unset, .unset] [])) t := by
              intro t kt
              refine S240 t ?_
              refine XS.icmpNo X217.here hx rfl (hb hby at_331) rfl (teq (c241 : c2 = (110 : Int32))).2 ?_
              refine XS.aload X217.here hx rfl (hb hby at_334) rfl rfl ?_
              refine XS.iconst X217.here hx rfl (hb hby at_336) ?_
              show Steps p.tables e below (T217.setTop (mkF m 337 #[.val (.int q0), .val (.int q1), .val (.int q2), .val (.int q3), .val (.int q4), .val (.int (9 : Int32)), .val (.int z6), .val (.ref a7), .val (.int f8), .val (.ref w), .val (.ref x218), .val (.int (0 : Int32)), .unset, .unset] [(.int (3 : Int32)), (.ref w)])) _
              refine X217.caload hx (j := (3 : Int32)) (v := (.int c3)) (by exact Ar242.1) (State.isArrayOf_alike hZ0.alike Ar242.2.1) Ar242.2.2 in242 at242 (g := (mkF m 337 #[.val (.int q0), .val (.int q1), .val (.int q2), .val (.int q3), .val (.int q4), .val (.int (9 : Int32)), .val (.int z6), .val (.ref a7), .val (.int f8), .val (.ref w), .val (.ref x218), .val (.int (0 : Int32)), .unset, .unset] [(.int (3 : Int32)), (.ref w)])) rfl rfl (hb hby at_337) _ ?_
              refine XS.bipush X217.here hx rfl (hb hby at_338) ?_
              exact kt
            rcases Decidable.em (c3 = (102 : Int32)) with c244 | c244
            · obtain ⟨cl245, Ar245, q245, Sz245, Nn245, Hh245, Gg245⟩ := id f232
              have in245 : ¬ ((4 : Int32) < 0 ∨ cl245.slots.size ≤ ((4 : Int32)).toNatClampNeg) := by exact inb_of Sz245 ⟨by decide, by decide⟩
              have at245 : cl245.slots[((4 : Int32)).toNatClampNeg]? = some (.int c4) := by
                refine Has.at Hh245 in245 ?_
                rfl
              have S246 : ∀ t, Steps p.tables e below (T217.setTop (mkF m 349 #[.val (.int q0), .val (.int q1), .val (.int q2), .val (.int q3), .val (.int q4), .val (.int (9 : Int32)), .val (.int z6), .val (.ref a7), .val (.int f8), .val (.ref w), .val (.ref x218), .val (.int (0 : Int32)), .unset, .unset] [(.int (105 : Int32)), (.int c4)])) t → Steps p.tables e below (T0.setTop (mkF m 203 #[.val (.int q0), .val (.int q1), .val (.int q2), .val (.int q3), .val (.int q4), .val (.int (9 : Int32)), .val (.int z6), .val (.ref a7), .val (.int f8), .val (.ref w), .unset, .unset, .unset, .unset] [])) t := by
                intro t kt
                refine S243 t ?_
                refine XS.icmpNo X217.here hx rfl (hb hby at_340) rfl (teq (c244 : c3 = (102 : Int32))).2 ?_
                refine XS.aload X217.here hx rfl (hb hby at_343) rfl rfl ?_
                refine XS.iconst X217.here hx rfl (hb hby at_345) ?_
                show Steps p.tables e below (T217.setTop (mkF m 346 #[.val (.int q0), .val (.int q1), .val (.int q2), .val (.int q3), .val (.int q4), .val (.int (9 : Int32)), .val (.int z6), .val (.ref a7), .val (.int f8), .val (.ref w), .val (.ref x218), .val (.int (0 : Int32)), .unset, .unset] [(.int (4 : Int32)), (.ref w)])) _
                refine X217.caload hx (j := (4 : Int32)) (v := (.int c4)) (by exact Ar245.1) (State.isArrayOf_alike hZ0.alike Ar245.2.1) Ar245.2.2 in245 at245 (g := (mkF m 346 #[.val (.int q0), .val (.int q1), .val (.int q2), .val (.int q3), .val (.int q4), .val (.int (9 : Int32)), .val (.int z6), .val (.ref a7), .val (.int f8), .val (.ref w), .val (.ref x218), .val (.int (0 : Int32)), .unset, .unset] [(.int (4 : Int32)), (.ref w)])) rfl rfl (hb hby at_346) _ ?_
                refine XS.bipush X217.here hx rfl (hb hby at_347) ?_
                exact kt
              rcases Decidable.em (c4 = (105 : Int32)) with c247 | c247
              · obtain ⟨cl248, Ar248, q248, Sz248, Nn248, Hh248, Gg248⟩ := id f232
                have in248 : ¬ ((5 : Int32) < 0 ∨ cl248.slots.size ≤ ((5 : Int32)).toNatClampNeg) := by exact inb_of Sz248 ⟨by decide, by decide⟩
                have at248 : cl248.slots[((5 : Int32)).toNatClampNeg]? = some (.int c5) := by
                  refine Has.at Hh248 in248 ?_
                  rfl
                have S249 : ∀ t, Steps p.tables e below (T217.setTop (mkF m 358 #[.val (.int q0), .val (.int q1), .val (.int q2), .val (.int q3), .val (.int q4), .val (.int (9 : Int32)), .val (.int z6), .val (.ref a7), .val (.int f8), .val (.ref w), .val (.ref x218), .val (.int (0 : Int32)), .unset, .unset] [(.int (110 : Int32)), (.int c5)])) t → Steps p.tables e below (T0.setTop (mkF m 203 #[.val (.int q0), .val (.int q1), .val (.int q2), .val (.int q3), .val (.int q4), .val (.int (9 : Int32)), .val (.int z6), .val (.ref a7), .val (.int f8), .val (.ref w), .unset, .unset, .unset, .unset] [])) t := by
                  intro t kt
                  refine S246 t ?_
                  refine XS.icmpNo X217.here hx rfl (hb hby at_349) rfl (teq (c247 : c4 = (105 : Int32))).2 ?_
                  refine XS.aload X217.here hx rfl (hb hby at_352) rfl rfl ?_
                  refine XS.iconst X217.here hx rfl (hb hby at_354) ?_
                  show Steps p.tables e below (T217.setTop (mkF m 355 #[.val (.int q0), .val (.int q1), .val (.int q2), .val (.int q3), .val (.int q4), .val (.int (9 : Int32)), .val (.int z6), .val (.ref a7), .val (.int f8), .val (.ref w), .val (.ref x218), .val (.int (0 : Int32)), .unset, .unset] [(.int (5 : Int32)), (.ref w)])) _
                  refine X217.caload hx (j := (5 : Int32)) (v := (.int c5)) (by exact Ar248.1) (State.isArrayOf_alike hZ0.alike Ar248.2.1) Ar248.2.2 in248 at248 (g := (mkF m 355 #[.val (.int q0), .val (.int q1), .val (.int q2), .val (.int q3), .val (.int q4), .val (.int (9 : Int32)), .val (.int z6), .val (.ref a7), .val (.int f8), .val (.ref w), .val (.ref x218), .val (.int (0 : Int32)), .unset, .unset] [(.int (5 : Int32)), (.ref w)])) rfl rfl (hb hby at_355) _ ?_
                  refine XS.bipush X217.here hx rfl (hb hby at_356) ?_
                  exact kt
                rcases Decidable.em (c5 = (110 : Int32)) with c250 | c250
                · obtain ⟨cl251, Ar251, q251, Sz251, Nn251, Hh251, Gg251⟩ := id f232
                  have in251 : ¬ ((6 : Int32) < 0 ∨ cl251.slots.size ≤ ((6 : Int32)).toNatClampNeg) := by exact inb_of Sz251 ⟨by decide, by decide⟩
                  have at251 : cl251.slots[((6 : Int32)).toNatClampNeg]? = some (.int c6) := by
                    refine Has.at Hh251 in251 ?_
                    rfl
                  have S252 : ∀ t, Steps p.tables e below (T217.setTop (mkF m 368 #[.val (.int q0), .val (.int q1), .val (.int q2), .val (.int q3), .val (.int q4), .val (.int (9 : Int32)), .val (.int z6), .val (.ref a7), .val (.int f8), .val (.ref w), .val (.ref x218), .val (.int (0 : Int32)), .unset, .unset] [(.int (105 : Int32)), (.int c6)])) t → Steps p.tables e below (T0.setTop (mkF m 203 #[.val (.int q0), .val (.int q1), .val (.int q2), .val (.int q3), .val (.int q4), .val (.int (9 : Int32)), .val (.int z6), .val (.ref a7), .val (.int f8), .val (.ref w), .unset, .unset, .unset, .unset] [])) t := by
                    intro t kt
                    refine S249 t ?_
                    refine XS.icmpNo X217.here hx rfl (hb hby at_358) rfl (teq (c250 : c5 = (110 : Int32))).2 ?_
                    refine XS.aload X217.here hx rfl (hb hby at_361) rfl rfl ?_
                    refine XS.bipush X217.here hx rfl (hb hby at_363) ?_
                    show Steps p.tables e below (T217.setTop (mkF m 365 #[.val (.int q0), .val (.int q1), .val (.int q2), .val (.int q3), .val (.int q4), .val (.int (9 : Int32)), .val (.int z6), .val (.ref a7), .val (.int f8), .val (.ref w), .val (.ref x218), .val (.int (0 : Int32)), .unset, .unset] [(.int (6 : Int32)), (.ref w)])) _
                    refine X217.caload hx (j := (6 : Int32)) (v := (.int c6)) (by exact Ar251.1) (State.isArrayOf_alike hZ0.alike Ar251.2.1) Ar251.2.2 in251 at251 (g := (mkF m 365 #[.val (.int q0), .val (.int q1), .val (.int q2), .val (.int q3), .val (.int q4), .val (.int (9 : Int32)), .val (.int z6), .val (.ref a7), .val (.int f8), .val (.ref w), .val (.ref x218), .val (.int (0 : Int32)), .unset, .unset] [(.int (6 : Int32)), (.ref w)])) rfl rfl (hb hby at_365) _ ?_
                    refine XS.bipush X217.here hx rfl (hb hby at_366) ?_
                    exact kt
                  rcases Decidable.em (c6 = (105 : Int32)) with c253 | c253
                  · obtain ⟨cl254, Ar254, q254, Sz254, Nn254, Hh254, Gg254⟩ := id f232
                    have in254 : ¬ ((7 : Int32) < 0 ∨ cl254.slots.size ≤ ((7 : Int32)).toNatClampNeg) := by exact inb_of Sz254 ⟨by decide, by decide⟩
                    have at254 : cl254.slots[((7 : Int32)).toNatClampNeg]? = some (.int c7) := by
                      refine Has.at Hh254 in254 ?_
                      rfl
                    have S255 : ∀ t, Steps p.tables e below (T217.setTop (mkF m 378 #[.val (.int q0), .val (.int q1), .val (.int q2), .val (.int q3), .val (.int q4), .val (.int (9 : Int32)), .val (.int z6), .val (.ref a7), .val (.int f8), .val (.ref w), .val (.ref x218), .val (.int (0 : Int32)), .unset, .unset] [(.int (116 : Int32)), (.int c7)])) t → Steps p.tables e below (T0.setTop (mkF m 203 #[.val (.int q0), .val (.int q1), .val (.int q2), .val (.int q3), .val (.int q4), .val (.int (9 : Int32)), .val (.int z6), .val (.ref a7), .val (.int f8), .val (.ref w), .unset, .unset, .unset, .unset] [])) t := by
                      intro t kt
                      refine S252 t ?_
                      refine XS.icmpNo X217.here hx rfl (hb hby at_368) rfl (teq (c253 : c6 = (105 : Int32))).2 ?_
                      refine XS.aload X217.here hx rfl (hb hby at_371) rfl rfl ?_
                      refine XS.bipush X217.here hx rfl (hb hby at_373) ?_
                      show Steps p.tables e below (T217.setTop (mkF m 375 #[.val (.int q0), .val (.int q1), .val (.int q2), .val (.int q3), .val (.int q4), .val (.int (9 : Int32)), .val (.int z6), .val (.ref a7), .val (.int f8), .val (.ref w), .val (.ref x218), .val (.int (0 : Int32)), .unset, .unset] [(.int (7 : Int32)), (.ref w)])) _
                      refine X217.caload hx (j := (7 : Int32)) (v := (.int c7)) (by exact Ar254.1) (State.isArrayOf_alike hZ0.alike Ar254.2.1) Ar254.2.2 in254 at254 (g := (mkF m 375 #[.val (.int q0), .val (.int q1), .val (.int q2), .val (.int q3), .val (.int q4), .val (.int (9 : Int32)), .val (.int z6), .val (.ref a7), .val (.int f8), .val (.ref w), .val (.ref x218), .val (.int (0 : Int32)), .unset, .unset] [(.int (7 : Int32)), (.ref w)])) rfl rfl (hb hby at_375) _ ?_
                      refine XS.bipush X217.here hx rfl (hb hby at_376) ?_
                      exact kt
                    rcases Decidable.em (c7 = (116 : Int32)) with c256 | c256
                    · obtain ⟨cl257, Ar257, q257, Sz257, Nn257, Hh257, Gg257⟩ := id f232
                      have in257 : ¬ ((8 : Int32) < 0 ∨ cl257.slots.size ≤ ((8 : Int32)).toNatClampNeg) := by exact inb_of Sz257 ⟨by decide, by decide⟩
                      have at257 : cl257.slots[((8 : Int32)).toNatClampNeg]? = some (.int c8) := by
                        refine Has.at Hh257 in257 ?_
                        rfl
                      have S258 : ∀ t, Steps p.tables e below (T217.setTop (mkF m 388 #[.val (.int q0), .val (.int q1), .val (.int q2), .val (.int q3), .val (.int q4), .val (.int (9 : Int32)), .val (.int z6), .val (.ref a7), .val (.int f8), .val (.ref w), .val (.ref x218), .val (.int (0 : Int32)), .unset, .unset] [(.int (121 : Int32)), (.int c8)])) t → Steps p.tables e below (T0.setTop (mkF m 203 #[.val (.int q0), .val (.int q1), .val (.int q2), .val (.int q3), .val (.int q4), .val (.int (9 : Int32)), .val (.int z6), .val (.ref a7), .val (.int f8), .val (.ref w), .unset, .unset, .unset, .unset] [])) t := by
                        intro t kt
                        refine S255 t ?_
                        refine XS.icmpNo X217.here hx rfl (hb hby at_378) rfl (teq (c256 : c7 = (116 : Int32))).2 ?_
                        refine XS.aload X217.here hx rfl (hb hby at_381) rfl rfl ?_
                        refine XS.bipush X217.here hx rfl (hb hby at_383) ?_
                        show Steps p.tables e below (T217.setTop (mkF m 385 #[.val (.int q0), .val (.int q1), .val (.int q2), .val (.int q3), .val (.int q4), .val (.int (9 : Int32)), .val (.int z6), .val (.ref a7), .val (.int f8), .val (.ref w), .val (.ref x218), .val (.int (0 : Int32)), .unset, .unset] [(.int (8 : Int32)), (.ref w)])) _
                        refine X217.caload hx (j := (8 : Int32)) (v := (.int c8)) (by exact Ar257.1) (State.isArrayOf_alike hZ0.alike Ar257.2.1) Ar257.2.2 in257 at257 (g := (mkF m 385 #[.val (.int q0), .val (.int q1), .val (.int q2), .val (.int q3), .val (.int q4), .val (.int (9 : Int32)), .val (.int z6), .val (.ref a7), .val (.int f8), .val (.ref w), .val (.ref x218), .val (.int (0 : Int32)), .unset, .unset] [(.int (8 : Int32)), (.ref w)])) rfl rfl (hb hby at_385) _ ?_
                        refine XS.bipush X217.here hx rfl (hb hby at_386) ?_
                        exact kt
                      rcases Decidable.em (c8 = (121 : Int32)) with c259 | c259
                      · have S260 : ∀ t, Steps p.tables e below (T217.setTop (mkF m 413 #[.val (.int q0), .val (.int q1), .val (.int q2), .val (.int q3), .val (.int q4), .val (.int (9 : Int32)), .val (.int z6), .val (.ref a7), .val (.int f8), .val (.ref w), .val (.ref x218), .val (.int (0 : Int32)), .val (.int (1 : Int32)), .unset] [(.int (1 : Int32))])) t → Steps p.tables e below (T0.setTop (mkF m 203 #[.val (.int q0), .val (.int q1), .val (.int q2), .val (.int q3), .val (.int q4), .val (.int (9 : Int32)), .val (.int z6), .val (.ref a7), .val (.int f8), .val (.ref w), .unset, .unset, .unset, .unset] [])) t := by
                          intro t kt
                          refine S258 t ?_
                          refine XS.icmpNo X217.here hx rfl (hb hby at_388) rfl (teq (c259 : c8 = (121 : Int32))).2 ?_
                          refine XS.iconst X217.here hx rfl (hb hby at_391) ?_
                          refine XS.goto X217.here hx rfl (pc0 := 392) (pc' := 396) rfl (hb hby at_392) (by decide) (by decide) ?_
                          refine XS.istore X217.here hx rfl (hb hby at_396) rfl (l' := #[.val (.int q0), .val (.int q1), .val (.int q2), .val (.int q3), .val (.int q4), .val (.int (9 : Int32)), .val (.int z6), .val (.ref a7), .val (.int f8), .val (.ref w), .val (.ref x218), .val (.int (0 : Int32)), .val (.int (1 : Int32)), .unset]) rfl ?_
                          refine XS.iload X217.here hx rfl (hb hby at_398) rfl ?_
                          refine XS.ifNo X217.here hx rfl (hb hby at_400) rfl ((if0 _ _).trans (teq ((by decide) : (0 : Int32) = (0 : Int32))).2) ?_
                          show Steps p.tables e below (T217.setTop (mkF m 403 #[.val (.int q0), .val (.int q1), .val (.int q2), .val (.int q3), .val (.int q4), .val (.int (9 : Int32)), .val (.int z6), .val (.ref a7), .val (.int f8), .val (.ref w), .val (.ref x218), .val (.int (0 : Int32)), .val (.int (1 : Int32)), .unset] [])) _
                          refine XS.iload X217.here hx rfl (hb hby at_403) rfl ?_
                          refine XS.ifNo X217.here hx rfl (hb hby at_405) rfl ((if0 _ _).trans (feq ((by decide) : ¬ ((1 : Int32) = (0 : Int32)))).1) ?_
                          refine XS.iconst X217.here hx rfl (hb hby at_408) ?_
                          refine XS.goto X217.here hx rfl (pc0 := 409) (pc' := 413) rfl (hb hby at_409) (by decide) (by decide) ?_
                          exact kt
                        rw [if_pos (by rw [(c235 : c0 = (45 : Int32)), (c238 : c1 = (105 : Int32)), (c241 : c2 = (110 : Int32)), (c244 : c3 = (102 : Int32)), (c247 : c4 = (105 : Int32)), (c250 : c5 = (110 : Int32)), (c253 : c6 = (105 : Int32)), (c256 : c7 = (116 : Int32)), (c259 : c8 = (121 : Int32))])] at kt
                        exact S260 t kt
                      · have S261 : ∀ t, Steps p.tables e below (T217.setTop (mkF m 413 #[.val (.int q0), .val (.int q1), .val (.int q2), .val (.int q3), .val (.int q4), .val (.int (9 : Int32)), .val (.int z6), .val (.ref a7), .val (.int f8), .val (.ref w), .val (.ref x218), .val (.int (0 : Int32)), .val (.int (0 : Int32)), .unset] [(.int (0 : Int32))])) t → Steps p.tables e below (T0.setTop (mkF m 203 #[.val (.int q0), .val (.int q1), .val (.int q2), .val (.int q3), .val (.int q4), .val (.int (9 : Int32)), .val (.int z6), .val (.ref a7), .val (.int f8), .val (.ref w), .unset, .unset, .unset, .unset] [])) t := by
                          intro t kt
                          refine S258 t ?_
                          refine XS.icmpYes X217.here hx rfl (pc0 := 388) (pc' := 395) rfl (hb hby at_388) rfl (feq (c259 : ¬ (c8 = (121 : Int32)))).2 (by decide) (by decide) ?_
                          refine XS.iconst X217.here hx rfl (hb hby at_395) ?_
                          refine XS.istore X217.here hx rfl (hb hby at_396) rfl (l' := #[.val (.int q0), .val (.int q1), .val (.int q2), .val (.int q3), .val (.int q4), .val (.int (9 : Int32)), .val (.int z6), .val (.ref a7), .val (.int f8), .val (.ref w), .val (.ref x218), .val (.int (0 : Int32)), .val (.int (0 : Int32)), .unset]) rfl ?_
                          refine XS.iload X217.here hx rfl (hb hby at_398) rfl ?_
                          refine XS.ifNo X217.here hx rfl (hb hby at_400) rfl ((if0 _ _).trans (teq ((by decide) : (0 : Int32) = (0 : Int32))).2) ?_
                          refine XS.iload X217.here hx rfl (hb hby at_403) rfl ?_
                          show Steps p.tables e below (T217.setTop (mkF m 405 #[.val (.int q0), .val (.int q1), .val (.int q2), .val (.int q3), .val (.int q4), .val (.int (9 : Int32)), .val (.int z6), .val (.ref a7), .val (.int f8), .val (.ref w), .val (.ref x218), .val (.int (0 : Int32)), .val (.int (0 : Int32)), .unset] [(.int (0 : Int32))])) _
                          refine XS.ifYes X217.here hx rfl (pc0 := 405) (pc' := 412) rfl (hb hby at_405) rfl ((if0 _ _).trans (teq ((by decide) : (0 : Int32) = (0 : Int32))).1) (by decide) (by decide) ?_
                          refine XS.iconst X217.here hx rfl (hb hby at_412) ?_
                          exact kt
                        rw [if_neg (fun q => (c259 : ¬ (c8 = (121 : Int32))) (congrArg (fun l => l.getD 8 0) q))] at kt
                        exact S261 t kt
                    · have S262 : ∀ t, Steps p.tables e below (T217.setTop (mkF m 413 #[.val (.int q0), .val (.int q1), .val (.int q2), .val (.int q3), .val (.int q4), .val (.int (9 : Int32)), .val (.int z6), .val (.ref a7), .val (.int f8), .val (.ref w), .val (.ref x218), .val (.int (0 : Int32)), .val (.int (0 : Int32)), .unset] [(.int (0 : Int32))])) t → Steps p.tables e below (T0.setTop (mkF m 203 #[.val (.int q0), .val (.int q1), .val (.int q2), .val (.int q3), .val (.int q4), .val (.int (9 : Int32)), .val (.int z6), .val (.ref a7), .val (.int f8), .val (.ref w), .unset, .unset, .unset, .unset] [])) t := by
                        intro t kt
                        refine S255 t ?_
                        refine XS.icmpYes X217.here hx rfl (pc0 := 378) (pc' := 395) rfl (hb hby at_378) rfl (feq (c256 : ¬ (c7 = (116 : Int32)))).2 (by decide) (by decide) ?_
                        refine XS.iconst X217.here hx rfl (hb hby at_395) ?_
                        refine XS.istore X217.here hx rfl (hb hby at_396) rfl (l' := #[.val (.int q0), .val (.int q1), .val (.int q2), .val (.int q3), .val (.int q4), .val (.int (9 : Int32)), .val (.int z6), .val (.ref a7), .val (.int f8), .val (.ref w), .val (.ref x218), .val (.int (0 : Int32)), .val (.int (0 : Int32)), .unset]) rfl ?_
                        refine XS.iload X217.here hx rfl (hb hby at_398) rfl ?_
                        refine XS.ifNo X217.here hx rfl (hb hby at_400) rfl ((if0 _ _).trans (teq ((by decide) : (0 : Int32) = (0 : Int32))).2) ?_
                        refine XS.iload X217.here hx rfl (hb hby at_403) rfl ?_
                        show Steps p.tables e below (T217.setTop (mkF m 405 #[.val (.int q0), .val (.int q1), .val (.int q2), .val (.int q3), .val (.int q4), .val (.int (9 : Int32)), .val (.int z6), .val (.ref a7), .val (.int f8), .val (.ref w), .val (.ref x218), .val (.int (0 : Int32)), .val (.int (0 : Int32)), .unset] [(.int (0 : Int32))])) _
                        refine XS.ifYes X217.here hx rfl (pc0 := 405) (pc' := 412) rfl (hb hby at_405) rfl ((if0 _ _).trans (teq ((by decide) : (0 : Int32) = (0 : Int32))).1) (by decide) (by decide) ?_
                        refine XS.iconst X217.here hx rfl (hb hby at_412) ?_
                        exact kt
                      rw [if_neg (fun q => (c256 : ¬ (c7 = (116 : Int32))) (congrArg (fun l => l.getD 7 0) q))] at kt
                      exact S262 t kt
                  · have S263 : ∀ t, Steps p.tables e below (T217.setTop (mkF m 413 #[.val (.int q0), .val (.int q1), .val (.int q2), .val (.int q3), .val (.int q4), .val (.int (9 : Int32)), .val (.int z6), .val (.ref a7), .val (.int f8), .val (.ref w), .val (.ref x218), .val (.int (0 : Int32)), .val (.int (0 : Int32)), .unset] [(.int (0 : Int32))])) t → Steps p.tables e below (T0.setTop (mkF m 203 #[.val (.int q0), .val (.int q1), .val (.int q2), .val (.int q3), .val (.int q4), .val (.int (9 : Int32)), .val (.int z6), .val (.ref a7), .val (.int f8), .val (.ref w), .unset, .unset, .unset, .unset] [])) t := by
                      intro t kt
                      refine S252 t ?_
                      refine XS.icmpYes X217.here hx rfl (pc0 := 368) (pc' := 395) rfl (hb hby at_368) rfl (feq (c253 : ¬ (c6 = (105 : Int32)))).2 (by decide) (by decide) ?_
                      refine XS.iconst X217.here hx rfl (hb hby at_395) ?_
                      refine XS.istore X217.here hx rfl (hb hby at_396) rfl (l' := #[.val (.int q0), .val (.int q1), .val (.int q2), .val (.int q3), .val (.int q4), .val (.int (9 : Int32)), .val (.int z6), .val (.ref a7), .val (.int f8), .val (.ref w), .val (.ref x218), .val (.int (0 : Int32)), .val (.int (0 : Int32)), .unset]) rfl ?_
                      refine XS.iload X217.here hx rfl (hb hby at_398) rfl ?_
                      refine XS.ifNo X217.here hx rfl (hb hby at_400) rfl ((if0 _ _).trans (teq ((by decide) : (0 : Int32) = (0 : Int32))).2) ?_
                      refine XS.iload X217.here hx rfl (hb hby at_403) rfl ?_
                      show Steps p.tables e below (T217.setTop (mkF m 405 #[.val (.int q0), .val (.int q1), .val (.int q2), .val (.int q3), .val (.int q4), .val (.int (9 : Int32)), .val (.int z6), .val (.ref a7), .val (.int f8), .val (.ref w), .val (.ref x218), .val (.int (0 : Int32)), .val (.int (0 : Int32)), .unset] [(.int (0 : Int32))])) _
                      refine XS.ifYes X217.here hx rfl (pc0 := 405) (pc' := 412) rfl (hb hby at_405) rfl ((if0 _ _).trans (teq ((by decide) : (0 : Int32) = (0 : Int32))).1) (by decide) (by decide) ?_
                      refine XS.iconst X217.here hx rfl (hb hby at_412) ?_
                      exact kt
                    rw [if_neg (fun q => (c253 : ¬ (c6 = (105 : Int32))) (congrArg (fun l => l.getD 6 0) q))] at kt
                    exact S263 t kt
                · have S264 : ∀ t, Steps p.tables e below (T217.setTop (mkF m 413 #[.val (.int q0), .val (.int q1), .val (.int q2), .val (.int q3), .val (.int q4), .val (.int (9 : Int32)), .val (.int z6), .val (.ref a7), .val (.int f8), .val (.ref w), .val (.ref x218), .val (.int (0 : Int32)), .val (.int (0 : Int32)), .unset] [(.int (0 : Int32))])) t → Steps p.tables e below (T0.setTop (mkF m 203 #[.val (.int q0), .val (.int q1), .val (.int q2), .val (.int q3), .val (.int q4), .val (.int (9 : Int32)), .val (.int z6), .val (.ref a7), .val (.int f8), .val (.ref w), .unset, .unset, .unset, .unset] [])) t := by
                    intro t kt
                    refine S249 t ?_
                    refine XS.icmpYes X217.here hx rfl (pc0 := 358) (pc' := 395) rfl (hb hby at_358) rfl (feq (c250 : ¬ (c5 = (110 : Int32)))).2 (by decide) (by decide) ?_
                    refine XS.iconst X217.here hx rfl (hb hby at_395) ?_
                    refine XS.istore X217.here hx rfl (hb hby at_396) rfl (l' := #[.val (.int q0), .val (.int q1), .val (.int q2), .val (.int q3), .val (.int q4), .val (.int (9 : Int32)), .val (.int z6), .val (.ref a7), .val (.int f8), .val (.ref w), .val (.ref x218), .val (.int (0 : Int32)), .val (.int (0 : Int32)), .unset]) rfl ?_
                    refine XS.iload X217.here hx rfl (hb hby at_398) rfl ?_
                    refine XS.ifNo X217.here hx rfl (hb hby at_400) rfl ((if0 _ _).trans (teq ((by decide) : (0 : Int32) = (0 : Int32))).2) ?_
                    refine XS.iload X217.here hx rfl (hb hby at_403) rfl ?_
                    show Steps p.tables e below (T217.setTop (mkF m 405 #[.val (.int q0), .val (.int q1), .val (.int q2), .val (.int q3), .val (.int q4), .val (.int (9 : Int32)), .val (.int z6), .val (.ref a7), .val (.int f8), .val (.ref w), .val (.ref x218), .val (.int (0 : Int32)), .val (.int (0 : Int32)), .unset] [(.int (0 : Int32))])) _
                    refine XS.ifYes X217.here hx rfl (pc0 := 405) (pc' := 412) rfl (hb hby at_405) rfl ((if0 _ _).trans (teq ((by decide) : (0 : Int32) = (0 : Int32))).1) (by decide) (by decide) ?_
                    refine XS.iconst X217.here hx rfl (hb hby at_412) ?_
                    exact kt
                  rw [if_neg (fun q => (c250 : ¬ (c5 = (110 : Int32))) (congrArg (fun l => l.getD 5 0) q))] at kt
                  exact S264 t kt
              · have S265 : ∀ t, Steps p.tables e below (T217.setTop (mkF m 413 #[.val (.int q0), .val (.int q1), .val (.int q2), .val (.int q3), .val (.int q4), .val (.int (9 : Int32)), .val (.int z6), .val (.ref a7), .val (.int f8), .val (.ref w), .val (.ref x218), .val (.int (0 : Int32)), .val (.int (0 : Int32)), .unset] [(.int (0 : Int32))])) t → Steps p.tables e below (T0.setTop (mkF m 203 #[.val (.int q0), .val (.int q1), .val (.int q2), .val (.int q3), .val (.int q4), .val (.int (9 : Int32)), .val (.int z6), .val (.ref a7), .val (.int f8), .val (.ref w), .unset, .unset, .unset, .unset] [])) t := by
                  intro t kt
                  refine S246 t ?_
                  refine XS.icmpYes X217.here hx rfl (pc0 := 349) (pc' := 395) rfl (hb hby at_349) rfl (feq (c247 : ¬ (c4 = (105 : Int32)))).2 (by decide) (by decide) ?_
                  refine XS.iconst X217.here hx rfl (hb hby at_395) ?_
                  refine XS.istore X217.here hx rfl (hb hby at_396) rfl (l' := #[.val (.int q0), .val (.int q1), .val (.int q2), .val (.int q3), .val (.int q4), .val (.int (9 : Int32)), .val (.int z6), .val (.ref a7), .val (.int f8), .val (.ref w), .val (.ref x218), .val (.int (0 : Int32)), .val (.int (0 : Int32)), .unset]) rfl ?_
                  refine XS.iload X217.here hx rfl (hb hby at_398) rfl ?_
                  refine XS.ifNo X217.here hx rfl (hb hby at_400) rfl ((if0 _ _).trans (teq ((by decide) : (0 : Int32) = (0 : Int32))).2) ?_
                  refine XS.iload X217.here hx rfl (hb hby at_403) rfl ?_
                  show Steps p.tables e below (T217.setTop (mkF m 405 #[.val (.int q0), .val (.int q1), .val (.int q2), .val (.int q3), .val (.int q4), .val (.int (9 : Int32)), .val (.int z6), .val (.ref a7), .val (.int f8), .val (.ref w), .val (.ref x218), .val (.int (0 : Int32)), .val (.int (0 : Int32)), .unset] [(.int (0 : Int32))])) _
                  refine XS.ifYes X217.here hx rfl (pc0 := 405) (pc' := 412) rfl (hb hby at_405) rfl ((if0 _ _).trans (teq ((by decide) : (0 : Int32) = (0 : Int32))).1) (by decide) (by decide) ?_
                  refine XS.iconst X217.here hx rfl (hb hby at_412) ?_
                  exact kt
                rw [if_neg (fun q => (c247 : ¬ (c4 = (105 : Int32))) (congrArg (fun l => l.getD 4 0) q))] at kt
                exact S265 t kt
            · have S266 : ∀ t, Steps p.tables e below (T217.setTop (mkF m 413 #[.val (.int q0), .val (.int q1), .val (.int q2), .val (.int q3), .val (.int q4), .val (.int (9 : Int32)), .val (.int z6), .val (.ref a7), .val (.int f8), .val (.ref w), .val (.ref x218), .val (.int (0 : Int32)), .val (.int (0 : Int32)), .unset] [(.int (0 : Int32))])) t → Steps p.tables e below (T0.setTop (mkF m 203 #[.val (.int q0), .val (.int q1), .val (.int q2), .val (.int q3), .val (.int q4), .val (.int (9 : Int32)), .val (.int z6), .val (.ref a7), .val (.int f8), .val (.ref w), .unset, .unset, .unset, .unset] [])) t := by
                intro t kt
                refine S243 t ?_
                refine XS.icmpYes X217.here hx rfl (pc0 := 340) (pc' := 395) rfl (hb hby at_340) rfl (feq (c244 : ¬ (c3 = (102 : Int32)))).2 (by decide) (by decide) ?_
                refine XS.iconst X217.here hx rfl (hb hby at_395) ?_
                refine XS.istore X217.here hx rfl (hb hby at_396) rfl (l' := #[.val (.int q0), .val (.int q1), .val (.int q2), .val (.int q3), .val (.int q4), .val (.int (9 : Int32)), .val (.int z6), .val (.ref a7), .val (.int f8), .val (.ref w), .val (.ref x218), .val (.int (0 : Int32)), .val (.int (0 : Int32)), .unset]) rfl ?_
                refine XS.iload X217.here hx rfl (hb hby at_398) rfl ?_
                refine XS.ifNo X217.here hx rfl (hb hby at_400) rfl ((if0 _ _).trans (teq ((by decide) : (0 : Int32) = (0 : Int32))).2) ?_
                refine XS.iload X217.here hx rfl (hb hby at_403) rfl ?_
                show Steps p.tables e below (T217.setTop (mkF m 405 #[.val (.int q0), .val (.int q1), .val (.int q2), .val (.int q3), .val (.int q4), .val (.int (9 : Int32)), .val (.int z6), .val (.ref a7), .val (.int f8), .val (.ref w), .val (.ref x218), .val (.int (0 : Int32)), .val (.int (0 : Int32)), .unset] [(.int (0 : Int32))])) _
                refine XS.ifYes X217.here hx rfl (pc0 := 405) (pc' := 412) rfl (hb hby at_405) rfl ((if0 _ _).trans (teq ((by decide) : (0 : Int32) = (0 : Int32))).1) (by decide) (by decide) ?_
                refine XS.iconst X217.here hx rfl (hb hby at_412) ?_
                exact kt
              rw [if_neg (fun q => (c244 : ¬ (c3 = (102 : Int32))) (congrArg (fun l => l.getD 3 0) q))] at kt
              exact S266 t kt
          · have S267 : ∀ t, Steps p.tables e below (T217.setTop (mkF m 413 #[.val (.int q0), .val (.int q1), .val (.int q2), .val (.int q3), .val (.int q4), .val (.int (9 : Int32)), .val (.int z6), .val (.ref a7), .val (.int f8), .val (.ref w), .val (.ref x218), .val (.int (0 : Int32)), .val (.int (0 : Int32)), .unset] [(.int (0 : Int32))])) t → Steps p.tables e below (T0.setTop (mkF m 203 #[.val (.int q0), .val (.int q1), .val (.int q2), .val (.int q3), .val (.int q4), .val (.int (9 : Int32)), .val (.int z6), .val (.ref a7), .val (.int f8), .val (.ref w), .unset, .unset, .unset, .unset] [])) t := by
              intro t kt
              refine S240 t ?_
              refine XS.icmpYes X217.here hx rfl (pc0 := 331) (pc' := 395) rfl (hb hby at_331) rfl (feq (c241 : ¬ (c2 = (110 : Int32)))).2 (by decide) (by decide) ?_
              refine XS.iconst X217.here hx rfl (hb hby at_395) ?_
              refine XS.istore X217.here hx rfl (hb hby at_396) rfl (l' := #[.val (.int q0), .val (.int q1), .val (.int q2), .val (.int q3), .val (.int q4), .val (.int (9 : Int32)), .val (.int z6), .val (.ref a7), .val (.int f8), .val (.ref w), .val (.ref x218), .val (.int (0 : Int32)), .val (.int (0 : Int32)), .unset]) rfl ?_
              refine XS.iload X217.here hx rfl (hb hby at_398) rfl ?_
              refine XS.ifNo X217.here hx rfl (hb hby at_400) rfl ((if0 _ _).trans (teq ((by decide) : (0 : Int32) = (0 : Int32))).2) ?_
              refine XS.iload X217.here hx rfl (hb hby at_403) rfl ?_
              show Steps p.tables e below (T217.setTop (mkF m 405 #[.val (.int q0), .val (.int q1), .val (.int q2), .val (.int q3), .val (.int q4), .val (.int (9 : Int32)), .val (.int z6), .val (.ref a7), .val (.int f8), .val (.ref w), .val (.ref x218), .val (.int (0 : Int32)), .val (.int (0 : Int32)), .unset] [(.int (0 : Int32))])) _
              refine XS.ifYes X217.here hx rfl (pc0 := 405) (pc' := 412) rfl (hb hby at_405) rfl ((if0 _ _).trans (teq ((by decide) : (0 : Int32) = (0 : Int32))).1) (by decide) (by decide) ?_
              refine XS.iconst X217.here hx rfl (hb hby at_412) ?_
              exact kt
            rw [if_neg (fun q => (c241 : ¬ (c2 = (110 : Int32))) (congrArg (fun l => l.getD 2 0) q))] at kt
            exact S267 t kt
        · have S268 : ∀ t, Steps p.tables e below (T217.setTop (mkF m 413 #[.val (.int q0), .val (.int q1), .val (.int q2), .val (.int q3), .val (.int q4), .val (.int (9 : Int32)), .val (.int z6), .val (.ref a7), .val (.int f8), .val (.ref w), .val (.ref x218), .val (.int (0 : Int32)), .val (.int (0 : Int32)), .unset] [(.int (0 : Int32))])) t → Steps p.tables e below (T0.setTop (mkF m 203 #[.val (.int q0), .val (.int q1), .val (.int q2), .val (.int q3), .val (.int q4), .val (.int (9 : Int32)), .val (.int z6), .val (.ref a7), .val (.int f8), .val (.ref w), .unset, .unset, .unset, .unset] [])) t := by
            intro t kt
            refine S237 t ?_
            refine XS.icmpYes X217.here hx rfl (pc0 := 322) (pc' := 395) rfl (hb hby at_322) rfl (feq (c238 : ¬ (c1 = (105 : Int32)))).2 (by decide) (by decide) ?_
            refine XS.iconst X217.here hx rfl (hb hby at_395) ?_
            refine XS.istore X217.here hx rfl (hb hby at_396) rfl (l' := #[.val (.int q0), .val (.int q1), .val (.int q2), .val (.int q3), .val (.int q4), .val (.int (9 : Int32)), .val (.int z6), .val (.ref a7), .val (.int f8), .val (.ref w), .val (.ref x218), .val (.int (0 : Int32)), .val (.int (0 : Int32)), .unset]) rfl ?_
            refine XS.iload X217.here hx rfl (hb hby at_398) rfl ?_
            refine XS.ifNo X217.here hx rfl (hb hby at_400) rfl ((if0 _ _).trans (teq ((by decide) : (0 : Int32) = (0 : Int32))).2) ?_
            refine XS.iload X217.here hx rfl (hb hby at_403) rfl ?_
            show Steps p.tables e below (T217.setTop (mkF m 405 #[.val (.int q0), .val (.int q1), .val (.int q2), .val (.int q3), .val (.int q4), .val (.int (9 : Int32)), .val (.int z6), .val (.ref a7), .val (.int f8), .val (.ref w), .val (.ref x218), .val (.int (0 : Int32)), .val (.int (0 : Int32)), .unset] [(.int (0 : Int32))])) _
            refine XS.ifYes X217.here hx rfl (pc0 := 405) (pc' := 412) rfl (hb hby at_405) rfl ((if0 _ _).trans (teq ((by decide) : (0 : Int32) = (0 : Int32))).1) (by decide) (by decide) ?_
            refine XS.iconst X217.here hx rfl (hb hby at_412) ?_
            exact kt
          rw [if_neg (fun q => (c238 : ¬ (c1 = (105 : Int32))) (congrArg (fun l => l.getD 1 0) q))] at kt
          exact S268 t kt
      · have S269 : ∀ t, Steps p.tables e below (T217.setTop (mkF m 413 #[.val (.int q0), .val (.int q1), .val (.int q2), .val (.int q3), .val (.int q4), .val (.int (9 : Int32)), .val (.int z6), .val (.ref a7), .val (.int f8), .val (.ref w), .val (.ref x218), .val (.int (0 : Int32)), .val (.int (0 : Int32)), .unset] [(.int (0 : Int32))])) t → Steps p.tables e below (T0.setTop (mkF m 203 #[.val (.int q0), .val (.int q1), .val (.int q2), .val (.int q3), .val (.int q4), .val (.int (9 : Int32)), .val (.int z6), .val (.ref a7), .val (.int f8), .val (.ref w), .unset, .unset, .unset, .unset] [])) t := by
          intro t kt
          refine S234 t ?_
          refine XS.icmpYes X217.here hx rfl (pc0 := 313) (pc' := 395) rfl (hb hby at_313) rfl (feq (c235 : ¬ (c0 = (45 : Int32)))).2 (by decide) (by decide) ?_
          refine XS.iconst X217.here hx rfl (hb hby at_395) ?_
          refine XS.istore X217.here hx rfl (hb hby at_396) rfl (l' := #[.val (.int q0), .val (.int q1), .val (.int q2), .val (.int q3), .val (.int q4), .val (.int (9 : Int32)), .val (.int z6), .val (.ref a7), .val (.int f8), .val (.ref w), .val (.ref x218), .val (.int (0 : Int32)), .val (.int (0 : Int32)), .unset]) rfl ?_
          refine XS.iload X217.here hx rfl (hb hby at_398) rfl ?_
          refine XS.ifNo X217.here hx rfl (hb hby at_400) rfl ((if0 _ _).trans (teq ((by decide) : (0 : Int32) = (0 : Int32))).2) ?_
          refine XS.iload X217.here hx rfl (hb hby at_403) rfl ?_
          show Steps p.tables e below (T217.setTop (mkF m 405 #[.val (.int q0), .val (.int q1), .val (.int q2), .val (.int q3), .val (.int q4), .val (.int (9 : Int32)), .val (.int z6), .val (.ref a7), .val (.int f8), .val (.ref w), .val (.ref x218), .val (.int (0 : Int32)), .val (.int (0 : Int32)), .unset] [(.int (0 : Int32))])) _
          refine XS.ifYes X217.here hx rfl (pc0 := 405) (pc' := 412) rfl (hb hby at_405) rfl ((if0 _ _).trans (teq ((by decide) : (0 : Int32) = (0 : Int32))).1) (by decide) (by decide) ?_
          refine XS.iconst X217.here hx rfl (hb hby at_412) ?_
          exact kt
        rw [if_neg (fun q => (c235 : ¬ (c0 = (45 : Int32))) (congrArg (fun l => l.getD 0 0) q))] at kt
        exact S269 t kt
    obtain ⟨T270, h270, X270, e270, E270, A270, D270, -, st270⟩ := newO X217 hx hZ0 ho0 (own_w hw 52 rfl) (own_w hw 3 rfl) (own_w hw 2 rfl) rfl (g := (mkF m 415 #[.val (.int q0), .val (.int q1), .val (.int q2), .val (.int q3), .val (.int q4), .val (.int (9 : Int32)), .val (.int z6), .val (.ref a7), .val (.int f8), .val (.ref w), .val (.ref x218), .val (.int (0 : Int32)), .val (.int (if ([c0, c1, c2, c3, c4, c5, c6, c7, c8] : List Int32) = [(45 : Int32), (105 : Int32), (110 : Int32), (102 : Int32), (105 : Int32), (110 : Int32), (105 : Int32), (116 : Int32), (121 : Int32)] then (1 : Int32) else (0 : Int32))), .val (.int (if ([c0, c1, c2, c3, c4, c5, c6, c7, c8] : List Int32) = [(45 : Int32), (105 : Int32), (110 : Int32), (102 : Int32), (105 : Int32), (110 : Int32), (105 : Int32), (116 : Int32), (121 : Int32)] then (1 : Int32) else (0 : Int32)))] [])) rfl (hb hby at_415) (by decide) (by decide)
    obtain ⟨b270, g270⟩ : ∃ z, z = T217.heap.size := ⟨_, rfl⟩
    have ge_b270 : n0 ≤ b270 := by rw [g270, ← O229.1]; exact O229.2.1
    have f271 := (Arv.keep A_w k221 nin0)
    have ne272 : w ≠ b270 := Nat.ne_of_lt (Nat.lt_of_lt_of_le (Arv.lt f271) (Nat.le_of_eq g270.symm))
    have ne273 : x218 ≠ b270 := Nat.ne_of_lt (Nat.lt_of_lt_of_le (Arv.lt f223) (Nat.le_of_eq g270.symm))
    have sf274 : Safe Z own_EL vm0 T217.heap b270 := Safe.new (Nat.le_of_eq g270.symm)
    rw [← g270] at A270 D270 st270
    have CR275 := CR227.trans (CHr.ext E270 CR227.1)
    have hk276 := Nat.le_trans hk228 E270.1
    have sf277 := Safe.ext E270 CR227.1 sf274
    have O278 := O229.ext E270
    have F279 : Fld Z h270 b270 "java/lang/String" "value" "[B" .null := D270 (Or.inr (own_w hw 5 rfl)) (ty := (.array .byte)) (by decide)
    have F280 : Fld Z h270 b270 "java/lang/String" "coder" "B" (.int (0 : Int32)) := D270 (Or.inr (own_w hw 6 rfl)) (ty := .byte) (by decide)
    have f282 := (Arv.ext f223 E270)
    have la283 : ∀ c ∈ ([c0, c1, c2, c3, c4, c5, c6, c7, c8] : List Int32), ¬ c < 0 ∧ ¬ (255 : Int32) < c := by
      intro c hc
      simp only [List.mem_cons, List.not_mem_nil, or_false] at hc
      rcases hc with rfl | rfl | rfl | rfl | rfl | rfl | rfl | rfl | rfl
      · exact la_c0
      · exact la_c1
      · exact la_c2
      · exact la_c3
      · exact la_c4
      · exact la_c5
      · exact la_c6
      · exact la_c7
      · exact la_c8
    obtain ⟨_, _, ⟨T281, L281, k281, n281⟩, -, X281, ⟨Lc281, hQ281, l281, y281, z281⟩, st281⟩ := X270.specialBack hx (y := (⟨"java/lang/String", "<init>", "([C)V"⟩ : MethodName)) rfl ho0 (mvT hZ0 (own_w hw 53 rfl)) (mvT hZ0 (own_w hw 54 rfl)) (mvT hZ0 (own_w hw 55 rfl)) (by decide) (StrChars.Road.backV (W := 1) hZ0 hws (kI := 4) (own_w hw 3 rfl) (cs := [c0, c1, c2, c3, c4, c5, c6, c7, c8]) (bs := [c0.toInt8.toInt32, c1.toInt8.toInt32, c2.toInt8.toInt32, c3.toInt8.toInt32, c4.toInt8.toInt32, c5.toInt8.toInt32, c6.toInt8.toInt32, c7.toInt8.toInt32, c8.toInt8.toInt32]) (n := 9) ge_b270 (by rw [← O278.1]; exact O278.2.1) A270 F279 F280 f282 (S_C.ext O278.2) hzc rfl rfl (by decide) (by decide) la283 rfl (by decide) (by decide)) (g := (mkF m 421 #[.val (.int q0), .val (.int q1), .val (.int q2), .val (.int q3), .val (.int q4), .val (.int (9 : Int32)), .val (.int z6), .val (.ref a7), .val (.int f8), .val (.ref w), .val (.ref x218), .val (.int (0 : Int32)), .val (.int (if ([c0, c1, c2, c3, c4, c5, c6, c7, c8] : List Int32) = [(45 : Int32), (105 : Int32), (110 : Int32), (102 : Int32), (105 : Int32), (110 : Int32), (105 : Int32), (116 : Int32), (121 : Int32)] then (1 : Int32) else (0 : Int32))), .val (.int (if ([c0, c1, c2, c3, c4, c5, c6, c7, c8] : List Int32) = [(45 : Int32), (105 : Int32), (110 : Int32), (102 : Int32), (105 : Int32), (110 : Int32), (105 : Int32), (116 : Int32), (121 : Int32)] then (1 : Int32) else (0 : Int32)))] [(.ref x218), (.ref b270), (.ref b270)])) rfl (by rw [hml]; rfl) (Steps.refl _) (a := b270) (argsL := [(.ref x218)]) (rest := [(.ref b270)]) (lenOf pd_4 rfl) rfl (by show 2 * 0 + _ ≤ _; exact Nat.le_of_eq rfl) (hb hby at_421) (fun _ _ => ⟨rfl, e270, (by decide : 5 + 1 ≤ _), (by decide : 63 + 9 ≤ _)⟩)
    dsimp only [Pt.U, Pt.locs, Pt.cells, Pt.slots] at X281 l281 y281 z281 st281 hQ281
    subst l281 y281 z281
    obtain ⟨rfl, f286, f287, f288, f289, x284, x285, f290, f291, qf291, f292, f293⟩ := hQ281
    have N294 := Fr.app N224 f286
    have ge295 : n0 ≤ x284 := by rw [← O278.1]; exact Nat.le_trans O278.2.1 f291
    have f296 := (Arv.ext f271 E270)
    have ne297 : w ≠ x284 := Nat.ne_of_lt (Nat.lt_of_lt_of_le (Arv.lt f296) f291)
    have ne298 : x218 ≠ x284 := Nat.ne_of_lt (Nat.lt_of_lt_of_le (Arv.lt f282) f291)
    have ne299 : b270 ≠ x284 := Nat.ne_of_lt (Nat.lt_of_lt_of_le (Exa.lt A270) f291)
    have CR300 := CR275.trans (CHr.keep f287 (sfS sf277 sf0) CR275.1)
    have hk301 := Nat.le_trans hk276 f287.1
    have sf302 := Safe.keep f287 (sfS sf277 sf0) CR275.1 sf277
    have O303 := O278.keep f287 (allS ge_b270 all0)
    obtain ⟨_, _, ⟨T304, L304, k304, n304⟩, -, Xq304, hSq304, hgq304, ⟨Lc304, hQ304, l304, y304, z304, C304⟩, st304⟩ := callSS X281 hx (y := (⟨"com/example/logtide/logtide/event/TemporalText", "isInfinite", "(Ljava/lang/String;)Z"⟩ : MethodName)) ho0 (mvT hZ0 (own_w hw 73 rfl)) (mvT hZ0 (own_w hw 74 rfl)) (mvT hZ0 (own_w hw 75 rfl)) (mvT hZ0 (own_w hw 76 rfl)) (by decide) (own_backS (W := 0) (rm := ({ frames := 2, cells := 4, slots := 80, locals := 28 } : Room)) (xs := []) (rm_inf9 l Z a0 hw [] b270 x284 x285 c0 c1 c2 c3 c4 c5 c6 c7 c8 zc T281.heap n0 O303 f288 f292 f289 f293 la_c0 la_c1 la_c2 la_c3 la_c4 la_c5 la_c6 la_c7 la_c8 S_C hzc) hZ0 (own_w hw 76 rfl) (own_w hw 75 rfl) (by decide) (by decide) own_ew CR300.1 all0) (g := (mkF m 424 #[.val (.int q0), .val (.int q1), .val (.int q2), .val (.int q3), .val (.int q4), .val (.int (9 : Int32)), .val (.int z6), .val (.ref a7), .val (.int f8), .val (.ref w), .val (.ref x218), .val (.int (0 : Int32)), .val (.int (if ([c0, c1, c2, c3, c4, c5, c6, c7, c8] : List Int32) = [(45 : Int32), (105 : Int32), (110 : Int32), (102 : Int32), (105 : Int32), (110 : Int32), (105 : Int32), (116 : Int32), (121 : Int32)] then (1 : Int32) else (0 : Int32))), .val (.int (if ([c0, c1, c2, c3, c4, c5, c6, c7, c8] : List Int32) = [(45 : Int32), (105 : Int32), (110 : Int32), (102 : Int32), (105 : Int32), (110 : Int32), (105 : Int32), (116 : Int32), (121 : Int32)] then (1 : Int32) else (0 : Int32)))] [(.ref b270)])) rfl (by rw [hml]; rfl) (argsL := [(.ref b270)]) (rest := []) (lenOf pd_5 rfl) rfl (by show 2 * 0 + _ ≤ _; exact Nat.le_of_eq rfl) (hb hby at_424) (fun _ _ => ⟨rfl, rfl, (by decide : 6 + 4 ≤ _), (by decide : 72 + 80 ≤ _)⟩)
    dsimp only [Pt.U, Pt.locs, Pt.cells, Pt.slots] at Xq304 hSq304 hgq304 l304 y304 z304 st304 hQ304 C304
    obtain ⟨X304, hS304, hZ304, ho304⟩ := rebS hS0 (by exact hk301) Xq304 hSq304 hgq304 hZ0 ho0
    subst l304 y304 z304
    rcases hQ304 with ⟨c305, rfl, N306, k307⟩ | ⟨c308, rfl, N309, k310⟩
    · have N311 := Fr.app N294 N306
      have sf312 := CHr.safe C304 (Exa.lt f288) sf302
      have CR313 := CR300.trans C304
      have hk314 : T304.heap.size ≤ T304.heap.size := Nat.le_refl _
      have O315 := O303.keep k307 all0
      have q316 : (1 : Int32) = (if ([c0, c1, c2, c3, c4, c5, c6, c7, c8] : List Int32) = [(45 : Int32), (105 : Int32), (110 : Int32), (102 : Int32), (105 : Int32), (110 : Int32), (105 : Int32), (116 : Int32), (121 : Int32)] then (1 : Int32) else (0 : Int32)) := (if_pos c305).symm
      have S317 : ∀ t, Steps p.tables e below (T304.setTop (mkF m 437 #[.val (.int q0), .val (.int q1), .val (.int q2), .val (.int q3), .val (.int q4), .val (.int (9 : Int32)), .val (.int z6), .val (.ref a7), .val (.int f8), .val (.ref w), .val (.ref x218), .val (.int (0 : Int32)), .val (.int (if ([c0, c1, c2, c3, c4, c5, c6, c7, c8] : List Int32) = [(45 : Int32), (105 : Int32), (110 : Int32), (102 : Int32), (105 : Int32), (110 : Int32), (105 : Int32), (116 : Int32), (121 : Int32)] then (1 : Int32) else (0 : Int32))), .val (.int (if ([c0, c1, c2, c3, c4, c5, c6, c7, c8] : List Int32) = [(45 : Int32), (105 : Int32), (110 : Int32), (102 : Int32), (105 : Int32), (110 : Int32), (105 : Int32), (116 : Int32), (121 : Int32)] then (1 : Int32) else (0 : Int32)))] [(.int (1 : Int32))])) t → Steps p.tables e below (T0.setTop (mkF m 203 #[.val (.int q0), .val (.int q1), .val (.int q2), .val (.int q3), .val (.int q4), .val (.int (9 : Int32)), .val (.int z6), .val (.ref a7), .val (.int f8), .val (.ref w), .unset, .unset, .unset, .unset] [])) t := by
        intro t kt
        refine S231 t ?_
        refine XS.istore X217.here hx rfl (hb hby at_413) rfl (l' := #[.val (.int q0), .val (.int q1), .val (.int q2), .val (.int q3), .val (.int q4), .val (.int (9 : Int32)), .val (.int z6), .val (.ref a7), .val (.int f8), .val (.ref w), .val (.ref x218), .val (.int (0 : Int32)), .val (.int (if ([c0, c1, c2, c3, c4, c5, c6, c7, c8] : List Int32) = [(45 : Int32), (105 : Int32), (110 : Int32), (102 : Int32), (105 : Int32), (110 : Int32), (105 : Int32), (116 : Int32), (121 : Int32)] then (1 : Int32) else (0 : Int32))), .val (.int (if ([c0, c1, c2, c3, c4, c5, c6, c7, c8] : List Int32) = [(45 : Int32), (105 : Int32), (110 : Int32), (102 : Int32), (105 : Int32), (110 : Int32), (105 : Int32), (116 : Int32), (121 : Int32)] then (1 : Int32) else (0 : Int32)))]) rfl ?_
        show Steps p.tables e below (T217.setTop (mkF m 415 #[.val (.int q0), .val (.int q1), .val (.int q2), .val (.int q3), .val (.int q4), .val (.int (9 : Int32)), .val (.int z6), .val (.ref a7), .val (.int f8), .val (.ref w), .val (.ref x218), .val (.int (0 : Int32)), .val (.int (if ([c0, c1, c2, c3, c4, c5, c6, c7, c8] : List Int32) = [(45 : Int32), (105 : Int32), (110 : Int32), (102 : Int32), (105 : Int32), (110 : Int32), (105 : Int32), (116 : Int32), (121 : Int32)] then (1 : Int32) else (0 : Int32))), .val (.int (if ([c0, c1, c2, c3, c4, c5, c6, c7, c8] : List Int32) = [(45 : Int32), (105 : Int32), (110 : Int32), (102 : Int32), (105 : Int32), (110 : Int32), (105 : Int32), (116 : Int32), (121 : Int32)] then (1 : Int32) else (0 : Int32)))] [])) _
        refine st270 _ ?_
        refine XS.dup X270.here hx rfl (hb hby at_418) rfl rfl ?_
        refine XS.aload X270.here hx rfl (hb hby at_419) rfl rfl ?_
        show Steps p.tables e below (T270.setTop (mkF m 421 #[.val (.int q0), .val (.int q1), .val (.int q2), .val (.int q3), .val (.int q4), .val (.int (9 : Int32)), .val (.int z6), .val (.ref a7), .val (.int f8), .val (.ref w), .val (.ref x218), .val (.int (0 : Int32)), .val (.int (if ([c0, c1, c2, c3, c4, c5, c6, c7, c8] : List Int32) = [(45 : Int32), (105 : Int32), (110 : Int32), (102 : Int32), (105 : Int32), (110 : Int32), (105 : Int32), (116 : Int32), (121 : Int32)] then (1 : Int32) else (0 : Int32))), .val (.int (if ([c0, c1, c2, c3, c4, c5, c6, c7, c8] : List Int32) = [(45 : Int32), (105 : Int32), (110 : Int32), (102 : Int32), (105 : Int32), (110 : Int32), (105 : Int32), (116 : Int32), (121 : Int32)] then (1 : Int32) else (0 : Int32)))] [(.ref x218), (.ref b270), (.ref b270)])) _
        refine st281.trans ?_
        show Steps p.tables e below (T281.setTop (mkF m 424 #[.val (.int q0), .val (.int q1), .val (.int q2), .val (.int q3), .val (.int q4), .val (.int (9 : Int32)), .val (.int z6), .val (.ref a7), .val (.int f8), .val (.ref w), .val (.ref x218), .val (.int (0 : Int32)), .val (.int (if ([c0, c1, c2, c3, c4, c5, c6, c7, c8] : List Int32) = [(45 : Int32), (105 : Int32), (110 : Int32), (102 : Int32), (105 : Int32), (110 : Int32), (105 : Int32), (116 : Int32), (121 : Int32)] then (1 : Int32) else (0 : Int32))), .val (.int (if ([c0, c1, c2, c3, c4, c5, c6, c7, c8] : List Int32) = [(45 : Int32), (105 : Int32), (110 : Int32), (102 : Int32), (105 : Int32), (110 : Int32), (105 : Int32), (116 : Int32), (121 : Int32)] then (1 : Int32) else (0 : Int32)))] [(.ref b270)])) _
        refine st304.trans ?_
        refine XS.iload X304.here hx rfl (hb hby at_427) rfl ?_
        refine XS.icmpNo X304.here hx rfl (hb hby at_429) rfl (teq (q316 : (1 : Int32) = (if ([c0, c1, c2, c3, c4, c5, c6, c7, c8] : List Int32) = [(45 : Int32), (105 : Int32), (110 : Int32), (102 : Int32), (105 : Int32), (110 : Int32), (105 : Int32), (116 : Int32), (121 : Int32)] then (1 : Int32) else (0 : Int32)))).2 ?_
        refine XS.iconst X304.here hx rfl (hb hby at_432) ?_
        refine XS.goto X304.here hx rfl (pc0 := 433) (pc' := 437) rfl (hb hby at_433) (by decide) (by decide) ?_
        exact kt
      obtain ⟨fs, hr, hrun, hended, hRW⟩ := X304.leaveW hS304 (by exact hk314) (v := some (.int (1 : Int32))) (fun h => by rw [hret] at h; cases h)
      refine ⟨_, _, S317 _ ?_, hrun, hended, _, _, rfl, ?_, ?_, hRW.1, hRW.2.1, hRW.2.2.1, hRW.2.2.2.mono (by decide) (by decide)⟩
      · exact retN X304 hx (t := .boolean) hret (by simp) (hb hby at_437) hr
      · skip
        exact ⟨rfl, N311⟩
      · show CHr Z own_EL s.vm s.heap T304.vm T304.heap
        skip
        exact CR313.trans (CHv.at X304 hZ304 own_ew CR313.1)
    · have N318 := Fr.app N294 N309
      have sf319 := CHr.safe C304 (Exa.lt f288) sf302
      have CR320 := CR300.trans C304
      have hk321 : T304.heap.size ≤ T304.heap.size := Nat.le_refl _
      have O322 := O303.keep k310 all0
      have q323 : (0 : Int32) = (if ([c0, c1, c2, c3, c4, c5, c6, c7, c8] : List Int32) = [(45 : Int32), (105 : Int32), (110 : Int32), (102 : Int32), (105 : Int32), (110 : Int32), (105 : Int32), (116 : Int32), (121 : Int32)] then (1 : Int32) else (0 : Int32)) := (if_neg c308).symm
      have S324 : ∀ t, Steps p.tables e below (T304.setTop (mkF m 437 #[.val (.int q0), .val (.int q1), .val (.int q2), .val (.int q3), .val (.int q4), .val (.int (9 : Int32)), .val (.int z6), .val (.ref a7), .val (.int f8), .val (.ref w), .val (.ref x218), .val (.int (0 : Int32)), .val (.int (if ([c0, c1, c2, c3, c4, c5, c6, c7, c8] : List Int32) = [(45 : Int32), (105 : Int32), (110 : Int32), (102 : Int32), (105 : Int32), (110 : Int32), (105 : Int32), (116 : Int32), (121 : Int32)] then (1 : Int32) else (0 : Int32))), .val (.int (if ([c0, c1, c2, c3, c4, c5, c6, c7, c8] : List Int32) = [(45 : Int32), (105 : Int32), (110 : Int32), (102 : Int32), (105 : Int32), (110 : Int32), (105 : Int32), (116 : Int32), (121 : Int32)] then (1 : Int32) else (0 : Int32)))] [(.int (1 : Int32))])) t → Steps p.tables e below (T0.setTop (mkF m 203 #[.val (.int q0), .val (.int q1), .val (.int q2), .val (.int q3), .val (.int q4), .val (.int (9 : Int32)), .val (.int z6), .val (.ref a7), .val (.int f8), .val (.ref w), .unset, .unset, .unset, .unset] [])) t := by
        intro t kt
        refine S231 t ?_
        refine XS.istore X217.here hx rfl (hb hby at_413) rfl (l' := #[.val (.int q0), .val (.int q1), .val (.int q2), .val (.int q3), .val (.int q4), .val (.int (9 : Int32)), .val (.int z6), .val (.ref a7), .val (.int f8), .val (.ref w), .val (.ref x218), .val (.int (0 : Int32)), .val (.int (if ([c0, c1, c2, c3, c4, c5, c6, c7, c8] : List Int32) = [(45 : Int32), (105 : Int32), (110 : Int32), (102 : Int32), (105 : Int32), (110 : Int32), (105 : Int32), (116 : Int32), (121 : Int32)] then (1 : Int32) else (0 : Int32))), .val (.int (if ([c0, c1, c2, c3, c4, c5, c6, c7, c8] : List Int32) = [(45 : Int32), (105 : Int32), (110 : Int32), (102 : Int32), (105 : Int32), (110 : Int32), (105 : Int32), (116 : Int32), (121 : Int32)] then (1 : Int32) else (0 : Int32)))]) rfl ?_
        show Steps p.tables e below (T217.setTop (mkF m 415 #[.val (.int q0), .val (.int q1), .val (.int q2), .val (.int q3), .val (.int q4), .val (.int (9 : Int32)), .val (.int z6), .val (.ref a7), .val (.int f8), .val (.ref w), .val (.ref x218), .val (.int (0 : Int32)), .val (.int (if ([c0, c1, c2, c3, c4, c5, c6, c7, c8] : List Int32) = [(45 : Int32), (105 : Int32), (110 : Int32), (102 : Int32), (105 : Int32), (110 : Int32), (105 : Int32), (116 : Int32), (121 : Int32)] then (1 : Int32) else (0 : Int32))), .val (.int (if ([c0, c1, c2, c3, c4, c5, c6, c7, c8] : List Int32) = [(45 : Int32), (105 : Int32), (110 : Int32), (102 : Int32), (105 : Int32), (110 : Int32), (105 : Int32), (116 : Int32), (121 : Int32)] then (1 : Int32) else (0 : Int32)))] [])) _
        refine st270 _ ?_
        refine XS.dup X270.here hx rfl (hb hby at_418) rfl rfl ?_
        refine XS.aload X270.here hx rfl (hb hby at_419) rfl rfl ?_
        show Steps p.tables e below (T270.setTop (mkF m 421 #[.val (.int q0), .val (.int q1), .val (.int q2), .val (.int q3), .val (.int q4), .val (.int (9 : Int32)), .val (.int z6), .val (.ref a7), .val (.int f8), .val (.ref w), .val (.ref x218), .val (.int (0 : Int32)), .val (.int (if ([c0, c1, c2, c3, c4, c5, c6, c7, c8] : List Int32) = [(45 : Int32), (105 : Int32), (110 : Int32), (102 : Int32), (105 : Int32), (110 : Int32), (105 : Int32), (116 : Int32), (121 : Int32)] then (1 : Int32) else (0 : Int32))), .val (.int (if ([c0, c1, c2, c3, c4, c5, c6, c7, c8] : List Int32) = [(45 : Int32), (105 : Int32), (110 : Int32), (102 : Int32), (105 : Int32), (110 : Int32), (105 : Int32), (116 : Int32), (121 : Int32)] then (1 : Int32) else (0 : Int32)))] [(.ref x218), (.ref b270), (.ref b270)])) _
        refine st281.trans ?_
        show Steps p.tables e below (T281.setTop (mkF m 424 #[.val (.int q0), .val (.int q1), .val (.int q2), .val (.int q3), .val (.int q4), .val (.int (9 : Int32)), .val (.int z6), .val (.ref a7), .val (.int f8), .val (.ref w), .val (.ref x218), .val (.int (0 : Int32)), .val (.int (if ([c0, c1, c2, c3, c4, c5, c6, c7, c8] : List Int32) = [(45 : Int32), (105 : Int32), (110 : Int32), (102 : Int32), (105 : Int32), (110 : Int32), (105 : Int32), (116 : Int32), (121 : Int32)] then (1 : Int32) else (0 : Int32))), .val (.int (if ([c0, c1, c2, c3, c4, c5, c6, c7, c8] : List Int32) = [(45 : Int32), (105 : Int32), (110 : Int32), (102 : Int32), (105 : Int32), (110 : Int32), (105 : Int32), (116 : Int32), (121 : Int32)] then (1 : Int32) else (0 : Int32)))] [(.ref b270)])) _
        refine st304.trans ?_
        refine XS.iload X304.here hx rfl (hb hby at_427) rfl ?_
        refine XS.icmpNo X304.here hx rfl (hb hby at_429) rfl (teq (q323 : (0 : Int32) = (if ([c0, c1, c2, c3, c4, c5, c6, c7, c8] : List Int32) = [(45 : Int32), (105 : Int32), (110 : Int32), (102 : Int32), (105 : Int32), (110 : Int32), (105 : Int32), (116 : Int32), (121 : Int32)] then (1 : Int32) else (0 : Int32)))).2 ?_
        refine XS.iconst X304.here hx rfl (hb hby at_432) ?_
        refine XS.goto X304.here hx rfl (pc0 := 433) (pc' := 437) rfl (hb hby at_433) (by decide) (by decide) ?_
        exact kt
      obtain ⟨fs, hr, hrun, hended, hRW⟩ := X304.leaveW hS304 (by exact hk321) (v := some (.int (1 : Int32))) (fun h => by rw [hret] at h; cases h)
      refine ⟨_, _, S324 _ ?_, hrun, hended, _, _, rfl, ?_, ?_, hRW.1, hRW.2.1, hRW.2.2.1, hRW.2.2.2.mono (by decide) (by decide)⟩
      · exact retN X304 hx (t := .boolean) hret (by simp) (hb hby at_437) hr
      · skip
        exact ⟨rfl, N318⟩
      · show CHr Z own_EL s.vm s.heap T304.vm T304.heap
        skip
        exact CR320.trans (CHv.at X304 hZ304 own_ew CR320.1)
  · obtain ⟨_, _, ⟨T325, L325, k325, n325⟩, -, X325, ⟨Lc325, hQ325, l325, y325, z325⟩, st325⟩ := Jvm.LawKit.callS X0 hx (y := (⟨"com/example/logtide/logtide/event/TemporalTextIsInfinitePinLaw", "cut", "([CI)[C"⟩ : MethodName)) ho0 (mvT hZ0 (own_w hw 49 rfl)) (mvT hZ0 (own_w hw 50 rfl)) (mvT hZ0 (own_w hw 12 rfl)) (mvT hZ0 (own_w hw 51 rfl)) (by decide) (backOf (W := 0) (rm_cut10 l Z a0 hw [] w kw c0 c1 c2 c3 c4 c5 c6 c7 c8 c9 h0 n0 O0 A_w la_c0 la_c1 la_c2 la_c3 la_c4 la_c5 la_c6 la_c7 la_c8 la_c9) hZ0 (own_w hw 51 rfl) (own_w hw 12 rfl) (by decide) (by decide)) (g := (mkF m 207 #[.val (.int q0), .val (.int q1), .val (.int q2), .val (.int q3), .val (.int q4), .val (.int (10 : Int32)), .val (.int z6), .val (.ref a7), .val (.int f8), .val (.ref w), .unset, .unset, .unset, .unset] [(.int (10 : Int32)), (.ref w)])) rfl (by rw [hml]; rfl) (argsL := [(.ref w), (.int (10 : Int32))]) (rest := []) (lenOf pd_3 rfl) rfl (by show 2 * 0 + _ ≤ _; exact Nat.le_of_eq rfl) (hb hby at_207) (fun _ _ => ⟨rfl, e0, (by decide : 3 + 1 ≤ _), (by decide : 50 + 10 ≤ _)⟩)
    dsimp only [Pt.U, Pt.locs, Pt.cells, Pt.slots] at X325 l325 y325 z325 st325 hQ325
    subst l325 y325 z325
    obtain ⟨x326, x327, rfl, N328, k329, f330, f331⟩ := hQ325
    have N332 := Fr.app N0 N328
    have ge333 : n0 ≤ x326 := by rw [← O0.1]; exact Nat.le_trans O0.2.1 f330
    have ne334 : w ≠ x326 := Nat.ne_of_lt (Nat.lt_of_lt_of_le (Arv.lt A_w) f330)
    have CR335 := CR0.trans (CHr.keep k329 sf0 CR0.1)
    have hk336 := Nat.le_trans hk0 k329.1
    have O337 := O0.keep k329 all0
    obtain ⟨T338, h338, X338, e338, E338, A338, D338, -, st338⟩ := newO X325 hx hZ0 ho0 (own_w hw 52 rfl) (own_w hw 3 rfl) (own_w hw 2 rfl) rfl (g := (mkF m 415 #[.val (.int q0), .val (.int q1), .val (.int q2), .val (.int q3), .val (.int q4), .val (.int (10 : Int32)), .val (.int z6), .val (.ref a7), .val (.int f8), .val (.ref w), .val (.ref x326), .val (.int (0 : Int32)), .val (.int (0 : Int32)), .val (.int (0 : Int32))] [])) rfl (hb hby at_415) (by decide) (by decide)
    obtain ⟨b338, g338⟩ : ∃ z, z = T325.heap.size := ⟨_, rfl⟩
    have ge_b338 : n0 ≤ b338 := by rw [g338, ← O337.1]; exact O337.2.1
    have f339 := (Arv.keep A_w k329 nin0)
    have ne340 : w ≠ b338 := Nat.ne_of_lt (Nat.lt_of_lt_of_le (Arv.lt f339) (Nat.le_of_eq g338.symm))
    have ne341 : x326 ≠ b338 := Nat.ne_of_lt (Nat.lt_of_lt_of_le (Arv.lt f331) (Nat.le_of_eq g338.symm))
    have sf342 : Safe Z own_EL vm0 T325.heap b338 := Safe.new (Nat.le_of_eq g338.symm)
    rw [← g338] at A338 D338 st338
    have CR343 := CR335.trans (CHr.ext E338 CR335.1)
    have hk344 := Nat.le_trans hk336 E338.1
    have sf345 := Safe.ext E338 CR335.1 sf342
    have O346 := O337.ext E338
    have F347 : Fld Z h338 b338 "java/lang/String" "value" "[B" .null := D338 (Or.inr (own_w hw 5 rfl)) (ty := (.array .byte)) (by decide)
    have F348 : Fld Z h338 b338 "java/lang/String" "coder" "B" (.int (0 : Int32)) := D338 (Or.inr (own_w hw 6 rfl)) (ty := .byte) (by decide)
    have f350 := (Arv.ext f331 E338)
    have la351 : ∀ c ∈ ([c0, c1, c2, c3, c4, c5, c6, c7, c8, c9] : List Int32), ¬ c < 0 ∧ ¬ (255 : Int32) < c := by
      intro c hc
      simp only [List.mem_cons, List.not_mem_nil, or_false] at hc
      rcases hc with rfl | rfl | rfl | rfl | rfl | rfl | rfl | rfl | rfl | rfl
      · exact la_c0
      · exact la_c1
      · exact la_c2
      · exact la_c3
      · exact la_c4
      · exact la_c5
      · exact la_c6
      · exact la_c7
      · exact la_c8
      · exact la_c9
    obtain ⟨_, _, ⟨T349, L349, k349, n349⟩, -, X349, ⟨Lc349, hQ349, l349, y349, z349⟩, st349⟩ := X338.specialBack hx (y := (⟨"java/lang/String", "<init>", "([C)V"⟩ : MethodName)) rfl ho0 (mvT hZ0 (own_w hw 53 rfl)) (mvT hZ0 (own_w hw 54 rfl)) (mvT hZ0 (own_w hw 55 rfl)) (by decide) (StrChars.Road.backV (W := 1) hZ0 hws (kI := 4) (own_w hw 3 rfl) (cs := [c0, c1, c2, c3, c4, c5, c6, c7, c8, c9]) (bs := [c0.toInt8.toInt32, c1.toInt8.toInt32, c2.toInt8.toInt32, c3.toInt8.toInt32, c4.toInt8.toInt32, c5.toInt8.toInt32, c6.toInt8.toInt32, c7.toInt8.toInt32, c8.toInt8.toInt32, c9.toInt8.toInt32]) (n := 10) ge_b338 (by rw [← O346.1]; exact O346.2.1) A338 F347 F348 f350 (S_C.ext O346.2) hzc rfl rfl (by decide) (by decide) la351 rfl (by decide) (by decide)) (g := (mkF m 421 #[.val (.int q0), .val (.int q1), .val (.int q2), .val (.int q3), .val (.int q4), .val (.int (10 : Int32)), .val (.int z6), .val (.ref a7), .val (.int f8), .val (.ref w), .val (.ref x326), .val (.int (0 : Int32)), .val (.int (0 : Int32)), .val (.int (0 : Int32))] [(.ref x326), (.ref b338), (.ref b338)])) rfl (by rw [hml]; rfl) (Steps.refl _) (a := b338) (argsL := [(.ref x326)]) (rest := [(.ref b338)]) (lenOf pd_4 rfl) rfl (by show 2 * 0 + _ ≤ _; exact Nat.le_of_eq rfl) (hb hby at_421) (fun _ _ => ⟨rfl, e338, (by decide : 5 + 1 ≤ _), (by decide : 64 + 10 ≤ _)⟩)
    dsimp only [Pt.U, Pt.locs, Pt.cells, Pt.slots] at X349 l349 y349 z349 st349 hQ349
    subst l349 y349 z349
    obtain ⟨rfl, f354, f355, f356, f357, x352, x353, f358, f359, qf359, f360, f361⟩ := hQ349
    have N362 := Fr.app N332 f354
    have ge363 : n0 ≤ x352 := by rw [← O346.1]; exact Nat.le_trans O346.2.1 f359
    have f364 := (Arv.ext f339 E338)
    have ne365 : w ≠ x352 := Nat.ne_of_lt (Nat.lt_of_lt_of_le (Arv.lt f364) f359)
    have ne366 : x326 ≠ x352 := Nat.ne_of_lt (Nat.lt_of_lt_of_le (Arv.lt f350) f359)
    have ne367 : b338 ≠ x352 := Nat.ne_of_lt (Nat.lt_of_lt_of_le (Exa.lt A338) f359)
    have CR368 := CR343.trans (CHr.keep f355 (sfS sf345 sf0) CR343.1)
    have hk369 := Nat.le_trans hk344 f355.1
    have sf370 := Safe.keep f355 (sfS sf345 sf0) CR343.1 sf345
    have O371 := O346.keep f355 (allS ge_b338 all0)
    obtain ⟨_, _, ⟨T372, L372, k372, n372⟩, -, Xq372, hSq372, hgq372, ⟨Lc372, hQ372, l372, y372, z372, C372⟩, st372⟩ := callSS X349 hx (y := (⟨"com/example/logtide/logtide/event/TemporalText", "isInfinite", "(Ljava/lang/String;)Z"⟩ : MethodName)) ho0 (mvT hZ0 (own_w hw 73 rfl)) (mvT hZ0 (own_w hw 74 rfl)) (mvT hZ0 (own_w hw 75 rfl)) (mvT hZ0 (own_w hw 76 rfl)) (by decide) (own_backS (W := 0) (rm := ({ frames := 2, cells := 4, slots := 80, locals := 28 } : Room)) (xs := []) (rm_inf10 l Z a0 hw [] b338 x352 x353 c0 c1 c2 c3 c4 c5 c6 c7 c8 c9 zc T349.heap n0 O371 f356 f360 f357 f361 la_c0 la_c1 la_c2 la_c3 la_c4 la_c5 la_c6 la_c7 la_c8 la_c9 S_C hzc) hZ0 (own_w hw 76 rfl) (own_w hw 75 rfl) (by decide) (by decide) own_ew CR368.1 all0) (g := (mkF m 424 #[.val (.int q0), .val (.int q1), .val (.int q2), .val (.int q3), .val (.int q4), .val (.int (10 : Int32)), .val (.int z6), .val (.ref a7), .val (.int f8), .val (.ref w), .val (.ref x326), .val (.int (0 : Int32)), .val (.int (0 : Int32)), .val (.int (0 : Int32))] [(.ref b338)])) rfl (by rw [hml]; rfl) (argsL := [(.ref b338)]) (rest := []) (lenOf pd_5 rfl) rfl (by show 2 * 0 + _ ≤ _; exact Nat.le_of_eq rfl) (hb hby at_424) (fun _ _ => ⟨rfl, rfl, (by decide : 6 + 4 ≤ _), (by decide : 74 + 80 ≤ _)⟩)
    dsimp only [Pt.U, Pt.locs, Pt.cells, Pt.slots] at Xq372 hSq372 hgq372 l372 y372 z372 st372 hQ372 C372
    obtain ⟨X372, hS372, hZ372, ho372⟩ := rebS hS0 (by exact hk369) Xq372 hSq372 hgq372 hZ0 ho0
    subst l372 y372 z372
    obtain ⟨rfl, N373, k374⟩ := hQ372
    have N375 := Fr.app N362 N373
    have sf376 := CHr.safe C372 (Exa.lt f356) sf370
    have CR377 := CR368.trans C372
    have hk378 : T372.heap.size ≤ T372.heap.size := Nat.le_refl _
    have O379 := O371.keep k374 all0
    have S380 : ∀ t, Steps p.tables e below (T372.setTop (mkF m 437 #[.val (.int q0), .val (.int q1), .val (.int q2), .val (.int q3), .val (.int q4), .val (.int (10 : Int32)), .val (.int z6), .val (.ref a7), .val (.int f8), .val (.ref w), .val (.ref x326), .val (.int (0 : Int32)), .val (.int (0 : Int32)), .val (.int (0 : Int32))] [(.int (1 : Int32))])) t → Steps p.tables e below (T0.setTop (mkF m 203 #[.val (.int q0), .val (.int q1), .val (.int q2), .val (.int q3), .val (.int q4), .val (.int (10 : Int32)), .val (.int z6), .val (.ref a7), .val (.int f8), .val (.ref w), .unset, .unset, .unset, .unset] [])) t := by
      intro t kt
      refine XS.aload X0.here hx rfl (hb hby at_203) rfl rfl ?_
      refine XS.iload X0.here hx rfl (hb hby at_205) rfl ?_
      show Steps p.tables e below (T0.setTop (mkF m 207 #[.val (.int q0), .val (.int q1), .val (.int q2), .val (.int q3), .val (.int q4), .val (.int (10 : Int32)), .val (.int z6), .val (.ref a7), .val (.int f8), .val (.ref w), .unset, .unset, .unset, .unset] [(.int (10 : Int32)), (.ref w)])) _
      refine st325 _ ?_
      refine XS.astore X325.here hx rfl (hb hby at_210) rfl rfl (l' := #[.val (.int q0), .val (.int q1), .val (.int q2), .val (.int q3), .val (.int q4), .val (.int (10 : Int32)), .val (.int z6), .val (.ref a7), .val (.int f8), .val (.ref w), .val (.ref x326), .unset, .unset, .unset]) rfl ?_
      refine XS.iload X325.here hx rfl (hb hby at_212) rfl ?_
      refine XS.bipush X325.here hx rfl (hb hby at_214) ?_
      refine XS.icmpYes X325.here hx rfl (pc0 := 216) (pc' := 297) rfl (hb hby at_216) rfl (feq ((by decide) : ¬ ((10 : Int32) = (8 : Int32)))).2 (by decide) (by decide) ?_
      refine XS.iconst X325.here hx rfl (hb hby at_297) ?_
      show Steps p.tables e below (T325.setTop (mkF m 298 #[.val (.int q0), .val (.int q1), .val (.int q2), .val (.int q3), .val (.int q4), .val (.int (10 : Int32)), .val (.int z6), .val (.ref a7), .val (.int f8), .val (.ref w), .val (.ref x326), .unset, .unset, .unset] [(.int (0 : Int32))])) _
      refine XS.istore X325.here hx rfl (hb hby at_298) rfl (l' := #[.val (.int q0), .val (.int q1), .val (.int q2), .val (.int q3), .val (.int q4), .val (.int (10 : Int32)), .val (.int z6), .val (.ref a7), .val (.int f8), .val (.ref w), .val (.ref x326), .val (.int (0 : Int32)), .unset, .unset]) rfl ?_
      refine XS.iload X325.here hx rfl (hb hby at_300) rfl ?_
      refine XS.bipush X325.here hx rfl (hb hby at_302) ?_
      refine XS.icmpYes X325.here hx rfl (pc0 := 304) (pc' := 395) rfl (hb hby at_304) rfl (feq ((by decide) : ¬ ((10 : Int32) = (9 : Int32)))).2 (by decide) (by decide) ?_
      refine XS.iconst X325.here hx rfl (hb hby at_395) ?_
      refine XS.istore X325.here hx rfl (hb hby at_396) rfl (l' := #[.val (.int q0), .val (.int q1), .val (.int q2), .val (.int q3), .val (.int q4), .val (.int (10 : Int32)), .val (.int z6), .val (.ref a7), .val (.int f8), .val (.ref w), .val (.ref x326), .val (.int (0 : Int32)), .val (.int (0 : Int32)), .unset]) rfl ?_
      show Steps p.tables e below (T325.setTop (mkF m 398 #[.val (.int q0), .val (.int q1), .val (.int q2), .val (.int q3), .val (.int q4), .val (.int (10 : Int32)), .val (.int z6), .val (.ref a7), .val (.int f8), .val (.ref w), .val (.ref x326), .val (.int (0 : Int32)), .val (.int (0 : Int32)), .unset] [])) _
      refine XS.iload X325.here hx rfl (hb hby at_398) rfl ?_
      refine XS.ifNo X325.here hx rfl (hb hby at_400) rfl ((if0 _ _).trans (teq ((by decide) : (0 : Int32) = (0 : Int32))).2) ?_
      refine XS.iload X325.here hx rfl (hb hby at_403) rfl ?_
      refine XS.ifYes X325.here hx rfl (pc0 := 405) (pc' := 412) rfl (hb hby at_405) rfl ((if0 _ _).trans (teq ((by decide) : (0 : Int32) = (0 : Int32))).1) (by decide) (by decide) ?_
      refine XS.iconst X325.here hx rfl (hb hby at_412) ?_
      refine XS.istore X325.here hx rfl (hb hby at_413) rfl (l' := #[.val (.int q0), .val (.int q1), .val (.int q2), .val (.int q3), .val (.int q4), .val (.int (10 : Int32)), .val (.int z6), .val (.ref a7), .val (.int f8), .val (.ref w), .val (.ref x326), .val (.int (0 : Int32)), .val (.int (0 : Int32)), .val (.int (0 : Int32))]) rfl ?_
      show Steps p.tables e below (T325.setTop (mkF m 415 #[.val (.int q0), .val (.int q1), .val (.int q2), .val (.int q3), .val (.int q4), .val (.int (10 : Int32)), .val (.int z6), .val (.ref a7), .val (.int f8), .val (.ref w), .val (.ref x326), .val (.int (0 : Int32)), .val (.int (0 : Int32)), .val (.int (0 : Int32))] [])) _
      refine st338 _ ?_
      refine XS.dup X338.here hx rfl (hb hby at_418) rfl rfl ?_
      refine XS.aload X338.here hx rfl (hb hby at_419) rfl rfl ?_
      show Steps p.tables e below (T338.setTop (mkF m 421 #[.val (.int q0), .val (.int q1), .val (.int q2), .val (.int q3), .val (.int q4), .val (.int (10 : Int32)), .val (.int z6), .val (.ref a7), .val (.int f8), .val (.ref w), .val (.ref x326), .val (.int (0 : Int32)), .val (.int (0 : Int32)), .val (.int (0 : Int32))] [(.ref x326), (.ref b338), (.ref b338)])) _
      refine st349.trans ?_
      show Steps p.tables e below (T349.setTop (mkF m 424 #[.val (.int q0), .val (.int q1), .val (.int q2), .val (.int q3), .val (.int q4), .val (.int (10 : Int32)), .val (.int z6), .val (.ref a7), .val (.int f8), .val (.ref w), .val (.ref x326), .val (.int (0 : Int32)), .val (.int (0 : Int32)), .val (.int (0 : Int32))] [(.ref b338)])) _
      refine st372.trans ?_
      refine XS.iload X372.here hx rfl (hb hby at_427) rfl ?_
      refine XS.icmpNo X372.here hx rfl (hb hby at_429) rfl (teq ((by decide) : (0 : Int32) = (0 : Int32))).2 ?_
      refine XS.iconst X372.here hx rfl (hb hby at_432) ?_
      refine XS.goto X372.here hx rfl (pc0 := 433) (pc' := 437) rfl (hb hby at_433) (by decide) (by decide) ?_
      exact kt
    obtain ⟨fs, hr, hrun, hended, hRW⟩ := X372.leaveW hS372 (by exact hk378) (v := some (.int (1 : Int32))) (fun h => by rw [hret] at h; cases h)
    refine ⟨_, _, S380 _ ?_, hrun, hended, _, _, rfl, ?_, ?_, hRW.1, hRW.2.1, hRW.2.2.1, hRW.2.2.2.mono (by decide) (by decide)⟩
    · exact retN X372 hx (t := .boolean) hret (by simp) (hb hby at_437) hr
    · skip
      exact ⟨rfl, N375⟩
    · show CHr Z own_EL s.vm s.heap T372.vm T372.heap
      skip
      exact CR377.trans (CHv.at X372 hZ372 own_ew CR377.1)
theorem own_rem5 (x i : Int32) (h : i = ((x &&& (2147483647 : Int32)) % (5 : Int32))) : i = (0 : Int32) ∨ i = (1 : Int32) ∨ i = (2 : Int32) ∨ i = (3 : Int32) ∨ i = (4 : Int32) := by
  have a1 := c_and x 2147483647 (by decide)
  have a2 := (c_iremV (x &&& 2147483647) 5).1 a1.1 (by decide)
  rw [← h] at a2
  have a3 : (5 : Int32).toInt = 5 := by decide
  obtain ⟨b1, b2, -⟩ := a2
  rw [a3] at b2
  have key : ∀ n : Nat, n < 5 → i.toInt = (n : Int) → i = Int32.ofNat n := by
    intro n hn hi
    apply Int32.toInt_inj.mp
    rw [hi, Int32.toInt_ofNat_of_lt (by omega)]
  obtain ⟨n, hn⟩ := Int.eq_ofNat_of_zero_le b1
  have hlt : n < 5 := by omega
  have hk := key n hlt hn
  clear key hn b1 b2 a1 a3 h
  match n, hlt with
  | 0, _ => exact Or.inl hk
  | 1, _ => exact Or.inr (Or.inl hk)
  | 2, _ => exact Or.inr (Or.inr (Or.inl hk))
  | 3, _ => exact Or.inr (Or.inr (Or.inr (Or.inl hk)))
  | 4, _ => exact Or.inr (Or.inr (Or.inr (Or.inr (hk))))
theorem own_lt10 (i : Int32) (b1 : 0 ≤ i.toInt) (b2 : i.toInt < 10) : i = (0 : Int32) ∨ i = (1 : Int32) ∨ i = (2 : Int32) ∨ i = (3 : Int32) ∨ i = (4 : Int32) ∨ i = (5 : Int32) ∨ i = (6 : Int32) ∨ i = (7 : Int32) ∨ i = (8 : Int32) ∨ i = (9 : Int32) := by
  have key : ∀ n : Nat, n < 10 → i.toInt = (n : Int) → i = Int32.ofNat n := by
    intro n hn hi
    apply Int32.toInt_inj.mp
    rw [hi, Int32.toInt_ofNat_of_lt (by omega)]
  obtain ⟨n, hn⟩ := Int.eq_ofNat_of_zero_le b1
  have hlt : n < 10 := by omega
  have hk := key n hlt hn
  clear key hn b1 b2
  match n, hlt with
  | 0, _ => exact Or.inl hk
  | 1, _ => exact Or.inr (Or.inl hk)
  | 2, _ => exact Or.inr (Or.inr (Or.inl hk))
  | 3, _ => exact Or.inr (Or.inr (Or.inr (Or.inl hk)))
  | 4, _ => exact Or.inr (Or.inr (Or.inr (Or.inr (Or.inl hk))))
  | 5, _ => exact Or.inr (Or.inr (Or.inr (Or.inr (Or.inr (Or.inl hk)))))
  | 6, _ => exact Or.inr (Or.inr (Or.inr (Or.inr (Or.inr (Or.inr (Or.inl hk))))))
  | 7, _ => exact Or.inr (Or.inr (Or.inr (Or.inr (Or.inr (Or.inr (Or.inr (Or.inl hk)))))))
  | 8, _ => exact Or.inr (Or.inr (Or.inr (Or.inr (Or.inr (Or.inr (Or.inr (Or.inr (Or.inl hk))))))))
  | 9, _ => exact Or.inr (Or.inr (Or.inr (Or.inr (Or.inr (Or.inr (Or.inr (Or.inr (Or.inr (hk)))))))))
theorem own_n5 (x nv : Int32) (h : nv = ((6 : Int32) + ((x &&& (2147483647 : Int32)) % (5 : Int32)))) : nv = (6 : Int32) ∨ nv = (7 : Int32) ∨ nv = (8 : Int32) ∨ nv = (9 : Int32) ∨ nv = (10 : Int32) := by
  rcases own_rem5 x _ rfl with q | q | q | q | q <;> rw [q] at h <;> subst h
  · exact Or.inl (by decide)
  · exact Or.inr (Or.inl (by decide))
  · exact Or.inr (Or.inr (Or.inl (by decide)))
  · exact Or.inr (Or.inr (Or.inr (Or.inl (by decide))))
  · exact Or.inr (Or.inr (Or.inr (Or.inr (by decide))))
theorem own_nz {nv : Int32} (h : nv = (6 : Int32) ∨ nv = (7 : Int32) ∨ nv = (8 : Int32) ∨ nv = (9 : Int32) ∨ nv = (10 : Int32)) : ¬ (nv = (0 : Int32)) := by rcases h with rfl | rfl | rfl | rfl | rfl <;> decide
theorem own_j (x nv jv : Int32) (hn : nv = (6 : Int32) ∨ nv = (7 : Int32) ∨ nv = (8 : Int32) ∨ nv = (9 : Int32) ∨ nv = (10 : Int32)) (h : jv = ((x &&& (2147483647 : Int32)) % nv)) : jv = (0 : Int32) ∨ jv = (1 : Int32) ∨ jv = (2 : Int32) ∨ jv = (3 : Int32) ∨ jv = (4 : Int32) ∨ jv = (5 : Int32) ∨ jv = (6 : Int32) ∨ jv = (7 : Int32) ∨ jv = (8 : Int32) ∨ jv = (9 : Int32) := by
  have a1 := c_and x 2147483647 (by decide)
  have hp : 0 < nv.toInt ∧ nv.toInt ≤ 10 := by rcases hn with rfl | rfl | rfl | rfl | rfl <;> decide
  have a2 := (c_iremV (x &&& 2147483647) nv).1 a1.1 hp.1
  rw [← h] at a2
  exact own_lt10 jv a2.1 (by have := a2.2.1; have := hp.2; omega)
theorem pd_6 : parseMethodDescriptor "(Ljava/lang/String;IC)C" = some ⟨[(.object "java/lang/String"), .int, .char], some .char⟩ := by decide +kernel
theorem ef_rm_law (m : MethodId) (x0 : Int32) (x1 : Int32) (x2 : Int32) (x3 : Int32) (x4 : Int32) : entryFrame m #[(.int x0), (.int x1), (.int x2), (.int x3), (.int x4)] maxLocals = mkF m 0 #[.val (.int x0), .val (.int x1), .val (.int x2), .val (.int x3), .val (.int x4), .unset, .unset, .unset, .unset, .unset, .unset, .unset, .unset, .unset] [] := by first | (simp [entryFrame, mkF, argsToLocals, Value.category, maxLocals]; done) | rfl
def Q_rm_law (Z : State) (q0 : Int32) (q1 : Int32) (q2 : Int32) (q3 : Int32) (q4 : Int32) (zc : Int32) (fm : Value) (h0 : Heap) (n0 : Nat) (v : Option Value) (h : Heap) (L : List Loc) : Prop := ((v = some (.int (1 : Int32))) ∧ (Fr n0 L))
set_option maxRecDepth 65536 in
set_option maxHeartbeats 40000000 in
theorem rm_law (l : Launch) (Z : State) (a0 : Array Value) (hw : ∀ d ∈ tables_1, d.before a0 Z = true) (ws : List Jvm.Cond) (q0 : Int32) (q1 : Int32) (q2 : Int32) (q3 : Int32) (q4 : Int32) (zc : Int32) (fm : Value) (h0 : Heap) (n0 : Nat) (O0 : Old Z n0 h0) (S_C : Sta Z Z.heap "java/lang/String" "COMPACT_STRINGS" "Z" (.int zc)) (hzc : ¬ (zc = (0 : Int32))) (S_F : Sta Z Z.heap "jdk/internal/util/Preconditions" "SIOOBE_FORMATTER" "Ljava/util/function/BiFunction;" fm) (hfm : fm.isRef = true) :
    MetFree l x (head1 (Jvm.Cond.code x code maxLocals ret :: ws) room_1) (fun a U => a = #[(.int q0), (.int q1), (.int q2), (.int q3), (.int q4)] ∧ Z.Warmed39 U.vm ∧ U.heap = h0 ∧ CHv Z own_EL U.vm h0 ∧ ∀ own_y ∈ ([] : List Addr), Safe Z own_EL U.vm h0 own_y) (fun _ _ _ _ _ => True) (fun _ U o U' => ∃ v L, o = .returned v ∧ Q_rm_law Z q0 q1 q2 q3 q4 zc fm h0 n0 v U'.heap L ∧ CHr Z own_EL U.vm U.heap U'.vm U'.heap ∧ ReturnedEndW U o U' L room_1.cells room_1.slots) := by
  refine MetFree.of_bodySF (plainFor_of_name pn_0) hisR ?_
  intro p e s m args below meth c s₁ Bd hml0 hP hK
  obtain ⟨rfl, hZ, hh, hCH, hSf⟩ := hP
  have hx := Bd.exec
  have hby := Bd.bytes
  have hml : c.maxLocals = 14 := hml0
  have hown : s.vm.findClass "com/example/logtide/logtide/event/TemporalTextIsInfinitePinLaw" = some m.cls := findClass_of_methodNamed Bd.named
  have hnm := (name_of_methodNamed Bd.named Bd.method).1
  have X0 : Stand p l e room_1 (s.setVm s.vm) m #[(.int q0), (.int q1), (.int q2), (.int q3), (.int q4)] below meth c s₁ [] 0 0 := Stand.of_body Bd
  have e0 : s₁.heap = h0 := by rw [← hh, Bd.state]; rfl
  have N0 := Fr.nil n0
  have hZ0 := hZ
  have ho0 := hown
  have hS0 : s.Since s.vm 0 := (State.WarmedH.refl s).since 0
  have hk0 : 0 ≤ h0.size := Nat.zero_le _
  have CR0 : CHr Z own_EL s.vm h0 s.vm h0 := CHr.refl hCH
  have own_at : ∀ d ∈ Bundle.stringAtoms, d.before a0 Z = true := fun d hd => hw d (own_atoms d hd)
  have own_ew : EW Z a0 own_EL := own_EWof hw
  have hwl : ∀ d ∈ StrChars.Road.wordsLen, d.before a0 Z = true := fun d hd => hw d (own_wordsLen d hd)
  have hwc : ∀ d ∈ StrChars.Road.wordsChN, d.before a0 Z = true := fun d hd => hw d (own_wordsChN d hd)
  have hwq : ∀ d ∈ StrChars.Road.wordsEq, d.before a0 Z = true := fun d hd => hw d (own_wordsEq d hd)
  have hws : ∀ d ∈ StrChars.Road.words, d.before a0 Z = true := fun d hd => hw d (own_words d hd)
  have pre0 : ∀ t, Steps p.tables e below (s₁.setTop (mkF m 0 #[.val (.int q0), .val (.int q1), .val (.int q2), .val (.int q3), .val (.int q4), .unset, .unset, .unset, .unset, .unset, .unset, .unset, .unset, .unset] [])) t → Steps p.tables e below (s₁.setTop (entryFrame m #[(.int q0), (.int q1), (.int q2), (.int q3), (.int q4)] maxLocals)) t := fun t k => castTop (ef_rm_law m q0 q1 q2 q3 q4) k
  have S1 : ∀ t, Steps p.tables e below (s₁.setTop (mkF m 9 #[.val (.int q0), .val (.int q1), .val (.int q2), .val (.int q3), .val (.int q4), .unset, .unset, .unset, .unset, .unset, .unset, .unset, .unset, .unset] [(.int ((6 : Int32) + ((q0 &&& (2147483647 : Int32)) % (5 : Int32))))])) t → Steps p.tables e below (s₁.setTop (mkF m 0 #[.val (.int q0), .val (.int q1), .val (.int q2), .val (.int q3), .val (.int q4), .unset, .unset, .unset, .unset, .unset, .unset, .unset, .unset, .unset] [])) t := by
    intro t kt
    refine XS.bipush X0.here hx rfl (hb hby at_0) ?_
    refine XS.iloadN X0.here hx rfl (hb hby at_2) rfl ?_
    show Steps p.tables e below (s₁.setTop (mkF m 3 #[.val (.int q0), .val (.int q1), .val (.int q2), .val (.int q3), .val (.int q4), .unset, .unset, .unset, .unset, .unset, .unset, .unset, .unset, .unset] [(.int q0), (.int (6 : Int32))])) _
    refine Jvm.Stand.ldcI (g := (mkF m 3 #[.val (.int q0), .val (.int q1), .val (.int q2), .val (.int q3), .val (.int q4), .unset, .unset, .unset, .unset, .unset, .unset, .unset, .unset, .unset] [(.int q0), (.int (6 : Int32))])) X0 hx ho0 (mvT hZ0 (own_w hw 0 rfl)) rfl (hb hby at_3) ?_
    refine XS.iand X0.here hx rfl (hb hby at_5) rfl ?_
    refine XS.iconst X0.here hx rfl (hb hby at_6) ?_
    show Steps p.tables e below (s₁.setTop (mkF m 7 #[.val (.int q0), .val (.int q1), .val (.int q2), .val (.int q3), .val (.int q4), .unset, .unset, .unset, .unset, .unset, .unset, .unset, .unset, .unset] [(.int (5 : Int32)), (.int (q0 &&& (2147483647 : Int32))), (.int (6 : Int32))])) _
    refine Jvm.RoadKit.iremM (g := (mkF m 7 #[.val (.int q0), .val (.int q1), .val (.int q2), .val (.int q3), .val (.int q4), .unset, .unset, .unset, .unset, .unset, .unset, .unset, .unset, .unset] [(.int (5 : Int32)), (.int (q0 &&& (2147483647 : Int32))), (.int (6 : Int32))])) X0 hx rfl (hb hby at_7) rfl (by decide) ?_
    refine XS.iadd X0.here hx rfl (hb hby at_8) rfl ?_
    exact kt
  obtain ⟨nv, h_nv⟩ : ∃ z, z = ((6 : Int32) + ((q0 &&& (2147483647 : Int32)) % (5 : Int32))) := ⟨_, rfl⟩
  have S2 : ∀ t, Steps p.tables e below (s₁.setTop (mkF m 9 #[.val (.int q0), .val (.int q1), .val (.int q2), .val (.int q3), .val (.int q4), .unset, .unset, .unset, .unset, .unset, .unset, .unset, .unset, .unset] [(.int nv)])) t → Steps p.tables e below (s₁.setTop (mkF m 0 #[.val (.int q0), .val (.int q1), .val (.int q2), .val (.int q3), .val (.int q4), .unset, .unset, .unset, .unset, .unset, .unset, .unset, .unset, .unset] [])) t := by rw [h_nv]; exact S1
  have hn := own_n5 q0 nv h_nv
  have S3 : ∀ t, Steps p.tables e below (s₁.setTop (mkF m 14 #[.val (.int q0), .val (.int q1), .val (.int q2), .val (.int q3), .val (.int q4), .val (.int nv), .unset, .unset, .unset, .unset, .unset, .unset, .unset, .unset] [(.int (q1 &&& (1 : Int32)))])) t → Steps p.tables e below (s₁.setTop (mkF m 0 #[.val (.int q0), .val (.int q1), .val (.int q2), .val (.int q3), .val (.int q4), .unset, .unset, .unset, .unset, .unset, .unset, .unset, .unset, .unset] [])) t := by
    intro t kt
    refine S2 t ?_
    refine XS.istore X0.here hx rfl (hb hby at_9) rfl (l' := #[.val (.int q0), .val (.int q1), .val (.int q2), .val (.int q3), .val (.int q4), .val (.int nv), .unset, .unset, .unset, .unset, .unset, .unset, .unset, .unset]) rfl ?_
    refine XS.iloadN X0.here hx rfl (hb hby at_11) rfl ?_
    refine XS.iconst X0.here hx rfl (hb hby at_12) ?_
    refine XS.iand X0.here hx rfl (hb hby at_13) rfl ?_
    exact kt
  rcases Decidable.em ((q1 &&& (1 : Int32)) = (0 : Int32)) with c4 | c4
  · obtain ⟨x5, T5, h5, q5, y5, j5, X5, e5, E5, hS5, hk5, hZ5, ho5, fE5, fC5, fV5, fA5, la5, lb5, C5, -, ns5, st5⟩ := ldcCH X0 hx hZ0 ho0 (own_w hw 88 rfl) own_at e0 hS0 hk0 own_ew (by decide) CR0.1 (vs := [(.int (105 : Int32).toInt8.toInt32), (.int (110 : Int32).toInt8.toInt32), (.int (102 : Int32).toInt8.toInt32), (.int (105 : Int32).toInt8.toInt32), (.int (110 : Int32).toInt8.toInt32), (.int (105 : Int32).toInt8.toInt32), (.int (116 : Int32).toInt8.toInt32), (.int (121 : Int32).toInt8.toInt32)]) (z := (8 : Int32)) ⟨by decide, by decide +kernel⟩ (by decide) rfl (g := (mkF m 34 #[.val (.int q0), .val (.int q1), .val (.int q2), .val (.int q3), .val (.int q4), .val (.int nv), .val (.int (0 : Int32)), .unset, .unset, .unset, .unset, .unset, .unset, .unset] [])) rfl (hb hby at_34) (n := 36) (by decide) (by decide) (by decide) (by decide)
    have O6 := O0.ext E5
    have CR7 := CR0.trans C5
    obtain ⟨T8, h8, k8, X8, e8, E8, A8, B8, st8⟩ := newPE X5 hx hZ5 (own_w hw 9 rfl) e5 (g := (mkF m 49 #[.val (.int q0), .val (.int q1), .val (.int q2), .val (.int q3), .val (.int q4), .val (.int nv), .val (.int (0 : Int32)), .val (.ref x5), .val (.int (q4 &&& (255 : Int32))), .unset, .unset, .unset, .unset, .unset] [(.int (10 : Int32))])) rfl (hb hby at_49) rfl (by decide) (cap := 10) (by decide) (by decide) (by decide) (by decide) (ad := "[C") (by first | rfl | decide)
    obtain ⟨b8, g8⟩ : ∃ z, z = h5.size := ⟨_, rfl⟩
    have ge_b8 : n0 ≤ b8 := by rw [g8, ← O6.1]; exact O6.2.1
    have ne9 : x5 ≠ b8 := Nat.ne_of_lt (Nat.lt_of_lt_of_le (Exa.lt fE5) (Nat.le_of_eq g8.symm))
    have ne10 : y5 ≠ b8 := Nat.ne_of_lt (Nat.lt_of_lt_of_le (Arv.lt fA5) (Nat.le_of_eq g8.symm))
    rw [← g8] at A8 B8 st8
    have CR11 := CR7.trans (CHr.ext E8 CR7.1)
    have hk12 := Nat.le_trans hk5 E8.1
    have O13 := O6.ext E8
    have F8 : Arv Z h8 b8 k8 .char (10 : Int32) [(.int (0 : Int32)), (.int (0 : Int32)), (.int (0 : Int32)), (.int (0 : Int32)), (.int (0 : Int32)), (.int (0 : Int32)), (.int (0 : Int32)), (.int (0 : Int32)), (.int (0 : Int32)), (.int (0 : Int32))] (.int (0 : Int32)) := (Arv.new A8 (by decide)).pad (pad_rep [] (.int (0 : Int32)) 10)
    have f15 := (Exa.ext E8 fE5)
    have f16 := (Fld.ext E8 fV5)
    have f17 := (Fld.ext E8 fC5)
    have f18 := (Arv.ext fA5 E8)
    obtain ⟨_, _, ⟨T14, L14, k14, n14⟩, -, X14, ⟨Lc14, hQ14, l14, y14, z14⟩, st14⟩ := Jvm.LawKit.callS X8 hx (y := (⟨"com/example/logtide/logtide/event/TemporalTextIsInfinitePinLaw", "at", "(Ljava/lang/String;IC)C"⟩ : MethodName)) ho5 (mvT hZ5 (own_w hw 10 rfl)) (mvT hZ5 (own_w hw 11 rfl)) (mvT hZ5 (own_w hw 12 rfl)) (mvT hZ5 (own_w hw 13 rfl)) (by decide) (backOf (W := 2) (rm_at8_0 l Z a0 hw [] x5 y5 j5 (q4 &&& (255 : Int32)) zc fm h8 n0 O13 f15 f16 f17 f18 (own_lat _) S_C hzc S_F hfm) hZ5 (own_w hw 13 rfl) (own_w hw 12 rfl) (by decide) (by decide)) (g := (mkF m 61 #[.val (.int q0), .val (.int q1), .val (.int q2), .val (.int q3), .val (.int q4), .val (.int nv), .val (.int (0 : Int32)), .val (.ref x5), .val (.int (q4 &&& (255 : Int32))), .val (.ref b8), .unset, .unset, .unset, .unset] [(.int (q4 &&& (255 : Int32))), (.int (0 : Int32)), (.ref x5), (.int (0 : Int32)), (.ref b8)])) rfl (by rw [hml]; rfl) (argsL := [(.ref x5), (.int (0 : Int32)), (.int (q4 &&& (255 : Int32)))]) (rest := [(.int (0 : Int32)), (.ref b8)]) (lenOf pd_6 rfl) rfl (by show 2 * 0 + _ ≤ _; exact Nat.le_of_eq rfl) (hb hby at_61) (fun _ _ => ⟨rfl, e8, (by decide : 3 + 0 ≤ _), (by decide : 50 + 0 ≤ _)⟩)
    dsimp only [Pt.U, Pt.locs, Pt.cells, Pt.slots] at X14 l14 y14 z14 st14 hQ14
    subst l14 y14 z14
    obtain ⟨rfl, N19, k20⟩ := hQ14
    have N21 := Fr.app N0 N19
    obtain ⟨cl22, Ar22, q22, Sz22, Nn22, Hh22, Gg22⟩ := id F8
    have in22 : ¬ ((0 : Int32) < 0 ∨ cl22.slots.size ≤ ((0 : Int32)).toNatClampNeg) := inb_of Sz22 ⟨by decide, by decide⟩
    obtain ⟨T22, h22, X22, e22, W22, st22⟩ := stC X14 hx hZ5 k20 Ar22 (j := (0 : Int32)) in22 (g := (mkF m 64 #[.val (.int q0), .val (.int q1), .val (.int q2), .val (.int q3), .val (.int q4), .val (.int nv), .val (.int (0 : Int32)), .val (.ref x5), .val (.int (q4 &&& (255 : Int32))), .val (.ref b8), .unset, .unset, .unset, .unset] [(.int (105 : Int32)), (.int (0 : Int32)), (.ref b8)])) rfl rfl (hb hby at_64)
    rw [show nar .char (105 : Int32) = (105 : Int32) from rfl] at W22
    have CR23 := CR11.trans (CHr.wr W22 (Safe.exa hZ5.alike B8 (by decide) (by decide)) CR11.1)
    have hk24 := Nat.le_trans hk12 (Keep.of_wr W22).1
    have O25 := O13.wr W22 ge_b8
    have N26 := Fr.snoc X22 N21 ge_b8
    have F22 : Arv Z h22 b8 k8 .char (10 : Int32) [(.int (105 : Int32)), (.int (0 : Int32)), (.int (0 : Int32)), (.int (0 : Int32)), (.int (0 : Int32)), (.int (0 : Int32)), (.int (0 : Int32)), (.int (0 : Int32)), (.int (0 : Int32)), (.int (0 : Int32))] (.int (0 : Int32)) := Arv.set Ar22 q22 Sz22 Nn22 Hh22 Gg22 rfl W22 0 rfl (Nat.le_of_ble_eq_true rfl)
    have f28 := (Exa.wr W22 f15)
    have f29 := (Fld.other W22 f16 (Or.inl ne9))
    have f30 := (Fld.other W22 f17 (Or.inl ne9))
    have f31 := (Arv.other f18 W22 ne10)
    obtain ⟨_, _, ⟨T27, L27, k27, n27⟩, -, X27, ⟨Lc27, hQ27, l27, y27, z27⟩, st27⟩ := Jvm.LawKit.callS X22 hx (y := (⟨"com/example/logtide/logtide/event/TemporalTextIsInfinitePinLaw", "at", "(Ljava/lang/String;IC)C"⟩ : MethodName)) ho5 (mvT hZ5 (own_w hw 10 rfl)) (mvT hZ5 (own_w hw 11 rfl)) (mvT hZ5 (own_w hw 12 rfl)) (mvT hZ5 (own_w hw 13 rfl)) (by decide) (backOf (W := 2) (rm_at8_1 l Z a0 hw [] x5 y5 j5 (q4 &&& (255 : Int32)) zc fm h22 n0 O25 f28 f29 f30 f31 (own_lat _) S_C hzc S_F hfm) hZ5 (own_w hw 13 rfl) (own_w hw 12 rfl) (by decide) (by decide)) (g := (mkF m 73 #[.val (.int q0), .val (.int q1), .val (.int q2), .val (.int q3), .val (.int q4), .val (.int nv), .val (.int (0 : Int32)), .val (.ref x5), .val (.int (q4 &&& (255 : Int32))), .val (.ref b8), .unset, .unset, .unset, .unset] [(.int (q4 &&& (255 : Int32))), (.int (1 : Int32)), (.ref x5), (.int (1 : Int32)), (.ref b8)])) rfl (by rw [hml]; rfl) (argsL := [(.ref x5), (.int (1 : Int32)), (.int (q4 &&& (255 : Int32)))]) (rest := [(.int (1 : Int32)), (.ref b8)]) (lenOf pd_6 rfl) rfl (by show 2 * 0 + _ ≤ _; exact Nat.le_of_eq rfl) (hb hby at_73) (fun _ _ => ⟨rfl, e22, (by decide : 3 + 0 ≤ _), (by decide : 50 + 0 ≤ _)⟩)
    dsimp only [Pt.U, Pt.locs, Pt.cells, Pt.slots] at X27 l27 y27 z27 st27 hQ27
    subst l27 y27 z27
    obtain ⟨rfl, N32, k33⟩ := hQ27
    have N34 := Fr.app N26 N32
    obtain ⟨cl35, Ar35, q35, Sz35, Nn35, Hh35, Gg35⟩ := id F22
    have in35 : ¬ ((1 : Int32) < 0 ∨ cl35.slots.size ≤ ((1 : Int32)).toNatClampNeg) := inb_of Sz35 ⟨by decide, by decide⟩
    obtain ⟨T35, h35, X35, e35, W35, st35⟩ := stC X27 hx hZ5 k33 Ar35 (j := (1 : Int32)) in35 (g := (mkF m 76 #[.val (.int q0), .val (.int q1), .val (.int q2), .val (.int q3), .val (.int q4), .val (.int nv), .val (.int (0 : Int32)), .val (.ref x5), .val (.int (q4 &&& (255 : Int32))), .val (.ref b8), .unset, .unset, .unset, .unset] [(.int (110 : Int32)), (.int (1 : Int32)), (.ref b8)])) rfl rfl (hb hby at_76)
    rw [show nar .char (110 : Int32) = (110 : Int32) from rfl] at W35
    have f36 := (Exa.wr W22 B8)
    have CR37 := CR23.trans (CHr.wr W35 (Safe.exa hZ5.alike f36 (by decide) (by decide)) CR23.1)
    have hk38 := Nat.le_trans hk24 (Keep.of_wr W35).1
    have O39 := O25.wr W35 ge_b8
    have N40 := Fr.snoc X35 N34 ge_b8
    have F35 : Arv Z h35 b8 k8 .char (10 : Int32) [(.int (105 : Int32)), (.int (110 : Int32)), (.int (0 : Int32)), (.int (0 : Int32)), (.int (0 : Int32)), (.int (0 : Int32)), (.int (0 : Int32)), (.int (0 : Int32)), (.int (0 : Int32)), (.int (0 : Int32))] (.int (0 : Int32)) := Arv.set Ar35 q35 Sz35 Nn35 Hh35 Gg35 rfl W35 1 rfl (Nat.le_of_ble_eq_true rfl)
    have f42 := (Exa.wr W35 f28)
    have f43 := (Fld.other W35 f29 (Or.inl ne9))
    have f44 := (Fld.other W35 f30 (Or.inl ne9))
    have f45 := (Arv.other f31 W35 ne10)
    obtain ⟨_, _, ⟨T41, L41, k41, n41⟩, -, X41, ⟨Lc41, hQ41, l41, y41, z41⟩, st41⟩ := Jvm.LawKit.callS X35 hx (y := (⟨"com/example/logtide/logtide/event/TemporalTextIsInfinitePinLaw", "at", "(Ljava/lang/String;IC)C"⟩ : MethodName)) ho5 (mvT hZ5 (own_w hw 10 rfl)) (mvT hZ5 (own_w hw 11 rfl)) (mvT hZ5 (own_w hw 12 rfl)) (mvT hZ5 (own_w hw 13 rfl)) (by decide) (backOf (W := 2) (rm_at8_2 l Z a0 hw [] x5 y5 j5 (q4 &&& (255 : Int32)) zc fm h35 n0 O39 f42 f43 f44 f45 (own_lat _) S_C hzc S_F hfm) hZ5 (own_w hw 13 rfl) (own_w hw 12 rfl) (by decide) (by decide)) (g := (mkF m 85 #[.val (.int q0), .val (.int q1), .val (.int q2), .val (.int q3), .val (.int q4), .val (.int nv), .val (.int (0 : Int32)), .val (.ref x5), .val (.int (q4 &&& (255 : Int32))), .val (.ref b8), .unset, .unset, .unset, .unset] [(.int (q4 &&& (255 : Int32))), (.int (2 : Int32)), (.ref x5), (.int (2 : Int32)), (.ref b8)])) rfl (by rw [hml]; rfl) (argsL := [(.ref x5), (.int (2 : Int32)), (.int (q4 &&& (255 : Int32)))]) (rest := [(.int (2 : Int32)), (.ref b8)]) (lenOf pd_6 rfl) rfl (by show 2 * 0 + _ ≤ _; exact Nat.le_of_eq rfl) (hb hby at_85) (fun _ _ => ⟨rfl, e35, (by decide : 3 + 0 ≤ _), (by decide : 50 + 0 ≤ _)⟩)
    dsimp only [Pt.U, Pt.locs, Pt.cells, Pt.slots] at X41 l41 y41 z41 st41 hQ41
    subst l41 y41 z41
    obtain ⟨rfl, N46, k47⟩ := hQ41
    have N48 := Fr.app N40 N46
    obtain ⟨cl49, Ar49, q49, Sz49, Nn49, Hh49, Gg49⟩ := id F35
    have in49 : ¬ ((2 : Int32) < 0 ∨ cl49.slots.size ≤ ((2 : Int32)).toNatClampNeg) := inb_of Sz49 ⟨by decide, by decide⟩
    obtain ⟨T49, h49, X49, e49, W49, st49⟩ := stC X41 hx hZ5 k47 Ar49 (j := (2 : Int32)) in49 (g := (mkF m 88 #[.val (.int q0), .val (.int q1), .val (.int q2), .val (.int q3), .val (.int q4), .val (.int nv), .val (.int (0 : Int32)), .val (.ref x5), .val (.int (q4 &&& (255 : Int32))), .val (.ref b8), .unset, .unset, .unset, .unset] [(.int (102 : Int32)), (.int (2 : Int32)), (.ref b8)])) rfl rfl (hb hby at_88)
    rw [show nar .char (102 : Int32) = (102 : Int32) from rfl] at W49
    have f50 := (Exa.wr W35 f36)
    have CR51 := CR37.trans (CHr.wr W49 (Safe.exa hZ5.alike f50 (by decide) (by decide)) CR37.1)
    have hk52 := Nat.le_trans hk38 (Keep.of_wr W49).1
    have O53 := O39.wr W49 ge_b8
    have N54 := Fr.snoc X49 N48 ge_b8
    have F49 : Arv Z h49 b8 k8 .char (10 : Int32) [(.int (105 : Int32)), (.int (110 : Int32)), (.int (102 : Int32)), (.int (0 : Int32)), (.int (0 : Int32)), (.int (0 : Int32)), (.int (0 : Int32)), (.int (0 : Int32)), (.int (0 : Int32)), (.int (0 : Int32))] (.int (0 : Int32)) := Arv.set Ar49 q49 Sz49 Nn49 Hh49 Gg49 rfl W49 2 rfl (Nat.le_of_ble_eq_true rfl)
    have f56 := (Exa.wr W49 f42)
    have f57 := (Fld.other W49 f43 (Or.inl ne9))
    have f58 := (Fld.other W49 f44 (Or.inl ne9))
    have f59 := (Arv.other f45 W49 ne10)
    obtain ⟨_, _, ⟨T55, L55, k55, n55⟩, -, X55, ⟨Lc55, hQ55, l55, y55, z55⟩, st55⟩ := Jvm.LawKit.callS X49 hx (y := (⟨"com/example/logtide/logtide/event/TemporalTextIsInfinitePinLaw", "at", "(Ljava/lang/String;IC)C"⟩ : MethodName)) ho5 (mvT hZ5 (own_w hw 10 rfl)) (mvT hZ5 (own_w hw 11 rfl)) (mvT hZ5 (own_w hw 12 rfl)) (mvT hZ5 (own_w hw 13 rfl)) (by decide) (backOf (W := 2) (rm_at8_3 l Z a0 hw [] x5 y5 j5 (q4 &&& (255 : Int32)) zc fm h49 n0 O53 f56 f57 f58 f59 (own_lat _) S_C hzc S_F hfm) hZ5 (own_w hw 13 rfl) (own_w hw 12 rfl) (by decide) (by decide)) (g := (mkF m 97 #[.val (.int q0), .val (.int q1), .val (.int q2), .val (.int q3), .val (.int q4), .val (.int nv), .val (.int (0 : Int32)), .val (.ref x5), .val (.int (q4 &&& (255 : Int32))), .val (.ref b8), .unset, .unset, .unset, .unset] [(.int (q4 &&& (255 : Int32))), (.int (3 : Int32)), (.ref x5), (.int (3 : Int32)), (.ref b8)])) rfl (by rw [hml]; rfl) (argsL := [(.ref x5), (.int (3 : Int32)), (.int (q4 &&& (255 : Int32)))]) (rest := [(.int (3 : Int32)), (.ref b8)]) (lenOf pd_6 rfl) rfl (by show 2 * 0 + _ ≤ _; exact Nat.le_of_eq rfl) (hb hby at_97) (fun _ _ => ⟨rfl, e49, (by decide : 3 + 0 ≤ _), (by decide : 50 + 0 ≤ _)⟩)
    dsimp only [Pt.U, Pt.locs, Pt.cells, Pt.slots] at X55 l55 y55 z55 st55 hQ55
    subst l55 y55 z55
    obtain ⟨rfl, N60, k61⟩ := hQ55
    have N62 := Fr.app N54 N60
    obtain ⟨cl63, Ar63, q63, Sz63, Nn63, Hh63, Gg63⟩ := id F49
    have in63 : ¬ ((3 : Int32) < 0 ∨ cl63.slots.size ≤ ((3 : Int32)).toNatClampNeg) := inb_of Sz63 ⟨by decide, by decide⟩
    obtain ⟨T63, h63, X63, e63, W63, st63⟩ := stC X55 hx hZ5 k61 Ar63 (j := (3 : Int32)) in63 (g := (mkF m 100 #[.val (.int q0), .val (.int q1), .val (.int q2), .val (.int q3), .val (.int q4), .val (.int nv), .val (.int (0 : Int32)), .val (.ref x5), .val (.int (q4 &&& (255 : Int32))), .val (.ref b8), .unset, .unset, .unset, .unset] [(.int (105 : Int32)), (.int (3 : Int32)), (.ref b8)])) rfl rfl (hb hby at_100)
    rw [show nar .char (105 : Int32) = (105 : Int32) from rfl] at W63
    have f64 := (Exa.wr W49 f50)
    have CR65 := CR51.trans (CHr.wr W63 (Safe.exa hZ5.alike f64 (by decide) (by decide)) CR51.1)
    have hk66 := Nat.le_trans hk52 (Keep.of_wr W63).1
    have O67 := O53.wr W63 ge_b8
    have N68 := Fr.snoc X63 N62 ge_b8
    have F63 : Arv Z h63 b8 k8 .char (10 : Int32) [(.int (105 : Int32)), (.int (110 : Int32)), (.int (102 : Int32)), (.int (105 : Int32)), (.int (0 : Int32)), (.int (0 : Int32)), (.int (0 : Int32)), (.int (0 : Int32)), (.int (0 : Int32)), (.int (0 : Int32))] (.int (0 : Int32)) := Arv.set Ar63 q63 Sz63 Nn63 Hh63 Gg63 rfl W63 3 rfl (Nat.le_of_ble_eq_true rfl)
    have f70 := (Exa.wr W63 f56)
    have f71 := (Fld.other W63 f57 (Or.inl ne9))
    have f72 := (Fld.other W63 f58 (Or.inl ne9))
    have f73 := (Arv.other f59 W63 ne10)
    obtain ⟨_, _, ⟨T69, L69, k69, n69⟩, -, X69, ⟨Lc69, hQ69, l69, y69, z69⟩, st69⟩ := Jvm.LawKit.callS X63 hx (y := (⟨"com/example/logtide/logtide/event/TemporalTextIsInfinitePinLaw", "at", "(Ljava/lang/String;IC)C"⟩ : MethodName)) ho5 (mvT hZ5 (own_w hw 10 rfl)) (mvT hZ5 (own_w hw 11 rfl)) (mvT hZ5 (own_w hw 12 rfl)) (mvT hZ5 (own_w hw 13 rfl)) (by decide) (backOf (W := 2) (rm_at8_4 l Z a0 hw [] x5 y5 j5 (q4 &&& (255 : Int32)) zc fm h63 n0 O67 f70 f71 f72 f73 (own_lat _) S_C hzc S_F hfm) hZ5 (own_w hw 13 rfl) (own_w hw 12 rfl) (by decide) (by decide)) (g := (mkF m 109 #[.val (.int q0), .val (.int q1), .val (.int q2), .val (.int q3), .val (.int q4), .val (.int nv), .val (.int (0 : Int32)), .val (.ref x5), .val (.int (q4 &&& (255 : Int32))), .val (.ref b8), .unset, .unset, .unset, .unset] [(.int (q4 &&& (255 : Int32))), (.int (4 : Int32)), (.ref x5), (.int (4 : Int32)), (.ref b8)])) rfl (by rw [hml]; rfl) (argsL := [(.ref x5), (.int (4 : Int32)), (.int (q4 &&& (255 : Int32)))]) (rest := [(.int (4 : Int32)), (.ref b8)]) (lenOf pd_6 rfl) rfl (by show 2 * 0 + _ ≤ _; exact Nat.le_of_eq rfl) (hb hby at_109) (fun _ _ => ⟨rfl, e63, (by decide : 3 + 0 ≤ _), (by decide : 50 + 0 ≤ _)⟩)
    dsimp only [Pt.U, Pt.locs, Pt.cells, Pt.slots] at X69 l69 y69 z69 st69 hQ69
    subst l69 y69 z69
    obtain ⟨rfl, N74, k75⟩ := hQ69
    have N76 := Fr.app N68 N74
    obtain ⟨cl77, Ar77, q77, Sz77, Nn77, Hh77, Gg77⟩ := id F63
    have in77 : ¬ ((4 : Int32) < 0 ∨ cl77.slots.size ≤ ((4 : Int32)).toNatClampNeg) := inb_of Sz77 ⟨by decide, by decide⟩
    obtain ⟨T77, h77, X77, e77, W77, st77⟩ := stC X69 hx hZ5 k75 Ar77 (j := (4 : Int32)) in77 (g := (mkF m 112 #[.val (.int q0), .val (.int q1), .val (.int q2), .val (.int q3), .val (.int q4), .val (.int nv), .val (.int (0 : Int32)), .val (.ref x5), .val (.int (q4 &&& (255 : Int32))), .val (.ref b8), .unset, .unset, .unset, .unset] [(.int (110 : Int32)), (.int (4 : Int32)), (.ref b8)])) rfl rfl (hb hby at_112)
    rw [show nar .char (110 : Int32) = (110 : Int32) from rfl] at W77
    have f78 := (Exa.wr W63 f64)
    have CR79 := CR65.trans (CHr.wr W77 (Safe.exa hZ5.alike f78 (by decide) (by decide)) CR65.1)
    have hk80 := Nat.le_trans hk66 (Keep.of_wr W77).1
    have O81 := O67.wr W77 ge_b8
    have N82 := Fr.snoc X77 N76 ge_b8
    have F77 : Arv Z h77 b8 k8 .char (10 : Int32) [(.int (105 : Int32)), (.int (110 : Int32)), (.int (102 : Int32)), (.int (105 : Int32)), (.int (110 : Int32)), (.int (0 : Int32)), (.int (0 : Int32)), (.int (0 : Int32)), (.int (0 : Int32)), (.int (0 : Int32))] (.int (0 : Int32)) := Arv.set Ar77 q77 Sz77 Nn77 Hh77 Gg77 rfl W77 4 rfl (Nat.le_of_ble_eq_true rfl)
    have f84 := (Exa.wr W77 f70)
    have f85 := (Fld.other W77 f71 (Or.inl ne9))
    have f86 := (Fld.other W77 f72 (Or.inl ne9))
    have f87 := (Arv.other f73 W77 ne10)
    obtain ⟨_, _, ⟨T83, L83, k83, n83⟩, -, X83, ⟨Lc83, hQ83, l83, y83, z83⟩, st83⟩ := Jvm.LawKit.callS X77 hx (y := (⟨"com/example/logtide/logtide/event/TemporalTextIsInfinitePinLaw", "at", "(Ljava/lang/String;IC)C"⟩ : MethodName)) ho5 (mvT hZ5 (own_w hw 10 rfl)) (mvT hZ5 (own_w hw 11 rfl)) (mvT hZ5 (own_w hw 12 rfl)) (mvT hZ5 (own_w hw 13 rfl)) (by decide) (backOf (W := 2) (rm_at8_5 l Z a0 hw [] x5 y5 j5 (q4 &&& (255 : Int32)) zc fm h77 n0 O81 f84 f85 f86 f87 (own_lat _) S_C hzc S_F hfm) hZ5 (own_w hw 13 rfl) (own_w hw 12 rfl) (by decide) (by decide)) (g := (mkF m 121 #[.val (.int q0), .val (.int q1), .val (.int q2), .val (.int q3), .val (.int q4), .val (.int nv), .val (.int (0 : Int32)), .val (.ref x5), .val (.int (q4 &&& (255 : Int32))), .val (.ref b8), .unset, .unset, .unset, .unset] [(.int (q4 &&& (255 : Int32))), (.int (5 : Int32)), (.ref x5), (.int (5 : Int32)), (.ref b8)])) rfl (by rw [hml]; rfl) (argsL := [(.ref x5), (.int (5 : Int32)), (.int (q4 &&& (255 : Int32)))]) (rest := [(.int (5 : Int32)), (.ref b8)]) (lenOf pd_6 rfl) rfl (by show 2 * 0 + _ ≤ _; exact Nat.le_of_eq rfl) (hb hby at_121) (fun _ _ => ⟨rfl, e77, (by decide : 3 + 0 ≤ _), (by decide : 50 + 0 ≤ _)⟩)
    dsimp only [Pt.U, Pt.locs, Pt.cells, Pt.slots] at X83 l83 y83 z83 st83 hQ83
    subst l83 y83 z83
    obtain ⟨rfl, N88, k89⟩ := hQ83
    have N90 := Fr.app N82 N88
    obtain ⟨cl91, Ar91, q91, Sz91, Nn91, Hh91, Gg91⟩ := id F77
    have in91 : ¬ ((5 : Int32) < 0 ∨ cl91.slots.size ≤ ((5 : Int32)).toNatClampNeg) := inb_of Sz91 ⟨by decide, by decide⟩
    obtain ⟨T91, h91, X91, e91, W91, st91⟩ := stC X83 hx hZ5 k89 Ar91 (j := (5 : Int32)) in91 (g := (mkF m 124 #[.val (.int q0), .val (.int q1), .val (.int q2), .val (.int q3), .val (.int q4), .val (.int nv), .val (.int (0 : Int32)), .val (.ref x5), .val (.int (q4 &&& (255 : Int32))), .val (.ref b8), .unset, .unset, .unset, .unset] [(.int (105 : Int32)), (.int (5 : Int32)), (.ref b8)])) rfl rfl (hb hby at_124)
    rw [show nar .char (105 : Int32) = (105 : Int32) from rfl] at W91
    have f92 := (Exa.wr W77 f78)
    have CR93 := CR79.trans (CHr.wr W91 (Safe.exa hZ5.alike f92 (by decide) (by decide)) CR79.1)
    have hk94 := Nat.le_trans hk80 (Keep.of_wr W91).1
    have O95 := O81.wr W91 ge_b8
    have N96 := Fr.snoc X91 N90 ge_b8
    have F91 : Arv Z h91 b8 k8 .char (10 : Int32) [(.int (105 : Int32)), (.int (110 : Int32)), (.int (102 : Int32)), (.int (105 : Int32)), (.int (110 : Int32)), (.int (105 : Int32)), (.int (0 : Int32)), (.int (0 : Int32)), (.int (0 : Int32)), (.int (0 : Int32))] (.int (0 : Int32)) := Arv.set Ar91 q91 Sz91 Nn91 Hh91 Gg91 rfl W91 5 rfl (Nat.le_of_ble_eq_true rfl)
    have f98 := (Exa.wr W91 f84)
    have f99 := (Fld.other W91 f85 (Or.inl ne9))
    have f100 := (Fld.other W91 f86 (Or.inl ne9))
    have f101 := (Arv.other f87 W91 ne10)
    obtain ⟨_, _, ⟨T97, L97, k97, n97⟩, -, X97, ⟨Lc97, hQ97, l97, y97, z97⟩, st97⟩ := Jvm.LawKit.callS X91 hx (y := (⟨"com/example/logtide/logtide/event/TemporalTextIsInfinitePinLaw", "at", "(Ljava/lang/String;IC)C"⟩ : MethodName)) ho5 (mvT hZ5 (own_w hw 10 rfl)) (mvT hZ5 (own_w hw 11 rfl)) (mvT hZ5 (own_w hw 12 rfl)) (mvT hZ5 (own_w hw 13 rfl)) (by decide) (backOf (W := 2) (rm_at8_6 l Z a0 hw [] x5 y5 j5 (q4 &&& (255 : Int32)) zc fm h91 n0 O95 f98 f99 f100 f101 (own_lat _) S_C hzc S_F hfm) hZ5 (own_w hw 13 rfl) (own_w hw 12 rfl) (by decide) (by decide)) (g := (mkF m 135 #[.val (.int q0), .val (.int q1), .val (.int q2), .val (.int q3), .val (.int q4), .val (.int nv), .val (.int (0 : Int32)), .val (.ref x5), .val (.int (q4 &&& (255 : Int32))), .val (.ref b8), .unset, .unset, .unset, .unset] [(.int (q4 &&& (255 : Int32))), (.int (6 : Int32)), (.ref x5), (.int (6 : Int32)), (.ref b8)])) rfl (by rw [hml]; rfl) (argsL := [(.ref x5), (.int (6 : Int32)), (.int (q4 &&& (255 : Int32)))]) (rest := [(.int (6 : Int32)), (.ref b8)]) (lenOf pd_6 rfl) rfl (by show 2 * 0 + _ ≤ _; exact Nat.le_of_eq rfl) (hb hby at_135) (fun _ _ => ⟨rfl, e91, (by decide : 3 + 0 ≤ _), (by decide : 50 + 0 ≤ _)⟩)
    dsimp only [Pt.U, Pt.locs, Pt.cells, Pt.slots] at X97 l97 y97 z97 st97 hQ97
    subst l97 y97 z97
    obtain ⟨rfl, N102, k103⟩ := hQ97
    have N104 := Fr.app N96 N102
    obtain ⟨cl105, Ar105, q105, Sz105, Nn105, Hh105, Gg105⟩ := id F91
    have in105 : ¬ ((6 : Int32) < 0 ∨ cl105.slots.size ≤ ((6 : Int32)).toNatClampNeg) := inb_of Sz105 ⟨by decide, by decide⟩
    obtain ⟨T105, h105, X105, e105, W105, st105⟩ := stC X97 hx hZ5 k103 Ar105 (j := (6 : Int32)) in105 (g := (mkF m 138 #[.val (.int q0), .val (.int q1), .val (.int q2), .val (.int q3), .val (.int q4), .val (.int nv), .val (.int (0 : Int32)), .val (.ref x5), .val (.int (q4 &&& (255 : Int32))), .val (.ref b8), .unset, .unset, .unset, .unset] [(.int (116 : Int32)), (.int (6 : Int32)), (.ref b8)])) rfl rfl (hb hby at_138)
    rw [show nar .char (116 : Int32) = (116 : Int32) from rfl] at W105
    have f106 := (Exa.wr W91 f92)
    have CR107 := CR93.trans (CHr.wr W105 (Safe.exa hZ5.alike f106 (by decide) (by decide)) CR93.1)
    have hk108 := Nat.le_trans hk94 (Keep.of_wr W105).1
    have O109 := O95.wr W105 ge_b8
    have N110 := Fr.snoc X105 N104 ge_b8
    have F105 : Arv Z h105 b8 k8 .char (10 : Int32) [(.int (105 : Int32)), (.int (110 : Int32)), (.int (102 : Int32)), (.int (105 : Int32)), (.int (110 : Int32)), (.int (105 : Int32)), (.int (116 : Int32)), (.int (0 : Int32)), (.int (0 : Int32)), (.int (0 : Int32))] (.int (0 : Int32)) := Arv.set Ar105 q105 Sz105 Nn105 Hh105 Gg105 rfl W105 6 rfl (Nat.le_of_ble_eq_true rfl)
    have f112 := (Exa.wr W105 f98)
    have f113 := (Fld.other W105 f99 (Or.inl ne9))
    have f114 := (Fld.other W105 f100 (Or.inl ne9))
    have f115 := (Arv.other f101 W105 ne10)
    obtain ⟨_, _, ⟨T111, L111, k111, n111⟩, -, X111, ⟨Lc111, hQ111, l111, y111, z111⟩, st111⟩ := Jvm.LawKit.callS X105 hx (y := (⟨"com/example/logtide/logtide/event/TemporalTextIsInfinitePinLaw", "at", "(Ljava/lang/String;IC)C"⟩ : MethodName)) ho5 (mvT hZ5 (own_w hw 10 rfl)) (mvT hZ5 (own_w hw 11 rfl)) (mvT hZ5 (own_w hw 12 rfl)) (mvT hZ5 (own_w hw 13 rfl)) (by decide) (backOf (W := 2) (rm_at8_7 l Z a0 hw [] x5 y5 j5 (q4 &&& (255 : Int32)) zc fm h105 n0 O109 f112 f113 f114 f115 (own_lat _) S_C hzc S_F hfm) hZ5 (own_w hw 13 rfl) (own_w hw 12 rfl) (by decide) (by decide)) (g := (mkF m 149 #[.val (.int q0), .val (.int q1), .val (.int q2), .val (.int q3), .val (.int q4), .val (.int nv), .val (.int (0 : Int32)), .val (.ref x5), .val (.int (q4 &&& (255 : Int32))), .val (.ref b8), .unset, .unset, .unset, .unset] [(.int (q4 &&& (255 : Int32))), (.int (7 : Int32)), (.ref x5), (.int (7 : Int32)), (.ref b8)])) rfl (by rw [hml]; rfl) (argsL := [(.ref x5), (.int (7 : Int32)), (.int (q4 &&& (255 : Int32)))]) (rest := [(.int (7 : Int32)), (.ref b8)]) (lenOf pd_6 rfl) rfl (by show 2 * 0 + _ ≤ _; exact Nat.le_of_eq rfl) (hb hby at_149) (fun _ _ => ⟨rfl, e105, (by decide : 3 + 0 ≤ _), (by decide : 50 + 0 ≤ _)⟩)
    dsimp only [Pt.U, Pt.locs, Pt.cells, Pt.slots] at X111 l111 y111 z111 st111 hQ111
    subst l111 y111 z111
    obtain ⟨rfl, N116, k117⟩ := hQ111
    have N118 := Fr.app N110 N116
    obtain ⟨cl119, Ar119, q119, Sz119, Nn119, Hh119, Gg119⟩ := id F105
    have in119 : ¬ ((7 : Int32) < 0 ∨ cl119.slots.size ≤ ((7 : Int32)).toNatClampNeg) := inb_of Sz119 ⟨by decide, by decide⟩
    obtain ⟨T119, h119, X119, e119, W119, st119⟩ := stC X111 hx hZ5 k117 Ar119 (j := (7 : Int32)) in119 (g := (mkF m 152 #[.val (.int q0), .val (.int q1), .val (.int q2), .val (.int q3), .val (.int q4), .val (.int nv), .val (.int (0 : Int32)), .val (.ref x5), .val (.int (q4 &&& (255 : Int32))), .val (.ref b8), .unset, .unset, .unset, .unset] [(.int (121 : Int32)), (.int (7 : Int32)), (.ref b8)])) rfl rfl (hb hby at_152)
    rw [show nar .char (121 : Int32) = (121 : Int32) from rfl] at W119
    have f120 := (Exa.wr W105 f106)
    have CR121 := CR107.trans (CHr.wr W119 (Safe.exa hZ5.alike f120 (by decide) (by decide)) CR107.1)
    have hk122 := Nat.le_trans hk108 (Keep.of_wr W119).1
    have O123 := O109.wr W119 ge_b8
    have N124 := Fr.snoc X119 N118 ge_b8
    have F119 : Arv Z h119 b8 k8 .char (10 : Int32) [(.int (105 : Int32)), (.int (110 : Int32)), (.int (102 : Int32)), (.int (105 : Int32)), (.int (110 : Int32)), (.int (105 : Int32)), (.int (116 : Int32)), (.int (121 : Int32)), (.int (0 : Int32)), (.int (0 : Int32))] (.int (0 : Int32)) := Arv.set Ar119 q119 Sz119 Nn119 Hh119 Gg119 rfl W119 7 rfl (Nat.le_of_ble_eq_true rfl)
    have f126 := (Exa.wr W119 f112)
    have f127 := (Fld.other W119 f113 (Or.inl ne9))
    have f128 := (Fld.other W119 f114 (Or.inl ne9))
    have f129 := (Arv.other f115 W119 ne10)
    obtain ⟨_, _, ⟨T125, L125, k125, n125⟩, -, X125, ⟨Lc125, hQ125, l125, y125, z125⟩, st125⟩ := Jvm.LawKit.callS X119 hx (y := (⟨"com/example/logtide/logtide/event/TemporalTextIsInfinitePinLaw", "at", "(Ljava/lang/String;IC)C"⟩ : MethodName)) ho5 (mvT hZ5 (own_w hw 10 rfl)) (mvT hZ5 (own_w hw 11 rfl)) (mvT hZ5 (own_w hw 12 rfl)) (mvT hZ5 (own_w hw 13 rfl)) (by decide) (backOf (W := 2) (rm_at8_8 l Z a0 hw [] x5 y5 j5 (q4 &&& (255 : Int32)) zc fm h119 n0 O123 f126 f127 f128 f129 (own_lat _) S_C hzc S_F hfm) hZ5 (own_w hw 13 rfl) (own_w hw 12 rfl) (by decide) (by decide)) (g := (mkF m 163 #[.val (.int q0), .val (.int q1), .val (.int q2), .val (.int q3), .val (.int q4), .val (.int nv), .val (.int (0 : Int32)), .val (.ref x5), .val (.int (q4 &&& (255 : Int32))), .val (.ref b8), .unset, .unset, .unset, .unset] [(.int (q4 &&& (255 : Int32))), (.int (8 : Int32)), (.ref x5), (.int (8 : Int32)), (.ref b8)])) rfl (by rw [hml]; rfl) (argsL := [(.ref x5), (.int (8 : Int32)), (.int (q4 &&& (255 : Int32)))]) (rest := [(.int (8 : Int32)), (.ref b8)]) (lenOf pd_6 rfl) rfl (by show 2 * 0 + _ ≤ _; exact Nat.le_of_eq rfl) (hb hby at_163) (fun _ _ => ⟨rfl, e119, (by decide : 3 + 0 ≤ _), (by decide : 50 + 0 ≤ _)⟩)
    dsimp only [Pt.U, Pt.locs, Pt.cells, Pt.slots] at X125 l125 y125 z125 st125 hQ125
    subst l125 y125 z125
    obtain ⟨rfl, N130, k131⟩ := hQ125
    have N132 := Fr.app N124 N130
    obtain ⟨cl133, Ar133, q133, Sz133, Nn133, Hh133, Gg133⟩ := id F119
    have in133 : ¬ ((8 : Int32) < 0 ∨ cl133.slots.size ≤ ((8 : Int32)).toNatClampNeg) := inb_of Sz133 ⟨by decide, by decide⟩
    obtain ⟨T133, h133, X133, e133, W133, st133⟩ := stC X125 hx hZ5 k131 Ar133 (j := (8 : Int32)) in133 (g := (mkF m 166 #[.val (.int q0), .val (.int q1), .val (.int q2), .val (.int q3), .val (.int q4), .val (.int nv), .val (.int (0 : Int32)), .val (.ref x5), .val (.int (q4 &&& (255 : Int32))), .val (.ref b8), .unset, .unset, .unset, .unset] [(.int (q4 &&& (255 : Int32))), (.int (8 : Int32)), (.ref b8)])) rfl rfl (hb hby at_166)
    rw [show nar .char (q4 &&& (255 : Int32)) = (q4 &&& (255 : Int32)) from i2c_mask _] at W133
    have f134 := (Exa.wr W119 f120)
    have CR135 := CR121.trans (CHr.wr W133 (Safe.exa hZ5.alike f134 (by decide) (by decide)) CR121.1)
    have hk136 := Nat.le_trans hk122 (Keep.of_wr W133).1
    have O137 := O123.wr W133 ge_b8
    have N138 := Fr.snoc X133 N132 ge_b8
    have F133 : Arv Z h133 b8 k8 .char (10 : Int32) [(.int (105 : Int32)), (.int (110 : Int32)), (.int (102 : Int32)), (.int (105 : Int32)), (.int (110 : Int32)), (.int (105 : Int32)), (.int (116 : Int32)), (.int (121 : Int32)), (.int (q4 &&& (255 : Int32))), (.int (0 : Int32))] (.int (0 : Int32)) := Arv.set Ar133 q133 Sz133 Nn133 Hh133 Gg133 (by rw [← (i2c_mask _ : nar .char (q4 &&& (255 : Int32)) = (q4 &&& (255 : Int32)))]; exact fits_nar_char _) W133 8 rfl (Nat.le_of_ble_eq_true rfl)
    have f140 := (Exa.wr W133 f126)
    have f141 := (Fld.other W133 f127 (Or.inl ne9))
    have f142 := (Fld.other W133 f128 (Or.inl ne9))
    have f143 := (Arv.other f129 W133 ne10)
    obtain ⟨_, _, ⟨T139, L139, k139, n139⟩, -, X139, ⟨Lc139, hQ139, l139, y139, z139⟩, st139⟩ := Jvm.LawKit.callS X133 hx (y := (⟨"com/example/logtide/logtide/event/TemporalTextIsInfinitePinLaw", "at", "(Ljava/lang/String;IC)C"⟩ : MethodName)) ho5 (mvT hZ5 (own_w hw 10 rfl)) (mvT hZ5 (own_w hw 11 rfl)) (mvT hZ5 (own_w hw 12 rfl)) (mvT hZ5 (own_w hw 13 rfl)) (by decide) (backOf (W := 2) (rm_at8_9 l Z a0 hw [] x5 y5 j5 (q4 &&& (255 : Int32)) zc fm h133 n0 O137 f140 f141 f142 f143 (own_lat _) S_C hzc S_F hfm) hZ5 (own_w hw 13 rfl) (own_w hw 12 rfl) (by decide) (by decide)) (g := (mkF m 177 #[.val (.int q0), .val (.int q1), .val (.int q2), .val (.int q3), .val (.int q4), .val (.int nv), .val (.int (0 : Int32)), .val (.ref x5), .val (.int (q4 &&& (255 : Int32))), .val (.ref b8), .unset, .unset, .unset, .unset] [(.int (q4 &&& (255 : Int32))), (.int (9 : Int32)), (.ref x5), (.int (9 : Int32)), (.ref b8)])) rfl (by rw [hml]; rfl) (argsL := [(.ref x5), (.int (9 : Int32)), (.int (q4 &&& (255 : Int32)))]) (rest := [(.int (9 : Int32)), (.ref b8)]) (lenOf pd_6 rfl) rfl (by show 2 * 0 + _ ≤ _; exact Nat.le_of_eq rfl) (hb hby at_177) (fun _ _ => ⟨rfl, e133, (by decide : 3 + 0 ≤ _), (by decide : 50 + 0 ≤ _)⟩)
    dsimp only [Pt.U, Pt.locs, Pt.cells, Pt.slots] at X139 l139 y139 z139 st139 hQ139
    subst l139 y139 z139
    obtain ⟨rfl, N144, k145⟩ := hQ139
    have N146 := Fr.app N138 N144
    obtain ⟨cl147, Ar147, q147, Sz147, Nn147, Hh147, Gg147⟩ := id F133
    have in147 : ¬ ((9 : Int32) < 0 ∨ cl147.slots.size ≤ ((9 : Int32)).toNatClampNeg) := inb_of Sz147 ⟨by decide, by decide⟩
    obtain ⟨T147, h147, X147, e147, W147, st147⟩ := stC X139 hx hZ5 k145 Ar147 (j := (9 : Int32)) in147 (g := (mkF m 180 #[.val (.int q0), .val (.int q1), .val (.int q2), .val (.int q3), .val (.int q4), .val (.int nv), .val (.int (0 : Int32)), .val (.ref x5), .val (.int (q4 &&& (255 : Int32))), .val (.ref b8), .unset, .unset, .unset, .unset] [(.int (q4 &&& (255 : Int32))), (.int (9 : Int32)), (.ref b8)])) rfl rfl (hb hby at_180)
    rw [show nar .char (q4 &&& (255 : Int32)) = (q4 &&& (255 : Int32)) from i2c_mask _] at W147
    have f148 := (Exa.wr W133 f134)
    have CR149 := CR135.trans (CHr.wr W147 (Safe.exa hZ5.alike f148 (by decide) (by decide)) CR135.1)
    have hk150 := Nat.le_trans hk136 (Keep.of_wr W147).1
    have O151 := O137.wr W147 ge_b8
    have N152 := Fr.snoc X147 N146 ge_b8
    have F147 : Arv Z h147 b8 k8 .char (10 : Int32) [(.int (105 : Int32)), (.int (110 : Int32)), (.int (102 : Int32)), (.int (105 : Int32)), (.int (110 : Int32)), (.int (105 : Int32)), (.int (116 : Int32)), (.int (121 : Int32)), (.int (q4 &&& (255 : Int32))), (.int (q4 &&& (255 : Int32)))] (.int (0 : Int32)) := Arv.set Ar147 q147 Sz147 Nn147 Hh147 Gg147 (by rw [← (i2c_mask _ : nar .char (q4 &&& (255 : Int32)) = (q4 &&& (255 : Int32)))]; exact fits_nar_char _) W147 9 rfl (Nat.le_of_ble_eq_true rfl)
    have S153 : ∀ t, Steps p.tables e below (T147.setTop (mkF m 184 #[.val (.int q0), .val (.int q1), .val (.int q2), .val (.int q3), .val (.int q4), .val (.int nv), .val (.int (0 : Int32)), .val (.ref x5), .val (.int (q4 &&& (255 : Int32))), .val (.ref b8), .unset, .unset, .unset, .unset] [(.int (q1 &&& (2 : Int32)))])) t → Steps p.tables e below (s₁.setTop (mkF m 0 #[.val (.int q0), .val (.int q1), .val (.int q2), .val (.int q3), .val (.int q4), .unset, .unset, .unset, .unset, .unset, .unset, .unset, .unset, .unset] [])) t := by
      intro t kt
      refine S3 t ?_
      refine XS.ifYes X0.here hx rfl (pc0 := 14) (pc' := 21) rfl (hb hby at_14) rfl ((if0 _ _).trans (teq (c4 : (q1 &&& (1 : Int32)) = (0 : Int32))).1) (by decide) (by decide) ?_
      refine XS.iconst X0.here hx rfl (hb hby at_21) ?_
      refine XS.istore X0.here hx rfl (hb hby at_22) rfl (l' := #[.val (.int q0), .val (.int q1), .val (.int q2), .val (.int q3), .val (.int q4), .val (.int nv), .val (.int (0 : Int32)), .unset, .unset, .unset, .unset, .unset, .unset, .unset]) rfl ?_
      refine XS.iload X0.here hx rfl (hb hby at_24) rfl ?_
      refine XS.ifYes X0.here hx rfl (pc0 := 26) (pc' := 34) rfl (hb hby at_26) rfl ((if0 _ _).trans (teq ((by decide) : (0 : Int32) = (0 : Int32))).1) (by decide) (by decide) ?_
      show Steps p.tables e below (s₁.setTop (mkF m 34 #[.val (.int q0), .val (.int q1), .val (.int q2), .val (.int q3), .val (.int q4), .val (.int nv), .val (.int (0 : Int32)), .unset, .unset, .unset, .unset, .unset, .unset, .unset] [])) _
      refine st5 _ ?_
      refine XS.astore X5.here hx rfl (hb hby at_36) rfl rfl (l' := #[.val (.int q0), .val (.int q1), .val (.int q2), .val (.int q3), .val (.int q4), .val (.int nv), .val (.int (0 : Int32)), .val (.ref x5), .unset, .unset, .unset, .unset, .unset, .unset]) rfl ?_
      refine XS.iload X5.here hx rfl (hb hby at_38) rfl ?_
      refine XS.sipush X5.here hx rfl (hb hby at_40) ?_
      refine XS.iand X5.here hx rfl (hb hby at_43) rfl ?_
      refine XS.i2c X5.here hx rfl (hb hby at_44) rfl ?_
      change Steps p.tables e below (T5.setTop (mkF m 45 #[.val (.int q0), .val (.int q1), .val (.int q2), .val (.int q3), .val (.int q4), .val (.int nv), .val (.int (0 : Int32)), .val (.ref x5), .unset, .unset, .unset, .unset, .unset, .unset] [(.int ((q4 &&& (255 : Int32)).toUInt32.toUInt16.toUInt32.toInt32))])) _
      rw [i2c_mask]
      show Steps p.tables e below (T5.setTop (mkF m 45 #[.val (.int q0), .val (.int q1), .val (.int q2), .val (.int q3), .val (.int q4), .val (.int nv), .val (.int (0 : Int32)), .val (.ref x5), .unset, .unset, .unset, .unset, .unset, .unset] [(.int (q4 &&& (255 : Int32)))])) _
      refine XS.istore X5.here hx rfl (hb hby at_45) rfl (l' := #[.val (.int q0), .val (.int q1), .val (.int q2), .val (.int q3), .val (.int q4), .val (.int nv), .val (.int (0 : Int32)), .val (.ref x5), .val (.int (q4 &&& (255 : Int32))), .unset, .unset, .unset, .unset, .unset]) rfl ?_
      refine XS.bipush X5.here hx rfl (hb hby at_47) ?_
      show Steps p.tables e below (T5.setTop (mkF m 49 #[.val (.int q0), .val (.int q1), .val (.int q2), .val (.int q3), .val (.int q4), .val (.int nv), .val (.int (0 : Int32)), .val (.ref x5), .val (.int (q4 &&& (255 : Int32))), .unset, .unset, .unset, .unset, .unset] [(.int (10 : Int32))])) _
      refine st8 _ ?_
      refine XS.astore X8.here hx rfl (hb hby at_51) rfl rfl (l' := #[.val (.int q0), .val (.int q1), .val (.int q2), .val (.int q3), .val (.int q4), .val (.int nv), .val (.int (0 : Int32)), .val (.ref x5), .val (.int (q4 &&& (255 : Int32))), .val (.ref b8), .unset, .unset, .unset, .unset]) rfl ?_
      refine XS.aload X8.here hx rfl (hb hby at_53) rfl rfl ?_
      refine XS.iconst X8.here hx rfl (hb hby at_55) ?_
      refine XS.aload X8.here hx rfl (hb hby at_56) rfl rfl ?_
      refine XS.iconst X8.here hx rfl (hb hby at_58) ?_
      show Steps p.tables e below (T8.setTop (mkF m 59 #[.val (.int q0), .val (.int q1), .val (.int q2), .val (.int q3), .val (.int q4), .val (.int nv), .val (.int (0 : Int32)), .val (.ref x5), .val (.int (q4 &&& (255 : Int32))), .val (.ref b8), .unset, .unset, .unset, .unset] [(.int (0 : Int32)), (.ref x5), (.int (0 : Int32)), (.ref b8)])) _
      refine XS.iload X8.here hx rfl (hb hby at_59) rfl ?_
      show Steps p.tables e below (T8.setTop (mkF m 61 #[.val (.int q0), .val (.int q1), .val (.int q2), .val (.int q3), .val (.int q4), .val (.int nv), .val (.int (0 : Int32)), .val (.ref x5), .val (.int (q4 &&& (255 : Int32))), .val (.ref b8), .unset, .unset, .unset, .unset] [(.int (q4 &&& (255 : Int32))), (.int (0 : Int32)), (.ref x5), (.int (0 : Int32)), (.ref b8)])) _
      refine st14 _ ?_
      show Steps p.tables e below (T14.setTop (mkF m 64 #[.val (.int q0), .val (.int q1), .val (.int q2), .val (.int q3), .val (.int q4), .val (.int nv), .val (.int (0 : Int32)), .val (.ref x5), .val (.int (q4 &&& (255 : Int32))), .val (.ref b8), .unset, .unset, .unset, .unset] [(.int (105 : Int32)), (.int (0 : Int32)), (.ref b8)])) _
      refine st22 _ ?_
      refine XS.aload X22.here hx rfl (hb hby at_65) rfl rfl ?_
      refine XS.iconst X22.here hx rfl (hb hby at_67) ?_
      refine XS.aload X22.here hx rfl (hb hby at_68) rfl rfl ?_
      refine XS.iconst X22.here hx rfl (hb hby at_70) ?_
      refine XS.iload X22.here hx rfl (hb hby at_71) rfl ?_
      show Steps p.tables e below (T22.setTop (mkF m 73 #[.val (.int q0), .val (.int q1), .val (.int q2), .val (.int q3), .val (.int q4), .val (.int nv), .val (.int (0 : Int32)), .val (.ref x5), .val (.int (q4 &&& (255 : Int32))), .val (.ref b8), .unset, .unset, .unset, .unset] [(.int (q4 &&& (255 : Int32))), (.int (1 : Int32)), (.ref x5), (.int (1 : Int32)), (.ref b8)])) _
      refine st27 _ ?_
      show Steps p.tables e below (T27.setTop (mkF m 76 #[.val (.int q0), .val (.int q1), .val (.int q2), .val (.int q3), .val (.int q4), .val (.int nv), .val (.int (0 : Int32)), .val (.ref x5), .val (.int (q4 &&& (255 : Int32))), .val (.ref b8), .unset, .unset, .unset, .unset] [(.int (110 : Int32)), (.int (1 : Int32)), (.ref b8)])) _
      refine st35 _ ?_
      refine XS.aload X35.here hx rfl (hb hby at_77) rfl rfl ?_
      refine XS.iconst X35.here hx rfl (hb hby at_79) ?_
      refine XS.aload X35.here hx rfl (hb hby at_80) rfl rfl ?_
      refine XS.iconst X35.here hx rfl (hb hby at_82) ?_
      refine XS.iload X35.here hx rfl (hb hby at_83) rfl ?_
      show Steps p.tables e below (T35.setTop (mkF m 85 #[.val (.int q0), .val (.int q1), .val (.int q2), .val (.int q3), .val (.int q4), .val (.int nv), .val (.int (0 : Int32)), .val (.ref x5), .val (.int (q4 &&& (255 : Int32))), .val (.ref b8), .unset, .unset, .unset, .unset] [(.int (q4 &&& (255 : Int32))), (.int (2 : Int32)), (.ref x5), (.int (2 : Int32)), (.ref b8)])) _
      refine st41 _ ?_
      show Steps p.tables e below (T41.setTop (mkF m 88 #[.val (.int q0), .val (.int q1), .val (.int q2), .val (.int q3), .val (.int q4), .val (.int nv), .val (.int (0 : Int32)), .val (.ref x5), .val (.int (q4 &&& (255 : Int32))), .val (.ref b8), .unset, .unset, .unset, .unset] [(.int (102 : Int32)), (.int (2 : Int32)), (.ref b8)])) _
      refine st49 _ ?_
      refine XS.aload X49.here hx rfl (hb hby at_89) rfl rfl ?_
      refine XS.iconst X49.here hx rfl (hb hby at_91) ?_
      refine XS.aload X49.here hx rfl (hb hby at_92) rfl rfl ?_
      refine XS.iconst X49.here hx rfl (hb hby at_94) ?_
      refine XS.iload X49.here hx rfl (hb hby at_95) rfl ?_
      show Steps p.tables e below (T49.setTop (mkF m 97 #[.val (.int q0), .val (.int q1), .val (.int q2), .val (.int q3), .val (.int q4), .val (.int nv), .val (.int (0 : Int32)), .val (.ref x5), .val (.int (q4 &&& (255 : Int32))), .val (.ref b8), .unset, .unset, .unset, .unset] [(.int (q4 &&& (255 : Int32))), (.int (3 : Int32)), (.ref x5), (.int (3 : Int32)), (.ref b8)])) _
      refine st55 _ ?_
      show Steps p.tables e below (T55.setTop (mkF m 100 #[.val (.int q0), .val (.int q1), .val (.int q2), .val (.int q3), .val (.int q4), .val (.int nv), .val (.int (0 : Int32)), .val (.ref x5), .val (.int (q4 &&& (255 : Int32))), .val (.ref b8), .unset, .unset, .unset, .unset] [(.int (105 : Int32)), (.int (3 : Int32)), (.ref b8)])) _
      refine st63 _ ?_
      refine XS.aload X63.here hx rfl (hb hby at_101) rfl rfl ?_
      refine XS.iconst X63.here hx rfl (hb hby at_103) ?_
      refine XS.aload X63.here hx rfl (hb hby at_104) rfl rfl ?_
      refine XS.iconst X63.here hx rfl (hb hby at_106) ?_
      refine XS.iload X63.here hx rfl (hb hby at_107) rfl ?_
      show Steps p.tables e below (T63.setTop (mkF m 109 #[.val (.int q0), .val (.int q1), .val (.int q2), .val (.int q3), .val (.int q4), .val (.int nv), .val (.int (0 : Int32)), .val (.ref x5), .val (.int (q4 &&& (255 : Int32))), .val (.ref b8), .unset, .unset, .unset, .unset] [(.int (q4 &&& (255 : Int32))), (.int (4 : Int32)), (.ref x5), (.int (4 : Int32)), (.ref b8)])) _
      refine st69 _ ?_
      show Steps p.tables e below (T69.setTop (mkF m 112 #[.val (.int q0), .val (.int q1), .val (.int q2), .val (.int q3), .val (.int q4), .val (.int nv), .val (.int (0 : Int32)), .val (.ref x5), .val (.int (q4 &&& (255 : Int32))), .val (.ref b8), .unset, .unset, .unset, .unset] [(.int (110 : Int32)), (.int (4 : Int32)), (.ref b8)])) _
      refine st77 _ ?_
      refine XS.aload X77.here hx rfl (hb hby at_113) rfl rfl ?_
      refine XS.iconst X77.here hx rfl (hb hby at_115) ?_
      refine XS.aload X77.here hx rfl (hb hby at_116) rfl rfl ?_
      refine XS.iconst X77.here hx rfl (hb hby at_118) ?_
      refine XS.iload X77.here hx rfl (hb hby at_119) rfl ?_
      show Steps p.tables e below (T77.setTop (mkF m 121 #[.val (.int q0), .val (.int q1), .val (.int q2), .val (.int q3), .val (.int q4), .val (.int nv), .val (.int (0 : Int32)), .val (.ref x5), .val (.int (q4 &&& (255 : Int32))), .val (.ref b8), .unset, .unset, .unset, .unset] [(.int (q4 &&& (255 : Int32))), (.int (5 : Int32)), (.ref x5), (.int (5 : Int32)), (.ref b8)])) _
      refine st83 _ ?_
      show Steps p.tables e below (T83.setTop (mkF m 124 #[.val (.int q0), .val (.int q1), .val (.int q2), .val (.int q3), .val (.int q4), .val (.int nv), .val (.int (0 : Int32)), .val (.ref x5), .val (.int (q4 &&& (255 : Int32))), .val (.ref b8), .unset, .unset, .unset, .unset] [(.int (105 : Int32)), (.int (5 : Int32)), (.ref b8)])) _
      refine st91 _ ?_
      refine XS.aload X91.here hx rfl (hb hby at_125) rfl rfl ?_
      refine XS.bipush X91.here hx rfl (hb hby at_127) ?_
      refine XS.aload X91.here hx rfl (hb hby at_129) rfl rfl ?_
      refine XS.bipush X91.here hx rfl (hb hby at_131) ?_
      refine XS.iload X91.here hx rfl (hb hby at_133) rfl ?_
      show Steps p.tables e below (T91.setTop (mkF m 135 #[.val (.int q0), .val (.int q1), .val (.int q2), .val (.int q3), .val (.int q4), .val (.int nv), .val (.int (0 : Int32)), .val (.ref x5), .val (.int (q4 &&& (255 : Int32))), .val (.ref b8), .unset, .unset, .unset, .unset] [(.int (q4 &&& (255 : Int32))), (.int (6 : Int32)), (.ref x5), (.int (6 : Int32)), (.ref b8)])) _
      refine st97 _ ?_
      show Steps p.tables e below (T97.setTop (mkF m 138 #[.val (.int q0), .val (.int q1), .val (.int q2), .val (.int q3), .val (.int q4), .val (.int nv), .val (.int (0 : Int32)), .val (.ref x5), .val (.int (q4 &&& (255 : Int32))), .val (.ref b8), .unset, .unset, .unset, .unset] [(.int (116 : Int32)), (.int (6 : Int32)), (.ref b8)])) _
      refine st105 _ ?_
      refine XS.aload X105.here hx rfl (hb hby at_139) rfl rfl ?_
      refine XS.bipush X105.here hx rfl (hb hby at_141) ?_
      refine XS.aload X105.here hx rfl (hb hby at_143) rfl rfl ?_
      refine XS.bipush X105.here hx rfl (hb hby at_145) ?_
      refine XS.iload X105.here hx rfl (hb hby at_147) rfl ?_
      show Steps p.tables e below (T105.setTop (mkF m 149 #[.val (.int q0), .val (.int q1), .val (.int q2), .val (.int q3), .val (.int q4), .val (.int nv), .val (.int (0 : Int32)), .val (.ref x5), .val (.int (q4 &&& (255 : Int32))), .val (.ref b8), .unset, .unset, .unset, .unset] [(.int (q4 &&& (255 : Int32))), (.int (7 : Int32)), (.ref x5), (.int (7 : Int32)), (.ref b8)])) _
      refine st111 _ ?_
      show Steps p.tables e below (T111.setTop (mkF m 152 #[.val (.int q0), .val (.int q1), .val (.int q2), .val (.int q3), .val (.int q4), .val (.int nv), .val (.int (0 : Int32)), .val (.ref x5), .val (.int (q4 &&& (255 : Int32))), .val (.ref b8), .unset, .unset, .unset, .unset] [(.int (121 : Int32)), (.int (7 : Int32)), (.ref b8)])) _
      refine st119 _ ?_
      refine XS.aload X119.here hx rfl (hb hby at_153) rfl rfl ?_
      refine XS.bipush X119.here hx rfl (hb hby at_155) ?_
      refine XS.aload X119.here hx rfl (hb hby at_157) rfl rfl ?_
      refine XS.bipush X119.here hx rfl (hb hby at_159) ?_
      refine XS.iload X119.here hx rfl (hb hby at_161) rfl ?_
      show Steps p.tables e below (T119.setTop (mkF m 163 #[.val (.int q0), .val (.int q1), .val (.int q2), .val (.int q3), .val (.int q4), .val (.int nv), .val (.int (0 : Int32)), .val (.ref x5), .val (.int (q4 &&& (255 : Int32))), .val (.ref b8), .unset, .unset, .unset, .unset] [(.int (q4 &&& (255 : Int32))), (.int (8 : Int32)), (.ref x5), (.int (8 : Int32)), (.ref b8)])) _
      refine st125 _ ?_
      show Steps p.tables e below (T125.setTop (mkF m 166 #[.val (.int q0), .val (.int q1), .val (.int q2), .val (.int q3), .val (.int q4), .val (.int nv), .val (.int (0 : Int32)), .val (.ref x5), .val (.int (q4 &&& (255 : Int32))), .val (.ref b8), .unset, .unset, .unset, .unset] [(.int (q4 &&& (255 : Int32))), (.int (8 : Int32)), (.ref b8)])) _
      refine st133 _ ?_
      refine XS.aload X133.here hx rfl (hb hby at_167) rfl rfl ?_
      refine XS.bipush X133.here hx rfl (hb hby at_169) ?_
      refine XS.aload X133.here hx rfl (hb hby at_171) rfl rfl ?_
      refine XS.bipush X133.here hx rfl (hb hby at_173) ?_
      refine XS.iload X133.here hx rfl (hb hby at_175) rfl ?_
      show Steps p.tables e below (T133.setTop (mkF m 177 #[.val (.int q0), .val (.int q1), .val (.int q2), .val (.int q3), .val (.int q4), .val (.int nv), .val (.int (0 : Int32)), .val (.ref x5), .val (.int (q4 &&& (255 : Int32))), .val (.ref b8), .unset, .unset, .unset, .unset] [(.int (q4 &&& (255 : Int32))), (.int (9 : Int32)), (.ref x5), (.int (9 : Int32)), (.ref b8)])) _
      refine st139 _ ?_
      show Steps p.tables e below (T139.setTop (mkF m 180 #[.val (.int q0), .val (.int q1), .val (.int q2), .val (.int q3), .val (.int q4), .val (.int nv), .val (.int (0 : Int32)), .val (.ref x5), .val (.int (q4 &&& (255 : Int32))), .val (.ref b8), .unset, .unset, .unset, .unset] [(.int (q4 &&& (255 : Int32))), (.int (9 : Int32)), (.ref b8)])) _
      refine st147 _ ?_
      refine XS.iloadN X147.here hx rfl (hb hby at_181) rfl ?_
      refine XS.iconst X147.here hx rfl (hb hby at_182) ?_
      refine XS.iand X147.here hx rfl (hb hby at_183) rfl ?_
      exact kt
    rcases Decidable.em ((q1 &&& (2 : Int32)) = (0 : Int32)) with c154 | c154
    · have S155 : ∀ t, Steps p.tables e below (T147.setTop (mkF m 203 #[.val (.int q0), .val (.int q1), .val (.int q2), .val (.int q3), .val (.int q4), .val (.int nv), .val (.int (0 : Int32)), .val (.ref x5), .val (.int (q4 &&& (255 : Int32))), .val (.ref b8), .unset, .unset, .unset, .unset] [])) t → Steps p.tables e below (s₁.setTop (mkF m 0 #[.val (.int q0), .val (.int q1), .val (.int q2), .val (.int q3), .val (.int q4), .unset, .unset, .unset, .unset, .unset, .unset, .unset, .unset, .unset] [])) t := by
        intro t kt
        refine S153 t ?_
        refine XS.ifYes X147.here hx rfl (pc0 := 184) (pc' := 203) rfl (hb hby at_184) rfl ((if0 _ _).trans (teq (c154 : (q1 &&& (2 : Int32)) = (0 : Int32))).1) (by decide) (by decide) ?_
        exact kt
      obtain ⟨s₂, o, t1, t2, t3, t4⟩ := rm_tail l Z a0 hw q0 q1 q2 q3 q4 nv (0 : Int32) x5 (q4 &&& (255 : Int32)) b8 k8 (105 : Int32) (110 : Int32) (102 : Int32) (105 : Int32) (110 : Int32) (105 : Int32) (116 : Int32) (121 : Int32) (q4 &&& (255 : Int32)) (q4 &&& (255 : Int32)) zc h147 n0 O151 hn F147 ⟨by decide, by decide⟩ ⟨by decide, by decide⟩ ⟨by decide, by decide⟩ ⟨by decide, by decide⟩ ⟨by decide, by decide⟩ ⟨by decide, by decide⟩ ⟨by decide, by decide⟩ ⟨by decide, by decide⟩ (own_lat _) (own_lat _) S_C hzc X147 hx hZ5 hby hml ho5 Bd.returns (BodyLoose.notSynchronized Bd) e147 N152 hS5 hk150 (by rw [hh]; exact CR149)
      exact ⟨s₂, o, pre0 _ (S155 _ t1), t2, t3, t4⟩
    · have S156 : ∀ t, Steps p.tables e below (T147.setTop (mkF m 196 #[.val (.int q0), .val (.int q1), .val (.int q2), .val (.int q3), .val (.int q4), .val (.int nv), .val (.int (0 : Int32)), .val (.ref x5), .val (.int (q4 &&& (255 : Int32))), .val (.ref b8), .unset, .unset, .unset, .unset] [(.int ((q2 &&& (2147483647 : Int32)) % nv)), (.ref b8)])) t → Steps p.tables e below (s₁.setTop (mkF m 0 #[.val (.int q0), .val (.int q1), .val (.int q2), .val (.int q3), .val (.int q4), .unset, .unset, .unset, .unset, .unset, .unset, .unset, .unset, .unset] [])) t := by
        intro t kt
        refine S153 t ?_
        refine XS.ifNo X147.here hx rfl (hb hby at_184) rfl ((if0 _ _).trans (feq (c154 : ¬ ((q1 &&& (2 : Int32)) = (0 : Int32)))).1) ?_
        refine XS.aload X147.here hx rfl (hb hby at_187) rfl rfl ?_
        refine XS.iloadN X147.here hx rfl (hb hby at_189) rfl ?_
        show Steps p.tables e below (T147.setTop (mkF m 190 #[.val (.int q0), .val (.int q1), .val (.int q2), .val (.int q3), .val (.int q4), .val (.int nv), .val (.int (0 : Int32)), .val (.ref x5), .val (.int (q4 &&& (255 : Int32))), .val (.ref b8), .unset, .unset, .unset, .unset] [(.int q2), (.ref b8)])) _
        refine Jvm.Stand.ldcI (g := (mkF m 190 #[.val (.int q0), .val (.int q1), .val (.int q2), .val (.int q3), .val (.int q4), .val (.int nv), .val (.int (0 : Int32)), .val (.ref x5), .val (.int (q4 &&& (255 : Int32))), .val (.ref b8), .unset, .unset, .unset, .unset] [(.int q2), (.ref b8)])) X147 hx ho5 (mvT hZ5 (own_w hw 0 rfl)) rfl (hb hby at_190) ?_
        refine XS.iand X147.here hx rfl (hb hby at_192) rfl ?_
        refine XS.iload X147.here hx rfl (hb hby at_193) rfl ?_
        show Steps p.tables e below (T147.setTop (mkF m 195 #[.val (.int q0), .val (.int q1), .val (.int q2), .val (.int q3), .val (.int q4), .val (.int nv), .val (.int (0 : Int32)), .val (.ref x5), .val (.int (q4 &&& (255 : Int32))), .val (.ref b8), .unset, .unset, .unset, .unset] [(.int nv), (.int (q2 &&& (2147483647 : Int32))), (.ref b8)])) _
        refine Jvm.RoadKit.iremM (g := (mkF m 195 #[.val (.int q0), .val (.int q1), .val (.int q2), .val (.int q3), .val (.int q4), .val (.int nv), .val (.int (0 : Int32)), .val (.ref x5), .val (.int (q4 &&& (255 : Int32))), .val (.ref b8), .unset, .unset, .unset, .unset] [(.int nv), (.int (q2 &&& (2147483647 : Int32))), (.ref b8)])) X147 hx rfl (hb hby at_195) rfl (own_nz hn) ?_
        exact kt
      obtain ⟨jv, h_jv⟩ : ∃ z, z = ((q2 &&& (2147483647 : Int32)) % nv) := ⟨_, rfl⟩
      have S157 : ∀ t, Steps p.tables e below (T147.setTop (mkF m 196 #[.val (.int q0), .val (.int q1), .val (.int q2), .val (.int q3), .val (.int q4), .val (.int nv), .val (.int (0 : Int32)), .val (.ref x5), .val (.int (q4 &&& (255 : Int32))), .val (.ref b8), .unset, .unset, .unset, .unset] [(.int jv), (.ref b8)])) t → Steps p.tables e below (s₁.setTop (mkF m 0 #[.val (.int q0), .val (.int q1), .val (.int q2), .val (.int q3), .val (.int q4), .unset, .unset, .unset, .unset, .unset, .unset, .unset, .unset, .unset] [])) t := by rw [h_jv]; exact S156
      rcases own_j q2 nv jv hn h_jv with rfl | rfl | rfl | rfl | rfl | rfl | rfl | rfl | rfl | rfl
      · obtain ⟨cl158, Ar158, q158, Sz158, Nn158, Hh158, Gg158⟩ := id F147
        have in158 : ¬ ((0 : Int32) < 0 ∨ cl158.slots.size ≤ ((0 : Int32)).toNatClampNeg) := inb_of Sz158 ⟨by decide, by decide⟩
        obtain ⟨T158, h158, X158, e158, W158, st158⟩ := stC X147 hx hZ5 e147 Ar158 (j := (0 : Int32)) in158 (g := (mkF m 202 #[.val (.int q0), .val (.int q1), .val (.int q2), .val (.int q3), .val (.int q4), .val (.int nv), .val (.int (0 : Int32)), .val (.ref x5), .val (.int (q4 &&& (255 : Int32))), .val (.ref b8), .unset, .unset, .unset, .unset] [(.int (q3 &&& (255 : Int32))), (.int (0 : Int32)), (.ref b8)])) rfl rfl (hb hby at_202)
        rw [show nar .char (q3 &&& (255 : Int32)) = (q3 &&& (255 : Int32)) from i2c_mask _] at W158
        have f159 := (Exa.wr W147 f148)
        have CR160 := CR149.trans (CHr.wr W158 (Safe.exa hZ5.alike f159 (by decide) (by decide)) CR149.1)
        have hk161 := Nat.le_trans hk150 (Keep.of_wr W158).1
        have O162 := O151.wr W158 ge_b8
        have N163 := Fr.snoc X158 N152 ge_b8
        have F158 : Arv Z h158 b8 k8 .char (10 : Int32) [(.int (q3 &&& (255 : Int32))), (.int (110 : Int32)), (.int (102 : Int32)), (.int (105 : Int32)), (.int (110 : Int32)), (.int (105 : Int32)), (.int (116 : Int32)), (.int (121 : Int32)), (.int (q4 &&& (255 : Int32))), (.int (q4 &&& (255 : Int32)))] (.int (0 : Int32)) := Arv.set Ar158 q158 Sz158 Nn158 Hh158 Gg158 (by rw [← (i2c_mask _ : nar .char (q3 &&& (255 : Int32)) = (q3 &&& (255 : Int32)))]; exact fits_nar_char _) W158 0 rfl (Nat.le_of_ble_eq_true rfl)
        have S164 : ∀ t, Steps p.tables e below (T158.setTop (mkF m 203 #[.val (.int q0), .val (.int q1), .val (.int q2), .val (.int q3), .val (.int q4), .val (.int nv), .val (.int (0 : Int32)), .val (.ref x5), .val (.int (q4 &&& (255 : Int32))), .val (.ref b8), .unset, .unset, .unset, .unset] [])) t → Steps p.tables e below (s₁.setTop (mkF m 0 #[.val (.int q0), .val (.int q1), .val (.int q2), .val (.int q3), .val (.int q4), .unset, .unset, .unset, .unset, .unset, .unset, .unset, .unset, .unset] [])) t := by
          intro t kt
          refine S157 t ?_
          refine XS.iloadN X147.here hx rfl (hb hby at_196) rfl ?_
          refine XS.sipush X147.here hx rfl (hb hby at_197) ?_
          refine XS.iand X147.here hx rfl (hb hby at_200) rfl ?_
          refine XS.i2c X147.here hx rfl (hb hby at_201) rfl ?_
          change Steps p.tables e below (T147.setTop (mkF m 202 #[.val (.int q0), .val (.int q1), .val (.int q2), .val (.int q3), .val (.int q4), .val (.int nv), .val (.int (0 : Int32)), .val (.ref x5), .val (.int (q4 &&& (255 : Int32))), .val (.ref b8), .unset, .unset, .unset, .unset] [(.int ((q3 &&& (255 : Int32)).toUInt32.toUInt16.toUInt32.toInt32)), (.int (0 : Int32)), (.ref b8)])) _
          rw [i2c_mask]
          show Steps p.tables e below (T147.setTop (mkF m 202 #[.val (.int q0), .val (.int q1), .val (.int q2), .val (.int q3), .val (.int q4), .val (.int nv), .val (.int (0 : Int32)), .val (.ref x5), .val (.int (q4 &&& (255 : Int32))), .val (.ref b8), .unset, .unset, .unset, .unset] [(.int (q3 &&& (255 : Int32))), (.int (0 : Int32)), (.ref b8)])) _
          refine st158 _ ?_
          exact kt
        obtain ⟨s₂, o, t1, t2, t3, t4⟩ := rm_tail l Z a0 hw q0 q1 q2 q3 q4 nv (0 : Int32) x5 (q4 &&& (255 : Int32)) b8 k8 (q3 &&& (255 : Int32)) (110 : Int32) (102 : Int32) (105 : Int32) (110 : Int32) (105 : Int32) (116 : Int32) (121 : Int32) (q4 &&& (255 : Int32)) (q4 &&& (255 : Int32)) zc h158 n0 O162 hn F158 (own_lat _) ⟨by decide, by decide⟩ ⟨by decide, by decide⟩ ⟨by decide, by decide⟩ ⟨by decide, by decide⟩ ⟨by decide, by decide⟩ ⟨by decide, by decide⟩ ⟨by decide, by decide⟩ (own_lat _) (own_lat _) S_C hzc X158 hx hZ5 hby hml ho5 Bd.returns (BodyLoose.notSynchronized Bd) e158 N163 hS5 hk161 (by rw [hh]; exact CR160)
        exact ⟨s₂, o, pre0 _ (S164 _ t1), t2, t3, t4⟩
      · obtain ⟨cl165, Ar165, q165, Sz165, Nn165, Hh165, Gg165⟩ := id F147
        have in165 : ¬ ((1 : Int32) < 0 ∨ cl165.slots.size ≤ ((1 : Int32)).toNatClampNeg) := inb_of Sz165 ⟨by decide, by decide⟩
        obtain ⟨T165, h165, X165, e165, W165, st165⟩ := stC X147 hx hZ5 e147 Ar165 (j := (1 : Int32)) in165 (g := (mkF m 202 #[.val (.int q0), .val (.int q1), .val (.int q2), .val (.int q3), .val (.int q4), .val (.int nv), .val (.int (0 : Int32)), .val (.ref x5), .val (.int (q4 &&& (255 : Int32))), .val (.ref b8), .unset, .unset, .unset, .unset] [(.int (q3 &&& (255 : Int32))), (.int (1 : Int32)), (.ref b8)])) rfl rfl (hb hby at_202)
        rw [show nar .char (q3 &&& (255 : Int32)) = (q3 &&& (255 : Int32)) from i2c_mask _] at W165
        have f166 := (Exa.wr W147 f148)
        have CR167 := CR149.trans (CHr.wr W165 (Safe.exa hZ5.alike f166 (by decide) (by decide)) CR149.1)
        have hk168 := Nat.le_trans hk150 (Keep.of_wr W165).1
        have O169 := O151.wr W165 ge_b8
        have N170 := Fr.snoc X165 N152 ge_b8
        have F165 : Arv Z h165 b8 k8 .char (10 : Int32) [(.int (105 : Int32)), (.int (q3 &&& (255 : Int32))), (.int (102 : Int32)), (.int (105 : Int32)), (.int (110 : Int32)), (.int (105 : Int32)), (.int (116 : Int32)), (.int (121 : Int32)), (.int (q4 &&& (255 : Int32))), (.int (q4 &&& (255 : Int32)))] (.int (0 : Int32)) := Arv.set Ar165 q165 Sz165 Nn165 Hh165 Gg165 (by rw [← (i2c_mask _ : nar .char (q3 &&& (255 : Int32)) = (q3 &&& (255 : Int32)))]; exact fits_nar_char _) W165 1 rfl (Nat.le_of_ble_eq_true rfl)
        have S171 : ∀ t, Steps p.tables e below (T165.setTop (mkF m 203 #[.val (.int q0), .val (.int q1), .val (.int q2), .val (.int q3), .val (.int q4), .val (.int nv), .val (.int (0 : Int32)), .val (.ref x5), .val (.int (q4 &&& (255 : Int32))), .val (.ref b8), .unset, .unset, .unset, .unset] [])) t → Steps p.tables e below (s₁.setTop (mkF m 0 #[.val (.int q0), .val (.int q1), .val (.int q2), .val (.int q3), .val (.int q4), .unset, .unset, .unset, .unset, .unset, .unset, .unset, .unset, .unset] [])) t := by
          intro t kt
          refine S157 t ?_
          refine XS.iloadN X147.here hx rfl (hb hby at_196) rfl ?_
          refine XS.sipush X147.here hx rfl (hb hby at_197) ?_
          refine XS.iand X147.here hx rfl (hb hby at_200) rfl ?_
          refine XS.i2c X147.here hx rfl (hb hby at_201) rfl ?_
          change Steps p.tables e below (T147.setTop (mkF m 202 #[.val (.int q0), .val (.int q1), .val (.int q2), .val (.int q3), .val (.int q4), .val (.int nv), .val (.int (0 : Int32)), .val (.ref x5), .val (.int (q4 &&& (255 : Int32))), .val (.ref b8), .unset, .unset, .unset, .unset] [(.int ((q3 &&& (255 : Int32)).toUInt32.toUInt16.toUInt32.toInt32)), (.int (1 : Int32)), (.ref b8)])) _
          rw [i2c_mask]
          show Steps p.tables e below (T147.setTop (mkF m 202 #[.val (.int q0), .val (.int q1), .val (.int q2), .val (.int q3), .val (.int q4), .val (.int nv), .val (.int (0 : Int32)), .val (.ref x5), .val (.int (q4 &&& (255 : Int32))), .val (.ref b8), .unset, .unset, .unset, .unset] [(.int (q3 &&& (255 : Int32))), (.int (1 : Int32)), (.ref b8)])) _
          refine st165 _ ?_
          exact kt
        obtain ⟨s₂, o, t1, t2, t3, t4⟩ := rm_tail l Z a0 hw q0 q1 q2 q3 q4 nv (0 : Int32) x5 (q4 &&& (255 : Int32)) b8 k8 (105 : Int32) (q3 &&& (255 : Int32)) (102 : Int32) (105 : Int32) (110 : Int32) (105 : Int32) (116 : Int32) (121 : Int32) (q4 &&& (255 : Int32)) (q4 &&& (255 : Int32)) zc h165 n0 O169 hn F165 ⟨by decide, by decide⟩ (own_lat _) ⟨by decide, by decide⟩ ⟨by decide, by decide⟩ ⟨by decide, by decide⟩ ⟨by decide, by decide⟩ ⟨by decide, by decide⟩ ⟨by decide, by decide⟩ (own_lat _) (own_lat _) S_C hzc X165 hx hZ5 hby hml ho5 Bd.returns (BodyLoose.notSynchronized Bd) e165 N170 hS5 hk168 (by rw [hh]; exact CR167)
        exact ⟨s₂, o, pre0 _ (S171 _ t1), t2, t3, t4⟩
      · obtain ⟨cl172, Ar172, q172, Sz172, Nn172, Hh172, Gg172⟩ := id F147
        have in172 : ¬ ((2 : Int32) < 0 ∨ cl172.slots.size ≤ ((2 : Int32)).toNatClampNeg) := inb_of Sz172 ⟨by decide, by decide⟩
        obtain ⟨T172, h172, X172, e172, W172, st172⟩ := stC X147 hx hZ5 e147 Ar172 (j := (2 : Int32)) in172 (g := (mkF m 202 #[.val (.int q0), .val (.int q1), .val (.int q2), .val (.int q3), .val (.int q4), .val (.int nv), .val (.int (0 : Int32)), .val (.ref x5), .val (.int (q4 &&& (255 : Int32))), .val (.ref b8), .unset, .unset, .unset, .unset] [(.int (q3 &&& (255 : Int32))), (.int (2 : Int32)), (.ref b8)])) rfl rfl (hb hby at_202)
        rw [show nar .char (q3 &&& (255 : Int32)) = (q3 &&& (255 : Int32)) from i2c_mask _] at W172
        have f173 := (Exa.wr W147 f148)
        have CR174 := CR149.trans (CHr.wr W172 (Safe.exa hZ5.alike f173 (by decide) (by decide)) CR149.1)
        have hk175 := Nat.le_trans hk150 (Keep.of_wr W172).1
        have O176 := O151.wr W172 ge_b8
        have N177 := Fr.snoc X172 N152 ge_b8
        have F172 : Arv Z h172 b8 k8 .char (10 : Int32) [(.int (105 : Int32)), (.int (110 : Int32)), (.int (q3 &&& (255 : Int32))), (.int (105 : Int32)), (.int (110 : Int32)), (.int (105 : Int32)), (.int (116 : Int32)), (.int (121 : Int32)), (.int (q4 &&& (255 : Int32))), (.int (q4 &&& (255 : Int32)))] (.int (0 : Int32)) := Arv.set Ar172 q172 Sz172 Nn172 Hh172 Gg172 (by rw [← (i2c_mask _ : nar .char (q3 &&& (255 : Int32)) = (q3 &&& (255 : Int32)))]; exact fits_nar_char _) W172 2 rfl (Nat.le_of_ble_eq_true rfl)
        have S178 : ∀ t, Steps p.tables e below (T172.setTop (mkF m 203 #[.val (.int q0), .val (.int q1), .val (.int q2), .val (.int q3), .val (.int q4), .val (.int nv), .val (.int (0 : Int32)), .val (.ref x5), .val (.int (q4 &&& (255 : Int32))), .val (.ref b8), .unset, .unset, .unset, .unset] [])) t → Steps p.tables e below (s₁.setTop (mkF m 0 #[.val (.int q0), .val (.int q1), .val (.int q2), .val (.int q3), .val (.int q4), .unset, .unset, .unset, .unset, .unset, .unset, .unset, .unset, .unset] [])) t := by
          intro t kt
          refine S157 t ?_
          refine XS.iloadN X147.here hx rfl (hb hby at_196) rfl ?_
          refine XS.sipush X147.here hx rfl (hb hby at_197) ?_
          refine XS.iand X147.here hx rfl (hb hby at_200) rfl ?_
          refine XS.i2c X147.here hx rfl (hb hby at_201) rfl ?_
          change Steps p.tables e below (T147.setTop (mkF m 202 #[.val (.int q0), .val (.int q1), .val (.int q2), .val (.int q3), .val (.int q4), .val (.int nv), .val (.int (0 : Int32)), .val (.ref x5), .val (.int (q4 &&& (255 : Int32))), .val (.ref b8), .unset, .unset, .unset, .unset] [(.int ((q3 &&& (255 : Int32)).toUInt32.toUInt16.toUInt32.toInt32)), (.int (2 : Int32)), (.ref b8)])) _
          rw [i2c_mask]
          show Steps p.tables e below (T147.setTop (mkF m 202 #[.val (.int q0), .val (.int q1), .val (.int q2), .val (.int q3), .val (.int q4), .val (.int nv), .val (.int (0 : Int32)), .val (.ref x5), .val (.int (q4 &&& (255 : Int32))), .val (.ref b8), .unset, .unset, .unset, .unset] [(.int (q3 &&& (255 : Int32))), (.int (2 : Int32)), (.ref b8)])) _
          refine st172 _ ?_
          exact kt
        obtain ⟨s₂, o, t1, t2, t3, t4⟩ := rm_tail l Z a0 hw q0 q1 q2 q3 q4 nv (0 : Int32) x5 (q4 &&& (255 : Int32)) b8 k8 (105 : Int32) (110 : Int32) (q3 &&& (255 : Int32)) (105 : Int32) (110 : Int32) (105 : Int32) (116 : Int32) (121 : Int32) (q4 &&& (255 : Int32)) (q4 &&& (255 : Int32)) zc h172 n0 O176 hn F172 ⟨by decide, by decide⟩ ⟨by decide, by decide⟩ (own_lat _) ⟨by decide, by decide⟩ ⟨by decide, by decide⟩ ⟨by decide, by decide⟩ ⟨by decide, by decide⟩ ⟨by decide, by decide⟩ (own_lat _) (own_lat _) S_C hzc X172 hx hZ5 hby hml ho5 Bd.returns (BodyLoose.notSynchronized Bd) e172 N177 hS5 hk175 (by rw [hh]; exact CR174)
        exact ⟨s₂, o, pre0 _ (S178 _ t1), t2, t3, t4⟩
      · obtain ⟨cl179, Ar179, q179, Sz179, Nn179, Hh179, Gg179⟩ := id F147
        have in179 : ¬ ((3 : Int32) < 0 ∨ cl179.slots.size ≤ ((3 : Int32)).toNatClampNeg) := inb_of Sz179 ⟨by decide, by decide⟩
        obtain ⟨T179, h179, X179, e179, W179, st179⟩ := stC X147 hx hZ5 e147 Ar179 (j := (3 : Int32)) in179 (g := (mkF m 202 #[.val (.int q0), .val (.int q1), .val (.int q2), .val (.int q3), .val (.int q4), .val (.int nv), .val (.int (0 : Int32)), .val (.ref x5), .val (.int (q4 &&& (255 : Int32))), .val (.ref b8), .unset, .unset, .unset, .unset] [(.int (q3 &&& (255 : Int32))), (.int (3 : Int32)), (.ref b8)])) rfl rfl (hb hby at_202)
        rw [show nar .char (q3 &&& (255 : Int32)) = (q3 &&& (255 : Int32)) from i2c_mask _] at W179
        have f180 := (Exa.wr W147 f148)
        have CR181 := CR149.trans (CHr.wr W179 (Safe.exa hZ5.alike f180 (by decide) (by decide)) CR149.1)
        have hk182 := Nat.le_trans hk150 (Keep.of_wr W179).1
        have O183 := O151.wr W179 ge_b8
        have N184 := Fr.snoc X179 N152 ge_b8
        have F179 : Arv Z h179 b8 k8 .char (10 : Int32) [(.int (105 : Int32)), (.int (110 : Int32)), (.int (102 : Int32)), (.int (q3 &&& (255 : Int32))), (.int (110 : Int32)), (.int (105 : Int32)), (.int (116 : Int32)), (.int (121 : Int32)), (.int (q4 &&& (255 : Int32))), (.int (q4 &&& (255 : Int32)))] (.int (0 : Int32)) := Arv.set Ar179 q179 Sz179 Nn179 Hh179 Gg179 (by rw [← (i2c_mask _ : nar .char (q3 &&& (255 : Int32)) = (q3 &&& (255 : Int32)))]; exact fits_nar_char _) W179 3 rfl (Nat.le_of_ble_eq_true rfl)
        have S185 : ∀ t, Steps p.tables e below (T179.setTop (mkF m 203 #[.val (.int q0), .val (.int q1), .val (.int q2), .val (.int q3), .val (.int q4), .val (.int nv), .val (.int (0 : Int32)), .val (.ref x5), .val (.int (q4 &&& (255 : Int32))), .val (.ref b8), .unset, .unset, .unset, .unset] [])) t → Steps p.tables e below (s₁.setTop (mkF m 0 #[.val (.int q0), .val (.int q1), .val (.int q2), .val (.int q3), .val (.int q4), .unset, .unset, .unset, .unset, .unset, .unset, .unset, .unset, .unset] [])) t := by
          intro t kt
          refine S157 t ?_
          refine XS.iloadN X147.here hx rfl (hb hby at_196) rfl ?_
          refine XS.sipush X147.here hx rfl (hb hby at_197) ?_
          refine XS.iand X147.here hx rfl (hb hby at_200) rfl ?_
          refine XS.i2c X147.here hx rfl (hb hby at_201) rfl ?_
          change Steps p.tables e below (T147.setTop (mkF m 202 #[.val (.int q0), .val (.int q1), .val (.int q2), .val (.int q3), .val (.int q4), .val (.int nv), .val (.int (0 : Int32)), .val (.ref x5), .val (.int (q4 &&& (255 : Int32))), .val (.ref b8), .unset, .unset, .unset, .unset] [(.int ((q3 &&& (255 : Int32)).toUInt32.toUInt16.toUInt32.toInt32)), (.int (3 : Int32)), (.ref b8)])) _
          rw [i2c_mask]
          show Steps p.tables e below (T147.setTop (mkF m 202 #[.val (.int q0), .val (.int q1), .val (.int q2), .val (.int q3), .val (.int q4), .val (.int nv), .val (.int (0 : Int32)), .val (.ref x5), .val (.int (q4 &&& (255 : Int32))), .val (.ref b8), .unset, .unset, .unset, .unset] [(.int (q3 &&& (255 : Int32))), (.int (3 : Int32)), (.ref b8)])) _
          refine st179 _ ?_
          exact kt
        obtain ⟨s₂, o, t1, t2, t3, t4⟩ := rm_tail l Z a0 hw q0 q1 q2 q3 q4 nv (0 : Int32) x5 (q4 &&& (255 : Int32)) b8 k8 (105 : Int32) (110 : Int32) (102 : Int32) (q3 &&& (255 : Int32)) (110 : Int32) (105 : Int32) (116 : Int32) (121 : Int32) (q4 &&& (255 : Int32)) (q4 &&& (255 : Int32)) zc h179 n0 O183 hn F179 ⟨by decide, by decide⟩ ⟨by decide, by decide⟩ ⟨by decide, by decide⟩ (own_lat _) ⟨by decide, by decide⟩ ⟨by decide, by decide⟩ ⟨by decide, by decide⟩ ⟨by decide, by decide⟩ (own_lat _) (own_lat _) S_C hzc X179 hx hZ5 hby hml ho5 Bd.returns (BodyLoose.notSynchronized Bd) e179 N184 hS5 hk182 (by rw [hh]; exact CR181)
        exact ⟨s₂, o, pre0 _ (S185 _ t1), t2, t3, t4⟩
      · obtain ⟨cl186, Ar186, q186, Sz186, Nn186, Hh186, Gg186⟩ := id F147
        have in186 : ¬ ((4 : Int32) < 0 ∨ cl186.slots.size ≤ ((4 : Int32)).toNatClampNeg) := inb_of Sz186 ⟨by decide, by decide⟩
        obtain ⟨T186, h186, X186, e186, W186, st186⟩ := stC X147 hx hZ5 e147 Ar186 (j := (4 : Int32)) in186 (g := (mkF m 202 #[.val (.int q0), .val (.int q1), .val (.int q2), .val (.int q3), .val (.int q4), .val (.int nv), .val (.int (0 : Int32)), .val (.ref x5), .val (.int (q4 &&& (255 : Int32))), .val (.ref b8), .unset, .unset, .unset, .unset] [(.int (q3 &&& (255 : Int32))), (.int (4 : Int32)), (.ref b8)])) rfl rfl (hb hby at_202)
        rw [show nar .char (q3 &&& (255 : Int32)) = (q3 &&& (255 : Int32)) from i2c_mask _] at W186
        have f187 := (Exa.wr W147 f148)
        have CR188 := CR149.trans (CHr.wr W186 (Safe.exa hZ5.alike f187 (by decide) (by decide)) CR149.1)
        have hk189 := Nat.le_trans hk150 (Keep.of_wr W186).1
        have O190 := O151.wr W186 ge_b8
        have N191 := Fr.snoc X186 N152 ge_b8
        have F186 : Arv Z h186 b8 k8 .char (10 : Int32) [(.int (105 : Int32)), (.int (110 : Int32)), (.int (102 : Int32)), (.int (105 : Int32)), (.int (q3 &&& (255 : Int32))), (.int (105 : Int32)), (.int (116 : Int32)), (.int (121 : Int32)), (.int (q4 &&& (255 : Int32))), (.int (q4 &&& (255 : Int32)))] (.int (0 : Int32)) := Arv.set Ar186 q186 Sz186 Nn186 Hh186 Gg186 (by rw [← (i2c_mask _ : nar .char (q3 &&& (255 : Int32)) = (q3 &&& (255 : Int32)))]; exact fits_nar_char _) W186 4 rfl (Nat.le_of_ble_eq_true rfl)
        have S192 : ∀ t, Steps p.tables e below (T186.setTop (mkF m 203 #[.val (.int q0), .val (.int q1), .val (.int q2), .val (.int q3), .val (.int q4), .val (.int nv), .val (.int (0 : Int32)), .val (.ref x5), .val (.int (q4 &&& (255 : Int32))), .val (.ref b8), .unset, .unset, .unset, .unset] [])) t → Steps p.tables e below (s₁.setTop (mkF m 0 #[.val (.int q0), .val (.int q1), .val (.int q2), .val (.int q3), .val (.int q4), .unset, .unset, .unset, .unset, .unset, .unset, .unset, .unset, .unset] [])) t := by
          intro t kt
          refine S157 t ?_
          refine XS.iloadN X147.here hx rfl (hb hby at_196) rfl ?_
          refine XS.sipush X147.here hx rfl (hb hby at_197) ?_
          refine XS.iand X147.here hx rfl (hb hby at_200) rfl ?_
          refine XS.i2c X147.here hx rfl (hb hby at_201) rfl ?_
          change Steps p.tables e below (T147.setTop (mkF m 202 #[.val (.int q0), .val (.int q1), .val (.int q2), .val (.int q3), .val (.int q4), .val (.int nv), .val (.int (0 : Int32)), .val (.ref x5), .val (.int (q4 &&& (255 : Int32))), .val (.ref b8), .unset, .unset, .unset, .unset] [(.int ((q3 &&& (255 : Int32)).toUInt32.toUInt16.toUInt32.toInt32)), (.int (4 : Int32)), (.ref b8)])) _
          rw [i2c_mask]
          show Steps p.tables e below (T147.setTop (mkF m 202 #[.val (.int q0), .val (.int q1), .val (.int q2), .val (.int q3), .val (.int q4), .val (.int nv), .val (.int (0 : Int32)), .val (.ref x5), .val (.int (q4 &&& (255 : Int32))), .val (.ref b8), .unset, .unset, .unset, .unset] [(.int (q3 &&& (255 : Int32))), (.int (4 : Int32)), (.ref b8)])) _
          refine st186 _ ?_
          exact kt
        obtain ⟨s₂, o, t1, t2, t3, t4⟩ := rm_tail l Z a0 hw q0 q1 q2 q3 q4 nv (0 : Int32) x5 (q4 &&& (255 : Int32)) b8 k8 (105 : Int32) (110 : Int32) (102 : Int32) (105 : Int32) (q3 &&& (255 : Int32)) (105 : Int32) (116 : Int32) (121 : Int32) (q4 &&& (255 : Int32)) (q4 &&& (255 : Int32)) zc h186 n0 O190 hn F186 ⟨by decide, by decide⟩ ⟨by decide, by decide⟩ ⟨by decide, by decide⟩ ⟨by decide, by decide⟩ (own_lat _) ⟨by decide, by decide⟩ ⟨by decide, by decide⟩ ⟨by decide, by decide⟩ (own_lat _) (own_lat _) S_C hzc X186 hx hZ5 hby hml ho5 Bd.returns (BodyLoose.notSynchronized Bd) e186 N191 hS5 hk189 (by rw [hh]; exact CR188)
        exact ⟨s₂, o, pre0 _ (S192 _ t1), t2, t3, t4⟩
      · obtain ⟨cl193, Ar193, q193, Sz193, Nn193, Hh193, Gg193⟩ := id F147
        have in193 : ¬ ((5 : Int32) < 0 ∨ cl193.slots.size ≤ ((5 : Int32)).toNatClampNeg) := inb_of Sz193 ⟨by decide, by decide⟩
        obtain ⟨T193, h193, X193, e193, W193, st193⟩ := stC X147 hx hZ5 e147 Ar193 (j := (5 : Int32)) in193 (g := (mkF m 202 #[.val (.int q0), .val (.int q1), .val (.int q2), .val (.int q3), .val (.int q4), .val (.int nv), .val (.int (0 : Int32)), .val (.ref x5), .val (.int (q4 &&& (255 : Int32))), .val (.ref b8), .unset, .unset, .unset, .unset] [(.int (q3 &&& (255 : Int32))), (.int (5 : Int32)), (.ref b8)])) rfl rfl (hb hby at_202)
        rw [show nar .char (q3 &&& (255 : Int32)) = (q3 &&& (255 : Int32)) from i2c_mask _] at W193
        have f194 := (Exa.wr W147 f148)
        have CR195 := CR149.trans (CHr.wr W193 (Safe.exa hZ5.alike f194 (by decide) (by decide)) CR149.1)
        have hk196 := Nat.le_trans hk150 (Keep.of_wr W193).1
        have O197 := O151.wr W193 ge_b8
        have N198 := Fr.snoc X193 N152 ge_b8
        have F193 : Arv Z h193 b8 k8 .char (10 : Int32) [(.int (105 : Int32)), (.int (110 : Int32)), (.int (102 : Int32)), (.int (105 : Int32)), (.int (110 : Int32)), (.int (q3 &&& (255 : Int32))), (.int (116 : Int32)), (.int (121 : Int32)), (.int (q4 &&& (255 : Int32))), (.int (q4 &&& (255 : Int32)))] (.int (0 : Int32)) := Arv.set Ar193 q193 Sz193 Nn193 Hh193 Gg193 (by rw [← (i2c_mask _ : nar .char (q3 &&& (255 : Int32)) = (q3 &&& (255 : Int32)))]; exact fits_nar_char _) W193 5 rfl (Nat.le_of_ble_eq_true rfl)
        have S199 : ∀ t, Steps p.tables e below (T193.setTop (mkF m 203 #[.val (.int q0), .val (.int q1), .val (.int q2), .val (.int q3), .val (.int q4), .val (.int nv), .val (.int (0 : Int32)), .val (.ref x5), .val (.int (q4 &&& (255 : Int32))), .val (.ref b8), .unset, .unset, .unset, .unset] [])) t → Steps p.tables e below (s₁.setTop (mkF m 0 #[.val (.int q0), .val (.int q1), .val (.int q2), .val (.int q3), .val (.int q4), .unset, .unset, .unset, .unset, .unset, .unset, .unset, .unset, .unset] [])) t := by
          intro t kt
          refine S157 t ?_
          refine XS.iloadN X147.here hx rfl (hb hby at_196) rfl ?_
          refine XS.sipush X147.here hx rfl (hb hby at_197) ?_
          refine XS.iand X147.here hx rfl (hb hby at_200) rfl ?_
          refine XS.i2c X147.here hx rfl (hb hby at_201) rfl ?_
          change Steps p.tables e below (T147.setTop (mkF m 202 #[.val (.int q0), .val (.int q1), .val (.int q2), .val (.int q3), .val (.int q4), .val (.int nv), .val (.int (0 : Int32)), .val (.ref x5), .val (.int (q4 &&& (255 : Int32))), .val (.ref b8), .unset, .unset, .unset, .unset] [(.int ((q3 &&& (255 : Int32)).toUInt32.toUInt16.toUInt32.toInt32)), (.int (5 : Int32)), (.ref b8)])) _
          rw [i2c_mask]
          show Steps p.tables e below (T147.setTop (mkF m 202 #[.val (.int q0), .val (.int q1), .val (.int q2), .val (.int q3), .val (.int q4), .val (.int nv), .val (.int (0 : Int32)), .val (.ref x5), .val (.int (q4 &&& (255 : Int32))), .val (.ref b8), .unset, .unset, .unset, .unset] [(.int (q3 &&& (255 : Int32))), (.int (5 : Int32)), (.ref b8)])) _
          refine st193 _ ?_
          exact kt
        obtain ⟨s₂, o, t1, t2, t3, t4⟩ := rm_tail l Z a0 hw q0 q1 q2 q3 q4 nv (0 : Int32) x5 (q4 &&& (255 : Int32)) b8 k8 (105 : Int32) (110 : Int32) (102 : Int32) (105 : Int32) (110 : Int32) (q3 &&& (255 : Int32)) (116 : Int32) (121 : Int32) (q4 &&& (255 : Int32)) (q4 &&& (255 : Int32)) zc h193 n0 O197 hn F193 ⟨by decide, by decide⟩ ⟨by decide, by decide⟩ ⟨by decide, by decide⟩ ⟨by decide, by decide⟩ ⟨by decide, by decide⟩ (own_lat _) ⟨by decide, by decide⟩ ⟨by decide, by decide⟩ (own_lat _) (own_lat _) S_C hzc X193 hx hZ5 hby hml ho5 Bd.returns (BodyLoose.notSynchronized Bd) e193 N198 hS5 hk196 (by rw [hh]; exact CR195)
        exact ⟨s₂, o, pre0 _ (S199 _ t1), t2, t3, t4⟩
      · obtain ⟨cl200, Ar200, q200, Sz200, Nn200, Hh200, Gg200⟩ := id F147
        have in200 : ¬ ((6 : Int32) < 0 ∨ cl200.slots.size ≤ ((6 : Int32)).toNatClampNeg) := inb_of Sz200 ⟨by decide, by decide⟩
        obtain ⟨T200, h200, X200, e200, W200, st200⟩ := stC X147 hx hZ5 e147 Ar200 (j := (6 : Int32)) in200 (g := (mkF m 202 #[.val (.int q0), .val (.int q1), .val (.int q2), .val (.int q3), .val (.int q4), .val (.int nv), .val (.int (0 : Int32)), .val (.ref x5), .val (.int (q4 &&& (255 : Int32))), .val (.ref b8), .unset, .unset, .unset, .unset] [(.int (q3 &&& (255 : Int32))), (.int (6 : Int32)), (.ref b8)])) rfl rfl (hb hby at_202)
        rw [show nar .char (q3 &&& (255 : Int32)) = (q3 &&& (255 : Int32)) from i2c_mask _] at W200
        have f201 := (Exa.wr W147 f148)
        have CR202 := CR149.trans (CHr.wr W200 (Safe.exa hZ5.alike f201 (by decide) (by decide)) CR149.1)
        have hk203 := Nat.le_trans hk150 (Keep.of_wr W200).1
        have O204 := O151.wr W200 ge_b8
        have N205 := Fr.snoc X200 N152 ge_b8
        have F200 : Arv Z h200 b8 k8 .char (10 : Int32) [(.int (105 : Int32)), (.int (110 : Int32)), (.int (102 : Int32)), (.int (105 : Int32)), (.int (110 : Int32)), (.int (105 : Int32)), (.int (q3 &&& (255 : Int32))), (.int (121 : Int32)), (.int (q4 &&& (255 : Int32))), (.int (q4 &&& (255 : Int32)))] (.int (0 : Int32)) := Arv.set Ar200 q200 Sz200 Nn200 Hh200 Gg200 (by rw [← (i2c_mask _ : nar .char (q3 &&& (255 : Int32)) = (q3 &&& (255 : Int32)))]; exact fits_nar_char _) W200 6 rfl (Nat.le_of_ble_eq_true rfl)
        have S206 : ∀ t, Steps p.tables e below (T200.setTop (mkF m 203 #[.val (.int q0), .val (.int q1), .val (.int q2), .val (.int q3), .val (.int q4), .val (.int nv), .val (.int (0 : Int32)), .val (.ref x5), .val (.int (q4 &&& (255 : Int32))), .val (.ref b8), .unset, .unset, .unset, .unset] [])) t → Steps p.tables e below (s₁.setTop (mkF m 0 #[.val (.int q0), .val (.int q1), .val (.int q2), .val (.int q3), .val (.int q4), .unset, .unset, .unset, .unset, .unset, .unset, .unset, .unset, .unset] [])) t := by
          intro t kt
          refine S157 t ?_
          refine XS.iloadN X147.here hx rfl (hb hby at_196) rfl ?_
          refine XS.sipush X147.here hx rfl (hb hby at_197) ?_
          refine XS.iand X147.here hx rfl (hb hby at_200) rfl ?_
          refine XS.i2c X147.here hx rfl (hb hby at_201) rfl ?_
          change Steps p.tables e below (T147.setTop (mkF m 202 #[.val (.int q0), .val (.int q1), .val (.int q2), .val (.int q3), .val (.int q4), .val (.int nv), .val (.int (0 : Int32)), .val (.ref x5), .val (.int (q4 &&& (255 : Int32))), .val (.ref b8), .unset, .unset, .unset, .unset] [(.int ((q3 &&& (255 : Int32)).toUInt32.toUInt16.toUInt32.toInt32)), (.int (6 : Int32)), (.ref b8)])) _
          rw [i2c_mask]
          show Steps p.tables e below (T147.setTop (mkF m 202 #[.val (.int q0), .val (.int q1), .val (.int q2), .val (.int q3), .val (.int q4), .val (.int nv), .val (.int (0 : Int32)), .val (.ref x5), .val (.int (q4 &&& (255 : Int32))), .val (.ref b8), .unset, .unset, .unset, .unset] [(.int (q3 &&& (255 : Int32))), (.int (6 : Int32)), (.ref b8)])) _
          refine st200 _ ?_
          exact kt
        obtain ⟨s₂, o, t1, t2, t3, t4⟩ := rm_tail l Z a0 hw q0 q1 q2 q3 q4 nv (0 : Int32) x5 (q4 &&& (255 : Int32)) b8 k8 (105 : Int32) (110 : Int32) (102 : Int32) (105 : Int32) (110 : Int32) (105 : Int32) (q3 &&& (255 : Int32)) (121 : Int32) (q4 &&& (255 : Int32)) (q4 &&& (255 : Int32)) zc h200 n0 O204 hn F200 ⟨by decide, by decide⟩ ⟨by decide, by decide⟩ ⟨by decide, by decide⟩ ⟨by decide, by decide⟩ ⟨by decide, by decide⟩ ⟨by decide, by decide⟩ (own_lat _) ⟨by decide, by decide⟩ (own_lat _) (own_lat _) S_C hzc X200 hx hZ5 hby hml ho5 Bd.returns (BodyLoose.notSynchronized Bd) e200 N205 hS5 hk203 (by rw [hh]; exact CR202)
        exact ⟨s₂, o, pre0 _ (S206 _ t1), t2, t3, t4⟩
      · obtain ⟨cl207, Ar207, q207, Sz207, Nn207, Hh207, Gg207⟩ := id F147
        have in207 : ¬ ((7 : Int32) < 0 ∨ cl207.slots.size ≤ ((7 : Int32)).toNatClampNeg) := inb_of Sz207 ⟨by decide, by decide⟩
        obtain ⟨T207, h207, X207, e207, W207, st207⟩ := stC X147 hx hZ5 e147 Ar207 (j := (7 : Int32)) in207 (g := (mkF m 202 #[.val (.int q0), .val (.int q1), .val (.int q2), .val (.int q3), .val (.int q4), .val (.int nv), .val (.int (0 : Int32)), .val (.ref x5), .val (.int (q4 &&& (255 : Int32))), .val (.ref b8), .unset, .unset, .unset, .unset] [(.int (q3 &&& (255 : Int32))), (.int (7 : Int32)), (.ref b8)])) rfl rfl (hb hby at_202)
        rw [show nar .char (q3 &&& (255 : Int32)) = (q3 &&& (255 : Int32)) from i2c_mask _] at W207
        have f208 := (Exa.wr W147 f148)
        have CR209 := CR149.trans (CHr.wr W207 (Safe.exa hZ5.alike f208 (by decide) (by decide)) CR149.1)
        have hk210 := Nat.le_trans hk150 (Keep.of_wr W207).1
        have O211 := O151.wr W207 ge_b8
        have N212 := Fr.snoc X207 N152 ge_b8
        have F207 : Arv Z h207 b8 k8 .char (10 : Int32) [(.int (105 : Int32)), (.int (110 : Int32)), (.int (102 : Int32)), (.int (105 : Int32)), (.int (110 : Int32)), (.int (105 : Int32)), (.int (116 : Int32)), (.int (q3 &&& (255 : Int32))), (.int (q4 &&& (255 : Int32))), (.int (q4 &&& (255 : Int32)))] (.int (0 : Int32)) := Arv.set Ar207 q207 Sz207 Nn207 Hh207 Gg207 (by rw [← (i2c_mask _ : nar .char (q3 &&& (255 : Int32)) = (q3 &&& (255 : Int32)))]; exact fits_nar_char _) W207 7 rfl (Nat.le_of_ble_eq_true rfl)
        have S213 : ∀ t, Steps p.tables e below (T207.setTop (mkF m 203 #[.val (.int q0), .val (.int q1), .val (.int q2), .val (.int q3), .val (.int q4), .val (.int nv), .val (.int (0 : Int32)), .val (.ref x5), .val (.int (q4 &&& (255 : Int32))), .val (.ref b8), .unset, .unset, .unset, .unset] [])) t → Steps p.tables e below (s₁.setTop (mkF m 0 #[.val (.int q0), .val (.int q1), .val (.int q2), .val (.int q3), .val (.int q4), .unset, .unset, .unset, .unset, .unset, .unset, .unset, .unset, .unset] [])) t := by
          intro t kt
          refine S157 t ?_
          refine XS.iloadN X147.here hx rfl (hb hby at_196) rfl ?_
          refine XS.sipush X147.here hx rfl (hb hby at_197) ?_
          refine XS.iand X147.here hx rfl (hb hby at_200) rfl ?_
          refine XS.i2c X147.here hx rfl (hb hby at_201) rfl ?_
          change Steps p.tables e below (T147.setTop (mkF m 202 #[.val (.int q0), .val (.int q1), .val (.int q2), .val (.int q3), .val (.int q4), .val (.int nv), .val (.int (0 : Int32)), .val (.ref x5), .val (.int (q4 &&& (255 : Int32))), .val (.ref b8), .unset, .unset, .unset, .unset] [(.int ((q3 &&& (255 : Int32)).toUInt32.toUInt16.toUInt32.toInt32)), (.int (7 : Int32)), (.ref b8)])) _
          rw [i2c_mask]
          show Steps p.tables e below (T147.setTop (mkF m 202 #[.val (.int q0), .val (.int q1), .val (.int q2), .val (.int q3), .val (.int q4), .val (.int nv), .val (.int (0 : Int32)), .val (.ref x5), .val (.int (q4 &&& (255 : Int32))), .val (.ref b8), .unset, .unset, .unset, .unset] [(.int (q3 &&& (255 : Int32))), (.int (7 : Int32)), (.ref b8)])) _
          refine st207 _ ?_
          exact kt
        obtain ⟨s₂, o, t1, t2, t3, t4⟩ := rm_tail l Z a0 hw q0 q1 q2 q3 q4 nv (0 : Int32) x5 (q4 &&& (255 : Int32)) b8 k8 (105 : Int32) (110 : Int32) (102 : Int32) (105 : Int32) (110 : Int32) (105 : Int32) (116 : Int32) (q3 &&& (255 : Int32)) (q4 &&& (255 : Int32)) (q4 &&& (255 : Int32)) zc h207 n0 O211 hn F207 ⟨by decide, by decide⟩ ⟨by decide, by decide⟩ ⟨by decide, by decide⟩ ⟨by decide, by decide⟩ ⟨by decide, by decide⟩ ⟨by decide, by decide⟩ ⟨by decide, by decide⟩ (own_lat _) (own_lat _) (own_lat _) S_C hzc X207 hx hZ5 hby hml ho5 Bd.returns (BodyLoose.notSynchronized Bd) e207 N212 hS5 hk210 (by rw [hh]; exact CR209)
        exact ⟨s₂, o, pre0 _ (S213 _ t1), t2, t3, t4⟩
      · obtain ⟨cl214, Ar214, q214, Sz214, Nn214, Hh214, Gg214⟩ := id F147
        have in214 : ¬ ((8 : Int32) < 0 ∨ cl214.slots.size ≤ ((8 : Int32)).toNatClampNeg) := inb_of Sz214 ⟨by decide, by decide⟩
        obtain ⟨T214, h214, X214, e214, W214, st214⟩ := stC X147 hx hZ5 e147 Ar214 (j := (8 : Int32)) in214 (g := (mkF m 202 #[.val (.int q0), .val (.int q1), .val (.int q2), .val (.int q3), .val (.int q4), .val (.int nv), .val (.int (0 : Int32)), .val (.ref x5), .val (.int (q4 &&& (255 : Int32))), .val (.ref b8), .unset, .unset, .unset, .unset] [(.int (q3 &&& (255 : Int32))), (.int (8 : Int32)), (.ref b8)])) rfl rfl (hb hby at_202)
        rw [show nar .char (q3 &&& (255 : Int32)) = (q3 &&& (255 : Int32)) from i2c_mask _] at W214
        have f215 := (Exa.wr W147 f148)
        have CR216 := CR149.trans (CHr.wr W214 (Safe.exa hZ5.alike f215 (by decide) (by decide)) CR149.1)
        have hk217 := Nat.le_trans hk150 (Keep.of_wr W214).1
        have O218 := O151.wr W214 ge_b8
        have N219 := Fr.snoc X214 N152 ge_b8
        have F214 : Arv Z h214 b8 k8 .char (10 : Int32) [(.int (105 : Int32)), (.int (110 : Int32)), (.int (102 : Int32)), (.int (105 : Int32)), (.int (110 : Int32)), (.int (105 : Int32)), (.int (116 : Int32)), (.int (121 : Int32)), (.int (q3 &&& (255 : Int32))), (.int (q4 &&& (255 : Int32)))] (.int (0 : Int32)) := Arv.set Ar214 q214 Sz214 Nn214 Hh214 Gg214 (by rw [← (i2c_mask _ : nar .char (q3 &&& (255 : Int32)) = (q3 &&& (255 : Int32)))]; exact fits_nar_char _) W214 8 rfl (Nat.le_of_ble_eq_true rfl)
        have S220 : ∀ t, Steps p.tables e below (T214.setTop (mkF m 203 #[.val (.int q0), .val (.int q1), .val (.int q2), .val (.int q3), .val (.int q4), .val (.int nv), .val (.int (0 : Int32)), .val (.ref x5), .val (.int (q4 &&& (255 : Int32))), .val (.ref b8), .unset, .unset, .unset, .unset] [])) t → Steps p.tables e below (s₁.setTop (mkF m 0 #[.val (.int q0), .val (.int q1), .val (.int q2), .val (.int q3), .val (.int q4), .unset, .unset, .unset, .unset, .unset, .unset, .unset, .unset, .unset] [])) t := by
          intro t kt
          refine S157 t ?_
          refine XS.iloadN X147.here hx rfl (hb hby at_196) rfl ?_
          refine XS.sipush X147.here hx rfl (hb hby at_197) ?_
          refine XS.iand X147.here hx rfl (hb hby at_200) rfl ?_
          refine XS.i2c X147.here hx rfl (hb hby at_201) rfl ?_
          change Steps p.tables e below (T147.setTop (mkF m 202 #[.val (.int q0), .val (.int q1), .val (.int q2), .val (.int q3), .val (.int q4), .val (.int nv), .val (.int (0 : Int32)), .val (.ref x5), .val (.int (q4 &&& (255 : Int32))), .val (.ref b8), .unset, .unset, .unset, .unset] [(.int ((q3 &&& (255 : Int32)).toUInt32.toUInt16.toUInt32.toInt32)), (.int (8 : Int32)), (.ref b8)])) _
          rw [i2c_mask]
          show Steps p.tables e below (T147.setTop (mkF m 202 #[.val (.int q0), .val (.int q1), .val (.int q2), .val (.int q3), .val (.int q4), .val (.int nv), .val (.int (0 : Int32)), .val (.ref x5), .val (.int (q4 &&& (255 : Int32))), .val (.ref b8), .unset, .unset, .unset, .unset] [(.int (q3 &&& (255 : Int32))), (.int (8 : Int32)), (.ref b8)])) _
          refine st214 _ ?_
          exact kt
        obtain ⟨s₂, o, t1, t2, t3, t4⟩ := rm_tail l Z a0 hw q0 q1 q2 q3 q4 nv (0 : Int32) x5 (q4 &&& (255 : Int32)) b8 k8 (105 : Int32) (110 : Int32) (102 : Int32) (105 : Int32) (110 : Int32) (105 : Int32) (116 : Int32) (121 : Int32) (q3 &&& (255 : Int32)) (q4 &&& (255 : Int32)) zc h214 n0 O218 hn F214 ⟨by decide, by decide⟩ ⟨by decide, by decide⟩ ⟨by decide, by decide⟩ ⟨by decide, by decide⟩ ⟨by decide, by decide⟩ ⟨by decide, by decide⟩ ⟨by decide, by decide⟩ ⟨by decide, by decide⟩ (own_lat _) (own_lat _) S_C hzc X214 hx hZ5 hby hml ho5 Bd.returns (BodyLoose.notSynchronized Bd) e214 N219 hS5 hk217 (by rw [hh]; exact CR216)
        exact ⟨s₂, o, pre0 _ (S220 _ t1), t2, t3, t4⟩
      · obtain ⟨cl221, Ar221, q221, Sz221, Nn221, Hh221, Gg221⟩ := id F147
        have in221 : ¬ ((9 : Int32) < 0 ∨ cl221.slots.size ≤ ((9 : Int32)).toNatClampNeg) := inb_of Sz221 ⟨by decide, by decide⟩
        obtain ⟨T221, h221, X221, e221, W221, st221⟩ := stC X147 hx hZ5 e147 Ar221 (j := (9 : Int32)) in221 (g := (mkF m 202 #[.val (.int q0), .val (.int q1), .val (.int q2), .val (.int q3), .val (.int q4), .val (.int nv), .val (.int (0 : Int32)), .val (.ref x5), .val (.int (q4 &&& (255 : Int32))), .val (.ref b8), .unset, .unset, .unset, .unset] [(.int (q3 &&& (255 : Int32))), (.int (9 : Int32)), (.ref b8)])) rfl rfl (hb hby at_202)
        rw [show nar .char (q3 &&& (255 : Int32)) = (q3 &&& (255 : Int32)) from i2c_mask _] at W221
        have f222 := (Exa.wr W147 f148)
        have CR223 := CR149.trans (CHr.wr W221 (Safe.exa hZ5.alike f222 (by decide) (by decide)) CR149.1)
        have hk224 := Nat.le_trans hk150 (Keep.of_wr W221).1
        have O225 := O151.wr W221 ge_b8
        have N226 := Fr.snoc X221 N152 ge_b8
        have F221 : Arv Z h221 b8 k8 .char (10 : Int32) [(.int (105 : Int32)), (.int (110 : Int32)), (.int (102 : Int32)), (.int (105 : Int32)), (.int (110 : Int32)), (.int (105 : Int32)), (.int (116 : Int32)), (.int (121 : Int32)), (.int (q4 &&& (255 : Int32))), (.int (q3 &&& (255 : Int32)))] (.int (0 : Int32)) := Arv.set Ar221 q221 Sz221 Nn221 Hh221 Gg221 (by rw [← (i2c_mask _ : nar .char (q3 &&& (255 : Int32)) = (q3 &&& (255 : Int32)))]; exact fits_nar_char _) W221 9 rfl (Nat.le_of_ble_eq_true rfl)
        have S227 : ∀ t, Steps p.tables e below (T221.setTop (mkF m 203 #[.val (.int q0), .val (.int q1), .val (.int q2), .val (.int q3), .val (.int q4), .val (.int nv), .val (.int (0 : Int32)), .val (.ref x5), .val (.int (q4 &&& (255 : Int32))), .val (.ref b8), .unset, .unset, .unset, .unset] [])) t → Steps p.tables e below (s₁.setTop (mkF m 0 #[.val (.int q0), .val (.int q1), .val (.int q2), .val (.int q3), .val (.int q4), .unset, .unset, .unset, .unset, .unset, .unset, .unset, .unset, .unset] [])) t := by
          intro t kt
          refine S157 t ?_
          refine XS.iloadN X147.here hx rfl (hb hby at_196) rfl ?_
          refine XS.sipush X147.here hx rfl (hb hby at_197) ?_
          refine XS.iand X147.here hx rfl (hb hby at_200) rfl ?_
          refine XS.i2c X147.here hx rfl (hb hby at_201) rfl ?_
          change Steps p.tables e below (T147.setTop (mkF m 202 #[.val (.int q0), .val (.int q1), .val (.int q2), .val (.int q3), .val (.int q4), .val (.int nv), .val (.int (0 : Int32)), .val (.ref x5), .val (.int (q4 &&& (255 : Int32))), .val (.ref b8), .unset, .unset, .unset, .unset] [(.int ((q3 &&& (255 : Int32)).toUInt32.toUInt16.toUInt32.toInt32)), (.int (9 : Int32)), (.ref b8)])) _
          rw [i2c_mask]
          show Steps p.tables e below (T147.setTop (mkF m 202 #[.val (.int q0), .val (.int q1), .val (.int q2), .val (.int q3), .val (.int q4), .val (.int nv), .val (.int (0 : Int32)), .val (.ref x5), .val (.int (q4 &&& (255 : Int32))), .val (.ref b8), .unset, .unset, .unset, .unset] [(.int (q3 &&& (255 : Int32))), (.int (9 : Int32)), (.ref b8)])) _
          refine st221 _ ?_
          exact kt
        obtain ⟨s₂, o, t1, t2, t3, t4⟩ := rm_tail l Z a0 hw q0 q1 q2 q3 q4 nv (0 : Int32) x5 (q4 &&& (255 : Int32)) b8 k8 (105 : Int32) (110 : Int32) (102 : Int32) (105 : Int32) (110 : Int32) (105 : Int32) (116 : Int32) (121 : Int32) (q4 &&& (255 : Int32)) (q3 &&& (255 : Int32)) zc h221 n0 O225 hn F221 ⟨by decide, by decide⟩ ⟨by decide, by decide⟩ ⟨by decide, by decide⟩ ⟨by decide, by decide⟩ ⟨by decide, by decide⟩ ⟨by decide, by decide⟩ ⟨by decide, by decide⟩ ⟨by decide, by decide⟩ (own_lat _) (own_lat _) S_C hzc X221 hx hZ5 hby hml ho5 Bd.returns (BodyLoose.notSynchronized Bd) e221 N226 hS5 hk224 (by rw [hh]; exact CR223)
        exact ⟨s₂, o, pre0 _ (S227 _ t1), t2, t3, t4⟩
  · obtain ⟨x228, T228, h228, q228, y228, j228, X228, e228, E228, hS228, hk228, hZ228, ho228, fE228, fC228, fV228, fA228, la228, lb228, C228, -, ns228, st228⟩ := ldcCH X0 hx hZ0 ho0 (own_w hw 1 rfl) own_at e0 hS0 hk0 own_ew (by decide) CR0.1 (vs := [(.int (45 : Int32).toInt8.toInt32), (.int (105 : Int32).toInt8.toInt32), (.int (110 : Int32).toInt8.toInt32), (.int (102 : Int32).toInt8.toInt32), (.int (105 : Int32).toInt8.toInt32), (.int (110 : Int32).toInt8.toInt32), (.int (105 : Int32).toInt8.toInt32), (.int (116 : Int32).toInt8.toInt32), (.int (121 : Int32).toInt8.toInt32)]) (z := (9 : Int32)) ⟨by decide, by decide +kernel⟩ (by decide) rfl (g := (mkF m 29 #[.val (.int q0), .val (.int q1), .val (.int q2), .val (.int q3), .val (.int q4), .val (.int nv), .val (.int (1 : Int32)), .unset, .unset, .unset, .unset, .unset, .unset, .unset] [])) rfl (hb hby at_29) (n := 36) (by decide) (by decide) (by decide) (by decide)
    have O229 := O0.ext E228
    have CR230 := CR0.trans C228
    obtain ⟨T231, h231, k231, X231, e231, E231, A231, B231, st231⟩ := newPE X228 hx hZ228 (own_w hw 9 rfl) e228 (g := (mkF m 49 #[.val (.int q0), .val (.int q1), .val (.int q2), .val (.int q3), .val (.int q4), .val (.int nv), .val (.int (1 : Int32)), .val (.ref x228), .val (.int (q4 &&& (255 : Int32))), .unset, .unset, .unset, .unset, .unset] [(.int (10 : Int32))])) rfl (hb hby at_49) rfl (by decide) (cap := 10) (by decide) (by decide) (by decide) (by decide) (ad := "[C") (by first | rfl | decide)
    obtain ⟨b231, g231⟩ : ∃ z, z = h228.size := ⟨_, rfl⟩
    have ge_b231 : n0 ≤ b231 := by rw [g231, ← O229.1]; exact O229.2.1
    have ne232 : x228 ≠ b231 := Nat.ne_of_lt (Nat.lt_of_lt_of_le (Exa.lt fE228) (Nat.le_of_eq g231.symm))
    have ne233 : y228 ≠ b231 := Nat.ne_of_lt (Nat.lt_of_lt_of_le (Arv.lt fA228) (Nat.le_of_eq g231.symm))
    rw [← g231] at A231 B231 st231
    have CR234 := CR230.trans (CHr.ext E231 CR230.1)
    have hk235 := Nat.le_trans hk228 E231.1
    have O236 := O229.ext E231
    have F231 : Arv Z h231 b231 k231 .char (10 : Int32) [(.int (0 : Int32)), (.int (0 : Int32)), (.int (0 : Int32)), (.int (0 : Int32)), (.int (0 : Int32)), (.int (0 : Int32)), (.int (0 : Int32)), (.int (0 : Int32)), (.int (0 : Int32)), (.int (0 : Int32))] (.int (0 : Int32)) := (Arv.new A231 (by decide)).pad (pad_rep [] (.int (0 : Int32)) 10)
    have f238 := (Exa.ext E231 fE228)
    have f239 := (Fld.ext E231 fV228)
    have f240 := (Fld.ext E231 fC228)
    have f241 := (Arv.ext fA228 E231)
    obtain ⟨_, _, ⟨T237, L237, k237, n237⟩, -, X237, ⟨Lc237, hQ237, l237, y237, z237⟩, st237⟩ := Jvm.LawKit.callS X231 hx (y := (⟨"com/example/logtide/logtide/event/TemporalTextIsInfinitePinLaw", "at", "(Ljava/lang/String;IC)C"⟩ : MethodName)) ho228 (mvT hZ228 (own_w hw 10 rfl)) (mvT hZ228 (own_w hw 11 rfl)) (mvT hZ228 (own_w hw 12 rfl)) (mvT hZ228 (own_w hw 13 rfl)) (by decide) (backOf (W := 2) (rm_at9_0 l Z a0 hw [] x228 y228 j228 (q4 &&& (255 : Int32)) zc fm h231 n0 O236 f238 f239 f240 f241 (own_lat _) S_C hzc S_F hfm) hZ228 (own_w hw 13 rfl) (own_w hw 12 rfl) (by decide) (by decide)) (g := (mkF m 61 #[.val (.int q0), .val (.int q1), .val (.int q2), .val (.int q3), .val (.int q4), .val (.int nv), .val (.int (1 : Int32)), .val (.ref x228), .val (.int (q4 &&& (255 : Int32))), .val (.ref b231), .unset, .unset, .unset, .unset] [(.int (q4 &&& (255 : Int32))), (.int (0 : Int32)), (.ref x228), (.int (0 : Int32)), (.ref b231)])) rfl (by rw [hml]; rfl) (argsL := [(.ref x228), (.int (0 : Int32)), (.int (q4 &&& (255 : Int32)))]) (rest := [(.int (0 : Int32)), (.ref b231)]) (lenOf pd_6 rfl) rfl (by show 2 * 0 + _ ≤ _; exact Nat.le_of_eq rfl) (hb hby at_61) (fun _ _ => ⟨rfl, e231, (by decide : 3 + 0 ≤ _), (by decide : 50 + 0 ≤ _)⟩)
    dsimp only [Pt.U, Pt.locs, Pt.cells, Pt.slots] at X237 l237 y237 z237 st237 hQ237
    subst l237 y237 z237
    obtain ⟨rfl, N242, k243⟩ := hQ237
    have N244 := Fr.app N0 N242
    obtain ⟨cl245, Ar245, q245, Sz245, Nn245, Hh245, Gg245⟩ := id F231
    have in245 : ¬ ((0 : Int32) < 0 ∨ cl245.slots.size ≤ ((0 : Int32)).toNatClampNeg) := inb_of Sz245 ⟨by decide, by decide⟩
    obtain ⟨T245, h245, X245, e245, W245, st245⟩ := stC X237 hx hZ228 k243 Ar245 (j := (0 : Int32)) in245 (g := (mkF m 64 #[.val (.int q0), .val (.int q1), .val (.int q2), .val (.int q3), .val (.int q4), .val (.int nv), .val (.int (1 : Int32)), .val (.ref x228), .val (.int (q4 &&& (255 : Int32))), .val (.ref b231), .unset, .unset, .unset, .unset] [(.int (45 : Int32)), (.int (0 : Int32)), (.ref b231)])) rfl rfl (hb hby at_64)
    rw [show nar .char (45 : Int32) = (45 : Int32) from rfl] at W245
    have CR246 := CR234.trans (CHr.wr W245 (Safe.exa hZ228.alike B231 (by decide) (by decide)) CR234.1)
    have hk247 := Nat.le_trans hk235 (Keep.of_wr W245).1
    have O248 := O236.wr W245 ge_b231
    have N249 := Fr.snoc X245 N244 ge_b231
    have F245 : Arv Z h245 b231 k231 .char (10 : Int32) [(.int (45 : Int32)), (.int (0 : Int32)), (.int (0 : Int32)), (.int (0 : Int32)), (.int (0 : Int32)), (.int (0 : Int32)), (.int (0 : Int32)), (.int (0 : Int32)), (.int (0 : Int32)), (.int (0 : Int32))] (.int (0 : Int32)) := Arv.set Ar245 q245 Sz245 Nn245 Hh245 Gg245 rfl W245 0 rfl (Nat.le_of_ble_eq_true rfl)
    have f251 := (Exa.wr W245 f238)
    have f252 := (Fld.other W245 f239 (Or.inl ne232))
    have f253 := (Fld.other W245 f240 (Or.inl ne232))
    have f254 := (Arv.other f241 W245 ne233)
    obtain ⟨_, _, ⟨T250, L250, k250, n250⟩, -, X250, ⟨Lc250, hQ250, l250, y250, z250⟩, st250⟩ := Jvm.LawKit.callS X245 hx (y := (⟨"com/example/logtide/logtide/event/TemporalTextIsInfinitePinLaw", "at", "(Ljava/lang/String;IC)C"⟩ : MethodName)) ho228 (mvT hZ228 (own_w hw 10 rfl)) (mvT hZ228 (own_w hw 11 rfl)) (mvT hZ228 (own_w hw 12 rfl)) (mvT hZ228 (own_w hw 13 rfl)) (by decide) (backOf (W := 2) (rm_at9_1 l Z a0 hw [] x228 y228 j228 (q4 &&& (255 : Int32)) zc fm h245 n0 O248 f251 f252 f253 f254 (own_lat _) S_C hzc S_F hfm) hZ228 (own_w hw 13 rfl) (own_w hw 12 rfl) (by decide) (by decide)) (g := (mkF m 73 #[.val (.int q0), .val (.int q1), .val (.int q2), .val (.int q3), .val (.int q4), .val (.int nv), .val (.int (1 : Int32)), .val (.ref x228), .val (.int (q4 &&& (255 : Int32))), .val (.ref b231), .unset, .unset, .unset, .unset] [(.int (q4 &&& (255 : Int32))), (.int (1 : Int32)), (.ref x228), (.int (1 : Int32)), (.ref b231)])) rfl (by rw [hml]; rfl) (argsL := [(.ref x228), (.int (1 : Int32)), (.int (q4 &&& (255 : Int32)))]) (rest := [(.int (1 : Int32)), (.ref b231)]) (lenOf pd_6 rfl) rfl (by show 2 * 0 + _ ≤ _; exact Nat.le_of_eq rfl) (hb hby at_73) (fun _ _ => ⟨rfl, e245, (by decide : 3 + 0 ≤ _), (by decide : 50 + 0 ≤ _)⟩)
    dsimp only [Pt.U, Pt.locs, Pt.cells, Pt.slots] at X250 l250 y250 z250 st250 hQ250
    subst l250 y250 z250
    obtain ⟨rfl, N255, k256⟩ := hQ250
    have N257 := Fr.app N249 N255
    obtain ⟨cl258, Ar258, q258, Sz258, Nn258, Hh258, Gg258⟩ := id F245
    have in258 : ¬ ((1 : Int32) < 0 ∨ cl258.slots.size ≤ ((1 : Int32)).toNatClampNeg) := inb_of Sz258 ⟨by decide, by decide⟩
    obtain ⟨T258, h258, X258, e258, W258, st258⟩ := stC X250 hx hZ228 k256 Ar258 (j := (1 : Int32)) in258 (g := (mkF m 76 #[.val (.int q0), .val (.int q1), .val (.int q2), .val (.int q3), .val (.int q4), .val (.int nv), .val (.int (1 : Int32)), .val (.ref x228), .val (.int (q4 &&& (255 : Int32))), .val (.ref b231), .unset, .unset, .unset, .unset] [(.int (105 : Int32)), (.int (1 : Int32)), (.ref b231)])) rfl rfl (hb hby at_76)
    rw [show nar .char (105 : Int32) = (105 : Int32) from rfl] at W258
    have f259 := (Exa.wr W245 B231)
    have CR260 := CR246.trans (CHr.wr W258 (Safe.exa hZ228.alike f259 (by decide) (by decide)) CR246.1)
    have hk261 := Nat.le_trans hk247 (Keep.of_wr W258).1
    have O262 := O248.wr W258 ge_b231
    have N263 := Fr.snoc X258 N257 ge_b231
    have F258 : Arv Z h258 b231 k231 .char (10 : Int32) [(.int (45 : Int32)), (.int (105 : Int32)), (.int (0 : Int32)), (.int (0 : Int32)), (.int (0 : Int32)), (.int (0 : Int32)), (.int (0 : Int32)), (.int (0 : Int32)), (.int (0 : Int32)), (.int (0 : Int32))] (.int (0 : Int32)) := Arv.set Ar258 q258 Sz258 Nn258 Hh258 Gg258 rfl W258 1 rfl (Nat.le_of_ble_eq_true rfl)
    have f265 := (Exa.wr W258 f251)
    have f266 := (Fld.other W258 f252 (Or.inl ne232))
    have f267 := (Fld.other W258 f253 (Or.inl ne232))
    have f268 := (Arv.other f254 W258 ne233)
    obtain ⟨_, _, ⟨T264, L264, k264, n264⟩, -, X264, ⟨Lc264, hQ264, l264, y264, z264⟩, st264⟩ := Jvm.LawKit.callS X258 hx (y := (⟨"com/example/logtide/logtide/event/TemporalTextIsInfinitePinLaw", "at", "(Ljava/lang/String;IC)C"⟩ : MethodName)) ho228 (mvT hZ228 (own_w hw 10 rfl)) (mvT hZ228 (own_w hw 11 rfl)) (mvT hZ228 (own_w hw 12 rfl)) (mvT hZ228 (own_w hw 13 rfl)) (by decide) (backOf (W := 2) (rm_at9_2 l Z a0 hw [] x228 y228 j228 (q4 &&& (255 : Int32)) zc fm h258 n0 O262 f265 f266 f267 f268 (own_lat _) S_C hzc S_F hfm) hZ228 (own_w hw 13 rfl) (own_w hw 12 rfl) (by decide) (by decide)) (g := (mkF m 85 #[.val (.int q0), .val (.int q1), .val (.int q2), .val (.int q3), .val (.int q4), .val (.int nv), .val (.int (1 : Int32)), .val (.ref x228), .val (.int (q4 &&& (255 : Int32))), .val (.ref b231), .unset, .unset, .unset, .unset] [(.int (q4 &&& (255 : Int32))), (.int (2 : Int32)), (.ref x228), (.int (2 : Int32)), (.ref b231)])) rfl (by rw [hml]; rfl) (argsL := [(.ref x228), (.int (2 : Int32)), (.int (q4 &&& (255 : Int32)))]) (rest := [(.int (2 : Int32)), (.ref b231)]) (lenOf pd_6 rfl) rfl (by show 2 * 0 + _ ≤ _; exact Nat.le_of_eq rfl) (hb hby at_85) (fun _ _ => ⟨rfl, e258, (by decide : 3 + 0 ≤ _), (by decide : 50 + 0 ≤ _)⟩)
    dsimp only [Pt.U, Pt.locs, Pt.cells, Pt.slots] at X264 l264 y264 z264 st264 hQ264
    subst l264 y264 z264
    obtain ⟨rfl, N269, k270⟩ := hQ264
    have N271 := Fr.app N263 N269
    obtain ⟨cl272, Ar272, q272, Sz272, Nn272, Hh272, Gg272⟩ := id F258
    have in272 : ¬ ((2 : Int32) < 0 ∨ cl272.slots.size ≤ ((2 : Int32)).toNatClampNeg) := inb_of Sz272 ⟨by decide, by decide⟩
    obtain ⟨T272, h272, X272, e272, W272, st272⟩ := stC X264 hx hZ228 k270 Ar272 (j := (2 : Int32)) in272 (g := (mkF m 88 #[.val (.int q0), .val (.int q1), .val (.int q2), .val (.int q3), .val (.int q4), .val (.int nv), .val (.int (1 : Int32)), .val (.ref x228), .val (.int (q4 &&& (255 : Int32))), .val (.ref b231), .unset, .unset, .unset, .unset] [(.int (110 : Int32)), (.int (2 : Int32)), (.ref b231)])) rfl rfl (hb hby at_88)
    rw [show nar .char (110 : Int32) = (110 : Int32) from rfl] at W272
    have f273 := (Exa.wr W258 f259)
    have CR274 := CR260.trans (CHr.wr W272 (Safe.exa hZ228.alike f273 (by decide) (by decide)) CR260.1)
    have hk275 := Nat.le_trans hk261 (Keep.of_wr W272).1
    have O276 := O262.wr W272 ge_b231
    have N277 := Fr.snoc X272 N271 ge_b231
    have F272 : Arv Z h272 b231 k231 .char (10 : Int32) [(.int (45 : Int32)), (.int (105 : Int32)), (.int (110 : Int32)), (.int (0 : Int32)), (.int (0 : Int32)), (.int (0 : Int32)), (.int (0 : Int32)), (.int (0 : Int32)), (.int (0 : Int32)), (.int (0 : Int32))] (.int (0 : Int32)) := Arv.set Ar272 q272 Sz272 Nn272 Hh272 Gg272 rfl W272 2 rfl (Nat.le_of_ble_eq_true rfl)
    have f279 := (Exa.wr W272 f265)
    have f280 := (Fld.other W272 f266 (Or.inl ne232))
    have f281 := (Fld.other W272 f267 (Or.inl ne232))
    have f282 := (Arv.other f268 W272 ne233)
    obtain ⟨_, _, ⟨T278, L278, k278, n278⟩, -, X278, ⟨Lc278, hQ278, l278, y278, z278⟩, st278⟩ := Jvm.LawKit.callS X272 hx (y := (⟨"com/example/logtide/logtide/event/TemporalTextIsInfinitePinLaw", "at", "(Ljava/lang/String;IC)C"⟩ : MethodName)) ho228 (mvT hZ228 (own_w hw 10 rfl)) (mvT hZ228 (own_w hw 11 rfl)) (mvT hZ228 (own_w hw 12 rfl)) (mvT hZ228 (own_w hw 13 rfl)) (by decide) (backOf (W := 2) (rm_at9_3 l Z a0 hw [] x228 y228 j228 (q4 &&& (255 : Int32)) zc fm h272 n0 O276 f279 f280 f281 f282 (own_lat _) S_C hzc S_F hfm) hZ228 (own_w hw 13 rfl) (own_w hw 12 rfl) (by decide) (by decide)) (g := (mkF m 97 #[.val (.int q0), .val (.int q1), .val (.int q2), .val (.int q3), .val (.int q4), .val (.int nv), .val (.int (1 : Int32)), .val (.ref x228), .val (.int (q4 &&& (255 : Int32))), .val (.ref b231), .unset, .unset, .unset, .unset] [(.int (q4 &&& (255 : Int32))), (.int (3 : Int32)), (.ref x228), (.int (3 : Int32)), (.ref b231)])) rfl (by rw [hml]; rfl) (argsL := [(.ref x228), (.int (3 : Int32)), (.int (q4 &&& (255 : Int32)))]) (rest := [(.int (3 : Int32)), (.ref b231)]) (lenOf pd_6 rfl) rfl (by show 2 * 0 + _ ≤ _; exact Nat.le_of_eq rfl) (hb hby at_97) (fun _ _ => ⟨rfl, e272, (by decide : 3 + 0 ≤ _), (by decide : 50 + 0 ≤ _)⟩)
    dsimp only [Pt.U, Pt.locs, Pt.cells, Pt.slots] at X278 l278 y278 z278 st278 hQ278
    subst l278 y278 z278
    obtain ⟨rfl, N283, k284⟩ := hQ278
    have N285 := Fr.app N277 N283
    obtain ⟨cl286, Ar286, q286, Sz286, Nn286, Hh286, Gg286⟩ := id F272
    have in286 : ¬ ((3 : Int32) < 0 ∨ cl286.slots.size ≤ ((3 : Int32)).toNatClampNeg) := inb_of Sz286 ⟨by decide, by decide⟩
    obtain ⟨T286, h286, X286, e286, W286, st286⟩ := stC X278 hx hZ228 k284 Ar286 (j := (3 : Int32)) in286 (g := (mkF m 100 #[.val (.int q0), .val (.int q1), .val (.int q2), .val (.int q3), .val (.int q4), .val (.int nv), .val (.int (1 : Int32)), .val (.ref x228), .val (.int (q4 &&& (255 : Int32))), .val (.ref b231), .unset, .unset, .unset, .unset] [(.int (102 : Int32)), (.int (3 : Int32)), (.ref b231)])) rfl rfl (hb hby at_100)
    rw [show nar .char (102 : Int32) = (102 : Int32) from rfl] at W286
    have f287 := (Exa.wr W272 f273)
    have CR288 := CR274.trans (CHr.wr W286 (Safe.exa hZ228.alike f287 (by decide) (by decide)) CR274.1)
    have hk289 := Nat.le_trans hk275 (Keep.of_wr W286).1
    have O290 := O276.wr W286 ge_b231
    have N291 := Fr.snoc X286 N285 ge_b231
    have F286 : Arv Z h286 b231 k231 .char (10 : Int32) [(.int (45 : Int32)), (.int (105 : Int32)), (.int (110 : Int32)), (.int (102 : Int32)), (.int (0 : Int32)), (.int (0 : Int32)), (.int (0 : Int32)), (.int (0 : Int32)), (.int (0 : Int32)), (.int (0 : Int32))] (.int (0 : Int32)) := Arv.set Ar286 q286 Sz286 Nn286 Hh286 Gg286 rfl W286 3 rfl (Nat.le_of_ble_eq_true rfl)
    have f293 := (Exa.wr W286 f279)
    have f294 := (Fld.other W286 f280 (Or.inl ne232))
    have f295 := (Fld.other W286 f281 (Or.inl ne232))
    have f296 := (Arv.other f282 W286 ne233)
    obtain ⟨_, _, ⟨T292, L292, k292, n292⟩, -, X292, ⟨Lc292, hQ292, l292, y292, z292⟩, st292⟩ := Jvm.LawKit.callS X286 hx (y := (⟨"com/example/logtide/logtide/event/TemporalTextIsInfinitePinLaw", "at", "(Ljava/lang/String;IC)C"⟩ : MethodName)) ho228 (mvT hZ228 (own_w hw 10 rfl)) (mvT hZ228 (own_w hw 11 rfl)) (mvT hZ228 (own_w hw 12 rfl)) (mvT hZ228 (own_w hw 13 rfl)) (by decide) (backOf (W := 2) (rm_at9_4 l Z a0 hw [] x228 y228 j228 (q4 &&& (255 : Int32)) zc fm h286 n0 O290 f293 f294 f295 f296 (own_lat _) S_C hzc S_F hfm) hZ228 (own_w hw 13 rfl) (own_w hw 12 rfl) (by decide) (by decide)) (g := (mkF m 109 #[.val (.int q0), .val (.int q1), .val (.int q2), .val (.int q3), .val (.int q4), .val (.int nv), .val (.int (1 : Int32)), .val (.ref x228), .val (.int (q4 &&& (255 : Int32))), .val (.ref b231), .unset, .unset, .unset, .unset] [(.int (q4 &&& (255 : Int32))), (.int (4 : Int32)), (.ref x228), (.int (4 : Int32)), (.ref b231)])) rfl (by rw [hml]; rfl) (argsL := [(.ref x228), (.int (4 : Int32)), (.int (q4 &&& (255 : Int32)))]) (rest := [(.int (4 : Int32)), (.ref b231)]) (lenOf pd_6 rfl) rfl (by show 2 * 0 + _ ≤ _; exact Nat.le_of_eq rfl) (hb hby at_109) (fun _ _ => ⟨rfl, e286, (by decide : 3 + 0 ≤ _), (by decide : 50 + 0 ≤ _)⟩)
    dsimp only [Pt.U, Pt.locs, Pt.cells, Pt.slots] at X292 l292 y292 z292 st292 hQ292
    subst l292 y292 z292
    obtain ⟨rfl, N297, k298⟩ := hQ292
    have N299 := Fr.app N291 N297
    obtain ⟨cl300, Ar300, q300, Sz300, Nn300, Hh300, Gg300⟩ := id F286
    have in300 : ¬ ((4 : Int32) < 0 ∨ cl300.slots.size ≤ ((4 : Int32)).toNatClampNeg) := inb_of Sz300 ⟨by decide, by decide⟩
    obtain ⟨T300, h300, X300, e300, W300, st300⟩ := stC X292 hx hZ228 k298 Ar300 (j := (4 : Int32)) in300 (g := (mkF m 112 #[.val (.int q0), .val (.int q1), .val (.int q2), .val (.int q3), .val (.int q4), .val (.int nv), .val (.int (1 : Int32)), .val (.ref x228), .val (.int (q4 &&& (255 : Int32))), .val (.ref b231), .unset, .unset, .unset, .unset] [(.int (105 : Int32)), (.int (4 : Int32)), (.ref b231)])) rfl rfl (hb hby at_112)
    rw [show nar .char (105 : Int32) = (105 : Int32) from rfl] at W300
    have f301 := (Exa.wr W286 f287)
    have CR302 := CR288.trans (CHr.wr W300 (Safe.exa hZ228.alike f301 (by decide) (by decide)) CR288.1)
    have hk303 := Nat.le_trans hk289 (Keep.of_wr W300).1
    have O304 := O290.wr W300 ge_b231
    have N305 := Fr.snoc X300 N299 ge_b231
    have F300 : Arv Z h300 b231 k231 .char (10 : Int32) [(.int (45 : Int32)), (.int (105 : Int32)), (.int (110 : Int32)), (.int (102 : Int32)), (.int (105 : Int32)), (.int (0 : Int32)), (.int (0 : Int32)), (.int (0 : Int32)), (.int (0 : Int32)), (.int (0 : Int32))] (.int (0 : Int32)) := Arv.set Ar300 q300 Sz300 Nn300 Hh300 Gg300 rfl W300 4 rfl (Nat.le_of_ble_eq_true rfl)
    have f307 := (Exa.wr W300 f293)
    have f308 := (Fld.other W300 f294 (Or.inl ne232))
    have f309 := (Fld.other W300 f295 (Or.inl ne232))
    have f310 := (Arv.other f296 W300 ne233)
    obtain ⟨_, _, ⟨T306, L306, k306, n306⟩, -, X306, ⟨Lc306, hQ306, l306, y306, z306⟩, st306⟩ := Jvm.LawKit.callS X300 hx (y := (⟨"com/example/logtide/logtide/event/TemporalTextIsInfinitePinLaw", "at", "(Ljava/lang/String;IC)C"⟩ : MethodName)) ho228 (mvT hZ228 (own_w hw 10 rfl)) (mvT hZ228 (own_w hw 11 rfl)) (mvT hZ228 (own_w hw 12 rfl)) (mvT hZ228 (own_w hw 13 rfl)) (by decide) (backOf (W := 2) (rm_at9_5 l Z a0 hw [] x228 y228 j228 (q4 &&& (255 : Int32)) zc fm h300 n0 O304 f307 f308 f309 f310 (own_lat _) S_C hzc S_F hfm) hZ228 (own_w hw 13 rfl) (own_w hw 12 rfl) (by decide) (by decide)) (g := (mkF m 121 #[.val (.int q0), .val (.int q1), .val (.int q2), .val (.int q3), .val (.int q4), .val (.int nv), .val (.int (1 : Int32)), .val (.ref x228), .val (.int (q4 &&& (255 : Int32))), .val (.ref b231), .unset, .unset, .unset, .unset] [(.int (q4 &&& (255 : Int32))), (.int (5 : Int32)), (.ref x228), (.int (5 : Int32)), (.ref b231)])) rfl (by rw [hml]; rfl) (argsL := [(.ref x228), (.int (5 : Int32)), (.int (q4 &&& (255 : Int32)))]) (rest := [(.int (5 : Int32)), (.ref b231)]) (lenOf pd_6 rfl) rfl (by show 2 * 0 + _ ≤ _; exact Nat.le_of_eq rfl) (hb hby at_121) (fun _ _ => ⟨rfl, e300, (by decide : 3 + 0 ≤ _), (by decide : 50 + 0 ≤ _)⟩)
    dsimp only [Pt.U, Pt.locs, Pt.cells, Pt.slots] at X306 l306 y306 z306 st306 hQ306
    subst l306 y306 z306
    obtain ⟨rfl, N311, k312⟩ := hQ306
    have N313 := Fr.app N305 N311
    obtain ⟨cl314, Ar314, q314, Sz314, Nn314, Hh314, Gg314⟩ := id F300
    have in314 : ¬ ((5 : Int32) < 0 ∨ cl314.slots.size ≤ ((5 : Int32)).toNatClampNeg) := inb_of Sz314 ⟨by decide, by decide⟩
    obtain ⟨T314, h314, X314, e314, W314, st314⟩ := stC X306 hx hZ228 k312 Ar314 (j := (5 : Int32)) in314 (g := (mkF m 124 #[.val (.int q0), .val (.int q1), .val (.int q2), .val (.int q3), .val (.int q4), .val (.int nv), .val (.int (1 : Int32)), .val (.ref x228), .val (.int (q4 &&& (255 : Int32))), .val (.ref b231), .unset, .unset, .unset, .unset] [(.int (110 : Int32)), (.int (5 : Int32)), (.ref b231)])) rfl rfl (hb hby at_124)
    rw [show nar .char (110 : Int32) = (110 : Int32) from rfl] at W314
    have f315 := (Exa.wr W300 f301)
    have CR316 := CR302.trans (CHr.wr W314 (Safe.exa hZ228.alike f315 (by decide) (by decide)) CR302.1)
    have hk317 := Nat.le_trans hk303 (Keep.of_wr W314).1
    have O318 := O304.wr W314 ge_b231
    have N319 := Fr.snoc X314 N313 ge_b231
    have F314 : Arv Z h314 b231 k231 .char (10 : Int32) [(.int (45 : Int32)), (.int (105 : Int32)), (.int (110 : Int32)), (.int (102 : Int32)), (.int (105 : Int32)), (.int (110 : Int32)), (.int (0 : Int32)), (.int (0 : Int32)), (.int (0 : Int32)), (.int (0 : Int32))] (.int (0 : Int32)) := Arv.set Ar314 q314 Sz314 Nn314 Hh314 Gg314 rfl W314 5 rfl (Nat.le_of_ble_eq_true rfl)
    have f321 := (Exa.wr W314 f307)
    have f322 := (Fld.other W314 f308 (Or.inl ne232))
    have f323 := (Fld.other W314 f309 (Or.inl ne232))
    have f324 := (Arv.other f310 W314 ne233)
    obtain ⟨_, _, ⟨T320, L320, k320, n320⟩, -, X320, ⟨Lc320, hQ320, l320, y320, z320⟩, st320⟩ := Jvm.LawKit.callS X314 hx (y := (⟨"com/example/logtide/logtide/event/TemporalTextIsInfinitePinLaw", "at", "(Ljava/lang/String;IC)C"⟩ : MethodName)) ho228 (mvT hZ228 (own_w hw 10 rfl)) (mvT hZ228 (own_w hw 11 rfl)) (mvT hZ228 (own_w hw 12 rfl)) (mvT hZ228 (own_w hw 13 rfl)) (by decide) (backOf (W := 2) (rm_at9_6 l Z a0 hw [] x228 y228 j228 (q4 &&& (255 : Int32)) zc fm h314 n0 O318 f321 f322 f323 f324 (own_lat _) S_C hzc S_F hfm) hZ228 (own_w hw 13 rfl) (own_w hw 12 rfl) (by decide) (by decide)) (g := (mkF m 135 #[.val (.int q0), .val (.int q1), .val (.int q2), .val (.int q3), .val (.int q4), .val (.int nv), .val (.int (1 : Int32)), .val (.ref x228), .val (.int (q4 &&& (255 : Int32))), .val (.ref b231), .unset, .unset, .unset, .unset] [(.int (q4 &&& (255 : Int32))), (.int (6 : Int32)), (.ref x228), (.int (6 : Int32)), (.ref b231)])) rfl (by rw [hml]; rfl) (argsL := [(.ref x228), (.int (6 : Int32)), (.int (q4 &&& (255 : Int32)))]) (rest := [(.int (6 : Int32)), (.ref b231)]) (lenOf pd_6 rfl) rfl (by show 2 * 0 + _ ≤ _; exact Nat.le_of_eq rfl) (hb hby at_135) (fun _ _ => ⟨rfl, e314, (by decide : 3 + 0 ≤ _), (by decide : 50 + 0 ≤ _)⟩)
    dsimp only [Pt.U, Pt.locs, Pt.cells, Pt.slots] at X320 l320 y320 z320 st320 hQ320
    subst l320 y320 z320
    obtain ⟨rfl, N325, k326⟩ := hQ320
    have N327 := Fr.app N319 N325
    obtain ⟨cl328, Ar328, q328, Sz328, Nn328, Hh328, Gg328⟩ := id F314
    have in328 : ¬ ((6 : Int32) < 0 ∨ cl328.slots.size ≤ ((6 : Int32)).toNatClampNeg) := inb_of Sz328 ⟨by decide, by decide⟩
    obtain ⟨T328, h328, X328, e328, W328, st328⟩ := stC X320 hx hZ228 k326 Ar328 (j := (6 : Int32)) in328 (g := (mkF m 138 #[.val (.int q0), .val (.int q1), .val (.int q2), .val (.int q3), .val (.int q4), .val (.int nv), .val (.int (1 : Int32)), .val (.ref x228), .val (.int (q4 &&& (255 : Int32))), .val (.ref b231), .unset, .unset, .unset, .unset] [(.int (105 : Int32)), (.int (6 : Int32)), (.ref b231)])) rfl rfl (hb hby at_138)
    rw [show nar .char (105 : Int32) = (105 : Int32) from rfl] at W328
    have f329 := (Exa.wr W314 f315)
    have CR330 := CR316.trans (CHr.wr W328 (Safe.exa hZ228.alike f329 (by decide) (by decide)) CR316.1)
    have hk331 := Nat.le_trans hk317 (Keep.of_wr W328).1
    have O332 := O318.wr W328 ge_b231
    have N333 := Fr.snoc X328 N327 ge_b231
    have F328 : Arv Z h328 b231 k231 .char (10 : Int32) [(.int (45 : Int32)), (.int (105 : Int32)), (.int (110 : Int32)), (.int (102 : Int32)), (.int (105 : Int32)), (.int (110 : Int32)), (.int (105 : Int32)), (.int (0 : Int32)), (.int (0 : Int32)), (.int (0 : Int32))] (.int (0 : Int32)) := Arv.set Ar328 q328 Sz328 Nn328 Hh328 Gg328 rfl W328 6 rfl (Nat.le_of_ble_eq_true rfl)
    have f335 := (Exa.wr W328 f321)
    have f336 := (Fld.other W328 f322 (Or.inl ne232))
    have f337 := (Fld.other W328 f323 (Or.inl ne232))
    have f338 := (Arv.other f324 W328 ne233)
    obtain ⟨_, _, ⟨T334, L334, k334, n334⟩, -, X334, ⟨Lc334, hQ334, l334, y334, z334⟩, st334⟩ := Jvm.LawKit.callS X328 hx (y := (⟨"com/example/logtide/logtide/event/TemporalTextIsInfinitePinLaw", "at", "(Ljava/lang/String;IC)C"⟩ : MethodName)) ho228 (mvT hZ228 (own_w hw 10 rfl)) (mvT hZ228 (own_w hw 11 rfl)) (mvT hZ228 (own_w hw 12 rfl)) (mvT hZ228 (own_w hw 13 rfl)) (by decide) (backOf (W := 2) (rm_at9_7 l Z a0 hw [] x228 y228 j228 (q4 &&& (255 : Int32)) zc fm h328 n0 O332 f335 f336 f337 f338 (own_lat _) S_C hzc S_F hfm) hZ228 (own_w hw 13 rfl) (own_w hw 12 rfl) (by decide) (by decide)) (g := (mkF m 149 #[.val (.int q0), .val (.int q1), .val (.int q2), .val (.int q3), .val (.int q4), .val (.int nv), .val (.int (1 : Int32)), .val (.ref x228), .val (.int (q4 &&& (255 : Int32))), .val (.ref b231), .unset, .unset, .unset, .unset] [(.int (q4 &&& (255 : Int32))), (.int (7 : Int32)), (.ref x228), (.int (7 : Int32)), (.ref b231)])) rfl (by rw [hml]; rfl) (argsL := [(.ref x228), (.int (7 : Int32)), (.int (q4 &&& (255 : Int32)))]) (rest := [(.int (7 : Int32)), (.ref b231)]) (lenOf pd_6 rfl) rfl (by show 2 * 0 + _ ≤ _; exact Nat.le_of_eq rfl) (hb hby at_149) (fun _ _ => ⟨rfl, e328, (by decide : 3 + 0 ≤ _), (by decide : 50 + 0 ≤ _)⟩)
    dsimp only [Pt.U, Pt.locs, Pt.cells, Pt.slots] at X334 l334 y334 z334 st334 hQ334
    subst l334 y334 z334
    obtain ⟨rfl, N339, k340⟩ := hQ334
    have N341 := Fr.app N333 N339
    obtain ⟨cl342, Ar342, q342, Sz342, Nn342, Hh342, Gg342⟩ := id F328
    have in342 : ¬ ((7 : Int32) < 0 ∨ cl342.slots.size ≤ ((7 : Int32)).toNatClampNeg) := inb_of Sz342 ⟨by decide, by decide⟩
    obtain ⟨T342, h342, X342, e342, W342, st342⟩ := stC X334 hx hZ228 k340 Ar342 (j := (7 : Int32)) in342 (g := (mkF m 152 #[.val (.int q0), .val (.int q1), .val (.int q2), .val (.int q3), .val (.int q4), .val (.int nv), .val (.int (1 : Int32)), .val (.ref x228), .val (.int (q4 &&& (255 : Int32))), .val (.ref b231), .unset, .unset, .unset, .unset] [(.int (116 : Int32)), (.int (7 : Int32)), (.ref b231)])) rfl rfl (hb hby at_152)
    rw [show nar .char (116 : Int32) = (116 : Int32) from rfl] at W342
    have f343 := (Exa.wr W328 f329)
    have CR344 := CR330.trans (CHr.wr W342 (Safe.exa hZ228.alike f343 (by decide) (by decide)) CR330.1)
    have hk345 := Nat.le_trans hk331 (Keep.of_wr W342).1
    have O346 := O332.wr W342 ge_b231
    have N347 := Fr.snoc X342 N341 ge_b231
    have F342 : Arv Z h342 b231 k231 .char (10 : Int32) [(.int (45 : Int32)), (.int (105 : Int32)), (.int (110 : Int32)), (.int (102 : Int32)), (.int (105 : Int32)), (.int (110 : Int32)), (.int (105 : Int32)), (.int (116 : Int32)), (.int (0 : Int32)), (.int (0 : Int32))] (.int (0 : Int32)) := Arv.set Ar342 q342 Sz342 Nn342 Hh342 Gg342 rfl W342 7 rfl (Nat.le_of_ble_eq_true rfl)
    have f349 := (Exa.wr W342 f335)
    have f350 := (Fld.other W342 f336 (Or.inl ne232))
    have f351 := (Fld.other W342 f337 (Or.inl ne232))
    have f352 := (Arv.other f338 W342 ne233)
    obtain ⟨_, _, ⟨T348, L348, k348, n348⟩, -, X348, ⟨Lc348, hQ348, l348, y348, z348⟩, st348⟩ := Jvm.LawKit.callS X342 hx (y := (⟨"com/example/logtide/logtide/event/TemporalTextIsInfinitePinLaw", "at", "(Ljava/lang/String;IC)C"⟩ : MethodName)) ho228 (mvT hZ228 (own_w hw 10 rfl)) (mvT hZ228 (own_w hw 11 rfl)) (mvT hZ228 (own_w hw 12 rfl)) (mvT hZ228 (own_w hw 13 rfl)) (by decide) (backOf (W := 2) (rm_at9_8 l Z a0 hw [] x228 y228 j228 (q4 &&& (255 : Int32)) zc fm h342 n0 O346 f349 f350 f351 f352 (own_lat _) S_C hzc S_F hfm) hZ228 (own_w hw 13 rfl) (own_w hw 12 rfl) (by decide) (by decide)) (g := (mkF m 163 #[.val (.int q0), .val (.int q1), .val (.int q2), .val (.int q3), .val (.int q4), .val (.int nv), .val (.int (1 : Int32)), .val (.ref x228), .val (.int (q4 &&& (255 : Int32))), .val (.ref b231), .unset, .unset, .unset, .unset] [(.int (q4 &&& (255 : Int32))), (.int (8 : Int32)), (.ref x228), (.int (8 : Int32)), (.ref b231)])) rfl (by rw [hml]; rfl) (argsL := [(.ref x228), (.int (8 : Int32)), (.int (q4 &&& (255 : Int32)))]) (rest := [(.int (8 : Int32)), (.ref b231)]) (lenOf pd_6 rfl) rfl (by show 2 * 0 + _ ≤ _; exact Nat.le_of_eq rfl) (hb hby at_163) (fun _ _ => ⟨rfl, e342, (by decide : 3 + 0 ≤ _), (by decide : 50 + 0 ≤ _)⟩)
    dsimp only [Pt.U, Pt.locs, Pt.cells, Pt.slots] at X348 l348 y348 z348 st348 hQ348
    subst l348 y348 z348
    obtain ⟨rfl, N353, k354⟩ := hQ348
    have N355 := Fr.app N347 N353
    obtain ⟨cl356, Ar356, q356, Sz356, Nn356, Hh356, Gg356⟩ := id F342
    have in356 : ¬ ((8 : Int32) < 0 ∨ cl356.slots.size ≤ ((8 : Int32)).toNatClampNeg) := inb_of Sz356 ⟨by decide, by decide⟩
    obtain ⟨T356, h356, X356, e356, W356, st356⟩ := stC X348 hx hZ228 k354 Ar356 (j := (8 : Int32)) in356 (g := (mkF m 166 #[.val (.int q0), .val (.int q1), .val (.int q2), .val (.int q3), .val (.int q4), .val (.int nv), .val (.int (1 : Int32)), .val (.ref x228), .val (.int (q4 &&& (255 : Int32))), .val (.ref b231), .unset, .unset, .unset, .unset] [(.int (121 : Int32)), (.int (8 : Int32)), (.ref b231)])) rfl rfl (hb hby at_166)
    rw [show nar .char (121 : Int32) = (121 : Int32) from rfl] at W356
    have f357 := (Exa.wr W342 f343)
    have CR358 := CR344.trans (CHr.wr W356 (Safe.exa hZ228.alike f357 (by decide) (by decide)) CR344.1)
    have hk359 := Nat.le_trans hk345 (Keep.of_wr W356).1
    have O360 := O346.wr W356 ge_b231
    have N361 := Fr.snoc X356 N355 ge_b231
    have F356 : Arv Z h356 b231 k231 .char (10 : Int32) [(.int (45 : Int32)), (.int (105 : Int32)), (.int (110 : Int32)), (.int (102 : Int32)), (.int (105 : Int32)), (.int (110 : Int32)), (.int (105 : Int32)), (.int (116 : Int32)), (.int (121 : Int32)), (.int (0 : Int32))] (.int (0 : Int32)) := Arv.set Ar356 q356 Sz356 Nn356 Hh356 Gg356 rfl W356 8 rfl (Nat.le_of_ble_eq_true rfl)
    have f363 := (Exa.wr W356 f349)
    have f364 := (Fld.other W356 f350 (Or.inl ne232))
    have f365 := (Fld.other W356 f351 (Or.inl ne232))
    have f366 := (Arv.other f352 W356 ne233)
    obtain ⟨_, _, ⟨T362, L362, k362, n362⟩, -, X362, ⟨Lc362, hQ362, l362, y362, z362⟩, st362⟩ := Jvm.LawKit.callS X356 hx (y := (⟨"com/example/logtide/logtide/event/TemporalTextIsInfinitePinLaw", "at", "(Ljava/lang/String;IC)C"⟩ : MethodName)) ho228 (mvT hZ228 (own_w hw 10 rfl)) (mvT hZ228 (own_w hw 11 rfl)) (mvT hZ228 (own_w hw 12 rfl)) (mvT hZ228 (own_w hw 13 rfl)) (by decide) (backOf (W := 2) (rm_at9_9 l Z a0 hw [] x228 y228 j228 (q4 &&& (255 : Int32)) zc fm h356 n0 O360 f363 f364 f365 f366 (own_lat _) S_C hzc S_F hfm) hZ228 (own_w hw 13 rfl) (own_w hw 12 rfl) (by decide) (by decide)) (g := (mkF m 177 #[.val (.int q0), .val (.int q1), .val (.int q2), .val (.int q3), .val (.int q4), .val (.int nv), .val (.int (1 : Int32)), .val (.ref x228), .val (.int (q4 &&& (255 : Int32))), .val (.ref b231), .unset, .unset, .unset, .unset] [(.int (q4 &&& (255 : Int32))), (.int (9 : Int32)), (.ref x228), (.int (9 : Int32)), (.ref b231)])) rfl (by rw [hml]; rfl) (argsL := [(.ref x228), (.int (9 : Int32)), (.int (q4 &&& (255 : Int32)))]) (rest := [(.int (9 : Int32)), (.ref b231)]) (lenOf pd_6 rfl) rfl (by show 2 * 0 + _ ≤ _; exact Nat.le_of_eq rfl) (hb hby at_177) (fun _ _ => ⟨rfl, e356, (by decide : 3 + 0 ≤ _), (by decide : 50 + 0 ≤ _)⟩)
    dsimp only [Pt.U, Pt.locs, Pt.cells, Pt.slots] at X362 l362 y362 z362 st362 hQ362
    subst l362 y362 z362
    obtain ⟨rfl, N367, k368⟩ := hQ362
    have N369 := Fr.app N361 N367
    obtain ⟨cl370, Ar370, q370, Sz370, Nn370, Hh370, Gg370⟩ := id F356
    have in370 : ¬ ((9 : Int32) < 0 ∨ cl370.slots.size ≤ ((9 : Int32)).toNatClampNeg) := inb_of Sz370 ⟨by decide, by decide⟩
    obtain ⟨T370, h370, X370, e370, W370, st370⟩ := stC X362 hx hZ228 k368 Ar370 (j := (9 : Int32)) in370 (g := (mkF m 180 #[.val (.int q0), .val (.int q1), .val (.int q2), .val (.int q3), .val (.int q4), .val (.int nv), .val (.int (1 : Int32)), .val (.ref x228), .val (.int (q4 &&& (255 : Int32))), .val (.ref b231), .unset, .unset, .unset, .unset] [(.int (q4 &&& (255 : Int32))), (.int (9 : Int32)), (.ref b231)])) rfl rfl (hb hby at_180)
    rw [show nar .char (q4 &&& (255 : Int32)) = (q4 &&& (255 : Int32)) from i2c_mask _] at W370
    have f371 := (Exa.wr W356 f357)
    have CR372 := CR358.trans (CHr.wr W370 (Safe.exa hZ228.alike f371 (by decide) (by decide)) CR358.1)
    have hk373 := Nat.le_trans hk359 (Keep.of_wr W370).1
    have O374 := O360.wr W370 ge_b231
    have N375 := Fr.snoc X370 N369 ge_b231
    have F370 : Arv Z h370 b231 k231 .char (10 : Int32) [(.int (45 : Int32)), (.int (105 : Int32)), (.int (110 : Int32)), (.int (102 : Int32)), (.int (105 : Int32)), (.int (110 : Int32)), (.int (105 : Int32)), (.int (116 : Int32)), (.int (121 : Int32)), (.int (q4 &&& (255 : Int32)))] (.int (0 : Int32)) := Arv.set Ar370 q370 Sz370 Nn370 Hh370 Gg370 (by rw [← (i2c_mask _ : nar .char (q4 &&& (255 : Int32)) = (q4 &&& (255 : Int32)))]; exact fits_nar_char _) W370 9 rfl (Nat.le_of_ble_eq_true rfl)
    have S376 : ∀ t, Steps p.tables e below (T370.setTop (mkF m 184 #[.val (.int q0), .val (.int q1), .val (.int q2), .val (.int q3), .val (.int q4), .val (.int nv), .val (.int (1 : Int32)), .val (.ref x228), .val (.int (q4 &&& (255 : Int32))), .val (.ref b231), .unset, .unset, .unset, .unset] [(.int (q1 &&& (2 : Int32)))])) t → Steps p.tables e below (s₁.setTop (mkF m 0 #[.val (.int q0), .val (.int q1), .val (.int q2), .val (.int q3), .val (.int q4), .unset, .unset, .unset, .unset, .unset, .unset, .unset, .unset, .unset] [])) t := by
      intro t kt
      refine S3 t ?_
      refine XS.ifNo X0.here hx rfl (hb hby at_14) rfl ((if0 _ _).trans (feq (c4 : ¬ ((q1 &&& (1 : Int32)) = (0 : Int32)))).1) ?_
      refine XS.iconst X0.here hx rfl (hb hby at_17) ?_
      refine XS.goto X0.here hx rfl (pc0 := 18) (pc' := 22) rfl (hb hby at_18) (by decide) (by decide) ?_
      refine XS.istore X0.here hx rfl (hb hby at_22) rfl (l' := #[.val (.int q0), .val (.int q1), .val (.int q2), .val (.int q3), .val (.int q4), .val (.int nv), .val (.int (1 : Int32)), .unset, .unset, .unset, .unset, .unset, .unset, .unset]) rfl ?_
      refine XS.iload X0.here hx rfl (hb hby at_24) rfl ?_
      refine XS.ifNo X0.here hx rfl (hb hby at_26) rfl ((if0 _ _).trans (feq ((by decide) : ¬ ((1 : Int32) = (0 : Int32)))).1) ?_
      show Steps p.tables e below (s₁.setTop (mkF m 29 #[.val (.int q0), .val (.int q1), .val (.int q2), .val (.int q3), .val (.int q4), .val (.int nv), .val (.int (1 : Int32)), .unset, .unset, .unset, .unset, .unset, .unset, .unset] [])) _
      refine st228 _ ?_
      refine XS.goto X228.here hx rfl (pc0 := 31) (pc' := 36) rfl (hb hby at_31) (by decide) (by decide) ?_
      refine XS.astore X228.here hx rfl (hb hby at_36) rfl rfl (l' := #[.val (.int q0), .val (.int q1), .val (.int q2), .val (.int q3), .val (.int q4), .val (.int nv), .val (.int (1 : Int32)), .val (.ref x228), .unset, .unset, .unset, .unset, .unset, .unset]) rfl ?_
      refine XS.iload X228.here hx rfl (hb hby at_38) rfl ?_
      refine XS.sipush X228.here hx rfl (hb hby at_40) ?_
      refine XS.iand X228.here hx rfl (hb hby at_43) rfl ?_
      show Steps p.tables e below (T228.setTop (mkF m 44 #[.val (.int q0), .val (.int q1), .val (.int q2), .val (.int q3), .val (.int q4), .val (.int nv), .val (.int (1 : Int32)), .val (.ref x228), .unset, .unset, .unset, .unset, .unset, .unset] [(.int (q4 &&& (255 : Int32)))])) _
      refine XS.i2c X228.here hx rfl (hb hby at_44) rfl ?_
      change Steps p.tables e below (T228.setTop (mkF m 45 #[.val (.int q0), .val (.int q1), .val (.int q2), .val (.int q3), .val (.int q4), .val (.int nv), .val (.int (1 : Int32)), .val (.ref x228), .unset, .unset, .unset, .unset, .unset, .unset] [(.int ((q4 &&& (255 : Int32)).toUInt32.toUInt16.toUInt32.toInt32))])) _
      rw [i2c_mask]
      refine XS.istore X228.here hx rfl (hb hby at_45) rfl (l' := #[.val (.int q0), .val (.int q1), .val (.int q2), .val (.int q3), .val (.int q4), .val (.int nv), .val (.int (1 : Int32)), .val (.ref x228), .val (.int (q4 &&& (255 : Int32))), .unset, .unset, .unset, .unset, .unset]) rfl ?_
      refine XS.bipush X228.here hx rfl (hb hby at_47) ?_
      show Steps p.tables e below (T228.setTop (mkF m 49 #[.val (.int q0), .val (.int q1), .val (.int q2), .val (.int q3), .val (.int q4), .val (.int nv), .val (.int (1 : Int32)), .val (.ref x228), .val (.int (q4 &&& (255 : Int32))), .unset, .unset, .unset, .unset, .unset] [(.int (10 : Int32))])) _
      refine st231 _ ?_
      refine XS.astore X231.here hx rfl (hb hby at_51) rfl rfl (l' := #[.val (.int q0), .val (.int q1), .val (.int q2), .val (.int q3), .val (.int q4), .val (.int nv), .val (.int (1 : Int32)), .val (.ref x228), .val (.int (q4 &&& (255 : Int32))), .val (.ref b231), .unset, .unset, .unset, .unset]) rfl ?_
      refine XS.aload X231.here hx rfl (hb hby at_53) rfl rfl ?_
      refine XS.iconst X231.here hx rfl (hb hby at_55) ?_
      refine XS.aload X231.here hx rfl (hb hby at_56) rfl rfl ?_
      refine XS.iconst X231.here hx rfl (hb hby at_58) ?_
      show Steps p.tables e below (T231.setTop (mkF m 59 #[.val (.int q0), .val (.int q1), .val (.int q2), .val (.int q3), .val (.int q4), .val (.int nv), .val (.int (1 : Int32)), .val (.ref x228), .val (.int (q4 &&& (255 : Int32))), .val (.ref b231), .unset, .unset, .unset, .unset] [(.int (0 : Int32)), (.ref x228), (.int (0 : Int32)), (.ref b231)])) _
      refine XS.iload X231.here hx rfl (hb hby at_59) rfl ?_
      show Steps p.tables e below (T231.setTop (mkF m 61 #[.val (.int q0), .val (.int q1), .val (.int q2), .val (.int q3), .val (.int q4), .val (.int nv), .val (.int (1 : Int32)), .val (.ref x228), .val (.int (q4 &&& (255 : Int32))), .val (.ref b231), .unset, .unset, .unset, .unset] [(.int (q4 &&& (255 : Int32))), (.int (0 : Int32)), (.ref x228), (.int (0 : Int32)), (.ref b231)])) _
      refine st237 _ ?_
      show Steps p.tables e below (T237.setTop (mkF m 64 #[.val (.int q0), .val (.int q1), .val (.int q2), .val (.int q3), .val (.int q4), .val (.int nv), .val (.int (1 : Int32)), .val (.ref x228), .val (.int (q4 &&& (255 : Int32))), .val (.ref b231), .unset, .unset, .unset, .unset] [(.int (45 : Int32)), (.int (0 : Int32)), (.ref b231)])) _
      refine st245 _ ?_
      refine XS.aload X245.here hx rfl (hb hby at_65) rfl rfl ?_
      refine XS.iconst X245.here hx rfl (hb hby at_67) ?_
      refine XS.aload X245.here hx rfl (hb hby at_68) rfl rfl ?_
      refine XS.iconst X245.here hx rfl (hb hby at_70) ?_
      refine XS.iload X245.here hx rfl (hb hby at_71) rfl ?_
      show Steps p.tables e below (T245.setTop (mkF m 73 #[.val (.int q0), .val (.int q1), .val (.int q2), .val (.int q3), .val (.int q4), .val (.int nv), .val (.int (1 : Int32)), .val (.ref x228), .val (.int (q4 &&& (255 : Int32))), .val (.ref b231), .unset, .unset, .unset, .unset] [(.int (q4 &&& (255 : Int32))), (.int (1 : Int32)), (.ref x228), (.int (1 : Int32)), (.ref b231)])) _
      refine st250 _ ?_
      show Steps p.tables e below (T250.setTop (mkF m 76 #[.val (.int q0), .val (.int q1), .val (.int q2), .val (.int q3), .val (.int q4), .val (.int nv), .val (.int (1 : Int32)), .val (.ref x228), .val (.int (q4 &&& (255 : Int32))), .val (.ref b231), .unset, .unset, .unset, .unset] [(.int (105 : Int32)), (.int (1 : Int32)), (.ref b231)])) _
      refine st258 _ ?_
      refine XS.aload X258.here hx rfl (hb hby at_77) rfl rfl ?_
      refine XS.iconst X258.here hx rfl (hb hby at_79) ?_
      refine XS.aload X258.here hx rfl (hb hby at_80) rfl rfl ?_
      refine XS.iconst X258.here hx rfl (hb hby at_82) ?_
      refine XS.iload X258.here hx rfl (hb hby at_83) rfl ?_
      show Steps p.tables e below (T258.setTop (mkF m 85 #[.val (.int q0), .val (.int q1), .val (.int q2), .val (.int q3), .val (.int q4), .val (.int nv), .val (.int (1 : Int32)), .val (.ref x228), .val (.int (q4 &&& (255 : Int32))), .val (.ref b231), .unset, .unset, .unset, .unset] [(.int (q4 &&& (255 : Int32))), (.int (2 : Int32)), (.ref x228), (.int (2 : Int32)), (.ref b231)])) _
      refine st264 _ ?_
      show Steps p.tables e below (T264.setTop (mkF m 88 #[.val (.int q0), .val (.int q1), .val (.int q2), .val (.int q3), .val (.int q4), .val (.int nv), .val (.int (1 : Int32)), .val (.ref x228), .val (.int (q4 &&& (255 : Int32))), .val (.ref b231), .unset, .unset, .unset, .unset] [(.int (110 : Int32)), (.int (2 : Int32)), (.ref b231)])) _
      refine st272 _ ?_
      refine XS.aload X272.here hx rfl (hb hby at_89) rfl rfl ?_
      refine XS.iconst X272.here hx rfl (hb hby at_91) ?_
      refine XS.aload X272.here hx rfl (hb hby at_92) rfl rfl ?_
      refine XS.iconst X272.here hx rfl (hb hby at_94) ?_
      refine XS.iload X272.here hx rfl (hb hby at_95) rfl ?_
      show Steps p.tables e below (T272.setTop (mkF m 97 #[.val (.int q0), .val (.int q1), .val (.int q2), .val (.int q3), .val (.int q4), .val (.int nv), .val (.int (1 : Int32)), .val (.ref x228), .val (.int (q4 &&& (255 : Int32))), .val (.ref b231), .unset, .unset, .unset, .unset] [(.int (q4 &&& (255 : Int32))), (.int (3 : Int32)), (.ref x228), (.int (3 : Int32)), (.ref b231)])) _
      refine st278 _ ?_
      show Steps p.tables e below (T278.setTop (mkF m 100 #[.val (.int q0), .val (.int q1), .val (.int q2), .val (.int q3), .val (.int q4), .val (.int nv), .val (.int (1 : Int32)), .val (.ref x228), .val (.int (q4 &&& (255 : Int32))), .val (.ref b231), .unset, .unset, .unset, .unset] [(.int (102 : Int32)), (.int (3 : Int32)), (.ref b231)])) _
      refine st286 _ ?_
      refine XS.aload X286.here hx rfl (hb hby at_101) rfl rfl ?_
      refine XS.iconst X286.here hx rfl (hb hby at_103) ?_
      refine XS.aload X286.here hx rfl (hb hby at_104) rfl rfl ?_
      refine XS.iconst X286.here hx rfl (hb hby at_106) ?_
      refine XS.iload X286.here hx rfl (hb hby at_107) rfl ?_
      show Steps p.tables e below (T286.setTop (mkF m 109 #[.val (.int q0), .val (.int q1), .val (.int q2), .val (.int q3), .val (.int q4), .val (.int nv), .val (.int (1 : Int32)), .val (.ref x228), .val (.int (q4 &&& (255 : Int32))), .val (.ref b231), .unset, .unset, .unset, .unset] [(.int (q4 &&& (255 : Int32))), (.int (4 : Int32)), (.ref x228), (.int (4 : Int32)), (.ref b231)])) _
      refine st292 _ ?_
      show Steps p.tables e below (T292.setTop (mkF m 112 #[.val (.int q0), .val (.int q1), .val (.int q2), .val (.int q3), .val (.int q4), .val (.int nv), .val (.int (1 : Int32)), .val (.ref x228), .val (.int (q4 &&& (255 : Int32))), .val (.ref b231), .unset, .unset, .unset, .unset] [(.int (105 : Int32)), (.int (4 : Int32)), (.ref b231)])) _
      refine st300 _ ?_
      refine XS.aload X300.here hx rfl (hb hby at_113) rfl rfl ?_
      refine XS.iconst X300.here hx rfl (hb hby at_115) ?_
      refine XS.aload X300.here hx rfl (hb hby at_116) rfl rfl ?_
      refine XS.iconst X300.here hx rfl (hb hby at_118) ?_
      refine XS.iload X300.here hx rfl (hb hby at_119) rfl ?_
      show Steps p.tables e below (T300.setTop (mkF m 121 #[.val (.int q0), .val (.int q1), .val (.int q2), .val (.int q3), .val (.int q4), .val (.int nv), .val (.int (1 : Int32)), .val (.ref x228), .val (.int (q4 &&& (255 : Int32))), .val (.ref b231), .unset, .unset, .unset, .unset] [(.int (q4 &&& (255 : Int32))), (.int (5 : Int32)), (.ref x228), (.int (5 : Int32)), (.ref b231)])) _
      refine st306 _ ?_
      show Steps p.tables e below (T306.setTop (mkF m 124 #[.val (.int q0), .val (.int q1), .val (.int q2), .val (.int q3), .val (.int q4), .val (.int nv), .val (.int (1 : Int32)), .val (.ref x228), .val (.int (q4 &&& (255 : Int32))), .val (.ref b231), .unset, .unset, .unset, .unset] [(.int (110 : Int32)), (.int (5 : Int32)), (.ref b231)])) _
      refine st314 _ ?_
      refine XS.aload X314.here hx rfl (hb hby at_125) rfl rfl ?_
      refine XS.bipush X314.here hx rfl (hb hby at_127) ?_
      refine XS.aload X314.here hx rfl (hb hby at_129) rfl rfl ?_
      refine XS.bipush X314.here hx rfl (hb hby at_131) ?_
      refine XS.iload X314.here hx rfl (hb hby at_133) rfl ?_
      show Steps p.tables e below (T314.setTop (mkF m 135 #[.val (.int q0), .val (.int q1), .val (.int q2), .val (.int q3), .val (.int q4), .val (.int nv), .val (.int (1 : Int32)), .val (.ref x228), .val (.int (q4 &&& (255 : Int32))), .val (.ref b231), .unset, .unset, .unset, .unset] [(.int (q4 &&& (255 : Int32))), (.int (6 : Int32)), (.ref x228), (.int (6 : Int32)), (.ref b231)])) _
      refine st320 _ ?_
      show Steps p.tables e below (T320.setTop (mkF m 138 #[.val (.int q0), .val (.int q1), .val (.int q2), .val (.int q3), .val (.int q4), .val (.int nv), .val (.int (1 : Int32)), .val (.ref x228), .val (.int (q4 &&& (255 : Int32))), .val (.ref b231), .unset, .unset, .unset, .unset] [(.int (105 : Int32)), (.int (6 : Int32)), (.ref b231)])) _
      refine st328 _ ?_
      refine XS.aload X328.here hx rfl (hb hby at_139) rfl rfl ?_
      refine XS.bipush X328.here hx rfl (hb hby at_141) ?_
      refine XS.aload X328.here hx rfl (hb hby at_143) rfl rfl ?_
      refine XS.bipush X328.here hx rfl (hb hby at_145) ?_
      refine XS.iload X328.here hx rfl (hb hby at_147) rfl ?_
      show Steps p.tables e below (T328.setTop (mkF m 149 #[.val (.int q0), .val (.int q1), .val (.int q2), .val (.int q3), .val (.int q4), .val (.int nv), .val (.int (1 : Int32)), .val (.ref x228), .val (.int (q4 &&& (255 : Int32))), .val (.ref b231), .unset, .unset, .unset, .unset] [(.int (q4 &&& (255 : Int32))), (.int (7 : Int32)), (.ref x228), (.int (7 : Int32)), (.ref b231)])) _
      refine st334 _ ?_
      show Steps p.tables e below (T334.setTop (mkF m 152 #[.val (.int q0), .val (.int q1), .val (.int q2), .val (.int q3), .val (.int q4), .val (.int nv), .val (.int (1 : Int32)), .val (.ref x228), .val (.int (q4 &&& (255 : Int32))), .val (.ref b231), .unset, .unset, .unset, .unset] [(.int (116 : Int32)), (.int (7 : Int32)), (.ref b231)])) _
      refine st342 _ ?_
      refine XS.aload X342.here hx rfl (hb hby at_153) rfl rfl ?_
      refine XS.bipush X342.here hx rfl (hb hby at_155) ?_
      refine XS.aload X342.here hx rfl (hb hby at_157) rfl rfl ?_
      refine XS.bipush X342.here hx rfl (hb hby at_159) ?_
      refine XS.iload X342.here hx rfl (hb hby at_161) rfl ?_
      show Steps p.tables e below (T342.setTop (mkF m 163 #[.val (.int q0), .val (.int q1), .val (.int q2), .val (.int q3), .val (.int q4), .val (.int nv), .val (.int (1 : Int32)), .val (.ref x228), .val (.int (q4 &&& (255 : Int32))), .val (.ref b231), .unset, .unset, .unset, .unset] [(.int (q4 &&& (255 : Int32))), (.int (8 : Int32)), (.ref x228), (.int (8 : Int32)), (.ref b231)])) _
      refine st348 _ ?_
      show Steps p.tables e below (T348.setTop (mkF m 166 #[.val (.int q0), .val (.int q1), .val (.int q2), .val (.int q3), .val (.int q4), .val (.int nv), .val (.int (1 : Int32)), .val (.ref x228), .val (.int (q4 &&& (255 : Int32))), .val (.ref b231), .unset, .unset, .unset, .unset] [(.int (121 : Int32)), (.int (8 : Int32)), (.ref b231)])) _
      refine st356 _ ?_
      refine XS.aload X356.here hx rfl (hb hby at_167) rfl rfl ?_
      refine XS.bipush X356.here hx rfl (hb hby at_169) ?_
      refine XS.aload X356.here hx rfl (hb hby at_171) rfl rfl ?_
      refine XS.bipush X356.here hx rfl (hb hby at_173) ?_
      refine XS.iload X356.here hx rfl (hb hby at_175) rfl ?_
      show Steps p.tables e below (T356.setTop (mkF m 177 #[.val (.int q0), .val (.int q1), .val (.int q2), .val (.int q3), .val (.int q4), .val (.int nv), .val (.int (1 : Int32)), .val (.ref x228), .val (.int (q4 &&& (255 : Int32))), .val (.ref b231), .unset, .unset, .unset, .unset] [(.int (q4 &&& (255 : Int32))), (.int (9 : Int32)), (.ref x228), (.int (9 : Int32)), (.ref b231)])) _
      refine st362 _ ?_
      show Steps p.tables e below (T362.setTop (mkF m 180 #[.val (.int q0), .val (.int q1), .val (.int q2), .val (.int q3), .val (.int q4), .val (.int nv), .val (.int (1 : Int32)), .val (.ref x228), .val (.int (q4 &&& (255 : Int32))), .val (.ref b231), .unset, .unset, .unset, .unset] [(.int (q4 &&& (255 : Int32))), (.int (9 : Int32)), (.ref b231)])) _
      refine st370 _ ?_
      refine XS.iloadN X370.here hx rfl (hb hby at_181) rfl ?_
      refine XS.iconst X370.here hx rfl (hb hby at_182) ?_
      refine XS.iand X370.here hx rfl (hb hby at_183) rfl ?_
      exact kt
    rcases Decidable.em ((q1 &&& (2 : Int32)) = (0 : Int32)) with c377 | c377
    · have S378 : ∀ t, Steps p.tables e below (T370.setTop (mkF m 203 #[.val (.int q0), .val (.int q1), .val (.int q2), .val (.int q3), .val (.int q4), .val (.int nv), .val (.int (1 : Int32)), .val (.ref x228), .val (.int (q4 &&& (255 : Int32))), .val (.ref b231), .unset, .unset, .unset, .unset] [])) t → Steps p.tables e below (s₁.setTop (mkF m 0 #[.val (.int q0), .val (.int q1), .val (.int q2), .val (.int q3), .val (.int q4), .unset, .unset, .unset, .unset, .unset, .unset, .unset, .unset, .unset] [])) t := by
        intro t kt
        refine S376 t ?_
        refine XS.ifYes X370.here hx rfl (pc0 := 184) (pc' := 203) rfl (hb hby at_184) rfl ((if0 _ _).trans (teq (c377 : (q1 &&& (2 : Int32)) = (0 : Int32))).1) (by decide) (by decide) ?_
        exact kt
      obtain ⟨s₂, o, t1, t2, t3, t4⟩ := rm_tail l Z a0 hw q0 q1 q2 q3 q4 nv (1 : Int32) x228 (q4 &&& (255 : Int32)) b231 k231 (45 : Int32) (105 : Int32) (110 : Int32) (102 : Int32) (105 : Int32) (110 : Int32) (105 : Int32) (116 : Int32) (121 : Int32) (q4 &&& (255 : Int32)) zc h370 n0 O374 hn F370 ⟨by decide, by decide⟩ ⟨by decide, by decide⟩ ⟨by decide, by decide⟩ ⟨by decide, by decide⟩ ⟨by decide, by decide⟩ ⟨by decide, by decide⟩ ⟨by decide, by decide⟩ ⟨by decide, by decide⟩ ⟨by decide, by decide⟩ (own_lat _) S_C hzc X370 hx hZ228 hby hml ho228 Bd.returns (BodyLoose.notSynchronized Bd) e370 N375 hS228 hk373 (by rw [hh]; exact CR372)
      exact ⟨s₂, o, pre0 _ (S378 _ t1), t2, t3, t4⟩
    · have S379 : ∀ t, Steps p.tables e below (T370.setTop (mkF m 196 #[.val (.int q0), .val (.int q1), .val (.int q2), .val (.int q3), .val (.int q4), .val (.int nv), .val (.int (1 : Int32)), .val (.ref x228), .val (.int (q4 &&& (255 : Int32))), .val (.ref b231), .unset, .unset, .unset, .unset] [(.int ((q2 &&& (2147483647 : Int32)) % nv)), (.ref b231)])) t → Steps p.tables e below (s₁.setTop (mkF m 0 #[.val (.int q0), .val (.int q1), .val (.int q2), .val (.int q3), .val (.int q4), .unset, .unset, .unset, .unset, .unset, .unset, .unset, .unset, .unset] [])) t := by
        intro t kt
        refine S376 t ?_
        refine XS.ifNo X370.here hx rfl (hb hby at_184) rfl ((if0 _ _).trans (feq (c377 : ¬ ((q1 &&& (2 : Int32)) = (0 : Int32)))).1) ?_
        refine XS.aload X370.here hx rfl (hb hby at_187) rfl rfl ?_
        refine XS.iloadN X370.here hx rfl (hb hby at_189) rfl ?_
        show Steps p.tables e below (T370.setTop (mkF m 190 #[.val (.int q0), .val (.int q1), .val (.int q2), .val (.int q3), .val (.int q4), .val (.int nv), .val (.int (1 : Int32)), .val (.ref x228), .val (.int (q4 &&& (255 : Int32))), .val (.ref b231), .unset, .unset, .unset, .unset] [(.int q2), (.ref b231)])) _
        refine Jvm.Stand.ldcI (g := (mkF m 190 #[.val (.int q0), .val (.int q1), .val (.int q2), .val (.int q3), .val (.int q4), .val (.int nv), .val (.int (1 : Int32)), .val (.ref x228), .val (.int (q4 &&& (255 : Int32))), .val (.ref b231), .unset, .unset, .unset, .unset] [(.int q2), (.ref b231)])) X370 hx ho228 (mvT hZ228 (own_w hw 0 rfl)) rfl (hb hby at_190) ?_
        refine XS.iand X370.here hx rfl (hb hby at_192) rfl ?_
        refine XS.iload X370.here hx rfl (hb hby at_193) rfl ?_
        show Steps p.tables e below (T370.setTop (mkF m 195 #[.val (.int q0), .val (.int q1), .val (.int q2), .val (.int q3), .val (.int q4), .val (.int nv), .val (.int (1 : Int32)), .val (.ref x228), .val (.int (q4 &&& (255 : Int32))), .val (.ref b231), .unset, .unset, .unset, .unset] [(.int nv), (.int (q2 &&& (2147483647 : Int32))), (.ref b231)])) _
        refine Jvm.RoadKit.iremM (g := (mkF m 195 #[.val (.int q0), .val (.int q1), .val (.int q2), .val (.int q3), .val (.int q4), .val (.int nv), .val (.int (1 : Int32)), .val (.ref x228), .val (.int (q4 &&& (255 : Int32))), .val (.ref b231), .unset, .unset, .unset, .unset] [(.int nv), (.int (q2 &&& (2147483647 : Int32))), (.ref b231)])) X370 hx rfl (hb hby at_195) rfl (own_nz hn) ?_
        exact kt
      obtain ⟨jv, h_jv⟩ : ∃ z, z = ((q2 &&& (2147483647 : Int32)) % nv) := ⟨_, rfl⟩
      have S380 : ∀ t, Steps p.tables e below (T370.setTop (mkF m 196 #[.val (.int q0), .val (.int q1), .val (.int q2), .val (.int q3), .val (.int q4), .val (.int nv), .val (.int (1 : Int32)), .val (.ref x228), .val (.int (q4 &&& (255 : Int32))), .val (.ref b231), .unset, .unset, .unset, .unset] [(.int jv), (.ref b231)])) t → Steps p.tables e below (s₁.setTop (mkF m 0 #[.val (.int q0), .val (.int q1), .val (.int q2), .val (.int q3), .val (.int q4), .unset, .unset, .unset, .unset, .unset, .unset, .unset, .unset, .unset] [])) t := by rw [h_jv]; exact S379
      rcases own_j q2 nv jv hn h_jv with rfl | rfl | rfl | rfl | rfl | rfl | rfl | rfl | rfl | rfl
      · obtain ⟨cl381, Ar381, q381, Sz381, Nn381, Hh381, Gg381⟩ := id F370
        have in381 : ¬ ((0 : Int32) < 0 ∨ cl381.slots.size ≤ ((0 : Int32)).toNatClampNeg) := inb_of Sz381 ⟨by decide, by decide⟩
        obtain ⟨T381, h381, X381, e381, W381, st381⟩ := stC X370 hx hZ228 e370 Ar381 (j := (0 : Int32)) in381 (g := (mkF m 202 #[.val (.int q0), .val (.int q1), .val (.int q2), .val (.int q3), .val (.int q4), .val (.int nv), .val (.int (1 : Int32)), .val (.ref x228), .val (.int (q4 &&& (255 : Int32))), .val (.ref b231), .unset, .unset, .unset, .unset] [(.int (q3 &&& (255 : Int32))), (.int (0 : Int32)), (.ref b231)])) rfl rfl (hb hby at_202)
        rw [show nar .char (q3 &&& (255 : Int32)) = (q3 &&& (255 : Int32)) from i2c_mask _] at W381
        have f382 := (Exa.wr W370 f371)
        have CR383 := CR372.trans (CHr.wr W381 (Safe.exa hZ228.alike f382 (by decide) (by decide)) CR372.1)
        have hk384 := Nat.le_trans hk373 (Keep.of_wr W381).1
        have O385 := O374.wr W381 ge_b231
        have N386 := Fr.snoc X381 N375 ge_b231
        have F381 : Arv Z h381 b231 k231 .char (10 : Int32) [(.int (q3 &&& (255 : Int32))), (.int (105 : Int32)), (.int (110 : Int32)), (.int (102 : Int32)), (.int (105 : Int32)), (.int (110 : Int32)), (.int (105 : Int32)), (.int (116 : Int32)), (.int (121 : Int32)), (.int (q4 &&& (255 : Int32)))] (.int (0 : Int32)) := Arv.set Ar381 q381 Sz381 Nn381 Hh381 Gg381 (by rw [← (i2c_mask _ : nar .char (q3 &&& (255 : Int32)) = (q3 &&& (255 : Int32)))]; exact fits_nar_char _) W381 0 rfl (Nat.le_of_ble_eq_true rfl)
        have S387 : ∀ t, Steps p.tables e below (T381.setTop (mkF m 203 #[.val (.int q0), .val (.int q1), .val (.int q2), .val (.int q3), .val (.int q4), .val (.int nv), .val (.int (1 : Int32)), .val (.ref x228), .val (.int (q4 &&& (255 : Int32))), .val (.ref b231), .unset, .unset, .unset, .unset] [])) t → Steps p.tables e below (s₁.setTop (mkF m 0 #[.val (.int q0), .val (.int q1), .val (.int q2), .val (.int q3), .val (.int q4), .unset, .unset, .unset, .unset, .unset, .unset, .unset, .unset, .unset] [])) t := by
          intro t kt
          refine S380 t ?_
          refine XS.iloadN X370.here hx rfl (hb hby at_196) rfl ?_
          refine XS.sipush X370.here hx rfl (hb hby at_197) ?_
          refine XS.iand X370.here hx rfl (hb hby at_200) rfl ?_
          refine XS.i2c X370.here hx rfl (hb hby at_201) rfl ?_
          change Steps p.tables e below (T370.setTop (mkF m 202 #[.val (.int q0), .val (.int q1), .val (.int q2), .val (.int q3), .val (.int q4), .val (.int nv), .val (.int (1 : Int32)), .val (.ref x228), .val (.int (q4 &&& (255 : Int32))), .val (.ref b231), .unset, .unset, .unset, .unset] [(.int ((q3 &&& (255 : Int32)).toUInt32.toUInt16.toUInt32.toInt32)), (.int (0 : Int32)), (.ref b231)])) _
          rw [i2c_mask]
          show Steps p.tables e below (T370.setTop (mkF m 202 #[.val (.int q0), .val (.int q1), .val (.int q2), .val (.int q3), .val (.int q4), .val (.int nv), .val (.int (1 : Int32)), .val (.ref x228), .val (.int (q4 &&& (255 : Int32))), .val (.ref b231), .unset, .unset, .unset, .unset] [(.int (q3 &&& (255 : Int32))), (.int (0 : Int32)), (.ref b231)])) _
          refine st381 _ ?_
          exact kt
        obtain ⟨s₂, o, t1, t2, t3, t4⟩ := rm_tail l Z a0 hw q0 q1 q2 q3 q4 nv (1 : Int32) x228 (q4 &&& (255 : Int32)) b231 k231 (q3 &&& (255 : Int32)) (105 : Int32) (110 : Int32) (102 : Int32) (105 : Int32) (110 : Int32) (105 : Int32) (116 : Int32) (121 : Int32) (q4 &&& (255 : Int32)) zc h381 n0 O385 hn F381 (own_lat _) ⟨by decide, by decide⟩ ⟨by decide, by decide⟩ ⟨by decide, by decide⟩ ⟨by decide, by decide⟩ ⟨by decide, by decide⟩ ⟨by decide, by decide⟩ ⟨by decide, by decide⟩ ⟨by decide, by decide⟩ (own_lat _) S_C hzc X381 hx hZ228 hby hml ho228 Bd.returns (BodyLoose.notSynchronized Bd) e381 N386 hS228 hk384 (by rw [hh]; exact CR383)
        exact ⟨s₂, o, pre0 _ (S387 _ t1), t2, t3, t4⟩
      · obtain ⟨cl388, Ar388, q388, Sz388, Nn388, Hh388, Gg388⟩ := id F370
        have in388 : ¬ ((1 : Int32) < 0 ∨ cl388.slots.size ≤ ((1 : Int32)).toNatClampNeg) := inb_of Sz388 ⟨by decide, by decide⟩
        obtain ⟨T388, h388, X388, e388, W388, st388⟩ := stC X370 hx hZ228 e370 Ar388 (j := (1 : Int32)) in388 (g := (mkF m 202 #[.val (.int q0), .val (.int q1), .val (.int q2), .val (.int q3), .val (.int q4), .val (.int nv), .val (.int (1 : Int32)), .val (.ref x228), .val (.int (q4 &&& (255 : Int32))), .val (.ref b231), .unset, .unset, .unset, .unset] [(.int (q3 &&& (255 : Int32))), (.int (1 : Int32)), (.ref b231)])) rfl rfl (hb hby at_202)
        rw [show nar .char (q3 &&& (255 : Int32)) = (q3 &&& (255 : Int32)) from i2c_mask _] at W388
        have f389 := (Exa.wr W370 f371)
        have CR390 := CR372.trans (CHr.wr W388 (Safe.exa hZ228.alike f389 (by decide) (by decide)) CR372.1)
        have hk391 := Nat.le_trans hk373 (Keep.of_wr W388).1
        have O392 := O374.wr W388 ge_b231
        have N393 := Fr.snoc X388 N375 ge_b231
        have F388 : Arv Z h388 b231 k231 .char (10 : Int32) [(.int (45 : Int32)), (.int (q3 &&& (255 : Int32))), (.int (110 : Int32)), (.int (102 : Int32)), (.int (105 : Int32)), (.int (110 : Int32)), (.int (105 : Int32)), (.int (116 : Int32)), (.int (121 : Int32)), (.int (q4 &&& (255 : Int32)))] (.int (0 : Int32)) := Arv.set Ar388 q388 Sz388 Nn388 Hh388 Gg388 (by rw [← (i2c_mask _ : nar .char (q3 &&& (255 : Int32)) = (q3 &&& (255 : Int32)))]; exact fits_nar_char _) W388 1 rfl (Nat.le_of_ble_eq_true rfl)
        have S394 : ∀ t, Steps p.tables e below (T388.setTop (mkF m 203 #[.val (.int q0), .val (.int q1), .val (.int q2), .val (.int q3), .val (.int q4), .val (.int nv), .val (.int (1 : Int32)), .val (.ref x228), .val (.int (q4 &&& (255 : Int32))), .val (.ref b231), .unset, .unset, .unset, .unset] [])) t → Steps p.tables e below (s₁.setTop (mkF m 0 #[.val (.int q0), .val (.int q1), .val (.int q2), .val (.int q3), .val (.int q4), .unset, .unset, .unset, .unset, .unset, .unset, .unset, .unset, .unset] [])) t := by
          intro t kt
          refine S380 t ?_
          refine XS.iloadN X370.here hx rfl (hb hby at_196) rfl ?_
          refine XS.sipush X370.here hx rfl (hb hby at_197) ?_
          refine XS.iand X370.here hx rfl (hb hby at_200) rfl ?_
          refine XS.i2c X370.here hx rfl (hb hby at_201) rfl ?_
          change Steps p.tables e below (T370.setTop (mkF m 202 #[.val (.int q0), .val (.int q1), .val (.int q2), .val (.int q3), .val (.int q4), .val (.int nv), .val (.int (1 : Int32)), .val (.ref x228), .val (.int (q4 &&& (255 : Int32))), .val (.ref b231), .unset, .unset, .unset, .unset] [(.int ((q3 &&& (255 : Int32)).toUInt32.toUInt16.toUInt32.toInt32)), (.int (1 : Int32)), (.ref b231)])) _
          rw [i2c_mask]
          show Steps p.tables e below (T370.setTop (mkF m 202 #[.val (.int q0), .val (.int q1), .val (.int q2), .val (.int q3), .val (.int q4), .val (.int nv), .val (.int (1 : Int32)), .val (.ref x228), .val (.int (q4 &&& (255 : Int32))), .val (.ref b231), .unset, .unset, .unset, .unset] [(.int (q3 &&& (255 : Int32))), (.int (1 : Int32)), (.ref b231)])) _
          refine st388 _ ?_
          exact kt
        obtain ⟨s₂, o, t1, t2, t3, t4⟩ := rm_tail l Z a0 hw q0 q1 q2 q3 q4 nv (1 : Int32) x228 (q4 &&& (255 : Int32)) b231 k231 (45 : Int32) (q3 &&& (255 : Int32)) (110 : Int32) (102 : Int32) (105 : Int32) (110 : Int32) (105 : Int32) (116 : Int32) (121 : Int32) (q4 &&& (255 : Int32)) zc h388 n0 O392 hn F388 ⟨by decide, by decide⟩ (own_lat _) ⟨by decide, by decide⟩ ⟨by decide, by decide⟩ ⟨by decide, by decide⟩ ⟨by decide, by decide⟩ ⟨by decide, by decide⟩ ⟨by decide, by decide⟩ ⟨by decide, by decide⟩ (own_lat _) S_C hzc X388 hx hZ228 hby hml ho228 Bd.returns (BodyLoose.notSynchronized Bd) e388 N393 hS228 hk391 (by rw [hh]; exact CR390)
        exact ⟨s₂, o, pre0 _ (S394 _ t1), t2, t3, t4⟩
      · obtain ⟨cl395, Ar395, q395, Sz395, Nn395, Hh395, Gg395⟩ := id F370
        have in395 : ¬ ((2 : Int32) < 0 ∨ cl395.slots.size ≤ ((2 : Int32)).toNatClampNeg) := inb_of Sz395 ⟨by decide, by decide⟩
        obtain ⟨T395, h395, X395, e395, W395, st395⟩ := stC X370 hx hZ228 e370 Ar395 (j := (2 : Int32)) in395 (g := (mkF m 202 #[.val (.int q0), .val (.int q1), .val (.int q2), .val (.int q3), .val (.int q4), .val (.int nv), .val (.int (1 : Int32)), .val (.ref x228), .val (.int (q4 &&& (255 : Int32))), .val (.ref b231), .unset, .unset, .unset, .unset] [(.int (q3 &&& (255 : Int32))), (.int (2 : Int32)), (.ref b231)])) rfl rfl (hb hby at_202)
        rw [show nar .char (q3 &&& (255 : Int32)) = (q3 &&& (255 : Int32)) from i2c_mask _] at W395
        have f396 := (Exa.wr W370 f371)
        have CR397 := CR372.trans (CHr.wr W395 (Safe.exa hZ228.alike f396 (by decide) (by decide)) CR372.1)
        have hk398 := Nat.le_trans hk373 (Keep.of_wr W395).1
        have O399 := O374.wr W395 ge_b231
        have N400 := Fr.snoc X395 N375 ge_b231
        have F395 : Arv Z h395 b231 k231 .char (10 : Int32) [(.int (45 : Int32)), (.int (105 : Int32)), (.int (q3 &&& (255 : Int32))), (.int (102 : Int32)), (.int (105 : Int32)), (.int (110 : Int32)), (.int (105 : Int32)), (.int (116 : Int32)), (.int (121 : Int32)), (.int (q4 &&& (255 : Int32)))] (.int (0 : Int32)) := Arv.set Ar395 q395 Sz395 Nn395 Hh395 Gg395 (by rw [← (i2c_mask _ : nar .char (q3 &&& (255 : Int32)) = (q3 &&& (255 : Int32)))]; exact fits_nar_char _) W395 2 rfl (Nat.le_of_ble_eq_true rfl)
        have S401 : ∀ t, Steps p.tables e below (T395.setTop (mkF m 203 #[.val (.int q0), .val (.int q1), .val (.int q2), .val (.int q3), .val (.int q4), .val (.int nv), .val (.int (1 : Int32)), .val (.ref x228), .val (.int (q4 &&& (255 : Int32))), .val (.ref b231), .unset, .unset, .unset, .unset] [])) t → Steps p.tables e below (s₁.setTop (mkF m 0 #[.val (.int q0), .val (.int q1), .val (.int q2), .val (.int q3), .val (.int q4), .unset, .unset, .unset, .unset, .unset, .unset, .unset, .unset, .unset] [])) t := by
          intro t kt
          refine S380 t ?_
          refine XS.iloadN X370.here hx rfl (hb hby at_196) rfl ?_
          refine XS.sipush X370.here hx rfl (hb hby at_197) ?_
          refine XS.iand X370.here hx rfl (hb hby at_200) rfl ?_
          refine XS.i2c X370.here hx rfl (hb hby at_201) rfl ?_
          change Steps p.tables e below (T370.setTop (mkF m 202 #[.val (.int q0), .val (.int q1), .val (.int q2), .val (.int q3), .val (.int q4), .val (.int nv), .val (.int (1 : Int32)), .val (.ref x228), .val (.int (q4 &&& (255 : Int32))), .val (.ref b231), .unset, .unset, .unset, .unset] [(.int ((q3 &&& (255 : Int32)).toUInt32.toUInt16.toUInt32.toInt32)), (.int (2 : Int32)), (.ref b231)])) _
          rw [i2c_mask]
          show Steps p.tables e below (T370.setTop (mkF m 202 #[.val (.int q0), .val (.int q1), .val (.int q2), .val (.int q3), .val (.int q4), .val (.int nv), .val (.int (1 : Int32)), .val (.ref x228), .val (.int (q4 &&& (255 : Int32))), .val (.ref b231), .unset, .unset, .unset, .unset] [(.int (q3 &&& (255 : Int32))), (.int (2 : Int32)), (.ref b231)])) _
          refine st395 _ ?_
          exact kt
        obtain ⟨s₂, o, t1, t2, t3, t4⟩ := rm_tail l Z a0 hw q0 q1 q2 q3 q4 nv (1 : Int32) x228 (q4 &&& (255 : Int32)) b231 k231 (45 : Int32) (105 : Int32) (q3 &&& (255 : Int32)) (102 : Int32) (105 : Int32) (110 : Int32) (105 : Int32) (116 : Int32) (121 : Int32) (q4 &&& (255 : Int32)) zc h395 n0 O399 hn F395 ⟨by decide, by decide⟩ ⟨by decide, by decide⟩ (own_lat _) ⟨by decide, by decide⟩ ⟨by decide, by decide⟩ ⟨by decide, by decide⟩ ⟨by decide, by decide⟩ ⟨by decide, by decide⟩ ⟨by decide, by decide⟩ (own_lat _) S_C hzc X395 hx hZ228 hby hml ho228 Bd.returns (BodyLoose.notSynchronized Bd) e395 N400 hS228 hk398 (by rw [hh]; exact CR397)
        exact ⟨s₂, o, pre0 _ (S401 _ t1), t2, t3, t4⟩
      · obtain ⟨cl402, Ar402, q402, Sz402, Nn402, Hh402, Gg402⟩ := id F370
        have in402 : ¬ ((3 : Int32) < 0 ∨ cl402.slots.size ≤ ((3 : Int32)).toNatClampNeg) := inb_of Sz402 ⟨by decide, by decide⟩
        obtain ⟨T402, h402, X402, e402, W402, st402⟩ := stC X370 hx hZ228 e370 Ar402 (j := (3 : Int32)) in402 (g := (mkF m 202 #[.val (.int q0), .val (.int q1), .val (.int q2), .val (.int q3), .val (.int q4), .val (.int nv), .val (.int (1 : Int32)), .val (.ref x228), .val (.int (q4 &&& (255 : Int32))), .val (.ref b231), .unset, .unset, .unset, .unset] [(.int (q3 &&& (255 : Int32))), (.int (3 : Int32)), (.ref b231)])) rfl rfl (hb hby at_202)
        rw [show nar .char (q3 &&& (255 : Int32)) = (q3 &&& (255 : Int32)) from i2c_mask _] at W402
        have f403 := (Exa.wr W370 f371)
        have CR404 := CR372.trans (CHr.wr W402 (Safe.exa hZ228.alike f403 (by decide) (by decide)) CR372.1)
        have hk405 := Nat.le_trans hk373 (Keep.of_wr W402).1
        have O406 := O374.wr W402 ge_b231
        have N407 := Fr.snoc X402 N375 ge_b231
        have F402 : Arv Z h402 b231 k231 .char (10 : Int32) [(.int (45 : Int32)), (.int (105 : Int32)), (.int (110 : Int32)), (.int (q3 &&& (255 : Int32))), (.int (105 : Int32)), (.int (110 : Int32)), (.int (105 : Int32)), (.int (116 : Int32)), (.int (121 : Int32)), (.int (q4 &&& (255 : Int32)))] (.int (0 : Int32)) := Arv.set Ar402 q402 Sz402 Nn402 Hh402 Gg402 (by rw [← (i2c_mask _ : nar .char (q3 &&& (255 : Int32)) = (q3 &&& (255 : Int32)))]; exact fits_nar_char _) W402 3 rfl (Nat.le_of_ble_eq_true rfl)
        have S408 : ∀ t, Steps p.tables e below (T402.setTop (mkF m 203 #[.val (.int q0), .val (.int q1), .val (.int q2), .val (.int q3), .val (.int q4), .val (.int nv), .val (.int (1 : Int32)), .val (.ref x228), .val (.int (q4 &&& (255 : Int32))), .val (.ref b231), .unset, .unset, .unset, .unset] [])) t → Steps p.tables e below (s₁.setTop (mkF m 0 #[.val (.int q0), .val (.int q1), .val (.int q2), .val (.int q3), .val (.int q4), .unset, .unset, .unset, .unset, .unset, .unset, .unset, .unset, .unset] [])) t := by
          intro t kt
          refine S380 t ?_
          refine XS.iloadN X370.here hx rfl (hb hby at_196) rfl ?_
          refine XS.sipush X370.here hx rfl (hb hby at_197) ?_
          refine XS.iand X370.here hx rfl (hb hby at_200) rfl ?_
          refine XS.i2c X370.here hx rfl (hb hby at_201) rfl ?_
          change Steps p.tables e below (T370.setTop (mkF m 202 #[.val (.int q0), .val (.int q1), .val (.int q2), .val (.int q3), .val (.int q4), .val (.int nv), .val (.int (1 : Int32)), .val (.ref x228), .val (.int (q4 &&& (255 : Int32))), .val (.ref b231), .unset, .unset, .unset, .unset] [(.int ((q3 &&& (255 : Int32)).toUInt32.toUInt16.toUInt32.toInt32)), (.int (3 : Int32)), (.ref b231)])) _
          rw [i2c_mask]
          show Steps p.tables e below (T370.setTop (mkF m 202 #[.val (.int q0), .val (.int q1), .val (.int q2), .val (.int q3), .val (.int q4), .val (.int nv), .val (.int (1 : Int32)), .val (.ref x228), .val (.int (q4 &&& (255 : Int32))), .val (.ref b231), .unset, .unset, .unset, .unset] [(.int (q3 &&& (255 : Int32))), (.int (3 : Int32)), (.ref b231)])) _
          refine st402 _ ?_
          exact kt
        obtain ⟨s₂, o, t1, t2, t3, t4⟩ := rm_tail l Z a0 hw q0 q1 q2 q3 q4 nv (1 : Int32) x228 (q4 &&& (255 : Int32)) b231 k231 (45 : Int32) (105 : Int32) (110 : Int32) (q3 &&& (255 : Int32)) (105 : Int32) (110 : Int32) (105 : Int32) (116 : Int32) (121 : Int32) (q4 &&& (255 : Int32)) zc h402 n0 O406 hn F402 ⟨by decide, by decide⟩ ⟨by decide, by decide⟩ ⟨by decide, by decide⟩ (own_lat _) ⟨by decide, by decide⟩ ⟨by decide, by decide⟩ ⟨by decide, by decide⟩ ⟨by decide, by decide⟩ ⟨by decide, by decide⟩ (own_lat _) S_C hzc X402 hx hZ228 hby hml ho228 Bd.returns (BodyLoose.notSynchronized Bd) e402 N407 hS228 hk405 (by rw [hh]; exact CR404)
        exact ⟨s₂, o, pre0 _ (S408 _ t1), t2, t3, t4⟩
      · obtain ⟨cl409, Ar409, q409, Sz409, Nn409, Hh409, Gg409⟩ := id F370
        have in409 : ¬ ((4 : Int32) < 0 ∨ cl409.slots.size ≤ ((4 : Int32)).toNatClampNeg) := inb_of Sz409 ⟨by decide, by decide⟩
        obtain ⟨T409, h409, X409, e409, W409, st409⟩ := stC X370 hx hZ228 e370 Ar409 (j := (4 : Int32)) in409 (g := (mkF m 202 #[.val (.int q0), .val (.int q1), .val (.int q2), .val (.int q3), .val (.int q4), .val (.int nv), .val (.int (1 : Int32)), .val (.ref x228), .val (.int (q4 &&& (255 : Int32))), .val (.ref b231), .unset, .unset, .unset, .unset] [(.int (q3 &&& (255 : Int32))), (.int (4 : Int32)), (.ref b231)])) rfl rfl (hb hby at_202)
        rw [show nar .char (q3 &&& (255 : Int32)) = (q3 &&& (255 : Int32)) from i2c_mask _] at W409
        have f410 := (Exa.wr W370 f371)
        have CR411 := CR372.trans (CHr.wr W409 (Safe.exa hZ228.alike f410 (by decide) (by decide)) CR372.1)
        have hk412 := Nat.le_trans hk373 (Keep.of_wr W409).1
        have O413 := O374.wr W409 ge_b231
        have N414 := Fr.snoc X409 N375 ge_b231
        have F409 : Arv Z h409 b231 k231 .char (10 : Int32) [(.int (45 : Int32)), (.int (105 : Int32)), (.int (110 : Int32)), (.int (102 : Int32)), (.int (q3 &&& (255 : Int32))), (.int (110 : Int32)), (.int (105 : Int32)), (.int (116 : Int32)), (.int (121 : Int32)), (.int (q4 &&& (255 : Int32)))] (.int (0 : Int32)) := Arv.set Ar409 q409 Sz409 Nn409 Hh409 Gg409 (by rw [← (i2c_mask _ : nar .char (q3 &&& (255 : Int32)) = (q3 &&& (255 : Int32)))]; exact fits_nar_char _) W409 4 rfl (Nat.le_of_ble_eq_true rfl)
        have S415 : ∀ t, Steps p.tables e below (T409.setTop (mkF m 203 #[.val (.int q0), .val (.int q1), .val (.int q2), .val (.int q3), .val (.int q4), .val (.int nv), .val (.int (1 : Int32)), .val (.ref x228), .val (.int (q4 &&& (255 : Int32))), .val (.ref b231), .unset, .unset, .unset, .unset] [])) t → Steps p.tables e below (s₁.setTop (mkF m 0 #[.val (.int q0), .val (.int q1), .val (.int q2), .val (.int q3), .val (.int q4), .unset, .unset, .unset, .unset, .unset, .unset, .unset, .unset, .unset] [])) t := by
          intro t kt
          refine S380 t ?_
          refine XS.iloadN X370.here hx rfl (hb hby at_196) rfl ?_
          refine XS.sipush X370.here hx rfl (hb hby at_197) ?_
          refine XS.iand X370.here hx rfl (hb hby at_200) rfl ?_
          refine XS.i2c X370.here hx rfl (hb hby at_201) rfl ?_
          change Steps p.tables e below (T370.setTop (mkF m 202 #[.val (.int q0), .val (.int q1), .val (.int q2), .val (.int q3), .val (.int q4), .val (.int nv), .val (.int (1 : Int32)), .val (.ref x228), .val (.int (q4 &&& (255 : Int32))), .val (.ref b231), .unset, .unset, .unset, .unset] [(.int ((q3 &&& (255 : Int32)).toUInt32.toUInt16.toUInt32.toInt32)), (.int (4 : Int32)), (.ref b231)])) _
          rw [i2c_mask]
          show Steps p.tables e below (T370.setTop (mkF m 202 #[.val (.int q0), .val (.int q1), .val (.int q2), .val (.int q3), .val (.int q4), .val (.int nv), .val (.int (1 : Int32)), .val (.ref x228), .val (.int (q4 &&& (255 : Int32))), .val (.ref b231), .unset, .unset, .unset, .unset] [(.int (q3 &&& (255 : Int32))), (.int (4 : Int32)), (.ref b231)])) _
          refine st409 _ ?_
          exact kt
        obtain ⟨s₂, o, t1, t2, t3, t4⟩ := rm_tail l Z a0 hw q0 q1 q2 q3 q4 nv (1 : Int32) x228 (q4 &&& (255 : Int32)) b231 k231 (45 : Int32) (105 : Int32) (110 : Int32) (102 : Int32) (q3 &&& (255 : Int32)) (110 : Int32) (105 : Int32) (116 : Int32) (121 : Int32) (q4 &&& (255 : Int32)) zc h409 n0 O413 hn F409 ⟨by decide, by decide⟩ ⟨by decide, by decide⟩ ⟨by decide, by decide⟩ ⟨by decide, by decide⟩ (own_lat _) ⟨by decide, by decide⟩ ⟨by decide, by decide⟩ ⟨by decide, by decide⟩ ⟨by decide, by decide⟩ (own_lat _) S_C hzc X409 hx hZ228 hby hml ho228 Bd.returns (BodyLoose.notSynchronized Bd) e409 N414 hS228 hk412 (by rw [hh]; exact CR411)
        exact ⟨s₂, o, pre0 _ (S415 _ t1), t2, t3, t4⟩
      · obtain ⟨cl416, Ar416, q416, Sz416, Nn416, Hh416, Gg416⟩ := id F370
        have in416 : ¬ ((5 : Int32) < 0 ∨ cl416.slots.size ≤ ((5 : Int32)).toNatClampNeg) := inb_of Sz416 ⟨by decide, by decide⟩
        obtain ⟨T416, h416, X416, e416, W416, st416⟩ := stC X370 hx hZ228 e370 Ar416 (j := (5 : Int32)) in416 (g := (mkF m 202 #[.val (.int q0), .val (.int q1), .val (.int q2), .val (.int q3), .val (.int q4), .val (.int nv), .val (.int (1 : Int32)), .val (.ref x228), .val (.int (q4 &&& (255 : Int32))), .val (.ref b231), .unset, .unset, .unset, .unset] [(.int (q3 &&& (255 : Int32))), (.int (5 : Int32)), (.ref b231)])) rfl rfl (hb hby at_202)
        rw [show nar .char (q3 &&& (255 : Int32)) = (q3 &&& (255 : Int32)) from i2c_mask _] at W416
        have f417 := (Exa.wr W370 f371)
        have CR418 := CR372.trans (CHr.wr W416 (Safe.exa hZ228.alike f417 (by decide) (by decide)) CR372.1)
        have hk419 := Nat.le_trans hk373 (Keep.of_wr W416).1
        have O420 := O374.wr W416 ge_b231
        have N421 := Fr.snoc X416 N375 ge_b231
        have F416 : Arv Z h416 b231 k231 .char (10 : Int32) [(.int (45 : Int32)), (.int (105 : Int32)), (.int (110 : Int32)), (.int (102 : Int32)), (.int (105 : Int32)), (.int (q3 &&& (255 : Int32))), (.int (105 : Int32)), (.int (116 : Int32)), (.int (121 : Int32)), (.int (q4 &&& (255 : Int32)))] (.int (0 : Int32)) := Arv.set Ar416 q416 Sz416 Nn416 Hh416 Gg416 (by rw [← (i2c_mask _ : nar .char (q3 &&& (255 : Int32)) = (q3 &&& (255 : Int32)))]; exact fits_nar_char _) W416 5 rfl (Nat.le_of_ble_eq_true rfl)
        have S422 : ∀ t, Steps p.tables e below (T416.setTop (mkF m 203 #[.val (.int q0), .val (.int q1), .val (.int q2), .val (.int q3), .val (.int q4), .val (.int nv), .val (.int (1 : Int32)), .val (.ref x228), .val (.int (q4 &&& (255 : Int32))), .val (.ref b231), .unset, .unset, .unset, .unset] [])) t → Steps p.tables e below (s₁.setTop (mkF m 0 #[.val (.int q0), .val (.int q1), .val (.int q2), .val (.int q3), .val (.int q4), .unset, .unset, .unset, .unset, .unset, .unset, .unset, .unset, .unset] [])) t := by
          intro t kt
          refine S380 t ?_
          refine XS.iloadN X370.here hx rfl (hb hby at_196) rfl ?_
          refine XS.sipush X370.here hx rfl (hb hby at_197) ?_
          refine XS.iand X370.here hx rfl (hb hby at_200) rfl ?_
          refine XS.i2c X370.here hx rfl (hb hby at_201) rfl ?_
          change Steps p.tables e below (T370.setTop (mkF m 202 #[.val (.int q0), .val (.int q1), .val (.int q2), .val (.int q3), .val (.int q4), .val (.int nv), .val (.int (1 : Int32)), .val (.ref x228), .val (.int (q4 &&& (255 : Int32))), .val (.ref b231), .unset, .unset, .unset, .unset] [(.int ((q3 &&& (255 : Int32)).toUInt32.toUInt16.toUInt32.toInt32)), (.int (5 : Int32)), (.ref b231)])) _
          rw [i2c_mask]
          show Steps p.tables e below (T370.setTop (mkF m 202 #[.val (.int q0), .val (.int q1), .val (.int q2), .val (.int q3), .val (.int q4), .val (.int nv), .val (.int (1 : Int32)), .val (.ref x228), .val (.int (q4 &&& (255 : Int32))), .val (.ref b231), .unset, .unset, .unset, .unset] [(.int (q3 &&& (255 : Int32))), (.int (5 : Int32)), (.ref b231)])) _
          refine st416 _ ?_
          exact kt
        obtain ⟨s₂, o, t1, t2, t3, t4⟩ := rm_tail l Z a0 hw q0 q1 q2 q3 q4 nv (1 : Int32) x228 (q4 &&& (255 : Int32)) b231 k231 (45 : Int32) (105 : Int32) (110 : Int32) (102 : Int32) (105 : Int32) (q3 &&& (255 : Int32)) (105 : Int32) (116 : Int32) (121 : Int32) (q4 &&& (255 : Int32)) zc h416 n0 O420 hn F416 ⟨by decide, by decide⟩ ⟨by decide, by decide⟩ ⟨by decide, by decide⟩ ⟨by decide, by decide⟩ ⟨by decide, by decide⟩ (own_lat _) ⟨by decide, by decide⟩ ⟨by decide, by decide⟩ ⟨by decide, by decide⟩ (own_lat _) S_C hzc X416 hx hZ228 hby hml ho228 Bd.returns (BodyLoose.notSynchronized Bd) e416 N421 hS228 hk419 (by rw [hh]; exact CR418)
        exact ⟨s₂, o, pre0 _ (S422 _ t1), t2, t3, t4⟩
      · obtain ⟨cl423, Ar423, q423, Sz423, Nn423, Hh423, Gg423⟩ := id F370
        have in423 : ¬ ((6 : Int32) < 0 ∨ cl423.slots.size ≤ ((6 : Int32)).toNatClampNeg) := inb_of Sz423 ⟨by decide, by decide⟩
        obtain ⟨T423, h423, X423, e423, W423, st423⟩ := stC X370 hx hZ228 e370 Ar423 (j := (6 : Int32)) in423 (g := (mkF m 202 #[.val (.int q0), .val (.int q1), .val (.int q2), .val (.int q3), .val (.int q4), .val (.int nv), .val (.int (1 : Int32)), .val (.ref x228), .val (.int (q4 &&& (255 : Int32))), .val (.ref b231), .unset, .unset, .unset, .unset] [(.int (q3 &&& (255 : Int32))), (.int (6 : Int32)), (.ref b231)])) rfl rfl (hb hby at_202)
        rw [show nar .char (q3 &&& (255 : Int32)) = (q3 &&& (255 : Int32)) from i2c_mask _] at W423
        have f424 := (Exa.wr W370 f371)
        have CR425 := CR372.trans (CHr.wr W423 (Safe.exa hZ228.alike f424 (by decide) (by decide)) CR372.1)
        have hk426 := Nat.le_trans hk373 (Keep.of_wr W423).1
        have O427 := O374.wr W423 ge_b231
        have N428 := Fr.snoc X423 N375 ge_b231
        have F423 : Arv Z h423 b231 k231 .char (10 : Int32) [(.int (45 : Int32)), (.int (105 : Int32)), (.int (110 : Int32)), (.int (102 : Int32)), (.int (105 : Int32)), (.int (110 : Int32)), (.int (q3 &&& (255 : Int32))), (.int (116 : Int32)), (.int (121 : Int32)), (.int (q4 &&& (255 : Int32)))] (.int (0 : Int32)) := Arv.set Ar423 q423 Sz423 Nn423 Hh423 Gg423 (by rw [← (i2c_mask _ : nar .char (q3 &&& (255 : Int32)) = (q3 &&& (255 : Int32)))]; exact fits_nar_char _) W423 6 rfl (Nat.le_of_ble_eq_true rfl)
        have S429 : ∀ t, Steps p.tables e below (T423.setTop (mkF m 203 #[.val (.int q0), .val (.int q1), .val (.int q2), .val (.int q3), .val (.int q4), .val (.int nv), .val (.int (1 : Int32)), .val (.ref x228), .val (.int (q4 &&& (255 : Int32))), .val (.ref b231), .unset, .unset, .unset, .unset] [])) t → Steps p.tables e below (s₁.setTop (mkF m 0 #[.val (.int q0), .val (.int q1), .val (.int q2), .val (.int q3), .val (.int q4), .unset, .unset, .unset, .unset, .unset, .unset, .unset, .unset, .unset] [])) t := by
          intro t kt
          refine S380 t ?_
          refine XS.iloadN X370.here hx rfl (hb hby at_196) rfl ?_
          refine XS.sipush X370.here hx rfl (hb hby at_197) ?_
          refine XS.iand X370.here hx rfl (hb hby at_200) rfl ?_
          refine XS.i2c X370.here hx rfl (hb hby at_201) rfl ?_
          change Steps p.tables e below (T370.setTop (mkF m 202 #[.val (.int q0), .val (.int q1), .val (.int q2), .val (.int q3), .val (.int q4), .val (.int nv), .val (.int (1 : Int32)), .val (.ref x228), .val (.int (q4 &&& (255 : Int32))), .val (.ref b231), .unset, .unset, .unset, .unset] [(.int ((q3 &&& (255 : Int32)).toUInt32.toUInt16.toUInt32.toInt32)), (.int (6 : Int32)), (.ref b231)])) _
          rw [i2c_mask]
          show Steps p.tables e below (T370.setTop (mkF m 202 #[.val (.int q0), .val (.int q1), .val (.int q2), .val (.int q3), .val (.int q4), .val (.int nv), .val (.int (1 : Int32)), .val (.ref x228), .val (.int (q4 &&& (255 : Int32))), .val (.ref b231), .unset, .unset, .unset, .unset] [(.int (q3 &&& (255 : Int32))), (.int (6 : Int32)), (.ref b231)])) _
          refine st423 _ ?_
          exact kt
        obtain ⟨s₂, o, t1, t2, t3, t4⟩ := rm_tail l Z a0 hw q0 q1 q2 q3 q4 nv (1 : Int32) x228 (q4 &&& (255 : Int32)) b231 k231 (45 : Int32) (105 : Int32) (110 : Int32) (102 : Int32) (105 : Int32) (110 : Int32) (q3 &&& (255 : Int32)) (116 : Int32) (121 : Int32) (q4 &&& (255 : Int32)) zc h423 n0 O427 hn F423 ⟨by decide, by decide⟩ ⟨by decide, by decide⟩ ⟨by decide, by decide⟩ ⟨by decide, by decide⟩ ⟨by decide, by decide⟩ ⟨by decide, by decide⟩ (own_lat _) ⟨by decide, by decide⟩ ⟨by decide, by decide⟩ (own_lat _) S_C hzc X423 hx hZ228 hby hml ho228 Bd.returns (BodyLoose.notSynchronized Bd) e423 N428 hS228 hk426 (by rw [hh]; exact CR425)
        exact ⟨s₂, o, pre0 _ (S429 _ t1), t2, t3, t4⟩
      · obtain ⟨cl430, Ar430, q430, Sz430, Nn430, Hh430, Gg430⟩ := id F370
        have in430 : ¬ ((7 : Int32) < 0 ∨ cl430.slots.size ≤ ((7 : Int32)).toNatClampNeg) := inb_of Sz430 ⟨by decide, by decide⟩
        obtain ⟨T430, h430, X430, e430, W430, st430⟩ := stC X370 hx hZ228 e370 Ar430 (j := (7 : Int32)) in430 (g := (mkF m 202 #[.val (.int q0), .val (.int q1), .val (.int q2), .val (.int q3), .val (.int q4), .val (.int nv), .val (.int (1 : Int32)), .val (.ref x228), .val (.int (q4 &&& (255 : Int32))), .val (.ref b231), .unset, .unset, .unset, .unset] [(.int (q3 &&& (255 : Int32))), (.int (7 : Int32)), (.ref b231)])) rfl rfl (hb hby at_202)
        rw [show nar .char (q3 &&& (255 : Int32)) = (q3 &&& (255 : Int32)) from i2c_mask _] at W430
        have f431 := (Exa.wr W370 f371)
        have CR432 := CR372.trans (CHr.wr W430 (Safe.exa hZ228.alike f431 (by decide) (by decide)) CR372.1)
        have hk433 := Nat.le_trans hk373 (Keep.of_wr W430).1
        have O434 := O374.wr W430 ge_b231
        have N435 := Fr.snoc X430 N375 ge_b231
        have F430 : Arv Z h430 b231 k231 .char (10 : Int32) [(.int (45 : Int32)), (.int (105 : Int32)), (.int (110 : Int32)), (.int (102 : Int32)), (.int (105 : Int32)), (.int (110 : Int32)), (.int (105 : Int32)), (.int (q3 &&& (255 : Int32))), (.int (121 : Int32)), (.int (q4 &&& (255 : Int32)))] (.int (0 : Int32)) := Arv.set Ar430 q430 Sz430 Nn430 Hh430 Gg430 (by rw [← (i2c_mask _ : nar .char (q3 &&& (255 : Int32)) = (q3 &&& (255 : Int32)))]; exact fits_nar_char _) W430 7 rfl (Nat.le_of_ble_eq_true rfl)
        have S436 : ∀ t, Steps p.tables e below (T430.setTop (mkF m 203 #[.val (.int q0), .val (.int q1), .val (.int q2), .val (.int q3), .val (.int q4), .val (.int nv), .val (.int (1 : Int32)), .val (.ref x228), .val (.int (q4 &&& (255 : Int32))), .val (.ref b231), .unset, .unset, .unset, .unset] [])) t → Steps p.tables e below (s₁.setTop (mkF m 0 #[.val (.int q0), .val (.int q1), .val (.int q2), .val (.int q3), .val (.int q4), .unset, .unset, .unset, .unset, .unset, .unset, .unset, .unset, .unset] [])) t := by
          intro t kt
          refine S380 t ?_
          refine XS.iloadN X370.here hx rfl (hb hby at_196) rfl ?_
          refine XS.sipush X370.here hx rfl (hb hby at_197) ?_
          refine XS.iand X370.here hx rfl (hb hby at_200) rfl ?_
          refine XS.i2c X370.here hx rfl (hb hby at_201) rfl ?_
          change Steps p.tables e below (T370.setTop (mkF m 202 #[.val (.int q0), .val (.int q1), .val (.int q2), .val (.int q3), .val (.int q4), .val (.int nv), .val (.int (1 : Int32)), .val (.ref x228), .val (.int (q4 &&& (255 : Int32))), .val (.ref b231), .unset, .unset, .unset, .unset] [(.int ((q3 &&& (255 : Int32)).toUInt32.toUInt16.toUInt32.toInt32)), (.int (7 : Int32)), (.ref b231)])) _
          rw [i2c_mask]
          show Steps p.tables e below (T370.setTop (mkF m 202 #[.val (.int q0), .val (.int q1), .val (.int q2), .val (.int q3), .val (.int q4), .val (.int nv), .val (.int (1 : Int32)), .val (.ref x228), .val (.int (q4 &&& (255 : Int32))), .val (.ref b231), .unset, .unset, .unset, .unset] [(.int (q3 &&& (255 : Int32))), (.int (7 : Int32)), (.ref b231)])) _
          refine st430 _ ?_
          exact kt
        obtain ⟨s₂, o, t1, t2, t3, t4⟩ := rm_tail l Z a0 hw q0 q1 q2 q3 q4 nv (1 : Int32) x228 (q4 &&& (255 : Int32)) b231 k231 (45 : Int32) (105 : Int32) (110 : Int32) (102 : Int32) (105 : Int32) (110 : Int32) (105 : Int32) (q3 &&& (255 : Int32)) (121 : Int32) (q4 &&& (255 : Int32)) zc h430 n0 O434 hn F430 ⟨by decide, by decide⟩ ⟨by decide, by decide⟩ ⟨by decide, by decide⟩ ⟨by decide, by decide⟩ ⟨by decide, by decide⟩ ⟨by decide, by decide⟩ ⟨by decide, by decide⟩ (own_lat _) ⟨by decide, by decide⟩ (own_lat _) S_C hzc X430 hx hZ228 hby hml ho228 Bd.returns (BodyLoose.notSynchronized Bd) e430 N435 hS228 hk433 (by rw [hh]; exact CR432)
        exact ⟨s₂, o, pre0 _ (S436 _ t1), t2, t3, t4⟩
      · obtain ⟨cl437, Ar437, q437, Sz437, Nn437, Hh437, Gg437⟩ := id F370
        have in437 : ¬ ((8 : Int32) < 0 ∨ cl437.slots.size ≤ ((8 : Int32)).toNatClampNeg) := inb_of Sz437 ⟨by decide, by decide⟩
        obtain ⟨T437, h437, X437, e437, W437, st437⟩ := stC X370 hx hZ228 e370 Ar437 (j := (8 : Int32)) in437 (g := (mkF m 202 #[.val (.int q0), .val (.int q1), .val (.int q2), .val (.int q3), .val (.int q4), .val (.int nv), .val (.int (1 : Int32)), .val (.ref x228), .val (.int (q4 &&& (255 : Int32))), .val (.ref b231), .unset, .unset, .unset, .unset] [(.int (q3 &&& (255 : Int32))), (.int (8 : Int32)), (.ref b231)])) rfl rfl (hb hby at_202)
        rw [show nar .char (q3 &&& (255 : Int32)) = (q3 &&& (255 : Int32)) from i2c_mask _] at W437
        have f438 := (Exa.wr W370 f371)
        have CR439 := CR372.trans (CHr.wr W437 (Safe.exa hZ228.alike f438 (by decide) (by decide)) CR372.1)
        have hk440 := Nat.le_trans hk373 (Keep.of_wr W437).1
        have O441 := O374.wr W437 ge_b231
        have N442 := Fr.snoc X437 N375 ge_b231
        have F437 : Arv Z h437 b231 k231 .char (10 : Int32) [(.int (45 : Int32)), (.int (105 : Int32)), (.int (110 : Int32)), (.int (102 : Int32)), (.int (105 : Int32)), (.int (110 : Int32)), (.int (105 : Int32)), (.int (116 : Int32)), (.int (q3 &&& (255 : Int32))), (.int (q4 &&& (255 : Int32)))] (.int (0 : Int32)) := Arv.set Ar437 q437 Sz437 Nn437 Hh437 Gg437 (by rw [← (i2c_mask _ : nar .char (q3 &&& (255 : Int32)) = (q3 &&& (255 : Int32)))]; exact fits_nar_char _) W437 8 rfl (Nat.le_of_ble_eq_true rfl)
        have S443 : ∀ t, Steps p.tables e below (T437.setTop (mkF m 203 #[.val (.int q0), .val (.int q1), .val (.int q2), .val (.int q3), .val (.int q4), .val (.int nv), .val (.int (1 : Int32)), .val (.ref x228), .val (.int (q4 &&& (255 : Int32))), .val (.ref b231), .unset, .unset, .unset, .unset] [])) t → Steps p.tables e below (s₁.setTop (mkF m 0 #[.val (.int q0), .val (.int q1), .val (.int q2), .val (.int q3), .val (.int q4), .unset, .unset, .unset, .unset, .unset, .unset, .unset, .unset, .unset] [])) t := by
          intro t kt
          refine S380 t ?_
          refine XS.iloadN X370.here hx rfl (hb hby at_196) rfl ?_
          refine XS.sipush X370.here hx rfl (hb hby at_197) ?_
          refine XS.iand X370.here hx rfl (hb hby at_200) rfl ?_
          refine XS.i2c X370.here hx rfl (hb hby at_201) rfl ?_
          change Steps p.tables e below (T370.setTop (mkF m 202 #[.val (.int q0), .val (.int q1), .val (.int q2), .val (.int q3), .val (.int q4), .val (.int nv), .val (.int (1 : Int32)), .val (.ref x228), .val (.int (q4 &&& (255 : Int32))), .val (.ref b231), .unset, .unset, .unset, .unset] [(.int ((q3 &&& (255 : Int32)).toUInt32.toUInt16.toUInt32.toInt32)), (.int (8 : Int32)), (.ref b231)])) _
          rw [i2c_mask]
          show Steps p.tables e below (T370.setTop (mkF m 202 #[.val (.int q0), .val (.int q1), .val (.int q2), .val (.int q3), .val (.int q4), .val (.int nv), .val (.int (1 : Int32)), .val (.ref x228), .val (.int (q4 &&& (255 : Int32))), .val (.ref b231), .unset, .unset, .unset, .unset] [(.int (q3 &&& (255 : Int32))), (.int (8 : Int32)), (.ref b231)])) _
          refine st437 _ ?_
          exact kt
        obtain ⟨s₂, o, t1, t2, t3, t4⟩ := rm_tail l Z a0 hw q0 q1 q2 q3 q4 nv (1 : Int32) x228 (q4 &&& (255 : Int32)) b231 k231 (45 : Int32) (105 : Int32) (110 : Int32) (102 : Int32) (105 : Int32) (110 : Int32) (105 : Int32) (116 : Int32) (q3 &&& (255 : Int32)) (q4 &&& (255 : Int32)) zc h437 n0 O441 hn F437 ⟨by decide, by decide⟩ ⟨by decide, by decide⟩ ⟨by decide, by decide⟩ ⟨by decide, by decide⟩ ⟨by decide, by decide⟩ ⟨by decide, by decide⟩ ⟨by decide, by decide⟩ ⟨by decide, by decide⟩ (own_lat _) (own_lat _) S_C hzc X437 hx hZ228 hby hml ho228 Bd.returns (BodyLoose.notSynchronized Bd) e437 N442 hS228 hk440 (by rw [hh]; exact CR439)
        exact ⟨s₂, o, pre0 _ (S443 _ t1), t2, t3, t4⟩
      · obtain ⟨cl444, Ar444, q444, Sz444, Nn444, Hh444, Gg444⟩ := id F370
        have in444 : ¬ ((9 : Int32) < 0 ∨ cl444.slots.size ≤ ((9 : Int32)).toNatClampNeg) := inb_of Sz444 ⟨by decide, by decide⟩
        obtain ⟨T444, h444, X444, e444, W444, st444⟩ := stC X370 hx hZ228 e370 Ar444 (j := (9 : Int32)) in444 (g := (mkF m 202 #[.val (.int q0), .val (.int q1), .val (.int q2), .val (.int q3), .val (.int q4), .val (.int nv), .val (.int (1 : Int32)), .val (.ref x228), .val (.int (q4 &&& (255 : Int32))), .val (.ref b231), .unset, .unset, .unset, .unset] [(.int (q3 &&& (255 : Int32))), (.int (9 : Int32)), (.ref b231)])) rfl rfl (hb hby at_202)
        rw [show nar .char (q3 &&& (255 : Int32)) = (q3 &&& (255 : Int32)) from i2c_mask _] at W444
        have f445 := (Exa.wr W370 f371)
        have CR446 := CR372.trans (CHr.wr W444 (Safe.exa hZ228.alike f445 (by decide) (by decide)) CR372.1)
        have hk447 := Nat.le_trans hk373 (Keep.of_wr W444).1
        have O448 := O374.wr W444 ge_b231
        have N449 := Fr.snoc X444 N375 ge_b231
        have F444 : Arv Z h444 b231 k231 .char (10 : Int32) [(.int (45 : Int32)), (.int (105 : Int32)), (.int (110 : Int32)), (.int (102 : Int32)), (.int (105 : Int32)), (.int (110 : Int32)), (.int (105 : Int32)), (.int (116 : Int32)), (.int (121 : Int32)), (.int (q3 &&& (255 : Int32)))] (.int (0 : Int32)) := Arv.set Ar444 q444 Sz444 Nn444 Hh444 Gg444 (by rw [← (i2c_mask _ : nar .char (q3 &&& (255 : Int32)) = (q3 &&& (255 : Int32)))]; exact fits_nar_char _) W444 9 rfl (Nat.le_of_ble_eq_true rfl)
        have S450 : ∀ t, Steps p.tables e below (T444.setTop (mkF m 203 #[.val (.int q0), .val (.int q1), .val (.int q2), .val (.int q3), .val (.int q4), .val (.int nv), .val (.int (1 : Int32)), .val (.ref x228), .val (.int (q4 &&& (255 : Int32))), .val (.ref b231), .unset, .unset, .unset, .unset] [])) t → Steps p.tables e below (s₁.setTop (mkF m 0 #[.val (.int q0), .val (.int q1), .val (.int q2), .val (.int q3), .val (.int q4), .unset, .unset, .unset, .unset, .unset, .unset, .unset, .unset, .unset] [])) t := by
          intro t kt
          refine S380 t ?_
          refine XS.iloadN X370.here hx rfl (hb hby at_196) rfl ?_
          refine XS.sipush X370.here hx rfl (hb hby at_197) ?_
          refine XS.iand X370.here hx rfl (hb hby at_200) rfl ?_
          refine XS.i2c X370.here hx rfl (hb hby at_201) rfl ?_
          change Steps p.tables e below (T370.setTop (mkF m 202 #[.val (.int q0), .val (.int q1), .val (.int q2), .val (.int q3), .val (.int q4), .val (.int nv), .val (.int (1 : Int32)), .val (.ref x228), .val (.int (q4 &&& (255 : Int32))), .val (.ref b231), .unset, .unset, .unset, .unset] [(.int ((q3 &&& (255 : Int32)).toUInt32.toUInt16.toUInt32.toInt32)), (.int (9 : Int32)), (.ref b231)])) _
          rw [i2c_mask]
          show Steps p.tables e below (T370.setTop (mkF m 202 #[.val (.int q0), .val (.int q1), .val (.int q2), .val (.int q3), .val (.int q4), .val (.int nv), .val (.int (1 : Int32)), .val (.ref x228), .val (.int (q4 &&& (255 : Int32))), .val (.ref b231), .unset, .unset, .unset, .unset] [(.int (q3 &&& (255 : Int32))), (.int (9 : Int32)), (.ref b231)])) _
          refine st444 _ ?_
          exact kt
        obtain ⟨s₂, o, t1, t2, t3, t4⟩ := rm_tail l Z a0 hw q0 q1 q2 q3 q4 nv (1 : Int32) x228 (q4 &&& (255 : Int32)) b231 k231 (45 : Int32) (105 : Int32) (110 : Int32) (102 : Int32) (105 : Int32) (110 : Int32) (105 : Int32) (116 : Int32) (121 : Int32) (q3 &&& (255 : Int32)) zc h444 n0 O448 hn F444 ⟨by decide, by decide⟩ ⟨by decide, by decide⟩ ⟨by decide, by decide⟩ ⟨by decide, by decide⟩ ⟨by decide, by decide⟩ ⟨by decide, by decide⟩ ⟨by decide, by decide⟩ ⟨by decide, by decide⟩ ⟨by decide, by decide⟩ (own_lat _) S_C hzc X444 hx hZ228 hby hml ho228 Bd.returns (BodyLoose.notSynchronized Bd) e444 N449 hS228 hk447 (by rw [hh]; exact CR446)
        exact ⟨s₂, o, pre0 _ (S450 _ t1), t2, t3, t4⟩
set_option maxRecDepth 65536 in
set_option maxHeartbeats 40000000 in
theorem comes_1 {Post : Tables → Env → Array Value → State → Outcome → State → Prop} (hpost : ∀ tb e args s v u, (limb_1_1.after args s (.returned v) u = true ∧ limb_1_2.after args s (.returned v) u = true ∧ True) → ReturnedEndW s (.returned v) u (Jvm.fieldLocs frame_1_writes args s ++ Jvm.arrayLocs frame_1_arrays args s ++ Jvm.staticLocs frame_1_statics s) 24 4288 → Post tb e args s (.returned v) u) :
    ArmFor flags0 classFile x code maxLocals ret World_1 tables_1 room_1 Calls_1 rest_1 Pre_1 Post := by
  intro l hfl _ _ p e ha hc hk s m args below hf hA hF happ hP
  obtain ⟨hcalls, hrest, hpre⟩ := hP
  obtain ⟨-, -, -, hnamed, -, -, -, hat⟩ := (Spec.applies_iff hf).mp happ
  obtain ⟨hg, hn⟩ := and_e (Cond.before_iff.mp (show (Jvm.Cond.and given_1 narrow_1).before args s = true from hpre))
  obtain ⟨g0, r0⟩ := and_e hg
  obtain ⟨g1, r1⟩ := and_e r0
  obtain ⟨g2, r2⟩ := and_e r1
  obtain ⟨g3, r3⟩ := and_e r2
  obtain ⟨g4, r4⟩ := and_e r3
  obtain ⟨w0, w1, w2, w3, w4, rfl⟩ : ∃ w0 w1 w2 w3 w4 : Value, args = #[w0, w1, w2, w3, w4] := by
    have hs : args.size = 5 := by simpa [Cond.value, given_1] using g0
    obtain ⟨L⟩ := args
    match L, hs with
    | [w0, w1, w2, w3, w4], _ => exact ⟨w0, w1, w2, w3, w4, rfl⟩
  have hw := fun d (hd : d ∈ tables_1) => atoms_spec (ws := Jvm.Cond.code x code maxLocals ret :: tables_1) hat d (List.mem_cons_of_mem _ hd)
  have hfit : Fit s := fun {y c} hc i hi => by
    obtain ⟨ha, rfl⟩ := Array.getElem?_eq_some_iff.mp hc
    have q := List.all_eq_true.mp ((Array.all_eq_true_iff_forall_mem.mp hF) _ (Array.getElem_mem ha)) i (List.mem_range.mpr hi)
    simpa [Array.getElem?_eq_getElem hi] using q
  obtain ⟨i0, e0⟩ := is_v g1
  obtain rfl : w0 = (.int i0) := Option.some.inj e0
  obtain ⟨i1, e1⟩ := is_v g2
  obtain rfl : w1 = (.int i1) := Option.some.inj e1
  obtain ⟨i2, e2⟩ := is_v g3
  obtain rfl : w2 = (.int i2) := Option.some.inj e2
  obtain ⟨i3, e3⟩ := is_v g4
  obtain rfl : w3 = (.int i3) := Option.some.inj e3
  obtain ⟨i4, e4⟩ := is_v r4
  obtain rfl : w4 = (.int i4) := Option.some.inj e4
  obtain ⟨hsets, hown0⟩ := atoms_of _ (rest_1_c_eq ▸ (show rest_1_c.before _ s = true from hrest))
  obtain ⟨zc, ezc⟩ := is_v (Cond.before_iff.mp (hsets _ (List.mem_of_getElem? (i := 1) rfl)))
  have S_C : Sta s s.heap "java/lang/String" "COMPACT_STRINGS" "Z" (.int zc) := Sta.start ezc (Or.inl (hsets _ (List.mem_of_getElem? (i := 0) rfl)))
  have hcw : Jvm.Lit.compactW.before _ s = true := hsets _ (List.mem_of_getElem? (i := 2) rfl)
  have n3 := not_v (Cond.before_iff.mp (hsets _ (List.mem_of_getElem? (i := 2) rfl)))
  have hzc : ¬ (zc = (0 : Int32)) := gotF (Cond.eq_ints ezc (Term.int_eval (0))) n3
  obtain ⟨fm, efm, hfm⟩ := isR_v (Cond.before_iff.mp (hsets _ (List.mem_of_getElem? (i := 8) rfl)))
  have S_F : Sta s s.heap "jdk/internal/util/Preconditions" "SIOOBE_FORMATTER" "Ljava/util/function/BiFunction;" fm := Sta.start efm (Or.inl (hsets _ (List.mem_of_getElem? (i := 7) rfl)))
  have hch : CHv s own_EL s.vm s.heap := CHv.start (own_EWof hw) (fun p hp => hcalls.1 p (own_sub p hp)) hcw (hw _ (own_atoms _ (by simp [Bundle.stringAtoms]))) (hw _ (own_atoms _ (by simp [Bundle.stringAtoms, Bundle.sN])))
  obtain ⟨n, o, h1, h2, h3, _, L, rfl, ⟨rfl, N⟩, hC, hq⟩ := rm_law l s _ hw tables_1 i0 i1 i2 i3 i4 zc fm s.heap s.heap.size (Old.start s) S_C hzc S_F hfm p e ha hc hk s m _ below hf ((Spec.applies_iff_loose hf).mp happ).1 ⟨rfl, State.Warmed39.refl s, rfl, hch, all0⟩ trivial
  refine ⟨n, _, h1, h2, h3, hpost _ _ _ _ _ _ ⟨Cond.after_iff.mpr rfl, Cond.after_iff.mpr (eq_i res_at (Term.int_eval (1)) rfl), trivial⟩ ⟨hq.1, hq.2.1, hq.2.2.1, (hq.2.2.2.sift fun y hy => Or.inr (N y hy)).mono (by decide) (by decide)⟩⟩
theorem main_1_1 : Claimed_1_1 := comes_1 fun _ _ _ _ _ _ h hF => ⟨h.1, hF⟩
theorem main_1_2 : Claimed_1_2 := comes_1 fun _ _ _ _ _ _ h hF => ⟨h.2.1, hF⟩
end Jvm.Pilot.@@N@@
namespace Jvm.Pilot.@@N@@
open Jvm Jvm.ClassFile Sem Op Lib Jvm.Free Jvm.Stand Jvm.Pilot.@@N@@.Jvm.D
/-! MADE BY PROGRAM (witnessworld.py) out of the Statement's table words and the real class files: 20 classes; the members and pool entries that the words name. The judged class is class 1, her method 1. -/
namespace start1
open Jvm.ClassFile
def u (s : String) : CpInfo := .utf8 (stringToUtf16 s)
/-- a pool by its gaps: so many unusable entries, then the entry; so many at the end -/
def gap : Nat → List CpInfo → List CpInfo
  | 0, r => r
  | n + 1, r => .unusable :: gap n r
def poolList (es : List (Nat × CpInfo)) (last : Nat) : List CpInfo := es.foldr (fun e r => gap e.1 (e.2 :: r)) (gap last [])
def pool (es : List (Nat × CpInfo)) (last : Nat) : Array CpInfo := ⟨poolList es last⟩
def fileOf (pool : Array CpInfo) (this : Nat) (attrs : Array Attribute := #[]) (ms : Array MethodInfo := #[]) (fl : Nat := 33) (sup : Nat := 0) (ifs : Array Nat := #[]) (fds : Array FieldInfo := #[]) : ClassFile where
  minorVersion := 0
  majorVersion := 65
  constantPool := pool
  accessFlags := fl
  thisClass := this
  superClass := sup
  interfaces := ifs
  fields := fds
  methods := ms
  attributes := attrs
def plain (name : String) (sup : Option ClassId) : Class where
  name := name
  kind := .ordinary
  loader := none
  accessFlags := 33
  super := sup
  interfaces := #[]
  cf := none
  fields := #[]
  methods := #[]
  instanceTypes := #[]
  staticTypes := #[]
  resolved := #[]
  callSites := []
  init := .initialized
  statics := none
  mirror := none

def pool0 : Array CpInfo := pool [(5, u "<init>"), (0, u "()V"), (1, .class_ 10), (1, u "java/lang/Object")] 113

def k0c0 : Code := { maxStack := 0, maxLocals := 1, code := object_method_1_code, exceptionTable := #[], attributes := #[] }
def k0m0 : Method := { name := "<init>", desc := "()V", sig := { parameters := [], returnType := none }, accessFlags := 1, code := some k0c0 }
/-- java/lang/Object -/
def k0 : Class := { plain "java/lang/Object" none with
  accessFlags := 33
  interfaces := #[]
  cf := some (fileOf pool0 8 #[] #[{ accessFlags := 1, nameIndex := 5, descriptorIndex := 6, attributes := #[] }] 33 0 #[] #[])
  fields := #[]
  methods := #[k0m0]
  instanceTypes := #[]
  staticTypes := #[]
  resolved := Array.replicate 124 none
  statics := none }

def pool1 : Array CpInfo := pool [(2, .class_ 4), (1, u "java/lang/Object"), (0, u "<init>"), (0, u "()V"), (0, .integer 2147483647), (0, .string 9), (0, u "-infinity"), (0, .string 11), (0, u "infinity"), (0, .methodref 13 14), (0, .class_ 15), (0, .nameAndType 16 17), (0, u "com/example/logtide/logtide/event/TemporalTextIsInfinitePinLaw"), (0, u "at"), (0, u "(Ljava/lang/String;IC)C"), (0, .methodref 13 19), (0, .nameAndType 20 21), (0, u "cut"), (0, u "([CI)[C"), (0, .class_ 23), (0, u "java/lang/String"), (0, .methodref 22 25), (0, .nameAndType 5 26), (0, u "([C)V"), (0, .methodref 28 29), (0, .class_ 30), (0, .nameAndType 31 32), (0, u "com/example/logtide/logtide/event/TemporalText"), (0, u "isInfinite"), (0, u "(Ljava/lang/String;)Z"), (0, .methodref 22 34), (0, .nameAndType 35 36), (0, u "length"), (0, u "()I"), (0, .methodref 22 38), (0, .nameAndType 39 40), (0, u "charAt"), (0, u "(I)C"), (2, u "law"), (0, u "(IIIII)Z")] 5

def k1m0 : Method := { name := "<init>", desc := "()V", sig := { parameters := [], returnType := none }, accessFlags := 1, code := none }
def k1c1 : Code := { maxStack := 5, maxLocals := 14, code := code, exceptionTable := #[], attributes := #[] }
def k1m1 : Method := { name := "law", desc := "(IIIII)Z", sig := { parameters := [.int, .int, .int, .int, .int], returnType := some .boolean }, accessFlags := 9, code := some k1c1 }
def k1c2 : Code := { maxStack := 2, maxLocals := 3, code := method_3_code, exceptionTable := #[], attributes := #[] }
def k1m2 : Method := { name := "at", desc := "(Ljava/lang/String;IC)C", sig := { parameters := [(.object "java/lang/String"), .int, .char], returnType := some .char }, accessFlags := 10, code := some k1c2 }
def k1c3 : Code := { maxStack := 5, maxLocals := 2, code := method_4_code, exceptionTable := #[], attributes := #[] }
def k1m3 : Method := { name := "cut", desc := "([CI)[C", sig := { parameters := [(.array .char), .int], returnType := some (.array .char) }, accessFlags := 10, code := some k1c3 }
/-- com/example/logtide/logtide/event/TemporalTextIsInfinitePinLaw -/
def k1 : Class := { plain "com/example/logtide/logtide/event/TemporalTextIsInfinitePinLaw" (some 0) with
  accessFlags := 49
  interfaces := #[]
  cf := some (fileOf pool1 13 #[] #[{ accessFlags := 1, nameIndex := 5, descriptorIndex := 6, attributes := #[] }, { accessFlags := 9, nameIndex := 43, descriptorIndex := 44, attributes := #[] }, { accessFlags := 10, nameIndex := 16, descriptorIndex := 17, attributes := #[] }, { accessFlags := 10, nameIndex := 20, descriptorIndex := 21, attributes := #[] }] 49 2 #[] #[])
  fields := #[]
  methods := #[k1m0, k1m1, k1m2, k1m3]
  instanceTypes := #[]
  staticTypes := #[]
  resolved := Array.replicate 50 none
  statics := none }

def pool2 : Array CpInfo := pool [(1, .class_ 2), (0, u "java/io/Serializable"), (0, .class_ 4), (0, u "java/lang/Object")] 2

/-- java/io/Serializable -/
def k2 : Class := { plain "java/io/Serializable" (some 0) with
  accessFlags := 1537
  interfaces := #[]
  cf := some (fileOf pool2 1 #[] #[] 1537 3 #[] #[])
  fields := #[]
  methods := #[]
  instanceTypes := #[]
  staticTypes := #[]
  resolved := Array.replicate 7 none
  statics := none }

def pool3 : Array CpInfo := pool [(1, .class_ 2), (0, u "java/lang/Comparable"), (0, .class_ 4), (0, u "java/lang/Object")] 7

/-- java/lang/Comparable -/
def k3 : Class := { plain "java/lang/Comparable" (some 0) with
  accessFlags := 1537
  interfaces := #[]
  cf := some (fileOf pool3 1 #[] #[] 1537 3 #[] #[])
  fields := #[]
  methods := #[]
  instanceTypes := #[]
  staticTypes := #[]
  resolved := Array.replicate 12 none
  statics := none }

def pool4 : Array CpInfo := pool [(2, .class_ 4), (1, u "java/lang/CharSequence"), (42, .class_ 48), (0, u "java/lang/CharSequence$1CodePointIterator"), (10, .class_ 60), (0, u "java/lang/CharSequence$1CharIterator"), (5, .class_ 67), (0, u "java/lang/Object")] 63

/-- java/lang/CharSequence -/
def k4 : Class := { plain "java/lang/CharSequence" (some 0) with
  accessFlags := 1537
  interfaces := #[]
  cf := some (fileOf pool4 2 #[.nestMembers #[47, 59]] #[] 1537 66 #[] #[])
  fields := #[]
  methods := #[]
  instanceTypes := #[]
  staticTypes := #[]
  resolved := Array.replicate 131 none
  statics := none }

def pool5 : Array CpInfo := pool [(1, .class_ 2), (0, u "java/lang/constant/Constable"), (0, .class_ 4), (0, u "java/lang/Object")] 6

/-- java/lang/constant/Constable -/
def k5 : Class := { plain "java/lang/constant/Constable" (some 0) with
  accessFlags := 1537
  interfaces := #[]
  cf := some (fileOf pool5 1 #[] #[] 1537 3 #[] #[])
  fields := #[]
  methods := #[]
  instanceTypes := #[]
  staticTypes := #[]
  resolved := Array.replicate 11 none
  statics := none }

def pool6 : Array CpInfo := pool [(1, .class_ 2), (0, u "java/lang/constant/ConstantDesc"), (0, .class_ 4), (0, u "java/lang/Object")] 32

/-- java/lang/constant/ConstantDesc -/
def k6 : Class := { plain "java/lang/constant/ConstantDesc" (some 0) with
  accessFlags := 1537
  interfaces := #[]
  cf := some (fileOf pool6 1 #[] #[] 1537 3 #[] #[])
  fields := #[]
  methods := #[]
  instanceTypes := #[]
  staticTypes := #[]
  resolved := Array.replicate 37 none
  statics := none }

def pool7 : Array CpInfo := pool [(1, .methodref 2 3), (0, .class_ 4), (0, .nameAndType 5 6), (0, u "java/lang/Object"), (0, u "<init>"), (0, u "()V"), (2, .fieldref 10 11), (0, .class_ 12), (0, .nameAndType 13 14), (0, u "java/lang/String"), (0, u "value"), (0, u "[B"), (0, .fieldref 10 16), (0, .nameAndType 17 18), (0, u "coder"), (0, u "B"), (2, u "hash"), (0, u "I"), (2, u "hashIsZero"), (0, u "Z"), (0, .methodref 10 28), (0, .nameAndType 5 29), (0, u "([CIILjava/lang/Void;)V"), (8, .fieldref 10 39), (0, .nameAndType 40 26), (0, u "COMPACT_STRINGS"), (1, .class_ 44), (1, u "java/lang/StringUTF16"), (0, u "compress"), (1, .methodref 42 48), (0, .nameAndType 49 50), (0, u "coderFromArrayLen"), (0, u "([BI)B"), (56, .class_ 109), (1, u "java/lang/StringLatin1"), (32, u "()Z"), (34, .methodref 42 178), (0, .nameAndType 45 179), (0, u "([CII)[B"), (154, u "()I"), (0, .methodref 10 336), (0, .nameAndType 17 337), (0, u "()B"), (25, u "([BI)C"), (27, u "(II)V"), (35, u "(I)C"), (64, .methodref 10 493), (0, .nameAndType 494 142), (0, u "isLatin1"), (0, .methodref 107 496), (0, .nameAndType 497 363), (0, u "charAt"), (3, u "checkIndex"), (5, u "length"), (33, .methodref 107 542), (0, .nameAndType 543 544), (0, u "equals"), (0, u "([B[B)Z"), (28, u "(Ljava/lang/Object;)Z"), (1, .class_ 576), (0, u "java/lang/CharSequence"), (22, u "CASE_INSENSITIVE_ORDER"), (0, u "Ljava/util/Comparator;"), (409, u "([C)V"), (42, .fieldref 1054 1055), (0, .class_ 1056), (0, .nameAndType 1057 1058), (0, u "jdk/internal/util/Preconditions"), (0, u "SIOOBE_FORMATTER"), (0, u "Ljava/util/function/BiFunction;"), (0, .methodref 1054 1060), (0, .nameAndType 501 1061), (0, u "(IILjava/util/function/BiFunction;)I"), (39, u "serialPersistentFields"), (0, u "[Ljava/io/ObjectStreamField;"), (0, .class_ 1104), (0, u "java/lang/String$CaseInsensitiveComparator"), (1, .class_ 1107), (0, u "java/io/Serializable"), (0, .class_ 1109), (0, u "java/lang/Comparable"), (0, .class_ 1111), (0, u "java/lang/constant/Constable"), (0, .class_ 1113), (0, u "java/lang/constant/ConstantDesc"), (2, u "serialVersionUID"), (0, u "J"), (3, u "REPL"), (0, u "C"), (2, u "LATIN1"), (1, u "UTF16")] 323

def k7m0 : Method := { name := "<init>", desc := "()V", sig := { parameters := [], returnType := none }, accessFlags := 1, code := none }
def k7c1 : Code := { maxStack := 5, maxLocals := 2, code := jdk_42_method_3_code, exceptionTable := #[], attributes := #[] }
def k7m1 : Method := { name := "<init>", desc := "([C)V", sig := { parameters := [(.array .char)], returnType := none }, accessFlags := 1, code := some k7c1 }
def k7c2 : Code := { maxStack := 2, maxLocals := 1, code := jdk_42_method_54_code, exceptionTable := #[], attributes := #[] }
def k7m2 : Method := { name := "length", desc := "()I", sig := { parameters := [], returnType := some .int }, accessFlags := 1, code := some k7c2 }
def k7c3 : Code := { maxStack := 2, maxLocals := 2, code := jdk_42_method_56_code, exceptionTable := #[], attributes := #[] }
def k7m3 : Method := { name := "charAt", desc := "(I)C", sig := { parameters := [.int], returnType := some .char }, accessFlags := 1, code := some k7c3 }
def k7c4 : Code := { maxStack := 2, maxLocals := 3, code := jdk_42_method_66_code, exceptionTable := #[], attributes := #[] }
def k7m4 : Method := { name := "equals", desc := "(Ljava/lang/Object;)Z", sig := { parameters := [(.object "java/lang/Object")], returnType := some .boolean }, accessFlags := 1, code := some k7c4 }
def k7c5 : Code := { maxStack := 4, maxLocals := 6, code := jdk_42_method_149_code, exceptionTable := #[], attributes := #[] }
def k7m5 : Method := { name := "<init>", desc := "([CIILjava/lang/Void;)V", sig := { parameters := [(.array .char), .int, .int, (.object "java/lang/Void")], returnType := none }, accessFlags := 2, code := some k7c5 }
def k7c6 : Code := { maxStack := 1, maxLocals := 1, code := jdk_42_method_152_code, exceptionTable := #[], attributes := #[] }
def k7m6 : Method := { name := "coder", desc := "()B", sig := { parameters := [], returnType := some .byte }, accessFlags := 0, code := some k7c6 }
def k7c7 : Code := { maxStack := 1, maxLocals := 1, code := jdk_42_method_154_code, exceptionTable := #[], attributes := #[] }
def k7m7 : Method := { name := "isLatin1", desc := "()Z", sig := { parameters := [], returnType := some .boolean }, accessFlags := 0, code := some k7c7 }
def k7c8 : Code := { maxStack := 3, maxLocals := 2, code := jdk_42_method_155_code, exceptionTable := #[], attributes := #[] }
def k7m8 : Method := { name := "checkIndex", desc := "(II)V", sig := { parameters := [.int, .int], returnType := none }, accessFlags := 8, code := some k7c8 }
/-- java/lang/String -/
def k7 : Class := { plain "java/lang/String" (some 0) with
  accessFlags := 49
  interfaces := #[2, 3, 4, 5, 6]
  cf := some (fileOf pool7 10 #[.nestMembers #[1103]] #[{ accessFlags := 1, nameIndex := 5, descriptorIndex := 6, attributes := #[] }, { accessFlags := 1, nameIndex := 5, descriptorIndex := 1010, attributes := #[] }, { accessFlags := 1, nameIndex := 507, descriptorIndex := 334, attributes := #[] }, { accessFlags := 1, nameIndex := 497, descriptorIndex := 427, attributes := #[] }, { accessFlags := 1, nameIndex := 543, descriptorIndex := 573, attributes := #[] }, { accessFlags := 2, nameIndex := 5, descriptorIndex := 29, attributes := #[] }, { accessFlags := 0, nameIndex := 17, descriptorIndex := 337, attributes := #[] }, { accessFlags := 0, nameIndex := 494, descriptorIndex := 142, attributes := #[] }, { accessFlags := 8, nameIndex := 501, descriptorIndex := 391, attributes := #[] }] 49 2 #[1106, 1108, 575, 1110, 1112] #[{ accessFlags := 18, nameIndex := 13, descriptorIndex := 14, attributes := #[] }, { accessFlags := 18, nameIndex := 17, descriptorIndex := 18, attributes := #[] }, { accessFlags := 2, nameIndex := 21, descriptorIndex := 22, attributes := #[] }, { accessFlags := 2, nameIndex := 25, descriptorIndex := 26, attributes := #[] }, { accessFlags := 26, nameIndex := 1116, descriptorIndex := 1117, attributes := #[] }, { accessFlags := 24, nameIndex := 40, descriptorIndex := 26, attributes := #[] }, { accessFlags := 26, nameIndex := 1101, descriptorIndex := 1102, attributes := #[] }, { accessFlags := 26, nameIndex := 1121, descriptorIndex := 1122, attributes := #[] }, { accessFlags := 25, nameIndex := 599, descriptorIndex := 600, attributes := #[] }, { accessFlags := 24, nameIndex := 1125, descriptorIndex := 18, attributes := #[] }, { accessFlags := 24, nameIndex := 1127, descriptorIndex := 18, attributes := #[] }])
  fields := #[{ name := "value", type := (.array .byte), accessFlags := 18, slot := 0, constantValue := 0 }, { name := "coder", type := .byte, accessFlags := 18, slot := 1, constantValue := 0 }, { name := "hash", type := .int, accessFlags := 2, slot := 2, constantValue := 0 }, { name := "hashIsZero", type := .boolean, accessFlags := 2, slot := 3, constantValue := 0 }, { name := "serialVersionUID", type := .long, accessFlags := 26, slot := 0, constantValue := 0 }, { name := "COMPACT_STRINGS", type := .boolean, accessFlags := 24, slot := 1, constantValue := 0 }, { name := "serialPersistentFields", type := (.array (.object "java/io/ObjectStreamField")), accessFlags := 26, slot := 2, constantValue := 0 }, { name := "REPL", type := .char, accessFlags := 26, slot := 3, constantValue := 0 }, { name := "CASE_INSENSITIVE_ORDER", type := (.object "java/util/Comparator"), accessFlags := 25, slot := 4, constantValue := 0 }, { name := "LATIN1", type := .byte, accessFlags := 24, slot := 5, constantValue := 0 }, { name := "UTF16", type := .byte, accessFlags := 24, slot := 6, constantValue := 0 }]
  methods := #[k7m0, k7m1, k7m2, k7m3, k7m4, k7m5, k7m6, k7m7, k7m8]
  instanceTypes := #[(.array .byte), .byte, .int, .boolean]
  staticTypes := #[.long, .boolean, (.array (.object "java/io/ObjectStreamField")), .char, (.object "java/util/Comparator"), .byte, .byte]
  resolved := Array.replicate 1451 none
  statics := some 0 }

def pool8 : Array CpInfo := pool [(1, .class_ 2), (0, u "java/lang/String"), (1, .class_ 6), (1, u "java/lang/Object"), (0, u "<init>"), (0, u "()V"), (0, .methodref 1 10), (0, .nameAndType 11 12), (0, u "checkIndex"), (0, u "(II)V"), (1, .class_ 16), (1, u "java/lang/StringLatin1"), (36, u "([BI)C"), (67, u "$assertionsDisabled"), (0, u "Z"), (98, .class_ 223), (1, u "java/lang/StringLatin1$LinesSpliterator"), (28, u "charAt"), (28, u "equals"), (0, u "([B[B)Z"), (107, .class_ 391), (0, u "java/lang/StringLatin1$CharsSpliterator")] 3

def k8m0 : Method := { name := "<init>", desc := "()V", sig := { parameters := [], returnType := none }, accessFlags := 0, code := none }
def k8c1 : Code := { maxStack := 2, maxLocals := 2, code := jdk_43_method_2_code, exceptionTable := #[], attributes := #[] }
def k8m1 : Method := { name := "charAt", desc := "([BI)C", sig := { parameters := [(.array .byte), .int], returnType := some .char }, accessFlags := 9, code := some k8c1 }
def k8c2 : Code := { maxStack := 3, maxLocals := 3, code := jdk_43_method_13_code, exceptionTable := #[], attributes := #[] }
def k8m2 : Method := { name := "equals", desc := "([B[B)Z", sig := { parameters := [(.array .byte), (.array .byte)], returnType := some .boolean }, accessFlags := 9, code := some k8c2 }
/-- java/lang/StringLatin1 -/
def k8 : Class := { plain "java/lang/StringLatin1" (some 0) with
  accessFlags := 48
  interfaces := #[]
  cf := some (fileOf pool8 14 #[.nestMembers #[390, 221]] #[{ accessFlags := 0, nameIndex := 7, descriptorIndex := 8, attributes := #[] }, { accessFlags := 9, nameIndex := 252, descriptorIndex := 53, attributes := #[] }, { accessFlags := 9, nameIndex := 281, descriptorIndex := 282, attributes := #[] }] 48 4 #[] #[{ accessFlags := 4120, nameIndex := 121, descriptorIndex := 122, attributes := #[] }])
  fields := #[{ name := "$assertionsDisabled", type := .boolean, accessFlags := 4120, slot := 0, constantValue := 0 }]
  methods := #[k8m0, k8m1, k8m2]
  instanceTypes := #[]
  staticTypes := #[.boolean]
  resolved := Array.replicate 395 none
  statics := none }

def pool9 : Array CpInfo := pool [(2, .class_ 4), (1, u "java/lang/Object"), (0, u "<init>"), (0, u "()V"), (17, .class_ 26), (1, u "jdk/internal/util/Preconditions"), (6, u "checkIndex"), (21, .class_ 56), (0, u "jdk/internal/util/Preconditions$4"), (57, .class_ 115), (0, u "jdk/internal/util/Preconditions$1"), (7, u "SIOOBE_FORMATTER"), (0, u "Ljava/util/function/BiFunction;"), (0, .class_ 126), (0, u "jdk/internal/util/Preconditions$2"), (3, u "AIOOBE_FORMATTER"), (0, .class_ 132), (0, u "jdk/internal/util/Preconditions$3"), (3, u "IOOBE_FORMATTER"), (41, u "(IILjava/util/function/BiFunction;)I")] 15

def k9m0 : Method := { name := "<init>", desc := "()V", sig := { parameters := [], returnType := none }, accessFlags := 1, code := none }
def k9c1 : Code := { maxStack := 3, maxLocals := 3, code := jdk_41_method_11_code, exceptionTable := #[], attributes := #[] }
def k9m1 : Method := { name := "checkIndex", desc := "(IILjava/util/function/BiFunction;)I", sig := { parameters := [.int, .int, (.object "java/util/function/BiFunction")], returnType := some .int }, accessFlags := 9, code := some k9c1 }
/-- jdk/internal/util/Preconditions -/
def k9 : Class := { plain "jdk/internal/util/Preconditions" (some 0) with
  accessFlags := 33
  interfaces := #[]
  cf := some (fileOf pool9 24 #[.nestMembers #[55, 131, 125, 114]] #[{ accessFlags := 1, nameIndex := 5, descriptorIndex := 6, attributes := #[] }, { accessFlags := 9, nameIndex := 33, descriptorIndex := 178, attributes := #[] }] 33 2 #[] #[{ accessFlags := 25, nameIndex := 123, descriptorIndex := 124, attributes := #[] }, { accessFlags := 25, nameIndex := 130, descriptorIndex := 124, attributes := #[] }, { accessFlags := 25, nameIndex := 136, descriptorIndex := 124, attributes := #[] }])
  fields := #[{ name := "SIOOBE_FORMATTER", type := (.object "java/util/function/BiFunction"), accessFlags := 25, slot := 0, constantValue := 0 }, { name := "AIOOBE_FORMATTER", type := (.object "java/util/function/BiFunction"), accessFlags := 25, slot := 1, constantValue := 0 }, { name := "IOOBE_FORMATTER", type := (.object "java/util/function/BiFunction"), accessFlags := 25, slot := 2, constantValue := 0 }]
  methods := #[k9m0, k9m1]
  instanceTypes := #[]
  staticTypes := #[(.object "java/util/function/BiFunction"), (.object "java/util/function/BiFunction"), (.object "java/util/function/BiFunction")]
  resolved := Array.replicate 194 none
  statics := some 1 }

def pool10 : Array CpInfo := pool [(6, .class_ 8), (1, u "java/lang/Object"), (0, u "<init>"), (0, u "()V"), (1, .class_ 14), (1, u "java/lang/StringUTF16"), (31, u "$assertionsDisabled"), (0, u "Z"), (13, u "HI_BYTE_SHIFT"), (0, u "I"), (2, u "LO_BYTE_SHIFT"), (49, .methodref 12 116), (0, .nameAndType 117 118), (0, u "compress"), (0, u "([CI[BII)I"), (3, u "([CII)[B"), (138, u "coderFromArrayLen"), (0, u "([BI)B"), (106, .class_ 371), (1, u "java/lang/StringUTF16$LinesSpliterator"), (58, u "MAX_LENGTH"), (196, .class_ 628), (0, u "java/lang/StringUTF16$CodePointsSpliterator"), (0, .class_ 630), (0, u "java/lang/StringUTF16$CharsSpliterator")] 4

def k10m0 : Method := { name := "<init>", desc := "()V", sig := { parameters := [], returnType := none }, accessFlags := 0, code := none }
def k10c1 : Code := { maxStack := 2, maxLocals := 2, code := jdk_52_method_15_code, exceptionTable := #[], attributes := #[] }
def k10m1 : Method := { name := "coderFromArrayLen", desc := "([BI)B", sig := { parameters := [(.array .byte), .int], returnType := some .byte }, accessFlags := 8, code := some k10c1 }
def k10c2 : Code := { maxStack := 5, maxLocals := 6, code := jdk_52_method_16_code, exceptionTable := #[], attributes := #[] }
def k10m2 : Method := { name := "compress", desc := "([CII)[B", sig := { parameters := [(.array .char), .int, .int], returnType := some (.array .byte) }, accessFlags := 9, code := some k10c2 }
def k10c3 : Code := { maxStack := 3, maxLocals := 7, code := jdk_52_method_21_code, exceptionTable := #[], attributes := #[] }
def k10m3 : Method := { name := "compress", desc := "([CI[BII)I", sig := { parameters := [(.array .char), .int, (.array .byte), .int, .int], returnType := some .int }, accessFlags := 9, code := some k10c3 }
/-- java/lang/StringUTF16 -/
def k10 : Class := { plain "java/lang/StringUTF16" (some 0) with
  accessFlags := 48
  interfaces := #[]
  cf := some (fileOf pool10 12 #[.nestMembers #[627, 629, 369]] #[{ accessFlags := 0, nameIndex := 9, descriptorIndex := 10, attributes := #[] }, { accessFlags := 8, nameIndex := 261, descriptorIndex := 262, attributes := #[] }, { accessFlags := 9, nameIndex := 117, descriptorIndex := 122, attributes := #[] }, { accessFlags := 9, nameIndex := 117, descriptorIndex := 118, attributes := #[] }] 48 6 #[] #[{ accessFlags := 26, nameIndex := 61, descriptorIndex := 62, attributes := #[] }, { accessFlags := 26, nameIndex := 65, descriptorIndex := 62, attributes := #[] }, { accessFlags := 24, nameIndex := 430, descriptorIndex := 62, attributes := #[] }, { accessFlags := 4120, nameIndex := 46, descriptorIndex := 47, attributes := #[] }])
  fields := #[{ name := "HI_BYTE_SHIFT", type := .int, accessFlags := 26, slot := 0, constantValue := 0 }, { name := "LO_BYTE_SHIFT", type := .int, accessFlags := 26, slot := 1, constantValue := 0 }, { name := "MAX_LENGTH", type := .int, accessFlags := 24, slot := 2, constantValue := 0 }, { name := "$assertionsDisabled", type := .boolean, accessFlags := 4120, slot := 3, constantValue := 0 }]
  methods := #[k10m0, k10m1, k10m2, k10m3]
  instanceTypes := #[]
  staticTypes := #[.int, .int, .int, .boolean]
  resolved := Array.replicate 635 none
  statics := none }

def pool11 : Array CpInfo := pool [(1, .class_ 2), (0, u "com/example/logtide/logtide/event/TemporalText"), (1, .class_ 6), (1, u "java/lang/Object"), (0, u "<init>"), (0, u "()V"), (3, .class_ 14), (1, u "java/lang/String"), (1, u "(Ljava/lang/String;)Z"), (60, u "isInfinite"), (50, .string 129), (0, u "infinity"), (0, .methodref 12 131), (0, .nameAndType 132 133), (0, u "equals"), (0, u "(Ljava/lang/Object;)Z"), (0, .string 135), (0, u "-infinity"), (76, u "INTERVAL"), (0, u "Ljava/util/regex/Pattern;"), (0, u "MICROS_PER_MILLI"), (0, u "J"), (3, u "MICROS_PER_SECOND"), (0, u "MICROS_PER_MINUTE"), (0, u "MICROS_PER_HOUR"), (0, u "MICROS_PER_DAY"), (0, u "MICROS_PER_MONTH"), (2, u "FRACTION_DIGITS"), (0, u "I"), (1, u "ZONED_TIMESTAMP_LENGTH"), (1, u "INFINITY"), (0, u "Ljava/lang/String;"), (0, u "NEGATIVE_INFINITY"), (0, u "BC"), (11, .class_ 247), (0, u "com/example/logtide/logtide/event/TemporalText$Interval")] 20

def k11m0 : Method := { name := "<init>", desc := "()V", sig := { parameters := [], returnType := none }, accessFlags := 2, code := none }
def k11c1 : Code := { maxStack := 2, maxLocals := 1, code := prog_21_method_6_code, exceptionTable := #[], attributes := #[] }
def k11m1 : Method := { name := "isInfinite", desc := "(Ljava/lang/String;)Z", sig := { parameters := [(.object "java/lang/String")], returnType := some .boolean }, accessFlags := 8, code := some k11c1 }
/-- com/example/logtide/logtide/event/TemporalText -/
def k11 : Class := { plain "com/example/logtide/logtide/event/TemporalText" (some 0) with
  accessFlags := 48
  interfaces := #[]
  cf := some (fileOf pool11 1 #[.nestMembers #[246]] #[{ accessFlags := 2, nameIndex := 7, descriptorIndex := 8, attributes := #[] }, { accessFlags := 8, nameIndex := 77, descriptorIndex := 16, attributes := #[] }] 48 4 #[] #[{ accessFlags := 24, nameIndex := 214, descriptorIndex := 215, attributes := #[] }, { accessFlags := 26, nameIndex := 219, descriptorIndex := 215, attributes := #[] }, { accessFlags := 26, nameIndex := 220, descriptorIndex := 215, attributes := #[] }, { accessFlags := 26, nameIndex := 221, descriptorIndex := 215, attributes := #[] }, { accessFlags := 26, nameIndex := 222, descriptorIndex := 215, attributes := #[] }, { accessFlags := 26, nameIndex := 223, descriptorIndex := 215, attributes := #[] }, { accessFlags := 26, nameIndex := 226, descriptorIndex := 227, attributes := #[] }, { accessFlags := 26, nameIndex := 229, descriptorIndex := 227, attributes := #[] }, { accessFlags := 24, nameIndex := 231, descriptorIndex := 232, attributes := #[] }, { accessFlags := 24, nameIndex := 233, descriptorIndex := 232, attributes := #[] }, { accessFlags := 26, nameIndex := 234, descriptorIndex := 232, attributes := #[] }, { accessFlags := 26, nameIndex := 212, descriptorIndex := 213, attributes := #[] }])
  fields := #[{ name := "MICROS_PER_MILLI", type := .long, accessFlags := 24, slot := 0, constantValue := 0 }, { name := "MICROS_PER_SECOND", type := .long, accessFlags := 26, slot := 1, constantValue := 0 }, { name := "MICROS_PER_MINUTE", type := .long, accessFlags := 26, slot := 2, constantValue := 0 }, { name := "MICROS_PER_HOUR", type := .long, accessFlags := 26, slot := 3, constantValue := 0 }, { name := "MICROS_PER_DAY", type := .long, accessFlags := 26, slot := 4, constantValue := 0 }, { name := "MICROS_PER_MONTH", type := .long, accessFlags := 26, slot := 5, constantValue := 0 }, { name := "FRACTION_DIGITS", type := .int, accessFlags := 26, slot := 6, constantValue := 0 }, { name := "ZONED_TIMESTAMP_LENGTH", type := .int, accessFlags := 26, slot := 7, constantValue := 0 }, { name := "INFINITY", type := (.object "java/lang/String"), accessFlags := 24, slot := 8, constantValue := 0 }, { name := "NEGATIVE_INFINITY", type := (.object "java/lang/String"), accessFlags := 24, slot := 9, constantValue := 0 }, { name := "BC", type := (.object "java/lang/String"), accessFlags := 26, slot := 10, constantValue := 0 }, { name := "INTERVAL", type := (.object "java/util/regex/Pattern"), accessFlags := 26, slot := 11, constantValue := 0 }]
  methods := #[k11m0, k11m1]
  instanceTypes := #[]
  staticTypes := #[.long, .long, .long, .long, .long, .long, .int, .int, (.object "java/lang/String"), (.object "java/lang/String"), (.object "java/lang/String"), (.object "java/util/regex/Pattern")]
  resolved := Array.replicate 268 none
  statics := none }

def pool12 : Array CpInfo := pool [(9, u "<init>"), (6, .class_ 18), (1, u "java/lang/Object"), (0, u "()V"), (1, .class_ 23), (1, u "jdk/internal/util/ArraysSupport"), (0, u "LOG2_ARRAY_LONG_INDEX_SCALE"), (0, u "I"), (2, u "U"), (0, u "Ljdk/internal/misc/Unsafe;"), (8, u "BIG_ENDIAN"), (0, u "Z"), (8, u "LOG2_BYTE_BIT_SIZE"), (4, u "LOG2_ARRAY_INT_INDEX_SCALE"), (54, u "JLA"), (0, u "Ljdk/internal/access/JavaLangAccess;"), (11, u "LOG2_ARRAY_BOOLEAN_INDEX_SCALE"), (9, u "LOG2_ARRAY_BYTE_INDEX_SCALE"), (5, u "LOG2_ARRAY_CHAR_INDEX_SCALE"), (5, u "LOG2_ARRAY_SHORT_INDEX_SCALE"), (18, u "LOG2_ARRAY_FLOAT_INDEX_SCALE"), (24, u "LOG2_ARRAY_DOUBLE_INDEX_SCALE"), (89, u "T_BOOLEAN"), (2, u "T_CHAR"), (1, u "T_FLOAT"), (1, u "T_DOUBLE"), (1, u "T_BYTE"), (1, u "T_SHORT"), (1, u "T_INT"), (1, u "T_LONG"), (1, u "SOFT_MAX_ARRAY_LENGTH")] 83

def k12m0 : Method := { name := "<init>", desc := "()V", sig := { parameters := [], returnType := none }, accessFlags := 2, code := none }
/-- jdk/internal/util/ArraysSupport -/
def k12 : Class := { plain "jdk/internal/util/ArraysSupport" (some 0) with
  accessFlags := 33
  interfaces := #[]
  cf := some (fileOf pool12 21 #[] #[{ accessFlags := 2, nameIndex := 9, descriptorIndex := 19, attributes := #[] }] 33 16 #[] #[{ accessFlags := 24, nameIndex := 28, descriptorIndex := 29, attributes := #[] }, { accessFlags := 26, nameIndex := 38, descriptorIndex := 39, attributes := #[] }, { accessFlags := 25, nameIndex := 121, descriptorIndex := 25, attributes := #[] }, { accessFlags := 25, nameIndex := 131, descriptorIndex := 25, attributes := #[] }, { accessFlags := 25, nameIndex := 137, descriptorIndex := 25, attributes := #[] }, { accessFlags := 25, nameIndex := 143, descriptorIndex := 25, attributes := #[] }, { accessFlags := 25, nameIndex := 53, descriptorIndex := 25, attributes := #[] }, { accessFlags := 25, nameIndex := 24, descriptorIndex := 25, attributes := #[] }, { accessFlags := 25, nameIndex := 162, descriptorIndex := 25, attributes := #[] }, { accessFlags := 25, nameIndex := 187, descriptorIndex := 25, attributes := #[] }, { accessFlags := 26, nameIndex := 48, descriptorIndex := 25, attributes := #[] }, { accessFlags := 25, nameIndex := 277, descriptorIndex := 25, attributes := #[] }, { accessFlags := 25, nameIndex := 280, descriptorIndex := 25, attributes := #[] }, { accessFlags := 25, nameIndex := 282, descriptorIndex := 25, attributes := #[] }, { accessFlags := 25, nameIndex := 284, descriptorIndex := 25, attributes := #[] }, { accessFlags := 25, nameIndex := 286, descriptorIndex := 25, attributes := #[] }, { accessFlags := 25, nameIndex := 288, descriptorIndex := 25, attributes := #[] }, { accessFlags := 25, nameIndex := 290, descriptorIndex := 25, attributes := #[] }, { accessFlags := 25, nameIndex := 292, descriptorIndex := 25, attributes := #[] }, { accessFlags := 26, nameIndex := 108, descriptorIndex := 109, attributes := #[] }, { accessFlags := 25, nameIndex := 294, descriptorIndex := 25, attributes := #[] }])
  fields := #[{ name := "U", type := (.object "jdk/internal/misc/Unsafe"), accessFlags := 24, slot := 0, constantValue := 0 }, { name := "BIG_ENDIAN", type := .boolean, accessFlags := 26, slot := 1, constantValue := 0 }, { name := "LOG2_ARRAY_BOOLEAN_INDEX_SCALE", type := .int, accessFlags := 25, slot := 2, constantValue := 0 }, { name := "LOG2_ARRAY_BYTE_INDEX_SCALE", type := .int, accessFlags := 25, slot := 3, constantValue := 0 }, { name := "LOG2_ARRAY_CHAR_INDEX_SCALE", type := .int, accessFlags := 25, slot := 4, constantValue := 0 }, { name := "LOG2_ARRAY_SHORT_INDEX_SCALE", type := .int, accessFlags := 25, slot := 5, constantValue := 0 }, { name := "LOG2_ARRAY_INT_INDEX_SCALE", type := .int, accessFlags := 25, slot := 6, constantValue := 0 }, { name := "LOG2_ARRAY_LONG_INDEX_SCALE", type := .int, accessFlags := 25, slot := 7, constantValue := 0 }, { name := "LOG2_ARRAY_FLOAT_INDEX_SCALE", type := .int, accessFlags := 25, slot := 8, constantValue := 0 }, { name := "LOG2_ARRAY_DOUBLE_INDEX_SCALE", type := .int, accessFlags := 25, slot := 9, constantValue := 0 }, { name := "LOG2_BYTE_BIT_SIZE", type := .int, accessFlags := 26, slot := 10, constantValue := 0 }, { name := "T_BOOLEAN", type := .int, accessFlags := 25, slot := 11, constantValue := 0 }, { name := "T_CHAR", type := .int, accessFlags := 25, slot := 12, constantValue := 0 }, { name := "T_FLOAT", type := .int, accessFlags := 25, slot := 13, constantValue := 0 }, { name := "T_DOUBLE", type := .int, accessFlags := 25, slot := 14, constantValue := 0 }, { name := "T_BYTE", type := .int, accessFlags := 25, slot := 15, constantValue := 0 }, { name := "T_SHORT", type := .int, accessFlags := 25, slot := 16, constantValue := 0 }, { name := "T_INT", type := .int, accessFlags := 25, slot := 17, constantValue := 0 }, { name := "T_LONG", type := .int, accessFlags := 25, slot := 18, constantValue := 0 }, { name := "JLA", type := (.object "jdk/internal/access/JavaLangAccess"), accessFlags := 26, slot := 19, constantValue := 0 }, { name := "SOFT_MAX_ARRAY_LENGTH", type := .int, accessFlags := 25, slot := 20, constantValue := 0 }]
  methods := #[k12m0]
  instanceTypes := #[]
  staticTypes := #[(.object "jdk/internal/misc/Unsafe"), .boolean, .int, .int, .int, .int, .int, .int, .int, .int, .int, .int, .int, .int, .int, .int, .int, .int, .int, (.object "jdk/internal/access/JavaLangAccess"), .int]
  resolved := Array.replicate 378 none
  statics := none }

def pool13 : Array CpInfo := pool [(1, u "java/lang/Cloneable"), (0, .class_ 1), (0, u "java/lang/Object"), (0, .class_ 3)] 3

/-- java/lang/Cloneable -/
def k13 : Class := { plain "java/lang/Cloneable" (some 0) with
  accessFlags := 1537
  interfaces := #[]
  cf := some (fileOf pool13 2 #[] #[] 1537 4 #[] #[])
  fields := #[]
  methods := #[]
  instanceTypes := #[]
  staticTypes := #[]
  resolved := Array.replicate 8 none
  statics := none }

/-- the primitive byte -/
def k14 : Class := { plain "byte" none with kind := .primitive 'B', accessFlags := 0x411 }
/-- [B -/
def k15 : Class := { plain "[B" (some 0) with kind := .array 14 .byte, interfaces := #[13, 2], accessFlags := 1041 }

/-- the primitive char -/
def k16 : Class := { plain "char" none with kind := .primitive 'C', accessFlags := 0x411 }
/-- [C -/
def k17 : Class := { plain "[C" (some 0) with kind := .array 16 .char, interfaces := #[13, 2], accessFlags := 1041 }

/-- the primitive int -/
def k18 : Class := { plain "int" none with kind := .primitive 'I', accessFlags := 0x411 }
/-- [I -/
def k19 : Class := { plain "[I" (some 0) with kind := .array 18 .int, interfaces := #[13, 2], accessFlags := 1041 }

def heap : Heap := #[{ cls := 7, slots := #[.long 0, .int 1, .null, .int 0, .null, .int 0, .int 0], vm := .statics 7 },
  { cls := 9, slots := #[.null, .null, .null], vm := .statics 9 }]
def classes : Array Class := #[k0, k1, k2, k3, k4, k5, k6, k7, k8, k9, k10, k11, k12, k13, k14, k15, k16, k17, k18, k19]
def interned : List (Array UInt16 × Addr) := []
def slotsUsed : Nat := 10
def theMethod : MethodId := ⟨1, 1⟩
def args0 : Array Value := #[.int 5, .int 5, .int 5, .int 5, .int 5]
def aboutOver (below : List Frame) : State where
  vm := { classes := classes, interned := interned.toArray }
  heap := heap
  slotsUsed := slotsUsed
  threads := #[{ frames := .invoking theMethod args0 :: below }]
def below0 : List Frame := [.native { method := ⟨0, 0⟩, args := #[] }]
def about1 : State := aboutOver below0
def p0 : Program := .bare "" "" ""
def e0 : Env := launch0.env 0 0 0
theorem w_frames : about1.frames = Frame.invoking theMethod args0 :: below0 := rfl
set_option maxRecDepth 65536 in
theorem w_args : argsFit about1.vm theMethod args0 = true := by decide +kernel
set_option maxRecDepth 65536 in
theorem w_heap : heapFits about1 = true := by decide +kernel
set_option maxRecDepth 65536 in
theorem w_runnable : about1.curStatus? = some .runnable := by decide +kernel
set_option maxRecDepth 65536 in
theorem w_alone : about1.alone = true := by decide +kernel
set_option maxRecDepth 65536 in
theorem w_named : about1.methodNamed? x = some theMethod := by decide +kernel
set_option maxRecDepth 65536 in
theorem w_hears : about1.hears theMethod below0 = true := by decide +kernel
set_option maxRecDepth 65536 in
theorem w_ripe : about1.ripe theMethod args0 below0 = true := by decide +kernel
theorem w_running : about1.status = .running := rfl
set_option maxRecDepth 65536 in
theorem w_room : about1.hasRoom e0.platform room_1 = true :=
  launch0.hasRoom_least _ room_1 (by decide +kernel) (by decide +kernel) (by decide +kernel) (by decide +kernel) (by decide +kernel) (by decide +kernel)
theorem allAtoms_all (ts : List Jvm.Cond) (a : Array Jvm.Value) (st : Jvm.State) : (allAtoms ts).before a st = ts.all (fun c => c.before a st) := by
  induction ts with
  | nil => rfl
  | cons c t ih =>
    show (Jvm.Cond.and c (allAtoms t)).before a st = _
    rw [Jvm.Cond.before_and, ih, List.all_cons]
def words1 : List Jvm.Cond := Jvm.Cond.code x code maxLocals ret :: tables_1
/-- a 'code' word, met by the world's own term for the bytes: nothing is compared byte by byte -/
theorem code_word {y : MethodName} {bytes : ByteArray} {mx : Nat} {rt : Option FieldType} {a : Array Value} {s : State} {m : MethodId} {meth : Method} {c : Code} (h1 : s.methodNamed? y = some m) (h2 : s.vm.method? m = some meth) (h3 : meth.code = some c) (h4 : c.code = bytes)
    (h5 : (c.maxLocals == mx && c.exceptionTable.isEmpty && decide (c.maxStack ≤ mostOperands) && decide (meth.sig.returnType = rt) && !meth.locks && decide (parseMethodDescriptor y.desc = some meth.sig)) = true) : (Jvm.Cond.code y bytes mx rt).before a s = true := by
  simp only [Bool.and_eq_true, beq_iff_eq, Bool.not_eq_true', decide_eq_true_eq] at h5
  obtain ⟨⟨⟨⟨⟨g1, g2⟩, g3⟩, g4⟩, g5⟩, g6⟩ := h5
  simp [Cond.before, Cond.holds, Cond.value, h1, h2, h3, h4, g1, g2, g3, g4, g5, g6]
def isCode : Jvm.Cond → Bool
  | .code _ _ _ _ => true
  | _ => false
theorem all_split {L : List Jvm.Cond} {P : Jvm.Cond → Bool} (h1 : L.all (fun c => isCode c || P c) = true) (h2 : ∀ c ∈ L.filter isCode, P c = true) : L.all P = true := by
  refine List.all_eq_true.mpr fun c hc => ?_
  have h := List.all_eq_true.mp h1 c hc
  rcases Bool.eq_false_or_eq_true (isCode c) with hi | hi
  · exact h2 c (List.mem_filter.mpr ⟨hc, hi⟩)
  · simpa [hi] using h
set_option maxRecDepth 65536 in
theorem w_c0 : (Jvm.Cond.code x code maxLocals ret).before args0 about1 = true := code_word (m := ⟨1, 1⟩) (meth := k1m1) (c := k1c1) (by decide +kernel) rfl rfl rfl (by decide +kernel)
set_option maxRecDepth 65536 in
theorem w_c1 : (Jvm.Cond.code ({ cls := "com/example/logtide/logtide/event/TemporalTextIsInfinitePinLaw", name := "at", desc := "(Ljava/lang/String;IC)C" } : Jvm.MethodName) method_3_code (3 : Nat) (Option.some Jvm.ClassFile.FieldType.char)).before args0 about1 = true := code_word (m := ⟨1, 2⟩) (meth := k1m2) (c := k1c2) (by decide +kernel) rfl rfl rfl (by decide +kernel)
set_option maxRecDepth 65536 in
theorem w_c2 : (Jvm.Cond.code ({ cls := "java/lang/String", name := "length", desc := "()I" } : Jvm.MethodName) jdk_42_method_54_code (1 : Nat) (Option.some Jvm.ClassFile.FieldType.int)).before args0 about1 = true := code_word (m := ⟨7, 2⟩) (meth := k7m2) (c := k7c2) (by decide +kernel) rfl rfl rfl (by decide +kernel)
set_option maxRecDepth 65536 in
theorem w_c3 : (Jvm.Cond.code ({ cls := "java/lang/String", name := "coder", desc := "()B" } : Jvm.MethodName) jdk_42_method_152_code (1 : Nat) (Option.some Jvm.ClassFile.FieldType.byte)).before args0 about1 = true := code_word (m := ⟨7, 6⟩) (meth := k7m6) (c := k7c6) (by decide +kernel) rfl rfl rfl (by decide +kernel)
set_option maxRecDepth 65536 in
theorem w_c4 : (Jvm.Cond.code ({ cls := "java/lang/String", name := "charAt", desc := "(I)C" } : Jvm.MethodName) jdk_42_method_56_code (2 : Nat) (Option.some Jvm.ClassFile.FieldType.char)).before args0 about1 = true := code_word (m := ⟨7, 3⟩) (meth := k7m3) (c := k7c3) (by decide +kernel) rfl rfl rfl (by decide +kernel)
set_option maxRecDepth 65536 in
theorem w_c5 : (Jvm.Cond.code ({ cls := "java/lang/String", name := "isLatin1", desc := "()Z" } : Jvm.MethodName) jdk_42_method_154_code (1 : Nat) (Option.some Jvm.ClassFile.FieldType.boolean)).before args0 about1 = true := code_word (m := ⟨7, 7⟩) (meth := k7m7) (c := k7c7) (by decide +kernel) rfl rfl rfl (by decide +kernel)
set_option maxRecDepth 65536 in
theorem w_c6 : (Jvm.Cond.code ({ cls := "java/lang/StringLatin1", name := "charAt", desc := "([BI)C" } : Jvm.MethodName) jdk_43_method_2_code (2 : Nat) (Option.some Jvm.ClassFile.FieldType.char)).before args0 about1 = true := code_word (m := ⟨8, 1⟩) (meth := k8m1) (c := k8c1) (by decide +kernel) rfl rfl rfl (by decide +kernel)
set_option maxRecDepth 65536 in
theorem w_c7 : (Jvm.Cond.code ({ cls := "java/lang/String", name := "checkIndex", desc := "(II)V" } : Jvm.MethodName) jdk_42_method_155_code (2 : Nat) (Option.none : Option Jvm.ClassFile.FieldType)).before args0 about1 = true := code_word (m := ⟨7, 8⟩) (meth := k7m8) (c := k7c8) (by decide +kernel) rfl rfl rfl (by decide +kernel)
set_option maxRecDepth 65536 in
theorem w_c8 : (Jvm.Cond.code ({ cls := "jdk/internal/util/Preconditions", name := "checkIndex", desc := "(IILjava/util/function/BiFunction;)I" } : Jvm.MethodName) jdk_41_method_11_code (3 : Nat) (Option.some Jvm.ClassFile.FieldType.int)).before args0 about1 = true := code_word (m := ⟨9, 1⟩) (meth := k9m1) (c := k9c1) (by decide +kernel) rfl rfl rfl (by decide +kernel)
set_option maxRecDepth 65536 in
theorem w_c9 : (Jvm.Cond.code ({ cls := "com/example/logtide/logtide/event/TemporalTextIsInfinitePinLaw", name := "cut", desc := "([CI)[C" } : Jvm.MethodName) method_4_code (2 : Nat) (Option.some (Jvm.ClassFile.FieldType.array Jvm.ClassFile.FieldType.char))).before args0 about1 = true := code_word (m := ⟨1, 3⟩) (meth := k1m3) (c := k1c3) (by decide +kernel) rfl rfl rfl (by decide +kernel)
set_option maxRecDepth 65536 in
theorem w_c10 : (Jvm.Cond.code ({ cls := "java/lang/String", name := "<init>", desc := "([C)V" } : Jvm.MethodName) jdk_42_method_3_code (2 : Nat) (Option.none : Option Jvm.ClassFile.FieldType)).before args0 about1 = true := code_word (m := ⟨7, 1⟩) (meth := k7m1) (c := k7c1) (by decide +kernel) rfl rfl rfl (by decide +kernel)
set_option maxRecDepth 65536 in
theorem w_c11 : (Jvm.Cond.code ({ cls := "java/lang/String", name := "<init>", desc := "([CIILjava/lang/Void;)V" } : Jvm.MethodName) jdk_42_method_149_code (6 : Nat) (Option.none : Option Jvm.ClassFile.FieldType)).before args0 about1 = true := code_word (m := ⟨7, 5⟩) (meth := k7m5) (c := k7c5) (by decide +kernel) rfl rfl rfl (by decide +kernel)
set_option maxRecDepth 65536 in
theorem w_c12 : (Jvm.Cond.code ({ cls := "java/lang/Object", name := "<init>", desc := "()V" } : Jvm.MethodName) object_method_1_code (1 : Nat) (Option.none : Option Jvm.ClassFile.FieldType)).before args0 about1 = true := code_word (m := ⟨0, 0⟩) (meth := k0m0) (c := k0c0) (by decide +kernel) rfl rfl rfl (by decide +kernel)
set_option maxRecDepth 65536 in
theorem w_c13 : (Jvm.Cond.code ({ cls := "java/lang/StringUTF16", name := "compress", desc := "([CII)[B" } : Jvm.MethodName) jdk_52_method_16_code (6 : Nat) (Option.some (Jvm.ClassFile.FieldType.array Jvm.ClassFile.FieldType.byte))).before args0 about1 = true := code_word (m := ⟨10, 2⟩) (meth := k10m2) (c := k10c2) (by decide +kernel) rfl rfl rfl (by decide +kernel)
set_option maxRecDepth 65536 in
theorem w_c14 : (Jvm.Cond.code ({ cls := "java/lang/StringUTF16", name := "compress", desc := "([CI[BII)I" } : Jvm.MethodName) jdk_52_method_21_code (7 : Nat) (Option.some Jvm.ClassFile.FieldType.int)).before args0 about1 = true := code_word (m := ⟨10, 3⟩) (meth := k10m3) (c := k10c3) (by decide +kernel) rfl rfl rfl (by decide +kernel)
set_option maxRecDepth 65536 in
theorem w_c15 : (Jvm.Cond.code ({ cls := "java/lang/StringUTF16", name := "coderFromArrayLen", desc := "([BI)B" } : Jvm.MethodName) jdk_52_method_15_code (2 : Nat) (Option.some Jvm.ClassFile.FieldType.byte)).before args0 about1 = true := code_word (m := ⟨10, 1⟩) (meth := k10m1) (c := k10c1) (by decide +kernel) rfl rfl rfl (by decide +kernel)
set_option maxRecDepth 65536 in
theorem w_c16 : (Jvm.Cond.code ({ cls := "com/example/logtide/logtide/event/TemporalText", name := "isInfinite", desc := "(Ljava/lang/String;)Z" } : Jvm.MethodName) prog_21_method_6_code (1 : Nat) (Option.some Jvm.ClassFile.FieldType.boolean)).before args0 about1 = true := code_word (m := ⟨11, 1⟩) (meth := k11m1) (c := k11c1) (by decide +kernel) rfl rfl rfl (by decide +kernel)
set_option maxRecDepth 65536 in
theorem w_c17 : (Jvm.Cond.code ({ cls := "java/lang/String", name := "equals", desc := "(Ljava/lang/Object;)Z" } : Jvm.MethodName) jdk_42_method_66_code (3 : Nat) (Option.some Jvm.ClassFile.FieldType.boolean)).before args0 about1 = true := code_word (m := ⟨7, 4⟩) (meth := k7m4) (c := k7c4) (by decide +kernel) rfl rfl rfl (by decide +kernel)
set_option maxRecDepth 65536 in
theorem w_c18 : (Jvm.Cond.code ({ cls := "java/lang/StringLatin1", name := "equals", desc := "([B[B)Z" } : Jvm.MethodName) jdk_43_method_13_code (3 : Nat) (Option.some Jvm.ClassFile.FieldType.boolean)).before args0 about1 = true := code_word (m := ⟨8, 2⟩) (meth := k8m2) (c := k8c2) (by decide +kernel) rfl rfl rfl (by decide +kernel)
def codes1 : List Jvm.Cond := [Jvm.Cond.code x code maxLocals ret, Jvm.Cond.code ({ cls := "com/example/logtide/logtide/event/TemporalTextIsInfinitePinLaw", name := "at", desc := "(Ljava/lang/String;IC)C" } : Jvm.MethodName) method_3_code (3 : Nat) (Option.some Jvm.ClassFile.FieldType.char), Jvm.Cond.code ({ cls := "java/lang/String", name := "length", desc := "()I" } : Jvm.MethodName) jdk_42_method_54_code (1 : Nat) (Option.some Jvm.ClassFile.FieldType.int), Jvm.Cond.code ({ cls := "java/lang/String", name := "coder", desc := "()B" } : Jvm.MethodName) jdk_42_method_152_code (1 : Nat) (Option.some Jvm.ClassFile.FieldType.byte), Jvm.Cond.code ({ cls := "java/lang/String", name := "charAt", desc := "(I)C" } : Jvm.MethodName) jdk_42_method_56_code (2 : Nat) (Option.some Jvm.ClassFile.FieldType.char), Jvm.Cond.code ({ cls := "java/lang/String", name := "isLatin1", desc := "()Z" } : Jvm.MethodName) jdk_42_method_154_code (1 : Nat) (Option.some Jvm.ClassFile.FieldType.boolean), Jvm.Cond.code ({ cls := "java/lang/StringLatin1", name := "charAt", desc := "([BI)C" } : Jvm.MethodName) jdk_43_method_2_code (2 : Nat) (Option.some Jvm.ClassFile.FieldType.char), Jvm.Cond.code ({ cls := "java/lang/String", name := "checkIndex", desc := "(II)V" } : Jvm.MethodName) jdk_42_method_155_code (2 : Nat) (Option.none : Option Jvm.ClassFile.FieldType), Jvm.Cond.code ({ cls := "jdk/internal/util/Preconditions", name := "checkIndex", desc := "(IILjava/util/function/BiFunction;)I" } : Jvm.MethodName) jdk_41_method_11_code (3 : Nat) (Option.some Jvm.ClassFile.FieldType.int), Jvm.Cond.code ({ cls := "com/example/logtide/logtide/event/TemporalTextIsInfinitePinLaw", name := "cut", desc := "([CI)[C" } : Jvm.MethodName) method_4_code (2 : Nat) (Option.some (Jvm.ClassFile.FieldType.array Jvm.ClassFile.FieldType.char)), Jvm.Cond.code ({ cls := "java/lang/String", name := "<init>", desc := "([C)V" } : Jvm.MethodName) jdk_42_method_3_code (2 : Nat) (Option.none : Option Jvm.ClassFile.FieldType), Jvm.Cond.code ({ cls := "java/lang/String", name := "<init>", desc := "([CIILjava/lang/Void;)V" } : Jvm.MethodName) jdk_42_method_149_code (6 : Nat) (Option.none : Option Jvm.ClassFile.FieldType), Jvm.Cond.code ({ cls := "java/lang/Object", name := "<init>", desc := "()V" } : Jvm.MethodName) object_method_1_code (1 : Nat) (Option.none : Option Jvm.ClassFile.FieldType), Jvm.Cond.code ({ cls := "java/lang/StringUTF16", name := "compress", desc := "([CII)[B" } : Jvm.MethodName) jdk_52_method_16_code (6 : Nat) (Option.some (Jvm.ClassFile.FieldType.array Jvm.ClassFile.FieldType.byte)), Jvm.Cond.code ({ cls := "java/lang/StringUTF16", name := "compress", desc := "([CI[BII)I" } : Jvm.MethodName) jdk_52_method_21_code (7 : Nat) (Option.some Jvm.ClassFile.FieldType.int), Jvm.Cond.code ({ cls := "java/lang/StringUTF16", name := "coderFromArrayLen", desc := "([BI)B" } : Jvm.MethodName) jdk_52_method_15_code (2 : Nat) (Option.some Jvm.ClassFile.FieldType.byte), Jvm.Cond.code ({ cls := "com/example/logtide/logtide/event/TemporalText", name := "isInfinite", desc := "(Ljava/lang/String;)Z" } : Jvm.MethodName) prog_21_method_6_code (1 : Nat) (Option.some Jvm.ClassFile.FieldType.boolean), Jvm.Cond.code ({ cls := "java/lang/String", name := "equals", desc := "(Ljava/lang/Object;)Z" } : Jvm.MethodName) jdk_42_method_66_code (3 : Nat) (Option.some Jvm.ClassFile.FieldType.boolean), Jvm.Cond.code ({ cls := "java/lang/StringLatin1", name := "equals", desc := "([B[B)Z" } : Jvm.MethodName) jdk_43_method_13_code (3 : Nat) (Option.some Jvm.ClassFile.FieldType.boolean)]
set_option maxRecDepth 65536 in
theorem codes_eq : words1.filter isCode = codes1 := rfl
theorem w_codes : ∀ c ∈ words1.filter isCode, c.before args0 about1 = true := by
  rw [codes_eq]
  intro c hc
  simp only [codes1, List.mem_cons, List.not_mem_nil, or_false] at hc
  rcases hc with rfl | rfl | rfl | rfl | rfl | rfl | rfl | rfl | rfl | rfl | rfl | rfl | rfl | rfl | rfl | rfl | rfl | rfl | rfl
  · exact w_c0
  · exact w_c1
  · exact w_c2
  · exact w_c3
  · exact w_c4
  · exact w_c5
  · exact w_c6
  · exact w_c7
  · exact w_c8
  · exact w_c9
  · exact w_c10
  · exact w_c11
  · exact w_c12
  · exact w_c13
  · exact w_c14
  · exact w_c15
  · exact w_c16
  · exact w_c17
  · exact w_c18
set_option maxRecDepth 65536 in
theorem w_t1 : (words1.take 24).all (fun c => isCode c || c.before args0 about1) = true := by decide +kernel
set_option maxRecDepth 65536 in
theorem w_t2 : ((words1.drop 24).take 24).all (fun c => isCode c || c.before args0 about1) = true := by decide +kernel
set_option maxRecDepth 65536 in
theorem w_t3 : (((words1.drop 24).drop 24).take 24).all (fun c => isCode c || c.before args0 about1) = true := by decide +kernel
set_option maxRecDepth 65536 in
theorem w_t4 : (((words1.drop 24).drop 24).drop 24).all (fun c => isCode c || c.before args0 about1) = true := by decide +kernel
theorem w_tables : (allAtoms (Jvm.Cond.code x code maxLocals ret :: tables_1)).before args0 about1 = true := by
  rw [allAtoms_all]
  show words1.all (fun c => c.before args0 about1) = true
  refine all_split ?_ w_codes
  rw [← List.take_append_drop 24 words1, List.all_append, w_t1, ← List.take_append_drop 24 (words1.drop 24), List.all_append, w_t2, ← List.take_append_drop 24 ((words1.drop 24).drop 24), List.all_append, w_t3, w_t4]
  rfl
set_option maxRecDepth 65536 in
theorem w_rest : rest_1_c.before args0 about1 = true := by decide +kernel
set_option maxRecDepth 65536 in
theorem w_case : (Jvm.Cond.and given_1 narrow_1).before args0 about1 = true := by decide +kernel
set_option maxRecDepth 65536 in
theorem w_consts : constsHeld consts_1 about1 := Jvm.Lit.constsHeldB_iff.mp (by decide +kernel)
theorem w_applies : (headSpec (Jvm.Cond.code x code maxLocals ret :: tables_1) room_1).applies x e0.platform about1 = true :=
  (Spec.applies_iff w_frames).mpr ⟨w_running, w_runnable, w_alone, w_named, w_hears, w_ripe, w_room, w_tables⟩
theorem atStart : AtStart classFile x code maxLocals ret World_1 tables_1 room_1 Calls_1 rest_1 Pre_1 launch0 p0 e0 about1 theMethod args0 below0 :=
  ⟨lists_1, trivial, launch0.admits_env _ _ _, launch0.least_env, fairChoices_fair.cas, fairChoices_fair.clock, w_frames, w_args, w_heap, w_applies, ⟨w_consts, trivial⟩, w_rest, w_case⟩
end start1
theorem witness_1 : WitnessClaimed_1 := ⟨start1.p0, start1.e0, start1.about1, start1.theMethod, start1.args0, start1.below0, start1.atStart⟩
end Jvm.Pilot.@@N@@
