import JvmDerived
import JvmDerived.Pilot.@@N@@Statement
import JvmDerived.Pilot.@@N@@Code
set_option linter.unusedVariables false
set_option linter.unusedSimpArgs false
/- laws to paste: Road.backV (cut by pick.py; bodies as the Statement names them) -/
namespace Jvm.Pilot.@@N@@
namespace StrChars
open Jvm Sem ClassFile Op Lib Jvm.Stand Jvm.Free.XT Jvm.Free.ALB Jvm.Free.JM Jvm.Free
open Jvm.Lib.Cold (StaticIs)
/-- a char array whose places are chars -/
def Ch (a : Addr) (A : Cell) (U : State) : Prop := Arr .char a A U ∧ Typed .char A
theorem Ch.mv {a : Addr} {A : Cell} {U U' : State} (h : Ch a A U) (hal : U.vm.Alike U'.vm) (hh : U'.heap = U.heap) : Ch a A U' := ⟨h.1.mv hal hh, h.2⟩
theorem Ch.keep {a : Addr} {A : Cell} {U U' : State} (h : Ch a A U) (hal : U.vm.Alike U'.vm) (hk : U'.heap[a]? = some A) : Ch a A U' := ⟨h.1.keep hal hk, h.2⟩
/-- what place i of a char[]'s cell holds -/
def cv (A : Cell) (i : Nat) : Int32 := match A.slots[i]? with | some (.int x) => x | _ => 0
theorem Ch.get {a : Addr} {A : Cell} {U : State} (h : Ch a A U) {i : Nat} (hi : i < A.slots.size) : A.slots[i]? = some (.int (cv A i)) := by
  have e := Array.getElem?_eq_getElem hi
  have f := h.2 i _ e
  unfold cv; rw [e]
  generalize A.slots[i] = v at f
  cases v <;> simp [fits] at f ⊢
/-- the byte that i2b leaves of a char -/
def lo8 (x : Int32) : Int32 := x.toInt8.toInt32
theorem fits_lo8 (y : Int32) : fits .byte (.int (lo8 y)) = true := by
  have h1 := y.toInt8.le_toInt
  have h2 := y.toInt8.toInt_lt
  simp only [lo8, fits, Bool.and_eq_true, decide_eq_true_eq, Int32.le_iff_toInt_le, Int8.toInt_toInt32, show (-128 : Int32).toInt = -128 from by decide, show (127 : Int32).toInt = 127 from by decide]
  omega
/-- A' is A but that each place j of lo .. hi - 1 holds f j -/
def Laid (A A' : Cell) (lo hi : Nat) (f : Nat → Value) : Prop := A'.cls = A.cls ∧ A'.vm = A.vm ∧ A'.slots.size = A.slots.size ∧ ∀ i, A'.slots[i]? = if lo ≤ i ∧ i < hi then some (f i) else A.slots[i]?
theorem Laid.zero (A : Cell) (lo : Nat) (f : Nat → Value) : Laid A A lo (lo + 0) f := ⟨rfl, rfl, rfl, fun i => by rw [if_neg (by omega)]⟩
theorem Laid.step {A Ak : Cell} {lo k : Nat} {f : Nat → Value} {v : Value} (h : Laid A Ak lo k f) (hlo : lo ≤ k) (hk : k < Ak.slots.size) (hv : v = f k) : Laid A (Ak.setSlot k v) lo (k + 1) f := by
  refine ⟨h.1, h.2.1, by simpa [Cell.setSlot] using h.2.2.1, fun i => ?_⟩
  by_cases e : k = i
  · subst e; rw [Cell.slots_setSlot_self v hk, if_pos (by omega), hv]
  · rw [Cell.slots_setSlot_ne v e, h.2.2.2 i]
    by_cases q : lo ≤ i ∧ i < k
    · rw [if_pos q, if_pos (by omega)]
    · rw [if_neg q, if_neg (by omega)]
def U16 : String := "java/lang/StringUTF16"
namespace Cmp5
def yN : MethodName := ⟨"java/lang/StringUTF16", "compress", "([CI[BII)I"⟩
abbrev yB : ByteArray := jdk_52_method_21_code
theorem d0 : decode yB 0 = .ok (.iconst 0, 1) := by decide +kernel
theorem d1 : decode yB 1 = .ok (.istore 5, 2) := by decide +kernel
theorem d3 : decode yB 3 = .ok (.iload 5, 2) := by decide +kernel
theorem d5 : decode yB 5 = .ok (.iload 4, 2) := by decide +kernel
theorem d7 : decode yB 7 = .ok (.if_icmp (.ge) 37, 3) := by decide +kernel
theorem d10 : decode yB 10 = .ok (.aload_n 0, 1) := by decide +kernel
theorem d11 : decode yB 11 = .ok (.iload_n 1, 1) := by decide +kernel
theorem d12 : decode yB 12 = .ok (.caload, 1) := by decide +kernel
theorem d13 : decode yB 13 = .ok (.istore 6, 2) := by decide +kernel
theorem d15 : decode yB 15 = .ok (.iload 6, 2) := by decide +kernel
theorem d17 : decode yB 17 = .ok (.sipush 255, 3) := by decide +kernel
theorem d20 : decode yB 20 = .ok (.if_icmp (.le) 6, 3) := by decide +kernel
theorem d26 : decode yB 26 = .ok (.aload_n 2, 1) := by decide +kernel
theorem d27 : decode yB 27 = .ok (.iload_n 3, 1) := by decide +kernel
theorem d28 : decode yB 28 = .ok (.iload 6, 2) := by decide +kernel
theorem d30 : decode yB 30 = .ok (.i2b, 1) := by decide +kernel
theorem d31 : decode yB 31 = .ok (.bastore, 1) := by decide +kernel
theorem d32 : decode yB 32 = .ok (.iinc 1 1, 3) := by decide +kernel
theorem d35 : decode yB 35 = .ok (.iinc 3 1, 3) := by decide +kernel
theorem d38 : decode yB 38 = .ok (.iinc 5 1, 3) := by decide +kernel
theorem d41 : decode yB 41 = .ok (.goto (-38), 3) := by decide +kernel
theorem d44 : decode yB 44 = .ok (.iload 4, 2) := by decide +kernel
theorem d46 : decode yB 46 = .ok (.ireturn, 1) := by decide +kernel
def site : List Cond := []
def tab : Cond := tabOf yN yB 7 (some .int) site
def P (b : Addr) (A : Cell) (d : Addr) (B : Cell) (o q len : Nat) (args : Array Value) (s : State) : Prop := args = #[.ref b, .int (Int32.ofNat o), .ref d, .int (Int32.ofNat q), .int (Int32.ofNat len)] ∧ Ch b A s ∧ Arr .byte d B s ∧ b ≠ d ∧ o + len ≤ A.slots.size ∧ q + len ≤ B.slots.size ∧ ∀ i, i < len → ¬ 255 < cv A (o + i)
def E (b : Addr) (A : Cell) (d : Addr) (B : Cell) (o q len : Nat) (r : Option Value) (s u : State) : Prop := r = some (.int (Int32.ofNat len)) ∧ ∃ B', Put d B' s u ∧ Laid B B' q (q + len) (fun j => Value.int (lo8 (cv A (o + (j - q)))))
/-- no char of the range above 255: len; the places written hold each char's low byte -/
theorem law (l : Launch) (b : Addr) (A : Cell) (d : Addr) (B : Cell) (o q len : Nat) : Law l yN 5 5 0 0 yB 7 (some .int) site (P b A d B o q len) (E b A d B o q len) (copyLocs d q len) 0 0 := by
  refine Law.of_walk (plainFor_of_name (by decide +kernel)) (by decide +kernel) (by decide +kernel) (by decide) (fun _ _ h => by rw [h.1]; rfl) (fun _ U U' hal hh h => ⟨h.1, h.2.1.mv hal hh, h.2.2.1.mv hal hh, h.2.2.2⟩) (fun r U U' V V' h1 hal h2 h => ⟨h.1, h.2.elim fun B' q => ⟨B', q.1.mv h1 h2, q.2⟩⟩) ?_
  intro p e s m args below meth c s₁ X0 hexec hbytes hml hret hlk hnm hown hh0 W hP
  obtain ⟨rfl, hA, hB, hne, l1, l2, hp⟩ := hP
  have c1 : Steps p.tables e below (s₁.setTop (entryFrame m #[.ref b, .int (Int32.ofNat o), .ref d, .int (Int32.ofNat q), .int (Int32.ofNat len)] 7)) (s₁.setTop (mkF m 0 #[.val (.ref b), .val (.int (Int32.ofNat o)), .val (.ref d), .val (.int (Int32.ofNat q)), .val (.int (Int32.ofNat len)), .unset, .unset] [])) := entry rfl
  have hA0 := hA.1.mv X0.warmed.alike hh0
  have hB0 := hB.mv X0.warmed.alike hh0
  have a31 := hA.1.2.2.2
  have c2 : Steps p.tables e below (s₁.setTop (entryFrame m #[.ref b, .int (Int32.ofNat o), .ref d, .int (Int32.ofNat q), .int (Int32.ofNat len)] 7)) (s₁.setTop (mkF m 3 #[.val (.ref b), .val (.int (Int32.ofNat o)), .val (.ref d), .val (.int (Int32.ofNat q)), .val (.int (Int32.ofNat len)), .val (.int 0), .unset] [])) := c1.trans (by
    refine iconstV X0.here hexec rfl 0 (hb hbytes d0) (by decide) ?_
    refine XS.istore X0.here hexec rfl (hb hbytes d1) rfl rfl ?_
    exact Steps.refl _)
  have loop : ∀ (r i : Nat), i + r = len → ∀ (z : Slot), (z = .unset ∨ ∃ w, z = .val w ∧ w.category = 1) → ∀ (Tl : State) (Bk : Cell), Stand p l e { frames := 0, locals := 0, cells := 0, slots := 0 } s m #[.ref b, .int (Int32.ofNat o), .ref d, .int (Int32.ofNat q), .int (Int32.ofNat len)] below meth c Tl ([] ++ copyLocs d q i) 0 0 → Put d Bk s₁ Tl → Laid B Bk q (q + i) (fun j => Value.int (lo8 (cv A (o + (j - q))))) →
      Steps p.tables e below (s₁.setTop (entryFrame m #[.ref b, .int (Int32.ofNat o), .ref d, .int (Int32.ofNat q), .int (Int32.ofNat len)] 7)) (Tl.setTop (mkF m 3 #[.val (.ref b), .val (.int (Int32.ofNat (o + i))), .val (.ref d), .val (.int (Int32.ofNat (q + i))), .val (.int (Int32.ofNat len)), .val (.int (Int32.ofNat i)), z] [])) → ∃ (T' : State) (B' : Cell) (z' : Slot), Stand p l e { frames := 0, locals := 0, cells := 0, slots := 0 } s m #[.ref b, .int (Int32.ofNat o), .ref d, .int (Int32.ofNat q), .int (Int32.ofNat len)] below meth c T' ([] ++ copyLocs d q len) 0 0 ∧ Put d B' s₁ T' ∧ Laid B B' q (q + len) (fun j => Value.int (lo8 (cv A (o + (j - q))))) ∧
      Steps p.tables e below (s₁.setTop (entryFrame m #[.ref b, .int (Int32.ofNat o), .ref d, .int (Int32.ofNat q), .int (Int32.ofNat len)] 7)) (T'.setTop (mkF m 3 #[.val (.ref b), .val (.int (Int32.ofNat (o + len))), .val (.ref d), .val (.int (Int32.ofNat (q + len))), .val (.int (Int32.ofNat len)), .val (.int (Int32.ofNat len)), z'] [])) := by
    intro r
    induction r with
    | zero =>
      intro i hi z hz Tl Bk Xl pl fl cl
      have hil : i = len := by omega
      rw [hil] at Xl fl cl
      exact ⟨Tl, Bk, z, Xl, pl, fl, cl⟩
    | succ r ih =>
      intro i hi z hz Tl Bk Xl pl fl cl
      have all := X0.warmed.alike.symm.trans Xl.warmed.alike
      have hAl := hA0.keep all (pl.other hne hA0.1)
      have hBk := hB0.like all pl.1 fl.1 fl.2.1 fl.2.2.1
      have hlt : q + i < Bk.slots.size := by rw [fl.2.2.1]; omega
      have c3 : Steps p.tables e below (s₁.setTop (entryFrame m #[.ref b, .int (Int32.ofNat o), .ref d, .int (Int32.ofNat q), .int (Int32.ofNat len)] 7)) (Tl.setTop (mkF m 12 #[.val (.ref b), .val (.int (Int32.ofNat (o + i))), .val (.ref d), .val (.int (Int32.ofNat (q + i))), .val (.int (Int32.ofNat len)), .val (.int (Int32.ofNat i)), z] [.int (Int32.ofNat (o + i)), .ref b])) := cl.trans (by
        refine XS.iload Xl.here hexec rfl (hb hbytes d3) rfl ?_
        refine XS.iload Xl.here hexec rfl (hb hbytes d5) rfl ?_
        refine XS.icmpNo Xl.here hexec rfl (hb hbytes d7) rfl (ii_ge_f (lt32 (by omega) (by omega))) ?_
        refine XS.aloadN Xl.here hexec rfl (hb hbytes d10) rfl rfl ?_
        refine XS.iloadN Xl.here hexec rfl (hb hbytes d11) rfl ?_
        exact Steps.refl _)
      have c4 : Steps p.tables e below (s₁.setTop (entryFrame m #[.ref b, .int (Int32.ofNat o), .ref d, .int (Int32.ofNat q), .int (Int32.ofNat len)] 7)) (Tl.setTop (mkF m 13 #[.val (.ref b), .val (.int (Int32.ofNat (o + i))), .val (.ref d), .val (.int (Int32.ofNat (q + i))), .val (.int (Int32.ofNat len)), .val (.int (Int32.ofNat i)), z] [.int (cv A (o + i))])) := c3.trans (by
        refine Xl.aget hexec hAl rfl (hA.get (i := o + i) (by omega)) rfl rfl (hb hbytes d12) ?_
        exact Steps.refl _)
      have c5 : Steps p.tables e below (s₁.setTop (entryFrame m #[.ref b, .int (Int32.ofNat o), .ref d, .int (Int32.ofNat q), .int (Int32.ofNat len)] 7)) (Tl.setTop (mkF m 15 #[.val (.ref b), .val (.int (Int32.ofNat (o + i))), .val (.ref d), .val (.int (Int32.ofNat (q + i))), .val (.int (Int32.ofNat len)), .val (.int (Int32.ofNat i)), .val (.int (cv A (o + i)))] [])) := c4.trans (by
        refine XS.istoreS Xl.here hexec rfl (hb hbytes d13) rfl rfl hz ?_
        exact Steps.refl _)
      have c6 : Steps p.tables e below (s₁.setTop (entryFrame m #[.ref b, .int (Int32.ofNat o), .ref d, .int (Int32.ofNat q), .int (Int32.ofNat len)] 7)) (Tl.setTop (mkF m 31 #[.val (.ref b), .val (.int (Int32.ofNat (o + i))), .val (.ref d), .val (.int (Int32.ofNat (q + i))), .val (.int (Int32.ofNat len)), .val (.int (Int32.ofNat i)), .val (.int (cv A (o + i)))] [.int (lo8 (cv A (o + i))), .int (Int32.ofNat (q + i)), .ref d])) := c5.trans (by
        refine XS.iload Xl.here hexec rfl (hb hbytes d15) rfl ?_
        refine sipushV Xl.here hexec rfl 255 (hb hbytes d17) (by decide) ?_
        refine XS.icmpYes Xl.here hexec rfl (pc0 := 20) rfl (hb hbytes d20) rfl (ii_le_t (hp i (by omega))) (by decide) rfl ?_
        refine XS.aloadN Xl.here hexec rfl (hb hbytes d26) rfl rfl ?_
        refine XS.iloadN Xl.here hexec rfl (hb hbytes d27) rfl ?_
        refine XS.iload Xl.here hexec rfl (hb hbytes d28) rfl ?_
        refine i2b Xl.here hexec rfl (hb hbytes d30) rfl ?_
        exact Steps.refl _)
      obtain ⟨T7, X7, p7, st7⟩ := Xl.aput hexec hBk rfl hlt rfl (fits_lo8 (cv A (o + i))) (g := (mkF m 31 #[.val (.ref b), .val (.int (Int32.ofNat (o + i))), .val (.ref d), .val (.int (Int32.ofNat (q + i))), .val (.int (Int32.ofNat len)), .val (.int (Int32.ofNat i)), .val (.int (cv A (o + i)))] [.int (lo8 (cv A (o + i))), .int (Int32.ofNat (q + i)), .ref d])) rfl (rest := []) rfl (hb hbytes d31)
      have c8 : Steps p.tables e below (s₁.setTop (entryFrame m #[.ref b, .int (Int32.ofNat o), .ref d, .int (Int32.ofNat q), .int (Int32.ofNat len)] 7)) (T7.setTop (mkF m 32 #[.val (.ref b), .val (.int (Int32.ofNat (o + i))), .val (.ref d), .val (.int (Int32.ofNat (q + i))), .val (.int (Int32.ofNat len)), .val (.int (Int32.ofNat i)), .val (.int (cv A (o + i)))] [])) := c6.trans (st7 _ (Steps.refl _))
      have c9 : Steps p.tables e below (s₁.setTop (entryFrame m #[.ref b, .int (Int32.ofNat o), .ref d, .int (Int32.ofNat q), .int (Int32.ofNat len)] 7)) (T7.setTop (mkF m 3 #[.val (.ref b), .val (.int (Int32.ofNat (o + i) + 1)), .val (.ref d), .val (.int (Int32.ofNat (q + i) + 1)), .val (.int (Int32.ofNat len)), .val (.int (Int32.ofNat i + 1)), .val (.int (cv A (o + i)))] [])) := c8.trans (by
        refine iincV X7.here hexec rfl 1 (hb hbytes d32) (by decide) rfl rfl ?_
        refine iincV X7.here hexec rfl 1 (hb hbytes d35) (by decide) rfl rfl ?_
        refine iincV X7.here hexec rfl 1 (hb hbytes d38) (by decide) rfl rfl ?_
        refine XS.goto X7.here hexec rfl (pc0 := 41) rfl (hb hbytes d41) (by decide) rfl ?_
        exact Steps.refl _)
      have c10 : Steps p.tables e below (s₁.setTop (entryFrame m #[.ref b, .int (Int32.ofNat o), .ref d, .int (Int32.ofNat q), .int (Int32.ofNat len)] 7)) (T7.setTop (mkF m 3 #[.val (.ref b), .val (.int (Int32.ofNat (o + (i + 1)))), .val (.ref d), .val (.int (Int32.ofNat (q + (i + 1)))), .val (.int (Int32.ofNat len)), .val (.int (Int32.ofNat (i + 1))), .val (.int (cv A (o + i)))] [])) := by
        have := c9
        rw [succ32, succ32, succ32] at this
        exact this
      exact ih (i + 1) (by omega) _ (Or.inr ⟨_, rfl, rfl⟩) T7 _ (by rw [copyLocs_step, ← List.append_assoc]; exact X7) (pl.trans p7) (fl.step (by omega) hlt (by simp)) c10
  obtain ⟨T9, B9, z9, X9, p9, f9, g9⟩ := loop len 0 (by omega) .unset (Or.inl rfl) s₁ B (by simpa [copyLocs] using X0) ⟨hB0.1, fun _ _ => rfl, rfl⟩ (Laid.zero _ _ _) c2
  have c11 : Steps p.tables e below (s₁.setTop (entryFrame m #[.ref b, .int (Int32.ofNat o), .ref d, .int (Int32.ofNat q), .int (Int32.ofNat len)] 7)) (T9.setTop (mkF m 46 #[.val (.ref b), .val (.int (Int32.ofNat (o + len))), .val (.ref d), .val (.int (Int32.ofNat (q + len))), .val (.int (Int32.ofNat len)), .val (.int (Int32.ofNat len)), z9] [.int (Int32.ofNat len)])) := g9.trans (by
    refine XS.iload X9.here hexec rfl (hb hbytes d3) rfl ?_
    refine XS.iload X9.here hexec rfl (hb hbytes d5) rfl ?_
    refine XS.icmpYes X9.here hexec rfl (pc0 := 7) rfl (hb hbytes d7) rfl (ii_ge_t (nlt32 (by omega) (Nat.le_refl _))) (by decide) rfl ?_
    refine XS.iload X9.here hexec rfl (hb hbytes d44) rfl ?_
    exact Steps.refl _)
  exact ⟨T9, some (.int (Int32.ofNat len)), _, _, _, X9, by simp, rfl, rfl, (fun h => by cases h), ⟨rfl, B9, p9.from hh0, f9⟩, fun fs hl => c11.trans (X9.ireturnOut hexec hret rfl (Or.inl rfl) (hb hbytes d46) hl)⟩
end Cmp5
namespace Cmp3
def yN : MethodName := ⟨"java/lang/StringUTF16", "compress", "([CII)[B"⟩
abbrev yB : ByteArray := jdk_52_method_16_code
theorem d0 : decode yB 0 = .ok (.iload_n 2, 1) := by decide +kernel
theorem d1 : decode yB 1 = .ok (.newarray .byte, 2) := by decide +kernel
theorem d3 : decode yB 3 = .ok (.astore_n 3, 1) := by decide +kernel
theorem d4 : decode yB 4 = .ok (.aload_n 0, 1) := by decide +kernel
theorem d5 : decode yB 5 = .ok (.iload_n 1, 1) := by decide +kernel
theorem d6 : decode yB 6 = .ok (.aload_n 3, 1) := by decide +kernel
theorem d7 : decode yB 7 = .ok (.iconst 0, 1) := by decide +kernel
theorem d8 : decode yB 8 = .ok (.iload_n 2, 1) := by decide +kernel
theorem d9 : decode yB 9 = .ok (.invokestatic 115, 3) := by decide +kernel
theorem d12 : decode yB 12 = .ok (.istore 4, 2) := by decide +kernel
theorem d14 : decode yB 14 = .ok (.iload 4, 2) := by decide +kernel
theorem d16 : decode yB 16 = .ok (.iload_n 2, 1) := by decide +kernel
theorem d17 : decode yB 17 = .ok (.if_icmp (.eq) 40, 3) := by decide +kernel
theorem d57 : decode yB 57 = .ok (.aload_n 3, 1) := by decide +kernel
theorem d58 : decode yB 58 = .ok (.areturn, 1) := by decide +kernel
def site : List Cond := [.arrayClass .byte, Cmp5.tab] ++ staticW U16 115 Cmp5.yN
def tab : Cond := tabOf yN yB 6 (some (.array .byte)) site
def P (b : Addr) (A : Cell) (o len : Nat) (args : Array Value) (s : State) : Prop := args = #[.ref b, .int (Int32.ofNat o), .int (Int32.ofNat len)] ∧ Ch b A s ∧ o + len ≤ A.slots.size ∧ len ≤ 536870912 ∧ ∀ i, i < len → ¬ 255 < cv A (o + i)
def E (b : Addr) (A : Cell) (o len : Nat) (r : Option Value) (s u : State) : Prop := NewArr .byte "[B" len (fun j => .int (lo8 (cv A (o + j)))) r s u ∧ u.heap.size = s.heap.size + 1
/-- no char of the range above 255: a new byte[] of their low bytes -/
theorem law (l : Launch) (b : Addr) (A : Cell) (o len : Nat) : Law l yN 3 3 1 18 yB 6 (some (.array .byte)) site (P b A o len) (E b A o len) [] 1 len := by
  refine Law.of_walk (plainFor_of_name (by decide +kernel)) (by decide +kernel) (by decide +kernel) (by decide) (fun _ _ h => by rw [h.1]; rfl) (fun _ U U' hal hh h => ⟨h.1, h.2.1.mv hal hh, h.2.2⟩) (fun r U U' V V' h1 hal h2 h => ⟨NewArr.mv r U U' V V' h1 hal h2 h.1, by rw [h1, h2]; exact h.2⟩) ?_
  intro p e s m args below meth c s₁ X0 hexec hbytes hml hret hlk hnm hown hh0 W hP
  obtain ⟨rfl, hA, l1, l2, hp⟩ := hP
  have a31 := hA.1.2.2.2
  have c1 : Steps p.tables e below (s₁.setTop (entryFrame m #[.ref b, .int (Int32.ofNat o), .int (Int32.ofNat len)] 6)) (s₁.setTop (mkF m 0 #[.val (.ref b), .val (.int (Int32.ofNat o)), .val (.int (Int32.ofNat len)), .unset, .unset, .unset] [])) := entry rfl
  have c2 : Steps p.tables e below (s₁.setTop (entryFrame m #[.ref b, .int (Int32.ofNat o), .int (Int32.ofNat len)] 6)) (s₁.setTop (mkF m 1 #[.val (.ref b), .val (.int (Int32.ofNat o)), .val (.int (Int32.ofNat len)), .unset, .unset, .unset] [.int (Int32.ofNat len)])) := c1.trans (by
    refine XS.iloadN X0.here hexec rfl (hb hbytes d0) rfl ?_
    exact Steps.refl _)
  obtain ⟨T3, B3, X3, ba3, bs3, bv3, bh3, bf3, st3⟩ := X0.anew hexec (atype := .byte) (wk W (.arrayClass .byte)) rfl (by show len * 1 ≤ _; omega) (by omega) (g := (mkF m 1 #[.val (.ref b), .val (.int (Int32.ofNat o)), .val (.int (Int32.ofNat len)), .unset, .unset, .unset] [.int (Int32.ofNat len)])) rfl (hb hbytes d1) (rest := []) rfl (Nat.le_refl _) (by show 0 + len ≤ len; omega)
  rw [hh0] at ba3 st3
  have kp3 : XT.Kept s T3 := (XT.Kept.of_eq hh0).push bh3
  have hA3 := hA.keep X3.warmed.alike (kp3 _ _ hA.1.1)
  have hne : b ≠ s.heap.size := hA.1.ne
  have c4 : Steps p.tables e below (s₁.setTop (entryFrame m #[.ref b, .int (Int32.ofNat o), .int (Int32.ofNat len)] 6)) (T3.setTop (mkF m 3 #[.val (.ref b), .val (.int (Int32.ofNat o)), .val (.int (Int32.ofNat len)), .unset, .unset, .unset] [.ref s.heap.size])) := c2.trans (st3 _ (Steps.refl _))
  have c5 : Steps p.tables e below (s₁.setTop (entryFrame m #[.ref b, .int (Int32.ofNat o), .int (Int32.ofNat len)] 6)) (T3.setTop (mkF m 9 #[.val (.ref b), .val (.int (Int32.ofNat o)), .val (.int (Int32.ofNat len)), .val (.ref s.heap.size), .unset, .unset] [.int (Int32.ofNat len), .int 0, .ref s.heap.size, .int (Int32.ofNat o), .ref b])) := c4.trans (by
    refine XS.astoreN X3.here hexec rfl (hb hbytes d3) rfl rfl rfl ?_
    refine XS.aloadN X3.here hexec rfl (hb hbytes d4) rfl rfl ?_
    refine XS.iloadN X3.here hexec rfl (hb hbytes d5) rfl ?_
    refine XS.aloadN X3.here hexec rfl (hb hbytes d6) rfl rfl ?_
    refine iconstV X3.here hexec rfl 0 (hb hbytes d7) (by decide) ?_
    refine XS.iloadN X3.here hexec rfl (hb hbytes d8) rfl ?_
    exact Steps.refl _)
  obtain ⟨v6, T6, X6, E6, g6⟩ := X3.callS hexec (Cmp5.law l b A s.heap.size B3 o 0 len) hown (wks W (staticW U16 115 Cmp5.yN)) (wk W Cmp5.tab) (W := 0) (Nat.le_of_ble_eq_true rfl) (Nat.le_of_ble_eq_true rfl) (Nat.le_refl _) (by show 0 + len + 0 ≤ len; omega) (g := (mkF m 9 #[.val (.ref b), .val (.int (Int32.ofNat o)), .val (.int (Int32.ofNat len)), .val (.ref s.heap.size), .unset, .unset] [.int (Int32.ofNat len), .int (Int32.ofNat 0), .ref s.heap.size, .int (Int32.ofNat o), .ref b])) rfl (by rw [hml]; rfl) c5 (argsL := [.ref b, .int (Int32.ofNat o), .ref s.heap.size, .int (Int32.ofNat 0), .int (Int32.ofNat len)]) (rest := []) rfl rfl (by show 2 * 0 + 0 ≤ _; decide) (hb hbytes d9) (⟨rfl, hA3, ba3, hne, l1, by rw [bs3]; simp, hp⟩)
  obtain ⟨rfl, B6, p6, f6⟩ := E6
  have c7 : Steps p.tables e below (s₁.setTop (entryFrame m #[.ref b, .int (Int32.ofNat o), .int (Int32.ofNat len)] 6)) (T6.setTop (mkF m 12 #[.val (.ref b), .val (.int (Int32.ofNat o)), .val (.int (Int32.ofNat len)), .val (.ref s.heap.size), .unset, .unset] [.int (Int32.ofNat len)])) := g6
  have c8 : Steps p.tables e below (s₁.setTop (entryFrame m #[.ref b, .int (Int32.ofNat o), .int (Int32.ofNat len)] 6)) (T6.setTop (mkF m 58 #[.val (.ref b), .val (.int (Int32.ofNat o)), .val (.int (Int32.ofNat len)), .val (.ref s.heap.size), .val (.int (Int32.ofNat len)), .unset] [.ref s.heap.size])) := c7.trans (by
    refine XS.istore X6.here hexec rfl (hb hbytes d12) rfl rfl ?_
    refine XS.iload X6.here hexec rfl (hb hbytes d14) rfl ?_
    refine XS.iloadN X6.here hexec rfl (hb hbytes d16) rfl ?_
    refine XS.icmpYes X6.here hexec rfl (pc0 := 17) rfl (hb hbytes d17) rfl (ii_eq_t rfl) (by decide) rfl ?_
    refine XS.aloadN X6.here hexec rfl (hb hbytes d57) rfl rfl ?_
    exact Steps.refl _)
  have X8 := X6.wide (L' := []) (cells' := 1) (slots' := len) (fun x hx hlt => by
    simp only [List.nil_append, copyLocs, List.mem_map, List.mem_range] at hx
    obtain ⟨i, -, rfl⟩ := hx
    exact absurd hlt (Nat.lt_irrefl _)) (Nat.le_refl _) (by omega)
  exact ⟨T6, some (.ref s.heap.size), _, _, _, X8, rfl, rfl, rfl, (fun h => by cases h), ⟨⟨rfl, B6, ba3.like (X3.warmed.alike.symm.trans X6.warmed.alike) p6.1 f6.1 f6.2.1 f6.2.2.1, f6.2.1.trans bv3, by rw [X6.warmed.alike.findClass, f6.1]; exact bf3, by rw [f6.2.2.1, bs3]; simp, fun j hj => by rw [f6.2.2.2 j, if_pos (by omega)]; rfl, kp3.put p6 (Nat.le_refl _)⟩, by rw [p6.2.2, bh3, hh0]; simp⟩, fun fs hl => c8.trans (X8.areturnOut hexec rfl hret rfl (hb hbytes d58) hl)⟩
end Cmp3
namespace CodL
def yN : MethodName := ⟨"java/lang/StringUTF16", "coderFromArrayLen", "([BI)B"⟩
abbrev yB : ByteArray := jdk_52_method_15_code
theorem d0 : decode yB 0 = .ok (.iload_n 1, 1) := by decide +kernel
theorem d1 : decode yB 1 = .ok (.aload_n 0, 1) := by decide +kernel
theorem d2 : decode yB 2 = .ok (.arraylength, 1) := by decide +kernel
theorem d3 : decode yB 3 = .ok (.isub, 1) := by decide +kernel
theorem d4 : decode yB 4 = .ok (.bipush 31, 2) := by decide +kernel
theorem d6 : decode yB 6 = .ok (.iushr, 1) := by decide +kernel
theorem d7 : decode yB 7 = .ok (.i2b, 1) := by decide +kernel
theorem d8 : decode yB 8 = .ok (.ireturn, 1) := by decide +kernel
def site : List Cond := []
def tab : Cond := tabOf yN yB 2 (some .byte) site
def P (d : Addr) (B : Cell) (args : Array Value) (s : State) : Prop := args = #[.ref d, .int (Int32.ofNat B.slots.size)] ∧ Arr .byte d B s
def E (r : Option Value) (s u : State) : Prop := XT.PureE (some (.int 0)) r s u
/-- an array as long as the number of chars: LATIN1 -/
theorem law (l : Launch) (d : Addr) (B : Cell) : Law l yN 2 2 0 0 yB 2 (some .byte) site (P d B) E [] 0 0 := by
  refine Law.of_walk (plainFor_of_name (by decide +kernel)) (by decide +kernel) (by decide +kernel) (by decide) (fun _ _ h => by rw [h.1]; rfl) (fun _ U U' hal hh h => ⟨h.1, h.2.mv hal hh⟩) (fun r U U' V V' h1 hal h2 h => XT.PureE.mv r U U' V V' h1 hal h2 h) ?_
  intro p e s m args below meth c s₁ X0 hexec hbytes hml hret hlk hnm hown hh0 W hP
  obtain ⟨rfl, hB⟩ := hP
  have hB0 := hB.mv X0.warmed.alike hh0
  have c1 : Steps p.tables e below (s₁.setTop (entryFrame m #[.ref d, .int (Int32.ofNat B.slots.size)] 2)) (s₁.setTop (mkF m 0 #[.val (.ref d), .val (.int (Int32.ofNat B.slots.size))] [])) := entry rfl
  have c2 : Steps p.tables e below (s₁.setTop (entryFrame m #[.ref d, .int (Int32.ofNat B.slots.size)] 2)) (s₁.setTop (mkF m 2 #[.val (.ref d), .val (.int (Int32.ofNat B.slots.size))] [.ref d, .int (Int32.ofNat B.slots.size)])) := c1.trans (by
    refine XS.iloadN X0.here hexec rfl (hb hbytes d0) rfl ?_
    refine XS.aloadN X0.here hexec rfl (hb hbytes d1) rfl rfl ?_
    exact Steps.refl _)
  have c3 : Steps p.tables e below (s₁.setTop (entryFrame m #[.ref d, .int (Int32.ofNat B.slots.size)] 2)) (s₁.setTop (mkF m 8 #[.val (.ref d), .val (.int (Int32.ofNat B.slots.size))] [.int (lo8 (ushr (Int32.ofNat B.slots.size - Int32.ofNat B.slots.size) 31))])) := c2.trans (by
    refine X0.alen hexec hB0 rfl rfl (hb hbytes d2) ?_
    refine XS.isub X0.here hexec rfl (hb hbytes d3) rfl ?_
    refine bipushV X0.here hexec rfl 31 (hb hbytes d4) (by decide) ?_
    refine iushr X0.here hexec rfl (hb hbytes d6) rfl ?_
    refine i2b X0.here hexec rfl (hb hbytes d7) rfl ?_
    exact Steps.refl _)
  have e0 : lo8 (ushr (Int32.ofNat B.slots.size - Int32.ofNat B.slots.size) 31) = 0 := by rw [Int32.sub_self]; decide
  rw [e0] at c3
  exact ⟨s₁, some (.int 0), _, _, _, X0, rfl, rfl, rfl, (fun h => by cases h), ⟨rfl, hh0⟩, fun fs hl => c3.trans (X0.ireturnOut hexec hret rfl (Or.inr (Or.inr (Or.inl rfl))) (hb hbytes d8) hl)⟩
end CodL
/-- the String at a is Latin-1 over a new byte[] (the heap's one new cell): the low bytes of the len chars of A from o on; every cell but a is kept -/
def Got (a : Addr) (D : Cell) (fV fC : Field) (A : Cell) (o len : Nat) (r : Option Value) (s u : State) : Prop := r = none ∧ ∃ D' V : Cell, Blank "java/lang/String" a D' u ∧ Same D D' [fV.slot, fC.slot] ∧ D'.slots[fV.slot]? = some (.ref s.heap.size) ∧ D'.slots[fC.slot]? = some (.int 0) ∧ Arr .byte s.heap.size V u ∧ V.vm = .none ∧ u.vm.findClass "[B" = some V.cls ∧ V.slots.size = len ∧ (∀ j, j < len → V.slots[j]? = some (.int (lo8 (cv A (o + j))))) ∧ (∀ (y : Addr) (c : Cell), y ≠ a → s.heap[y]? = some c → u.heap[y]? = some c) ∧ u.heap.size = s.heap.size + 1
theorem Got.mv {a : Addr} {D A : Cell} {fV fC : Field} {o len : Nat} : ∀ r (U U' V V' : State), U'.heap = U.heap → V.vm.Alike V'.vm → V'.heap = V.heap → Got a D fV fC A o len r U V → Got a D fV fC A o len r U' V' :=
  fun r U U' V V' h1 hal h2 ⟨e0, D', X, a1, a2, a3, a4, a5, a6, a7, a8, a9, a10, a11⟩ => ⟨e0, D', X, a1.mv hal h2, a2, by rw [h1]; exact a3, a4, by rw [h1]; exact a5.mv hal h2, a6, by rw [hal.findClass]; exact a7, a8, a9, by rw [h1, h2]; exact a10, by rw [h1, h2]; exact a11⟩
namespace New4
def yN : MethodName := ⟨"java/lang/String", "<init>", "([CIILjava/lang/Void;)V"⟩
abbrev yB : ByteArray := jdk_42_method_149_code
theorem d0 : decode yB 0 = .ok (.aload_n 0, 1) := by decide +kernel
theorem d1 : decode yB 1 = .ok (.invokespecial 1, 3) := by decide +kernel
theorem d4 : decode yB 4 = .ok (.iload_n 3, 1) := by decide +kernel
theorem d5 : decode yB 5 = .ok (.ifCond (.ne) 22, 3) := by decide +kernel
theorem d27 : decode yB 27 = .ok (.getstatic 38, 3) := by decide +kernel
theorem d30 : decode yB 30 = .ok (.ifCond (.eq) 28, 3) := by decide +kernel
theorem d33 : decode yB 33 = .ok (.aload_n 1, 1) := by decide +kernel
theorem d34 : decode yB 34 = .ok (.iload_n 2, 1) := by decide +kernel
theorem d35 : decode yB 35 = .ok (.iload_n 3, 1) := by decide +kernel
theorem d36 : decode yB 36 = .ok (.invokestatic 177, 3) := by decide +kernel
theorem d39 : decode yB 39 = .ok (.astore 5, 2) := by decide +kernel
theorem d41 : decode yB 41 = .ok (.aload_n 0, 1) := by decide +kernel
theorem d42 : decode yB 42 = .ok (.aload 5, 2) := by decide +kernel
theorem d44 : decode yB 44 = .ok (.iload_n 3, 1) := by decide +kernel
theorem d45 : decode yB 45 = .ok (.invokestatic 47, 3) := by decide +kernel
theorem d48 : decode yB 48 = .ok (.putfield 15, 3) := by decide +kernel
theorem d51 : decode yB 51 = .ok (.aload_n 0, 1) := by decide +kernel
theorem d52 : decode yB 52 = .ok (.aload 5, 2) := by decide +kernel
theorem d54 : decode yB 54 = .ok (.putfield 9, 3) := by decide +kernel
theorem d57 : decode yB 57 = .ok (.return_, 1) := by decide +kernel
def site : List Cond := [.fieldLink "java/lang/String" 38 "java/lang/String" "COMPACT_STRINGS" "Z", Cmp3.tab, CodL.tab, .laysFinal "java/lang/String" "java/lang/String" "value" "[B", .fieldLink "java/lang/String" 9 "java/lang/String" "value" "[B", .laysFinal "java/lang/String" "java/lang/String" "coder" "B", .fieldLink "java/lang/String" 15 "java/lang/String" "coder" "B"] ++ objW "java/lang/String" 1 ++ staticW "java/lang/String" 177 Cmp3.yN ++ staticW "java/lang/String" 47 CodL.yN
def tab : Cond := tabOf yN yB 6 none site
def P (a : Addr) (D : Cell) (fV fC : Field) (b : Addr) (A : Cell) (z : Int32) (o len : Nat) (args : Array Value) (s : State) : Prop := args = #[.ref a, .ref b, .int (Int32.ofNat o), .int (Int32.ofNat len), .null] ∧ Blank "java/lang/String" a D s ∧ Found "java/lang/String" "value" "[B" fV s ∧ Found "java/lang/String" "coder" "B" fC s ∧ Ch b A s ∧ StaticIs s "java/lang/String" "COMPACT_STRINGS" "Z" (.int z) ∧ ¬ z = 0 ∧ 0 < len ∧ o + len ≤ A.slots.size ∧ len ≤ 536870912 ∧ ∀ i, i < len → ¬ 255 < cv A (o + i)
def E (a : Addr) (D : Cell) (fV fC : Field) (A : Cell) (o len : Nat) (r : Option Value) (s u : State) : Prop := Got a D fV fC A o len r s u
/-- len > 0, no char of the range above 255: a Latin-1 String of their low bytes -/
theorem law (l : Launch) (a : Addr) (D : Cell) (fV fC : Field) (b : Addr) (A : Cell) (z : Int32) (o len : Nat) : Law l yN 5 4 2 35 yB 6 none site (P a D fV fC b A z o len) (E a D fV fC A o len) [⟨a, fC.slot⟩, ⟨a, fV.slot⟩] 1 len := by
  refine Law.of_walk (plainFor_of_name (by decide +kernel)) (by decide +kernel) (by decide +kernel) (by decide) (fun _ _ h => by rw [h.1]; rfl) (fun _ U U' hal hh h => ⟨h.1, h.2.1.mv hal hh, h.2.2.1.al hal, h.2.2.2.1.al hal, h.2.2.2.2.1.mv hal hh, h.2.2.2.2.2.1.there hal hh, h.2.2.2.2.2.2⟩) (fun r U U' V V' h1 hal h2 h => Got.mv r U U' V V' h1 hal h2 h) ?_
  intro p e s m args below meth c s₁ X0 hexec hbytes hml hret hlk hnm hown hh0 W hP
  obtain ⟨rfl, hB, f1, f2, hA, s1, hz, l0, l1, l2, hp⟩ := hP
  have a31 := hA.1.2.2.2
  have c1 : Steps p.tables e below (s₁.setTop (entryFrame m #[.ref a, .ref b, .int (Int32.ofNat o), .int (Int32.ofNat len), .null] 6)) (s₁.setTop (mkF m 0 #[.val (.ref a), .val (.ref b), .val (.int (Int32.ofNat o)), .val (.int (Int32.ofNat len)), .val .null, .unset] [])) := entry rfl
  have c2 : Steps p.tables e below (s₁.setTop (entryFrame m #[.ref a, .ref b, .int (Int32.ofNat o), .int (Int32.ofNat len), .null] 6)) (s₁.setTop (mkF m 1 #[.val (.ref a), .val (.ref b), .val (.int (Int32.ofNat o)), .val (.int (Int32.ofNat len)), .val .null, .unset] [.ref a])) := c1.trans (by
    refine XS.aloadN X0.here hexec rfl (hb hbytes d0) rfl rfl ?_
    exact Steps.refl _)
  obtain ⟨T3, X3, q3, st3⟩ := X0.oinit hexec hown (wks W (objW "java/lang/String" 1)) (g := (mkF m 1 #[.val (.ref a), .val (.ref b), .val (.int (Int32.ofNat o)), .val (.int (Int32.ofNat len)), .val .null, .unset] [.ref a])) rfl (by rw [hml]; rfl) (rest := []) rfl (hb hbytes d1) (W := 0) (by show 2 * 0 + 0 ≤ _; decide) (Nat.le_of_ble_eq_true rfl) (Nat.le_of_ble_eq_true rfl)
  have hh3 := q3.trans hh0
  have c4 : Steps p.tables e below (s₁.setTop (entryFrame m #[.ref a, .ref b, .int (Int32.ofNat o), .int (Int32.ofNat len), .null] 6)) (T3.setTop (mkF m 27 #[.val (.ref a), .val (.ref b), .val (.int (Int32.ofNat o)), .val (.int (Int32.ofNat len)), .val .null, .unset] [])) := (c2.trans (st3 _ (Steps.refl _))).trans (by
    refine XS.iloadN X3.here hexec rfl (hb hbytes d4) rfl ?_
    refine XS.ifYes X3.here hexec rfl (pc0 := 5) rfl (hb hbytes d5) rfl (i0_ne_t (nz32 (by omega) l0)) (by decide) rfl ?_
    exact Steps.refl _)
  obtain ⟨T5, X5, q5, st5⟩ := X3.sget hexec hown (wk W (.fieldLink "java/lang/String" 38 "java/lang/String" "COMPACT_STRINGS" "Z")) s1 (fun _ _ h => by rw [hh3]; exact h) (g := (mkF m 27 #[.val (.ref a), .val (.ref b), .val (.int (Int32.ofNat o)), .val (.int (Int32.ofNat len)), .val .null, .unset] [])) rfl (hb hbytes d27)
  have hh5 := q5.trans hh3
  have c6 : Steps p.tables e below (s₁.setTop (entryFrame m #[.ref a, .ref b, .int (Int32.ofNat o), .int (Int32.ofNat len), .null] 6)) (T5.setTop (mkF m 30 #[.val (.ref a), .val (.ref b), .val (.int (Int32.ofNat o)), .val (.int (Int32.ofNat len)), .val .null, .unset] [.int z])) := c4.trans (st5 _ (Steps.refl _))
  have c7 : Steps p.tables e below (s₁.setTop (entryFrame m #[.ref a, .ref b, .int (Int32.ofNat o), .int (Int32.ofNat len), .null] 6)) (T5.setTop (mkF m 36 #[.val (.ref a), .val (.ref b), .val (.int (Int32.ofNat o)), .val (.int (Int32.ofNat len)), .val .null, .unset] [.int (Int32.ofNat len), .int (Int32.ofNat o), .ref b])) := c6.trans (by
    refine XS.ifNo X5.here hexec rfl (hb hbytes d30) rfl (i0_eq_f hz) ?_
    refine XS.aloadN X5.here hexec rfl (hb hbytes d33) rfl rfl ?_
    refine XS.iloadN X5.here hexec rfl (hb hbytes d34) rfl ?_
    refine XS.iloadN X5.here hexec rfl (hb hbytes d35) rfl ?_
    exact Steps.refl _)
  obtain ⟨v8, T8, X8, E8, g8⟩ := X5.callS hexec (Cmp3.law l b A o len) hown (wks W (staticW "java/lang/String" 177 Cmp3.yN)) (wk W Cmp3.tab) (W := 0) (Nat.le_of_ble_eq_true rfl) (Nat.le_of_ble_eq_true rfl) (Nat.le_refl _) (by show 0 + len ≤ len; omega) (g := (mkF m 36 #[.val (.ref a), .val (.ref b), .val (.int (Int32.ofNat o)), .val (.int (Int32.ofNat len)), .val .null, .unset] [.int (Int32.ofNat len), .int (Int32.ofNat o), .ref b])) rfl (by rw [hml]; rfl) c7 (argsL := [.ref b, .int (Int32.ofNat o), .int (Int32.ofNat len)]) (rest := []) rfl rfl (by show 2 * 0 + 0 ≤ _; decide) (hb hbytes d36) (⟨rfl, hA.mv X5.warmed.alike hh5, l1, l2, hp⟩)
  obtain ⟨e8, z8⟩ := E8
  obtain ⟨rfl, N, n1, n2, n3, n4, n5, n6⟩ := NewArr.mv _ T5 s _ _ hh5.symm (Vm.Alike.refl _) rfl e8
  rw [hh5] at z8
  have hB1 := hB.keep X8.warmed.alike (n6 _ _ hB.1)
  have hne : s.heap.size ≠ a := (Nat.ne_of_lt (Array.getElem?_eq_some_iff.mp hB.1).1).symm
  have c9 : Steps p.tables e below (s₁.setTop (entryFrame m #[.ref a, .ref b, .int (Int32.ofNat o), .int (Int32.ofNat len), .null] 6)) (T8.setTop (mkF m 39 #[.val (.ref a), .val (.ref b), .val (.int (Int32.ofNat o)), .val (.int (Int32.ofNat len)), .val .null, .unset] [.ref s.heap.size])) := g8
  have c10 : Steps p.tables e below (s₁.setTop (entryFrame m #[.ref a, .ref b, .int (Int32.ofNat o), .int (Int32.ofNat len), .null] 6)) (T8.setTop (mkF m 45 #[.val (.ref a), .val (.ref b), .val (.int (Int32.ofNat o)), .val (.int (Int32.ofNat len)), .val .null, .val (.ref s.heap.size)] [.int (Int32.ofNat N.slots.size), .ref s.heap.size, .ref a])) := by
    have hc : Steps p.tables e below (s₁.setTop (entryFrame m #[.ref a, .ref b, .int (Int32.ofNat o), .int (Int32.ofNat len), .null] 6)) (T8.setTop (mkF m 45 #[.val (.ref a), .val (.ref b), .val (.int (Int32.ofNat o)), .val (.int (Int32.ofNat len)), .val .null, .val (.ref s.heap.size)] [.int (Int32.ofNat len), .ref s.heap.size, .ref a])) := c9.trans (by
      refine XS.astore X8.here hexec rfl (hb hbytes d39) rfl rfl rfl ?_
      refine XS.aloadN X8.here hexec rfl (hb hbytes d41) rfl rfl ?_
      refine XS.aload X8.here hexec rfl (hb hbytes d42) rfl rfl ?_
      refine XS.iloadN X8.here hexec rfl (hb hbytes d44) rfl ?_
      exact Steps.refl _)
    rw [n4]; exact hc
  obtain ⟨v11, T11, X11, E11, g11⟩ := X8.callS hexec (CodL.law l s.heap.size N) hown (wks W (staticW "java/lang/String" 47 CodL.yN)) (wk W CodL.tab) (W := 1) (Nat.le_of_ble_eq_true rfl) (Nat.le_of_ble_eq_true rfl) (Nat.le_refl _) (by show 0 + len + 0 ≤ len; omega) (g := (mkF m 45 #[.val (.ref a), .val (.ref b), .val (.int (Int32.ofNat o)), .val (.int (Int32.ofNat len)), .val .null, .val (.ref s.heap.size)] [.int (Int32.ofNat N.slots.size), .ref s.heap.size, .ref a])) rfl (by rw [hml]; rfl) c10 (argsL := [.ref s.heap.size, .int (Int32.ofNat N.slots.size)]) (rest := [.ref a]) rfl rfl (by show 2 * 0 + (1 + 0) ≤ _; decide) (hb hbytes d45) (⟨rfl, n1⟩)
  obtain ⟨rfl, q11⟩ := E11
  have hB11 := hB1.mv (X8.warmed.alike.symm.trans X11.warmed.alike) q11
  have c12 : Steps p.tables e below (s₁.setTop (entryFrame m #[.ref a, .ref b, .int (Int32.ofNat o), .int (Int32.ofNat len), .null] 6)) (T11.setTop (mkF m 48 #[.val (.ref a), .val (.ref b), .val (.int (Int32.ofNat o)), .val (.int (Int32.ofNat len)), .val .null, .val (.ref s.heap.size)] [.int 0, .ref a])) := g11
  obtain ⟨T13, X13, p13, bl13, sl13, st13⟩ := X11.finit hexec hown (wk W (.fieldLink "java/lang/String" 15 "java/lang/String" "coder" "B")) (Or.inr ⟨_, (wk W (.laysFinal "java/lang/String" "java/lang/String" "coder" "B"))⟩) (Or.inl ⟨rfl, hnm⟩) f2 (Or.inl rfl) hB11 (t := .byte) (by decide +kernel) rfl (g := (mkF m 48 #[.val (.ref a), .val (.ref b), .val (.int (Int32.ofNat o)), .val (.int (Int32.ofNat len)), .val .null, .val (.ref s.heap.size)] [.int 0, .ref a])) rfl (rest := []) rfl (hb hbytes d48)
  have c14 : Steps p.tables e below (s₁.setTop (entryFrame m #[.ref a, .ref b, .int (Int32.ofNat o), .int (Int32.ofNat len), .null] 6)) (T13.setTop (mkF m 54 #[.val (.ref a), .val (.ref b), .val (.int (Int32.ofNat o)), .val (.int (Int32.ofNat len)), .val .null, .val (.ref s.heap.size)] [.ref s.heap.size, .ref a])) := (c12.trans (st13 _ (Steps.refl _))).trans (by
    refine XS.aloadN X13.here hexec rfl (hb hbytes d51) rfl rfl ?_
    refine XS.aload X13.here hexec rfl (hb hbytes d52) rfl rfl ?_
    exact Steps.refl _)
  obtain ⟨T15, X15, p15, bl15, sl15, st15⟩ := X13.finit hexec hown (wk W (.fieldLink "java/lang/String" 9 "java/lang/String" "value" "[B")) (Or.inr ⟨_, (wk W (.laysFinal "java/lang/String" "java/lang/String" "value" "[B"))⟩) (Or.inl ⟨rfl, hnm⟩) f1 (Or.inl rfl) bl13 (t := (.array .byte)) (by decide +kernel) rfl (g := (mkF m 54 #[.val (.ref a), .val (.ref b), .val (.int (Int32.ofNat o)), .val (.int (Int32.ofNat len)), .val .null, .val (.ref s.heap.size)] [.ref s.heap.size, .ref a])) rfl (rest := []) rfl (hb hbytes d54)
  have c16 : Steps p.tables e below (s₁.setTop (entryFrame m #[.ref a, .ref b, .int (Int32.ofNat o), .int (Int32.ofNat len), .null] 6)) (T15.setTop (mkF m 57 #[.val (.ref a), .val (.ref b), .val (.int (Int32.ofNat o)), .val (.int (Int32.ofNat len)), .val .null, .val (.ref s.heap.size)] [])) := c14.trans (st15 _ (Steps.refl _))
  have ap := apart (Or.inr ⟨_, (wk W (.laysFinal "java/lang/String" "java/lang/String" "value" "[B"))⟩) (Or.inr ⟨_, (wk W (.laysFinal "java/lang/String" "java/lang/String" "coder" "B"))⟩) f1 f2 (t₁ := .array .byte) (t₂ := .byte) (by decide +kernel) (by decide +kernel) (by decide)
  have al := X8.warmed.alike.symm.trans X15.warmed.alike
  have n7 : T11.heap[s.heap.size]? = some N := by rw [q11]; exact n1.1
  exact ⟨T15, none, _, _, _, X15, by simp, rfl, by omega, (fun _ => rfl), ⟨rfl, _, N, bl15, ((Same.refl D _).set _ (by simp)).set _ (by simp), sl15, (Cell.slots_setSlot_ne _ ap).trans sl13, n1.keep al (p15.other hne (p13.other hne n7)), n2, by rw [al.findClass]; exact n3, n4, n5, fun y c h1 h2 => p15.other h1 (p13.other h1 (by rw [q11]; exact n6 y c h2)), by rw [p15.2.2, p13.2.2, q11]; exact z8⟩, fun fs hl => c16.trans (X15.returnOut hexec hret (hb hbytes d57) hl)⟩
end New4
namespace New1
def yN : MethodName := ⟨"java/lang/String", "<init>", "([C)V"⟩
abbrev yB : ByteArray := jdk_42_method_3_code
theorem d0 : decode yB 0 = .ok (.aload_n 0, 1) := by decide +kernel
theorem d1 : decode yB 1 = .ok (.aload_n 1, 1) := by decide +kernel
theorem d2 : decode yB 2 = .ok (.iconst 0, 1) := by decide +kernel
theorem d3 : decode yB 3 = .ok (.aload_n 1, 1) := by decide +kernel
theorem d4 : decode yB 4 = .ok (.arraylength, 1) := by decide +kernel
theorem d5 : decode yB 5 = .ok (.aconst_null, 1) := by decide +kernel
theorem d6 : decode yB 6 = .ok (.invokespecial 27, 3) := by decide +kernel
theorem d9 : decode yB 9 = .ok (.return_, 1) := by decide +kernel
def site : List Cond := [New4.tab] ++ initW "java/lang/String" 27 New4.yN
def tab : Cond := tabOf yN yB 2 none site
def P (a : Addr) (D : Cell) (fV fC : Field) (b : Addr) (A : Cell) (z : Int32) (args : Array Value) (s : State) : Prop := args = #[.ref a, .ref b] ∧ Blank "java/lang/String" a D s ∧ Found "java/lang/String" "value" "[B" fV s ∧ Found "java/lang/String" "coder" "B" fC s ∧ Ch b A s ∧ StaticIs s "java/lang/String" "COMPACT_STRINGS" "Z" (.int z) ∧ ¬ z = 0 ∧ 0 < A.slots.size ∧ A.slots.size ≤ 536870912 ∧ ∀ i, i < A.slots.size → ¬ 255 < cv A i
def E (a : Addr) (D : Cell) (fV fC : Field) (A : Cell) (r : Option Value) (s u : State) : Prop := Got a D fV fC A 0 A.slots.size r s u
/-- new String(chars), not empty, no char above 255: a Latin-1 String of their low bytes -/
theorem law (l : Launch) (a : Addr) (D : Cell) (fV fC : Field) (b : Addr) (A : Cell) (z : Int32) : Law l yN 2 1 3 52 yB 2 none site (P a D fV fC b A z) (E a D fV fC A) [⟨a, fC.slot⟩, ⟨a, fV.slot⟩] 1 A.slots.size := by
  refine Law.of_walk (plainFor_of_name (by decide +kernel)) (by decide +kernel) (by decide +kernel) (by decide) (fun _ _ h => by rw [h.1]; rfl) (fun _ U U' hal hh h => ⟨h.1, h.2.1.mv hal hh, h.2.2.1.al hal, h.2.2.2.1.al hal, h.2.2.2.2.1.mv hal hh, h.2.2.2.2.2.1.there hal hh, h.2.2.2.2.2.2⟩) (fun r U U' V V' h1 hal h2 h => Got.mv r U U' V V' h1 hal h2 h) ?_
  intro p e s m args below meth c s₁ X0 hexec hbytes hml hret hlk hnm hown hh0 W hP
  obtain ⟨rfl, hB, f1, f2, hA, s1, hz, l0, l2, hp⟩ := hP
  have c1 : Steps p.tables e below (s₁.setTop (entryFrame m #[.ref a, .ref b] 2)) (s₁.setTop (mkF m 0 #[.val (.ref a), .val (.ref b)] [])) := entry rfl
  have c2 : Steps p.tables e below (s₁.setTop (entryFrame m #[.ref a, .ref b] 2)) (s₁.setTop (mkF m 6 #[.val (.ref a), .val (.ref b)] [.null, .int (Int32.ofNat A.slots.size), .int 0, .ref b, .ref a])) := c1.trans (by
    refine XS.aloadN X0.here hexec rfl (hb hbytes d0) rfl rfl ?_
    refine XS.aloadN X0.here hexec rfl (hb hbytes d1) rfl rfl ?_
    refine iconstV X0.here hexec rfl 0 (hb hbytes d2) (by decide) ?_
    refine XS.aloadN X0.here hexec rfl (hb hbytes d3) rfl rfl ?_
    refine X0.alen hexec (hA.1.mv X0.warmed.alike hh0) rfl rfl (hb hbytes d4) ?_
    refine XS.aconstNull X0.here hexec rfl (hb hbytes d5) ?_
    exact Steps.refl _)
  obtain ⟨v3, T3, X3, E3, g3⟩ := X0.callN hexec (New4.law l a D fV fC b A z 0 A.slots.size) rfl hown (wks W (initW "java/lang/String" 27 New4.yN)) (W New4.tab (by simp only [site, List.mem_cons, List.mem_append, true_or, or_true])) (W := 0) (Nat.le_of_ble_eq_true rfl) (Nat.le_of_ble_eq_true rfl) (Nat.le_refl _) (by show 0 + A.slots.size ≤ A.slots.size; omega) (g := (mkF m 6 #[.val (.ref a), .val (.ref b)] [.null, .int (Int32.ofNat A.slots.size), .int (Int32.ofNat 0), .ref b, .ref a])) rfl (by rw [hml]; rfl) c2 (argsL := [.ref b, .int (Int32.ofNat 0), .int (Int32.ofNat A.slots.size), .null]) (rest := []) rfl rfl (by show 2 * 0 + 0 ≤ _; decide) (hb hbytes d6) (⟨rfl, hB.mv X0.warmed.alike hh0, f1.al X0.warmed.alike, f2.al X0.warmed.alike, hA.mv X0.warmed.alike hh0, s1.there X0.warmed.alike hh0, hz, l0, by omega, l2, fun i hi => by rw [Nat.zero_add]; exact hp i hi⟩)
  have e0 := Got.mv _ s₁ s _ _ hh0.symm (Vm.Alike.refl _) rfl E3
  obtain rfl := e0.1
  have c4 : Steps p.tables e below (s₁.setTop (entryFrame m #[.ref a, .ref b] 2)) (T3.setTop (mkF m 9 #[.val (.ref a), .val (.ref b)] [])) := g3
  exact ⟨T3, none, _, _, _, X3, by simp, rfl, by omega, (fun _ => rfl), e0, fun fs hl => c4.trans (X3.returnOut hexec hret (hb hbytes d9) hl)⟩
theorem pays {l : Launch} {R : Room} {p : Program} {e : Env} {below : List Frame} {s : State} {sargs : Array Value} {len W : Nat} (a : Addr) (D : Cell) (fV fC : Field) (b : Addr) (A : Cell) (z : Int32) (htab : tab.before sargs s = true) (hfr : 4 ≤ R.frames) (hlo : W + 65 ≤ R.locals) :
    Back l R p e below s sargs yN len W (fun A₁ a₁ => A₁.cells + 1 ≤ R.cells ∧ A₁.slots + A.slots.size ≤ R.slots ∧ P a D fV fC b A z a₁ A₁.U) (fun A₁ _ v₁ B₁ => E a D fV fC A v₁ A₁.U B₁.U ∧ B₁.locs = A₁.locs ++ [⟨a, fC.slot⟩, ⟨a, fV.slot⟩] ∧ B₁.cells = A₁.cells + 1 ∧ B₁.slots = A₁.slots + A.slots.size) :=
  (law l a D fV fC b A z).pays htab hfr (by omega)
end New1
end StrChars
namespace StrChars.Road
open Jvm Sem ClassFile Op Lib Jvm.Stand Jvm.Free Jvm.Free.XT
open Jvm.Lib.Cold (StaticIs)
abbrev ST : String := "java/lang/String"
/-- every table word that New1's law asks, flat -/
abbrev words : List Jvm.Cond := [.code New1.yN New1.yB 2 none, .initialized ST, .methodLink ST 27 New4.yN, .instanceMethod New4.yN,
  .code New4.yN New4.yB 6 none, .fieldLink ST 38 ST "COMPACT_STRINGS" "Z", .laysFinal ST ST "value" "[B", .fieldLink ST 9 ST "value" "[B", .laysFinal ST ST "coder" "B", .fieldLink ST 15 ST "coder" "B",
  .methodLink ST 1 Lib.objectInit, .instanceMethod Lib.objectInit, .code Lib.objectInit ⟨#[0xb1]⟩ 1 none, .methodLink ST 177 Cmp3.yN, .static Cmp3.yN, .methodLink ST 47 CodL.yN, .static CodL.yN,
  .code Cmp3.yN Cmp3.yB 6 (some (.array .byte)), .initialized U16, .arrayClass .byte, .methodLink U16 115 Cmp5.yN, .static Cmp5.yN, .code Cmp5.yN Cmp5.yB 7 (some .int), .code CodL.yN CodL.yB 2 (some .byte)]
theorem tab_of {a : Array Value} {s : State} (h : ∀ w ∈ words, w.before a s = true) : New1.tab.before a s = true := by
  have h5 : Cmp5.tab.before a s = true := unparts (wk h (.code Cmp5.yN Cmp5.yB 7 (some .int))) (wks h (.initialized Cmp5.yN.cls :: Cmp5.site))
  have hc : CodL.tab.before a s = true := unparts (wk h (.code CodL.yN CodL.yB 2 (some .byte))) (wks h (.initialized CodL.yN.cls :: CodL.site))
  have q5 : ∀ w ∈ Cmp5.tab :: words, w.before a s = true := fun w hw => (List.mem_cons.mp hw).elim (fun e => e ▸ h5) (h w)
  have h3 : Cmp3.tab.before a s = true := unparts (wk q5 (.code Cmp3.yN Cmp3.yB 6 (some (.array .byte)))) (wks q5 (.initialized Cmp3.yN.cls :: Cmp3.site))
  have q3 : ∀ w ∈ Cmp3.tab :: CodL.tab :: words, w.before a s = true := fun w hw => (List.mem_cons.mp hw).elim (fun e => e ▸ h3) fun hw => (List.mem_cons.mp hw).elim (fun e => e ▸ hc) (h w)
  have h4 : New4.tab.before a s = true := unparts (wk q3 (.code New4.yN New4.yB 6 none)) (wks q3 (.initialized New4.yN.cls :: New4.site))
  have q4 : ∀ w ∈ New4.tab :: words, w.before a s = true := fun w hw => (List.mem_cons.mp hw).elim (fun e => e ▸ h4) (h w)
  exact unparts (wk q4 (.code New1.yN New1.yB 2 none)) (wks q4 (.initialized New1.yN.cls :: New1.site))
/-- the words ride from the start Z to the walk's own state -/
theorem moved {Z s : State} {a0 args : Array Value} (hZ : Z.Warmed39 s.vm) (hw : ∀ d ∈ words, d.before a0 Z = true) : ∀ d ∈ words, d.before args s = true := fun d hd => by
  have q := hw d hd
  have t : ∀ d ∈ words, d = .arrayClass .byte ∨ (d.onTables && d.keepsFace) = true := by decide +kernel
  rcases t d hd with rfl | t
  · exact RoadKit.mvA hZ q
  · exact RoadKit.mv hZ q t
/-- WHAT COMES BACK, over the tables of the start Z: h the heap at the call, h' behind it -/
def Q (Z : State) (x : Addr) (A : Cell) (h : Heap) (v : Option Value) (h' : Heap) (L : List Loc) : Prop := v = none ∧ (∀ y ∈ L, y.base = x) ∧ RoadKit.Keep h h' [x] ∧ h'.size = h.size + 1 ∧ RoadKit.Exa Z h' x ST ∧ RoadKit.Fld Z h' x ST "value" "[B" (.ref h.size) ∧ RoadKit.Fld Z h' x ST "coder" "B" (.int 0) ∧
  (∃ V : Cell, RoadKit.Arr Z h' h.size V .byte ∧ V.vm = .none ∧ Z.vm.findClass "[B" = some V.cls ∧ V.slots.size = A.slots.size ∧ ∀ j, j < A.slots.size → V.slots[j]? = some (.int (lo8 (cv A j)))) ∧
  ∀ (O n d : String) (w : Value), RoadKit.Fld Z h x O n d w → RoadKit.slotOf Z O n d ≠ RoadKit.slotOf Z ST "value" "[B" → RoadKit.slotOf Z O n d ≠ RoadKit.slotOf Z ST "coder" "B" → RoadKit.Fld Z h' x O n d w
/-- **new String(chars) AT A CALL, IN THE ROAD'S FORM**: for specialBack behind newO: x the fresh String, b the char[] with the cell A -/
theorem back {p : Program} {l : Launch} {e : Env} {R : Room} {s : State} {args : Array Value} {below : List Frame} {len W : Nat} {Z : State} {a0 : Array Value} {h : Heap} (hZ : Z.Warmed39 s.vm) (hw : ∀ d ∈ words, d.before a0 Z = true) {kI : Nat} (wi : (Jvm.Cond.instantiable ST kI).before a0 Z = true)
    {x b : Addr} {A : Cell} {z : Int32} {v0 c0 : Value} (E : RoadKit.Exa Z h x ST) (V : RoadKit.Fld Z h x ST "value" "[B" v0) (C : RoadKit.Fld Z h x ST "coder" "B" c0) (K : RoadKit.Arr Z h b A .char) (hty : Typed .char A) (S : RoadKit.Sta Z h ST "COMPACT_STRINGS" "Z" (.int z)) (hz : ¬ z = 0)
    (l0 : 0 < A.slots.size) (l2 : A.slots.size ≤ 536870912) (hp : ∀ i, i < A.slots.size → ¬ 255 < cv A i) (hfr : 4 ≤ R.frames) (hlo : W + 65 ≤ R.locals) :
    Back l R p e below s args New1.yN len W (fun P a => a = #[.ref x, .ref b] ∧ P.U.heap = h ∧ P.cells + 1 ≤ R.cells ∧ P.slots + A.slots.size ≤ R.slots)
      (fun P _ v B => ∃ L, Q Z x A h v B.U.heap L ∧ B.locs = P.locs ++ L ∧ B.cells = P.cells + 1 ∧ B.slots = P.slots + A.slots.size) := by
  intro m meth c P g ig mk a X hg hsize hdg hW hn hp'
  obtain ⟨rfl, rfl, r1, r2⟩ := hp'
  have al : Z.vm.Alike P.U.vm := hZ.alike.trans X.warmed.alike
  obtain ⟨D, cfV, kV, iV, fV, hD, gV, stV, knV, obV, asV, slV⟩ := id V
  obtain ⟨D', cfC, kC, iC, fC, hD', gC, stC, -, -, asC, slC⟩ := id C
  cases hD.symm.trans hD'
  obtain ⟨D2, kD, e1, e2, e3, e4, e5⟩ := id E
  cases hD.symm.trans e1
  obtain ⟨c2, k2, i1, i2, i3, -⟩ := Cond.instantiable_spec wi
  cases e2.symm.trans i1
  cases e3.symm.trans i2
  obtain ⟨kU, u1, u2⟩ := al.2.2 _ _ e3
  have hB : Blank ST x D P.U := ⟨hD, ⟨knV, fun q hq => by rw [hq] at obV; cases obV⟩, by rw [al.findClass]; exact e2, kU, u1, by rw [u2]; exact i3, by rw [u2]; exact e5 i3⟩
  have F1 : Found ST "value" "[B" fV P.U := ⟨SBG.found_only al ⟨cfV, kV, iV, gV⟩, stV⟩
  have F2 : Found ST "coder" "B" fC P.U := ⟨SBG.found_only al ⟨cfC, kC, iC, gC⟩, stC⟩
  have hA : Ch b A P.U := ⟨⟨K.1, State.isArrayOf_alike al K.2.1, K.2.2, by omega⟩, hty⟩
  have hS : StaticIs P.U ST "COMPACT_STRINGS" "Z" (.int z) := by
    obtain ⟨cfS, iS, kS, fS, st, cS, t1, t2, t3, t4, t5, t6, t7⟩ := S
    exact StaticIs.there (s := { Z with heap := P.U.heap }) ⟨cfS, iS, kS, fS, st, cS, t1, t2, t3, t4, t5, (fun q => by rw [q] at t6; cases t6), t7⟩ al rfl
  obtain ⟨v, B, X', ⟨⟨hv, E', V', q1, q2, q3, q4, q5, q6, q7, q8, q9, q10, q11⟩, hl, hc, hs⟩, st⟩ := New1.pays x D fV fC b A z (tab_of (moved hZ hw)) hfr hlo m meth c P g ig mk _ X hg hsize hdg hW hn ⟨r1, r2, rfl, hB, F1, F2, hA, hS, hz, l0, l2, hp⟩
  have al' : Z.vm.Alike B.U.vm := hZ.alike.trans X'.warmed.alike
  have hsz : E'.slots.size = D.slots.size := by
    obtain ⟨-, -, -, kB, w1, w2, w3⟩ := q1
    obtain ⟨kB', y1, y2⟩ := al'.2.2 _ _ e3
    rw [q2.2.1] at w1
    cases w1.symm.trans y1
    rw [w3, e5 i3, y2]
  refine ⟨v, B, X', ⟨_, ⟨hv, ?_, ⟨by omega, fun y cy hy hn' => q10 y cy (by simpa using hn') hy, fun y cy hy => ?_⟩, q11, ⟨E', _, q1.1, by rw [q2.2.1]; exact e2, by rw [q2.2.1]; exact e3, by rw [q2.1]; exact obV, fun _ => by rw [hsz]; exact e5 i3⟩,
    ⟨E', cfV, kV, iV, fV, q1.1, gV, stV, by rw [q2.1]; exact knV, by rw [q2.1]; exact obV, by rw [q2.2.1]; exact asV, q3⟩, ⟨E', cfC, kC, iC, fC, q1.1, gC, stC, by rw [q2.1]; exact knV, by rw [q2.1]; exact obV, by rw [q2.2.1]; exact asC, q4⟩,
    ⟨V', ⟨q5.1, State.isArrayOf_alike al'.symm q5.2.1, q5.2.2.1⟩, q6, by rw [← al'.findClass]; exact q7, q8, fun j hj => by have := q9 j hj; rwa [Nat.zero_add] at this⟩, fun O n d w F n1 n2 => ?_⟩, hl, hc, hs⟩, st⟩
  · intro y hy
    simp only [List.mem_cons, List.not_mem_nil, or_false] at hy
    rcases hy with rfl | rfl <;> rfl
  · by_cases q : y = x
    · subst q
      cases hD.symm.trans hy
      exact ⟨E', q1.1, q2.2.1, q2.1, hsz⟩
    · exact ⟨cy, q10 y cy q hy, rfl, rfl, rfl⟩
  · obtain ⟨D3, cf, k, i, f, g1, g2, g3, g4, g5, g6, g7⟩ := F
    cases hD.symm.trans g1
    simp only [RoadKit.slotOf, g2, gV, gC, Option.map_some, Option.getD_some] at n1 n2
    exact ⟨E', cf, k, i, f, q1.1, g2, g3, by rw [q2.1]; exact g4, by rw [q2.1]; exact g5, by rw [q2.2.1]; exact g6, by rw [q2.2.2 f.slot (by simp [n1, n2])]; exact g7⟩
end StrChars.Road
namespace StrChars.Road
open Jvm Sem ClassFile Op Lib Jvm.Stand Jvm.Free Jvm.Free.XT
/-- WHAT COMES BACK, the byte[] as a list of values -/
def QA (Z : State) (x : Addr) (zn : Int32) (cs : List Int32) (h : Heap) (v : Option Value) (h' : Heap) (L : List Loc) : Prop := v = none ∧ (∀ y ∈ L, y.base = x) ∧ RoadKit.Keep h h' [x] ∧ h'.size = h.size + 1 ∧ RoadKit.Exa Z h' x ST ∧ RoadKit.Fld Z h' x ST "value" "[B" (.ref h.size) ∧ RoadKit.Fld Z h' x ST "coder" "B" (.int 0) ∧
  (∃ kb, Z.vm.findClass "[B" = some kb ∧ RoadKit.Arv Z h' h.size kb .byte zn (cs.map fun c => .int (lo8 c)) (.int 0)) ∧
  ∀ (O n d : String) (w : Value), RoadKit.Fld Z h x O n d w → RoadKit.slotOf Z O n d ≠ RoadKit.slotOf Z ST "value" "[B" → RoadKit.slotOf Z O n d ≠ RoadKit.slotOf Z ST "coder" "B" → RoadKit.Fld Z h' x O n d w
/-- **new String(chars) AT A CALL, THE ARRAYS AS LISTS**: the char[] at b holds cs, not empty, no char above 255 -/
theorem backArv {p : Program} {l : Launch} {e : Env} {R : Room} {s : State} {args : Array Value} {below : List Frame} {len W : Nat} {Z : State} {a0 : Array Value} {h : Heap} (hZ : Z.Warmed39 s.vm) (hw : ∀ d ∈ words, d.before a0 Z = true) {kI : Nat} (wi : (Jvm.Cond.instantiable ST kI).before a0 Z = true)
    {x b : Addr} {k : ClassId} {zn z : Int32} {cs : List Int32} {dv v0 c0 : Value} (E : RoadKit.Exa Z h x ST) (V : RoadKit.Fld Z h x ST "value" "[B" v0) (C : RoadKit.Fld Z h x ST "coder" "B" c0) (K : RoadKit.Arv Z h b k .char zn (cs.map Value.int) dv) (S : RoadKit.Sta Z h ST "COMPACT_STRINGS" "Z" (.int z)) (hz : ¬ z = 0)
    (hlen : zn.toNatClampNeg = cs.length) (h0 : 0 < cs.length) (hbig : cs.length ≤ 536870912) (hall : ∀ c ∈ cs, ¬ 255 < c) (hfr : 4 ≤ R.frames) (hlo : W + 65 ≤ R.locals) :
    Back l R p e below s args New1.yN len W (fun P a => a = #[.ref x, .ref b] ∧ P.U.heap = h ∧ P.cells + 1 ≤ R.cells ∧ P.slots + cs.length ≤ R.slots)
      (fun P _ v B => ∃ L, QA Z x zn cs h v B.U.heap L ∧ B.locs = P.locs ++ L ∧ B.cells = P.cells + 1 ∧ B.slots = P.slots + cs.length) := by
  obtain ⟨A, K1, K2, K3, K4, K5, K6⟩ := K
  have e : A.slots.size = cs.length := K3.trans hlen
  have hat : ∀ (i : Nat) (hi : i < cs.length), A.slots[i]? = some (.int cs[i]) := fun i hi => by rw [K5 i (by omega)]; simp [List.getD_eq_getElem?_getD, hi]
  have hcv : ∀ (i : Nat) (hi : i < cs.length), cv A i = cs[i] := fun i hi => by unfold cv; rw [hat i hi]
  have hty : Typed .char A := fun i v hv => by
    have hi : i < A.slots.size := (Array.getElem?_eq_some_iff.mp hv).1
    have q := K5 i hi
    rw [hv] at q
    rw [Option.some.inj q]
    exact K6 i hi
  refine Back.mono (back hZ hw wi E V C K1 hty S hz (by omega) (by omega) (fun i hi => by rw [hcv i (by omega)]; exact hall _ (List.getElem_mem _)) hfr hlo) (fun P a hp => ⟨hp.1, hp.2.1, hp.2.2.1, by rw [e]; exact hp.2.2.2⟩) (fun P a v B hp hq => ?_)
  obtain ⟨L, ⟨q1, q2, q3, q4, q5, q6, q7, ⟨V', v1, v2, v3, v4, v5⟩, q9⟩, hl, hc, hs⟩ := hq
  refine ⟨L, ⟨q1, q2, q3, q4, q5, q6, q7, ⟨V'.cls, v3, V', v1, rfl, by rw [v4, e, hlen], K4, fun i hi => ?_, fun i hi => ?_⟩, q9⟩, hl, hc, by rw [hs, e]⟩
  · have hi' : i < cs.length := by omega
    rw [v5 i (by omega), hcv i hi']; simp [List.getD_eq_getElem?_getD, hi']
  · have hi' : i < cs.length := by omega
    simp only [List.getD_eq_getElem?_getD, List.getElem?_map, List.getElem?_eq_getElem hi', Option.map_some, Option.getD_some]
    exact fits_lo8 _
end StrChars.Road
namespace StrChars.Road
open Jvm Sem ClassFile Op Lib Jvm.Stand Jvm.Free Jvm.Free.XT
/-- WHAT COMES BACK, in the writer's own shape -/
def QV (Z : State) (x : Addr) (N : Int32) (bs : List Int32) (h : Heap) (n0 : Nat) (v : Option Value) (h' : Heap) (L : List Loc) : Prop := v = none ∧ RoadKit.Fr n0 L ∧ RoadKit.Keep h h' [x] ∧ RoadKit.Exa Z h' x ST ∧ RoadKit.Fld Z h' x ST "coder" "B" (.int 0) ∧
  ∃ (t : Addr) (kb : ClassId), n0 ≤ t ∧ h.size ≤ t ∧ ¬ t = x ∧ RoadKit.Fld Z h' x ST "value" "[B" (.ref t) ∧ RoadKit.Arv Z h' t kb .byte N (bs.map Value.int) (.int 0)
/-- **new String(chars) AT A CALL, FOR THE WRITER**: a char[] of n known ints, each 0 to 255 -/
theorem backV {p : Program} {l : Launch} {e : Env} {R : Room} {s : State} {args : Array Value} {below : List Frame} {len W : Nat} {Z : State} {a0 : Array Value} {h : Heap} (hZ : Z.Warmed39 s.vm) (hw : ∀ d ∈ words, d.before a0 Z = true) {kI : Nat} (wi : (Jvm.Cond.instantiable ST kI).before a0 Z = true)
    {x b : Addr} {kC : ClassId} {cs bs : List Int32} {d v0 c0 : Value} {z N : Int32} {n n0 : Nat} (hx0 : n0 ≤ x) (hh0 : n0 ≤ h.size) (E : RoadKit.Exa Z h x ST) (V : RoadKit.Fld Z h x ST "value" "[B" v0) (C : RoadKit.Fld Z h x ST "coder" "B" c0) (K : RoadKit.Arv Z h b kC .char N (cs.map Value.int) d) (S : RoadKit.Sta Z h ST "COMPACT_STRINGS" "Z" (.int z)) (hz : ¬ z = 0)
    (hn : cs.length = n) (hN : N = Int32.ofNat n) (l0 : 0 < n) (l2 : n ≤ 4000) (hp : ∀ c ∈ cs, ¬ c < 0 ∧ ¬ (255 : Int32) < c) (hb : bs = cs.map (fun c => c.toInt8.toInt32)) (hfr : 4 ≤ R.frames) (hlo : W + 65 ≤ R.locals) :
    Back l R p e below s args (⟨"java/lang/String", "<init>", "([C)V"⟩ : MethodName) len W (fun P a => a = #[.ref x, .ref b] ∧ P.U.heap = h ∧ P.cells + 1 ≤ R.cells ∧ P.slots + n ≤ R.slots)
      (fun P _ v B => ∃ L, QV Z x N bs h n0 v B.U.heap L ∧ B.locs = P.locs ++ L ∧ B.cells = P.cells + 1 ∧ B.slots = P.slots + n) := by
  subst hn hN hb
  refine Back.mono (backArv hZ hw wi E V C K S hz (n32 (by omega)) l0 (by omega) (fun c hc => (hp c hc).2) hfr hlo) (fun P a hp => hp) (fun P a v B hp hq => ?_)
  obtain ⟨L, ⟨q1, q2, q3, q4, q5, q6, q7, ⟨kb, v1, v2⟩, q9⟩, hl, hc, hs⟩ := hq
  exact ⟨L, ⟨q1, fun y hy => by rw [q2 y hy]; exact hx0, q3, q5, q7, h.size, kb, hh0, Nat.le_refl _, Nat.ne_of_gt E.lt, q6, by rw [List.map_map]; exact v2⟩, hl, hc, hs⟩
end StrChars.Road
end Jvm.Pilot.@@N@@
namespace Jvm.Pilot.@@N@@
open Jvm Jvm.ClassFile Sem Op Lib Jvm.Free Jvm.Stand Jvm.LawKit Jvm.RoadKit Bundle Jvm.Pilot.@@N@@.Jvm.D
/-! own small kit: the goal of a walk, backward; the leaves -/
def Gl (tb : Tables) (e : Env) (below : List Frame) (QQ : Outcome → State → Prop) (st : State) : Prop := ∃ s₂ o, Steps tb e below st s₂ ∧ s₂.status = .running ∧ Ended s₂ below o ∧ QQ o s₂
theorem Gl.go {tb : Tables} {e : Env} {below : List Frame} {QQ : Outcome → State → Prop} {st st' : State} (h : ∀ t, Steps tb e below st' t → Steps tb e below st t) (g : Gl tb e below QQ st') : Gl tb e below QQ st := by
  obtain ⟨s2, o, h1, h2⟩ := g
  exact ⟨s2, o, h _ h1, h2⟩
def QQof (s : State) (Q : Option Value → Heap → List Loc → Prop) (k n : Nat) : Outcome → State → Prop := fun o U => ∃ v L, o = .returned v ∧ Q v U.heap L ∧ FrameEnd s o U L k n
section Leaf
variable {p : Program} {l : Launch} {e : Env} {R : Room} {s : State} {m : MethodId} {args : Array Value} {below : List Frame} {meth : Method} {c : Code} {T : State} {locs : List Loc} {cells slots : Nat} {pc : Nat} {Ls : Array Slot} {rest : List Value} {Q : Option Value → Heap → List Loc → Prop} {k n : Nat}
theorem leafN (X : Stand p l e R s m args below meth c T locs cells slots) (hx : p.tables.exec = Jvm.exec) (hlk : meth.locks = false) {z : Int32} {t : FieldType} (hret : meth.sig.returnType = some t) (ht : t = .boolean ∨ t = .byte ∨ t = .char ∨ t = .short) (hd : decode c.code pc = .ok (.ireturn, 1))
    (hq : Q (some (.int (nar t z))) T.heap locs) (hk : cells ≤ k) (hn : slots ≤ n) : Gl p.tables e below (QQof s Q k n) (T.setTop (mkF m pc Ls (.int z :: rest))) := by
  obtain ⟨fs, hr, hrun, hended, hW, hsame⟩ := X.leave (v := some (.int (nar t z))) (fun h => by rw [hret] at h; cases h) hlk
  exact ⟨_, _, retN X hx hret ht hd hr, hrun, hended, _, _, rfl, hq, ⟨_, rfl⟩, hW, hsame.mono hk hn⟩
theorem leafI (X : Stand p l e R s m args below meth c T locs cells slots) (hx : p.tables.exec = Jvm.exec) (hlk : meth.locks = false) {z : Int32} (hret : meth.sig.returnType = some .int) (hd : decode c.code pc = .ok (.ireturn, 1))
    (hq : Q (some (.int z)) T.heap locs) (hk : cells ≤ k) (hn : slots ≤ n) : Gl p.tables e below (QQof s Q k n) (T.setTop (mkF m pc Ls (.int z :: rest))) := by
  obtain ⟨fs, hr, hrun, hended, hW, hsame⟩ := X.leave (v := some (.int z)) (fun h => by rw [hret] at h; cases h) hlk
  exact ⟨_, _, retOut X hx hret rfl (Or.inl ⟨rfl, Or.inl rfl, _, rfl⟩) hd hr, hrun, hended, _, _, rfl, hq, ⟨_, rfl⟩, hW, hsame.mono hk hn⟩
theorem leafL (X : Stand p l e R s m args below meth c T locs cells slots) (hx : p.tables.exec = Jvm.exec) (hlk : meth.locks = false) {z : Int64} (hret : meth.sig.returnType = some .long) (hd : decode c.code pc = .ok (.lreturn, 1))
    (hq : Q (some (.long z)) T.heap locs) (hk : cells ≤ k) (hn : slots ≤ n) : Gl p.tables e below (QQof s Q k n) (T.setTop (mkF m pc Ls (.long z :: rest))) := by
  obtain ⟨fs, hr, hrun, hended, hW, hsame⟩ := X.leave (v := some (.long z)) (fun h => by rw [hret] at h; cases h) hlk
  exact ⟨_, _, retOut X hx hret rfl (Or.inr (Or.inl ⟨rfl, rfl, _, rfl⟩)) hd hr, hrun, hended, _, _, rfl, hq, ⟨_, rfl⟩, hW, hsame.mono hk hn⟩
theorem leafD (X : Stand p l e R s m args below meth c T locs cells slots) (hx : p.tables.exec = Jvm.exec) (hlk : meth.locks = false) {z : UInt64} (hret : meth.sig.returnType = some .double) (hd : decode c.code pc = .ok (.dreturn, 1))
    (hq : Q (some (.double z)) T.heap locs) (hk : cells ≤ k) (hn : slots ≤ n) : Gl p.tables e below (QQof s Q k n) (T.setTop (mkF m pc Ls (.double z :: rest))) := by
  obtain ⟨fs, hr, hrun, hended, hW, hsame⟩ := X.leave (v := some (.double z)) (fun h => by rw [hret] at h; cases h) hlk
  exact ⟨_, _, retOut X hx hret rfl (Or.inr (Or.inr (Or.inl ⟨rfl, rfl, _, rfl⟩))) hd hr, hrun, hended, _, _, rfl, hq, ⟨_, rfl⟩, hW, hsame.mono hk hn⟩
theorem narrowR {t : FieldType} {w : Value} (ht : t.isReference = true) (hw : w.isRef = true) : narrow t w = w := by
  cases w <;> simp [Value.isRef] at hw <;> cases t <;> simp [FieldType.isReference] at ht <;> rfl
theorem leafA (X : Stand p l e R s m args below meth c T locs cells slots) (hx : p.tables.exec = Jvm.exec) (hlk : meth.locks = false) {w : Value} {t : FieldType} (hret : meth.sig.returnType = some t) (ht : t.isReference = true) (hw : w.isRef = true) (hd : decode c.code pc = .ok (.areturn, 1))
    (hq : Q (some w) T.heap locs) (hk : cells ≤ k) (hn : slots ≤ n) : Gl p.tables e below (QQof s Q k n) (T.setTop (mkF m pc Ls (w :: rest))) := by
  obtain ⟨fs, hr, hrun, hended, hW, hsame⟩ := X.leave (v := some w) (fun h => by rw [hret] at h; cases h) hlk
  exact ⟨_, _, retOut X hx hret (narrowR ht hw) (Or.inr (Or.inr (Or.inr (Or.inr ⟨rfl, ht, hw⟩)))) hd hr, hrun, hended, _, _, rfl, hq, ⟨_, rfl⟩, hW, hsame.mono hk hn⟩
theorem leafV (X : Stand p l e R s m args below meth c T locs cells slots) (hx : p.tables.exec = Jvm.exec) (hlk : meth.locks = false) (hret : meth.sig.returnType = none) (hd : decode c.code pc = .ok (.return_, 1))
    (hq : Q none T.heap locs) (hk : cells ≤ k) (hn : slots ≤ n) : Gl p.tables e below (QQof s Q k n) (T.setTop (mkF m pc Ls [])) := by
  obtain ⟨fs, hr, hrun, hended, hW, hsame⟩ := X.leave (v := none) (fun _ => rfl) hlk
  exact ⟨_, _, X.returnOut hx hret hd hr, hrun, hended, _, _, rfl, hq, ⟨_, rfl⟩, hW, hsame.mono hk hn⟩
end Leaf
theorem fitsR {t : FieldType} {w : Value} (ht : t.isReference = true) (hw : w.isRef = true) : fits t w = true := by
  cases w <;> simp [Value.isRef] at hw <;> cases t <;> simp [FieldType.isReference] at ht <;> rfl
theorem nar1 : nar .boolean (1 : Int32) = 1 := by decide
theorem nar0 : nar .boolean (0 : Int32) = 0 := by decide
theorem int_at {args : Array Value} {s : State} {t : Term} {k : Int32} (h : (Jvm.Cond.eq t (.int k)).value args s none s [] = some true) : t.eval args s none [] s = some (.int k) := by
  obtain ⟨x, y, hx, hy, kx, ky⟩ := cmp_v (Or.inl h)
  have hk : y = .int k := Option.some.inj (hy.symm.trans (Term.int_eval k))
  subst hk
  obtain ⟨z, rfl⟩ := ky
  have hz := gotT (Cond.eq_ints hx (Term.int_eval k)) h
  rw [hx, hz]
theorem fld_int {args : Array Value} {s : State} {t : Term} {C n d : String} {k : Int32} {x : Addr} (ht : t.eval args s none [] s = some (.ref x)) (h : (Jvm.Cond.eq (.field t C n d) (.int k)).value args s none s [] = some true) : Fld s s.heap x C n d (.int k) := Fld.start ((fld_at ht).symm.trans (int_at h))
theorem ref_at {args : Array Value} {s : State} {a b : Term} {x : Addr} (hb : b.eval args s none [] s = some (.ref x)) (h : (Jvm.Cond.eq a b).value args s none s [] = some true) : a.eval args s none [] s = some (.ref x) := by
  obtain ⟨y, z, hy, hz, ky, kz⟩ := cmp_v (Or.inl h)
  have hk : z = .ref x := Option.some.inj (hz.symm.trans hb)
  subst hk
  have hr : y.isRef = true := kz.2
  have he := gotT (eq_R hy hb hr rfl) h
  rw [hy, he]
theorem ext_of_keep {h h' : Heap} (K : Keep h h' []) : Ext h h' := ⟨K.1, fun a c q => K.2.1 a c q nin0⟩
theorem arr_len {args : Array Value} {s : State} {t : Term} {a : Addr} {cl : Cell} {ty : FieldType} {k : Int32} (ev : t.eval args s none [] s = some (.ref a)) (A : Arr s s.heap a cl ty) (h : (Jvm.Cond.eq (.length t) (.int k)).value args s none s [] = some true) : cl.slots.size < 2 ^ 31 ∧ cl.slots.size.toInt32 = k := by
  obtain ⟨b, cell, e1, e2, e3, e4⟩ := Jvm.Lib.length_spec (int_at h)
  have hb : a = b := Value.ref.inj (Option.some.inj (ev.symm.trans e1))
  subst hb
  have hc : cl = cell := Option.some.inj ((A.fin (Vm.Alike.refl _)).symm.trans e2)
  subst hc
  exact ⟨e3, (Value.int.inj e4).symm⟩
theorem arr_elem {args : Array Value} {s : State} {t : Term} {a : Addr} {cl : Cell} {ty : FieldType} {j : Int32} {v : Value} (ev : t.eval args s none [] s = some (.ref a)) (A : Arr s s.heap a cl ty) (h : (Term.elem t (.int j)).eval args s none [] s = some v) : cl.slots[j.toNatClampNeg]? = some v := (elem_in h ev (Term.int_eval j) A.1).2
/-! own kit, the wide family: bodies that may intern -/
def QQofW (Z : State) (EL : List (String × Nat)) (s : State) (Q : Option Value → Heap → List Loc → Prop) (k n : Nat) : Outcome → State → Prop := fun o U => ∃ v L, o = .returned v ∧ Q v U.heap L ∧ CHr Z EL s.vm s.heap U.vm U.heap ∧ ReturnedEndW s o U L k n
section LeafW
variable {p : Program} {l : Launch} {e : Env} {R : Room} {s : State} {m : MethodId} {args : Array Value} {below : List Frame} {meth : Method} {c : Code} {T : State} {locs : List Loc} {cells slots : Nat} {pc : Nat} {Ls : Array Slot} {rest : List Value} {Q : Option Value → Heap → List Loc → Prop} {k n : Nat} {vm0 : Vm} {k0 : Nat} {Z : State} {EL : List (String × Nat)} {h0 : Heap}
theorem leafWN (X : Stand p l e R (s.setVm vm0) m args below meth c T locs cells slots) (hS : s.Since vm0 k0) (hk0 : k0 ≤ T.heap.size) (hx : p.tables.exec = Jvm.exec) (hlk : meth.locks = false) {z : Int32} {t : FieldType} (hret : meth.sig.returnType = some t) (ht : t = .boolean ∨ t = .byte ∨ t = .char ∨ t = .short) (hd : decode c.code pc = .ok (.ireturn, 1))
    (hC : CHr Z EL s.vm h0 T.vm T.heap) (hh : s.heap = h0) (hq : Q (some (.int (nar t z))) T.heap locs) (hk : cells ≤ k) (hn : slots ≤ n) : Gl p.tables e below (QQofW Z EL s Q k n) (T.setTop (mkF m pc Ls (.int z :: rest))) := by
  subst hh
  obtain ⟨fs, hr, hrun, hended, q1, q2, q3, q4⟩ := X.leaveW hS hk0 (v := some (.int (nar t z))) (fun h => by rw [hret] at h; cases h) hlk
  exact ⟨_, _, retN X hx hret ht hd hr, hrun, hended, _, _, rfl, hq, hC, q1, q2, q3, q4.mono hk hn⟩
theorem leafWA (X : Stand p l e R (s.setVm vm0) m args below meth c T locs cells slots) (hS : s.Since vm0 k0) (hk0 : k0 ≤ T.heap.size) (hx : p.tables.exec = Jvm.exec) (hlk : meth.locks = false) {w : Value} {t : FieldType} (hret : meth.sig.returnType = some t) (ht : t.isReference = true) (hw : w.isRef = true) (hd : decode c.code pc = .ok (.areturn, 1))
    (hC : CHr Z EL s.vm h0 T.vm T.heap) (hh : s.heap = h0) (hq : Q (some w) T.heap locs) (hk : cells ≤ k) (hn : slots ≤ n) : Gl p.tables e below (QQofW Z EL s Q k n) (T.setTop (mkF m pc Ls (w :: rest))) := by
  subst hh
  obtain ⟨fs, hr, hrun, hended, q1, q2, q3, q4⟩ := X.leaveW hS hk0 (v := some w) (fun h => by rw [hret] at h; cases h) hlk
  exact ⟨_, _, retOut X hx hret (narrowR ht hw) (Or.inr (Or.inr (Or.inr (Or.inr ⟨rfl, ht, hw⟩)))) hd hr, hrun, hended, _, _, rfl, hq, hC, q1, q2, q3, q4.mono hk hn⟩
theorem leafWV (X : Stand p l e R (s.setVm vm0) m args below meth c T locs cells slots) (hS : s.Since vm0 k0) (hk0 : k0 ≤ T.heap.size) (hx : p.tables.exec = Jvm.exec) (hlk : meth.locks = false) (hret : meth.sig.returnType = none) (hd : decode c.code pc = .ok (.return_, 1))
    (hC : CHr Z EL s.vm h0 T.vm T.heap) (hh : s.heap = h0) (hq : Q none T.heap locs) (hk : cells ≤ k) (hn : slots ≤ n) : Gl p.tables e below (QQofW Z EL s Q k n) (T.setTop (mkF m pc Ls [])) := by
  subst hh
  obtain ⟨fs, hr, hrun, hended, q1, q2, q3, q4⟩ := X.leaveW hS hk0 (v := none) (fun _ => rfl) hlk
  exact ⟨_, _, X.returnOut hx hret hd hr, hrun, hended, _, _, rfl, hq, hC, q1, q2, q3, q4.mono hk hn⟩
end LeafW
/-! own kit: Strings by their (signed) bytes -/
def StrAt (Z : State) (h : Heap) (a : Addr) (bs : List Int32) : Prop := Exa Z h a "java/lang/String" ∧ Fld Z h a "java/lang/String" "coder" "B" (.int (0 : Int32)) ∧ bs.length < 2 ^ 31 ∧ ∃ (b : Addr) (k : ClassId), Fld Z h a "java/lang/String" "value" "[B" (.ref b) ∧ Arv Z h b k .byte (Int32.ofNat bs.length) (bs.map Value.int) (.int (0 : Int32))
theorem StrAt.ext {Z : State} {h h' : Heap} {a : Addr} {bs : List Int32} (S : StrAt Z h a bs) (E : Ext h h') : StrAt Z h' a bs := by
  obtain ⟨E1, C1, l1, b, k, V1, K1⟩ := S
  exact ⟨E1.ext E, C1.ext E, l1, b, k, V1.ext E, K1.ext E⟩
theorem i32_nat {i : Nat} (h : i < 2 ^ 31) : (Int32.ofNat i).toNatClampNeg = i := by
  have e : (Int32.ofNat i).toInt = i := Int32.toInt_ofNat_of_lt (by omega)
  simp only [Int32.toNatClampNeg, e]; rfl
theorem i32_lt {i n : Nat} (h : i < n) (hn : n < 2 ^ 31) : Int32.ofNat i < Int32.ofNat n := by
  rw [Int32.lt_iff_toInt_lt, Int32.toInt_ofNat_of_lt (by omega), Int32.toInt_ofNat_of_lt (by omega)]; omega
theorem i32_pos {i : Nat} (h : i < 2 ^ 31) : ¬ Int32.ofNat i < 0 := by
  rw [Int32.lt_iff_toInt_lt, Int32.toInt_ofNat_of_lt (by omega)]
  have e : (0 : Int32).toInt = 0 := by decide
  omega
theorem i32_succ (i : Nat) : (Int32.ofNat i + (1 : Int32)) = Int32.ofNat (i + 1) := (Int32.ofNat_add i 1).symm
theorem i32_inj {i n : Nat} (h : i < 2 ^ 31) (hn : n < 2 ^ 31) (e : Int32.ofNat i = Int32.ofNat n) : i = n := by
  have := congrArg Int32.toNatClampNeg e
  rwa [i32_nat h, i32_nat hn] at this
theorem mapGetD (bs : List Int32) (i : Nat) : (bs.map Value.int).getD i (.int (0 : Int32)) = .int (bs.getD i 0) := by
  rw [List.getD_eq_getElem?_getD, List.getD_eq_getElem?_getD, List.getElem?_map]
  cases bs[i]? <;> rfl
theorem getD_at (bs : List Int32) {i : Nat} (h : i < 2 ^ 31) : (bs.map Value.int).getD (Int32.ofNat i).toNatClampNeg (.int (0 : Int32)) = .int (bs.getD i 0) := by
  rw [i32_nat h]; exact mapGetD bs i
theorem StrAt.inj {Z : State} {h : Heap} {a : Addr} {bs cs : List Int32} (S : StrAt Z h a bs) (S' : StrAt Z h a cs) : bs = cs := by
  obtain ⟨-, -, l1, b, k, V1, K1⟩ := S
  obtain ⟨-, -, l2, b', k', V2, K2⟩ := S'
  have hb : b = b' := Value.ref.inj (Decidable.byContradiction fun hne => Fld.ne V1 V2 hne rfl)
  subst hb
  have hlen : bs.length = cs.length := Decidable.byContradiction fun hne => arv_ne K1 K2 (Or.inl (by rw [i32_nat l1, i32_nat l2]; exact hne)) rfl
  refine List.ext_getElem hlen fun i h1 h2 => Decidable.byContradiction fun hne => arv_ne K1 K2 (Or.inr ⟨i, by rw [i32_nat l1]; exact h1, ?_⟩) rfl
  rw [mapGetD, mapGetD]
  intro q
  have q' := Value.int.inj q
  rw [List.getD_eq_getElem?_getD, List.getD_eq_getElem?_getD, List.getElem?_eq_getElem h1, List.getElem?_eq_getElem h2] at q'
  exact hne q'
def eqI (bs cs : List Int32) : Int32 := if bs = cs then (1 : Int32) else (0 : Int32)
theorem eqI_one {bs cs : List Int32} (h : ¬ eqI bs cs = 0) : eqI bs cs = 1 := by
  unfold eqI at h ⊢
  split
  · rfl
  · next q => rw [if_neg q] at h; exact absurd rfl h
theorem eqI_yes {bs cs : List Int32} (h : bs = cs) : eqI bs cs = 1 := by unfold eqI; rw [if_pos h]
theorem eqI_no {bs cs : List Int32} (h : ¬ bs = cs) : eqI bs cs = 0 := by unfold eqI; rw [if_neg h]
theorem take_all {bs cs : List Int32} (hl : bs.length = cs.length) (h : bs.take bs.length = cs.take bs.length) : bs = cs := by
  rw [List.take_length] at h
  rw [hl, List.take_length] at h
  exact h
theorem take_more {bs cs : List Int32} {i : Nat} (h1 : i < bs.length) (h2 : i < cs.length) (h : bs.take i = cs.take i) (e : bs.getD i 0 = cs.getD i 0) : bs.take (i + 1) = cs.take (i + 1) := by
  rw [List.getD_eq_getElem?_getD, List.getD_eq_getElem?_getD, List.getElem?_eq_getElem h1, List.getElem?_eq_getElem h2] at e
  rw [List.take_succ_eq_append_getElem h1, List.take_succ_eq_append_getElem h2, h]
  simp at e
  rw [e]
abbrev elL : List (String × Nat) := [("java/lang/String", 7)]
theorem selPriv {Z s : State} {a0 args : Array Value} {y : MethodName} {n : Nat} (hZ : Z.Warmed39 s.vm) (wi : (Jvm.Cond.instantiable y.cls n).before a0 Z = true) (wm : (Jvm.Cond.instanceMethod y).before a0 Z = true) (wp : (Jvm.Cond.privateMethod y).before a0 Z = true) (hy : y.cls ≠ "java/lang/invoke/MethodHandle" ∧ y.cls ≠ "java/lang/invoke/VarHandle") : (Jvm.Cond.selects y.cls y y).before args s = true := by
  have wi' : (Jvm.Cond.instantiable y.cls n).before args s = true := mvT hZ wi
  obtain ⟨cc, k, f1, f2, -, f4, -⟩ := Cond.instantiable_spec wi'
  exact selects_self_of_private f1 f2 (Bool.or_eq_false_iff.mp f4).1 (Cond.privateMethod_at (args := #[]) (mvP hZ wp)) (mvT hZ wm) hy
theorem own_safe {Z : State} {EL : List (String × Nat)} {vm : Vm} {h : Heap} {x : Addr} (hal : Z.vm.Alike vm) (V : Fld Z h x "java/lang/String" "value" "[B" .null) (E : Exa Z h x "java/lang/String") : Safe Z EL vm h x := fun B => by
  obtain ⟨p, -, u, a, -, q, -, F, hx | hx⟩ := B
  · subst hx
    obtain ⟨cS, ⟨⟨s1, s2, s3, ⟨cv, kv, iv, s4, s4'⟩, -, s6, -, s8, -⟩, -, -⟩, -⟩ := F
    obtain ⟨kv', z4⟩ := ff_back (U := Wst Z vm h) hal s4
    have G : Fld Z h q.sa "java/lang/String" "value" "[B" (.ref q.sd) := ⟨q.sC, cv, kv', iv, q.fSV, s1, z4, s6, s2, s3, by rw [← hal.assignable]; exact s4', s8⟩
    exact Fld.ne V G (fun z => by cases z) rfl
  · subst hx
    obtain ⟨cell, k, e1, e2, -⟩ := E
    have hc : q.SA = cell := Option.some.inj ((show h[q.sd]? = some q.SA from F.hd).symm.trans e1)
    obtain ⟨cS, -, -, f, -⟩ := F
    have f' : Z.vm.findClass "[B" = some q.SA.cls := by rw [← hal.findClass]; exact f
    rw [hc] at f'
    exact ids_ne f' e2 (by decide) rfl
theorem nb0 : nar .byte (0 : Int32) = (0 : Int32) := by decide
theorem own_low (x : Int32) : ¬ (255 : Int32) < ((x &&& (255 : Int32)).toUInt32.toUInt16.toUInt32.toInt32) := by
  have t : ∀ k : Fin 256, ¬ (255 : Int32) < ((Int32.ofNat k.val).toUInt32.toUInt16.toUInt32.toInt32) := by decide +kernel
  have h : (x &&& 255).toBitVec.toNat < 256 := by
    simp only [Int32.toBitVec_and, BitVec.toNat_and]
    exact Nat.lt_succ_of_le Nat.and_le_right
  have e : (x &&& 255) = Int32.ofNat (x &&& 255).toBitVec.toNat := by
    apply Int32.toBitVec_inj.mp
    show _ = BitVec.ofNat 32 _
    rw [BitVec.ofNat_toNat]; simp
  rw [e]
  exact t ⟨_, h⟩
def chr8 (x : Int32) : Int32 := nar .char ((x &&& (255 : Int32)).toUInt32.toUInt16.toUInt32.toInt32)
theorem own_chr (x : Int32) : ¬ chr8 x < 0 ∧ ¬ (255 : Int32) < chr8 x := by
  have t : ∀ k : Fin 256, ¬ nar .char ((Int32.ofNat k.val).toUInt32.toUInt16.toUInt32.toInt32) < 0 ∧ ¬ (255 : Int32) < nar .char ((Int32.ofNat k.val).toUInt32.toUInt16.toUInt32.toInt32) := by decide +kernel
  have h : (x &&& 255).toBitVec.toNat < 256 := by
    simp only [Int32.toBitVec_and, BitVec.toNat_and]
    exact Nat.lt_succ_of_le Nat.and_le_right
  have e : (x &&& 255) = Int32.ofNat (x &&& 255).toBitVec.toNat := by
    apply Int32.toBitVec_inj.mp
    show _ = BitVec.ofNat 32 _
    rw [BitVec.ofNat_toNat]; simp
  unfold chr8
  rw [e]
  exact t ⟨_, h⟩
def lnV (x : Int32) : Int32 := (((x.toUInt32 >>> ((16 : Int32) &&& 31).toUInt32).toInt32) &&& (3 : Int32))
def stV (x : Int32) : List Int32 := if lnV x = (0 : Int32) then [] else (if lnV x = (1 : Int32) then [nar .byte ((((x &&& (255 : Int32)).toUInt32.toUInt16.toUInt32.toInt32)).toInt8.toInt32)] else (([chr8 x, chr8 ((x.toUInt32 >>> ((8 : Int32) &&& 31).toUInt32).toInt32)] : List Int32).map (fun c => c.toInt8.toInt32)))
theorem own_pos (x : Int32) : 0 ≤ (x &&& (2147483647 : Int32)).toInt := (c_and x (2147483647 : Int32) (by decide)).1
theorem own_m4 (x : Int32) : ((x &&& (2147483647 : Int32)) % (4 : Int32)) = (0 : Int32) ∨ ((x &&& (2147483647 : Int32)) % (4 : Int32)) = (1 : Int32) ∨ ((x &&& (2147483647 : Int32)) % (4 : Int32)) = (2 : Int32) ∨ ((x &&& (2147483647 : Int32)) % (4 : Int32)) = (3 : Int32) := by
  have q : ((x &&& (2147483647 : Int32)) % (4 : Int32)).toInt = (x &&& (2147483647 : Int32)).toInt % (4 : Int32).toInt := by
    rw [Int32.toInt_mod, Int.tmod_eq_emod_of_nonneg (own_pos x)]
  have e4 : (4 : Int32).toInt = 4 := by decide
  have e3 : (3 : Int32).toInt = 3 := by decide
  have e2 : (2 : Int32).toInt = 2 := by decide
  have e1 : (1 : Int32).toInt = 1 := by decide
  have e0 : (0 : Int32).toInt = 0 := by decide
  rw [e4] at q
  have : (x &&& (2147483647 : Int32)).toInt % 4 = 0 ∨ (x &&& (2147483647 : Int32)).toInt % 4 = 1 ∨ (x &&& (2147483647 : Int32)).toInt % 4 = 2 ∨ (x &&& (2147483647 : Int32)).toInt % 4 = 3 := by omega
  rcases this with h | h | h | h
  · exact Or.inl (Int32.toInt_inj.mp (by rw [q, e0]; exact h))
  · exact Or.inr (Or.inl (Int32.toInt_inj.mp (by rw [q, e1]; exact h)))
  · exact Or.inr (Or.inr (Or.inl (Int32.toInt_inj.mp (by rw [q, e2]; exact h))))
  · exact Or.inr (Or.inr (Or.inr (Int32.toInt_inj.mp (by rw [q, e3]; exact h))))
theorem pn_0 : plainName "java/lang/StringLatin1" = true := by first | (simp [plainName, overriddenIn]; done) | decide +kernel
theorem ef_leq (m : MethodId) (x0 : Addr) (x1 : Addr) : entryFrame m #[(.ref x0), (.ref x1)] 3 = mkF m 0 #[.val (.ref x0), .val (.ref x1), .unset] [] := by first | (simp [entryFrame, mkF, argsToLocals, Value.category]; done) | rfl
theorem d11_0 : decode jdk_43_method_13_code 0 = .ok (.aload_n 0, 1) := by decide +kernel
theorem d11_1 : decode jdk_43_method_13_code 1 = .ok (.arraylength, 1) := by decide +kernel
theorem d11_2 : decode jdk_43_method_13_code 2 = .ok (.aload_n 1, 1) := by decide +kernel
theorem d11_3 : decode jdk_43_method_13_code 3 = .ok (.arraylength, 1) := by decide +kernel
theorem d11_4 : decode jdk_43_method_13_code 4 = .ok (.if_icmp .ne 30, 3) := by decide +kernel
theorem d11_7 : decode jdk_43_method_13_code 7 = .ok (.iconst 0, 1) := by decide +kernel
theorem d11_8 : decode jdk_43_method_13_code 8 = .ok (.istore_n 2, 1) := by decide +kernel
theorem d11_9 : decode jdk_43_method_13_code 9 = .ok (.iload_n 2, 1) := by decide +kernel
theorem d11_10 : decode jdk_43_method_13_code 10 = .ok (.aload_n 0, 1) := by decide +kernel
theorem d11_11 : decode jdk_43_method_13_code 11 = .ok (.arraylength, 1) := by decide +kernel
theorem d11_12 : decode jdk_43_method_13_code 12 = .ok (.if_icmp .ge 20, 3) := by decide +kernel
theorem d11_32 : decode jdk_43_method_13_code 32 = .ok (.iconst 1, 1) := by decide +kernel
theorem d11_33 : decode jdk_43_method_13_code 33 = .ok (.ireturn, 1) := by decide +kernel
theorem d11_15 : decode jdk_43_method_13_code 15 = .ok (.aload_n 0, 1) := by decide +kernel
theorem d11_16 : decode jdk_43_method_13_code 16 = .ok (.iload_n 2, 1) := by decide +kernel
theorem d11_17 : decode jdk_43_method_13_code 17 = .ok (.baload, 1) := by decide +kernel
theorem d11_18 : decode jdk_43_method_13_code 18 = .ok (.aload_n 1, 1) := by decide +kernel
theorem d11_19 : decode jdk_43_method_13_code 19 = .ok (.iload_n 2, 1) := by decide +kernel
theorem d11_20 : decode jdk_43_method_13_code 20 = .ok (.baload, 1) := by decide +kernel
theorem d11_21 : decode jdk_43_method_13_code 21 = .ok (.if_icmp .eq 5, 3) := by decide +kernel
theorem d11_26 : decode jdk_43_method_13_code 26 = .ok (.iinc 2 1, 3) := by decide +kernel
theorem d11_29 : decode jdk_43_method_13_code 29 = .ok (.goto (-20), 3) := by decide +kernel
theorem d11_24 : decode jdk_43_method_13_code 24 = .ok (.iconst 0, 1) := by decide +kernel
theorem d11_25 : decode jdk_43_method_13_code 25 = .ok (.ireturn, 1) := by decide +kernel
theorem d11_34 : decode jdk_43_method_13_code 34 = .ok (.iconst 0, 1) := by decide +kernel
theorem d11_35 : decode jdk_43_method_13_code 35 = .ok (.ireturn, 1) := by decide +kernel
theorem pn_1 : plainName "java/lang/String" = true := by first | (simp [plainName, overriddenIn]; done) | decide +kernel
theorem ef_seq (m : MethodId) (x0 : Addr) (x1 : Addr) : entryFrame m #[(.ref x0), (.ref x1)] 3 = mkF m 0 #[.val (.ref x0), .val (.ref x1), .unset] [] := by first | (simp [entryFrame, mkF, argsToLocals, Value.category]; done) | rfl
theorem d10_0 : decode jdk_42_method_66_code 0 = .ok (.aload_n 0, 1) := by decide +kernel
theorem d10_1 : decode jdk_42_method_66_code 1 = .ok (.aload_n 1, 1) := by decide +kernel
theorem d10_2 : decode jdk_42_method_66_code 2 = .ok (.if_acmp .ne 5, 3) := by decide +kernel
theorem d10_5 : decode jdk_42_method_66_code 5 = .ok (.iconst 1, 1) := by decide +kernel
theorem d10_6 : decode jdk_42_method_66_code 6 = .ok (.ireturn, 1) := by decide +kernel
theorem d10_7 : decode jdk_42_method_66_code 7 = .ok (.aload_n 1, 1) := by decide +kernel
theorem d10_8 : decode jdk_42_method_66_code 8 = .ok (.instanceof 10, 3) := by decide +kernel
theorem d10_11 : decode jdk_42_method_66_code 11 = .ok (.ifCond .eq 43, 3) := by decide +kernel
theorem d10_14 : decode jdk_42_method_66_code 14 = .ok (.aload_n 1, 1) := by decide +kernel
theorem d10_15 : decode jdk_42_method_66_code 15 = .ok (.checkcast 10, 3) := by decide +kernel
theorem d10_18 : decode jdk_42_method_66_code 18 = .ok (.astore_n 2, 1) := by decide +kernel
theorem d10_19 : decode jdk_42_method_66_code 19 = .ok (.getstatic 38, 3) := by decide +kernel
theorem d10_22 : decode jdk_42_method_66_code 22 = .ok (.ifCond .eq 14, 3) := by decide +kernel
theorem d10_25 : decode jdk_42_method_66_code 25 = .ok (.aload_n 0, 1) := by decide +kernel
theorem d10_26 : decode jdk_42_method_66_code 26 = .ok (.getfield 15, 3) := by decide +kernel
theorem d10_29 : decode jdk_42_method_66_code 29 = .ok (.aload_n 2, 1) := by decide +kernel
theorem d10_30 : decode jdk_42_method_66_code 30 = .ok (.getfield 15, 3) := by decide +kernel
theorem d10_33 : decode jdk_42_method_66_code 33 = .ok (.if_icmp .ne 21, 3) := by decide +kernel
theorem d10_36 : decode jdk_42_method_66_code 36 = .ok (.aload_n 0, 1) := by decide +kernel
theorem d10_37 : decode jdk_42_method_66_code 37 = .ok (.getfield 9, 3) := by decide +kernel
theorem d10_40 : decode jdk_42_method_66_code 40 = .ok (.aload_n 2, 1) := by decide +kernel
theorem d10_41 : decode jdk_42_method_66_code 41 = .ok (.getfield 9, 3) := by decide +kernel
theorem pd_0 : parseMethodDescriptor "([B[B)Z" = some ⟨[(.array .byte), (.array .byte)], some .boolean⟩ := by decide +kernel
theorem d10_44 : decode jdk_42_method_66_code 44 = .ok (.invokestatic 541, 3) := by decide +kernel
theorem d10_47 : decode jdk_42_method_66_code 47 = .ok (.ifCond .eq 7, 3) := by decide +kernel
theorem d10_54 : decode jdk_42_method_66_code 54 = .ok (.iconst 0, 1) := by decide +kernel
theorem d10_55 : decode jdk_42_method_66_code 55 = .ok (.ireturn, 1) := by decide +kernel
theorem d10_50 : decode jdk_42_method_66_code 50 = .ok (.iconst 1, 1) := by decide +kernel
theorem d10_51 : decode jdk_42_method_66_code 51 = .ok (.goto 4, 3) := by decide +kernel
theorem ef_cen (m : MethodId) (x0 : Int32) : entryFrame m #[(.int x0)] 1 = mkF m 0 #[.val (.int x0)] [] := by first | (simp [entryFrame, mkF, argsToLocals, Value.category]; done) | rfl
theorem d16_0 : decode jdk_43_method_3_code 0 = .ok (.iload_n 0, 1) := by decide +kernel
theorem d16_1 : decode jdk_43_method_3_code 1 = .ok (.sipush 255, 3) := by decide +kernel
theorem d16_4 : decode jdk_43_method_3_code 4 = .ok (.if_icmp .gt 7, 3) := by decide +kernel
theorem d16_7 : decode jdk_43_method_3_code 7 = .ok (.iconst 1, 1) := by decide +kernel
theorem d16_8 : decode jdk_43_method_3_code 8 = .ok (.goto 4, 3) := by decide +kernel
theorem d16_12 : decode jdk_43_method_3_code 12 = .ok (.ireturn, 1) := by decide +kernel
theorem ef_tby (m : MethodId) (x0 : Int32) : entryFrame m #[(.int x0)] 1 = mkF m 0 #[.val (.int x0)] [] := by first | (simp [entryFrame, mkF, argsToLocals, Value.category]; done) | rfl
theorem d17_0 : decode jdk_43_method_46_code 0 = .ok (.iconst 1, 1) := by decide +kernel
theorem d17_1 : decode jdk_43_method_46_code 1 = .ok (.newarray .byte, 2) := by decide +kernel
theorem d17_3 : decode jdk_43_method_46_code 3 = .ok (.dup, 1) := by decide +kernel
theorem d17_4 : decode jdk_43_method_46_code 4 = .ok (.iconst 0, 1) := by decide +kernel
theorem d17_5 : decode jdk_43_method_46_code 5 = .ok (.iload_n 0, 1) := by decide +kernel
theorem d17_6 : decode jdk_43_method_46_code 6 = .ok (.i2b, 1) := by decide +kernel
theorem d17_7 : decode jdk_43_method_46_code 7 = .ok (.bastore, 1) := by decide +kernel
theorem d17_8 : decode jdk_43_method_46_code 8 = .ok (.areturn, 1) := by decide +kernel
theorem ef_sin (m : MethodId) (x0 : Addr) (x1 : Addr) (x2 : Int32) : entryFrame m #[(.ref x0), (.ref x1), (.int x2)] 3 = mkF m 0 #[.val (.ref x0), .val (.ref x1), .val (.int x2)] [] := by first | (simp [entryFrame, mkF, argsToLocals, Value.category]; done) | rfl
theorem d18_0 : decode jdk_42_method_151_code 0 = .ok (.aload_n 0, 1) := by decide +kernel
theorem d18_1 : decode jdk_42_method_151_code 1 = .ok (.invokespecial 1, 3) := by decide +kernel
theorem d18_4 : decode jdk_42_method_151_code 4 = .ok (.aload_n 0, 1) := by decide +kernel
theorem d18_5 : decode jdk_42_method_151_code 5 = .ok (.aload_n 1, 1) := by decide +kernel
theorem d18_6 : decode jdk_42_method_151_code 6 = .ok (.putfield 9, 3) := by decide +kernel
theorem d18_9 : decode jdk_42_method_151_code 9 = .ok (.aload_n 0, 1) := by decide +kernel
theorem d18_10 : decode jdk_42_method_151_code 10 = .ok (.iload_n 2, 1) := by decide +kernel
theorem d18_11 : decode jdk_42_method_151_code 11 = .ok (.putfield 15, 3) := by decide +kernel
theorem d18_14 : decode jdk_42_method_151_code 14 = .ok (.return_, 1) := by decide +kernel
theorem ef_vof (m : MethodId) (x0 : Int32) : entryFrame m #[(.int x0)] 1 = mkF m 0 #[.val (.int x0)] [] := by first | (simp [entryFrame, mkF, argsToLocals, Value.category]; done) | rfl
theorem d15_0 : decode jdk_42_method_139_code 0 = .ok (.getstatic 38, 3) := by decide +kernel
theorem d15_3 : decode jdk_42_method_139_code 3 = .ok (.ifCond .eq 23, 3) := by decide +kernel
theorem d15_6 : decode jdk_42_method_139_code 6 = .ok (.iload_n 0, 1) := by decide +kernel
theorem pd_1 : parseMethodDescriptor "(C)Z" = some ⟨[.char], some .boolean⟩ := by decide +kernel
theorem d15_7 : decode jdk_42_method_139_code 7 = .ok (.invokestatic 1015, 3) := by decide +kernel
theorem d15_10 : decode jdk_42_method_139_code 10 = .ok (.ifCond .eq 16, 3) := by decide +kernel
theorem d15_13 : decode jdk_42_method_139_code 13 = .ok (.new 10, 3) := by decide +kernel
theorem d15_16 : decode jdk_42_method_139_code 16 = .ok (.dup, 1) := by decide +kernel
theorem d15_17 : decode jdk_42_method_139_code 17 = .ok (.iload_n 0, 1) := by decide +kernel
theorem pd_2 : parseMethodDescriptor "(C)[B" = some ⟨[.char], some (.array .byte)⟩ := by decide +kernel
theorem d15_18 : decode jdk_42_method_139_code 18 = .ok (.invokestatic 1018, 3) := by decide +kernel
theorem d15_21 : decode jdk_42_method_139_code 21 = .ok (.iconst 0, 1) := by decide +kernel
theorem pd_3 : parseMethodDescriptor "([BB)V" = some ⟨[(.array .byte), .byte], none⟩ := by decide +kernel
theorem d15_22 : decode jdk_42_method_139_code 22 = .ok (.invokespecial 209, 3) := by decide +kernel
theorem d15_25 : decode jdk_42_method_139_code 25 = .ok (.areturn, 1) := by decide +kernel
theorem pn_2 : plainName "org/semfolio/Dom$Node" = true := by first | (simp [plainName, overriddenIn]; done) | decide +kernel
theorem ef_nin (m : MethodId) (x0 : Addr) : entryFrame m #[(.ref x0)] 1 = mkF m 0 #[.val (.ref x0)] [] := by first | (simp [entryFrame, mkF, argsToLocals, Value.category]; done) | rfl
theorem d6_0 : decode prog_17_method_1_code 0 = .ok (.aload_n 0, 1) := by decide +kernel
theorem d6_1 : decode prog_17_method_1_code 1 = .ok (.invokespecial 1, 3) := by decide +kernel
theorem d6_4 : decode prog_17_method_1_code 4 = .ok (.return_, 1) := by decide +kernel
theorem pn_3 : plainName "org/semfolio/Dom$Element" = true := by first | (simp [plainName, overriddenIn]; done) | decide +kernel
theorem ef_ein (m : MethodId) (x0 : Addr) (x1 : Addr) (x2 : Addr) (x3 : Addr) : entryFrame m #[(.ref x0), (.ref x1), (.ref x2), (.ref x3)] 4 = mkF m 0 #[.val (.ref x0), .val (.ref x1), .val (.ref x2), .val (.ref x3)] [] := by first | (simp [entryFrame, mkF, argsToLocals, Value.category]; done) | rfl
theorem d5_0 : decode prog_16_method_1_code 0 = .ok (.aload_n 0, 1) := by decide +kernel
theorem pd_4 : parseMethodDescriptor "()V" = some ⟨[], none⟩ := by decide +kernel
theorem d5_1 : decode prog_16_method_1_code 1 = .ok (.invokespecial 1, 3) := by decide +kernel
theorem d5_4 : decode prog_16_method_1_code 4 = .ok (.aload_n 0, 1) := by decide +kernel
theorem d5_5 : decode prog_16_method_1_code 5 = .ok (.aload_n 1, 1) := by decide +kernel
theorem d5_6 : decode prog_16_method_1_code 6 = .ok (.putfield 7, 3) := by decide +kernel
theorem d5_9 : decode prog_16_method_1_code 9 = .ok (.aload_n 0, 1) := by decide +kernel
theorem d5_10 : decode prog_16_method_1_code 10 = .ok (.aload_n 2, 1) := by decide +kernel
theorem d5_11 : decode prog_16_method_1_code 11 = .ok (.putfield 13, 3) := by decide +kernel
theorem d5_14 : decode prog_16_method_1_code 14 = .ok (.aload_n 0, 1) := by decide +kernel
theorem d5_15 : decode prog_16_method_1_code 15 = .ok (.aload_n 3, 1) := by decide +kernel
theorem d5_16 : decode prog_16_method_1_code 16 = .ok (.putfield 16, 3) := by decide +kernel
theorem d5_19 : decode prog_16_method_1_code 19 = .ok (.return_, 1) := by decide +kernel
theorem ef_iz2 (m : MethodId) (x0 : Addr) (x1 : Addr) (x2 : Int32) (x3 : Int32) : entryFrame m #[(.ref x0), (.ref x1), (.int x2), (.int x3), .null] 6 = mkF m 0 #[.val (.ref x0), .val (.ref x1), .val (.int x2), .val (.int x3), .val .null, .unset] [] := by first | (simp [entryFrame, mkF, argsToLocals, Value.category]; done) | rfl
theorem d3_0 : decode jdk_42_method_149_code 0 = .ok (.aload_n 0, 1) := by decide +kernel
theorem d3_1 : decode jdk_42_method_149_code 1 = .ok (.invokespecial 1, 3) := by decide +kernel
theorem d3_4 : decode jdk_42_method_149_code 4 = .ok (.iload_n 3, 1) := by decide +kernel
theorem d3_5 : decode jdk_42_method_149_code 5 = .ok (.ifCond .ne 22, 3) := by decide +kernel
theorem d3_8 : decode jdk_42_method_149_code 8 = .ok (.aload_n 0, 1) := by decide +kernel
theorem d3_9 : decode jdk_42_method_149_code 9 = .ok (.ldc 7, 2) := by decide +kernel
theorem d3_11 : decode jdk_42_method_149_code 11 = .ok (.getfield 9, 3) := by decide +kernel
theorem d3_14 : decode jdk_42_method_149_code 14 = .ok (.putfield 9, 3) := by decide +kernel
theorem d3_17 : decode jdk_42_method_149_code 17 = .ok (.aload_n 0, 1) := by decide +kernel
theorem d3_18 : decode jdk_42_method_149_code 18 = .ok (.ldc 7, 2) := by decide +kernel
theorem d3_20 : decode jdk_42_method_149_code 20 = .ok (.getfield 15, 3) := by decide +kernel
theorem d3_23 : decode jdk_42_method_149_code 23 = .ok (.putfield 15, 3) := by decide +kernel
theorem d3_26 : decode jdk_42_method_149_code 26 = .ok (.return_, 1) := by decide +kernel
theorem ef_iz1 (m : MethodId) (x0 : Addr) (x1 : Addr) : entryFrame m #[(.ref x0), (.ref x1)] 2 = mkF m 0 #[.val (.ref x0), .val (.ref x1)] [] := by first | (simp [entryFrame, mkF, argsToLocals, Value.category]; done) | rfl
theorem d2_0 : decode jdk_42_method_3_code 0 = .ok (.aload_n 0, 1) := by decide +kernel
theorem d2_1 : decode jdk_42_method_3_code 1 = .ok (.aload_n 1, 1) := by decide +kernel
theorem d2_2 : decode jdk_42_method_3_code 2 = .ok (.iconst 0, 1) := by decide +kernel
theorem d2_3 : decode jdk_42_method_3_code 3 = .ok (.aload_n 1, 1) := by decide +kernel
theorem d2_4 : decode jdk_42_method_3_code 4 = .ok (.arraylength, 1) := by decide +kernel
theorem d2_5 : decode jdk_42_method_3_code 5 = .ok (.aconst_null, 1) := by decide +kernel
theorem pd_5 : parseMethodDescriptor "([CIILjava/lang/Void;)V" = some ⟨[(.array .char), .int, .int, (.object "java/lang/Void")], none⟩ := by decide +kernel
theorem d2_6 : decode jdk_42_method_3_code 6 = .ok (.invokespecial 27, 3) := by decide +kernel
theorem d2_9 : decode jdk_42_method_3_code 9 = .ok (.return_, 1) := by decide +kernel
theorem pn_4 : plainName "org/semfolio/ElementHasAttributePinLaw" = true := by first | (simp [plainName, overriddenIn]; done) | decide +kernel
theorem ef_str (m : MethodId) (x0 : Int32) : entryFrame m #[(.int x0)] 4 = mkF m 0 #[.val (.int x0), .unset, .unset, .unset] [] := by first | (simp [entryFrame, mkF, argsToLocals, Value.category]; done) | rfl
theorem d1_0 : decode method_2_code 0 = .ok (.iload_n 0, 1) := by decide +kernel
theorem d1_1 : decode method_2_code 1 = .ok (.bipush 16, 2) := by decide +kernel
theorem d1_3 : decode method_2_code 3 = .ok (.iushr, 1) := by decide +kernel
theorem d1_4 : decode method_2_code 4 = .ok (.iconst 3, 1) := by decide +kernel
theorem d1_5 : decode method_2_code 5 = .ok (.iand, 1) := by decide +kernel
theorem d1_6 : decode method_2_code 6 = .ok (.istore_n 1, 1) := by decide +kernel
theorem d1_7 : decode method_2_code 7 = .ok (.iload_n 0, 1) := by decide +kernel
theorem d1_8 : decode method_2_code 8 = .ok (.sipush 255, 3) := by decide +kernel
theorem d1_11 : decode method_2_code 11 = .ok (.iand, 1) := by decide +kernel
theorem d1_12 : decode method_2_code 12 = .ok (.i2c, 1) := by decide +kernel
theorem d1_13 : decode method_2_code 13 = .ok (.istore_n 2, 1) := by decide +kernel
theorem d1_14 : decode method_2_code 14 = .ok (.iload_n 0, 1) := by decide +kernel
theorem d1_15 : decode method_2_code 15 = .ok (.bipush 8, 2) := by decide +kernel
theorem d1_17 : decode method_2_code 17 = .ok (.iushr, 1) := by decide +kernel
theorem d1_18 : decode method_2_code 18 = .ok (.sipush 255, 3) := by decide +kernel
theorem d1_21 : decode method_2_code 21 = .ok (.iand, 1) := by decide +kernel
theorem d1_22 : decode method_2_code 22 = .ok (.i2c, 1) := by decide +kernel
theorem d1_23 : decode method_2_code 23 = .ok (.istore_n 3, 1) := by decide +kernel
theorem d1_24 : decode method_2_code 24 = .ok (.iload_n 1, 1) := by decide +kernel
theorem d1_25 : decode method_2_code 25 = .ok (.ifCond .ne 14, 3) := by decide +kernel
theorem d1_28 : decode method_2_code 28 = .ok (.new 7, 3) := by decide +kernel
theorem d1_31 : decode method_2_code 31 = .ok (.dup, 1) := by decide +kernel
theorem d1_32 : decode method_2_code 32 = .ok (.iconst 0, 1) := by decide +kernel
theorem d1_33 : decode method_2_code 33 = .ok (.newarray .char, 2) := by decide +kernel
theorem pd_6 : parseMethodDescriptor "([C)V" = some ⟨[(.array .char)], none⟩ := by decide +kernel
theorem d1_35 : decode method_2_code 35 = .ok (.invokespecial 9, 3) := by decide +kernel
theorem d1_38 : decode method_2_code 38 = .ok (.areturn, 1) := by decide +kernel
theorem d1_39 : decode method_2_code 39 = .ok (.iload_n 1, 1) := by decide +kernel
theorem d1_40 : decode method_2_code 40 = .ok (.iconst 1, 1) := by decide +kernel
theorem d1_41 : decode method_2_code 41 = .ok (.if_icmp .ne 8, 3) := by decide +kernel
theorem d1_44 : decode method_2_code 44 = .ok (.iload_n 2, 1) := by decide +kernel
theorem pd_7 : parseMethodDescriptor "(C)Ljava/lang/String;" = some ⟨[.char], some (.object "java/lang/String")⟩ := by decide +kernel
theorem d1_45 : decode method_2_code 45 = .ok (.invokestatic 12, 3) := by decide +kernel
theorem d1_48 : decode method_2_code 48 = .ok (.areturn, 1) := by decide +kernel
theorem d1_49 : decode method_2_code 49 = .ok (.new 7, 3) := by decide +kernel
theorem d1_52 : decode method_2_code 52 = .ok (.dup, 1) := by decide +kernel
theorem d1_53 : decode method_2_code 53 = .ok (.iconst 2, 1) := by decide +kernel
theorem d1_54 : decode method_2_code 54 = .ok (.newarray .char, 2) := by decide +kernel
theorem d1_56 : decode method_2_code 56 = .ok (.dup, 1) := by decide +kernel
theorem d1_57 : decode method_2_code 57 = .ok (.iconst 0, 1) := by decide +kernel
theorem d1_58 : decode method_2_code 58 = .ok (.iload_n 2, 1) := by decide +kernel
theorem d1_59 : decode method_2_code 59 = .ok (.castore, 1) := by decide +kernel
theorem d1_60 : decode method_2_code 60 = .ok (.dup, 1) := by decide +kernel
theorem d1_61 : decode method_2_code 61 = .ok (.iconst 1, 1) := by decide +kernel
theorem d1_62 : decode method_2_code 62 = .ok (.iload_n 3, 1) := by decide +kernel
theorem d1_63 : decode method_2_code 63 = .ok (.castore, 1) := by decide +kernel
theorem d1_64 : decode method_2_code 64 = .ok (.invokespecial 9, 3) := by decide +kernel
theorem d1_67 : decode method_2_code 67 = .ok (.areturn, 1) := by decide +kernel
theorem ef_put_1_0 (m : MethodId) (x0 : Addr) (x1 : Int32) (x2 : Addr) (x3 : Addr) : entryFrame m #[(.ref x0), (.int x1), (.ref x2), (.ref x3)] 4 = mkF m 0 #[.val (.ref x0), .val (.int x1), .val (.ref x2), .val (.ref x3)] [] := by first | (simp [entryFrame, mkF, argsToLocals, Value.category]; done) | rfl
theorem d9_0 : decode method_3_code 0 = .ok (.aload_n 0, 1) := by decide +kernel
theorem d9_1 : decode method_3_code 1 = .ok (.iload_n 1, 1) := by decide +kernel
theorem d9_2 : decode method_3_code 2 = .ok (.aload_n 2, 1) := by decide +kernel
theorem d9_3 : decode method_3_code 3 = .ok (.aastore, 1) := by decide +kernel
theorem d9_4 : decode method_3_code 4 = .ok (.aload_n 0, 1) := by decide +kernel
theorem d9_5 : decode method_3_code 5 = .ok (.iload_n 1, 1) := by decide +kernel
theorem d9_6 : decode method_3_code 6 = .ok (.iconst 1, 1) := by decide +kernel
theorem d9_7 : decode method_3_code 7 = .ok (.iadd, 1) := by decide +kernel
theorem d9_8 : decode method_3_code 8 = .ok (.aload_n 2, 1) := by decide +kernel
theorem d9_9 : decode method_3_code 9 = .ok (.aastore, 1) := by decide +kernel
theorem d9_10 : decode method_3_code 10 = .ok (.aload_n 0, 1) := by decide +kernel
theorem d9_11 : decode method_3_code 11 = .ok (.iload_n 1, 1) := by decide +kernel
theorem d9_12 : decode method_3_code 12 = .ok (.iconst 2, 1) := by decide +kernel
theorem d9_13 : decode method_3_code 13 = .ok (.iadd, 1) := by decide +kernel
theorem d9_14 : decode method_3_code 14 = .ok (.aload_n 3, 1) := by decide +kernel
theorem d9_15 : decode method_3_code 15 = .ok (.aastore, 1) := by decide +kernel
theorem d9_16 : decode method_3_code 16 = .ok (.aload_n 0, 1) := by decide +kernel
theorem d9_17 : decode method_3_code 17 = .ok (.iload_n 1, 1) := by decide +kernel
theorem d9_18 : decode method_3_code 18 = .ok (.iconst 3, 1) := by decide +kernel
theorem d9_19 : decode method_3_code 19 = .ok (.iadd, 1) := by decide +kernel
theorem d9_20 : decode method_3_code 20 = .ok (.aload_n 2, 1) := by decide +kernel
theorem d9_21 : decode method_3_code 21 = .ok (.aastore, 1) := by decide +kernel
theorem d9_22 : decode method_3_code 22 = .ok (.return_, 1) := by decide +kernel
theorem ef_put_2_0 (m : MethodId) (x0 : Addr) (x1 : Int32) (x2 : Addr) (x3 : Addr) : entryFrame m #[(.ref x0), (.int x1), (.ref x2), (.ref x3)] 4 = mkF m 0 #[.val (.ref x0), .val (.int x1), .val (.ref x2), .val (.ref x3)] [] := by first | (simp [entryFrame, mkF, argsToLocals, Value.category]; done) | rfl
theorem ef_put_2_1 (m : MethodId) (x0 : Addr) (x1 : Int32) (x2 : Addr) (x3 : Addr) : entryFrame m #[(.ref x0), (.int x1), (.ref x2), (.ref x3)] 4 = mkF m 0 #[.val (.ref x0), .val (.int x1), .val (.ref x2), .val (.ref x3)] [] := by first | (simp [entryFrame, mkF, argsToLocals, Value.category]; done) | rfl
theorem ef_put_3_0 (m : MethodId) (x0 : Addr) (x1 : Int32) (x2 : Addr) (x3 : Addr) : entryFrame m #[(.ref x0), (.int x1), (.ref x2), (.ref x3)] 4 = mkF m 0 #[.val (.ref x0), .val (.int x1), .val (.ref x2), .val (.ref x3)] [] := by first | (simp [entryFrame, mkF, argsToLocals, Value.category]; done) | rfl
theorem ef_put_3_1 (m : MethodId) (x0 : Addr) (x1 : Int32) (x2 : Addr) (x3 : Addr) : entryFrame m #[(.ref x0), (.int x1), (.ref x2), (.ref x3)] 4 = mkF m 0 #[.val (.ref x0), .val (.int x1), .val (.ref x2), .val (.ref x3)] [] := by first | (simp [entryFrame, mkF, argsToLocals, Value.category]; done) | rfl
theorem ef_put_3_2 (m : MethodId) (x0 : Addr) (x1 : Int32) (x2 : Addr) (x3 : Addr) : entryFrame m #[(.ref x0), (.int x1), (.ref x2), (.ref x3)] 4 = mkF m 0 #[.val (.ref x0), .val (.int x1), .val (.ref x2), .val (.ref x3)] [] := by first | (simp [entryFrame, mkF, argsToLocals, Value.category]; done) | rfl
theorem ef_fd0 (m : MethodId) (x0 : Addr) (x1 : Addr) : entryFrame m #[(.ref x0), (.ref x1)] 3 = mkF m 0 #[.val (.ref x0), .val (.ref x1), .unset] [] := by first | (simp [entryFrame, mkF, argsToLocals, Value.category]; done) | rfl
theorem d8_0 : decode prog_16_method_7_code 0 = .ok (.iconst 0, 1) := by decide +kernel
theorem d8_1 : decode prog_16_method_7_code 1 = .ok (.istore_n 2, 1) := by decide +kernel
theorem d8_2 : decode prog_16_method_7_code 2 = .ok (.iload_n 2, 1) := by decide +kernel
theorem d8_3 : decode prog_16_method_7_code 3 = .ok (.aload_n 0, 1) := by decide +kernel
theorem d8_4 : decode prog_16_method_7_code 4 = .ok (.getfield 16, 3) := by decide +kernel
theorem d8_7 : decode prog_16_method_7_code 7 = .ok (.arraylength, 1) := by decide +kernel
theorem d8_8 : decode prog_16_method_7_code 8 = .ok (.if_icmp .ge 26, 3) := by decide +kernel
theorem d8_34 : decode prog_16_method_7_code 34 = .ok (.iconst (-1), 1) := by decide +kernel
theorem d8_35 : decode prog_16_method_7_code 35 = .ok (.ireturn, 1) := by decide +kernel
theorem ef_ha0 (m : MethodId) (x0 : Addr) (x1 : Addr) : entryFrame m #[(.ref x0), (.ref x1)] 2 = mkF m 0 #[.val (.ref x0), .val (.ref x1)] [] := by first | (simp [entryFrame, mkF, argsToLocals, Value.category]; done) | rfl
theorem d7_0 : decode prog_16_method_6_code 0 = .ok (.aload_n 0, 1) := by decide +kernel
theorem d7_1 : decode prog_16_method_6_code 1 = .ok (.aload_n 1, 1) := by decide +kernel
theorem pd_8 : parseMethodDescriptor "(Ljava/lang/String;)I" = some ⟨[(.object "java/lang/String")], some .int⟩ := by decide +kernel
theorem d7_2 : decode prog_16_method_6_code 2 = .ok (.invokevirtual 20, 3) := by decide +kernel
theorem d7_5 : decode prog_16_method_6_code 5 = .ok (.ifCond .lt 7, 3) := by decide +kernel
theorem d7_12 : decode prog_16_method_6_code 12 = .ok (.iconst 0, 1) := by decide +kernel
theorem d7_13 : decode prog_16_method_6_code 13 = .ok (.ireturn, 1) := by decide +kernel
theorem d7_8 : decode prog_16_method_6_code 8 = .ok (.iconst 1, 1) := by decide +kernel
theorem d7_9 : decode prog_16_method_6_code 9 = .ok (.goto 4, 3) := by decide +kernel
theorem ef_fd1 (m : MethodId) (x0 : Addr) (x1 : Addr) : entryFrame m #[(.ref x0), (.ref x1)] 3 = mkF m 0 #[.val (.ref x0), .val (.ref x1), .unset] [] := by first | (simp [entryFrame, mkF, argsToLocals, Value.category]; done) | rfl
theorem d8_11 : decode prog_16_method_7_code 11 = .ok (.aload_n 0, 1) := by decide +kernel
theorem d8_12 : decode prog_16_method_7_code 12 = .ok (.getfield 16, 3) := by decide +kernel
theorem d8_15 : decode prog_16_method_7_code 15 = .ok (.iload_n 2, 1) := by decide +kernel
theorem d8_16 : decode prog_16_method_7_code 16 = .ok (.iconst 2, 1) := by decide +kernel
theorem d8_17 : decode prog_16_method_7_code 17 = .ok (.iadd, 1) := by decide +kernel
theorem d8_18 : decode prog_16_method_7_code 18 = .ok (.aaload, 1) := by decide +kernel
theorem d8_19 : decode prog_16_method_7_code 19 = .ok (.aload_n 1, 1) := by decide +kernel
theorem pd_9 : parseMethodDescriptor "(Ljava/lang/Object;)Z" = some ⟨[(.object "java/lang/Object")], some .boolean⟩ := by decide +kernel
theorem d8_20 : decode prog_16_method_7_code 20 = .ok (.invokevirtual 26, 3) := by decide +kernel
theorem d8_23 : decode prog_16_method_7_code 23 = .ok (.ifCond .eq 5, 3) := by decide +kernel
theorem d8_26 : decode prog_16_method_7_code 26 = .ok (.iload_n 2, 1) := by decide +kernel
theorem d8_27 : decode prog_16_method_7_code 27 = .ok (.ireturn, 1) := by decide +kernel
theorem d8_28 : decode prog_16_method_7_code 28 = .ok (.iinc 2 4, 3) := by decide +kernel
theorem d8_31 : decode prog_16_method_7_code 31 = .ok (.goto (-29), 3) := by decide +kernel
theorem ef_ha1 (m : MethodId) (x0 : Addr) (x1 : Addr) : entryFrame m #[(.ref x0), (.ref x1)] 2 = mkF m 0 #[.val (.ref x0), .val (.ref x1)] [] := by first | (simp [entryFrame, mkF, argsToLocals, Value.category]; done) | rfl
theorem ef_fd2 (m : MethodId) (x0 : Addr) (x1 : Addr) : entryFrame m #[(.ref x0), (.ref x1)] 3 = mkF m 0 #[.val (.ref x0), .val (.ref x1), .unset] [] := by first | (simp [entryFrame, mkF, argsToLocals, Value.category]; done) | rfl
theorem ef_ha2 (m : MethodId) (x0 : Addr) (x1 : Addr) : entryFrame m #[(.ref x0), (.ref x1)] 2 = mkF m 0 #[.val (.ref x0), .val (.ref x1)] [] := by first | (simp [entryFrame, mkF, argsToLocals, Value.category]; done) | rfl
theorem ef_fd3 (m : MethodId) (x0 : Addr) (x1 : Addr) : entryFrame m #[(.ref x0), (.ref x1)] 3 = mkF m 0 #[.val (.ref x0), .val (.ref x1), .unset] [] := by first | (simp [entryFrame, mkF, argsToLocals, Value.category]; done) | rfl
theorem ef_ha3 (m : MethodId) (x0 : Addr) (x1 : Addr) : entryFrame m #[(.ref x0), (.ref x1)] 2 = mkF m 0 #[.val (.ref x0), .val (.ref x1)] [] := by first | (simp [entryFrame, mkF, argsToLocals, Value.category]; done) | rfl
theorem ef_law (m : MethodId) (x0 : Int32) (x1 : Int32) (x2 : Int32) (x3 : Int32) (x4 : Int32) (x5 : Int64) : entryFrame m #[(.int x0), (.int x1), (.int x2), (.int x3), (.int x4), (.long x5)] maxLocals = mkF m 0 #[.val (.int x0), .val (.int x1), .val (.int x2), .val (.int x3), .val (.int x4), .val (.long x5), .second, .unset, .unset, .unset, .unset, .unset, .unset, .unset, .unset, .unset, .unset, .unset] [] := by first | (simp [entryFrame, mkF, argsToLocals, Value.category, maxLocals]; done) | rfl
theorem pd_10 : parseMethodDescriptor "(I)Ljava/lang/String;" = some ⟨[.int], some (.object "java/lang/String")⟩ := by decide +kernel
theorem pd_11 : parseMethodDescriptor "(Ljava/lang/String;Ljava/lang/String;[Ljava/lang/String;)V" = some ⟨[(.object "java/lang/String"), (.object "java/lang/String"), (.array (.object "java/lang/String"))], none⟩ := by decide +kernel
theorem pd_12 : parseMethodDescriptor "(Ljava/lang/String;)Z" = some ⟨[(.object "java/lang/String")], some .boolean⟩ := by decide +kernel
theorem pd_13 : parseMethodDescriptor "([Ljava/lang/String;ILjava/lang/String;Ljava/lang/String;)V" = some ⟨[(.array (.object "java/lang/String")), .int, (.object "java/lang/String"), (.object "java/lang/String")], none⟩ := by decide +kernel
def Q_leq (Z : State) (b1 b2 : Addr) (k1 k2 : ClassId) (bs cs : List Int32) (h0 : Heap) (n0 : Nat) (v : Option Value) (h : Heap) (L : List Loc) : Prop := v = some (.int (eqI bs cs)) ∧ Fr n0 L ∧ h = h0
set_option maxRecDepth 65536 in
set_option maxHeartbeats 40000000 in
theorem rm_leq (l : Launch) (Z : State) (a0 : Array Value) (hw : ∀ d ∈ tables_1, d.before a0 Z = true) (ws : List Jvm.Cond) (b1 b2 : Addr) (k1 k2 : ClassId) (bs cs : List Int32) (h0 : Heap) (n0 : Nat) (Z0 : n0 ≤ h0.size) (V1 : Arv Z h0 b1 k1 .byte (Int32.ofNat bs.length) (bs.map Value.int) (.int (0 : Int32))) (l1 : bs.length < 2 ^ 31) (V2 : Arv Z h0 b2 k2 .byte (Int32.ofNat cs.length) (cs.map Value.int) (.int (0 : Int32))) (l2 : cs.length < 2 ^ 31) :
    MetFree l (⟨"java/lang/StringLatin1", "equals", "([B[B)Z"⟩ : MethodName) (head1 (Jvm.Cond.code (⟨"java/lang/StringLatin1", "equals", "([B[B)Z"⟩ : MethodName) jdk_43_method_13_code 3 (some .boolean) :: ws) ({ frames := 0, cells := 0, slots := 0, locals := 0 } : Room)) (fun aa U => aa = #[(.ref b1), (.ref b2)] ∧ Z.Warmed39 U.vm ∧ U.heap = h0) (fun _ _ _ _ _ => True) (fun _ U o U' => ∃ v L, o = .returned v ∧ Q_leq Z b1 b2 k1 k2 bs cs h0 n0 v U'.heap L ∧ FrameEnd U o U' L ({ frames := 0, cells := 0, slots := 0, locals := 0 } : Room).cells ({ frames := 0, cells := 0, slots := 0, locals := 0 } : Room).slots) := by
  refine MetFree.of_bodySF (plainFor_of_name pn_0) hisR ?_
  intro p e s m args below meth c s₁ Bd hml0 hP hK
  obtain ⟨rfl, hZ, hh⟩ := hP
  have hx := Bd.exec
  have hby := Bd.bytes
  have hml : c.maxLocals = 3 := hml0
  have hown : s.vm.findClass "java/lang/StringLatin1" = some m.cls := findClass_of_methodNamed Bd.named
  have hnm := (name_of_methodNamed Bd.named Bd.method).1
  have hlk : meth.locks = false := BodyLoose.notSynchronized Bd
  have X0 : Stand p l e ({ frames := 0, cells := 0, slots := 0, locals := 0 } : Room) s m #[(.ref b1), (.ref b2)] below meth c s₁ [] 0 0 := Stand.of_body Bd
  have e0 : s₁.heap = h0 := by rw [← hh, Bd.state]; rfl
  have N0 := Fr.nil n0
  have K0 : Keep h0 h0 [] := Keep.refl _ _
  show Gl p.tables e below (QQof s (Q_leq Z b1 b2 k1 k2 bs cs h0 n0) 0 0) (s₁.setTop (entryFrame m #[(.ref b1), (.ref b2)] 3))
  refine Gl.go (fun t k => castTop (ef_leq m b1 b2) k) ?_
  show Gl _ _ _ _ (s₁.setTop (mkF m 0 #[.val (.ref b1), .val (.ref b2), .unset] []))
  refine Gl.go (fun _ k => XS.aloadN X0.here hx rfl (hb hby d11_0) rfl rfl  k) ?_
  show Gl _ _ _ _ (s₁.setTop (mkF m 1 #[.val (.ref b1), .val (.ref b2), .unset] [(.ref b1)]))
  obtain ⟨cl1, Ar1, qA1, SA1, NA1, HA1, GA1⟩ := id V1
  refine Gl.go (fun _ k => X0.arraylength hx (by rw [e0]; exact Ar1.1) (State.isArrayOf_alike hZ.alike Ar1.2.1) (g := (mkF m 1 #[.val (.ref b1), .val (.ref b2), .unset] [(.ref b1)])) rfl rfl (hb hby d11_1) _ k) ?_
  rw [len_of SA1 NA1]
  show Gl _ _ _ _ (s₁.setTop (mkF m 2 #[.val (.ref b1), .val (.ref b2), .unset] [(.int (Int32.ofNat bs.length))]))
  refine Gl.go (fun _ k => XS.aloadN X0.here hx rfl (hb hby d11_2) rfl rfl  k) ?_
  show Gl _ _ _ _ (s₁.setTop (mkF m 3 #[.val (.ref b1), .val (.ref b2), .unset] [(.ref b2), (.int (Int32.ofNat bs.length))]))
  obtain ⟨cl2, Ar2, qA2, SA2, NA2, HA2, GA2⟩ := id V2
  refine Gl.go (fun _ k => X0.arraylength hx (by rw [e0]; exact Ar2.1) (State.isArrayOf_alike hZ.alike Ar2.2.1) (g := (mkF m 3 #[.val (.ref b1), .val (.ref b2), .unset] [(.ref b2), (.int (Int32.ofNat bs.length))])) rfl rfl (hb hby d11_3) _ k) ?_
  rw [len_of SA2 NA2]
  show Gl _ _ _ _ (s₁.setTop (mkF m 4 #[.val (.ref b1), .val (.ref b2), .unset] [(.int (Int32.ofNat cs.length)), (.int (Int32.ofNat bs.length))]))
  by_cases h4 : (Int32.ofNat bs.length) = (Int32.ofNat cs.length)
  · skip
    refine Gl.go (fun _ k => XS.icmpNo X0.here hx rfl (hb hby d11_4) rfl (teq h4).2 k) ?_
    show Gl _ _ _ _ (s₁.setTop (mkF m 7 #[.val (.ref b1), .val (.ref b2), .unset] []))
    refine Gl.go (fun _ k => XS.iconst X0.here hx rfl (hb hby d11_7) k) ?_
    show Gl _ _ _ _ (s₁.setTop (mkF m 8 #[.val (.ref b1), .val (.ref b2), .unset] [(.int (0 : Int32))]))
    refine Gl.go (fun _ k => XS.istoreN X0.here hx rfl (hb hby d11_8) rfl (l' := #[.val (.ref b1), .val (.ref b2), .val (.int (0 : Int32))]) rfl k) ?_
    show Gl _ _ _ _ (s₁.setTop (mkF m 9 #[.val (.ref b1), .val (.ref b2), .val (.int (0 : Int32))] []))
    have hl : bs.length = cs.length := i32_inj l1 l2 h4
    show Gl _ _ _ _ (s₁.setTop (mkF m 9 #[.val (.ref b1), .val (.ref b2), .val (.int (Int32.ofNat 0))] []))
    have loop : ∀ (k i : Nat), i + k = bs.length → bs.take i = cs.take i → Gl p.tables e below (QQof s (Q_leq Z b1 b2 k1 k2 bs cs h0 n0) 0 0) (s₁.setTop (mkF m 9 #[.val (.ref b1), .val (.ref b2), .val (.int (Int32.ofNat i))] [])) := by
      intro k
      induction k with
      | zero =>
        intro i hi ht
        show Gl _ _ _ _ (s₁.setTop (mkF m 9 #[.val (.ref b1), .val (.ref b2), .val (.int (Int32.ofNat i))] []))
        refine Gl.go (fun _ k => XS.iloadN X0.here hx rfl (hb hby d11_9) rfl  k) ?_
        show Gl _ _ _ _ (s₁.setTop (mkF m 10 #[.val (.ref b1), .val (.ref b2), .val (.int (Int32.ofNat i))] [(.int (Int32.ofNat i))]))
        refine Gl.go (fun _ k => XS.aloadN X0.here hx rfl (hb hby d11_10) rfl rfl  k) ?_
        show Gl _ _ _ _ (s₁.setTop (mkF m 11 #[.val (.ref b1), .val (.ref b2), .val (.int (Int32.ofNat i))] [(.ref b1), (.int (Int32.ofNat i))]))
        obtain ⟨cl3, Ar3, qA3, SA3, NA3, HA3, GA3⟩ := id V1
        refine Gl.go (fun _ k => X0.arraylength hx (by rw [e0]; exact Ar3.1) (State.isArrayOf_alike hZ.alike Ar3.2.1) (g := (mkF m 11 #[.val (.ref b1), .val (.ref b2), .val (.int (Int32.ofNat i))] [(.ref b1), (.int (Int32.ofNat i))])) rfl rfl (hb hby d11_11) _ k) ?_
        rw [len_of SA3 NA3]
        show Gl _ _ _ _ (s₁.setTop (mkF m 12 #[.val (.ref b1), .val (.ref b2), .val (.int (Int32.ofNat i))] [(.int (Int32.ofNat bs.length)), (.int (Int32.ofNat i))]))
        refine Gl.go (fun _ k => XS.icmpYes X0.here hx rfl (pc0 := 12) (pc' := 32) rfl (hb hby d11_12) rfl (flt (by rw [show i = bs.length by omega]; exact Int32.lt_irrefl)).2.1 (by decide) (by decide) k) ?_
        show Gl _ _ _ _ (s₁.setTop (mkF m 32 #[.val (.ref b1), .val (.ref b2), .val (.int (Int32.ofNat i))] []))
        refine Gl.go (fun _ k => XS.iconst X0.here hx rfl (hb hby d11_32) k) ?_
        show Gl _ _ _ _ (s₁.setTop (mkF m 33 #[.val (.ref b1), .val (.ref b2), .val (.int (Int32.ofNat i))] [(.int (1 : Int32))]))
        refine leafN X0 hx hlk (t := .boolean) Bd.returns (by simp) (hb hby d11_33) ?_ (by decide) (by decide)
        exact ⟨by rw [nar1, eqI_yes (take_all hl (by rw [show i = bs.length by omega] at ht; exact ht))], N0, e0⟩
      | succ k ih =>
        intro i hi ht
        have hib : i < bs.length := by omega
        have hic : i < cs.length := by omega
        have hi3 : i < 2 ^ 31 := by omega
        show Gl _ _ _ _ (s₁.setTop (mkF m 9 #[.val (.ref b1), .val (.ref b2), .val (.int (Int32.ofNat i))] []))
        refine Gl.go (fun _ k => XS.iloadN X0.here hx rfl (hb hby d11_9) rfl  k) ?_
        show Gl _ _ _ _ (s₁.setTop (mkF m 10 #[.val (.ref b1), .val (.ref b2), .val (.int (Int32.ofNat i))] [(.int (Int32.ofNat i))]))
        refine Gl.go (fun _ k => XS.aloadN X0.here hx rfl (hb hby d11_10) rfl rfl  k) ?_
        show Gl _ _ _ _ (s₁.setTop (mkF m 11 #[.val (.ref b1), .val (.ref b2), .val (.int (Int32.ofNat i))] [(.ref b1), (.int (Int32.ofNat i))]))
        obtain ⟨cl4, Ar4, qA4, SA4, NA4, HA4, GA4⟩ := id V1
        refine Gl.go (fun _ k => X0.arraylength hx (by rw [e0]; exact Ar4.1) (State.isArrayOf_alike hZ.alike Ar4.2.1) (g := (mkF m 11 #[.val (.ref b1), .val (.ref b2), .val (.int (Int32.ofNat i))] [(.ref b1), (.int (Int32.ofNat i))])) rfl rfl (hb hby d11_11) _ k) ?_
        rw [len_of SA4 NA4]
        show Gl _ _ _ _ (s₁.setTop (mkF m 12 #[.val (.ref b1), .val (.ref b2), .val (.int (Int32.ofNat i))] [(.int (Int32.ofNat bs.length)), (.int (Int32.ofNat i))]))
        refine Gl.go (fun _ k => XS.icmpNo X0.here hx rfl (hb hby d11_12) rfl (tlt (i32_lt hib l1)).2.1 k) ?_
        show Gl _ _ _ _ (s₁.setTop (mkF m 15 #[.val (.ref b1), .val (.ref b2), .val (.int (Int32.ofNat i))] []))
        refine Gl.go (fun _ k => XS.aloadN X0.here hx rfl (hb hby d11_15) rfl rfl  k) ?_
        show Gl _ _ _ _ (s₁.setTop (mkF m 16 #[.val (.ref b1), .val (.ref b2), .val (.int (Int32.ofNat i))] [(.ref b1)]))
        refine Gl.go (fun _ k => XS.iloadN X0.here hx rfl (hb hby d11_16) rfl  k) ?_
        show Gl _ _ _ _ (s₁.setTop (mkF m 17 #[.val (.ref b1), .val (.ref b2), .val (.int (Int32.ofNat i))] [(.int (Int32.ofNat i)), (.ref b1)]))
        obtain ⟨cl5, Ar5, qA5, SA5, NA5, HA5, GA5⟩ := id V1
        have hin5 := inb_of (j := (Int32.ofNat i)) SA5 ⟨i32_pos hi3, i32_lt hib l1⟩
        have hat5 : cl5.slots[((Int32.ofNat i)).toNatClampNeg]? = some (.int (bs.getD i 0)) := HA5.at hin5 (getD_at bs hi3)
        refine Gl.go (fun _ k => X0.baloadBytes hx (j := (Int32.ofNat i)) (v := (.int (bs.getD i 0))) (by rw [e0]; exact Ar5.1) (State.isArrayOf_alike hZ.alike Ar5.2.1) Ar5.2.2 hin5 hat5 (g := (mkF m 17 #[.val (.ref b1), .val (.ref b2), .val (.int (Int32.ofNat i))] [(.int (Int32.ofNat i)), (.ref b1)])) rfl rfl (hb hby d11_17) _ k) ?_
        show Gl _ _ _ _ (s₁.setTop (mkF m 18 #[.val (.ref b1), .val (.ref b2), .val (.int (Int32.ofNat i))] [(.int (bs.getD i 0))]))
        refine Gl.go (fun _ k => XS.aloadN X0.here hx rfl (hb hby d11_18) rfl rfl  k) ?_
        show Gl _ _ _ _ (s₁.setTop (mkF m 19 #[.val (.ref b1), .val (.ref b2), .val (.int (Int32.ofNat i))] [(.ref b2), (.int (bs.getD i 0))]))
        refine Gl.go (fun _ k => XS.iloadN X0.here hx rfl (hb hby d11_19) rfl  k) ?_
        show Gl _ _ _ _ (s₁.setTop (mkF m 20 #[.val (.ref b1), .val (.ref b2), .val (.int (Int32.ofNat i))] [(.int (Int32.ofNat i)), (.ref b2), (.int (bs.getD i 0))]))
        obtain ⟨cl6, Ar6, qA6, SA6, NA6, HA6, GA6⟩ := id V2
        have hin6 := inb_of (j := (Int32.ofNat i)) SA6 ⟨i32_pos hi3, i32_lt hic l2⟩
        have hat6 : cl6.slots[((Int32.ofNat i)).toNatClampNeg]? = some (.int (cs.getD i 0)) := HA6.at hin6 (getD_at cs hi3)
        refine Gl.go (fun _ k => X0.baloadBytes hx (j := (Int32.ofNat i)) (v := (.int (cs.getD i 0))) (by rw [e0]; exact Ar6.1) (State.isArrayOf_alike hZ.alike Ar6.2.1) Ar6.2.2 hin6 hat6 (g := (mkF m 20 #[.val (.ref b1), .val (.ref b2), .val (.int (Int32.ofNat i))] [(.int (Int32.ofNat i)), (.ref b2), (.int (bs.getD i 0))])) rfl rfl (hb hby d11_20) _ k) ?_
        show Gl _ _ _ _ (s₁.setTop (mkF m 21 #[.val (.ref b1), .val (.ref b2), .val (.int (Int32.ofNat i))] [(.int (cs.getD i 0)), (.int (bs.getD i 0))]))
        by_cases h21 : (bs.getD i 0) = (cs.getD i 0)
        · skip
          refine Gl.go (fun _ k => XS.icmpYes X0.here hx rfl (pc0 := 21) (pc' := 26) rfl (hb hby d11_21) rfl (teq h21).1 (by decide) (by decide) k) ?_
          show Gl _ _ _ _ (s₁.setTop (mkF m 26 #[.val (.ref b1), .val (.ref b2), .val (.int (Int32.ofNat i))] []))
          refine Gl.go (fun _ k => XS.iinc X0.here hx rfl (hb hby d11_26) rfl (l' := #[.val (.ref b1), .val (.ref b2), .val (.int ((Int32.ofNat i) + (1 : Int32)))]) rfl k) ?_
          show Gl _ _ _ _ (s₁.setTop (mkF m 29 #[.val (.ref b1), .val (.ref b2), .val (.int ((Int32.ofNat i) + (1 : Int32)))] []))
          refine Gl.go (fun _ k => XS.goto X0.here hx rfl (pc0 := 29) (pc' := 9) rfl (hb hby d11_29) (by decide) (by decide) k) ?_
          show Gl _ _ _ _ (s₁.setTop (mkF m 9 #[.val (.ref b1), .val (.ref b2), .val (.int ((Int32.ofNat i) + (1 : Int32)))] []))
          rw [(i32_succ i : ((Int32.ofNat i) + (1 : Int32)) = (Int32.ofNat (i + 1)))]
          show Gl _ _ _ _ (s₁.setTop (mkF m 9 #[.val (.ref b1), .val (.ref b2), .val (.int (Int32.ofNat (i + 1)))] []))
          exact ih (i + 1) (by omega) (take_more hib hic ht h21)
        · skip
          refine Gl.go (fun _ k => XS.icmpNo X0.here hx rfl (hb hby d11_21) rfl (feq h21).1 k) ?_
          show Gl _ _ _ _ (s₁.setTop (mkF m 24 #[.val (.ref b1), .val (.ref b2), .val (.int (Int32.ofNat i))] []))
          refine Gl.go (fun _ k => XS.iconst X0.here hx rfl (hb hby d11_24) k) ?_
          show Gl _ _ _ _ (s₁.setTop (mkF m 25 #[.val (.ref b1), .val (.ref b2), .val (.int (Int32.ofNat i))] [(.int (0 : Int32))]))
          refine leafN X0 hx hlk (t := .boolean) Bd.returns (by simp) (hb hby d11_25) ?_ (by decide) (by decide)
          exact ⟨by rw [nar0, eqI_no (fun q => h21 (by rw [q]))], N0, e0⟩
    exact loop bs.length 0 (by omega) rfl
  · skip
    refine Gl.go (fun _ k => XS.icmpYes X0.here hx rfl (pc0 := 4) (pc' := 34) rfl (hb hby d11_4) rfl (feq h4).2 (by decide) (by decide) k) ?_
    show Gl _ _ _ _ (s₁.setTop (mkF m 34 #[.val (.ref b1), .val (.ref b2), .unset] []))
    refine Gl.go (fun _ k => XS.iconst X0.here hx rfl (hb hby d11_34) k) ?_
    show Gl _ _ _ _ (s₁.setTop (mkF m 35 #[.val (.ref b1), .val (.ref b2), .unset] [(.int (0 : Int32))]))
    refine leafN X0 hx hlk (t := .boolean) Bd.returns (by simp) (hb hby d11_35) ?_ (by decide) (by decide)
    exact ⟨by rw [nar0, eqI_no (fun q => h4 (by rw [q]))], N0, e0⟩
def Q_seq (Z : State) (a1 a2 : Addr) (bs cs : List Int32) (G1 : Int32) (h0 : Heap) (n0 : Nat) (v : Option Value) (h : Heap) (L : List Loc) : Prop := v = some (.int (eqI bs cs)) ∧ Fr n0 L ∧ h = h0
set_option maxRecDepth 65536 in
set_option maxHeartbeats 40000000 in
theorem rm_seq (l : Launch) (Z : State) (a0 : Array Value) (hw : ∀ d ∈ tables_1, d.before a0 Z = true) (ws : List Jvm.Cond) (a1 a2 : Addr) (bs cs : List Int32) (G1 : Int32) (h0 : Heap) (n0 : Nat) (Z0 : n0 ≤ h0.size) (S1 : StrAt Z h0 a1 bs) (S2 : StrAt Z h0 a2 cs) (SC : Sta Z h0 "java/lang/String" "COMPACT_STRINGS" "Z" (.int G1)) (P5 : ¬ (G1 = (0 : Int32))) :
    MetFree l (⟨"java/lang/String", "equals", "(Ljava/lang/Object;)Z"⟩ : MethodName) (head1 (Jvm.Cond.code (⟨"java/lang/String", "equals", "(Ljava/lang/Object;)Z"⟩ : MethodName) jdk_42_method_66_code 3 (some .boolean) :: ws) ({ frames := 1, cells := 0, slots := 0, locals := 14 } : Room)) (fun aa U => aa = #[(.ref a1), (.ref a2)] ∧ Z.Warmed39 U.vm ∧ U.heap = h0) (fun _ _ _ _ _ => True) (fun _ U o U' => ∃ v L, o = .returned v ∧ Q_seq Z a1 a2 bs cs G1 h0 n0 v U'.heap L ∧ FrameEnd U o U' L ({ frames := 1, cells := 0, slots := 0, locals := 14 } : Room).cells ({ frames := 1, cells := 0, slots := 0, locals := 14 } : Room).slots) := by
  refine MetFree.of_bodySF (plainFor_of_name pn_1) hisR ?_
  intro p e s m args below meth c s₁ Bd hml0 hP hK
  obtain ⟨rfl, hZ, hh⟩ := hP
  have hx := Bd.exec
  have hby := Bd.bytes
  have hml : c.maxLocals = 3 := hml0
  have hown : s.vm.findClass "java/lang/String" = some m.cls := findClass_of_methodNamed Bd.named
  have hnm := (name_of_methodNamed Bd.named Bd.method).1
  have hlk : meth.locks = false := BodyLoose.notSynchronized Bd
  have X0 : Stand p l e ({ frames := 1, cells := 0, slots := 0, locals := 14 } : Room) s m #[(.ref a1), (.ref a2)] below meth c s₁ [] 0 0 := Stand.of_body Bd
  have e0 : s₁.heap = h0 := by rw [← hh, Bd.state]; rfl
  have N0 := Fr.nil n0
  have K0 : Keep h0 h0 [] := Keep.refl _ _
  show Gl p.tables e below (QQof s (Q_seq Z a1 a2 bs cs G1 h0 n0) 0 0) (s₁.setTop (entryFrame m #[(.ref a1), (.ref a2)] 3))
  refine Gl.go (fun t k => castTop (ef_seq m a1 a2) k) ?_
  show Gl _ _ _ _ (s₁.setTop (mkF m 0 #[.val (.ref a1), .val (.ref a2), .unset] []))
  have S1' := S1
  have S2' := S2
  obtain ⟨E1, C1, l1, b1, k1, V1, K1⟩ := S1'
  obtain ⟨E2, C2, l2, b2, k2, V2, K2⟩ := S2'
  refine Gl.go (fun _ k => XS.aloadN X0.here hx rfl (hb hby d10_0) rfl rfl  k) ?_
  show Gl _ _ _ _ (s₁.setTop (mkF m 1 #[.val (.ref a1), .val (.ref a2), .unset] [(.ref a1)]))
  refine Gl.go (fun _ k => XS.aloadN X0.here hx rfl (hb hby d10_1) rfl rfl  k) ?_
  show Gl _ _ _ _ (s₁.setTop (mkF m 2 #[.val (.ref a1), .val (.ref a2), .unset] [(.ref a2), (.ref a1)]))
  by_cases h2 : a1 = a2
  · skip
    refine Gl.go (fun _ k => Jvm.RoadKit.acmp (g := (mkF m 2 #[.val (.ref a1), .val (.ref a2), .unset] [(.ref a2), (.ref a1)])) X0 hx rfl rfl rfl (pc0 := 2) (pc' := 5) (same := true) rfl (hb hby d10_2) rfl (decide_eq_true (congrArg Value.ref h2)) (by decide) (by decide) k) ?_
    show Gl _ _ _ _ (s₁.setTop (mkF m 5 #[.val (.ref a1), .val (.ref a2), .unset] []))
    refine Gl.go (fun _ k => XS.iconst X0.here hx rfl (hb hby d10_5) k) ?_
    show Gl _ _ _ _ (s₁.setTop (mkF m 6 #[.val (.ref a1), .val (.ref a2), .unset] [(.int (1 : Int32))]))
    refine leafN X0 hx hlk (t := .boolean) Bd.returns (by simp) (hb hby d10_6) ?_ (by decide) (by decide)
    subst h2
    exact ⟨by rw [nar1, eqI_yes (StrAt.inj S1 S2)], N0, e0⟩
  · skip
    refine Gl.go (fun _ k => Jvm.RoadKit.acmp (g := (mkF m 2 #[.val (.ref a1), .val (.ref a2), .unset] [(.ref a2), (.ref a1)])) X0 hx rfl rfl rfl (pc0 := 2) (pc' := 7) (same := false) rfl (hb hby d10_2) rfl (decide_eq_false fun q => h2 (Value.ref.inj q)) (by decide) (by decide) k) ?_
    show Gl _ _ _ _ (s₁.setTop (mkF m 7 #[.val (.ref a1), .val (.ref a2), .unset] []))
    refine Gl.go (fun _ k => XS.aloadN X0.here hx rfl (hb hby d10_7) rfl rfl  k) ?_
    show Gl _ _ _ _ (s₁.setTop (mkF m 8 #[.val (.ref a1), .val (.ref a2), .unset] [(.ref a2)]))
    obtain ⟨T1, X1, e1, st1⟩ := instY X0 hx hZ hown (hw _ (List.mem_of_getElem? (i := 63) rfl)) e0 (Ins.self E2) (g := (mkF m 8 #[.val (.ref a1), .val (.ref a2), .unset] [(.ref a2)])) rfl rfl (hb hby d10_8)
    refine Gl.go (fun _ k => st1 _ k) ?_
    show Gl _ _ _ _ (T1.setTop (mkF m 11 #[.val (.ref a1), .val (.ref a2), .unset] [(.int (1 : Int32))]))
    refine Gl.go (fun _ k => XS.ifNo X1.here hx rfl (hb hby d10_11) rfl ((if0 _ _).trans (feq (by decide)).1) k) ?_
    show Gl _ _ _ _ (T1.setTop (mkF m 14 #[.val (.ref a1), .val (.ref a2), .unset] []))
    refine Gl.go (fun _ k => XS.aloadN X1.here hx rfl (hb hby d10_14) rfl rfl  k) ?_
    show Gl _ _ _ _ (T1.setTop (mkF m 15 #[.val (.ref a1), .val (.ref a2), .unset] [(.ref a2)]))
    obtain ⟨T2, X2, e2, st2⟩ := castY X1 hx hZ hown (hw _ (List.mem_of_getElem? (i := 63) rfl)) e1 (Ins.self E2) (g := (mkF m 15 #[.val (.ref a1), .val (.ref a2), .unset] [(.ref a2)])) rfl rfl (hb hby d10_15)
    refine Gl.go (fun _ k => st2 _ k) ?_
    show Gl _ _ _ _ (T2.setTop (mkF m 18 #[.val (.ref a1), .val (.ref a2), .unset] [(.ref a2)]))
    refine Gl.go (fun _ k => XS.astoreN X2.here hx rfl (hb hby d10_18) rfl rfl (l' := #[.val (.ref a1), .val (.ref a2), .val (.ref a2)]) rfl k) ?_
    show Gl _ _ _ _ (T2.setTop (mkF m 19 #[.val (.ref a1), .val (.ref a2), .val (.ref a2)] []))
    obtain ⟨T3, X3, e3, st3⟩ := getS2 X2 hx hZ hown (host := "") (Or.inl (hw _ (List.mem_of_getElem? (i := 64) rfl))) Via.refl e2 SC (g := (mkF m 19 #[.val (.ref a1), .val (.ref a2), .val (.ref a2)] [])) rfl (hb hby d10_19)
    refine Gl.go (fun _ k => st3 _ k) ?_
    show Gl _ _ _ _ (T3.setTop (mkF m 22 #[.val (.ref a1), .val (.ref a2), .val (.ref a2)] [(.int G1)]))
    refine Gl.go (fun _ k => XS.ifNo X3.here hx rfl (hb hby d10_22) rfl ((if0 _ _).trans (feq P5).1) k) ?_
    show Gl _ _ _ _ (T3.setTop (mkF m 25 #[.val (.ref a1), .val (.ref a2), .val (.ref a2)] []))
    refine Gl.go (fun _ k => XS.aloadN X3.here hx rfl (hb hby d10_25) rfl rfl  k) ?_
    show Gl _ _ _ _ (T3.setTop (mkF m 26 #[.val (.ref a1), .val (.ref a2), .val (.ref a2)] [(.ref a1)]))
    obtain ⟨T4, X4, e4, st4⟩ := getF X3 hx hZ hown (host := "") (Or.inl (hw _ (List.mem_of_getElem? (i := 26) rfl))) Via.refl e3 C1 (g := (mkF m 26 #[.val (.ref a1), .val (.ref a2), .val (.ref a2)] [(.ref a1)])) rfl rfl (hb hby d10_26)
    refine Gl.go (fun _ k => st4 _ k) ?_
    show Gl _ _ _ _ (T4.setTop (mkF m 29 #[.val (.ref a1), .val (.ref a2), .val (.ref a2)] [(.int (0 : Int32))]))
    refine Gl.go (fun _ k => XS.aloadN X4.here hx rfl (hb hby d10_29) rfl rfl  k) ?_
    show Gl _ _ _ _ (T4.setTop (mkF m 30 #[.val (.ref a1), .val (.ref a2), .val (.ref a2)] [(.ref a2), (.int (0 : Int32))]))
    obtain ⟨T5, X5, e5, st5⟩ := getF X4 hx hZ hown (host := "") (Or.inl (hw _ (List.mem_of_getElem? (i := 26) rfl))) Via.refl e4 C2 (g := (mkF m 30 #[.val (.ref a1), .val (.ref a2), .val (.ref a2)] [(.ref a2), (.int (0 : Int32))])) rfl rfl (hb hby d10_30)
    refine Gl.go (fun _ k => st5 _ k) ?_
    show Gl _ _ _ _ (T5.setTop (mkF m 33 #[.val (.ref a1), .val (.ref a2), .val (.ref a2)] [(.int (0 : Int32)), (.int (0 : Int32))]))
    refine Gl.go (fun _ k => XS.icmpNo X5.here hx rfl (hb hby d10_33) rfl (teq rfl).2 k) ?_
    show Gl _ _ _ _ (T5.setTop (mkF m 36 #[.val (.ref a1), .val (.ref a2), .val (.ref a2)] []))
    refine Gl.go (fun _ k => XS.aloadN X5.here hx rfl (hb hby d10_36) rfl rfl  k) ?_
    show Gl _ _ _ _ (T5.setTop (mkF m 37 #[.val (.ref a1), .val (.ref a2), .val (.ref a2)] [(.ref a1)]))
    obtain ⟨T6, X6, e6, st6⟩ := getF X5 hx hZ hown (host := "") (Or.inl (hw _ (List.mem_of_getElem? (i := 25) rfl))) Via.refl e5 V1 (g := (mkF m 37 #[.val (.ref a1), .val (.ref a2), .val (.ref a2)] [(.ref a1)])) rfl rfl (hb hby d10_37)
    refine Gl.go (fun _ k => st6 _ k) ?_
    show Gl _ _ _ _ (T6.setTop (mkF m 40 #[.val (.ref a1), .val (.ref a2), .val (.ref a2)] [(.ref b1)]))
    refine Gl.go (fun _ k => XS.aloadN X6.here hx rfl (hb hby d10_40) rfl rfl  k) ?_
    show Gl _ _ _ _ (T6.setTop (mkF m 41 #[.val (.ref a1), .val (.ref a2), .val (.ref a2)] [(.ref a2), (.ref b1)]))
    obtain ⟨T7, X7, e7, st7⟩ := getF X6 hx hZ hown (host := "") (Or.inl (hw _ (List.mem_of_getElem? (i := 25) rfl))) Via.refl e6 V2 (g := (mkF m 41 #[.val (.ref a1), .val (.ref a2), .val (.ref a2)] [(.ref a2), (.ref b1)])) rfl rfl (hb hby d10_41)
    refine Gl.go (fun _ k => st7 _ k) ?_
    show Gl _ _ _ _ (T7.setTop (mkF m 44 #[.val (.ref a1), .val (.ref a2), .val (.ref a2)] [(.ref b2), (.ref b1)]))
    obtain ⟨_, _, ⟨T8, L8, k8, n8⟩, -, X8, ⟨Lc8, hQ8, l8, y8, z8⟩, st8⟩ := Jvm.LawKit.callS X7 hx (y := (⟨"java/lang/StringLatin1", "equals", "([B[B)Z"⟩ : MethodName)) hown (mvT hZ (hw _ (List.mem_of_getElem? (i := 65) rfl))) (mvT hZ (hw _ (List.mem_of_getElem? (i := 66) rfl))) (mvT hZ (hw _ (List.mem_of_getElem? (i := 67) rfl))) (mvT hZ (hw _ (List.mem_of_getElem? (i := 68) rfl))) (by decide) (backOf (W := 0) (rm_leq l Z a0 hw [] b1 b2 k1 k2 bs cs h0 n0 Z0 K1 l1 K2 l2) hZ (hw _ (List.mem_of_getElem? (i := 68) rfl)) (hw _ (List.mem_of_getElem? (i := 67) rfl)) (by decide) (by decide)) (g := (mkF m 44 #[.val (.ref a1), .val (.ref a2), .val (.ref a2)] [(.ref b2), (.ref b1)])) rfl (by rw [hml]; rfl) (argsL := [(.ref b1), (.ref b2)]) (rest := []) (lenOf pd_0 rfl) rfl (by show 2 * 0 + _ ≤ _; exact Nat.le_of_eq rfl) (hb hby d10_44) (fun _ _ => ⟨rfl, e7, (by decide : 0 + 0 ≤ _), (by decide : 0 + 0 ≤ _)⟩)
    dsimp only [Pt.U, Pt.locs, Pt.cells, Pt.slots] at X8 l8 y8 z8 st8 hQ8
    subst y8 z8
    obtain ⟨rfl, Nq8, e8⟩ := hQ8
    have N8 : Fr n0 L8 := by rw [l8]; exact Fr.app N0 Nq8
    refine Gl.go (fun _ k => st8 _ k) ?_
    show Gl _ _ _ _ (T8.setTop (mkF m 47 #[.val (.ref a1), .val (.ref a2), .val (.ref a2)] [(.int (eqI bs cs))]))
    by_cases h47 : (eqI bs cs) = (0 : Int32)
    · skip
      refine Gl.go (fun _ k => XS.ifYes X8.here hx rfl (pc0 := 47) (pc' := 54) rfl (hb hby d10_47) rfl ((if0 _ _).trans (teq h47).1) (by decide) (by decide) k) ?_
      show Gl _ _ _ _ (T8.setTop (mkF m 54 #[.val (.ref a1), .val (.ref a2), .val (.ref a2)] []))
      refine Gl.go (fun _ k => XS.iconst X8.here hx rfl (hb hby d10_54) k) ?_
      show Gl _ _ _ _ (T8.setTop (mkF m 55 #[.val (.ref a1), .val (.ref a2), .val (.ref a2)] [(.int (0 : Int32))]))
      refine leafN X8 hx hlk (t := .boolean) Bd.returns (by simp) (hb hby d10_55) ?_ (by decide) (by decide)
      exact ⟨by rw [nar0, h47], N8, e8⟩
    · skip
      refine Gl.go (fun _ k => XS.ifNo X8.here hx rfl (hb hby d10_47) rfl ((if0 _ _).trans (feq h47).1) k) ?_
      show Gl _ _ _ _ (T8.setTop (mkF m 50 #[.val (.ref a1), .val (.ref a2), .val (.ref a2)] []))
      refine Gl.go (fun _ k => XS.iconst X8.here hx rfl (hb hby d10_50) k) ?_
      show Gl _ _ _ _ (T8.setTop (mkF m 51 #[.val (.ref a1), .val (.ref a2), .val (.ref a2)] [(.int (1 : Int32))]))
      refine Gl.go (fun _ k => XS.goto X8.here hx rfl (pc0 := 51) (pc' := 55) rfl (hb hby d10_51) (by decide) (by decide) k) ?_
      show Gl _ _ _ _ (T8.setTop (mkF m 55 #[.val (.ref a1), .val (.ref a2), .val (.ref a2)] [(.int (1 : Int32))]))
      refine leafN X8 hx hlk (t := .boolean) Bd.returns (by simp) (hb hby d10_55) ?_ (by decide) (by decide)
      exact ⟨by rw [nar1, eqI_one h47], N8, e8⟩
def Q_cen (Z : State) (q1 : Int32) (h0 : Heap) (n0 : Nat) (v : Option Value) (h : Heap) (L : List Loc) : Prop := v = some (.int (1 : Int32)) ∧ Fr n0 L ∧ h = h0
set_option maxRecDepth 65536 in
set_option maxHeartbeats 40000000 in
theorem rm_cen (l : Launch) (Z : State) (a0 : Array Value) (hw : ∀ d ∈ tables_1, d.before a0 Z = true) (ws : List Jvm.Cond) (q1 : Int32) (h0 : Heap) (n0 : Nat) (Z0 : n0 ≤ h0.size) (hq : ¬ (255 : Int32) < q1) :
    MetFree l (⟨"java/lang/StringLatin1", "canEncode", "(C)Z"⟩ : MethodName) (head1 (Jvm.Cond.code (⟨"java/lang/StringLatin1", "canEncode", "(C)Z"⟩ : MethodName) jdk_43_method_3_code 1 (some .boolean) :: ws) ({ frames := 0, cells := 0, slots := 0, locals := 0 } : Room)) (fun aa U => aa = #[(.int q1)] ∧ Z.Warmed39 U.vm ∧ U.heap = h0) (fun _ _ _ _ _ => True) (fun _ U o U' => ∃ v L, o = .returned v ∧ Q_cen Z q1 h0 n0 v U'.heap L ∧ FrameEnd U o U' L ({ frames := 0, cells := 0, slots := 0, locals := 0 } : Room).cells ({ frames := 0, cells := 0, slots := 0, locals := 0 } : Room).slots) := by
  refine MetFree.of_bodySF (plainFor_of_name pn_0) hisR ?_
  intro p e s m args below meth c s₁ Bd hml0 hP hK
  obtain ⟨rfl, hZ, hh⟩ := hP
  have hx := Bd.exec
  have hby := Bd.bytes
  have hml : c.maxLocals = 1 := hml0
  have hown : s.vm.findClass "java/lang/StringLatin1" = some m.cls := findClass_of_methodNamed Bd.named
  have hnm := (name_of_methodNamed Bd.named Bd.method).1
  have hlk : meth.locks = false := BodyLoose.notSynchronized Bd
  have X0 : Stand p l e ({ frames := 0, cells := 0, slots := 0, locals := 0 } : Room) s m #[(.int q1)] below meth c s₁ [] 0 0 := Stand.of_body Bd
  have e0 : s₁.heap = h0 := by rw [← hh, Bd.state]; rfl
  have N0 := Fr.nil n0
  have K0 : Keep h0 h0 [] := Keep.refl _ _
  show Gl p.tables e below (QQof s (Q_cen Z q1 h0 n0) 0 0) (s₁.setTop (entryFrame m #[(.int q1)] 1))
  refine Gl.go (fun t k => castTop (ef_cen m q1) k) ?_
  show Gl _ _ _ _ (s₁.setTop (mkF m 0 #[.val (.int q1)] []))
  refine Gl.go (fun _ k => XS.iloadN X0.here hx rfl (hb hby d16_0) rfl  k) ?_
  show Gl _ _ _ _ (s₁.setTop (mkF m 1 #[.val (.int q1)] [(.int q1)]))
  refine Gl.go (fun _ k => XS.sipush X0.here hx rfl (hb hby d16_1) k) ?_
  show Gl _ _ _ _ (s₁.setTop (mkF m 4 #[.val (.int q1)] [(.int (255 : Int32)), (.int q1)]))
  refine Gl.go (fun _ k => XS.icmpNo X0.here hx rfl (hb hby d16_4) rfl (flt hq).2.2.1 k) ?_
  show Gl _ _ _ _ (s₁.setTop (mkF m 7 #[.val (.int q1)] []))
  refine Gl.go (fun _ k => XS.iconst X0.here hx rfl (hb hby d16_7) k) ?_
  show Gl _ _ _ _ (s₁.setTop (mkF m 8 #[.val (.int q1)] [(.int (1 : Int32))]))
  refine Gl.go (fun _ k => XS.goto X0.here hx rfl (pc0 := 8) (pc' := 12) rfl (hb hby d16_8) (by decide) (by decide) k) ?_
  show Gl _ _ _ _ (s₁.setTop (mkF m 12 #[.val (.int q1)] [(.int (1 : Int32))]))
  refine leafN X0 hx hlk (t := .boolean) Bd.returns (by simp) (hb hby d16_12) ?_ (by decide) (by decide)
  exact ⟨by rw [nar1], N0, e0⟩
def Q_tby (Z : State) (q1 : Int32) (h0 : Heap) (n0 : Nat) (v : Option Value) (h : Heap) (L : List Loc) : Prop := ∃ (b : Addr) (k : ClassId), v = some (.ref b) ∧ Fr n0 L ∧ Keep h0 h [] ∧ h0.size ≤ b ∧ Arv Z h b k .byte (1 : Int32) [(.int (nar .byte (q1.toInt8.toInt32)))] (.int (0 : Int32))
set_option maxRecDepth 65536 in
set_option maxHeartbeats 40000000 in
theorem rm_tby (l : Launch) (Z : State) (a0 : Array Value) (hw : ∀ d ∈ tables_1, d.before a0 Z = true) (ws : List Jvm.Cond) (q1 : Int32) (h0 : Heap) (n0 : Nat) (Z0 : n0 ≤ h0.size)  :
    MetFree l (⟨"java/lang/StringLatin1", "toBytes", "(C)[B"⟩ : MethodName) (head1 (Jvm.Cond.code (⟨"java/lang/StringLatin1", "toBytes", "(C)[B"⟩ : MethodName) jdk_43_method_46_code 1 (some (.array .byte)) :: ws) ({ frames := 0, cells := 1, slots := 1, locals := 0 } : Room)) (fun aa U => aa = #[(.int q1)] ∧ Z.Warmed39 U.vm ∧ U.heap = h0) (fun _ _ _ _ _ => True) (fun _ U o U' => ∃ v L, o = .returned v ∧ Q_tby Z q1 h0 n0 v U'.heap L ∧ FrameEnd U o U' L ({ frames := 0, cells := 1, slots := 1, locals := 0 } : Room).cells ({ frames := 0, cells := 1, slots := 1, locals := 0 } : Room).slots) := by
  refine MetFree.of_bodySF (plainFor_of_name pn_0) hisR ?_
  intro p e s m args below meth c s₁ Bd hml0 hP hK
  obtain ⟨rfl, hZ, hh⟩ := hP
  have hx := Bd.exec
  have hby := Bd.bytes
  have hml : c.maxLocals = 1 := hml0
  have hown : s.vm.findClass "java/lang/StringLatin1" = some m.cls := findClass_of_methodNamed Bd.named
  have hnm := (name_of_methodNamed Bd.named Bd.method).1
  have hlk : meth.locks = false := BodyLoose.notSynchronized Bd
  have X0 : Stand p l e ({ frames := 0, cells := 1, slots := 1, locals := 0 } : Room) s m #[(.int q1)] below meth c s₁ [] 0 0 := Stand.of_body Bd
  have e0 : s₁.heap = h0 := by rw [← hh, Bd.state]; rfl
  have N0 := Fr.nil n0
  have K0 : Keep h0 h0 [] := Keep.refl _ _
  show Gl p.tables e below (QQof s (Q_tby Z q1 h0 n0) 1 1) (s₁.setTop (entryFrame m #[(.int q1)] 1))
  refine Gl.go (fun t k => castTop (ef_tby m q1) k) ?_
  show Gl _ _ _ _ (s₁.setTop (mkF m 0 #[.val (.int q1)] []))
  refine Gl.go (fun _ k => XS.iconst X0.here hx rfl (hb hby d17_0) k) ?_
  show Gl _ _ _ _ (s₁.setTop (mkF m 1 #[.val (.int q1)] [(.int (1 : Int32))]))
  obtain ⟨T1, h1, cA1, X1, e1, E1, A1, st1⟩ := newP X0 hx hZ (hw _ (List.mem_of_getElem? (i := 20) rfl)) e0 (g := (mkF m 1 #[.val (.int q1)] [(.int (1 : Int32))])) rfl (hb hby d17_1) rfl (by decide) (cap := 1) (by decide) (by decide) (by decide) (by decide)
  obtain ⟨b1, g1⟩ : ∃ z, z = h0.size := ⟨_, rfl⟩
  rw [← g1] at A1 st1
  have g_b1 : n0 ≤ b1 := Nat.le_trans Z0 (Nat.le_of_eq g1.symm)
  have sz_b1 : h0.size ≤ b1 := Nat.le_trans K0.1 (Nat.le_of_eq g1.symm)
  have SZ1 : n0 ≤ h1.size := Nat.le_trans Z0 E1.1
  have K1 : Keep h0 h1 [] := K0.ext E1
  have V_b1_1 : Arv Z h1 b1 cA1 .byte (1 : Int32) [(.int (0 : Int32))] (.int (0 : Int32)) := (Arv.new A1 (by decide)).pad (pad_rep [] _ 1)
  refine Gl.go (fun _ k => st1 _ k) ?_
  show Gl _ _ _ _ (T1.setTop (mkF m 3 #[.val (.int q1)] [(.ref b1)]))
  refine Gl.go (fun _ k => XS.dup X1.here hx rfl (hb hby d17_3) rfl rfl k) ?_
  show Gl _ _ _ _ (T1.setTop (mkF m 4 #[.val (.int q1)] [(.ref b1), (.ref b1)]))
  refine Gl.go (fun _ k => XS.iconst X1.here hx rfl (hb hby d17_4) k) ?_
  show Gl _ _ _ _ (T1.setTop (mkF m 5 #[.val (.int q1)] [(.int (0 : Int32)), (.ref b1), (.ref b1)]))
  refine Gl.go (fun _ k => XS.iloadN X1.here hx rfl (hb hby d17_5) rfl  k) ?_
  show Gl _ _ _ _ (T1.setTop (mkF m 6 #[.val (.int q1)] [(.int q1), (.int (0 : Int32)), (.ref b1), (.ref b1)]))
  refine Gl.go (fun _ k => XS.i2b X1.here hx rfl (hb hby d17_6) rfl k) ?_
  show Gl _ _ _ _ (T1.setTop (mkF m 7 #[.val (.int q1)] [(.int (q1.toInt8.toInt32)), (.int (0 : Int32)), (.ref b1), (.ref b1)]))
  obtain ⟨cl2, Ar2, qA2, SA2, NA2, HA2, GA2⟩ := id V_b1_1
  obtain ⟨T2, h2, X2, e2, W2, st2⟩ := stB X1 hx hZ e1 Ar2 (j := (0 : Int32)) (inb_of SA2 ⟨by decide, by decide⟩) (g := (mkF m 7 #[.val (.int q1)] [(.int (q1.toInt8.toInt32)), (.int (0 : Int32)), (.ref b1), (.ref b1)])) rfl rfl (hb hby d17_7)
  have SZ2 : n0 ≤ h2.size := by rw [Wr.size W2]; exact SZ1
  have K2 : Keep h0 h2 [] := K1.wr W2 (Or.inr sz_b1)
  have N2 := Fr.snoc X2 N0 g_b1
  have V_b1_2 : Arv Z h2 b1 cA1 .byte (1 : Int32) [(.int (nar .byte (q1.toInt8.toInt32)))] (.int (0 : Int32)) := Arv.set Ar2 qA2 SA2 NA2 HA2 GA2 (fits_nar_byte _) W2 0 rfl (Nat.le_of_ble_eq_true rfl)
  refine Gl.go (fun _ k => st2 _ k) ?_
  show Gl _ _ _ _ (T2.setTop (mkF m 8 #[.val (.int q1)] [(.ref b1)]))
  refine leafA X2 hx hlk Bd.returns rfl rfl (hb hby d17_8) ?_ (by decide) (by decide)
  rw [e2]
  exact ⟨b1, cA1, rfl, N2, K2, sz_b1, V_b1_2⟩
def Q_sin (Z : State) (a1 b1 : Addr) (cd : Int32) (u_value u_coder : Value) (h0 : Heap) (n0 : Nat) (v : Option Value) (h : Heap) (L : List Loc) : Prop := v = none ∧ Fr n0 L ∧ Keep h0 h [a1] ∧ Exa Z h a1 "java/lang/String" ∧ Fld Z h a1 "java/lang/String" "value" "[B" (.ref b1) ∧ Fld Z h a1 "java/lang/String" "coder" "B" (.int (nar .byte cd))
set_option maxRecDepth 65536 in
set_option maxHeartbeats 40000000 in
theorem rm_sin (l : Launch) (Z : State) (a0 : Array Value) (hw : ∀ d ∈ tables_1, d.before a0 Z = true) (ws : List Jvm.Cond) (a1 b1 : Addr) (cd : Int32) (u_value u_coder : Value) (h0 : Heap) (n0 : Nat) (Z0 : n0 ≤ h0.size) (E_a1 : Exa Z h0 a1 "java/lang/String") (F_value : Fld Z h0 a1 "java/lang/String" "value" "[B" u_value) (F_coder : Fld Z h0 a1 "java/lang/String" "coder" "B" u_coder) (g_a1 : n0 ≤ a1) :
    MetFree l (⟨"java/lang/String", "<init>", "([BB)V"⟩ : MethodName) (head1 (Jvm.Cond.code (⟨"java/lang/String", "<init>", "([BB)V"⟩ : MethodName) jdk_42_method_151_code 3 none :: ws) ({ frames := 1, cells := 0, slots := 0, locals := 12 } : Room)) (fun aa U => aa = #[(.ref a1), (.ref b1), (.int cd)] ∧ Z.Warmed39 U.vm ∧ U.heap = h0) (fun _ _ _ _ _ => True) (fun _ U o U' => ∃ v L, o = .returned v ∧ Q_sin Z a1 b1 cd u_value u_coder h0 n0 v U'.heap L ∧ FrameEnd U o U' L ({ frames := 1, cells := 0, slots := 0, locals := 12 } : Room).cells ({ frames := 1, cells := 0, slots := 0, locals := 12 } : Room).slots) := by
  refine MetFree.of_bodySF (plainFor_of_name pn_1) hisR ?_
  intro p e s m args below meth c s₁ Bd hml0 hP hK
  obtain ⟨rfl, hZ, hh⟩ := hP
  have hx := Bd.exec
  have hby := Bd.bytes
  have hml : c.maxLocals = 3 := hml0
  have hown : s.vm.findClass "java/lang/String" = some m.cls := findClass_of_methodNamed Bd.named
  have hnm := (name_of_methodNamed Bd.named Bd.method).1
  have hlk : meth.locks = false := BodyLoose.notSynchronized Bd
  have X0 : Stand p l e ({ frames := 1, cells := 0, slots := 0, locals := 12 } : Room) s m #[(.ref a1), (.ref b1), (.int cd)] below meth c s₁ [] 0 0 := Stand.of_body Bd
  have e0 : s₁.heap = h0 := by rw [← hh, Bd.state]; rfl
  have N0 := Fr.nil n0
  have K0 : Keep h0 h0 [a1] := Keep.refl _ _
  show Gl p.tables e below (QQof s (Q_sin Z a1 b1 cd u_value u_coder h0 n0) 0 0) (s₁.setTop (entryFrame m #[(.ref a1), (.ref b1), (.int cd)] 3))
  refine Gl.go (fun t k => castTop (ef_sin m a1 b1 cd) k) ?_
  show Gl _ _ _ _ (s₁.setTop (mkF m 0 #[.val (.ref a1), .val (.ref b1), .val (.int cd)] []))
  refine Gl.go (fun _ k => XS.aloadN X0.here hx rfl (hb hby d18_0) rfl rfl  k) ?_
  show Gl _ _ _ _ (s₁.setTop (mkF m 1 #[.val (.ref a1), .val (.ref b1), .val (.int cd)] [(.ref a1)]))
  obtain ⟨T1, X1, e1, st1⟩ := initO X0 hx hZ hown (hw _ (List.mem_of_getElem? (i := 16) rfl)) (hw _ (List.mem_of_getElem? (i := 17) rfl)) (hw _ (List.mem_of_getElem? (i := 18) rfl)) e0 (g := (mkF m 1 #[.val (.ref a1), .val (.ref b1), .val (.int cd)] [(.ref a1)])) rfl (by rw [hml]; rfl) rfl (hb hby d18_1) (by decide) (W := 0) (by show 2 * 0 + _ ≤ _; exact Nat.le_of_eq rfl) (by decide)
  refine Gl.go (fun _ k => st1 _ k) ?_
  show Gl _ _ _ _ (T1.setTop (mkF m 4 #[.val (.ref a1), .val (.ref b1), .val (.int cd)] []))
  refine Gl.go (fun _ k => XS.aloadN X1.here hx rfl (hb hby d18_4) rfl rfl  k) ?_
  show Gl _ _ _ _ (T1.setTop (mkF m 5 #[.val (.ref a1), .val (.ref b1), .val (.int cd)] [(.ref a1)]))
  refine Gl.go (fun _ k => XS.aloadN X1.here hx rfl (hb hby d18_5) rfl rfl  k) ?_
  show Gl _ _ _ _ (T1.setTop (mkF m 6 #[.val (.ref a1), .val (.ref b1), .val (.int cd)] [(.ref b1), (.ref a1)]))
  obtain ⟨T2, h2, X2, e2, W2, st2⟩ := putF X1 hx hZ hown (host := "") (Or.inl (hw _ (List.mem_of_getElem? (i := 25) rfl))) Via.refl e1 F_value E_a1 (Or.inr ⟨(hw _ (List.mem_of_getElem? (i := 21) rfl)), rfl, hnm⟩) (hw _ (List.mem_of_getElem? (i := 6) rfl)) (ty := (.array .byte)) (by decide) rfl rfl (g := (mkF m 6 #[.val (.ref a1), .val (.ref b1), .val (.int cd)] [(.ref b1), (.ref a1)])) rfl rfl (hb hby d18_6)
  have E_a1_2 : Exa Z h2 a1 "java/lang/String" := E_a1.wr W2
  have F_a1_value_2 : Fld Z h2 a1 "java/lang/String" "value" "[B" (.ref b1) := F_value.same W2
  have F_a1_coder_2 : Fld Z h2 a1 "java/lang/String" "coder" "B" u_coder := F_coder.other W2 (Or.inr (slot_ne (t := .byte) (t' := (.array .byte)) (Or.inr (hw _ (List.mem_of_getElem? (i := 22) rfl))) (Or.inr (hw _ (List.mem_of_getElem? (i := 21) rfl))) (by decide) (by decide) (by decide)))
  have SZ2 : n0 ≤ h2.size := by rw [Wr.size W2]; exact Z0
  have K2 : Keep h0 h2 [a1] := K0.wr W2 (Or.inl (List.mem_of_getElem? (i := 0) rfl))
  have N2 := Fr.snoc X2 N0 g_a1
  refine Gl.go (fun _ k => st2 _ k) ?_
  show Gl _ _ _ _ (T2.setTop (mkF m 9 #[.val (.ref a1), .val (.ref b1), .val (.int cd)] []))
  refine Gl.go (fun _ k => XS.aloadN X2.here hx rfl (hb hby d18_9) rfl rfl  k) ?_
  show Gl _ _ _ _ (T2.setTop (mkF m 10 #[.val (.ref a1), .val (.ref b1), .val (.int cd)] [(.ref a1)]))
  refine Gl.go (fun _ k => XS.iloadN X2.here hx rfl (hb hby d18_10) rfl  k) ?_
  show Gl _ _ _ _ (T2.setTop (mkF m 11 #[.val (.ref a1), .val (.ref b1), .val (.int cd)] [(.int cd), (.ref a1)]))
  obtain ⟨T3, h3, X3, e3, W3, st3⟩ := putFN X2 hx hZ hown (hw _ (List.mem_of_getElem? (i := 26) rfl)) Via.refl e2 F_a1_coder_2 E_a1_2 (Or.inr ⟨(hw _ (List.mem_of_getElem? (i := 22) rfl)), rfl, hnm⟩) (hw _ (List.mem_of_getElem? (i := 6) rfl)) (ty := .byte) (v' := (.int (nar .byte cd))) (by decide) rfl (fits_nar_byte _) (g := (mkF m 11 #[.val (.ref a1), .val (.ref b1), .val (.int cd)] [(.int cd), (.ref a1)])) rfl rfl (hb hby d18_11)
  have E_a1_3 : Exa Z h3 a1 "java/lang/String" := E_a1_2.wr W3
  have F_a1_value_3 : Fld Z h3 a1 "java/lang/String" "value" "[B" (.ref b1) := F_a1_value_2.other W3 (Or.inr (slot_ne (t := (.array .byte)) (t' := .byte) (Or.inr (hw _ (List.mem_of_getElem? (i := 21) rfl))) (Or.inr (hw _ (List.mem_of_getElem? (i := 22) rfl))) (by decide) (by decide) (by decide)))
  have F_a1_coder_3 : Fld Z h3 a1 "java/lang/String" "coder" "B" (.int (nar .byte cd)) := F_a1_coder_2.same W3
  have SZ3 : n0 ≤ h3.size := by rw [Wr.size W3]; exact SZ2
  have K3 : Keep h0 h3 [a1] := K2.wr W3 (Or.inl (List.mem_of_getElem? (i := 0) rfl))
  have N3 := Fr.snoc X3 N2 g_a1
  refine Gl.go (fun _ k => st3 _ k) ?_
  show Gl _ _ _ _ (T3.setTop (mkF m 14 #[.val (.ref a1), .val (.ref b1), .val (.int cd)] []))
  refine leafV X3 hx hlk Bd.returns (hb hby d18_14) ?_ (by decide) (by decide)
  rw [e3]
  exact ⟨rfl, N3, K3, E_a1_3, F_a1_value_3, F_a1_coder_3⟩
def Q_vof (Z : State) (q1 : Int32) (G1 : Int32) (h0 : Heap) (n0 : Nat) (v : Option Value) (h : Heap) (L : List Loc) : Prop := ∃ a : Addr, v = some (.ref a) ∧ Fr n0 L ∧ Keep h0 h [] ∧ h0.size ≤ a ∧ StrAt Z h a [nar .byte (q1.toInt8.toInt32)]
set_option maxRecDepth 65536 in
set_option maxHeartbeats 40000000 in
theorem rm_vof (l : Launch) (Z : State) (a0 : Array Value) (hw : ∀ d ∈ tables_1, d.before a0 Z = true) (ws : List Jvm.Cond) (q1 : Int32) (G1 : Int32) (h0 : Heap) (n0 : Nat) (Z0 : n0 ≤ h0.size) (hq : ¬ (255 : Int32) < q1) (SC : Sta Z h0 "java/lang/String" "COMPACT_STRINGS" "Z" (.int G1)) (P5 : ¬ (G1 = (0 : Int32))) :
    MetFree l (⟨"java/lang/String", "valueOf", "(C)Ljava/lang/String;"⟩ : MethodName) (head1 (Jvm.Cond.code (⟨"java/lang/String", "valueOf", "(C)Ljava/lang/String;"⟩ : MethodName) jdk_42_method_139_code 1 (some (.object "java/lang/String")) :: ws) ({ frames := 2, cells := 2, slots := 5, locals := 27 } : Room)) (fun aa U => aa = #[(.int q1)] ∧ Z.Warmed39 U.vm ∧ U.heap = h0) (fun _ _ _ _ _ => True) (fun _ U o U' => ∃ v L, o = .returned v ∧ Q_vof Z q1 G1 h0 n0 v U'.heap L ∧ FrameEnd U o U' L ({ frames := 2, cells := 2, slots := 5, locals := 27 } : Room).cells ({ frames := 2, cells := 2, slots := 5, locals := 27 } : Room).slots) := by
  refine MetFree.of_bodySF (plainFor_of_name pn_1) hisR ?_
  intro p e s m args below meth c s₁ Bd hml0 hP hK
  obtain ⟨rfl, hZ, hh⟩ := hP
  have hx := Bd.exec
  have hby := Bd.bytes
  have hml : c.maxLocals = 1 := hml0
  have hown : s.vm.findClass "java/lang/String" = some m.cls := findClass_of_methodNamed Bd.named
  have hnm := (name_of_methodNamed Bd.named Bd.method).1
  have hlk : meth.locks = false := BodyLoose.notSynchronized Bd
  have X0 : Stand p l e ({ frames := 2, cells := 2, slots := 5, locals := 27 } : Room) s m #[(.int q1)] below meth c s₁ [] 0 0 := Stand.of_body Bd
  have e0 : s₁.heap = h0 := by rw [← hh, Bd.state]; rfl
  have N0 := Fr.nil n0
  have K0 : Keep h0 h0 [] := Keep.refl _ _
  show Gl p.tables e below (QQof s (Q_vof Z q1 G1 h0 n0) 2 5) (s₁.setTop (entryFrame m #[(.int q1)] 1))
  refine Gl.go (fun t k => castTop (ef_vof m q1) k) ?_
  show Gl _ _ _ _ (s₁.setTop (mkF m 0 #[.val (.int q1)] []))
  obtain ⟨T1, X1, e1, st1⟩ := getS2 X0 hx hZ hown (host := "") (Or.inl (hw _ (List.mem_of_getElem? (i := 64) rfl))) Via.refl e0 SC (g := (mkF m 0 #[.val (.int q1)] [])) rfl (hb hby d15_0)
  refine Gl.go (fun _ k => st1 _ k) ?_
  show Gl _ _ _ _ (T1.setTop (mkF m 3 #[.val (.int q1)] [(.int G1)]))
  refine Gl.go (fun _ k => XS.ifNo X1.here hx rfl (hb hby d15_3) rfl ((if0 _ _).trans (feq P5).1) k) ?_
  show Gl _ _ _ _ (T1.setTop (mkF m 6 #[.val (.int q1)] []))
  refine Gl.go (fun _ k => XS.iloadN X1.here hx rfl (hb hby d15_6) rfl  k) ?_
  show Gl _ _ _ _ (T1.setTop (mkF m 7 #[.val (.int q1)] [(.int q1)]))
  obtain ⟨_, _, ⟨T2, L2, k2, n2⟩, -, X2, ⟨Lc2, hQ2, l2, y2, z2⟩, st2⟩ := Jvm.LawKit.callS X1 hx (y := (⟨"java/lang/StringLatin1", "canEncode", "(C)Z"⟩ : MethodName)) hown (mvT hZ (hw _ (List.mem_of_getElem? (i := 83) rfl))) (mvT hZ (hw _ (List.mem_of_getElem? (i := 84) rfl))) (mvT hZ (hw _ (List.mem_of_getElem? (i := 67) rfl))) (mvT hZ (hw _ (List.mem_of_getElem? (i := 85) rfl))) (by decide) (backOf (W := 0) (rm_cen l Z a0 hw [] q1 h0 n0 Z0 hq) hZ (hw _ (List.mem_of_getElem? (i := 85) rfl)) (hw _ (List.mem_of_getElem? (i := 67) rfl)) (by decide) (by decide)) (g := (mkF m 7 #[.val (.int q1)] [(.int q1)])) rfl (by rw [hml]; rfl) (argsL := [(.int q1)]) (rest := []) (lenOf pd_1 rfl) rfl (by show 2 * 0 + _ ≤ _; exact Nat.le_of_eq rfl) (hb hby d15_7) (fun _ _ => ⟨rfl, e1, (by decide : 0 + 0 ≤ _), (by decide : 0 + 0 ≤ _)⟩)
  dsimp only [Pt.U, Pt.locs, Pt.cells, Pt.slots] at X2 l2 y2 z2 st2 hQ2
  subst y2 z2
  obtain ⟨rfl, Nq2, e2⟩ := hQ2
  have N2 : Fr n0 L2 := by rw [l2]; exact Fr.app N0 Nq2
  refine Gl.go (fun _ k => st2 _ k) ?_
  show Gl _ _ _ _ (T2.setTop (mkF m 10 #[.val (.int q1)] [(.int (1 : Int32))]))
  refine Gl.go (fun _ k => XS.ifNo X2.here hx rfl (hb hby d15_10) rfl ((if0 _ _).trans (feq (by decide)).1) k) ?_
  show Gl _ _ _ _ (T2.setTop (mkF m 13 #[.val (.int q1)] []))
  obtain ⟨T3, h3, X3, e3, E3, A3, D3, -, st3⟩ := newO X2 hx hZ hown (hw _ (List.mem_of_getElem? (i := 63) rfl)) (hw _ (List.mem_of_getElem? (i := 6) rfl)) (hw _ (List.mem_of_getElem? (i := 7) rfl)) e2 (g := (mkF m 13 #[.val (.int q1)] [])) rfl (hb hby d15_13) (by decide) (by decide)
  obtain ⟨b3, g3⟩ : ∃ z, z = h0.size := ⟨_, rfl⟩
  rw [← g3] at A3 D3 st3
  have g_b3 : n0 ≤ b3 := Nat.le_trans Z0 (Nat.le_of_eq g3.symm)
  have sz_b3 : h0.size ≤ b3 := Nat.le_trans K0.1 (Nat.le_of_eq g3.symm)
  have SZ3 : n0 ≤ h3.size := Nat.le_trans Z0 E3.1
  have K3 : Keep h0 h3 [] := K0.ext E3
  have F_b3_value_3 : Fld Z h3 b3 "java/lang/String" "value" "[B" .null := D3 (Or.inr (hw _ (List.mem_of_getElem? (i := 21) rfl))) (ty := (.array .byte)) (by decide)
  have F_b3_coder_3 : Fld Z h3 b3 "java/lang/String" "coder" "B" (.int (0 : Int32)) := D3 (Or.inr (hw _ (List.mem_of_getElem? (i := 22) rfl))) (ty := .byte) (by decide)
  refine Gl.go (fun _ k => st3 _ k) ?_
  show Gl _ _ _ _ (T3.setTop (mkF m 16 #[.val (.int q1)] [(.ref b3)]))
  refine Gl.go (fun _ k => XS.dup X3.here hx rfl (hb hby d15_16) rfl rfl k) ?_
  show Gl _ _ _ _ (T3.setTop (mkF m 17 #[.val (.int q1)] [(.ref b3), (.ref b3)]))
  refine Gl.go (fun _ k => XS.iloadN X3.here hx rfl (hb hby d15_17) rfl  k) ?_
  show Gl _ _ _ _ (T3.setTop (mkF m 18 #[.val (.int q1)] [(.int q1), (.ref b3), (.ref b3)]))
  obtain ⟨_, _, ⟨T4, L4, k4, n4⟩, -, X4, ⟨Lc4, hQ4, l4, y4, z4⟩, st4⟩ := Jvm.LawKit.callS X3 hx (y := (⟨"java/lang/StringLatin1", "toBytes", "(C)[B"⟩ : MethodName)) hown (mvT hZ (hw _ (List.mem_of_getElem? (i := 86) rfl))) (mvT hZ (hw _ (List.mem_of_getElem? (i := 87) rfl))) (mvT hZ (hw _ (List.mem_of_getElem? (i := 67) rfl))) (mvT hZ (hw _ (List.mem_of_getElem? (i := 88) rfl))) (by decide) (backOf (W := 2) (rm_tby l Z a0 hw [] q1 h3 n0 SZ3 ) hZ (hw _ (List.mem_of_getElem? (i := 88) rfl)) (hw _ (List.mem_of_getElem? (i := 67) rfl)) (by decide) (by decide)) (g := (mkF m 18 #[.val (.int q1)] [(.int q1), (.ref b3), (.ref b3)])) rfl (by rw [hml]; rfl) (argsL := [(.int q1)]) (rest := [(.ref b3), (.ref b3)]) (lenOf pd_2 rfl) rfl (by show 2 * 0 + _ ≤ _; exact Nat.le_of_eq rfl) (hb hby d15_18) (fun _ _ => ⟨rfl, e3, (by decide : 1 + 1 ≤ _), (by decide : 4 + 1 ≤ _)⟩)
  dsimp only [Pt.U, Pt.locs, Pt.cells, Pt.slots] at X4 l4 y4 z4 st4 hQ4
  subst y4 z4
  obtain ⟨b4, k4', rfl, Nq4, Kc4, gz4, Vc4⟩ := hQ4
  have N4 : Fr n0 L4 := by rw [l4]; exact Fr.app N2 Nq4
  refine Gl.go (fun _ k => st4 _ k) ?_
  have Ex4 := ext_of_keep Kc4
  have E_b3_4 : Exa Z T4.heap b3 "java/lang/String" := A3.ext Ex4
  have F_b3_value_4 : Fld Z T4.heap b3 "java/lang/String" "value" "[B" .null := F_b3_value_3.ext Ex4
  have F_b3_coder_4 : Fld Z T4.heap b3 "java/lang/String" "coder" "B" (.int (0 : Int32)) := F_b3_coder_3.ext Ex4
  have SZ4 : n0 ≤ T4.heap.size := Nat.le_trans SZ3 Ex4.1
  have K4 : Keep h0 T4.heap [] := K3.ext Ex4
  show Gl _ _ _ _ (T4.setTop (mkF m 21 #[.val (.int q1)] [(.ref b4), (.ref b3), (.ref b3)]))
  have ne_sb : b4 ≠ b3 := Nat.ne_of_gt (Nat.lt_of_lt_of_le A3.lt gz4)
  refine Gl.go (fun _ k => XS.iconst X4.here hx rfl (hb hby d15_21) k) ?_
  show Gl _ _ _ _ (T4.setTop (mkF m 22 #[.val (.int q1)] [(.int (0 : Int32)), (.ref b4), (.ref b3), (.ref b3)]))
  obtain ⟨_, _, ⟨T5, L5, k5, n5⟩, -, X5, ⟨Lc5, hQ5, l5, y5, z5⟩, st5⟩ := X4.specialBack hx (y := (⟨"java/lang/String", "<init>", "([BB)V"⟩ : MethodName)) rfl hown (mvT hZ (hw _ (List.mem_of_getElem? (i := 89) rfl))) (mvT hZ (hw _ (List.mem_of_getElem? (i := 90) rfl))) (mvT hZ (hw _ (List.mem_of_getElem? (i := 91) rfl))) (by decide) (backOf (W := 1) (rm_sin l Z a0 hw [] b3 b4 (0 : Int32) .null (.int 0) T4.heap n0 SZ4 E_b3_4 F_b3_value_4 F_b3_coder_4 g_b3) hZ (hw _ (List.mem_of_getElem? (i := 91) rfl)) (hw _ (List.mem_of_getElem? (i := 7) rfl)) (by decide) (by decide)) (g := (mkF m 22 #[.val (.int q1)] [(.int (0 : Int32)), (.ref b4), (.ref b3), (.ref b3)])) rfl (by rw [hml]; rfl) (Steps.refl _) (a := b3) (argsL := [(.ref b4), (.int (0 : Int32))]) (rest := [(.ref b3)]) (lenOf pd_3 rfl) rfl (by show 2 * 0 + _ ≤ _; exact Nat.le_of_eq rfl) (hb hby d15_22) (fun _ _ => ⟨rfl, rfl, (by decide : 2 + 0 ≤ _), (by decide : 5 + 0 ≤ _)⟩)
  dsimp only [Pt.U, Pt.locs, Pt.cells, Pt.slots] at X5 l5 y5 z5 st5 hQ5
  subst y5 z5
  obtain ⟨rfl, Nq5, Kc5, Ec5, Fv5, Fc5⟩ := hQ5
  have N5 : Fr n0 L5 := by rw [l5]; exact Fr.app N4 Nq5
  refine Gl.go (fun _ k => st5.trans k) ?_
  have E_b3_5 : Exa Z T5.heap b3 "java/lang/String" := E_b3_4.keep Kc5
  have V_b4_5 : Arv Z T5.heap b4 k4' .byte (1 : Int32) [(.int (nar .byte (q1.toInt8.toInt32)))] (.int (0 : Int32)) := Vc4.keep Kc5 (ninS ne_sb nin0)
  have SZ5 : n0 ≤ T5.heap.size := Nat.le_trans SZ4 Kc5.1
  have K5 : Keep h0 T5.heap [] := K4.trans Kc5 (allS (Or.inr sz_b3) all0)
  show Gl _ _ _ _ (T5.setTop (mkF m 25 #[.val (.int q1)] [(.ref b3)]))
  refine leafA X5 hx hlk Bd.returns rfl rfl (hb hby d15_25) ?_ (by decide) (by decide)
  exact ⟨b3, rfl, N5, K5, sz_b3, Ec5, Fc5, Nat.lt_of_lt_of_le (Nat.lt_succ_self 1) (by decide), b4, _, Fv5, V_b4_5⟩
def Q_nin (Z : State) (a1 : Addr) (h0 : Heap) (n0 : Nat) (v : Option Value) (h : Heap) (L : List Loc) : Prop := v = none ∧ Fr n0 L ∧ h = h0
set_option maxRecDepth 65536 in
set_option maxHeartbeats 40000000 in
theorem rm_nin (l : Launch) (Z : State) (a0 : Array Value) (hw : ∀ d ∈ tables_1, d.before a0 Z = true) (ws : List Jvm.Cond) (a1 : Addr) (h0 : Heap) (n0 : Nat) (Z0 : n0 ≤ h0.size)  :
    MetFree l (⟨"org/semfolio/Dom$Node", "<init>", "()V"⟩ : MethodName) (head1 (Jvm.Cond.code (⟨"org/semfolio/Dom$Node", "<init>", "()V"⟩ : MethodName) prog_17_method_1_code 1 none :: ws) ({ frames := 1, cells := 0, slots := 0, locals := 12 } : Room)) (fun aa U => aa = #[(.ref a1)] ∧ Z.Warmed39 U.vm ∧ U.heap = h0) (fun _ _ _ _ _ => True) (fun _ U o U' => ∃ v L, o = .returned v ∧ Q_nin Z a1 h0 n0 v U'.heap L ∧ FrameEnd U o U' L ({ frames := 1, cells := 0, slots := 0, locals := 12 } : Room).cells ({ frames := 1, cells := 0, slots := 0, locals := 12 } : Room).slots) := by
  refine MetFree.of_bodySF (plainFor_of_name pn_2) hisR ?_
  intro p e s m args below meth c s₁ Bd hml0 hP hK
  obtain ⟨rfl, hZ, hh⟩ := hP
  have hx := Bd.exec
  have hby := Bd.bytes
  have hml : c.maxLocals = 1 := hml0
  have hown : s.vm.findClass "org/semfolio/Dom$Node" = some m.cls := findClass_of_methodNamed Bd.named
  have hnm := (name_of_methodNamed Bd.named Bd.method).1
  have hlk : meth.locks = false := BodyLoose.notSynchronized Bd
  have X0 : Stand p l e ({ frames := 1, cells := 0, slots := 0, locals := 12 } : Room) s m #[(.ref a1)] below meth c s₁ [] 0 0 := Stand.of_body Bd
  have e0 : s₁.heap = h0 := by rw [← hh, Bd.state]; rfl
  have N0 := Fr.nil n0
  have K0 : Keep h0 h0 [] := Keep.refl _ _
  show Gl p.tables e below (QQof s (Q_nin Z a1 h0 n0) 0 0) (s₁.setTop (entryFrame m #[(.ref a1)] 1))
  refine Gl.go (fun t k => castTop (ef_nin m a1) k) ?_
  show Gl _ _ _ _ (s₁.setTop (mkF m 0 #[.val (.ref a1)] []))
  refine Gl.go (fun _ k => XS.aloadN X0.here hx rfl (hb hby d6_0) rfl rfl  k) ?_
  show Gl _ _ _ _ (s₁.setTop (mkF m 1 #[.val (.ref a1)] [(.ref a1)]))
  obtain ⟨T1, X1, e1, st1⟩ := initO X0 hx hZ hown (hw _ (List.mem_of_getElem? (i := 39) rfl)) (hw _ (List.mem_of_getElem? (i := 17) rfl)) (hw _ (List.mem_of_getElem? (i := 18) rfl)) e0 (g := (mkF m 1 #[.val (.ref a1)] [(.ref a1)])) rfl (by rw [hml]; rfl) rfl (hb hby d6_1) (by decide) (W := 0) (by show 2 * 0 + _ ≤ _; exact Nat.le_of_eq rfl) (by decide)
  refine Gl.go (fun _ k => st1 _ k) ?_
  show Gl _ _ _ _ (T1.setTop (mkF m 4 #[.val (.ref a1)] []))
  refine leafV X1 hx hlk Bd.returns (hb hby d6_4) ?_ (by decide) (by decide)
  exact ⟨rfl, N0, e1⟩
def Q_ein (Z : State) (a1 r2 r3 ar : Addr) (u_name u_qualifiedName u_attributes : Value) (h0 : Heap) (n0 : Nat) (v : Option Value) (h : Heap) (L : List Loc) : Prop := v = none ∧ Fr n0 L ∧ Keep h0 h [a1] ∧ Exa Z h a1 "org/semfolio/Dom$Element" ∧ Fld Z h a1 "org/semfolio/Dom$Element" "attributes" "[Ljava/lang/String;" (.ref ar)
set_option maxRecDepth 65536 in
set_option maxHeartbeats 40000000 in
theorem rm_ein (l : Launch) (Z : State) (a0 : Array Value) (hw : ∀ d ∈ tables_1, d.before a0 Z = true) (ws : List Jvm.Cond) (a1 r2 r3 ar : Addr) (u_name u_qualifiedName u_attributes : Value) (h0 : Heap) (n0 : Nat) (Z0 : n0 ≤ h0.size) (E_a1 : Exa Z h0 a1 "org/semfolio/Dom$Element") (F_name : Fld Z h0 a1 "org/semfolio/Dom$Element" "name" "Ljava/lang/String;" u_name) (F_qualifiedName : Fld Z h0 a1 "org/semfolio/Dom$Element" "qualifiedName" "Ljava/lang/String;" u_qualifiedName) (F_attributes : Fld Z h0 a1 "org/semfolio/Dom$Element" "attributes" "[Ljava/lang/String;" u_attributes) (g_a1 : n0 ≤ a1) :
    MetFree l (⟨"org/semfolio/Dom$Element", "<init>", "(Ljava/lang/String;Ljava/lang/String;[Ljava/lang/String;)V"⟩ : MethodName) (head1 (Jvm.Cond.code (⟨"org/semfolio/Dom$Element", "<init>", "(Ljava/lang/String;Ljava/lang/String;[Ljava/lang/String;)V"⟩ : MethodName) prog_16_method_1_code 4 none :: ws) ({ frames := 2, cells := 0, slots := 0, locals := 24 } : Room)) (fun aa U => aa = #[(.ref a1), (.ref r2), (.ref r3), (.ref ar)] ∧ Z.Warmed39 U.vm ∧ U.heap = h0) (fun _ _ _ _ _ => True) (fun _ U o U' => ∃ v L, o = .returned v ∧ Q_ein Z a1 r2 r3 ar u_name u_qualifiedName u_attributes h0 n0 v U'.heap L ∧ FrameEnd U o U' L ({ frames := 2, cells := 0, slots := 0, locals := 24 } : Room).cells ({ frames := 2, cells := 0, slots := 0, locals := 24 } : Room).slots) := by
  refine MetFree.of_bodySF (plainFor_of_name pn_3) hisR ?_
  intro p e s m args below meth c s₁ Bd hml0 hP hK
  obtain ⟨rfl, hZ, hh⟩ := hP
  have hx := Bd.exec
  have hby := Bd.bytes
  have hml : c.maxLocals = 4 := hml0
  have hown : s.vm.findClass "org/semfolio/Dom$Element" = some m.cls := findClass_of_methodNamed Bd.named
  have hnm := (name_of_methodNamed Bd.named Bd.method).1
  have hlk : meth.locks = false := BodyLoose.notSynchronized Bd
  have X0 : Stand p l e ({ frames := 2, cells := 0, slots := 0, locals := 24 } : Room) s m #[(.ref a1), (.ref r2), (.ref r3), (.ref ar)] below meth c s₁ [] 0 0 := Stand.of_body Bd
  have e0 : s₁.heap = h0 := by rw [← hh, Bd.state]; rfl
  have N0 := Fr.nil n0
  have K0 : Keep h0 h0 [a1] := Keep.refl _ _
  show Gl p.tables e below (QQof s (Q_ein Z a1 r2 r3 ar u_name u_qualifiedName u_attributes h0 n0) 0 0) (s₁.setTop (entryFrame m #[(.ref a1), (.ref r2), (.ref r3), (.ref ar)] 4))
  refine Gl.go (fun t k => castTop (ef_ein m a1 r2 r3 ar) k) ?_
  show Gl _ _ _ _ (s₁.setTop (mkF m 0 #[.val (.ref a1), .val (.ref r2), .val (.ref r3), .val (.ref ar)] []))
  refine Gl.go (fun _ k => XS.aloadN X0.here hx rfl (hb hby d5_0) rfl rfl  k) ?_
  show Gl _ _ _ _ (s₁.setTop (mkF m 1 #[.val (.ref a1), .val (.ref r2), .val (.ref r3), .val (.ref ar)] [(.ref a1)]))
  obtain ⟨_, _, ⟨T1, L1, k1, n1⟩, -, X1, ⟨Lc1, hQ1, l1, y1, z1⟩, st1⟩ := X0.specialBack hx (y := (⟨"org/semfolio/Dom$Node", "<init>", "()V"⟩ : MethodName)) rfl hown (mvT hZ (hw _ (List.mem_of_getElem? (i := 34) rfl))) (mvT hZ (hw _ (List.mem_of_getElem? (i := 35) rfl))) (mvT hZ (hw _ (List.mem_of_getElem? (i := 38) rfl))) (by decide) (backOf (W := 0) (rm_nin l Z a0 hw [] a1 h0 n0 Z0 ) hZ (hw _ (List.mem_of_getElem? (i := 38) rfl)) (hw _ (List.mem_of_getElem? (i := 37) rfl)) (by decide) (by decide)) (g := (mkF m 1 #[.val (.ref a1), .val (.ref r2), .val (.ref r3), .val (.ref ar)] [(.ref a1)])) rfl (by rw [hml]; rfl) (Steps.refl _) (a := a1) (argsL := []) (rest := []) (lenOf pd_4 rfl) rfl (by show 2 * 0 + _ ≤ _; exact Nat.le_of_eq rfl) (hb hby d5_1) (fun _ _ => ⟨rfl, e0, (by decide : 0 + 0 ≤ _), (by decide : 0 + 0 ≤ _)⟩)
  dsimp only [Pt.U, Pt.locs, Pt.cells, Pt.slots] at X1 l1 y1 z1 st1 hQ1
  subst y1 z1
  obtain ⟨rfl, Nq1, e1⟩ := hQ1
  have N1 : Fr n0 L1 := by rw [l1]; exact Fr.app N0 Nq1
  refine Gl.go (fun _ k => st1.trans k) ?_
  show Gl _ _ _ _ (T1.setTop (mkF m 4 #[.val (.ref a1), .val (.ref r2), .val (.ref r3), .val (.ref ar)] []))
  refine Gl.go (fun _ k => XS.aloadN X1.here hx rfl (hb hby d5_4) rfl rfl  k) ?_
  show Gl _ _ _ _ (T1.setTop (mkF m 5 #[.val (.ref a1), .val (.ref r2), .val (.ref r3), .val (.ref ar)] [(.ref a1)]))
  refine Gl.go (fun _ k => XS.aloadN X1.here hx rfl (hb hby d5_5) rfl rfl  k) ?_
  show Gl _ _ _ _ (T1.setTop (mkF m 6 #[.val (.ref a1), .val (.ref r2), .val (.ref r3), .val (.ref ar)] [(.ref r2), (.ref a1)]))
  obtain ⟨T2, h2, X2, e2, W2, st2⟩ := putF X1 hx hZ hown (host := "") (Or.inl (hw _ (List.mem_of_getElem? (i := 40) rfl))) Via.refl e1 F_name E_a1 (Or.inr ⟨(hw _ (List.mem_of_getElem? (i := 41) rfl)), rfl, hnm⟩) (hw _ (List.mem_of_getElem? (i := 29) rfl)) (ty := (.object "java/lang/String")) (by decide) rfl rfl (g := (mkF m 6 #[.val (.ref a1), .val (.ref r2), .val (.ref r3), .val (.ref ar)] [(.ref r2), (.ref a1)])) rfl rfl (hb hby d5_6)
  have E_a1_2 : Exa Z h2 a1 "org/semfolio/Dom$Element" := E_a1.wr W2
  have F_a1_name_2 : Fld Z h2 a1 "org/semfolio/Dom$Element" "name" "Ljava/lang/String;" (.ref r2) := F_name.same W2
  have F_a1_qualifiedName_2 : Fld Z h2 a1 "org/semfolio/Dom$Element" "qualifiedName" "Ljava/lang/String;" u_qualifiedName := F_qualifiedName.other W2 (Or.inr (slot_ne (t := (.object "java/lang/String")) (t' := (.object "java/lang/String")) (Or.inr (hw _ (List.mem_of_getElem? (i := 43) rfl))) (Or.inr (hw _ (List.mem_of_getElem? (i := 41) rfl))) (by decide) (by decide) (by decide)))
  have F_a1_attributes_2 : Fld Z h2 a1 "org/semfolio/Dom$Element" "attributes" "[Ljava/lang/String;" u_attributes := F_attributes.other W2 (Or.inr (slot_ne (t := (.array (.object "java/lang/String"))) (t' := (.object "java/lang/String")) (Or.inr (hw _ (List.mem_of_getElem? (i := 45) rfl))) (Or.inr (hw _ (List.mem_of_getElem? (i := 41) rfl))) (by decide) (by decide) (by decide)))
  have SZ2 : n0 ≤ h2.size := by rw [Wr.size W2]; exact Z0
  have K2 : Keep h0 h2 [a1] := K0.wr W2 (Or.inl (List.mem_of_getElem? (i := 0) rfl))
  have N2 := Fr.snoc X2 N1 g_a1
  refine Gl.go (fun _ k => st2 _ k) ?_
  show Gl _ _ _ _ (T2.setTop (mkF m 9 #[.val (.ref a1), .val (.ref r2), .val (.ref r3), .val (.ref ar)] []))
  refine Gl.go (fun _ k => XS.aloadN X2.here hx rfl (hb hby d5_9) rfl rfl  k) ?_
  show Gl _ _ _ _ (T2.setTop (mkF m 10 #[.val (.ref a1), .val (.ref r2), .val (.ref r3), .val (.ref ar)] [(.ref a1)]))
  refine Gl.go (fun _ k => XS.aloadN X2.here hx rfl (hb hby d5_10) rfl rfl  k) ?_
  show Gl _ _ _ _ (T2.setTop (mkF m 11 #[.val (.ref a1), .val (.ref r2), .val (.ref r3), .val (.ref ar)] [(.ref r3), (.ref a1)]))
  obtain ⟨T3, h3, X3, e3, W3, st3⟩ := putF X2 hx hZ hown (host := "") (Or.inl (hw _ (List.mem_of_getElem? (i := 42) rfl))) Via.refl e2 F_a1_qualifiedName_2 E_a1_2 (Or.inr ⟨(hw _ (List.mem_of_getElem? (i := 43) rfl)), rfl, hnm⟩) (hw _ (List.mem_of_getElem? (i := 29) rfl)) (ty := (.object "java/lang/String")) (by decide) rfl rfl (g := (mkF m 11 #[.val (.ref a1), .val (.ref r2), .val (.ref r3), .val (.ref ar)] [(.ref r3), (.ref a1)])) rfl rfl (hb hby d5_11)
  have E_a1_3 : Exa Z h3 a1 "org/semfolio/Dom$Element" := E_a1_2.wr W3
  have F_a1_name_3 : Fld Z h3 a1 "org/semfolio/Dom$Element" "name" "Ljava/lang/String;" (.ref r2) := F_a1_name_2.other W3 (Or.inr (slot_ne (t := (.object "java/lang/String")) (t' := (.object "java/lang/String")) (Or.inr (hw _ (List.mem_of_getElem? (i := 41) rfl))) (Or.inr (hw _ (List.mem_of_getElem? (i := 43) rfl))) (by decide) (by decide) (by decide)))
  have F_a1_qualifiedName_3 : Fld Z h3 a1 "org/semfolio/Dom$Element" "qualifiedName" "Ljava/lang/String;" (.ref r3) := F_a1_qualifiedName_2.same W3
  have F_a1_attributes_3 : Fld Z h3 a1 "org/semfolio/Dom$Element" "attributes" "[Ljava/lang/String;" u_attributes := F_a1_attributes_2.other W3 (Or.inr (slot_ne (t := (.array (.object "java/lang/String"))) (t' := (.object "java/lang/String")) (Or.inr (hw _ (List.mem_of_getElem? (i := 45) rfl))) (Or.inr (hw _ (List.mem_of_getElem? (i := 43) rfl))) (by decide) (by decide) (by decide)))
  have SZ3 : n0 ≤ h3.size := by rw [Wr.size W3]; exact SZ2
  have K3 : Keep h0 h3 [a1] := K2.wr W3 (Or.inl (List.mem_of_getElem? (i := 0) rfl))
  have N3 := Fr.snoc X3 N2 g_a1
  refine Gl.go (fun _ k => st3 _ k) ?_
  show Gl _ _ _ _ (T3.setTop (mkF m 14 #[.val (.ref a1), .val (.ref r2), .val (.ref r3), .val (.ref ar)] []))
  refine Gl.go (fun _ k => XS.aloadN X3.here hx rfl (hb hby d5_14) rfl rfl  k) ?_
  show Gl _ _ _ _ (T3.setTop (mkF m 15 #[.val (.ref a1), .val (.ref r2), .val (.ref r3), .val (.ref ar)] [(.ref a1)]))
  refine Gl.go (fun _ k => XS.aloadN X3.here hx rfl (hb hby d5_15) rfl rfl  k) ?_
  show Gl _ _ _ _ (T3.setTop (mkF m 16 #[.val (.ref a1), .val (.ref r2), .val (.ref r3), .val (.ref ar)] [(.ref ar), (.ref a1)]))
  obtain ⟨T4, h4, X4, e4, W4, st4⟩ := putF X3 hx hZ hown (host := "") (Or.inl (hw _ (List.mem_of_getElem? (i := 44) rfl))) Via.refl e3 F_a1_attributes_3 E_a1_3 (Or.inr ⟨(hw _ (List.mem_of_getElem? (i := 45) rfl)), rfl, hnm⟩) (hw _ (List.mem_of_getElem? (i := 29) rfl)) (ty := (.array (.object "java/lang/String"))) (by decide) rfl rfl (g := (mkF m 16 #[.val (.ref a1), .val (.ref r2), .val (.ref r3), .val (.ref ar)] [(.ref ar), (.ref a1)])) rfl rfl (hb hby d5_16)
  have E_a1_4 : Exa Z h4 a1 "org/semfolio/Dom$Element" := E_a1_3.wr W4
  have F_a1_name_4 : Fld Z h4 a1 "org/semfolio/Dom$Element" "name" "Ljava/lang/String;" (.ref r2) := F_a1_name_3.other W4 (Or.inr (slot_ne (t := (.object "java/lang/String")) (t' := (.array (.object "java/lang/String"))) (Or.inr (hw _ (List.mem_of_getElem? (i := 41) rfl))) (Or.inr (hw _ (List.mem_of_getElem? (i := 45) rfl))) (by decide) (by decide) (by decide)))
  have F_a1_qualifiedName_4 : Fld Z h4 a1 "org/semfolio/Dom$Element" "qualifiedName" "Ljava/lang/String;" (.ref r3) := F_a1_qualifiedName_3.other W4 (Or.inr (slot_ne (t := (.object "java/lang/String")) (t' := (.array (.object "java/lang/String"))) (Or.inr (hw _ (List.mem_of_getElem? (i := 43) rfl))) (Or.inr (hw _ (List.mem_of_getElem? (i := 45) rfl))) (by decide) (by decide) (by decide)))
  have F_a1_attributes_4 : Fld Z h4 a1 "org/semfolio/Dom$Element" "attributes" "[Ljava/lang/String;" (.ref ar) := F_a1_attributes_3.same W4
  have SZ4 : n0 ≤ h4.size := by rw [Wr.size W4]; exact SZ3
  have K4 : Keep h0 h4 [a1] := K3.wr W4 (Or.inl (List.mem_of_getElem? (i := 0) rfl))
  have N4 := Fr.snoc X4 N3 g_a1
  refine Gl.go (fun _ k => st4 _ k) ?_
  show Gl _ _ _ _ (T4.setTop (mkF m 19 #[.val (.ref a1), .val (.ref r2), .val (.ref r3), .val (.ref ar)] []))
  refine leafV X4 hx hlk Bd.returns (hb hby d5_19) ?_ (by decide) (by decide)
  rw [e4]
  exact ⟨rfl, N4, K4, E_a1_4, F_a1_attributes_4⟩
def Q_iz2 (Z : State) (a1 b1 : Addr) (h0 : Heap) (n0 : Nat) (v : Option Value) (h : Heap) (L : List Loc) : Prop := v = none ∧ Fr n0 L ∧ Keep h0 h [a1] ∧ StrAt Z h a1 []
set_option maxRecDepth 65536 in
set_option maxHeartbeats 40000000 in
theorem rm_iz2 (l : Launch) (Z : State) (a0 : Array Value) (hw : ∀ d ∈ tables_1, d.before a0 Z = true) (ws : List Jvm.Cond) (a1 b1 : Addr) (h0 : Heap) (n0 : Nat) (Z0 : n0 ≤ h0.size) (hEL : EW Z a0 elL) (hSA : ∀ a ∈ Bundle.stringAtoms, a.before a0 Z = true) (E_a1 : (Exa Z h0 a1 "java/lang/String")) (F_value : (Fld Z h0 a1 "java/lang/String" "value" "[B" .null)) (F_coder : (Fld Z h0 a1 "java/lang/String" "coder" "B" (.int (0 : Int32)))) (g_a1 : n0 ≤ a1) :
    MetFree l (⟨"java/lang/String", "<init>", "([CIILjava/lang/Void;)V"⟩ : MethodName) (head1 (Jvm.Cond.code (⟨"java/lang/String", "<init>", "([CIILjava/lang/Void;)V"⟩ : MethodName) jdk_42_method_149_code 6 none :: ws) ({ frames := 1, cells := 4, slots := 8, locals := 12 } : Room)) (fun aa U => aa = #[(.ref a1), (.ref b1), (.int (0 : Int32)), (.int (0 : Int32)), .null] ∧ Z.Warmed39 U.vm ∧ U.heap = h0 ∧ CHv Z elL U.vm h0) (fun _ _ _ _ _ => True) (fun _ U o U' => ∃ v L, o = .returned v ∧ Q_iz2 Z a1 b1 h0 n0 v U'.heap L ∧ CHr Z elL U.vm U.heap U'.vm U'.heap ∧ ReturnedEndW U o U' L ({ frames := 1, cells := 4, slots := 8, locals := 12 } : Room).cells ({ frames := 1, cells := 4, slots := 8, locals := 12 } : Room).slots) := by
  refine MetFree.of_bodySF (plainFor_of_name pn_1) hisR ?_
  intro p e s m args below meth c s₁ Bd hml0 hP hK
  obtain ⟨rfl, hZ, hh, hCH⟩ := hP
  have hx := Bd.exec
  have hby := Bd.bytes
  have hml : c.maxLocals = 6 := hml0
  have hown : s.vm.findClass "java/lang/String" = some m.cls := findClass_of_methodNamed Bd.named
  have hnm := (name_of_methodNamed Bd.named Bd.method).1
  have hlk : meth.locks = false := BodyLoose.notSynchronized Bd
  have X0 : Stand p l e ({ frames := 1, cells := 4, slots := 8, locals := 12 } : Room) (s.setVm s.vm) m #[(.ref a1), (.ref b1), (.int (0 : Int32)), (.int (0 : Int32)), .null] below meth c s₁ [] 0 0 := Stand.of_body Bd
  have hS : s.Since s.vm 0 := (State.WarmedH.refl s).since 0
  have hk : 0 ≤ h0.size := Nat.zero_le _
  have CR0 : CHr Z elL s.vm h0 s.vm h0 := CHr.refl hCH
  have e0 : s₁.heap = h0 := by rw [← hh, Bd.state]; rfl
  have N0 := Fr.nil n0
  have K0 : Keep h0 h0 [a1] := Keep.refl _ _
  show Gl p.tables e below (QQofW Z elL s (Q_iz2 Z a1 b1 h0 n0) 4 8) (s₁.setTop (entryFrame m #[(.ref a1), (.ref b1), (.int (0 : Int32)), (.int (0 : Int32)), .null] 6))
  refine Gl.go (fun t k => castTop (ef_iz2 m a1 b1 (0 : Int32) (0 : Int32)) k) ?_
  show Gl _ _ _ _ (s₁.setTop (mkF m 0 #[.val (.ref a1), .val (.ref b1), .val (.int (0 : Int32)), .val (.int (0 : Int32)), .val .null, .unset] []))
  have Zs_a1 : Safe Z elL s.vm h0 a1 := own_safe hZ.alike F_value E_a1
  refine Gl.go (fun _ k => XS.aloadN X0.here hx rfl (hb hby d3_0) rfl rfl  k) ?_
  show Gl _ _ _ _ (s₁.setTop (mkF m 1 #[.val (.ref a1), .val (.ref b1), .val (.int (0 : Int32)), .val (.int (0 : Int32)), .val .null, .unset] [(.ref a1)]))
  obtain ⟨T1, X1, e1, st1⟩ := initO X0 hx hZ hown (hw _ (List.mem_of_getElem? (i := 16) rfl)) (hw _ (List.mem_of_getElem? (i := 17) rfl)) (hw _ (List.mem_of_getElem? (i := 18) rfl)) e0 (g := (mkF m 1 #[.val (.ref a1), .val (.ref b1), .val (.int (0 : Int32)), .val (.int (0 : Int32)), .val .null, .unset] [(.ref a1)])) rfl (by rw [hml]; rfl) rfl (hb hby d3_1) (by decide) (W := 0) (by show 2 * 0 + _ ≤ _; exact Nat.le_of_eq rfl) (by decide)
  refine Gl.go (fun _ k => st1 _ k) ?_
  show Gl _ _ _ _ (T1.setTop (mkF m 4 #[.val (.ref a1), .val (.ref b1), .val (.int (0 : Int32)), .val (.int (0 : Int32)), .val .null, .unset] []))
  refine Gl.go (fun _ k => XS.iloadN X1.here hx rfl (hb hby d3_4) rfl  k) ?_
  show Gl _ _ _ _ (T1.setTop (mkF m 5 #[.val (.ref a1), .val (.ref b1), .val (.int (0 : Int32)), .val (.int (0 : Int32)), .val .null, .unset] [(.int (0 : Int32))]))
  refine Gl.go (fun _ k => XS.ifNo X1.here hx rfl (hb hby d3_5) rfl ((if0 _ _).trans (teq rfl).2) k) ?_
  show Gl _ _ _ _ (T1.setTop (mkF m 8 #[.val (.ref a1), .val (.ref b1), .val (.int (0 : Int32)), .val (.int (0 : Int32)), .val .null, .unset] []))
  refine Gl.go (fun _ k => XS.aloadN X1.here hx rfl (hb hby d3_8) rfl rfl  k) ?_
  show Gl _ _ _ _ (T1.setTop (mkF m 9 #[.val (.ref a1), .val (.ref b1), .val (.int (0 : Int32)), .val (.int (0 : Int32)), .val .null, .unset] [(.ref a1)]))
  obtain ⟨sa2, T2, h2, k12, sb2, kb2, X2, e2, E2, hS, hk2, hZ2, hown, Es2, Cs2, Vs2, Ks2, -, -, hC2, -, hn2, st2⟩ := ldcCH (EL := elL) X1 hx hZ hown (hw _ (List.mem_of_getElem? (i := 19) rfl)) hSA e1 hS hk hEL (by decide) CR0.1 (vs := []) (z := (0 : Int32)) ⟨by decide, by decide⟩ (by decide) rfl (g := (mkF m 9 #[.val (.ref a1), .val (.ref b1), .val (.int (0 : Int32)), .val (.int (0 : Int32)), .val .null, .unset] [(.ref a1)])) rfl (hb hby d3_9) (n := 0) (by decide) (by decide) (by decide) (by decide)
  have hZ : Z.Warmed39 T2.vm := hZ2
  have hk := hk2
  have CR2 : CHr Z elL s.vm h0 T2.vm h2 := CR0.trans hC2
  have Zs_a1_2 : Safe Z elL T2.vm h2 a1 := hC2.safe E_a1.lt Zs_a1
  have E_a1_2 : Exa Z h2 a1 "java/lang/String" := E_a1.ext E2
  have F_a1_value_2 : Fld Z h2 a1 "java/lang/String" "value" "[B" .null := F_value.ext E2
  have F_a1_coder_2 : Fld Z h2 a1 "java/lang/String" "coder" "B" (.int (0 : Int32)) := F_coder.ext E2
  have SZ2 : n0 ≤ h2.size := Nat.le_trans Z0 E2.1
  have K2 : Keep h0 h2 [a1] := K0.ext E2
  refine Gl.go (fun _ k => st2 _ k) ?_
  show Gl _ _ _ _ (T2.setTop (mkF m 11 #[.val (.ref a1), .val (.ref b1), .val (.int (0 : Int32)), .val (.int (0 : Int32)), .val .null, .unset] [(.ref sa2), (.ref a1)]))
  have ne_a1_sb2 : a1 ≠ sb2 := (hn2 _ Zs_a1_2).2
  obtain ⟨T3, X3, e3, st3⟩ := getF X2 hx hZ hown (host := "") (Or.inl (hw _ (List.mem_of_getElem? (i := 25) rfl))) Via.refl e2 Vs2 (g := (mkF m 11 #[.val (.ref a1), .val (.ref b1), .val (.int (0 : Int32)), .val (.int (0 : Int32)), .val .null, .unset] [(.ref sa2), (.ref a1)])) rfl rfl (hb hby d3_11)
  refine Gl.go (fun _ k => st3 _ k) ?_
  show Gl _ _ _ _ (T3.setTop (mkF m 14 #[.val (.ref a1), .val (.ref b1), .val (.int (0 : Int32)), .val (.int (0 : Int32)), .val .null, .unset] [(.ref sb2), (.ref a1)]))
  obtain ⟨T4, h4, X4, e4, W4, st4⟩ := putF X3 hx hZ hown (host := "") (Or.inl (hw _ (List.mem_of_getElem? (i := 25) rfl))) Via.refl e3 F_a1_value_2 E_a1_2 (Or.inr ⟨(hw _ (List.mem_of_getElem? (i := 21) rfl)), rfl, hnm⟩) (hw _ (List.mem_of_getElem? (i := 6) rfl)) (ty := (.array .byte)) (by decide) rfl rfl (g := (mkF m 14 #[.val (.ref a1), .val (.ref b1), .val (.int (0 : Int32)), .val (.int (0 : Int32)), .val .null, .unset] [(.ref sb2), (.ref a1)])) rfl rfl (hb hby d3_14)
  have Zs_a1_4 : Safe Z elL T2.vm h4 a1 := Safe.wr W4 Zs_a1_2 CR2.1 Zs_a1_2
  have E_a1_4 : Exa Z h4 a1 "java/lang/String" := E_a1_2.wr W4
  have F_a1_value_4 : Fld Z h4 a1 "java/lang/String" "value" "[B" (.ref sb2) := F_a1_value_2.same W4
  have F_a1_coder_4 : Fld Z h4 a1 "java/lang/String" "coder" "B" (.int (0 : Int32)) := F_a1_coder_2.other W4 (Or.inr (slot_ne (t := .byte) (t' := (.array .byte)) (Or.inr (hw _ (List.mem_of_getElem? (i := 22) rfl))) (Or.inr (hw _ (List.mem_of_getElem? (i := 21) rfl))) (by decide) (by decide) (by decide)))
  have V_sb2_4 : Arv Z h4 sb2 kb2 .byte (0 : Int32) [] (.int (0 : Int32)) := Ks2.other W4 (Ne.symm ne_a1_sb2)
  have SZ4 : n0 ≤ h4.size := by rw [Wr.size W4]; exact SZ2
  have K4 : Keep h0 h4 [a1] := K2.wr W4 (Or.inl (List.mem_of_getElem? (i := 0) rfl))
  have N4 := Fr.snoc X4 N0 g_a1
  have hk := Nat.le_trans hk (Nat.le_of_eq (Wr.size W4).symm)
  have CR4 : CHr Z elL s.vm h0 T2.vm h4 := CR2.trans (CHr.wr W4 Zs_a1_2 CR2.1)
  refine Gl.go (fun _ k => st4 _ k) ?_
  show Gl _ _ _ _ (T4.setTop (mkF m 17 #[.val (.ref a1), .val (.ref b1), .val (.int (0 : Int32)), .val (.int (0 : Int32)), .val .null, .unset] []))
  refine Gl.go (fun _ k => XS.aloadN X4.here hx rfl (hb hby d3_17) rfl rfl  k) ?_
  show Gl _ _ _ _ (T4.setTop (mkF m 18 #[.val (.ref a1), .val (.ref b1), .val (.int (0 : Int32)), .val (.int (0 : Int32)), .val .null, .unset] [(.ref a1)]))
  obtain ⟨sa5, T5, h5, k15, sb5, kb5, X5, e5, E5, hS, hk5, hZ5, hown, Es5, Cs5, Vs5, Ks5, -, -, hC5, -, hn5, st5⟩ := ldcCH (EL := elL) X4 hx hZ hown (hw _ (List.mem_of_getElem? (i := 19) rfl)) hSA e4 hS hk hEL (by decide) CR4.1 (vs := []) (z := (0 : Int32)) ⟨by decide, by decide⟩ (by decide) rfl (g := (mkF m 18 #[.val (.ref a1), .val (.ref b1), .val (.int (0 : Int32)), .val (.int (0 : Int32)), .val .null, .unset] [(.ref a1)])) rfl (hb hby d3_18) (n := 0) (by decide) (by decide) (by decide) (by decide)
  have hZ : Z.Warmed39 T5.vm := hZ5
  have hk := hk5
  have CR5 : CHr Z elL s.vm h0 T5.vm h5 := CR4.trans hC5
  have Zs_a1_5 : Safe Z elL T5.vm h5 a1 := hC5.safe E_a1_4.lt Zs_a1_4
  have E_a1_5 : Exa Z h5 a1 "java/lang/String" := E_a1_4.ext E5
  have F_a1_value_5 : Fld Z h5 a1 "java/lang/String" "value" "[B" (.ref sb2) := F_a1_value_4.ext E5
  have F_a1_coder_5 : Fld Z h5 a1 "java/lang/String" "coder" "B" (.int (0 : Int32)) := F_a1_coder_4.ext E5
  have V_sb2_5 : Arv Z h5 sb2 kb2 .byte (0 : Int32) [] (.int (0 : Int32)) := V_sb2_4.ext E5
  have SZ5 : n0 ≤ h5.size := Nat.le_trans SZ4 E5.1
  have K5 : Keep h0 h5 [a1] := K4.ext E5
  refine Gl.go (fun _ k => st5 _ k) ?_
  show Gl _ _ _ _ (T5.setTop (mkF m 20 #[.val (.ref a1), .val (.ref b1), .val (.int (0 : Int32)), .val (.int (0 : Int32)), .val .null, .unset] [(.ref sa5), (.ref a1)]))
  obtain ⟨T6, X6, e6, st6⟩ := getF X5 hx hZ hown (host := "") (Or.inl (hw _ (List.mem_of_getElem? (i := 26) rfl))) Via.refl e5 Cs5 (g := (mkF m 20 #[.val (.ref a1), .val (.ref b1), .val (.int (0 : Int32)), .val (.int (0 : Int32)), .val .null, .unset] [(.ref sa5), (.ref a1)])) rfl rfl (hb hby d3_20)
  refine Gl.go (fun _ k => st6 _ k) ?_
  show Gl _ _ _ _ (T6.setTop (mkF m 23 #[.val (.ref a1), .val (.ref b1), .val (.int (0 : Int32)), .val (.int (0 : Int32)), .val .null, .unset] [(.int (0 : Int32)), (.ref a1)]))
  obtain ⟨T7, h7, X7, e7, W7, st7⟩ := putFN X6 hx hZ hown (hw _ (List.mem_of_getElem? (i := 26) rfl)) Via.refl e6 F_a1_coder_5 E_a1_5 (Or.inr ⟨(hw _ (List.mem_of_getElem? (i := 22) rfl)), rfl, hnm⟩) (hw _ (List.mem_of_getElem? (i := 6) rfl)) (ty := .byte) (v' := (.int (nar .byte (0 : Int32)))) (by decide) rfl (fits_nar_byte _) (g := (mkF m 23 #[.val (.ref a1), .val (.ref b1), .val (.int (0 : Int32)), .val (.int (0 : Int32)), .val .null, .unset] [(.int (0 : Int32)), (.ref a1)])) rfl rfl (hb hby d3_23)
  have Zs_a1_7 : Safe Z elL T5.vm h7 a1 := Safe.wr W7 Zs_a1_5 CR5.1 Zs_a1_5
  have E_a1_7 : Exa Z h7 a1 "java/lang/String" := E_a1_5.wr W7
  have F_a1_value_7 : Fld Z h7 a1 "java/lang/String" "value" "[B" (.ref sb2) := F_a1_value_5.other W7 (Or.inr (slot_ne (t := (.array .byte)) (t' := .byte) (Or.inr (hw _ (List.mem_of_getElem? (i := 21) rfl))) (Or.inr (hw _ (List.mem_of_getElem? (i := 22) rfl))) (by decide) (by decide) (by decide)))
  have F_a1_coder_7 : Fld Z h7 a1 "java/lang/String" "coder" "B" (.int (nar .byte (0 : Int32))) := F_a1_coder_5.same W7
  have V_sb2_7 : Arv Z h7 sb2 kb2 .byte (0 : Int32) [] (.int (0 : Int32)) := V_sb2_5.other W7 (Ne.symm ne_a1_sb2)
  have SZ7 : n0 ≤ h7.size := by rw [Wr.size W7]; exact SZ5
  have K7 : Keep h0 h7 [a1] := K5.wr W7 (Or.inl (List.mem_of_getElem? (i := 0) rfl))
  have N7 := Fr.snoc X7 N4 g_a1
  have hk := Nat.le_trans hk (Nat.le_of_eq (Wr.size W7).symm)
  have CR7 : CHr Z elL s.vm h0 T5.vm h7 := CR5.trans (CHr.wr W7 Zs_a1_5 CR5.1)
  refine Gl.go (fun _ k => st7 _ k) ?_
  show Gl _ _ _ _ (T7.setTop (mkF m 26 #[.val (.ref a1), .val (.ref b1), .val (.int (0 : Int32)), .val (.int (0 : Int32)), .val .null, .unset] []))
  refine leafWV X7 hS (by rw [e7]; exact hk) hx hlk Bd.returns (hb hby d3_26) (by rw [e7]; exact (CR7.trans (CHv.at X7 hZ hEL CR7.1))) hh ?_ (by decide) (by decide)
  rw [e7]
  exact ⟨rfl, N7, K7, E_a1_7, by have q := F_a1_coder_7; rw [nb0] at q; exact q, by decide, sb2, kb2, F_a1_value_7, V_sb2_7⟩
def Q_iz1 (Z : State) (a1 b1 : Addr) (kC : ClassId) (h0 : Heap) (n0 : Nat) (v : Option Value) (h : Heap) (L : List Loc) : Prop := v = none ∧ Fr n0 L ∧ Keep h0 h [a1] ∧ StrAt Z h a1 []
set_option maxRecDepth 65536 in
set_option maxHeartbeats 40000000 in
theorem rm_iz1 (l : Launch) (Z : State) (a0 : Array Value) (hw : ∀ d ∈ tables_1, d.before a0 Z = true) (ws : List Jvm.Cond) (a1 b1 : Addr) (kC : ClassId) (h0 : Heap) (n0 : Nat) (Z0 : n0 ≤ h0.size) (hEL : EW Z a0 elL) (hSA : ∀ a ∈ Bundle.stringAtoms, a.before a0 Z = true) (E_a1 : (Exa Z h0 a1 "java/lang/String")) (F_value : (Fld Z h0 a1 "java/lang/String" "value" "[B" .null)) (F_coder : (Fld Z h0 a1 "java/lang/String" "coder" "B" (.int (0 : Int32)))) (g_a1 : n0 ≤ a1) (Vb : Arv Z h0 b1 kC .char (0 : Int32) [] (.int (0 : Int32))) :
    MetFree l (⟨"java/lang/String", "<init>", "([C)V"⟩ : MethodName) (head1 (Jvm.Cond.code (⟨"java/lang/String", "<init>", "([C)V"⟩ : MethodName) jdk_42_method_3_code 2 none :: ws) ({ frames := 2, cells := 4, slots := 8, locals := 29 } : Room)) (fun aa U => aa = #[(.ref a1), (.ref b1)] ∧ Z.Warmed39 U.vm ∧ U.heap = h0 ∧ CHv Z elL U.vm h0) (fun _ _ _ _ _ => True) (fun _ U o U' => ∃ v L, o = .returned v ∧ Q_iz1 Z a1 b1 kC h0 n0 v U'.heap L ∧ CHr Z elL U.vm U.heap U'.vm U'.heap ∧ ReturnedEndW U o U' L ({ frames := 2, cells := 4, slots := 8, locals := 29 } : Room).cells ({ frames := 2, cells := 4, slots := 8, locals := 29 } : Room).slots) := by
  refine MetFree.of_bodySF (plainFor_of_name pn_1) hisR ?_
  intro p e s m args below meth c s₁ Bd hml0 hP hK
  obtain ⟨rfl, hZ, hh, hCH⟩ := hP
  have hx := Bd.exec
  have hby := Bd.bytes
  have hml : c.maxLocals = 2 := hml0
  have hown : s.vm.findClass "java/lang/String" = some m.cls := findClass_of_methodNamed Bd.named
  have hnm := (name_of_methodNamed Bd.named Bd.method).1
  have hlk : meth.locks = false := BodyLoose.notSynchronized Bd
  have X0 : Stand p l e ({ frames := 2, cells := 4, slots := 8, locals := 29 } : Room) (s.setVm s.vm) m #[(.ref a1), (.ref b1)] below meth c s₁ [] 0 0 := Stand.of_body Bd
  have hS : s.Since s.vm 0 := (State.WarmedH.refl s).since 0
  have hk : 0 ≤ h0.size := Nat.zero_le _
  have CR0 : CHr Z elL s.vm h0 s.vm h0 := CHr.refl hCH
  have e0 : s₁.heap = h0 := by rw [← hh, Bd.state]; rfl
  have N0 := Fr.nil n0
  have K0 : Keep h0 h0 [a1] := Keep.refl _ _
  show Gl p.tables e below (QQofW Z elL s (Q_iz1 Z a1 b1 kC h0 n0) 4 8) (s₁.setTop (entryFrame m #[(.ref a1), (.ref b1)] 2))
  refine Gl.go (fun t k => castTop (ef_iz1 m a1 b1) k) ?_
  show Gl _ _ _ _ (s₁.setTop (mkF m 0 #[.val (.ref a1), .val (.ref b1)] []))
  have Zs_a1 : Safe Z elL s.vm h0 a1 := own_safe hZ.alike F_value E_a1
  refine Gl.go (fun _ k => XS.aloadN X0.here hx rfl (hb hby d2_0) rfl rfl  k) ?_
  show Gl _ _ _ _ (s₁.setTop (mkF m 1 #[.val (.ref a1), .val (.ref b1)] [(.ref a1)]))
  refine Gl.go (fun _ k => XS.aloadN X0.here hx rfl (hb hby d2_1) rfl rfl  k) ?_
  show Gl _ _ _ _ (s₁.setTop (mkF m 2 #[.val (.ref a1), .val (.ref b1)] [(.ref b1), (.ref a1)]))
  refine Gl.go (fun _ k => XS.iconst X0.here hx rfl (hb hby d2_2) k) ?_
  show Gl _ _ _ _ (s₁.setTop (mkF m 3 #[.val (.ref a1), .val (.ref b1)] [(.int (0 : Int32)), (.ref b1), (.ref a1)]))
  refine Gl.go (fun _ k => XS.aloadN X0.here hx rfl (hb hby d2_3) rfl rfl  k) ?_
  show Gl _ _ _ _ (s₁.setTop (mkF m 4 #[.val (.ref a1), .val (.ref b1)] [(.ref b1), (.int (0 : Int32)), (.ref b1), (.ref a1)]))
  obtain ⟨cl1, Ar1, qA1, SA1, NA1, HA1, GA1⟩ := id Vb
  refine Gl.go (fun _ k => X0.arraylength hx (by rw [e0]; exact Ar1.1) (State.isArrayOf_alike hZ.alike Ar1.2.1) (g := (mkF m 4 #[.val (.ref a1), .val (.ref b1)] [(.ref b1), (.int (0 : Int32)), (.ref b1), (.ref a1)])) rfl rfl (hb hby d2_4) _ k) ?_
  rw [len_of SA1 NA1]
  show Gl _ _ _ _ (s₁.setTop (mkF m 5 #[.val (.ref a1), .val (.ref b1)] [(.int (0 : Int32)), (.int (0 : Int32)), (.ref b1), (.ref a1)]))
  refine Gl.go (fun _ k => XS.aconstNull X0.here hx rfl (hb hby d2_5) k) ?_
  show Gl _ _ _ _ (s₁.setTop (mkF m 6 #[.val (.ref a1), .val (.ref b1)] [.null, (.int (0 : Int32)), (.int (0 : Int32)), (.ref b1), (.ref a1)]))
  obtain ⟨_, _, ⟨T2, L2, k2, n2⟩, -, X2, hS2, hg2, ⟨Lc2, hQ2, l2, y2, z2, hC2⟩, st2⟩ := X0.specialBackS hx (y := (⟨"java/lang/String", "<init>", "([CIILjava/lang/Void;)V"⟩ : MethodName)) rfl hown (mvT hZ (hw _ (List.mem_of_getElem? (i := 12) rfl))) (mvT hZ (hw _ (List.mem_of_getElem? (i := 13) rfl))) (mvT hZ (hw _ (List.mem_of_getElem? (i := 15) rfl))) (by decide) (backOfSH (EL := elL) (W := 0) (rm_iz2 l Z a0 hw [] a1 b1 h0 n0 Z0 hEL hSA E_a1 F_value F_coder g_a1) hZ (hw _ (List.mem_of_getElem? (i := 15) rfl)) (hw _ (List.mem_of_getElem? (i := 7) rfl)) (by decide) (by decide) hEL CR0.1) (g := (mkF m 6 #[.val (.ref a1), .val (.ref b1)] [.null, (.int (0 : Int32)), (.int (0 : Int32)), (.ref b1), (.ref a1)])) rfl (by rw [hml]; rfl) (Steps.refl _) (a := a1) (argsL := [(.ref b1), (.int (0 : Int32)), (.int (0 : Int32)), .null]) (rest := []) (lenOf pd_5 rfl) rfl (by show 2 * 0 + _ ≤ _; exact Nat.le_of_eq rfl) (hb hby d2_6) (fun _ _ => ⟨rfl, e0, (by decide : 0 + 4 ≤ _), (by decide : 0 + 8 ≤ _)⟩)
  dsimp only [Pt.U, Pt.locs, Pt.cells, Pt.slots] at X2 hS2 hg2 l2 y2 z2 st2 hQ2 hC2
  subst y2 z2
  have X2 : Stand p l e _ (s.setVm T2.vm) m _ below meth c T2 L2 _ _ := X2
  have hZo := hZ
  have hS : s.Since T2.vm T2.heap.size := foldS hS (by rw [e0]; exact hk) hS2 hg2
  have hk : T2.heap.size ≤ T2.heap.size := Nat.le_refl _
  have hZ : Z.Warmed39 T2.vm := State.Warmed39.trans (t := s.setVm s.vm) hZo hS2.1
  have hown : T2.vm.findClass "java/lang/String" = some m.cls := by rw [hS2.1.alike.findClass]; exact hown
  have CR2 : CHr Z elL s.vm h0 T2.vm T2.heap := CR0.trans hC2
  obtain ⟨rfl, Nq2, Kc2, Sc2⟩ := hQ2
  have N2 : Fr n0 L2 := by rw [l2]; exact Fr.app N0 Nq2
  refine Gl.go (fun _ k => st2.trans k) ?_
  have SZ2 : n0 ≤ T2.heap.size := Nat.le_trans Z0 Kc2.1
  have K2 : Keep h0 T2.heap [a1] := K0.trans Kc2 (allS (Or.inl (List.mem_of_getElem? (i := 0) rfl)) all0)
  show Gl _ _ _ _ (T2.setTop (mkF m 9 #[.val (.ref a1), .val (.ref b1)] []))
  refine leafWV X2 hS hk hx hlk Bd.returns (hb hby d2_9) (CR2.trans (CHv.at X2 hZ hEL CR2.1)) hh ?_ (by decide) (by decide)
  exact ⟨rfl, N2, K2, Sc2⟩
def Q_str (Z : State) (xx G1 : Int32) (h0 : Heap) (n0 : Nat) (v : Option Value) (h : Heap) (L : List Loc) : Prop := ∃ a : Addr, v = some (.ref a) ∧ Fr n0 L ∧ Keep h0 h [] ∧ StrAt Z h a (stV xx)
set_option maxRecDepth 65536 in
set_option maxHeartbeats 40000000 in
theorem rm_str (l : Launch) (Z : State) (a0 : Array Value) (hw : ∀ d ∈ tables_1, d.before a0 Z = true) (ws : List Jvm.Cond) (xx G1 : Int32) (h0 : Heap) (n0 : Nat) (Z0 : n0 ≤ h0.size) (hEL : EW Z a0 elL) (hSA : ∀ a ∈ Bundle.stringAtoms, a.before a0 Z = true) (O2 : Sta Z Z.heap "java/lang/String" "COMPACT_STRINGS" "Z" (.int G1)) (P5 : ¬ (G1 = (0 : Int32))) (X00 : Old Z n0 h0) :
    MetFree l (⟨"org/semfolio/ElementHasAttributePinLaw", "str", "(I)Ljava/lang/String;"⟩ : MethodName) (head1 (Jvm.Cond.code (⟨"org/semfolio/ElementHasAttributePinLaw", "str", "(I)Ljava/lang/String;"⟩ : MethodName) method_2_code 4 (some (.object "java/lang/String")) :: ws) ({ frames := 4, cells := 6, slots := 12, locals := 66 } : Room)) (fun aa U => aa = #[(.int xx)] ∧ Z.Warmed39 U.vm ∧ U.heap = h0 ∧ CHv Z elL U.vm h0) (fun _ _ _ _ _ => True) (fun _ U o U' => ∃ v L, o = .returned v ∧ Q_str Z xx G1 h0 n0 v U'.heap L ∧ CHr Z elL U.vm U.heap U'.vm U'.heap ∧ ReturnedEndW U o U' L ({ frames := 4, cells := 6, slots := 12, locals := 66 } : Room).cells ({ frames := 4, cells := 6, slots := 12, locals := 66 } : Room).slots) := by
  refine MetFree.of_bodySF (plainFor_of_name pn_4) hisR ?_
  intro p e s m args below meth c s₁ Bd hml0 hP hK
  obtain ⟨rfl, hZ, hh, hCH⟩ := hP
  have hx := Bd.exec
  have hby := Bd.bytes
  have hml : c.maxLocals = 4 := hml0
  have hown : s.vm.findClass "org/semfolio/ElementHasAttributePinLaw" = some m.cls := findClass_of_methodNamed Bd.named
  have hnm := (name_of_methodNamed Bd.named Bd.method).1
  have hlk : meth.locks = false := BodyLoose.notSynchronized Bd
  have X0 : Stand p l e ({ frames := 4, cells := 6, slots := 12, locals := 66 } : Room) (s.setVm s.vm) m #[(.int xx)] below meth c s₁ [] 0 0 := Stand.of_body Bd
  have hS : s.Since s.vm 0 := (State.WarmedH.refl s).since 0
  have hk : 0 ≤ h0.size := Nat.zero_le _
  have CR0 : CHr Z elL s.vm h0 s.vm h0 := CHr.refl hCH
  have e0 : s₁.heap = h0 := by rw [← hh, Bd.state]; rfl
  have N0 := Fr.nil n0
  have K0 : Keep h0 h0 [] := Keep.refl _ _
  show Gl p.tables e below (QQofW Z elL s (Q_str Z xx G1 h0 n0) 6 12) (s₁.setTop (entryFrame m #[(.int xx)] 4))
  refine Gl.go (fun t k => castTop (ef_str m xx) k) ?_
  show Gl _ _ _ _ (s₁.setTop (mkF m 0 #[.val (.int xx), .unset, .unset, .unset] []))
  have hws : ∀ d ∈ StrChars.Road.words, d.before a0 Z = true := fun d hd => hw d ((by decide +kernel : ∀ d ∈ StrChars.Road.words, d ∈ tables_1) d hd)
  refine Gl.go (fun _ k => XS.iloadN X0.here hx rfl (hb hby d1_0) rfl  k) ?_
  show Gl _ _ _ _ (s₁.setTop (mkF m 1 #[.val (.int xx), .unset, .unset, .unset] [(.int xx)]))
  refine Gl.go (fun _ k => XS.bipush X0.here hx rfl (hb hby d1_1) k) ?_
  show Gl _ _ _ _ (s₁.setTop (mkF m 3 #[.val (.int xx), .unset, .unset, .unset] [(.int (16 : Int32)), (.int xx)]))
  refine Gl.go (fun _ k => XS.iushr X0.here hx rfl (hb hby d1_3) rfl k) ?_
  show Gl _ _ _ _ (s₁.setTop (mkF m 4 #[.val (.int xx), .unset, .unset, .unset] [(.int ((xx.toUInt32 >>> ((16 : Int32) &&& 31).toUInt32).toInt32))]))
  refine Gl.go (fun _ k => XS.iconst X0.here hx rfl (hb hby d1_4) k) ?_
  show Gl _ _ _ _ (s₁.setTop (mkF m 5 #[.val (.int xx), .unset, .unset, .unset] [(.int (3 : Int32)), (.int ((xx.toUInt32 >>> ((16 : Int32) &&& 31).toUInt32).toInt32))]))
  refine Gl.go (fun _ k => XS.iand X0.here hx rfl (hb hby d1_5) rfl k) ?_
  show Gl _ _ _ _ (s₁.setTop (mkF m 6 #[.val (.int xx), .unset, .unset, .unset] [(.int (((xx.toUInt32 >>> ((16 : Int32) &&& 31).toUInt32).toInt32) &&& (3 : Int32)))]))
  show Gl _ _ _ _ (s₁.setTop (mkF m 6 #[.val (.int xx), .unset, .unset, .unset] [(.int (lnV xx))]))
  refine Gl.go (fun _ k => XS.istoreN X0.here hx rfl (hb hby d1_6) rfl (l' := #[.val (.int xx), .val (.int (lnV xx)), .unset, .unset]) rfl k) ?_
  show Gl _ _ _ _ (s₁.setTop (mkF m 7 #[.val (.int xx), .val (.int (lnV xx)), .unset, .unset] []))
  refine Gl.go (fun _ k => XS.iloadN X0.here hx rfl (hb hby d1_7) rfl  k) ?_
  show Gl _ _ _ _ (s₁.setTop (mkF m 8 #[.val (.int xx), .val (.int (lnV xx)), .unset, .unset] [(.int xx)]))
  refine Gl.go (fun _ k => XS.sipush X0.here hx rfl (hb hby d1_8) k) ?_
  show Gl _ _ _ _ (s₁.setTop (mkF m 11 #[.val (.int xx), .val (.int (lnV xx)), .unset, .unset] [(.int (255 : Int32)), (.int xx)]))
  refine Gl.go (fun _ k => XS.iand X0.here hx rfl (hb hby d1_11) rfl k) ?_
  show Gl _ _ _ _ (s₁.setTop (mkF m 12 #[.val (.int xx), .val (.int (lnV xx)), .unset, .unset] [(.int (xx &&& (255 : Int32)))]))
  refine Gl.go (fun _ k => XS.i2c X0.here hx rfl (hb hby d1_12) rfl k) ?_
  show Gl _ _ _ _ (s₁.setTop (mkF m 13 #[.val (.int xx), .val (.int (lnV xx)), .unset, .unset] [(.int ((xx &&& (255 : Int32)).toUInt32.toUInt16.toUInt32.toInt32))]))
  refine Gl.go (fun _ k => XS.istoreN X0.here hx rfl (hb hby d1_13) rfl (l' := #[.val (.int xx), .val (.int (lnV xx)), .val (.int ((xx &&& (255 : Int32)).toUInt32.toUInt16.toUInt32.toInt32)), .unset]) rfl k) ?_
  show Gl _ _ _ _ (s₁.setTop (mkF m 14 #[.val (.int xx), .val (.int (lnV xx)), .val (.int ((xx &&& (255 : Int32)).toUInt32.toUInt16.toUInt32.toInt32)), .unset] []))
  refine Gl.go (fun _ k => XS.iloadN X0.here hx rfl (hb hby d1_14) rfl  k) ?_
  show Gl _ _ _ _ (s₁.setTop (mkF m 15 #[.val (.int xx), .val (.int (lnV xx)), .val (.int ((xx &&& (255 : Int32)).toUInt32.toUInt16.toUInt32.toInt32)), .unset] [(.int xx)]))
  refine Gl.go (fun _ k => XS.bipush X0.here hx rfl (hb hby d1_15) k) ?_
  show Gl _ _ _ _ (s₁.setTop (mkF m 17 #[.val (.int xx), .val (.int (lnV xx)), .val (.int ((xx &&& (255 : Int32)).toUInt32.toUInt16.toUInt32.toInt32)), .unset] [(.int (8 : Int32)), (.int xx)]))
  refine Gl.go (fun _ k => XS.iushr X0.here hx rfl (hb hby d1_17) rfl k) ?_
  show Gl _ _ _ _ (s₁.setTop (mkF m 18 #[.val (.int xx), .val (.int (lnV xx)), .val (.int ((xx &&& (255 : Int32)).toUInt32.toUInt16.toUInt32.toInt32)), .unset] [(.int ((xx.toUInt32 >>> ((8 : Int32) &&& 31).toUInt32).toInt32))]))
  refine Gl.go (fun _ k => XS.sipush X0.here hx rfl (hb hby d1_18) k) ?_
  show Gl _ _ _ _ (s₁.setTop (mkF m 21 #[.val (.int xx), .val (.int (lnV xx)), .val (.int ((xx &&& (255 : Int32)).toUInt32.toUInt16.toUInt32.toInt32)), .unset] [(.int (255 : Int32)), (.int ((xx.toUInt32 >>> ((8 : Int32) &&& 31).toUInt32).toInt32))]))
  refine Gl.go (fun _ k => XS.iand X0.here hx rfl (hb hby d1_21) rfl k) ?_
  show Gl _ _ _ _ (s₁.setTop (mkF m 22 #[.val (.int xx), .val (.int (lnV xx)), .val (.int ((xx &&& (255 : Int32)).toUInt32.toUInt16.toUInt32.toInt32)), .unset] [(.int (((xx.toUInt32 >>> ((8 : Int32) &&& 31).toUInt32).toInt32) &&& (255 : Int32)))]))
  refine Gl.go (fun _ k => XS.i2c X0.here hx rfl (hb hby d1_22) rfl k) ?_
  show Gl _ _ _ _ (s₁.setTop (mkF m 23 #[.val (.int xx), .val (.int (lnV xx)), .val (.int ((xx &&& (255 : Int32)).toUInt32.toUInt16.toUInt32.toInt32)), .unset] [(.int ((((xx.toUInt32 >>> ((8 : Int32) &&& 31).toUInt32).toInt32) &&& (255 : Int32)).toUInt32.toUInt16.toUInt32.toInt32))]))
  refine Gl.go (fun _ k => XS.istoreN X0.here hx rfl (hb hby d1_23) rfl (l' := #[.val (.int xx), .val (.int (lnV xx)), .val (.int ((xx &&& (255 : Int32)).toUInt32.toUInt16.toUInt32.toInt32)), .val (.int ((((xx.toUInt32 >>> ((8 : Int32) &&& 31).toUInt32).toInt32) &&& (255 : Int32)).toUInt32.toUInt16.toUInt32.toInt32))]) rfl k) ?_
  show Gl _ _ _ _ (s₁.setTop (mkF m 24 #[.val (.int xx), .val (.int (lnV xx)), .val (.int ((xx &&& (255 : Int32)).toUInt32.toUInt16.toUInt32.toInt32)), .val (.int ((((xx.toUInt32 >>> ((8 : Int32) &&& 31).toUInt32).toInt32) &&& (255 : Int32)).toUInt32.toUInt16.toUInt32.toInt32))] []))
  refine Gl.go (fun _ k => XS.iloadN X0.here hx rfl (hb hby d1_24) rfl  k) ?_
  show Gl _ _ _ _ (s₁.setTop (mkF m 25 #[.val (.int xx), .val (.int (lnV xx)), .val (.int ((xx &&& (255 : Int32)).toUInt32.toUInt16.toUInt32.toInt32)), .val (.int ((((xx.toUInt32 >>> ((8 : Int32) &&& 31).toUInt32).toInt32) &&& (255 : Int32)).toUInt32.toUInt16.toUInt32.toInt32))] [(.int (lnV xx))]))
  by_cases hA : (lnV xx) = (0 : Int32)
  · skip
    refine Gl.go (fun _ k => XS.ifNo X0.here hx rfl (hb hby d1_25) rfl ((if0 _ _).trans (teq hA).2) k) ?_
    show Gl _ _ _ _ (s₁.setTop (mkF m 28 #[.val (.int xx), .val (.int (lnV xx)), .val (.int ((xx &&& (255 : Int32)).toUInt32.toUInt16.toUInt32.toInt32)), .val (.int ((((xx.toUInt32 >>> ((8 : Int32) &&& 31).toUInt32).toInt32) &&& (255 : Int32)).toUInt32.toUInt16.toUInt32.toInt32))] []))
    obtain ⟨T1, h1, X1, e1, E1, A1, D1, -, st1⟩ := newO X0 hx hZ hown (hw _ (List.mem_of_getElem? (i := 5) rfl)) (hw _ (List.mem_of_getElem? (i := 6) rfl)) (hw _ (List.mem_of_getElem? (i := 7) rfl)) e0 (g := (mkF m 28 #[.val (.int xx), .val (.int (lnV xx)), .val (.int ((xx &&& (255 : Int32)).toUInt32.toUInt16.toUInt32.toInt32)), .val (.int ((((xx.toUInt32 >>> ((8 : Int32) &&& 31).toUInt32).toInt32) &&& (255 : Int32)).toUInt32.toUInt16.toUInt32.toInt32))] [])) rfl (hb hby d1_28) (by decide) (by decide)
    obtain ⟨b1, g1⟩ : ∃ z, z = h0.size := ⟨_, rfl⟩
    rw [← g1] at A1 D1 st1
    have g_b1 : n0 ≤ b1 := Nat.le_trans Z0 (Nat.le_of_eq g1.symm)
    have sz_b1 : h0.size ≤ b1 := Nat.le_trans K0.1 (Nat.le_of_eq g1.symm)
    have Zs_b1 : Safe Z elL s.vm h1 b1 := Safe.ext E1 CR0.1 (Safe.new (Nat.le_of_eq g1.symm))
    have O__1 : Old Z n0 h1 := X00.ext E1
    have SZ1 : n0 ≤ h1.size := Nat.le_trans Z0 E1.1
    have K1 : Keep h0 h1 [] := K0.ext E1
    have hk := Nat.le_trans hk E1.1
    have CR1 : CHr Z elL s.vm h0 s.vm h1 := CR0.trans (CHr.ext E1 CR0.1)
    have F_b1_value_1 : Fld Z h1 b1 "java/lang/String" "value" "[B" .null := D1 (Or.inr (hw _ (List.mem_of_getElem? (i := 21) rfl))) (ty := (.array .byte)) (by decide)
    have F_b1_coder_1 : Fld Z h1 b1 "java/lang/String" "coder" "B" (.int (0 : Int32)) := D1 (Or.inr (hw _ (List.mem_of_getElem? (i := 22) rfl))) (ty := .byte) (by decide)
    refine Gl.go (fun _ k => st1 _ k) ?_
    show Gl _ _ _ _ (T1.setTop (mkF m 31 #[.val (.int xx), .val (.int (lnV xx)), .val (.int ((xx &&& (255 : Int32)).toUInt32.toUInt16.toUInt32.toInt32)), .val (.int ((((xx.toUInt32 >>> ((8 : Int32) &&& 31).toUInt32).toInt32) &&& (255 : Int32)).toUInt32.toUInt16.toUInt32.toInt32))] [(.ref b1)]))
    refine Gl.go (fun _ k => XS.dup X1.here hx rfl (hb hby d1_31) rfl rfl k) ?_
    show Gl _ _ _ _ (T1.setTop (mkF m 32 #[.val (.int xx), .val (.int (lnV xx)), .val (.int ((xx &&& (255 : Int32)).toUInt32.toUInt16.toUInt32.toInt32)), .val (.int ((((xx.toUInt32 >>> ((8 : Int32) &&& 31).toUInt32).toInt32) &&& (255 : Int32)).toUInt32.toUInt16.toUInt32.toInt32))] [(.ref b1), (.ref b1)]))
    refine Gl.go (fun _ k => XS.iconst X1.here hx rfl (hb hby d1_32) k) ?_
    show Gl _ _ _ _ (T1.setTop (mkF m 33 #[.val (.int xx), .val (.int (lnV xx)), .val (.int ((xx &&& (255 : Int32)).toUInt32.toUInt16.toUInt32.toInt32)), .val (.int ((((xx.toUInt32 >>> ((8 : Int32) &&& 31).toUInt32).toInt32) &&& (255 : Int32)).toUInt32.toUInt16.toUInt32.toInt32))] [(.int (0 : Int32)), (.ref b1), (.ref b1)]))
    obtain ⟨T2, h2, cA2, X2, e2, E2, A2, st2⟩ := newP X1 hx hZ (hw _ (List.mem_of_getElem? (i := 8) rfl)) e1 (g := (mkF m 33 #[.val (.int xx), .val (.int (lnV xx)), .val (.int ((xx &&& (255 : Int32)).toUInt32.toUInt16.toUInt32.toInt32)), .val (.int ((((xx.toUInt32 >>> ((8 : Int32) &&& 31).toUInt32).toInt32) &&& (255 : Int32)).toUInt32.toUInt16.toUInt32.toInt32))] [(.int (0 : Int32)), (.ref b1), (.ref b1)])) rfl (hb hby d1_33) rfl (by decide) (cap := 0) (by decide) (by decide) (by decide) (by decide)
    obtain ⟨b2, g2⟩ : ∃ z, z = h1.size := ⟨_, rfl⟩
    rw [← g2] at A2 st2
    have g_b2 : n0 ≤ b2 := Nat.le_trans SZ1 (Nat.le_of_eq g2.symm)
    have sz_b2 : h0.size ≤ b2 := Nat.le_trans K1.1 (Nat.le_of_eq g2.symm)
    have ne_b1_b2 : b1 ≠ b2 := Nat.ne_of_lt (Nat.lt_of_lt_of_le A1.lt (Nat.le_of_eq g2.symm))
    have Zs_b1_2 : Safe Z elL s.vm h2 b1 := Safe.ext E2 CR1.1 Zs_b1
    have O__2 : Old Z n0 h2 := O__1.ext E2
    have E_b1_2 : Exa Z h2 b1 "java/lang/String" := A1.ext E2
    have F_b1_value_2 : Fld Z h2 b1 "java/lang/String" "value" "[B" .null := F_b1_value_1.ext E2
    have F_b1_coder_2 : Fld Z h2 b1 "java/lang/String" "coder" "B" (.int (0 : Int32)) := F_b1_coder_1.ext E2
    have SZ2 : n0 ≤ h2.size := Nat.le_trans SZ1 E2.1
    have K2 : Keep h0 h2 [] := K1.ext E2
    have hk := Nat.le_trans hk E2.1
    have CR2 : CHr Z elL s.vm h0 s.vm h2 := CR1.trans (CHr.ext E2 CR1.1)
    have V_b2_2 : Arv Z h2 b2 cA2 .char (0 : Int32) [] (.int (0 : Int32)) := (Arv.new A2 (by decide)).pad (pad_rep [] _ 0)
    refine Gl.go (fun _ k => st2 _ k) ?_
    show Gl _ _ _ _ (T2.setTop (mkF m 35 #[.val (.int xx), .val (.int (lnV xx)), .val (.int ((xx &&& (255 : Int32)).toUInt32.toUInt16.toUInt32.toInt32)), .val (.int ((((xx.toUInt32 >>> ((8 : Int32) &&& 31).toUInt32).toInt32) &&& (255 : Int32)).toUInt32.toUInt16.toUInt32.toInt32))] [(.ref b2), (.ref b1), (.ref b1)]))
    obtain ⟨_, _, ⟨T3, L3, k3, n3⟩, -, X3, hS3, hg3, ⟨Lc3, hQ3, l3, y3, z3, hC3⟩, st3⟩ := X2.specialBackS hx (y := (⟨"java/lang/String", "<init>", "([C)V"⟩ : MethodName)) rfl hown (mvT hZ (hw _ (List.mem_of_getElem? (i := 9) rfl))) (mvT hZ (hw _ (List.mem_of_getElem? (i := 10) rfl))) (mvT hZ (hw _ (List.mem_of_getElem? (i := 11) rfl))) (by decide) (backOfSH (EL := elL) (W := 1) (rm_iz1 l Z a0 hw [] b1 b2 cA2 h2 n0 SZ2 hEL hSA E_b1_2 F_b1_value_2 F_b1_coder_2 g_b1 V_b2_2) hZ (hw _ (List.mem_of_getElem? (i := 11) rfl)) (hw _ (List.mem_of_getElem? (i := 7) rfl)) (by decide) (by decide) hEL CR2.1) (g := (mkF m 35 #[.val (.int xx), .val (.int (lnV xx)), .val (.int ((xx &&& (255 : Int32)).toUInt32.toUInt16.toUInt32.toInt32)), .val (.int ((((xx.toUInt32 >>> ((8 : Int32) &&& 31).toUInt32).toInt32) &&& (255 : Int32)).toUInt32.toUInt16.toUInt32.toInt32))] [(.ref b2), (.ref b1), (.ref b1)])) rfl (by rw [hml]; rfl) (Steps.refl _) (a := b1) (argsL := [(.ref b2)]) (rest := [(.ref b1)]) (lenOf pd_6 rfl) rfl (by show 2 * 0 + _ ≤ _; exact Nat.le_of_eq rfl) (hb hby d1_35) (fun _ _ => ⟨rfl, e2, (by decide : 2 + 4 ≤ _), (by decide : 4 + 8 ≤ _)⟩)
    dsimp only [Pt.U, Pt.locs, Pt.cells, Pt.slots] at X3 hS3 hg3 l3 y3 z3 st3 hQ3 hC3
    subst y3 z3
    have X3 : Stand p l e _ (s.setVm T3.vm) m _ below meth c T3 L3 _ _ := X3
    have hZo := hZ
    have hS : s.Since T3.vm T3.heap.size := foldS hS (by rw [e2]; exact hk) hS3 hg3
    have hk : T3.heap.size ≤ T3.heap.size := Nat.le_refl _
    have hZ : Z.Warmed39 T3.vm := State.Warmed39.trans (t := s.setVm s.vm) hZo hS3.1
    have hown : T3.vm.findClass "org/semfolio/ElementHasAttributePinLaw" = some m.cls := by rw [hS3.1.alike.findClass]; exact hown
    have CR3 : CHr Z elL s.vm h0 T3.vm T3.heap := CR2.trans hC3
    obtain ⟨rfl, Nq3, Kc3, Sc3⟩ := hQ3
    have N3 : Fr n0 L3 := by rw [l3]; exact Fr.app N0 Nq3
    refine Gl.go (fun _ k => st3.trans k) ?_
    have SZ3 : n0 ≤ T3.heap.size := Nat.le_trans SZ2 Kc3.1
    have K3 : Keep h0 T3.heap [] := K2.trans Kc3 (allS (Or.inr sz_b1) all0)
    show Gl _ _ _ _ (T3.setTop (mkF m 38 #[.val (.int xx), .val (.int (lnV xx)), .val (.int ((xx &&& (255 : Int32)).toUInt32.toUInt16.toUInt32.toInt32)), .val (.int ((((xx.toUInt32 >>> ((8 : Int32) &&& 31).toUInt32).toInt32) &&& (255 : Int32)).toUInt32.toUInt16.toUInt32.toInt32))] [(.ref b1)]))
    refine leafWA X3 hS hk hx hlk Bd.returns rfl rfl (hb hby d1_38) (CR3.trans (CHv.at X3 hZ hEL CR3.1)) hh ?_ (by decide) (by decide)
    exact ⟨b1, rfl, N3, K3, by rw [stV, if_pos hA]; exact Sc3⟩
  · skip
    refine Gl.go (fun _ k => XS.ifYes X0.here hx rfl (pc0 := 25) (pc' := 39) rfl (hb hby d1_25) rfl ((if0 _ _).trans (feq hA).2) (by decide) (by decide) k) ?_
    show Gl _ _ _ _ (s₁.setTop (mkF m 39 #[.val (.int xx), .val (.int (lnV xx)), .val (.int ((xx &&& (255 : Int32)).toUInt32.toUInt16.toUInt32.toInt32)), .val (.int ((((xx.toUInt32 >>> ((8 : Int32) &&& 31).toUInt32).toInt32) &&& (255 : Int32)).toUInt32.toUInt16.toUInt32.toInt32))] []))
    refine Gl.go (fun _ k => XS.iloadN X0.here hx rfl (hb hby d1_39) rfl  k) ?_
    show Gl _ _ _ _ (s₁.setTop (mkF m 40 #[.val (.int xx), .val (.int (lnV xx)), .val (.int ((xx &&& (255 : Int32)).toUInt32.toUInt16.toUInt32.toInt32)), .val (.int ((((xx.toUInt32 >>> ((8 : Int32) &&& 31).toUInt32).toInt32) &&& (255 : Int32)).toUInt32.toUInt16.toUInt32.toInt32))] [(.int (lnV xx))]))
    refine Gl.go (fun _ k => XS.iconst X0.here hx rfl (hb hby d1_40) k) ?_
    show Gl _ _ _ _ (s₁.setTop (mkF m 41 #[.val (.int xx), .val (.int (lnV xx)), .val (.int ((xx &&& (255 : Int32)).toUInt32.toUInt16.toUInt32.toInt32)), .val (.int ((((xx.toUInt32 >>> ((8 : Int32) &&& 31).toUInt32).toInt32) &&& (255 : Int32)).toUInt32.toUInt16.toUInt32.toInt32))] [(.int (1 : Int32)), (.int (lnV xx))]))
    by_cases hB : (lnV xx) = (1 : Int32)
    · skip
      refine Gl.go (fun _ k => XS.icmpNo X0.here hx rfl (hb hby d1_41) rfl (teq hB).2 k) ?_
      show Gl _ _ _ _ (s₁.setTop (mkF m 44 #[.val (.int xx), .val (.int (lnV xx)), .val (.int ((xx &&& (255 : Int32)).toUInt32.toUInt16.toUInt32.toInt32)), .val (.int ((((xx.toUInt32 >>> ((8 : Int32) &&& 31).toUInt32).toInt32) &&& (255 : Int32)).toUInt32.toUInt16.toUInt32.toInt32))] []))
      refine Gl.go (fun _ k => XS.iloadN X0.here hx rfl (hb hby d1_44) rfl  k) ?_
      show Gl _ _ _ _ (s₁.setTop (mkF m 45 #[.val (.int xx), .val (.int (lnV xx)), .val (.int ((xx &&& (255 : Int32)).toUInt32.toUInt16.toUInt32.toInt32)), .val (.int ((((xx.toUInt32 >>> ((8 : Int32) &&& 31).toUInt32).toInt32) &&& (255 : Int32)).toUInt32.toUInt16.toUInt32.toInt32))] [(.int ((xx &&& (255 : Int32)).toUInt32.toUInt16.toUInt32.toInt32))]))
      obtain ⟨_, _, ⟨T4, L4, k4, n4⟩, -, X4, ⟨Lc4, hQ4, l4, y4, z4⟩, st4⟩ := Jvm.LawKit.callS X0 hx (y := (⟨"java/lang/String", "valueOf", "(C)Ljava/lang/String;"⟩ : MethodName)) hown (mvT hZ (hw _ (List.mem_of_getElem? (i := 80) rfl))) (mvT hZ (hw _ (List.mem_of_getElem? (i := 81) rfl))) (mvT hZ (hw _ (List.mem_of_getElem? (i := 7) rfl))) (mvT hZ (hw _ (List.mem_of_getElem? (i := 82) rfl))) (by decide) (backOf (W := 0) (rm_vof l Z a0 hw [] ((xx &&& (255 : Int32)).toUInt32.toUInt16.toUInt32.toInt32) G1 h0 n0 Z0 (own_low _) (O2.ext X00.2) P5) hZ (hw _ (List.mem_of_getElem? (i := 82) rfl)) (hw _ (List.mem_of_getElem? (i := 7) rfl)) (by decide) (by decide)) (g := (mkF m 45 #[.val (.int xx), .val (.int (lnV xx)), .val (.int ((xx &&& (255 : Int32)).toUInt32.toUInt16.toUInt32.toInt32)), .val (.int ((((xx.toUInt32 >>> ((8 : Int32) &&& 31).toUInt32).toInt32) &&& (255 : Int32)).toUInt32.toUInt16.toUInt32.toInt32))] [(.int ((xx &&& (255 : Int32)).toUInt32.toUInt16.toUInt32.toInt32))])) rfl (by rw [hml]; rfl) (argsL := [(.int ((xx &&& (255 : Int32)).toUInt32.toUInt16.toUInt32.toInt32))]) (rest := []) (lenOf pd_7 rfl) rfl (by show 2 * 0 + _ ≤ _; exact Nat.le_of_eq rfl) (hb hby d1_45) (fun _ _ => ⟨rfl, e0, (by decide : 0 + 2 ≤ _), (by decide : 0 + 5 ≤ _)⟩)
      dsimp only [Pt.U, Pt.locs, Pt.cells, Pt.slots] at X4 l4 y4 z4 st4 hQ4
      subst y4 z4
      obtain ⟨a4, rfl, Nq4, Kc4, -, Sc4⟩ := hQ4
      have N4 : Fr n0 L4 := by rw [l4]; exact Fr.app N0 Nq4
      refine Gl.go (fun _ k => st4 _ k) ?_
      have Ex4 := ext_of_keep Kc4
      have O__4 : Old Z n0 T4.heap := X00.ext Ex4
      have SZ4 : n0 ≤ T4.heap.size := Nat.le_trans Z0 Ex4.1
      have K4 : Keep h0 T4.heap [] := K0.ext Ex4
      have hk := Nat.le_trans hk Ex4.1
      have CR4 : CHr Z elL s.vm h0 s.vm T4.heap := CR0.trans (CHr.ext Ex4 CR0.1)
      show Gl _ _ _ _ (T4.setTop (mkF m 48 #[.val (.int xx), .val (.int (lnV xx)), .val (.int ((xx &&& (255 : Int32)).toUInt32.toUInt16.toUInt32.toInt32)), .val (.int ((((xx.toUInt32 >>> ((8 : Int32) &&& 31).toUInt32).toInt32) &&& (255 : Int32)).toUInt32.toUInt16.toUInt32.toInt32))] [(.ref a4)]))
      refine leafWA X4 hS hk hx hlk Bd.returns rfl rfl (hb hby d1_48) (CR4.trans (CHv.at X4 hZ hEL CR4.1)) hh ?_ (by decide) (by decide)
      exact ⟨a4, rfl, N4, K4, by rw [stV, if_neg hA, if_pos hB]; exact Sc4⟩
    · skip
      refine Gl.go (fun _ k => XS.icmpYes X0.here hx rfl (pc0 := 41) (pc' := 49) rfl (hb hby d1_41) rfl (feq hB).2 (by decide) (by decide) k) ?_
      show Gl _ _ _ _ (s₁.setTop (mkF m 49 #[.val (.int xx), .val (.int (lnV xx)), .val (.int ((xx &&& (255 : Int32)).toUInt32.toUInt16.toUInt32.toInt32)), .val (.int ((((xx.toUInt32 >>> ((8 : Int32) &&& 31).toUInt32).toInt32) &&& (255 : Int32)).toUInt32.toUInt16.toUInt32.toInt32))] []))
      obtain ⟨T5, h5, X5, e5, E5, A5, D5, -, st5⟩ := newO X0 hx hZ hown (hw _ (List.mem_of_getElem? (i := 5) rfl)) (hw _ (List.mem_of_getElem? (i := 6) rfl)) (hw _ (List.mem_of_getElem? (i := 7) rfl)) e0 (g := (mkF m 49 #[.val (.int xx), .val (.int (lnV xx)), .val (.int ((xx &&& (255 : Int32)).toUInt32.toUInt16.toUInt32.toInt32)), .val (.int ((((xx.toUInt32 >>> ((8 : Int32) &&& 31).toUInt32).toInt32) &&& (255 : Int32)).toUInt32.toUInt16.toUInt32.toInt32))] [])) rfl (hb hby d1_49) (by decide) (by decide)
      obtain ⟨b5, g5⟩ : ∃ z, z = h0.size := ⟨_, rfl⟩
      rw [← g5] at A5 D5 st5
      have g_b5 : n0 ≤ b5 := Nat.le_trans Z0 (Nat.le_of_eq g5.symm)
      have sz_b5 : h0.size ≤ b5 := Nat.le_trans K0.1 (Nat.le_of_eq g5.symm)
      have Zs_b5 : Safe Z elL s.vm h5 b5 := Safe.ext E5 CR0.1 (Safe.new (Nat.le_of_eq g5.symm))
      have O__5 : Old Z n0 h5 := X00.ext E5
      have SZ5 : n0 ≤ h5.size := Nat.le_trans Z0 E5.1
      have K5 : Keep h0 h5 [] := K0.ext E5
      have hk := Nat.le_trans hk E5.1
      have CR5 : CHr Z elL s.vm h0 s.vm h5 := CR0.trans (CHr.ext E5 CR0.1)
      have F_b5_value_5 : Fld Z h5 b5 "java/lang/String" "value" "[B" .null := D5 (Or.inr (hw _ (List.mem_of_getElem? (i := 21) rfl))) (ty := (.array .byte)) (by decide)
      have F_b5_coder_5 : Fld Z h5 b5 "java/lang/String" "coder" "B" (.int (0 : Int32)) := D5 (Or.inr (hw _ (List.mem_of_getElem? (i := 22) rfl))) (ty := .byte) (by decide)
      refine Gl.go (fun _ k => st5 _ k) ?_
      show Gl _ _ _ _ (T5.setTop (mkF m 52 #[.val (.int xx), .val (.int (lnV xx)), .val (.int ((xx &&& (255 : Int32)).toUInt32.toUInt16.toUInt32.toInt32)), .val (.int ((((xx.toUInt32 >>> ((8 : Int32) &&& 31).toUInt32).toInt32) &&& (255 : Int32)).toUInt32.toUInt16.toUInt32.toInt32))] [(.ref b5)]))
      refine Gl.go (fun _ k => XS.dup X5.here hx rfl (hb hby d1_52) rfl rfl k) ?_
      show Gl _ _ _ _ (T5.setTop (mkF m 53 #[.val (.int xx), .val (.int (lnV xx)), .val (.int ((xx &&& (255 : Int32)).toUInt32.toUInt16.toUInt32.toInt32)), .val (.int ((((xx.toUInt32 >>> ((8 : Int32) &&& 31).toUInt32).toInt32) &&& (255 : Int32)).toUInt32.toUInt16.toUInt32.toInt32))] [(.ref b5), (.ref b5)]))
      refine Gl.go (fun _ k => XS.iconst X5.here hx rfl (hb hby d1_53) k) ?_
      show Gl _ _ _ _ (T5.setTop (mkF m 54 #[.val (.int xx), .val (.int (lnV xx)), .val (.int ((xx &&& (255 : Int32)).toUInt32.toUInt16.toUInt32.toInt32)), .val (.int ((((xx.toUInt32 >>> ((8 : Int32) &&& 31).toUInt32).toInt32) &&& (255 : Int32)).toUInt32.toUInt16.toUInt32.toInt32))] [(.int (2 : Int32)), (.ref b5), (.ref b5)]))
      obtain ⟨T6, h6, cA6, X6, e6, E6, A6, st6⟩ := newP X5 hx hZ (hw _ (List.mem_of_getElem? (i := 8) rfl)) e5 (g := (mkF m 54 #[.val (.int xx), .val (.int (lnV xx)), .val (.int ((xx &&& (255 : Int32)).toUInt32.toUInt16.toUInt32.toInt32)), .val (.int ((((xx.toUInt32 >>> ((8 : Int32) &&& 31).toUInt32).toInt32) &&& (255 : Int32)).toUInt32.toUInt16.toUInt32.toInt32))] [(.int (2 : Int32)), (.ref b5), (.ref b5)])) rfl (hb hby d1_54) rfl (by decide) (cap := 2) (by decide) (by decide) (by decide) (by decide)
      obtain ⟨b6, g6⟩ : ∃ z, z = h5.size := ⟨_, rfl⟩
      rw [← g6] at A6 st6
      have g_b6 : n0 ≤ b6 := Nat.le_trans SZ5 (Nat.le_of_eq g6.symm)
      have sz_b6 : h0.size ≤ b6 := Nat.le_trans K5.1 (Nat.le_of_eq g6.symm)
      have ne_b5_b6 : b5 ≠ b6 := Nat.ne_of_lt (Nat.lt_of_lt_of_le A5.lt (Nat.le_of_eq g6.symm))
      have Zs_b5_6 : Safe Z elL s.vm h6 b5 := Safe.ext E6 CR5.1 Zs_b5
      have O__6 : Old Z n0 h6 := O__5.ext E6
      have E_b5_6 : Exa Z h6 b5 "java/lang/String" := A5.ext E6
      have F_b5_value_6 : Fld Z h6 b5 "java/lang/String" "value" "[B" .null := F_b5_value_5.ext E6
      have F_b5_coder_6 : Fld Z h6 b5 "java/lang/String" "coder" "B" (.int (0 : Int32)) := F_b5_coder_5.ext E6
      have SZ6 : n0 ≤ h6.size := Nat.le_trans SZ5 E6.1
      have K6 : Keep h0 h6 [] := K5.ext E6
      have hk := Nat.le_trans hk E6.1
      have CR6 : CHr Z elL s.vm h0 s.vm h6 := CR5.trans (CHr.ext E6 CR5.1)
      have V_b6_6 : Arv Z h6 b6 cA6 .char (2 : Int32) [(.int (0 : Int32)), (.int (0 : Int32))] (.int (0 : Int32)) := (Arv.new A6 (by decide)).pad (pad_rep [] _ 2)
      refine Gl.go (fun _ k => st6 _ k) ?_
      show Gl _ _ _ _ (T6.setTop (mkF m 56 #[.val (.int xx), .val (.int (lnV xx)), .val (.int ((xx &&& (255 : Int32)).toUInt32.toUInt16.toUInt32.toInt32)), .val (.int ((((xx.toUInt32 >>> ((8 : Int32) &&& 31).toUInt32).toInt32) &&& (255 : Int32)).toUInt32.toUInt16.toUInt32.toInt32))] [(.ref b6), (.ref b5), (.ref b5)]))
      refine Gl.go (fun _ k => XS.dup X6.here hx rfl (hb hby d1_56) rfl rfl k) ?_
      show Gl _ _ _ _ (T6.setTop (mkF m 57 #[.val (.int xx), .val (.int (lnV xx)), .val (.int ((xx &&& (255 : Int32)).toUInt32.toUInt16.toUInt32.toInt32)), .val (.int ((((xx.toUInt32 >>> ((8 : Int32) &&& 31).toUInt32).toInt32) &&& (255 : Int32)).toUInt32.toUInt16.toUInt32.toInt32))] [(.ref b6), (.ref b6), (.ref b5), (.ref b5)]))
      refine Gl.go (fun _ k => XS.iconst X6.here hx rfl (hb hby d1_57) k) ?_
      show Gl _ _ _ _ (T6.setTop (mkF m 58 #[.val (.int xx), .val (.int (lnV xx)), .val (.int ((xx &&& (255 : Int32)).toUInt32.toUInt16.toUInt32.toInt32)), .val (.int ((((xx.toUInt32 >>> ((8 : Int32) &&& 31).toUInt32).toInt32) &&& (255 : Int32)).toUInt32.toUInt16.toUInt32.toInt32))] [(.int (0 : Int32)), (.ref b6), (.ref b6), (.ref b5), (.ref b5)]))
      refine Gl.go (fun _ k => XS.iloadN X6.here hx rfl (hb hby d1_58) rfl  k) ?_
      show Gl _ _ _ _ (T6.setTop (mkF m 59 #[.val (.int xx), .val (.int (lnV xx)), .val (.int ((xx &&& (255 : Int32)).toUInt32.toUInt16.toUInt32.toInt32)), .val (.int ((((xx.toUInt32 >>> ((8 : Int32) &&& 31).toUInt32).toInt32) &&& (255 : Int32)).toUInt32.toUInt16.toUInt32.toInt32))] [(.int ((xx &&& (255 : Int32)).toUInt32.toUInt16.toUInt32.toInt32)), (.int (0 : Int32)), (.ref b6), (.ref b6), (.ref b5), (.ref b5)]))
      obtain ⟨cl7, Ar7, qA7, SA7, NA7, HA7, GA7⟩ := id V_b6_6
      obtain ⟨T7, h7, X7, e7, W7, st7⟩ := stC X6 hx hZ e6 Ar7 (j := (0 : Int32)) (inb_of SA7 ⟨by decide, by decide⟩) (g := (mkF m 59 #[.val (.int xx), .val (.int (lnV xx)), .val (.int ((xx &&& (255 : Int32)).toUInt32.toUInt16.toUInt32.toInt32)), .val (.int ((((xx.toUInt32 >>> ((8 : Int32) &&& 31).toUInt32).toInt32) &&& (255 : Int32)).toUInt32.toUInt16.toUInt32.toInt32))] [(.int ((xx &&& (255 : Int32)).toUInt32.toUInt16.toUInt32.toInt32)), (.int (0 : Int32)), (.ref b6), (.ref b6), (.ref b5), (.ref b5)])) rfl rfl (hb hby d1_59)
      have Zs_b5_7 : Safe Z elL s.vm h7 b5 := Safe.wr W7 (Safe.arv hZ.alike V_b6_6 (by decide)) CR6.1 Zs_b5_6
      have O__7 : Old Z n0 h7 := O__6.wr W7 g_b6
      have E_b5_7 : Exa Z h7 b5 "java/lang/String" := E_b5_6.wr W7
      have F_b5_value_7 : Fld Z h7 b5 "java/lang/String" "value" "[B" .null := F_b5_value_6.other W7 (Or.inl ne_b5_b6)
      have F_b5_coder_7 : Fld Z h7 b5 "java/lang/String" "coder" "B" (.int (0 : Int32)) := F_b5_coder_6.other W7 (Or.inl ne_b5_b6)
      have SZ7 : n0 ≤ h7.size := by rw [Wr.size W7]; exact SZ6
      have K7 : Keep h0 h7 [] := K6.wr W7 (Or.inr sz_b6)
      have N7 := Fr.snoc X7 N0 g_b6
      have hk := Nat.le_trans hk (Nat.le_of_eq (Wr.size W7).symm)
      have CR7 : CHr Z elL s.vm h0 s.vm h7 := CR6.trans (CHr.wr W7 (Safe.arv hZ.alike V_b6_6 (by decide)) CR6.1)
      have V_b6_7 : Arv Z h7 b6 cA6 .char (2 : Int32) [(.int (nar .char ((xx &&& (255 : Int32)).toUInt32.toUInt16.toUInt32.toInt32))), (.int (0 : Int32))] (.int (0 : Int32)) := Arv.set Ar7 qA7 SA7 NA7 HA7 GA7 (fits_nar_char _) W7 0 rfl (Nat.le_of_ble_eq_true rfl)
      refine Gl.go (fun _ k => st7 _ k) ?_
      show Gl _ _ _ _ (T7.setTop (mkF m 60 #[.val (.int xx), .val (.int (lnV xx)), .val (.int ((xx &&& (255 : Int32)).toUInt32.toUInt16.toUInt32.toInt32)), .val (.int ((((xx.toUInt32 >>> ((8 : Int32) &&& 31).toUInt32).toInt32) &&& (255 : Int32)).toUInt32.toUInt16.toUInt32.toInt32))] [(.ref b6), (.ref b5), (.ref b5)]))
      refine Gl.go (fun _ k => XS.dup X7.here hx rfl (hb hby d1_60) rfl rfl k) ?_
      show Gl _ _ _ _ (T7.setTop (mkF m 61 #[.val (.int xx), .val (.int (lnV xx)), .val (.int ((xx &&& (255 : Int32)).toUInt32.toUInt16.toUInt32.toInt32)), .val (.int ((((xx.toUInt32 >>> ((8 : Int32) &&& 31).toUInt32).toInt32) &&& (255 : Int32)).toUInt32.toUInt16.toUInt32.toInt32))] [(.ref b6), (.ref b6), (.ref b5), (.ref b5)]))
      refine Gl.go (fun _ k => XS.iconst X7.here hx rfl (hb hby d1_61) k) ?_
      show Gl _ _ _ _ (T7.setTop (mkF m 62 #[.val (.int xx), .val (.int (lnV xx)), .val (.int ((xx &&& (255 : Int32)).toUInt32.toUInt16.toUInt32.toInt32)), .val (.int ((((xx.toUInt32 >>> ((8 : Int32) &&& 31).toUInt32).toInt32) &&& (255 : Int32)).toUInt32.toUInt16.toUInt32.toInt32))] [(.int (1 : Int32)), (.ref b6), (.ref b6), (.ref b5), (.ref b5)]))
      refine Gl.go (fun _ k => XS.iloadN X7.here hx rfl (hb hby d1_62) rfl  k) ?_
      show Gl _ _ _ _ (T7.setTop (mkF m 63 #[.val (.int xx), .val (.int (lnV xx)), .val (.int ((xx &&& (255 : Int32)).toUInt32.toUInt16.toUInt32.toInt32)), .val (.int ((((xx.toUInt32 >>> ((8 : Int32) &&& 31).toUInt32).toInt32) &&& (255 : Int32)).toUInt32.toUInt16.toUInt32.toInt32))] [(.int ((((xx.toUInt32 >>> ((8 : Int32) &&& 31).toUInt32).toInt32) &&& (255 : Int32)).toUInt32.toUInt16.toUInt32.toInt32)), (.int (1 : Int32)), (.ref b6), (.ref b6), (.ref b5), (.ref b5)]))
      obtain ⟨cl8, Ar8, qA8, SA8, NA8, HA8, GA8⟩ := id V_b6_7
      obtain ⟨T8, h8, X8, e8, W8, st8⟩ := stC X7 hx hZ e7 Ar8 (j := (1 : Int32)) (inb_of SA8 ⟨by decide, by decide⟩) (g := (mkF m 63 #[.val (.int xx), .val (.int (lnV xx)), .val (.int ((xx &&& (255 : Int32)).toUInt32.toUInt16.toUInt32.toInt32)), .val (.int ((((xx.toUInt32 >>> ((8 : Int32) &&& 31).toUInt32).toInt32) &&& (255 : Int32)).toUInt32.toUInt16.toUInt32.toInt32))] [(.int ((((xx.toUInt32 >>> ((8 : Int32) &&& 31).toUInt32).toInt32) &&& (255 : Int32)).toUInt32.toUInt16.toUInt32.toInt32)), (.int (1 : Int32)), (.ref b6), (.ref b6), (.ref b5), (.ref b5)])) rfl rfl (hb hby d1_63)
      have Zs_b5_8 : Safe Z elL s.vm h8 b5 := Safe.wr W8 (Safe.arv hZ.alike V_b6_7 (by decide)) CR7.1 Zs_b5_7
      have O__8 : Old Z n0 h8 := O__7.wr W8 g_b6
      have E_b5_8 : Exa Z h8 b5 "java/lang/String" := E_b5_7.wr W8
      have F_b5_value_8 : Fld Z h8 b5 "java/lang/String" "value" "[B" .null := F_b5_value_7.other W8 (Or.inl ne_b5_b6)
      have F_b5_coder_8 : Fld Z h8 b5 "java/lang/String" "coder" "B" (.int (0 : Int32)) := F_b5_coder_7.other W8 (Or.inl ne_b5_b6)
      have SZ8 : n0 ≤ h8.size := by rw [Wr.size W8]; exact SZ7
      have K8 : Keep h0 h8 [] := K7.wr W8 (Or.inr sz_b6)
      have N8 := Fr.snoc X8 N7 g_b6
      have hk := Nat.le_trans hk (Nat.le_of_eq (Wr.size W8).symm)
      have CR8 : CHr Z elL s.vm h0 s.vm h8 := CR7.trans (CHr.wr W8 (Safe.arv hZ.alike V_b6_7 (by decide)) CR7.1)
      have V_b6_8 : Arv Z h8 b6 cA6 .char (2 : Int32) [(.int (nar .char ((xx &&& (255 : Int32)).toUInt32.toUInt16.toUInt32.toInt32))), (.int (nar .char ((((xx.toUInt32 >>> ((8 : Int32) &&& 31).toUInt32).toInt32) &&& (255 : Int32)).toUInt32.toUInt16.toUInt32.toInt32)))] (.int (0 : Int32)) := Arv.set Ar8 qA8 SA8 NA8 HA8 GA8 (fits_nar_char _) W8 1 rfl (Nat.le_of_ble_eq_true rfl)
      refine Gl.go (fun _ k => st8 _ k) ?_
      show Gl _ _ _ _ (T8.setTop (mkF m 64 #[.val (.int xx), .val (.int (lnV xx)), .val (.int ((xx &&& (255 : Int32)).toUInt32.toUInt16.toUInt32.toInt32)), .val (.int ((((xx.toUInt32 >>> ((8 : Int32) &&& 31).toUInt32).toInt32) &&& (255 : Int32)).toUInt32.toUInt16.toUInt32.toInt32))] [(.ref b6), (.ref b5), (.ref b5)]))
      have hp : ∀ c ∈ ([chr8 xx, chr8 ((xx.toUInt32 >>> ((8 : Int32) &&& 31).toUInt32).toInt32)] : List Int32), ¬ c < 0 ∧ ¬ (255 : Int32) < c := by
        intro c hc
        simp only [List.mem_cons, List.not_mem_nil, or_false] at hc
        rcases hc with rfl | rfl
        · exact own_chr _
        · exact own_chr _
      obtain ⟨_, _, ⟨T9, L9, k9, n9⟩, -, X9, ⟨Lc9, hQ9, l9, y9, z9⟩, st9⟩ := X8.specialBack hx (y := (⟨"java/lang/String", "<init>", "([C)V"⟩ : MethodName)) rfl hown (mvT hZ (hw _ (List.mem_of_getElem? (i := 9) rfl))) (mvT hZ (hw _ (List.mem_of_getElem? (i := 10) rfl))) (mvT hZ (hw _ (List.mem_of_getElem? (i := 11) rfl))) (by decide) (StrChars.Road.backV (W := 1) hZ hws (kI := 4) (hw _ (List.mem_of_getElem? (i := 6) rfl)) (cs := ([chr8 xx, chr8 ((xx.toUInt32 >>> ((8 : Int32) &&& 31).toUInt32).toInt32)] : List Int32)) (bs := (([chr8 xx, chr8 ((xx.toUInt32 >>> ((8 : Int32) &&& 31).toUInt32).toInt32)] : List Int32)).map (fun c => c.toInt8.toInt32)) (n := 2) g_b5 SZ8 E_b5_8 F_b5_value_8 F_b5_coder_8 V_b6_8 (O2.ext O__8.2) P5 rfl rfl (by decide) (by decide) hp rfl (by decide) (by decide)) (g := (mkF m 64 #[.val (.int xx), .val (.int (lnV xx)), .val (.int ((xx &&& (255 : Int32)).toUInt32.toUInt16.toUInt32.toInt32)), .val (.int ((((xx.toUInt32 >>> ((8 : Int32) &&& 31).toUInt32).toInt32) &&& (255 : Int32)).toUInt32.toUInt16.toUInt32.toInt32))] [(.ref b6), (.ref b5), (.ref b5)])) rfl (by rw [hml]; rfl) (Steps.refl _) (a := b5) (argsL := [(.ref b6)]) (rest := [(.ref b5)]) (lenOf pd_6 rfl) rfl (by show 2 * 0 + _ ≤ _; exact Nat.le_of_eq rfl) (hb hby d1_64) (fun _ _ => ⟨rfl, e8, (by decide : 2 + 1 ≤ _), (by decide : 6 + 2 ≤ _)⟩)
      dsimp only [Pt.U, Pt.locs, Pt.cells, Pt.slots] at X9 l9 y9 z9 st9
      subst y9 z9
      obtain ⟨rfl, Nq9, Kc9, Es9, Cs9, ta9, kb9, -, -, -, Vs9, Ks9⟩ := hQ9
      have N9 : Fr n0 L9 := by rw [l9]; exact Fr.app N8 Nq9
      refine Gl.go (fun _ k => st9.trans k) ?_
      have Zs_b5_9 : Safe Z elL s.vm T9.heap b5 := Safe.keep Kc9 (sfS Zs_b5_8 sf0) CR8.1 Zs_b5_8
      have O__9 : Old Z n0 T9.heap := O__8.keep Kc9 (allS g_b5 all0)
      have E_b5_9 : Exa Z T9.heap b5 "java/lang/String" := E_b5_8.keep Kc9
      have V_b6_9 : Arv Z T9.heap b6 cA6 .char (2 : Int32) [(.int (nar .char ((xx &&& (255 : Int32)).toUInt32.toUInt16.toUInt32.toInt32))), (.int (nar .char ((((xx.toUInt32 >>> ((8 : Int32) &&& 31).toUInt32).toInt32) &&& (255 : Int32)).toUInt32.toUInt16.toUInt32.toInt32)))] (.int (0 : Int32)) := V_b6_8.keep Kc9 (ninS (Ne.symm ne_b5_b6) nin0)
      have SZ9 : n0 ≤ T9.heap.size := Nat.le_trans SZ8 Kc9.1
      have K9 : Keep h0 T9.heap [] := K8.trans Kc9 (allS (Or.inr sz_b5) all0)
      have hk := Nat.le_trans hk Kc9.1
      have CR9 : CHr Z elL s.vm h0 s.vm T9.heap := CR8.trans (CHr.keep Kc9 (sfS Zs_b5_8 sf0) CR8.1)
      show Gl _ _ _ _ (T9.setTop (mkF m 67 #[.val (.int xx), .val (.int (lnV xx)), .val (.int ((xx &&& (255 : Int32)).toUInt32.toUInt16.toUInt32.toInt32)), .val (.int ((((xx.toUInt32 >>> ((8 : Int32) &&& 31).toUInt32).toInt32) &&& (255 : Int32)).toUInt32.toUInt16.toUInt32.toInt32))] [(.ref b5)]))
      refine leafWA X9 hS hk hx hlk Bd.returns rfl rfl (hb hby d1_67) (CR9.trans (CHv.at X9 hZ hEL CR9.1)) hh ?_ (by decide) (by decide)
      exact ⟨b5, rfl, N9, K9, by rw [stV, if_neg hA, if_neg hB]; exact ⟨Es9, Cs9, Nat.lt_of_lt_of_le (Nat.lt_succ_self 2) (by decide), ta9, kb9, Vs9, Ks9⟩⟩
def Q_put_1_0 (Z : State) (ar xl xq : Addr) (kA : ClassId) (p0 p1 p2 p3 : Value) (h0 : Heap) (n0 : Nat) (v : Option Value) (h : Heap) (L : List Loc) : Prop := v = none ∧ Fr n0 L ∧ Keep h0 h [ar] ∧ (Arv Z h ar kA (.object "java/lang/String") (4 : Int32) [(.ref xl), (.ref xl), (.ref xq), (.ref xl)] .null)
set_option maxRecDepth 65536 in
set_option maxHeartbeats 40000000 in
theorem rm_put_1_0 (l : Launch) (Z : State) (a0 : Array Value) (hw : ∀ d ∈ tables_1, d.before a0 Z = true) (ws : List Jvm.Cond) (ar xl xq : Addr) (kA : ClassId) (p0 p1 p2 p3 : Value) (h0 : Heap) (n0 : Nat) (Z0 : n0 ≤ h0.size) (Va : (Arv Z h0 ar kA (.object "java/lang/String") (4 : Int32) [p0, p1, p2, p3] .null)) (Ov : Ovr Z kA "java/lang/String") (Xl : (Exa Z h0 xl "java/lang/String")) (Xq : (Exa Z h0 xq "java/lang/String")) (g_ar : n0 ≤ ar) :
    MetFree l (⟨"org/semfolio/ElementHasAttributePinLaw", "put", "([Ljava/lang/String;ILjava/lang/String;Ljava/lang/String;)V"⟩ : MethodName) (head1 (Jvm.Cond.code (⟨"org/semfolio/ElementHasAttributePinLaw", "put", "([Ljava/lang/String;ILjava/lang/String;Ljava/lang/String;)V"⟩ : MethodName) method_3_code 4 none :: ws) ({ frames := 0, cells := 0, slots := 0, locals := 0 } : Room)) (fun aa U => aa = #[(.ref ar), (.int (0 : Int32)), (.ref xl), (.ref xq)] ∧ Z.Warmed39 U.vm ∧ U.heap = h0) (fun _ _ _ _ _ => True) (fun _ U o U' => ∃ v L, o = .returned v ∧ Q_put_1_0 Z ar xl xq kA p0 p1 p2 p3 h0 n0 v U'.heap L ∧ FrameEnd U o U' L ({ frames := 0, cells := 0, slots := 0, locals := 0 } : Room).cells ({ frames := 0, cells := 0, slots := 0, locals := 0 } : Room).slots) := by
  refine MetFree.of_bodySF (plainFor_of_name pn_4) hisR ?_
  intro p e s m args below meth c s₁ Bd hml0 hP hK
  obtain ⟨rfl, hZ, hh⟩ := hP
  have hx := Bd.exec
  have hby := Bd.bytes
  have hml : c.maxLocals = 4 := hml0
  have hown : s.vm.findClass "org/semfolio/ElementHasAttributePinLaw" = some m.cls := findClass_of_methodNamed Bd.named
  have hnm := (name_of_methodNamed Bd.named Bd.method).1
  have hlk : meth.locks = false := BodyLoose.notSynchronized Bd
  have X0 : Stand p l e ({ frames := 0, cells := 0, slots := 0, locals := 0 } : Room) s m #[(.ref ar), (.int (0 : Int32)), (.ref xl), (.ref xq)] below meth c s₁ [] 0 0 := Stand.of_body Bd
  have e0 : s₁.heap = h0 := by rw [← hh, Bd.state]; rfl
  have N0 := Fr.nil n0
  have K0 : Keep h0 h0 [ar] := Keep.refl _ _
  show Gl p.tables e below (QQof s (Q_put_1_0 Z ar xl xq kA p0 p1 p2 p3 h0 n0) 0 0) (s₁.setTop (entryFrame m #[(.ref ar), (.int (0 : Int32)), (.ref xl), (.ref xq)] 4))
  refine Gl.go (fun t k => castTop (ef_put_1_0 m ar (0 : Int32) xl xq) k) ?_
  show Gl _ _ _ _ (s₁.setTop (mkF m 0 #[.val (.ref ar), .val (.int (0 : Int32)), .val (.ref xl), .val (.ref xq)] []))
  refine Gl.go (fun _ k => XS.aloadN X0.here hx rfl (hb hby d9_0) rfl rfl  k) ?_
  show Gl _ _ _ _ (s₁.setTop (mkF m 1 #[.val (.ref ar), .val (.int (0 : Int32)), .val (.ref xl), .val (.ref xq)] [(.ref ar)]))
  refine Gl.go (fun _ k => XS.iloadN X0.here hx rfl (hb hby d9_1) rfl  k) ?_
  show Gl _ _ _ _ (s₁.setTop (mkF m 2 #[.val (.ref ar), .val (.int (0 : Int32)), .val (.ref xl), .val (.ref xq)] [(.int (0 : Int32)), (.ref ar)]))
  refine Gl.go (fun _ k => XS.aloadN X0.here hx rfl (hb hby d9_2) rfl rfl  k) ?_
  show Gl _ _ _ _ (s₁.setTop (mkF m 3 #[.val (.ref ar), .val (.int (0 : Int32)), .val (.ref xl), .val (.ref xq)] [(.ref xl), (.int (0 : Int32)), (.ref ar)]))
  obtain ⟨cl1, Ar1, qA1, SA1, NA1, HA1, GA1⟩ := id Va
  obtain ⟨T1, h1, X1, e1, W1, st1⟩ := stR X0 hx hZ e0 Ar1 (j := (0 : Int32)) (inb_of SA1 ⟨by decide, by decide⟩) rfl (Sto.ofV Ar1 qA1 Ov (Ins.self Xl)) (g := (mkF m 3 #[.val (.ref ar), .val (.int (0 : Int32)), .val (.ref xl), .val (.ref xq)] [(.ref xl), (.int (0 : Int32)), (.ref ar)])) rfl rfl (hb hby d9_3)
  have E_xl_1 : Exa Z h1 xl "java/lang/String" := Xl.wr W1
  have E_xq_1 : Exa Z h1 xq "java/lang/String" := Xq.wr W1
  have SZ1 : n0 ≤ h1.size := by rw [Wr.size W1]; exact Z0
  have K1 : Keep h0 h1 [ar] := K0.wr W1 (Or.inl (List.mem_of_getElem? (i := 0) rfl))
  have N1 := Fr.snoc X1 N0 g_ar
  have V_ar_1 : Arv Z h1 ar kA (.object "java/lang/String") (4 : Int32) [(.ref xl), p1, p2, p3] .null := Arv.set Ar1 qA1 SA1 NA1 HA1 GA1 rfl W1 0 rfl (Nat.le_of_ble_eq_true rfl)
  refine Gl.go (fun _ k => st1 _ k) ?_
  show Gl _ _ _ _ (T1.setTop (mkF m 4 #[.val (.ref ar), .val (.int (0 : Int32)), .val (.ref xl), .val (.ref xq)] []))
  refine Gl.go (fun _ k => XS.aloadN X1.here hx rfl (hb hby d9_4) rfl rfl  k) ?_
  show Gl _ _ _ _ (T1.setTop (mkF m 5 #[.val (.ref ar), .val (.int (0 : Int32)), .val (.ref xl), .val (.ref xq)] [(.ref ar)]))
  refine Gl.go (fun _ k => XS.iloadN X1.here hx rfl (hb hby d9_5) rfl  k) ?_
  show Gl _ _ _ _ (T1.setTop (mkF m 6 #[.val (.ref ar), .val (.int (0 : Int32)), .val (.ref xl), .val (.ref xq)] [(.int (0 : Int32)), (.ref ar)]))
  refine Gl.go (fun _ k => XS.iconst X1.here hx rfl (hb hby d9_6) k) ?_
  show Gl _ _ _ _ (T1.setTop (mkF m 7 #[.val (.ref ar), .val (.int (0 : Int32)), .val (.ref xl), .val (.ref xq)] [(.int (1 : Int32)), (.int (0 : Int32)), (.ref ar)]))
  refine Gl.go (fun _ k => XS.iadd X1.here hx rfl (hb hby d9_7) rfl k) ?_
  show Gl _ _ _ _ (T1.setTop (mkF m 8 #[.val (.ref ar), .val (.int (0 : Int32)), .val (.ref xl), .val (.ref xq)] [(.int ((0 : Int32) + (1 : Int32))), (.ref ar)]))
  refine Gl.go (fun _ k => XS.aloadN X1.here hx rfl (hb hby d9_8) rfl rfl  k) ?_
  show Gl _ _ _ _ (T1.setTop (mkF m 9 #[.val (.ref ar), .val (.int (0 : Int32)), .val (.ref xl), .val (.ref xq)] [(.ref xl), (.int ((0 : Int32) + (1 : Int32))), (.ref ar)]))
  rw [(by decide : ((0 : Int32) + (1 : Int32)) = (1 : Int32))]
  show Gl _ _ _ _ (T1.setTop (mkF m 9 #[.val (.ref ar), .val (.int (0 : Int32)), .val (.ref xl), .val (.ref xq)] [(.ref xl), (.int (1 : Int32)), (.ref ar)]))
  obtain ⟨cl2, Ar2, qA2, SA2, NA2, HA2, GA2⟩ := id V_ar_1
  obtain ⟨T2, h2, X2, e2, W2, st2⟩ := stR X1 hx hZ e1 Ar2 (j := (1 : Int32)) (inb_of SA2 ⟨by decide, by decide⟩) rfl (Sto.ofV Ar2 qA2 Ov (Ins.self E_xl_1)) (g := (mkF m 9 #[.val (.ref ar), .val (.int (0 : Int32)), .val (.ref xl), .val (.ref xq)] [(.ref xl), (.int (1 : Int32)), (.ref ar)])) rfl rfl (hb hby d9_9)
  have E_xl_2 : Exa Z h2 xl "java/lang/String" := E_xl_1.wr W2
  have E_xq_2 : Exa Z h2 xq "java/lang/String" := E_xq_1.wr W2
  have SZ2 : n0 ≤ h2.size := by rw [Wr.size W2]; exact SZ1
  have K2 : Keep h0 h2 [ar] := K1.wr W2 (Or.inl (List.mem_of_getElem? (i := 0) rfl))
  have N2 := Fr.snoc X2 N1 g_ar
  have V_ar_2 : Arv Z h2 ar kA (.object "java/lang/String") (4 : Int32) [(.ref xl), (.ref xl), p2, p3] .null := Arv.set Ar2 qA2 SA2 NA2 HA2 GA2 rfl W2 1 rfl (Nat.le_of_ble_eq_true rfl)
  refine Gl.go (fun _ k => st2 _ k) ?_
  show Gl _ _ _ _ (T2.setTop (mkF m 10 #[.val (.ref ar), .val (.int (0 : Int32)), .val (.ref xl), .val (.ref xq)] []))
  refine Gl.go (fun _ k => XS.aloadN X2.here hx rfl (hb hby d9_10) rfl rfl  k) ?_
  show Gl _ _ _ _ (T2.setTop (mkF m 11 #[.val (.ref ar), .val (.int (0 : Int32)), .val (.ref xl), .val (.ref xq)] [(.ref ar)]))
  refine Gl.go (fun _ k => XS.iloadN X2.here hx rfl (hb hby d9_11) rfl  k) ?_
  show Gl _ _ _ _ (T2.setTop (mkF m 12 #[.val (.ref ar), .val (.int (0 : Int32)), .val (.ref xl), .val (.ref xq)] [(.int (0 : Int32)), (.ref ar)]))
  refine Gl.go (fun _ k => XS.iconst X2.here hx rfl (hb hby d9_12) k) ?_
  show Gl _ _ _ _ (T2.setTop (mkF m 13 #[.val (.ref ar), .val (.int (0 : Int32)), .val (.ref xl), .val (.ref xq)] [(.int (2 : Int32)), (.int (0 : Int32)), (.ref ar)]))
  refine Gl.go (fun _ k => XS.iadd X2.here hx rfl (hb hby d9_13) rfl k) ?_
  show Gl _ _ _ _ (T2.setTop (mkF m 14 #[.val (.ref ar), .val (.int (0 : Int32)), .val (.ref xl), .val (.ref xq)] [(.int ((0 : Int32) + (2 : Int32))), (.ref ar)]))
  refine Gl.go (fun _ k => XS.aloadN X2.here hx rfl (hb hby d9_14) rfl rfl  k) ?_
  show Gl _ _ _ _ (T2.setTop (mkF m 15 #[.val (.ref ar), .val (.int (0 : Int32)), .val (.ref xl), .val (.ref xq)] [(.ref xq), (.int ((0 : Int32) + (2 : Int32))), (.ref ar)]))
  rw [(by decide : ((0 : Int32) + (2 : Int32)) = (2 : Int32))]
  show Gl _ _ _ _ (T2.setTop (mkF m 15 #[.val (.ref ar), .val (.int (0 : Int32)), .val (.ref xl), .val (.ref xq)] [(.ref xq), (.int (2 : Int32)), (.ref ar)]))
  obtain ⟨cl3, Ar3, qA3, SA3, NA3, HA3, GA3⟩ := id V_ar_2
  obtain ⟨T3, h3, X3, e3, W3, st3⟩ := stR X2 hx hZ e2 Ar3 (j := (2 : Int32)) (inb_of SA3 ⟨by decide, by decide⟩) rfl (Sto.ofV Ar3 qA3 Ov (Ins.self E_xq_2)) (g := (mkF m 15 #[.val (.ref ar), .val (.int (0 : Int32)), .val (.ref xl), .val (.ref xq)] [(.ref xq), (.int (2 : Int32)), (.ref ar)])) rfl rfl (hb hby d9_15)
  have E_xl_3 : Exa Z h3 xl "java/lang/String" := E_xl_2.wr W3
  have E_xq_3 : Exa Z h3 xq "java/lang/String" := E_xq_2.wr W3
  have SZ3 : n0 ≤ h3.size := by rw [Wr.size W3]; exact SZ2
  have K3 : Keep h0 h3 [ar] := K2.wr W3 (Or.inl (List.mem_of_getElem? (i := 0) rfl))
  have N3 := Fr.snoc X3 N2 g_ar
  have V_ar_3 : Arv Z h3 ar kA (.object "java/lang/String") (4 : Int32) [(.ref xl), (.ref xl), (.ref xq), p3] .null := Arv.set Ar3 qA3 SA3 NA3 HA3 GA3 rfl W3 2 rfl (Nat.le_of_ble_eq_true rfl)
  refine Gl.go (fun _ k => st3 _ k) ?_
  show Gl _ _ _ _ (T3.setTop (mkF m 16 #[.val (.ref ar), .val (.int (0 : Int32)), .val (.ref xl), .val (.ref xq)] []))
  refine Gl.go (fun _ k => XS.aloadN X3.here hx rfl (hb hby d9_16) rfl rfl  k) ?_
  show Gl _ _ _ _ (T3.setTop (mkF m 17 #[.val (.ref ar), .val (.int (0 : Int32)), .val (.ref xl), .val (.ref xq)] [(.ref ar)]))
  refine Gl.go (fun _ k => XS.iloadN X3.here hx rfl (hb hby d9_17) rfl  k) ?_
  show Gl _ _ _ _ (T3.setTop (mkF m 18 #[.val (.ref ar), .val (.int (0 : Int32)), .val (.ref xl), .val (.ref xq)] [(.int (0 : Int32)), (.ref ar)]))
  refine Gl.go (fun _ k => XS.iconst X3.here hx rfl (hb hby d9_18) k) ?_
  show Gl _ _ _ _ (T3.setTop (mkF m 19 #[.val (.ref ar), .val (.int (0 : Int32)), .val (.ref xl), .val (.ref xq)] [(.int (3 : Int32)), (.int (0 : Int32)), (.ref ar)]))
  refine Gl.go (fun _ k => XS.iadd X3.here hx rfl (hb hby d9_19) rfl k) ?_
  show Gl _ _ _ _ (T3.setTop (mkF m 20 #[.val (.ref ar), .val (.int (0 : Int32)), .val (.ref xl), .val (.ref xq)] [(.int ((0 : Int32) + (3 : Int32))), (.ref ar)]))
  refine Gl.go (fun _ k => XS.aloadN X3.here hx rfl (hb hby d9_20) rfl rfl  k) ?_
  show Gl _ _ _ _ (T3.setTop (mkF m 21 #[.val (.ref ar), .val (.int (0 : Int32)), .val (.ref xl), .val (.ref xq)] [(.ref xl), (.int ((0 : Int32) + (3 : Int32))), (.ref ar)]))
  rw [(by decide : ((0 : Int32) + (3 : Int32)) = (3 : Int32))]
  show Gl _ _ _ _ (T3.setTop (mkF m 21 #[.val (.ref ar), .val (.int (0 : Int32)), .val (.ref xl), .val (.ref xq)] [(.ref xl), (.int (3 : Int32)), (.ref ar)]))
  obtain ⟨cl4, Ar4, qA4, SA4, NA4, HA4, GA4⟩ := id V_ar_3
  obtain ⟨T4, h4, X4, e4, W4, st4⟩ := stR X3 hx hZ e3 Ar4 (j := (3 : Int32)) (inb_of SA4 ⟨by decide, by decide⟩) rfl (Sto.ofV Ar4 qA4 Ov (Ins.self E_xl_3)) (g := (mkF m 21 #[.val (.ref ar), .val (.int (0 : Int32)), .val (.ref xl), .val (.ref xq)] [(.ref xl), (.int (3 : Int32)), (.ref ar)])) rfl rfl (hb hby d9_21)
  have E_xl_4 : Exa Z h4 xl "java/lang/String" := E_xl_3.wr W4
  have E_xq_4 : Exa Z h4 xq "java/lang/String" := E_xq_3.wr W4
  have SZ4 : n0 ≤ h4.size := by rw [Wr.size W4]; exact SZ3
  have K4 : Keep h0 h4 [ar] := K3.wr W4 (Or.inl (List.mem_of_getElem? (i := 0) rfl))
  have N4 := Fr.snoc X4 N3 g_ar
  have V_ar_4 : Arv Z h4 ar kA (.object "java/lang/String") (4 : Int32) [(.ref xl), (.ref xl), (.ref xq), (.ref xl)] .null := Arv.set Ar4 qA4 SA4 NA4 HA4 GA4 rfl W4 3 rfl (Nat.le_of_ble_eq_true rfl)
  refine Gl.go (fun _ k => st4 _ k) ?_
  show Gl _ _ _ _ (T4.setTop (mkF m 22 #[.val (.ref ar), .val (.int (0 : Int32)), .val (.ref xl), .val (.ref xq)] []))
  refine leafV X4 hx hlk Bd.returns (hb hby d9_22) ?_ (by decide) (by decide)
  rw [e4]
  exact ⟨rfl, N4, K4, V_ar_4⟩
def Q_put_2_0 (Z : State) (ar xl xq : Addr) (kA : ClassId) (p0 p1 p2 p3 p4 p5 p6 p7 : Value) (h0 : Heap) (n0 : Nat) (v : Option Value) (h : Heap) (L : List Loc) : Prop := v = none ∧ Fr n0 L ∧ Keep h0 h [ar] ∧ (Arv Z h ar kA (.object "java/lang/String") (8 : Int32) [(.ref xl), (.ref xl), (.ref xq), (.ref xl), p4, p5, p6, p7] .null)
set_option maxRecDepth 65536 in
set_option maxHeartbeats 40000000 in
theorem rm_put_2_0 (l : Launch) (Z : State) (a0 : Array Value) (hw : ∀ d ∈ tables_1, d.before a0 Z = true) (ws : List Jvm.Cond) (ar xl xq : Addr) (kA : ClassId) (p0 p1 p2 p3 p4 p5 p6 p7 : Value) (h0 : Heap) (n0 : Nat) (Z0 : n0 ≤ h0.size) (Va : (Arv Z h0 ar kA (.object "java/lang/String") (8 : Int32) [p0, p1, p2, p3, p4, p5, p6, p7] .null)) (Ov : Ovr Z kA "java/lang/String") (Xl : (Exa Z h0 xl "java/lang/String")) (Xq : (Exa Z h0 xq "java/lang/String")) (g_ar : n0 ≤ ar) :
    MetFree l (⟨"org/semfolio/ElementHasAttributePinLaw", "put", "([Ljava/lang/String;ILjava/lang/String;Ljava/lang/String;)V"⟩ : MethodName) (head1 (Jvm.Cond.code (⟨"org/semfolio/ElementHasAttributePinLaw", "put", "([Ljava/lang/String;ILjava/lang/String;Ljava/lang/String;)V"⟩ : MethodName) method_3_code 4 none :: ws) ({ frames := 0, cells := 0, slots := 0, locals := 0 } : Room)) (fun aa U => aa = #[(.ref ar), (.int (0 : Int32)), (.ref xl), (.ref xq)] ∧ Z.Warmed39 U.vm ∧ U.heap = h0) (fun _ _ _ _ _ => True) (fun _ U o U' => ∃ v L, o = .returned v ∧ Q_put_2_0 Z ar xl xq kA p0 p1 p2 p3 p4 p5 p6 p7 h0 n0 v U'.heap L ∧ FrameEnd U o U' L ({ frames := 0, cells := 0, slots := 0, locals := 0 } : Room).cells ({ frames := 0, cells := 0, slots := 0, locals := 0 } : Room).slots) := by
  refine MetFree.of_bodySF (plainFor_of_name pn_4) hisR ?_
  intro p e s m args below meth c s₁ Bd hml0 hP hK
  obtain ⟨rfl, hZ, hh⟩ := hP
  have hx := Bd.exec
  have hby := Bd.bytes
  have hml : c.maxLocals = 4 := hml0
  have hown : s.vm.findClass "org/semfolio/ElementHasAttributePinLaw" = some m.cls := findClass_of_methodNamed Bd.named
  have hnm := (name_of_methodNamed Bd.named Bd.method).1
  have hlk : meth.locks = false := BodyLoose.notSynchronized Bd
  have X0 : Stand p l e ({ frames := 0, cells := 0, slots := 0, locals := 0 } : Room) s m #[(.ref ar), (.int (0 : Int32)), (.ref xl), (.ref xq)] below meth c s₁ [] 0 0 := Stand.of_body Bd
  have e0 : s₁.heap = h0 := by rw [← hh, Bd.state]; rfl
  have N0 := Fr.nil n0
  have K0 : Keep h0 h0 [ar] := Keep.refl _ _
  show Gl p.tables e below (QQof s (Q_put_2_0 Z ar xl xq kA p0 p1 p2 p3 p4 p5 p6 p7 h0 n0) 0 0) (s₁.setTop (entryFrame m #[(.ref ar), (.int (0 : Int32)), (.ref xl), (.ref xq)] 4))
  refine Gl.go (fun t k => castTop (ef_put_2_0 m ar (0 : Int32) xl xq) k) ?_
  show Gl _ _ _ _ (s₁.setTop (mkF m 0 #[.val (.ref ar), .val (.int (0 : Int32)), .val (.ref xl), .val (.ref xq)] []))
  refine Gl.go (fun _ k => XS.aloadN X0.here hx rfl (hb hby d9_0) rfl rfl  k) ?_
  show Gl _ _ _ _ (s₁.setTop (mkF m 1 #[.val (.ref ar), .val (.int (0 : Int32)), .val (.ref xl), .val (.ref xq)] [(.ref ar)]))
  refine Gl.go (fun _ k => XS.iloadN X0.here hx rfl (hb hby d9_1) rfl  k) ?_
  show Gl _ _ _ _ (s₁.setTop (mkF m 2 #[.val (.ref ar), .val (.int (0 : Int32)), .val (.ref xl), .val (.ref xq)] [(.int (0 : Int32)), (.ref ar)]))
  refine Gl.go (fun _ k => XS.aloadN X0.here hx rfl (hb hby d9_2) rfl rfl  k) ?_
  show Gl _ _ _ _ (s₁.setTop (mkF m 3 #[.val (.ref ar), .val (.int (0 : Int32)), .val (.ref xl), .val (.ref xq)] [(.ref xl), (.int (0 : Int32)), (.ref ar)]))
  obtain ⟨cl1, Ar1, qA1, SA1, NA1, HA1, GA1⟩ := id Va
  obtain ⟨T1, h1, X1, e1, W1, st1⟩ := stR X0 hx hZ e0 Ar1 (j := (0 : Int32)) (inb_of SA1 ⟨by decide, by decide⟩) rfl (Sto.ofV Ar1 qA1 Ov (Ins.self Xl)) (g := (mkF m 3 #[.val (.ref ar), .val (.int (0 : Int32)), .val (.ref xl), .val (.ref xq)] [(.ref xl), (.int (0 : Int32)), (.ref ar)])) rfl rfl (hb hby d9_3)
  have E_xl_1 : Exa Z h1 xl "java/lang/String" := Xl.wr W1
  have E_xq_1 : Exa Z h1 xq "java/lang/String" := Xq.wr W1
  have SZ1 : n0 ≤ h1.size := by rw [Wr.size W1]; exact Z0
  have K1 : Keep h0 h1 [ar] := K0.wr W1 (Or.inl (List.mem_of_getElem? (i := 0) rfl))
  have N1 := Fr.snoc X1 N0 g_ar
  have V_ar_1 : Arv Z h1 ar kA (.object "java/lang/String") (8 : Int32) [(.ref xl), p1, p2, p3, p4, p5, p6, p7] .null := Arv.set Ar1 qA1 SA1 NA1 HA1 GA1 rfl W1 0 rfl (Nat.le_of_ble_eq_true rfl)
  refine Gl.go (fun _ k => st1 _ k) ?_
  show Gl _ _ _ _ (T1.setTop (mkF m 4 #[.val (.ref ar), .val (.int (0 : Int32)), .val (.ref xl), .val (.ref xq)] []))
  refine Gl.go (fun _ k => XS.aloadN X1.here hx rfl (hb hby d9_4) rfl rfl  k) ?_
  show Gl _ _ _ _ (T1.setTop (mkF m 5 #[.val (.ref ar), .val (.int (0 : Int32)), .val (.ref xl), .val (.ref xq)] [(.ref ar)]))
  refine Gl.go (fun _ k => XS.iloadN X1.here hx rfl (hb hby d9_5) rfl  k) ?_
  show Gl _ _ _ _ (T1.setTop (mkF m 6 #[.val (.ref ar), .val (.int (0 : Int32)), .val (.ref xl), .val (.ref xq)] [(.int (0 : Int32)), (.ref ar)]))
  refine Gl.go (fun _ k => XS.iconst X1.here hx rfl (hb hby d9_6) k) ?_
  show Gl _ _ _ _ (T1.setTop (mkF m 7 #[.val (.ref ar), .val (.int (0 : Int32)), .val (.ref xl), .val (.ref xq)] [(.int (1 : Int32)), (.int (0 : Int32)), (.ref ar)]))
  refine Gl.go (fun _ k => XS.iadd X1.here hx rfl (hb hby d9_7) rfl k) ?_
  show Gl _ _ _ _ (T1.setTop (mkF m 8 #[.val (.ref ar), .val (.int (0 : Int32)), .val (.ref xl), .val (.ref xq)] [(.int ((0 : Int32) + (1 : Int32))), (.ref ar)]))
  refine Gl.go (fun _ k => XS.aloadN X1.here hx rfl (hb hby d9_8) rfl rfl  k) ?_
  show Gl _ _ _ _ (T1.setTop (mkF m 9 #[.val (.ref ar), .val (.int (0 : Int32)), .val (.ref xl), .val (.ref xq)] [(.ref xl), (.int ((0 : Int32) + (1 : Int32))), (.ref ar)]))
  rw [(by decide : ((0 : Int32) + (1 : Int32)) = (1 : Int32))]
  show Gl _ _ _ _ (T1.setTop (mkF m 9 #[.val (.ref ar), .val (.int (0 : Int32)), .val (.ref xl), .val (.ref xq)] [(.ref xl), (.int (1 : Int32)), (.ref ar)]))
  obtain ⟨cl2, Ar2, qA2, SA2, NA2, HA2, GA2⟩ := id V_ar_1
  obtain ⟨T2, h2, X2, e2, W2, st2⟩ := stR X1 hx hZ e1 Ar2 (j := (1 : Int32)) (inb_of SA2 ⟨by decide, by decide⟩) rfl (Sto.ofV Ar2 qA2 Ov (Ins.self E_xl_1)) (g := (mkF m 9 #[.val (.ref ar), .val (.int (0 : Int32)), .val (.ref xl), .val (.ref xq)] [(.ref xl), (.int (1 : Int32)), (.ref ar)])) rfl rfl (hb hby d9_9)
  have E_xl_2 : Exa Z h2 xl "java/lang/String" := E_xl_1.wr W2
  have E_xq_2 : Exa Z h2 xq "java/lang/String" := E_xq_1.wr W2
  have SZ2 : n0 ≤ h2.size := by rw [Wr.size W2]; exact SZ1
  have K2 : Keep h0 h2 [ar] := K1.wr W2 (Or.inl (List.mem_of_getElem? (i := 0) rfl))
  have N2 := Fr.snoc X2 N1 g_ar
  have V_ar_2 : Arv Z h2 ar kA (.object "java/lang/String") (8 : Int32) [(.ref xl), (.ref xl), p2, p3, p4, p5, p6, p7] .null := Arv.set Ar2 qA2 SA2 NA2 HA2 GA2 rfl W2 1 rfl (Nat.le_of_ble_eq_true rfl)
  refine Gl.go (fun _ k => st2 _ k) ?_
  show Gl _ _ _ _ (T2.setTop (mkF m 10 #[.val (.ref ar), .val (.int (0 : Int32)), .val (.ref xl), .val (.ref xq)] []))
  refine Gl.go (fun _ k => XS.aloadN X2.here hx rfl (hb hby d9_10) rfl rfl  k) ?_
  show Gl _ _ _ _ (T2.setTop (mkF m 11 #[.val (.ref ar), .val (.int (0 : Int32)), .val (.ref xl), .val (.ref xq)] [(.ref ar)]))
  refine Gl.go (fun _ k => XS.iloadN X2.here hx rfl (hb hby d9_11) rfl  k) ?_
  show Gl _ _ _ _ (T2.setTop (mkF m 12 #[.val (.ref ar), .val (.int (0 : Int32)), .val (.ref xl), .val (.ref xq)] [(.int (0 : Int32)), (.ref ar)]))
  refine Gl.go (fun _ k => XS.iconst X2.here hx rfl (hb hby d9_12) k) ?_
  show Gl _ _ _ _ (T2.setTop (mkF m 13 #[.val (.ref ar), .val (.int (0 : Int32)), .val (.ref xl), .val (.ref xq)] [(.int (2 : Int32)), (.int (0 : Int32)), (.ref ar)]))
  refine Gl.go (fun _ k => XS.iadd X2.here hx rfl (hb hby d9_13) rfl k) ?_
  show Gl _ _ _ _ (T2.setTop (mkF m 14 #[.val (.ref ar), .val (.int (0 : Int32)), .val (.ref xl), .val (.ref xq)] [(.int ((0 : Int32) + (2 : Int32))), (.ref ar)]))
  refine Gl.go (fun _ k => XS.aloadN X2.here hx rfl (hb hby d9_14) rfl rfl  k) ?_
  show Gl _ _ _ _ (T2.setTop (mkF m 15 #[.val (.ref ar), .val (.int (0 : Int32)), .val (.ref xl), .val (.ref xq)] [(.ref xq), (.int ((0 : Int32) + (2 : Int32))), (.ref ar)]))
  rw [(by decide : ((0 : Int32) + (2 : Int32)) = (2 : Int32))]
  show Gl _ _ _ _ (T2.setTop (mkF m 15 #[.val (.ref ar), .val (.int (0 : Int32)), .val (.ref xl), .val (.ref xq)] [(.ref xq), (.int (2 : Int32)), (.ref ar)]))
  obtain ⟨cl3, Ar3, qA3, SA3, NA3, HA3, GA3⟩ := id V_ar_2
  obtain ⟨T3, h3, X3, e3, W3, st3⟩ := stR X2 hx hZ e2 Ar3 (j := (2 : Int32)) (inb_of SA3 ⟨by decide, by decide⟩) rfl (Sto.ofV Ar3 qA3 Ov (Ins.self E_xq_2)) (g := (mkF m 15 #[.val (.ref ar), .val (.int (0 : Int32)), .val (.ref xl), .val (.ref xq)] [(.ref xq), (.int (2 : Int32)), (.ref ar)])) rfl rfl (hb hby d9_15)
  have E_xl_3 : Exa Z h3 xl "java/lang/String" := E_xl_2.wr W3
  have E_xq_3 : Exa Z h3 xq "java/lang/String" := E_xq_2.wr W3
  have SZ3 : n0 ≤ h3.size := by rw [Wr.size W3]; exact SZ2
  have K3 : Keep h0 h3 [ar] := K2.wr W3 (Or.inl (List.mem_of_getElem? (i := 0) rfl))
  have N3 := Fr.snoc X3 N2 g_ar
  have V_ar_3 : Arv Z h3 ar kA (.object "java/lang/String") (8 : Int32) [(.ref xl), (.ref xl), (.ref xq), p3, p4, p5, p6, p7] .null := Arv.set Ar3 qA3 SA3 NA3 HA3 GA3 rfl W3 2 rfl (Nat.le_of_ble_eq_true rfl)
  refine Gl.go (fun _ k => st3 _ k) ?_
  show Gl _ _ _ _ (T3.setTop (mkF m 16 #[.val (.ref ar), .val (.int (0 : Int32)), .val (.ref xl), .val (.ref xq)] []))
  refine Gl.go (fun _ k => XS.aloadN X3.here hx rfl (hb hby d9_16) rfl rfl  k) ?_
  show Gl _ _ _ _ (T3.setTop (mkF m 17 #[.val (.ref ar), .val (.int (0 : Int32)), .val (.ref xl), .val (.ref xq)] [(.ref ar)]))
  refine Gl.go (fun _ k => XS.iloadN X3.here hx rfl (hb hby d9_17) rfl  k) ?_
  show Gl _ _ _ _ (T3.setTop (mkF m 18 #[.val (.ref ar), .val (.int (0 : Int32)), .val (.ref xl), .val (.ref xq)] [(.int (0 : Int32)), (.ref ar)]))
  refine Gl.go (fun _ k => XS.iconst X3.here hx rfl (hb hby d9_18) k) ?_
  show Gl _ _ _ _ (T3.setTop (mkF m 19 #[.val (.ref ar), .val (.int (0 : Int32)), .val (.ref xl), .val (.ref xq)] [(.int (3 : Int32)), (.int (0 : Int32)), (.ref ar)]))
  refine Gl.go (fun _ k => XS.iadd X3.here hx rfl (hb hby d9_19) rfl k) ?_
  show Gl _ _ _ _ (T3.setTop (mkF m 20 #[.val (.ref ar), .val (.int (0 : Int32)), .val (.ref xl), .val (.ref xq)] [(.int ((0 : Int32) + (3 : Int32))), (.ref ar)]))
  refine Gl.go (fun _ k => XS.aloadN X3.here hx rfl (hb hby d9_20) rfl rfl  k) ?_
  show Gl _ _ _ _ (T3.setTop (mkF m 21 #[.val (.ref ar), .val (.int (0 : Int32)), .val (.ref xl), .val (.ref xq)] [(.ref xl), (.int ((0 : Int32) + (3 : Int32))), (.ref ar)]))
  rw [(by decide : ((0 : Int32) + (3 : Int32)) = (3 : Int32))]
  show Gl _ _ _ _ (T3.setTop (mkF m 21 #[.val (.ref ar), .val (.int (0 : Int32)), .val (.ref xl), .val (.ref xq)] [(.ref xl), (.int (3 : Int32)), (.ref ar)]))
  obtain ⟨cl4, Ar4, qA4, SA4, NA4, HA4, GA4⟩ := id V_ar_3
  obtain ⟨T4, h4, X4, e4, W4, st4⟩ := stR X3 hx hZ e3 Ar4 (j := (3 : Int32)) (inb_of SA4 ⟨by decide, by decide⟩) rfl (Sto.ofV Ar4 qA4 Ov (Ins.self E_xl_3)) (g := (mkF m 21 #[.val (.ref ar), .val (.int (0 : Int32)), .val (.ref xl), .val (.ref xq)] [(.ref xl), (.int (3 : Int32)), (.ref ar)])) rfl rfl (hb hby d9_21)
  have E_xl_4 : Exa Z h4 xl "java/lang/String" := E_xl_3.wr W4
  have E_xq_4 : Exa Z h4 xq "java/lang/String" := E_xq_3.wr W4
  have SZ4 : n0 ≤ h4.size := by rw [Wr.size W4]; exact SZ3
  have K4 : Keep h0 h4 [ar] := K3.wr W4 (Or.inl (List.mem_of_getElem? (i := 0) rfl))
  have N4 := Fr.snoc X4 N3 g_ar
  have V_ar_4 : Arv Z h4 ar kA (.object "java/lang/String") (8 : Int32) [(.ref xl), (.ref xl), (.ref xq), (.ref xl), p4, p5, p6, p7] .null := Arv.set Ar4 qA4 SA4 NA4 HA4 GA4 rfl W4 3 rfl (Nat.le_of_ble_eq_true rfl)
  refine Gl.go (fun _ k => st4 _ k) ?_
  show Gl _ _ _ _ (T4.setTop (mkF m 22 #[.val (.ref ar), .val (.int (0 : Int32)), .val (.ref xl), .val (.ref xq)] []))
  refine leafV X4 hx hlk Bd.returns (hb hby d9_22) ?_ (by decide) (by decide)
  rw [e4]
  exact ⟨rfl, N4, K4, V_ar_4⟩
def Q_put_2_1 (Z : State) (ar xl xq : Addr) (kA : ClassId) (p0 p1 p2 p3 p4 p5 p6 p7 : Value) (h0 : Heap) (n0 : Nat) (v : Option Value) (h : Heap) (L : List Loc) : Prop := v = none ∧ Fr n0 L ∧ Keep h0 h [ar] ∧ (Arv Z h ar kA (.object "java/lang/String") (8 : Int32) [p0, p1, p2, p3, (.ref xl), (.ref xl), (.ref xq), (.ref xl)] .null)
set_option maxRecDepth 65536 in
set_option maxHeartbeats 40000000 in
theorem rm_put_2_1 (l : Launch) (Z : State) (a0 : Array Value) (hw : ∀ d ∈ tables_1, d.before a0 Z = true) (ws : List Jvm.Cond) (ar xl xq : Addr) (kA : ClassId) (p0 p1 p2 p3 p4 p5 p6 p7 : Value) (h0 : Heap) (n0 : Nat) (Z0 : n0 ≤ h0.size) (Va : (Arv Z h0 ar kA (.object "java/lang/String") (8 : Int32) [p0, p1, p2, p3, p4, p5, p6, p7] .null)) (Ov : Ovr Z kA "java/lang/String") (Xl : (Exa Z h0 xl "java/lang/String")) (Xq : (Exa Z h0 xq "java/lang/String")) (g_ar : n0 ≤ ar) :
    MetFree l (⟨"org/semfolio/ElementHasAttributePinLaw", "put", "([Ljava/lang/String;ILjava/lang/String;Ljava/lang/String;)V"⟩ : MethodName) (head1 (Jvm.Cond.code (⟨"org/semfolio/ElementHasAttributePinLaw", "put", "([Ljava/lang/String;ILjava/lang/String;Ljava/lang/String;)V"⟩ : MethodName) method_3_code 4 none :: ws) ({ frames := 0, cells := 0, slots := 0, locals := 0 } : Room)) (fun aa U => aa = #[(.ref ar), (.int (4 : Int32)), (.ref xl), (.ref xq)] ∧ Z.Warmed39 U.vm ∧ U.heap = h0) (fun _ _ _ _ _ => True) (fun _ U o U' => ∃ v L, o = .returned v ∧ Q_put_2_1 Z ar xl xq kA p0 p1 p2 p3 p4 p5 p6 p7 h0 n0 v U'.heap L ∧ FrameEnd U o U' L ({ frames := 0, cells := 0, slots := 0, locals := 0 } : Room).cells ({ frames := 0, cells := 0, slots := 0, locals := 0 } : Room).slots) := by
  refine MetFree.of_bodySF (plainFor_of_name pn_4) hisR ?_
  intro p e s m args below meth c s₁ Bd hml0 hP hK
  obtain ⟨rfl, hZ, hh⟩ := hP
  have hx := Bd.exec
  have hby := Bd.bytes
  have hml : c.maxLocals = 4 := hml0
  have hown : s.vm.findClass "org/semfolio/ElementHasAttributePinLaw" = some m.cls := findClass_of_methodNamed Bd.named
  have hnm := (name_of_methodNamed Bd.named Bd.method).1
  have hlk : meth.locks = false := BodyLoose.notSynchronized Bd
  have X0 : Stand p l e ({ frames := 0, cells := 0, slots := 0, locals := 0 } : Room) s m #[(.ref ar), (.int (4 : Int32)), (.ref xl), (.ref xq)] below meth c s₁ [] 0 0 := Stand.of_body Bd
  have e0 : s₁.heap = h0 := by rw [← hh, Bd.state]; rfl
  have N0 := Fr.nil n0
  have K0 : Keep h0 h0 [ar] := Keep.refl _ _
  show Gl p.tables e below (QQof s (Q_put_2_1 Z ar xl xq kA p0 p1 p2 p3 p4 p5 p6 p7 h0 n0) 0 0) (s₁.setTop (entryFrame m #[(.ref ar), (.int (4 : Int32)), (.ref xl), (.ref xq)] 4))
  refine Gl.go (fun t k => castTop (ef_put_2_1 m ar (4 : Int32) xl xq) k) ?_
  show Gl _ _ _ _ (s₁.setTop (mkF m 0 #[.val (.ref ar), .val (.int (4 : Int32)), .val (.ref xl), .val (.ref xq)] []))
  refine Gl.go (fun _ k => XS.aloadN X0.here hx rfl (hb hby d9_0) rfl rfl  k) ?_
  show Gl _ _ _ _ (s₁.setTop (mkF m 1 #[.val (.ref ar), .val (.int (4 : Int32)), .val (.ref xl), .val (.ref xq)] [(.ref ar)]))
  refine Gl.go (fun _ k => XS.iloadN X0.here hx rfl (hb hby d9_1) rfl  k) ?_
  show Gl _ _ _ _ (s₁.setTop (mkF m 2 #[.val (.ref ar), .val (.int (4 : Int32)), .val (.ref xl), .val (.ref xq)] [(.int (4 : Int32)), (.ref ar)]))
  refine Gl.go (fun _ k => XS.aloadN X0.here hx rfl (hb hby d9_2) rfl rfl  k) ?_
  show Gl _ _ _ _ (s₁.setTop (mkF m 3 #[.val (.ref ar), .val (.int (4 : Int32)), .val (.ref xl), .val (.ref xq)] [(.ref xl), (.int (4 : Int32)), (.ref ar)]))
  obtain ⟨cl1, Ar1, qA1, SA1, NA1, HA1, GA1⟩ := id Va
  obtain ⟨T1, h1, X1, e1, W1, st1⟩ := stR X0 hx hZ e0 Ar1 (j := (4 : Int32)) (inb_of SA1 ⟨by decide, by decide⟩) rfl (Sto.ofV Ar1 qA1 Ov (Ins.self Xl)) (g := (mkF m 3 #[.val (.ref ar), .val (.int (4 : Int32)), .val (.ref xl), .val (.ref xq)] [(.ref xl), (.int (4 : Int32)), (.ref ar)])) rfl rfl (hb hby d9_3)
  have E_xl_1 : Exa Z h1 xl "java/lang/String" := Xl.wr W1
  have E_xq_1 : Exa Z h1 xq "java/lang/String" := Xq.wr W1
  have SZ1 : n0 ≤ h1.size := by rw [Wr.size W1]; exact Z0
  have K1 : Keep h0 h1 [ar] := K0.wr W1 (Or.inl (List.mem_of_getElem? (i := 0) rfl))
  have N1 := Fr.snoc X1 N0 g_ar
  have V_ar_1 : Arv Z h1 ar kA (.object "java/lang/String") (8 : Int32) [p0, p1, p2, p3, (.ref xl), p5, p6, p7] .null := Arv.set Ar1 qA1 SA1 NA1 HA1 GA1 rfl W1 4 rfl (Nat.le_of_ble_eq_true rfl)
  refine Gl.go (fun _ k => st1 _ k) ?_
  show Gl _ _ _ _ (T1.setTop (mkF m 4 #[.val (.ref ar), .val (.int (4 : Int32)), .val (.ref xl), .val (.ref xq)] []))
  refine Gl.go (fun _ k => XS.aloadN X1.here hx rfl (hb hby d9_4) rfl rfl  k) ?_
  show Gl _ _ _ _ (T1.setTop (mkF m 5 #[.val (.ref ar), .val (.int (4 : Int32)), .val (.ref xl), .val (.ref xq)] [(.ref ar)]))
  refine Gl.go (fun _ k => XS.iloadN X1.here hx rfl (hb hby d9_5) rfl  k) ?_
  show Gl _ _ _ _ (T1.setTop (mkF m 6 #[.val (.ref ar), .val (.int (4 : Int32)), .val (.ref xl), .val (.ref xq)] [(.int (4 : Int32)), (.ref ar)]))
  refine Gl.go (fun _ k => XS.iconst X1.here hx rfl (hb hby d9_6) k) ?_
  show Gl _ _ _ _ (T1.setTop (mkF m 7 #[.val (.ref ar), .val (.int (4 : Int32)), .val (.ref xl), .val (.ref xq)] [(.int (1 : Int32)), (.int (4 : Int32)), (.ref ar)]))
  refine Gl.go (fun _ k => XS.iadd X1.here hx rfl (hb hby d9_7) rfl k) ?_
  show Gl _ _ _ _ (T1.setTop (mkF m 8 #[.val (.ref ar), .val (.int (4 : Int32)), .val (.ref xl), .val (.ref xq)] [(.int ((4 : Int32) + (1 : Int32))), (.ref ar)]))
  refine Gl.go (fun _ k => XS.aloadN X1.here hx rfl (hb hby d9_8) rfl rfl  k) ?_
  show Gl _ _ _ _ (T1.setTop (mkF m 9 #[.val (.ref ar), .val (.int (4 : Int32)), .val (.ref xl), .val (.ref xq)] [(.ref xl), (.int ((4 : Int32) + (1 : Int32))), (.ref ar)]))
  rw [(by decide : ((4 : Int32) + (1 : Int32)) = (5 : Int32))]
  show Gl _ _ _ _ (T1.setTop (mkF m 9 #[.val (.ref ar), .val (.int (4 : Int32)), .val (.ref xl), .val (.ref xq)] [(.ref xl), (.int (5 : Int32)), (.ref ar)]))
  obtain ⟨cl2, Ar2, qA2, SA2, NA2, HA2, GA2⟩ := id V_ar_1
  obtain ⟨T2, h2, X2, e2, W2, st2⟩ := stR X1 hx hZ e1 Ar2 (j := (5 : Int32)) (inb_of SA2 ⟨by decide, by decide⟩) rfl (Sto.ofV Ar2 qA2 Ov (Ins.self E_xl_1)) (g := (mkF m 9 #[.val (.ref ar), .val (.int (4 : Int32)), .val (.ref xl), .val (.ref xq)] [(.ref xl), (.int (5 : Int32)), (.ref ar)])) rfl rfl (hb hby d9_9)
  have E_xl_2 : Exa Z h2 xl "java/lang/String" := E_xl_1.wr W2
  have E_xq_2 : Exa Z h2 xq "java/lang/String" := E_xq_1.wr W2
  have SZ2 : n0 ≤ h2.size := by rw [Wr.size W2]; exact SZ1
  have K2 : Keep h0 h2 [ar] := K1.wr W2 (Or.inl (List.mem_of_getElem? (i := 0) rfl))
  have N2 := Fr.snoc X2 N1 g_ar
  have V_ar_2 : Arv Z h2 ar kA (.object "java/lang/String") (8 : Int32) [p0, p1, p2, p3, (.ref xl), (.ref xl), p6, p7] .null := Arv.set Ar2 qA2 SA2 NA2 HA2 GA2 rfl W2 5 rfl (Nat.le_of_ble_eq_true rfl)
  refine Gl.go (fun _ k => st2 _ k) ?_
  show Gl _ _ _ _ (T2.setTop (mkF m 10 #[.val (.ref ar), .val (.int (4 : Int32)), .val (.ref xl), .val (.ref xq)] []))
  refine Gl.go (fun _ k => XS.aloadN X2.here hx rfl (hb hby d9_10) rfl rfl  k) ?_
  show Gl _ _ _ _ (T2.setTop (mkF m 11 #[.val (.ref ar), .val (.int (4 : Int32)), .val (.ref xl), .val (.ref xq)] [(.ref ar)]))
  refine Gl.go (fun _ k => XS.iloadN X2.here hx rfl (hb hby d9_11) rfl  k) ?_
  show Gl _ _ _ _ (T2.setTop (mkF m 12 #[.val (.ref ar), .val (.int (4 : Int32)), .val (.ref xl), .val (.ref xq)] [(.int (4 : Int32)), (.ref ar)]))
  refine Gl.go (fun _ k => XS.iconst X2.here hx rfl (hb hby d9_12) k) ?_
  show Gl _ _ _ _ (T2.setTop (mkF m 13 #[.val (.ref ar), .val (.int (4 : Int32)), .val (.ref xl), .val (.ref xq)] [(.int (2 : Int32)), (.int (4 : Int32)), (.ref ar)]))
  refine Gl.go (fun _ k => XS.iadd X2.here hx rfl (hb hby d9_13) rfl k) ?_
  show Gl _ _ _ _ (T2.setTop (mkF m 14 #[.val (.ref ar), .val (.int (4 : Int32)), .val (.ref xl), .val (.ref xq)] [(.int ((4 : Int32) + (2 : Int32))), (.ref ar)]))
  refine Gl.go (fun _ k => XS.aloadN X2.here hx rfl (hb hby d9_14) rfl rfl  k) ?_
  show Gl _ _ _ _ (T2.setTop (mkF m 15 #[.val (.ref ar), .val (.int (4 : Int32)), .val (.ref xl), .val (.ref xq)] [(.ref xq), (.int ((4 : Int32) + (2 : Int32))), (.ref ar)]))
  rw [(by decide : ((4 : Int32) + (2 : Int32)) = (6 : Int32))]
  show Gl _ _ _ _ (T2.setTop (mkF m 15 #[.val (.ref ar), .val (.int (4 : Int32)), .val (.ref xl), .val (.ref xq)] [(.ref xq), (.int (6 : Int32)), (.ref ar)]))
  obtain ⟨cl3, Ar3, qA3, SA3, NA3, HA3, GA3⟩ := id V_ar_2
  obtain ⟨T3, h3, X3, e3, W3, st3⟩ := stR X2 hx hZ e2 Ar3 (j := (6 : Int32)) (inb_of SA3 ⟨by decide, by decide⟩) rfl (Sto.ofV Ar3 qA3 Ov (Ins.self E_xq_2)) (g := (mkF m 15 #[.val (.ref ar), .val (.int (4 : Int32)), .val (.ref xl), .val (.ref xq)] [(.ref xq), (.int (6 : Int32)), (.ref ar)])) rfl rfl (hb hby d9_15)
  have E_xl_3 : Exa Z h3 xl "java/lang/String" := E_xl_2.wr W3
  have E_xq_3 : Exa Z h3 xq "java/lang/String" := E_xq_2.wr W3
  have SZ3 : n0 ≤ h3.size := by rw [Wr.size W3]; exact SZ2
  have K3 : Keep h0 h3 [ar] := K2.wr W3 (Or.inl (List.mem_of_getElem? (i := 0) rfl))
  have N3 := Fr.snoc X3 N2 g_ar
  have V_ar_3 : Arv Z h3 ar kA (.object "java/lang/String") (8 : Int32) [p0, p1, p2, p3, (.ref xl), (.ref xl), (.ref xq), p7] .null := Arv.set Ar3 qA3 SA3 NA3 HA3 GA3 rfl W3 6 rfl (Nat.le_of_ble_eq_true rfl)
  refine Gl.go (fun _ k => st3 _ k) ?_
  show Gl _ _ _ _ (T3.setTop (mkF m 16 #[.val (.ref ar), .val (.int (4 : Int32)), .val (.ref xl), .val (.ref xq)] []))
  refine Gl.go (fun _ k => XS.aloadN X3.here hx rfl (hb hby d9_16) rfl rfl  k) ?_
  show Gl _ _ _ _ (T3.setTop (mkF m 17 #[.val (.ref ar), .val (.int (4 : Int32)), .val (.ref xl), .val (.ref xq)] [(.ref ar)]))
  refine Gl.go (fun _ k => XS.iloadN X3.here hx rfl (hb hby d9_17) rfl  k) ?_
  show Gl _ _ _ _ (T3.setTop (mkF m 18 #[.val (.ref ar), .val (.int (4 : Int32)), .val (.ref xl), .val (.ref xq)] [(.int (4 : Int32)), (.ref ar)]))
  refine Gl.go (fun _ k => XS.iconst X3.here hx rfl (hb hby d9_18) k) ?_
  show Gl _ _ _ _ (T3.setTop (mkF m 19 #[.val (.ref ar), .val (.int (4 : Int32)), .val (.ref xl), .val (.ref xq)] [(.int (3 : Int32)), (.int (4 : Int32)), (.ref ar)]))
  refine Gl.go (fun _ k => XS.iadd X3.here hx rfl (hb hby d9_19) rfl k) ?_
  show Gl _ _ _ _ (T3.setTop (mkF m 20 #[.val (.ref ar), .val (.int (4 : Int32)), .val (.ref xl), .val (.ref xq)] [(.int ((4 : Int32) + (3 : Int32))), (.ref ar)]))
  refine Gl.go (fun _ k => XS.aloadN X3.here hx rfl (hb hby d9_20) rfl rfl  k) ?_
  show Gl _ _ _ _ (T3.setTop (mkF m 21 #[.val (.ref ar), .val (.int (4 : Int32)), .val (.ref xl), .val (.ref xq)] [(.ref xl), (.int ((4 : Int32) + (3 : Int32))), (.ref ar)]))
  rw [(by decide : ((4 : Int32) + (3 : Int32)) = (7 : Int32))]
  show Gl _ _ _ _ (T3.setTop (mkF m 21 #[.val (.ref ar), .val (.int (4 : Int32)), .val (.ref xl), .val (.ref xq)] [(.ref xl), (.int (7 : Int32)), (.ref ar)]))
  obtain ⟨cl4, Ar4, qA4, SA4, NA4, HA4, GA4⟩ := id V_ar_3
  obtain ⟨T4, h4, X4, e4, W4, st4⟩ := stR X3 hx hZ e3 Ar4 (j := (7 : Int32)) (inb_of SA4 ⟨by decide, by decide⟩) rfl (Sto.ofV Ar4 qA4 Ov (Ins.self E_xl_3)) (g := (mkF m 21 #[.val (.ref ar), .val (.int (4 : Int32)), .val (.ref xl), .val (.ref xq)] [(.ref xl), (.int (7 : Int32)), (.ref ar)])) rfl rfl (hb hby d9_21)
  have E_xl_4 : Exa Z h4 xl "java/lang/String" := E_xl_3.wr W4
  have E_xq_4 : Exa Z h4 xq "java/lang/String" := E_xq_3.wr W4
  have SZ4 : n0 ≤ h4.size := by rw [Wr.size W4]; exact SZ3
  have K4 : Keep h0 h4 [ar] := K3.wr W4 (Or.inl (List.mem_of_getElem? (i := 0) rfl))
  have N4 := Fr.snoc X4 N3 g_ar
  have V_ar_4 : Arv Z h4 ar kA (.object "java/lang/String") (8 : Int32) [p0, p1, p2, p3, (.ref xl), (.ref xl), (.ref xq), (.ref xl)] .null := Arv.set Ar4 qA4 SA4 NA4 HA4 GA4 rfl W4 7 rfl (Nat.le_of_ble_eq_true rfl)
  refine Gl.go (fun _ k => st4 _ k) ?_
  show Gl _ _ _ _ (T4.setTop (mkF m 22 #[.val (.ref ar), .val (.int (4 : Int32)), .val (.ref xl), .val (.ref xq)] []))
  refine leafV X4 hx hlk Bd.returns (hb hby d9_22) ?_ (by decide) (by decide)
  rw [e4]
  exact ⟨rfl, N4, K4, V_ar_4⟩
def Q_put_3_0 (Z : State) (ar xl xq : Addr) (kA : ClassId) (p0 p1 p2 p3 p4 p5 p6 p7 p8 p9 p10 p11 : Value) (h0 : Heap) (n0 : Nat) (v : Option Value) (h : Heap) (L : List Loc) : Prop := v = none ∧ Fr n0 L ∧ Keep h0 h [ar] ∧ (Arv Z h ar kA (.object "java/lang/String") (12 : Int32) [(.ref xl), (.ref xl), (.ref xq), (.ref xl), p4, p5, p6, p7, p8, p9, p10, p11] .null)
set_option maxRecDepth 65536 in
set_option maxHeartbeats 40000000 in
theorem rm_put_3_0 (l : Launch) (Z : State) (a0 : Array Value) (hw : ∀ d ∈ tables_1, d.before a0 Z = true) (ws : List Jvm.Cond) (ar xl xq : Addr) (kA : ClassId) (p0 p1 p2 p3 p4 p5 p6 p7 p8 p9 p10 p11 : Value) (h0 : Heap) (n0 : Nat) (Z0 : n0 ≤ h0.size) (Va : (Arv Z h0 ar kA (.object "java/lang/String") (12 : Int32) [p0, p1, p2, p3, p4, p5, p6, p7, p8, p9, p10, p11] .null)) (Ov : Ovr Z kA "java/lang/String") (Xl : (Exa Z h0 xl "java/lang/String")) (Xq : (Exa Z h0 xq "java/lang/String")) (g_ar : n0 ≤ ar) :
    MetFree l (⟨"org/semfolio/ElementHasAttributePinLaw", "put", "([Ljava/lang/String;ILjava/lang/String;Ljava/lang/String;)V"⟩ : MethodName) (head1 (Jvm.Cond.code (⟨"org/semfolio/ElementHasAttributePinLaw", "put", "([Ljava/lang/String;ILjava/lang/String;Ljava/lang/String;)V"⟩ : MethodName) method_3_code 4 none :: ws) ({ frames := 0, cells := 0, slots := 0, locals := 0 } : Room)) (fun aa U => aa = #[(.ref ar), (.int (0 : Int32)), (.ref xl), (.ref xq)] ∧ Z.Warmed39 U.vm ∧ U.heap = h0) (fun _ _ _ _ _ => True) (fun _ U o U' => ∃ v L, o = .returned v ∧ Q_put_3_0 Z ar xl xq kA p0 p1 p2 p3 p4 p5 p6 p7 p8 p9 p10 p11 h0 n0 v U'.heap L ∧ FrameEnd U o U' L ({ frames := 0, cells := 0, slots := 0, locals := 0 } : Room).cells ({ frames := 0, cells := 0, slots := 0, locals := 0 } : Room).slots) := by
  refine MetFree.of_bodySF (plainFor_of_name pn_4) hisR ?_
  intro p e s m args below meth c s₁ Bd hml0 hP hK
  obtain ⟨rfl, hZ, hh⟩ := hP
  have hx := Bd.exec
  have hby := Bd.bytes
  have hml : c.maxLocals = 4 := hml0
  have hown : s.vm.findClass "org/semfolio/ElementHasAttributePinLaw" = some m.cls := findClass_of_methodNamed Bd.named
  have hnm := (name_of_methodNamed Bd.named Bd.method).1
  have hlk : meth.locks = false := BodyLoose.notSynchronized Bd
  have X0 : Stand p l e ({ frames := 0, cells := 0, slots := 0, locals := 0 } : Room) s m #[(.ref ar), (.int (0 : Int32)), (.ref xl), (.ref xq)] below meth c s₁ [] 0 0 := Stand.of_body Bd
  have e0 : s₁.heap = h0 := by rw [← hh, Bd.state]; rfl
  have N0 := Fr.nil n0
  have K0 : Keep h0 h0 [ar] := Keep.refl _ _
  show Gl p.tables e below (QQof s (Q_put_3_0 Z ar xl xq kA p0 p1 p2 p3 p4 p5 p6 p7 p8 p9 p10 p11 h0 n0) 0 0) (s₁.setTop (entryFrame m #[(.ref ar), (.int (0 : Int32)), (.ref xl), (.ref xq)] 4))
  refine Gl.go (fun t k => castTop (ef_put_3_0 m ar (0 : Int32) xl xq) k) ?_
  show Gl _ _ _ _ (s₁.setTop (mkF m 0 #[.val (.ref ar), .val (.int (0 : Int32)), .val (.ref xl), .val (.ref xq)] []))
  refine Gl.go (fun _ k => XS.aloadN X0.here hx rfl (hb hby d9_0) rfl rfl  k) ?_
  show Gl _ _ _ _ (s₁.setTop (mkF m 1 #[.val (.ref ar), .val (.int (0 : Int32)), .val (.ref xl), .val (.ref xq)] [(.ref ar)]))
  refine Gl.go (fun _ k => XS.iloadN X0.here hx rfl (hb hby d9_1) rfl  k) ?_
  show Gl _ _ _ _ (s₁.setTop (mkF m 2 #[.val (.ref ar), .val (.int (0 : Int32)), .val (.ref xl), .val (.ref xq)] [(.int (0 : Int32)), (.ref ar)]))
  refine Gl.go (fun _ k => XS.aloadN X0.here hx rfl (hb hby d9_2) rfl rfl  k) ?_
  show Gl _ _ _ _ (s₁.setTop (mkF m 3 #[.val (.ref ar), .val (.int (0 : Int32)), .val (.ref xl), .val (.ref xq)] [(.ref xl), (.int (0 : Int32)), (.ref ar)]))
  obtain ⟨cl1, Ar1, qA1, SA1, NA1, HA1, GA1⟩ := id Va
  obtain ⟨T1, h1, X1, e1, W1, st1⟩ := stR X0 hx hZ e0 Ar1 (j := (0 : Int32)) (inb_of SA1 ⟨by decide, by decide⟩) rfl (Sto.ofV Ar1 qA1 Ov (Ins.self Xl)) (g := (mkF m 3 #[.val (.ref ar), .val (.int (0 : Int32)), .val (.ref xl), .val (.ref xq)] [(.ref xl), (.int (0 : Int32)), (.ref ar)])) rfl rfl (hb hby d9_3)
  have E_xl_1 : Exa Z h1 xl "java/lang/String" := Xl.wr W1
  have E_xq_1 : Exa Z h1 xq "java/lang/String" := Xq.wr W1
  have SZ1 : n0 ≤ h1.size := by rw [Wr.size W1]; exact Z0
  have K1 : Keep h0 h1 [ar] := K0.wr W1 (Or.inl (List.mem_of_getElem? (i := 0) rfl))
  have N1 := Fr.snoc X1 N0 g_ar
  have V_ar_1 : Arv Z h1 ar kA (.object "java/lang/String") (12 : Int32) [(.ref xl), p1, p2, p3, p4, p5, p6, p7, p8, p9, p10, p11] .null := Arv.set Ar1 qA1 SA1 NA1 HA1 GA1 rfl W1 0 rfl (Nat.le_of_ble_eq_true rfl)
  refine Gl.go (fun _ k => st1 _ k) ?_
  show Gl _ _ _ _ (T1.setTop (mkF m 4 #[.val (.ref ar), .val (.int (0 : Int32)), .val (.ref xl), .val (.ref xq)] []))
  refine Gl.go (fun _ k => XS.aloadN X1.here hx rfl (hb hby d9_4) rfl rfl  k) ?_
  show Gl _ _ _ _ (T1.setTop (mkF m 5 #[.val (.ref ar), .val (.int (0 : Int32)), .val (.ref xl), .val (.ref xq)] [(.ref ar)]))
  refine Gl.go (fun _ k => XS.iloadN X1.here hx rfl (hb hby d9_5) rfl  k) ?_
  show Gl _ _ _ _ (T1.setTop (mkF m 6 #[.val (.ref ar), .val (.int (0 : Int32)), .val (.ref xl), .val (.ref xq)] [(.int (0 : Int32)), (.ref ar)]))
  refine Gl.go (fun _ k => XS.iconst X1.here hx rfl (hb hby d9_6) k) ?_
  show Gl _ _ _ _ (T1.setTop (mkF m 7 #[.val (.ref ar), .val (.int (0 : Int32)), .val (.ref xl), .val (.ref xq)] [(.int (1 : Int32)), (.int (0 : Int32)), (.ref ar)]))
  refine Gl.go (fun _ k => XS.iadd X1.here hx rfl (hb hby d9_7) rfl k) ?_
  show Gl _ _ _ _ (T1.setTop (mkF m 8 #[.val (.ref ar), .val (.int (0 : Int32)), .val (.ref xl), .val (.ref xq)] [(.int ((0 : Int32) + (1 : Int32))), (.ref ar)]))
  refine Gl.go (fun _ k => XS.aloadN X1.here hx rfl (hb hby d9_8) rfl rfl  k) ?_
  show Gl _ _ _ _ (T1.setTop (mkF m 9 #[.val (.ref ar), .val (.int (0 : Int32)), .val (.ref xl), .val (.ref xq)] [(.ref xl), (.int ((0 : Int32) + (1 : Int32))), (.ref ar)]))
  rw [(by decide : ((0 : Int32) + (1 : Int32)) = (1 : Int32))]
  show Gl _ _ _ _ (T1.setTop (mkF m 9 #[.val (.ref ar), .val (.int (0 : Int32)), .val (.ref xl), .val (.ref xq)] [(.ref xl), (.int (1 : Int32)), (.ref ar)]))
  obtain ⟨cl2, Ar2, qA2, SA2, NA2, HA2, GA2⟩ := id V_ar_1
  obtain ⟨T2, h2, X2, e2, W2, st2⟩ := stR X1 hx hZ e1 Ar2 (j := (1 : Int32)) (inb_of SA2 ⟨by decide, by decide⟩) rfl (Sto.ofV Ar2 qA2 Ov (Ins.self E_xl_1)) (g := (mkF m 9 #[.val (.ref ar), .val (.int (0 : Int32)), .val (.ref xl), .val (.ref xq)] [(.ref xl), (.int (1 : Int32)), (.ref ar)])) rfl rfl (hb hby d9_9)
  have E_xl_2 : Exa Z h2 xl "java/lang/String" := E_xl_1.wr W2
  have E_xq_2 : Exa Z h2 xq "java/lang/String" := E_xq_1.wr W2
  have SZ2 : n0 ≤ h2.size := by rw [Wr.size W2]; exact SZ1
  have K2 : Keep h0 h2 [ar] := K1.wr W2 (Or.inl (List.mem_of_getElem? (i := 0) rfl))
  have N2 := Fr.snoc X2 N1 g_ar
  have V_ar_2 : Arv Z h2 ar kA (.object "java/lang/String") (12 : Int32) [(.ref xl), (.ref xl), p2, p3, p4, p5, p6, p7, p8, p9, p10, p11] .null := Arv.set Ar2 qA2 SA2 NA2 HA2 GA2 rfl W2 1 rfl (Nat.le_of_ble_eq_true rfl)
  refine Gl.go (fun _ k => st2 _ k) ?_
  show Gl _ _ _ _ (T2.setTop (mkF m 10 #[.val (.ref ar), .val (.int (0 : Int32)), .val (.ref xl), .val (.ref xq)] []))
  refine Gl.go (fun _ k => XS.aloadN X2.here hx rfl (hb hby d9_10) rfl rfl  k) ?_
  show Gl _ _ _ _ (T2.setTop (mkF m 11 #[.val (.ref ar), .val (.int (0 : Int32)), .val (.ref xl), .val (.ref xq)] [(.ref ar)]))
  refine Gl.go (fun _ k => XS.iloadN X2.here hx rfl (hb hby d9_11) rfl  k) ?_
  show Gl _ _ _ _ (T2.setTop (mkF m 12 #[.val (.ref ar), .val (.int (0 : Int32)), .val (.ref xl), .val (.ref xq)] [(.int (0 : Int32)), (.ref ar)]))
  refine Gl.go (fun _ k => XS.iconst X2.here hx rfl (hb hby d9_12) k) ?_
  show Gl _ _ _ _ (T2.setTop (mkF m 13 #[.val (.ref ar), .val (.int (0 : Int32)), .val (.ref xl), .val (.ref xq)] [(.int (2 : Int32)), (.int (0 : Int32)), (.ref ar)]))
  refine Gl.go (fun _ k => XS.iadd X2.here hx rfl (hb hby d9_13) rfl k) ?_
  show Gl _ _ _ _ (T2.setTop (mkF m 14 #[.val (.ref ar), .val (.int (0 : Int32)), .val (.ref xl), .val (.ref xq)] [(.int ((0 : Int32) + (2 : Int32))), (.ref ar)]))
  refine Gl.go (fun _ k => XS.aloadN X2.here hx rfl (hb hby d9_14) rfl rfl  k) ?_
  show Gl _ _ _ _ (T2.setTop (mkF m 15 #[.val (.ref ar), .val (.int (0 : Int32)), .val (.ref xl), .val (.ref xq)] [(.ref xq), (.int ((0 : Int32) + (2 : Int32))), (.ref ar)]))
  rw [(by decide : ((0 : Int32) + (2 : Int32)) = (2 : Int32))]
  show Gl _ _ _ _ (T2.setTop (mkF m 15 #[.val (.ref ar), .val (.int (0 : Int32)), .val (.ref xl), .val (.ref xq)] [(.ref xq), (.int (2 : Int32)), (.ref ar)]))
  obtain ⟨cl3, Ar3, qA3, SA3, NA3, HA3, GA3⟩ := id V_ar_2
  obtain ⟨T3, h3, X3, e3, W3, st3⟩ := stR X2 hx hZ e2 Ar3 (j := (2 : Int32)) (inb_of SA3 ⟨by decide, by decide⟩) rfl (Sto.ofV Ar3 qA3 Ov (Ins.self E_xq_2)) (g := (mkF m 15 #[.val (.ref ar), .val (.int (0 : Int32)), .val (.ref xl), .val (.ref xq)] [(.ref xq), (.int (2 : Int32)), (.ref ar)])) rfl rfl (hb hby d9_15)
  have E_xl_3 : Exa Z h3 xl "java/lang/String" := E_xl_2.wr W3
  have E_xq_3 : Exa Z h3 xq "java/lang/String" := E_xq_2.wr W3
  have SZ3 : n0 ≤ h3.size := by rw [Wr.size W3]; exact SZ2
  have K3 : Keep h0 h3 [ar] := K2.wr W3 (Or.inl (List.mem_of_getElem? (i := 0) rfl))
  have N3 := Fr.snoc X3 N2 g_ar
  have V_ar_3 : Arv Z h3 ar kA (.object "java/lang/String") (12 : Int32) [(.ref xl), (.ref xl), (.ref xq), p3, p4, p5, p6, p7, p8, p9, p10, p11] .null := Arv.set Ar3 qA3 SA3 NA3 HA3 GA3 rfl W3 2 rfl (Nat.le_of_ble_eq_true rfl)
  refine Gl.go (fun _ k => st3 _ k) ?_
  show Gl _ _ _ _ (T3.setTop (mkF m 16 #[.val (.ref ar), .val (.int (0 : Int32)), .val (.ref xl), .val (.ref xq)] []))
  refine Gl.go (fun _ k => XS.aloadN X3.here hx rfl (hb hby d9_16) rfl rfl  k) ?_
  show Gl _ _ _ _ (T3.setTop (mkF m 17 #[.val (.ref ar), .val (.int (0 : Int32)), .val (.ref xl), .val (.ref xq)] [(.ref ar)]))
  refine Gl.go (fun _ k => XS.iloadN X3.here hx rfl (hb hby d9_17) rfl  k) ?_
  show Gl _ _ _ _ (T3.setTop (mkF m 18 #[.val (.ref ar), .val (.int (0 : Int32)), .val (.ref xl), .val (.ref xq)] [(.int (0 : Int32)), (.ref ar)]))
  refine Gl.go (fun _ k => XS.iconst X3.here hx rfl (hb hby d9_18) k) ?_
  show Gl _ _ _ _ (T3.setTop (mkF m 19 #[.val (.ref ar), .val (.int (0 : Int32)), .val (.ref xl), .val (.ref xq)] [(.int (3 : Int32)), (.int (0 : Int32)), (.ref ar)]))
  refine Gl.go (fun _ k => XS.iadd X3.here hx rfl (hb hby d9_19) rfl k) ?_
  show Gl _ _ _ _ (T3.setTop (mkF m 20 #[.val (.ref ar), .val (.int (0 : Int32)), .val (.ref xl), .val (.ref xq)] [(.int ((0 : Int32) + (3 : Int32))), (.ref ar)]))
  refine Gl.go (fun _ k => XS.aloadN X3.here hx rfl (hb hby d9_20) rfl rfl  k) ?_
  show Gl _ _ _ _ (T3.setTop (mkF m 21 #[.val (.ref ar), .val (.int (0 : Int32)), .val (.ref xl), .val (.ref xq)] [(.ref xl), (.int ((0 : Int32) + (3 : Int32))), (.ref ar)]))
  rw [(by decide : ((0 : Int32) + (3 : Int32)) = (3 : Int32))]
  show Gl _ _ _ _ (T3.setTop (mkF m 21 #[.val (.ref ar), .val (.int (0 : Int32)), .val (.ref xl), .val (.ref xq)] [(.ref xl), (.int (3 : Int32)), (.ref ar)]))
  obtain ⟨cl4, Ar4, qA4, SA4, NA4, HA4, GA4⟩ := id V_ar_3
  obtain ⟨T4, h4, X4, e4, W4, st4⟩ := stR X3 hx hZ e3 Ar4 (j := (3 : Int32)) (inb_of SA4 ⟨by decide, by decide⟩) rfl (Sto.ofV Ar4 qA4 Ov (Ins.self E_xl_3)) (g := (mkF m 21 #[.val (.ref ar), .val (.int (0 : Int32)), .val (.ref xl), .val (.ref xq)] [(.ref xl), (.int (3 : Int32)), (.ref ar)])) rfl rfl (hb hby d9_21)
  have E_xl_4 : Exa Z h4 xl "java/lang/String" := E_xl_3.wr W4
  have E_xq_4 : Exa Z h4 xq "java/lang/String" := E_xq_3.wr W4
  have SZ4 : n0 ≤ h4.size := by rw [Wr.size W4]; exact SZ3
  have K4 : Keep h0 h4 [ar] := K3.wr W4 (Or.inl (List.mem_of_getElem? (i := 0) rfl))
  have N4 := Fr.snoc X4 N3 g_ar
  have V_ar_4 : Arv Z h4 ar kA (.object "java/lang/String") (12 : Int32) [(.ref xl), (.ref xl), (.ref xq), (.ref xl), p4, p5, p6, p7, p8, p9, p10, p11] .null := Arv.set Ar4 qA4 SA4 NA4 HA4 GA4 rfl W4 3 rfl (Nat.le_of_ble_eq_true rfl)
  refine Gl.go (fun _ k => st4 _ k) ?_
  show Gl _ _ _ _ (T4.setTop (mkF m 22 #[.val (.ref ar), .val (.int (0 : Int32)), .val (.ref xl), .val (.ref xq)] []))
  refine leafV X4 hx hlk Bd.returns (hb hby d9_22) ?_ (by decide) (by decide)
  rw [e4]
  exact ⟨rfl, N4, K4, V_ar_4⟩
def Q_put_3_1 (Z : State) (ar xl xq : Addr) (kA : ClassId) (p0 p1 p2 p3 p4 p5 p6 p7 p8 p9 p10 p11 : Value) (h0 : Heap) (n0 : Nat) (v : Option Value) (h : Heap) (L : List Loc) : Prop := v = none ∧ Fr n0 L ∧ Keep h0 h [ar] ∧ (Arv Z h ar kA (.object "java/lang/String") (12 : Int32) [p0, p1, p2, p3, (.ref xl), (.ref xl), (.ref xq), (.ref xl), p8, p9, p10, p11] .null)
set_option maxRecDepth 65536 in
set_option maxHeartbeats 40000000 in
theorem rm_put_3_1 (l : Launch) (Z : State) (a0 : Array Value) (hw : ∀ d ∈ tables_1, d.before a0 Z = true) (ws : List Jvm.Cond) (ar xl xq : Addr) (kA : ClassId) (p0 p1 p2 p3 p4 p5 p6 p7 p8 p9 p10 p11 : Value) (h0 : Heap) (n0 : Nat) (Z0 : n0 ≤ h0.size) (Va : (Arv Z h0 ar kA (.object "java/lang/String") (12 : Int32) [p0, p1, p2, p3, p4, p5, p6, p7, p8, p9, p10, p11] .null)) (Ov : Ovr Z kA "java/lang/String") (Xl : (Exa Z h0 xl "java/lang/String")) (Xq : (Exa Z h0 xq "java/lang/String")) (g_ar : n0 ≤ ar) :
    MetFree l (⟨"org/semfolio/ElementHasAttributePinLaw", "put", "([Ljava/lang/String;ILjava/lang/String;Ljava/lang/String;)V"⟩ : MethodName) (head1 (Jvm.Cond.code (⟨"org/semfolio/ElementHasAttributePinLaw", "put", "([Ljava/lang/String;ILjava/lang/String;Ljava/lang/String;)V"⟩ : MethodName) method_3_code 4 none :: ws) ({ frames := 0, cells := 0, slots := 0, locals := 0 } : Room)) (fun aa U => aa = #[(.ref ar), (.int (4 : Int32)), (.ref xl), (.ref xq)] ∧ Z.Warmed39 U.vm ∧ U.heap = h0) (fun _ _ _ _ _ => True) (fun _ U o U' => ∃ v L, o = .returned v ∧ Q_put_3_1 Z ar xl xq kA p0 p1 p2 p3 p4 p5 p6 p7 p8 p9 p10 p11 h0 n0 v U'.heap L ∧ FrameEnd U o U' L ({ frames := 0, cells := 0, slots := 0, locals := 0 } : Room).cells ({ frames := 0, cells := 0, slots := 0, locals := 0 } : Room).slots) := by
  refine MetFree.of_bodySF (plainFor_of_name pn_4) hisR ?_
  intro p e s m args below meth c s₁ Bd hml0 hP hK
  obtain ⟨rfl, hZ, hh⟩ := hP
  have hx := Bd.exec
  have hby := Bd.bytes
  have hml : c.maxLocals = 4 := hml0
  have hown : s.vm.findClass "org/semfolio/ElementHasAttributePinLaw" = some m.cls := findClass_of_methodNamed Bd.named
  have hnm := (name_of_methodNamed Bd.named Bd.method).1
  have hlk : meth.locks = false := BodyLoose.notSynchronized Bd
  have X0 : Stand p l e ({ frames := 0, cells := 0, slots := 0, locals := 0 } : Room) s m #[(.ref ar), (.int (4 : Int32)), (.ref xl), (.ref xq)] below meth c s₁ [] 0 0 := Stand.of_body Bd
  have e0 : s₁.heap = h0 := by rw [← hh, Bd.state]; rfl
  have N0 := Fr.nil n0
  have K0 : Keep h0 h0 [ar] := Keep.refl _ _
  show Gl p.tables e below (QQof s (Q_put_3_1 Z ar xl xq kA p0 p1 p2 p3 p4 p5 p6 p7 p8 p9 p10 p11 h0 n0) 0 0) (s₁.setTop (entryFrame m #[(.ref ar), (.int (4 : Int32)), (.ref xl), (.ref xq)] 4))
  refine Gl.go (fun t k => castTop (ef_put_3_1 m ar (4 : Int32) xl xq) k) ?_
  show Gl _ _ _ _ (s₁.setTop (mkF m 0 #[.val (.ref ar), .val (.int (4 : Int32)), .val (.ref xl), .val (.ref xq)] []))
  refine Gl.go (fun _ k => XS.aloadN X0.here hx rfl (hb hby d9_0) rfl rfl  k) ?_
  show Gl _ _ _ _ (s₁.setTop (mkF m 1 #[.val (.ref ar), .val (.int (4 : Int32)), .val (.ref xl), .val (.ref xq)] [(.ref ar)]))
  refine Gl.go (fun _ k => XS.iloadN X0.here hx rfl (hb hby d9_1) rfl  k) ?_
  show Gl _ _ _ _ (s₁.setTop (mkF m 2 #[.val (.ref ar), .val (.int (4 : Int32)), .val (.ref xl), .val (.ref xq)] [(.int (4 : Int32)), (.ref ar)]))
  refine Gl.go (fun _ k => XS.aloadN X0.here hx rfl (hb hby d9_2) rfl rfl  k) ?_
  show Gl _ _ _ _ (s₁.setTop (mkF m 3 #[.val (.ref ar), .val (.int (4 : Int32)), .val (.ref xl), .val (.ref xq)] [(.ref xl), (.int (4 : Int32)), (.ref ar)]))
  obtain ⟨cl1, Ar1, qA1, SA1, NA1, HA1, GA1⟩ := id Va
  obtain ⟨T1, h1, X1, e1, W1, st1⟩ := stR X0 hx hZ e0 Ar1 (j := (4 : Int32)) (inb_of SA1 ⟨by decide, by decide⟩) rfl (Sto.ofV Ar1 qA1 Ov (Ins.self Xl)) (g := (mkF m 3 #[.val (.ref ar), .val (.int (4 : Int32)), .val (.ref xl), .val (.ref xq)] [(.ref xl), (.int (4 : Int32)), (.ref ar)])) rfl rfl (hb hby d9_3)
  have E_xl_1 : Exa Z h1 xl "java/lang/String" := Xl.wr W1
  have E_xq_1 : Exa Z h1 xq "java/lang/String" := Xq.wr W1
  have SZ1 : n0 ≤ h1.size := by rw [Wr.size W1]; exact Z0
  have K1 : Keep h0 h1 [ar] := K0.wr W1 (Or.inl (List.mem_of_getElem? (i := 0) rfl))
  have N1 := Fr.snoc X1 N0 g_ar
  have V_ar_1 : Arv Z h1 ar kA (.object "java/lang/String") (12 : Int32) [p0, p1, p2, p3, (.ref xl), p5, p6, p7, p8, p9, p10, p11] .null := Arv.set Ar1 qA1 SA1 NA1 HA1 GA1 rfl W1 4 rfl (Nat.le_of_ble_eq_true rfl)
  refine Gl.go (fun _ k => st1 _ k) ?_
  show Gl _ _ _ _ (T1.setTop (mkF m 4 #[.val (.ref ar), .val (.int (4 : Int32)), .val (.ref xl), .val (.ref xq)] []))
  refine Gl.go (fun _ k => XS.aloadN X1.here hx rfl (hb hby d9_4) rfl rfl  k) ?_
  show Gl _ _ _ _ (T1.setTop (mkF m 5 #[.val (.ref ar), .val (.int (4 : Int32)), .val (.ref xl), .val (.ref xq)] [(.ref ar)]))
  refine Gl.go (fun _ k => XS.iloadN X1.here hx rfl (hb hby d9_5) rfl  k) ?_
  show Gl _ _ _ _ (T1.setTop (mkF m 6 #[.val (.ref ar), .val (.int (4 : Int32)), .val (.ref xl), .val (.ref xq)] [(.int (4 : Int32)), (.ref ar)]))
  refine Gl.go (fun _ k => XS.iconst X1.here hx rfl (hb hby d9_6) k) ?_
  show Gl _ _ _ _ (T1.setTop (mkF m 7 #[.val (.ref ar), .val (.int (4 : Int32)), .val (.ref xl), .val (.ref xq)] [(.int (1 : Int32)), (.int (4 : Int32)), (.ref ar)]))
  refine Gl.go (fun _ k => XS.iadd X1.here hx rfl (hb hby d9_7) rfl k) ?_
  show Gl _ _ _ _ (T1.setTop (mkF m 8 #[.val (.ref ar), .val (.int (4 : Int32)), .val (.ref xl), .val (.ref xq)] [(.int ((4 : Int32) + (1 : Int32))), (.ref ar)]))
  refine Gl.go (fun _ k => XS.aloadN X1.here hx rfl (hb hby d9_8) rfl rfl  k) ?_
  show Gl _ _ _ _ (T1.setTop (mkF m 9 #[.val (.ref ar), .val (.int (4 : Int32)), .val (.ref xl), .val (.ref xq)] [(.ref xl), (.int ((4 : Int32) + (1 : Int32))), (.ref ar)]))
  rw [(by decide : ((4 : Int32) + (1 : Int32)) = (5 : Int32))]
  show Gl _ _ _ _ (T1.setTop (mkF m 9 #[.val (.ref ar), .val (.int (4 : Int32)), .val (.ref xl), .val (.ref xq)] [(.ref xl), (.int (5 : Int32)), (.ref ar)]))
  obtain ⟨cl2, Ar2, qA2, SA2, NA2, HA2, GA2⟩ := id V_ar_1
  obtain ⟨T2, h2, X2, e2, W2, st2⟩ := stR X1 hx hZ e1 Ar2 (j := (5 : Int32)) (inb_of SA2 ⟨by decide, by decide⟩) rfl (Sto.ofV Ar2 qA2 Ov (Ins.self E_xl_1)) (g := (mkF m 9 #[.val (.ref ar), .val (.int (4 : Int32)), .val (.ref xl), .val (.ref xq)] [(.ref xl), (.int (5 : Int32)), (.ref ar)])) rfl rfl (hb hby d9_9)
  have E_xl_2 : Exa Z h2 xl "java/lang/String" := E_xl_1.wr W2
  have E_xq_2 : Exa Z h2 xq "java/lang/String" := E_xq_1.wr W2
  have SZ2 : n0 ≤ h2.size := by rw [Wr.size W2]; exact SZ1
  have K2 : Keep h0 h2 [ar] := K1.wr W2 (Or.inl (List.mem_of_getElem? (i := 0) rfl))
  have N2 := Fr.snoc X2 N1 g_ar
  have V_ar_2 : Arv Z h2 ar kA (.object "java/lang/String") (12 : Int32) [p0, p1, p2, p3, (.ref xl), (.ref xl), p6, p7, p8, p9, p10, p11] .null := Arv.set Ar2 qA2 SA2 NA2 HA2 GA2 rfl W2 5 rfl (Nat.le_of_ble_eq_true rfl)
  refine Gl.go (fun _ k => st2 _ k) ?_
  show Gl _ _ _ _ (T2.setTop (mkF m 10 #[.val (.ref ar), .val (.int (4 : Int32)), .val (.ref xl), .val (.ref xq)] []))
  refine Gl.go (fun _ k => XS.aloadN X2.here hx rfl (hb hby d9_10) rfl rfl  k) ?_
  show Gl _ _ _ _ (T2.setTop (mkF m 11 #[.val (.ref ar), .val (.int (4 : Int32)), .val (.ref xl), .val (.ref xq)] [(.ref ar)]))
  refine Gl.go (fun _ k => XS.iloadN X2.here hx rfl (hb hby d9_11) rfl  k) ?_
  show Gl _ _ _ _ (T2.setTop (mkF m 12 #[.val (.ref ar), .val (.int (4 : Int32)), .val (.ref xl), .val (.ref xq)] [(.int (4 : Int32)), (.ref ar)]))
  refine Gl.go (fun _ k => XS.iconst X2.here hx rfl (hb hby d9_12) k) ?_
  show Gl _ _ _ _ (T2.setTop (mkF m 13 #[.val (.ref ar), .val (.int (4 : Int32)), .val (.ref xl), .val (.ref xq)] [(.int (2 : Int32)), (.int (4 : Int32)), (.ref ar)]))
  refine Gl.go (fun _ k => XS.iadd X2.here hx rfl (hb hby d9_13) rfl k) ?_
  show Gl _ _ _ _ (T2.setTop (mkF m 14 #[.val (.ref ar), .val (.int (4 : Int32)), .val (.ref xl), .val (.ref xq)] [(.int ((4 : Int32) + (2 : Int32))), (.ref ar)]))
  refine Gl.go (fun _ k => XS.aloadN X2.here hx rfl (hb hby d9_14) rfl rfl  k) ?_
  show Gl _ _ _ _ (T2.setTop (mkF m 15 #[.val (.ref ar), .val (.int (4 : Int32)), .val (.ref xl), .val (.ref xq)] [(.ref xq), (.int ((4 : Int32) + (2 : Int32))), (.ref ar)]))
  rw [(by decide : ((4 : Int32) + (2 : Int32)) = (6 : Int32))]
  show Gl _ _ _ _ (T2.setTop (mkF m 15 #[.val (.ref ar), .val (.int (4 : Int32)), .val (.ref xl), .val (.ref xq)] [(.ref xq), (.int (6 : Int32)), (.ref ar)]))
  obtain ⟨cl3, Ar3, qA3, SA3, NA3, HA3, GA3⟩ := id V_ar_2
  obtain ⟨T3, h3, X3, e3, W3, st3⟩ := stR X2 hx hZ e2 Ar3 (j := (6 : Int32)) (inb_of SA3 ⟨by decide, by decide⟩) rfl (Sto.ofV Ar3 qA3 Ov (Ins.self E_xq_2)) (g := (mkF m 15 #[.val (.ref ar), .val (.int (4 : Int32)), .val (.ref xl), .val (.ref xq)] [(.ref xq), (.int (6 : Int32)), (.ref ar)])) rfl rfl (hb hby d9_15)
  have E_xl_3 : Exa Z h3 xl "java/lang/String" := E_xl_2.wr W3
  have E_xq_3 : Exa Z h3 xq "java/lang/String" := E_xq_2.wr W3
  have SZ3 : n0 ≤ h3.size := by rw [Wr.size W3]; exact SZ2
  have K3 : Keep h0 h3 [ar] := K2.wr W3 (Or.inl (List.mem_of_getElem? (i := 0) rfl))
  have N3 := Fr.snoc X3 N2 g_ar
  have V_ar_3 : Arv Z h3 ar kA (.object "java/lang/String") (12 : Int32) [p0, p1, p2, p3, (.ref xl), (.ref xl), (.ref xq), p7, p8, p9, p10, p11] .null := Arv.set Ar3 qA3 SA3 NA3 HA3 GA3 rfl W3 6 rfl (Nat.le_of_ble_eq_true rfl)
  refine Gl.go (fun _ k => st3 _ k) ?_
  show Gl _ _ _ _ (T3.setTop (mkF m 16 #[.val (.ref ar), .val (.int (4 : Int32)), .val (.ref xl), .val (.ref xq)] []))
  refine Gl.go (fun _ k => XS.aloadN X3.here hx rfl (hb hby d9_16) rfl rfl  k) ?_
  show Gl _ _ _ _ (T3.setTop (mkF m 17 #[.val (.ref ar), .val (.int (4 : Int32)), .val (.ref xl), .val (.ref xq)] [(.ref ar)]))
  refine Gl.go (fun _ k => XS.iloadN X3.here hx rfl (hb hby d9_17) rfl  k) ?_
  show Gl _ _ _ _ (T3.setTop (mkF m 18 #[.val (.ref ar), .val (.int (4 : Int32)), .val (.ref xl), .val (.ref xq)] [(.int (4 : Int32)), (.ref ar)]))
  refine Gl.go (fun _ k => XS.iconst X3.here hx rfl (hb hby d9_18) k) ?_
  show Gl _ _ _ _ (T3.setTop (mkF m 19 #[.val (.ref ar), .val (.int (4 : Int32)), .val (.ref xl), .val (.ref xq)] [(.int (3 : Int32)), (.int (4 : Int32)), (.ref ar)]))
  refine Gl.go (fun _ k => XS.iadd X3.here hx rfl (hb hby d9_19) rfl k) ?_
  show Gl _ _ _ _ (T3.setTop (mkF m 20 #[.val (.ref ar), .val (.int (4 : Int32)), .val (.ref xl), .val (.ref xq)] [(.int ((4 : Int32) + (3 : Int32))), (.ref ar)]))
  refine Gl.go (fun _ k => XS.aloadN X3.here hx rfl (hb hby d9_20) rfl rfl  k) ?_
  show Gl _ _ _ _ (T3.setTop (mkF m 21 #[.val (.ref ar), .val (.int (4 : Int32)), .val (.ref xl), .val (.ref xq)] [(.ref xl), (.int ((4 : Int32) + (3 : Int32))), (.ref ar)]))
  rw [(by decide : ((4 : Int32) + (3 : Int32)) = (7 : Int32))]
  show Gl _ _ _ _ (T3.setTop (mkF m 21 #[.val (.ref ar), .val (.int (4 : Int32)), .val (.ref xl), .val (.ref xq)] [(.ref xl), (.int (7 : Int32)), (.ref ar)]))
  obtain ⟨cl4, Ar4, qA4, SA4, NA4, HA4, GA4⟩ := id V_ar_3
  obtain ⟨T4, h4, X4, e4, W4, st4⟩ := stR X3 hx hZ e3 Ar4 (j := (7 : Int32)) (inb_of SA4 ⟨by decide, by decide⟩) rfl (Sto.ofV Ar4 qA4 Ov (Ins.self E_xl_3)) (g := (mkF m 21 #[.val (.ref ar), .val (.int (4 : Int32)), .val (.ref xl), .val (.ref xq)] [(.ref xl), (.int (7 : Int32)), (.ref ar)])) rfl rfl (hb hby d9_21)
  have E_xl_4 : Exa Z h4 xl "java/lang/String" := E_xl_3.wr W4
  have E_xq_4 : Exa Z h4 xq "java/lang/String" := E_xq_3.wr W4
  have SZ4 : n0 ≤ h4.size := by rw [Wr.size W4]; exact SZ3
  have K4 : Keep h0 h4 [ar] := K3.wr W4 (Or.inl (List.mem_of_getElem? (i := 0) rfl))
  have N4 := Fr.snoc X4 N3 g_ar
  have V_ar_4 : Arv Z h4 ar kA (.object "java/lang/String") (12 : Int32) [p0, p1, p2, p3, (.ref xl), (.ref xl), (.ref xq), (.ref xl), p8, p9, p10, p11] .null := Arv.set Ar4 qA4 SA4 NA4 HA4 GA4 rfl W4 7 rfl (Nat.le_of_ble_eq_true rfl)
  refine Gl.go (fun _ k => st4 _ k) ?_
  show Gl _ _ _ _ (T4.setTop (mkF m 22 #[.val (.ref ar), .val (.int (4 : Int32)), .val (.ref xl), .val (.ref xq)] []))
  refine leafV X4 hx hlk Bd.returns (hb hby d9_22) ?_ (by decide) (by decide)
  rw [e4]
  exact ⟨rfl, N4, K4, V_ar_4⟩
def Q_put_3_2 (Z : State) (ar xl xq : Addr) (kA : ClassId) (p0 p1 p2 p3 p4 p5 p6 p7 p8 p9 p10 p11 : Value) (h0 : Heap) (n0 : Nat) (v : Option Value) (h : Heap) (L : List Loc) : Prop := v = none ∧ Fr n0 L ∧ Keep h0 h [ar] ∧ (Arv Z h ar kA (.object "java/lang/String") (12 : Int32) [p0, p1, p2, p3, p4, p5, p6, p7, (.ref xl), (.ref xl), (.ref xq), (.ref xl)] .null)
set_option maxRecDepth 65536 in
set_option maxHeartbeats 40000000 in
theorem rm_put_3_2 (l : Launch) (Z : State) (a0 : Array Value) (hw : ∀ d ∈ tables_1, d.before a0 Z = true) (ws : List Jvm.Cond) (ar xl xq : Addr) (kA : ClassId) (p0 p1 p2 p3 p4 p5 p6 p7 p8 p9 p10 p11 : Value) (h0 : Heap) (n0 : Nat) (Z0 : n0 ≤ h0.size) (Va : (Arv Z h0 ar kA (.object "java/lang/String") (12 : Int32) [p0, p1, p2, p3, p4, p5, p6, p7, p8, p9, p10, p11] .null)) (Ov : Ovr Z kA "java/lang/String") (Xl : (Exa Z h0 xl "java/lang/String")) (Xq : (Exa Z h0 xq "java/lang/String")) (g_ar : n0 ≤ ar) :
    MetFree l (⟨"org/semfolio/ElementHasAttributePinLaw", "put", "([Ljava/lang/String;ILjava/lang/String;Ljava/lang/String;)V"⟩ : MethodName) (head1 (Jvm.Cond.code (⟨"org/semfolio/ElementHasAttributePinLaw", "put", "([Ljava/lang/String;ILjava/lang/String;Ljava/lang/String;)V"⟩ : MethodName) method_3_code 4 none :: ws) ({ frames := 0, cells := 0, slots := 0, locals := 0 } : Room)) (fun aa U => aa = #[(.ref ar), (.int (8 : Int32)), (.ref xl), (.ref xq)] ∧ Z.Warmed39 U.vm ∧ U.heap = h0) (fun _ _ _ _ _ => True) (fun _ U o U' => ∃ v L, o = .returned v ∧ Q_put_3_2 Z ar xl xq kA p0 p1 p2 p3 p4 p5 p6 p7 p8 p9 p10 p11 h0 n0 v U'.heap L ∧ FrameEnd U o U' L ({ frames := 0, cells := 0, slots := 0, locals := 0 } : Room).cells ({ frames := 0, cells := 0, slots := 0, locals := 0 } : Room).slots) := by
  refine MetFree.of_bodySF (plainFor_of_name pn_4) hisR ?_
  intro p e s m args below meth c s₁ Bd hml0 hP hK
  obtain ⟨rfl, hZ, hh⟩ := hP
  have hx := Bd.exec
  have hby := Bd.bytes
  have hml : c.maxLocals = 4 := hml0
  have hown : s.vm.findClass "org/semfolio/ElementHasAttributePinLaw" = some m.cls := findClass_of_methodNamed Bd.named
  have hnm := (name_of_methodNamed Bd.named Bd.method).1
  have hlk : meth.locks = false := BodyLoose.notSynchronized Bd
  have X0 : Stand p l e ({ frames := 0, cells := 0, slots := 0, locals := 0 } : Room) s m #[(.ref ar), (.int (8 : Int32)), (.ref xl), (.ref xq)] below meth c s₁ [] 0 0 := Stand.of_body Bd
  have e0 : s₁.heap = h0 := by rw [← hh, Bd.state]; rfl
  have N0 := Fr.nil n0
  have K0 : Keep h0 h0 [ar] := Keep.refl _ _
  show Gl p.tables e below (QQof s (Q_put_3_2 Z ar xl xq kA p0 p1 p2 p3 p4 p5 p6 p7 p8 p9 p10 p11 h0 n0) 0 0) (s₁.setTop (entryFrame m #[(.ref ar), (.int (8 : Int32)), (.ref xl), (.ref xq)] 4))
  refine Gl.go (fun t k => castTop (ef_put_3_2 m ar (8 : Int32) xl xq) k) ?_
  show Gl _ _ _ _ (s₁.setTop (mkF m 0 #[.val (.ref ar), .val (.int (8 : Int32)), .val (.ref xl), .val (.ref xq)] []))
  refine Gl.go (fun _ k => XS.aloadN X0.here hx rfl (hb hby d9_0) rfl rfl  k) ?_
  show Gl _ _ _ _ (s₁.setTop (mkF m 1 #[.val (.ref ar), .val (.int (8 : Int32)), .val (.ref xl), .val (.ref xq)] [(.ref ar)]))
  refine Gl.go (fun _ k => XS.iloadN X0.here hx rfl (hb hby d9_1) rfl  k) ?_
  show Gl _ _ _ _ (s₁.setTop (mkF m 2 #[.val (.ref ar), .val (.int (8 : Int32)), .val (.ref xl), .val (.ref xq)] [(.int (8 : Int32)), (.ref ar)]))
  refine Gl.go (fun _ k => XS.aloadN X0.here hx rfl (hb hby d9_2) rfl rfl  k) ?_
  show Gl _ _ _ _ (s₁.setTop (mkF m 3 #[.val (.ref ar), .val (.int (8 : Int32)), .val (.ref xl), .val (.ref xq)] [(.ref xl), (.int (8 : Int32)), (.ref ar)]))
  obtain ⟨cl1, Ar1, qA1, SA1, NA1, HA1, GA1⟩ := id Va
  obtain ⟨T1, h1, X1, e1, W1, st1⟩ := stR X0 hx hZ e0 Ar1 (j := (8 : Int32)) (inb_of SA1 ⟨by decide, by decide⟩) rfl (Sto.ofV Ar1 qA1 Ov (Ins.self Xl)) (g := (mkF m 3 #[.val (.ref ar), .val (.int (8 : Int32)), .val (.ref xl), .val (.ref xq)] [(.ref xl), (.int (8 : Int32)), (.ref ar)])) rfl rfl (hb hby d9_3)
  have E_xl_1 : Exa Z h1 xl "java/lang/String" := Xl.wr W1
  have E_xq_1 : Exa Z h1 xq "java/lang/String" := Xq.wr W1
  have SZ1 : n0 ≤ h1.size := by rw [Wr.size W1]; exact Z0
  have K1 : Keep h0 h1 [ar] := K0.wr W1 (Or.inl (List.mem_of_getElem? (i := 0) rfl))
  have N1 := Fr.snoc X1 N0 g_ar
  have V_ar_1 : Arv Z h1 ar kA (.object "java/lang/String") (12 : Int32) [p0, p1, p2, p3, p4, p5, p6, p7, (.ref xl), p9, p10, p11] .null := Arv.set Ar1 qA1 SA1 NA1 HA1 GA1 rfl W1 8 rfl (Nat.le_of_ble_eq_true rfl)
  refine Gl.go (fun _ k => st1 _ k) ?_
  show Gl _ _ _ _ (T1.setTop (mkF m 4 #[.val (.ref ar), .val (.int (8 : Int32)), .val (.ref xl), .val (.ref xq)] []))
  refine Gl.go (fun _ k => XS.aloadN X1.here hx rfl (hb hby d9_4) rfl rfl  k) ?_
  show Gl _ _ _ _ (T1.setTop (mkF m 5 #[.val (.ref ar), .val (.int (8 : Int32)), .val (.ref xl), .val (.ref xq)] [(.ref ar)]))
  refine Gl.go (fun _ k => XS.iloadN X1.here hx rfl (hb hby d9_5) rfl  k) ?_
  show Gl _ _ _ _ (T1.setTop (mkF m 6 #[.val (.ref ar), .val (.int (8 : Int32)), .val (.ref xl), .val (.ref xq)] [(.int (8 : Int32)), (.ref ar)]))
  refine Gl.go (fun _ k => XS.iconst X1.here hx rfl (hb hby d9_6) k) ?_
  show Gl _ _ _ _ (T1.setTop (mkF m 7 #[.val (.ref ar), .val (.int (8 : Int32)), .val (.ref xl), .val (.ref xq)] [(.int (1 : Int32)), (.int (8 : Int32)), (.ref ar)]))
  refine Gl.go (fun _ k => XS.iadd X1.here hx rfl (hb hby d9_7) rfl k) ?_
  show Gl _ _ _ _ (T1.setTop (mkF m 8 #[.val (.ref ar), .val (.int (8 : Int32)), .val (.ref xl), .val (.ref xq)] [(.int ((8 : Int32) + (1 : Int32))), (.ref ar)]))
  refine Gl.go (fun _ k => XS.aloadN X1.here hx rfl (hb hby d9_8) rfl rfl  k) ?_
  show Gl _ _ _ _ (T1.setTop (mkF m 9 #[.val (.ref ar), .val (.int (8 : Int32)), .val (.ref xl), .val (.ref xq)] [(.ref xl), (.int ((8 : Int32) + (1 : Int32))), (.ref ar)]))
  rw [(by decide : ((8 : Int32) + (1 : Int32)) = (9 : Int32))]
  show Gl _ _ _ _ (T1.setTop (mkF m 9 #[.val (.ref ar), .val (.int (8 : Int32)), .val (.ref xl), .val (.ref xq)] [(.ref xl), (.int (9 : Int32)), (.ref ar)]))
  obtain ⟨cl2, Ar2, qA2, SA2, NA2, HA2, GA2⟩ := id V_ar_1
  obtain ⟨T2, h2, X2, e2, W2, st2⟩ := stR X1 hx hZ e1 Ar2 (j := (9 : Int32)) (inb_of SA2 ⟨by decide, by decide⟩) rfl (Sto.ofV Ar2 qA2 Ov (Ins.self E_xl_1)) (g := (mkF m 9 #[.val (.ref ar), .val (.int (8 : Int32)), .val (.ref xl), .val (.ref xq)] [(.ref xl), (.int (9 : Int32)), (.ref ar)])) rfl rfl (hb hby d9_9)
  have E_xl_2 : Exa Z h2 xl "java/lang/String" := E_xl_1.wr W2
  have E_xq_2 : Exa Z h2 xq "java/lang/String" := E_xq_1.wr W2
  have SZ2 : n0 ≤ h2.size := by rw [Wr.size W2]; exact SZ1
  have K2 : Keep h0 h2 [ar] := K1.wr W2 (Or.inl (List.mem_of_getElem? (i := 0) rfl))
  have N2 := Fr.snoc X2 N1 g_ar
  have V_ar_2 : Arv Z h2 ar kA (.object "java/lang/String") (12 : Int32) [p0, p1, p2, p3, p4, p5, p6, p7, (.ref xl), (.ref xl), p10, p11] .null := Arv.set Ar2 qA2 SA2 NA2 HA2 GA2 rfl W2 9 rfl (Nat.le_of_ble_eq_true rfl)
  refine Gl.go (fun _ k => st2 _ k) ?_
  show Gl _ _ _ _ (T2.setTop (mkF m 10 #[.val (.ref ar), .val (.int (8 : Int32)), .val (.ref xl), .val (.ref xq)] []))
  refine Gl.go (fun _ k => XS.aloadN X2.here hx rfl (hb hby d9_10) rfl rfl  k) ?_
  show Gl _ _ _ _ (T2.setTop (mkF m 11 #[.val (.ref ar), .val (.int (8 : Int32)), .val (.ref xl), .val (.ref xq)] [(.ref ar)]))
  refine Gl.go (fun _ k => XS.iloadN X2.here hx rfl (hb hby d9_11) rfl  k) ?_
  show Gl _ _ _ _ (T2.setTop (mkF m 12 #[.val (.ref ar), .val (.int (8 : Int32)), .val (.ref xl), .val (.ref xq)] [(.int (8 : Int32)), (.ref ar)]))
  refine Gl.go (fun _ k => XS.iconst X2.here hx rfl (hb hby d9_12) k) ?_
  show Gl _ _ _ _ (T2.setTop (mkF m 13 #[.val (.ref ar), .val (.int (8 : Int32)), .val (.ref xl), .val (.ref xq)] [(.int (2 : Int32)), (.int (8 : Int32)), (.ref ar)]))
  refine Gl.go (fun _ k => XS.iadd X2.here hx rfl (hb hby d9_13) rfl k) ?_
  show Gl _ _ _ _ (T2.setTop (mkF m 14 #[.val (.ref ar), .val (.int (8 : Int32)), .val (.ref xl), .val (.ref xq)] [(.int ((8 : Int32) + (2 : Int32))), (.ref ar)]))
  refine Gl.go (fun _ k => XS.aloadN X2.here hx rfl (hb hby d9_14) rfl rfl  k) ?_
  show Gl _ _ _ _ (T2.setTop (mkF m 15 #[.val (.ref ar), .val (.int (8 : Int32)), .val (.ref xl), .val (.ref xq)] [(.ref xq), (.int ((8 : Int32) + (2 : Int32))), (.ref ar)]))
  rw [(by decide : ((8 : Int32) + (2 : Int32)) = (10 : Int32))]
  show Gl _ _ _ _ (T2.setTop (mkF m 15 #[.val (.ref ar), .val (.int (8 : Int32)), .val (.ref xl), .val (.ref xq)] [(.ref xq), (.int (10 : Int32)), (.ref ar)]))
  obtain ⟨cl3, Ar3, qA3, SA3, NA3, HA3, GA3⟩ := id V_ar_2
  obtain ⟨T3, h3, X3, e3, W3, st3⟩ := stR X2 hx hZ e2 Ar3 (j := (10 : Int32)) (inb_of SA3 ⟨by decide, by decide⟩) rfl (Sto.ofV Ar3 qA3 Ov (Ins.self E_xq_2)) (g := (mkF m 15 #[.val (.ref ar), .val (.int (8 : Int32)), .val (.ref xl), .val (.ref xq)] [(.ref xq), (.int (10 : Int32)), (.ref ar)])) rfl rfl (hb hby d9_15)
  have E_xl_3 : Exa Z h3 xl "java/lang/String" := E_xl_2.wr W3
  have E_xq_3 : Exa Z h3 xq "java/lang/String" := E_xq_2.wr W3
  have SZ3 : n0 ≤ h3.size := by rw [Wr.size W3]; exact SZ2
  have K3 : Keep h0 h3 [ar] := K2.wr W3 (Or.inl (List.mem_of_getElem? (i := 0) rfl))
  have N3 := Fr.snoc X3 N2 g_ar
  have V_ar_3 : Arv Z h3 ar kA (.object "java/lang/String") (12 : Int32) [p0, p1, p2, p3, p4, p5, p6, p7, (.ref xl), (.ref xl), (.ref xq), p11] .null := Arv.set Ar3 qA3 SA3 NA3 HA3 GA3 rfl W3 10 rfl (Nat.le_of_ble_eq_true rfl)
  refine Gl.go (fun _ k => st3 _ k) ?_
  show Gl _ _ _ _ (T3.setTop (mkF m 16 #[.val (.ref ar), .val (.int (8 : Int32)), .val (.ref xl), .val (.ref xq)] []))
  refine Gl.go (fun _ k => XS.aloadN X3.here hx rfl (hb hby d9_16) rfl rfl  k) ?_
  show Gl _ _ _ _ (T3.setTop (mkF m 17 #[.val (.ref ar), .val (.int (8 : Int32)), .val (.ref xl), .val (.ref xq)] [(.ref ar)]))
  refine Gl.go (fun _ k => XS.iloadN X3.here hx rfl (hb hby d9_17) rfl  k) ?_
  show Gl _ _ _ _ (T3.setTop (mkF m 18 #[.val (.ref ar), .val (.int (8 : Int32)), .val (.ref xl), .val (.ref xq)] [(.int (8 : Int32)), (.ref ar)]))
  refine Gl.go (fun _ k => XS.iconst X3.here hx rfl (hb hby d9_18) k) ?_
  show Gl _ _ _ _ (T3.setTop (mkF m 19 #[.val (.ref ar), .val (.int (8 : Int32)), .val (.ref xl), .val (.ref xq)] [(.int (3 : Int32)), (.int (8 : Int32)), (.ref ar)]))
  refine Gl.go (fun _ k => XS.iadd X3.here hx rfl (hb hby d9_19) rfl k) ?_
  show Gl _ _ _ _ (T3.setTop (mkF m 20 #[.val (.ref ar), .val (.int (8 : Int32)), .val (.ref xl), .val (.ref xq)] [(.int ((8 : Int32) + (3 : Int32))), (.ref ar)]))
  refine Gl.go (fun _ k => XS.aloadN X3.here hx rfl (hb hby d9_20) rfl rfl  k) ?_
  show Gl _ _ _ _ (T3.setTop (mkF m 21 #[.val (.ref ar), .val (.int (8 : Int32)), .val (.ref xl), .val (.ref xq)] [(.ref xl), (.int ((8 : Int32) + (3 : Int32))), (.ref ar)]))
  rw [(by decide : ((8 : Int32) + (3 : Int32)) = (11 : Int32))]
  show Gl _ _ _ _ (T3.setTop (mkF m 21 #[.val (.ref ar), .val (.int (8 : Int32)), .val (.ref xl), .val (.ref xq)] [(.ref xl), (.int (11 : Int32)), (.ref ar)]))
  obtain ⟨cl4, Ar4, qA4, SA4, NA4, HA4, GA4⟩ := id V_ar_3
  obtain ⟨T4, h4, X4, e4, W4, st4⟩ := stR X3 hx hZ e3 Ar4 (j := (11 : Int32)) (inb_of SA4 ⟨by decide, by decide⟩) rfl (Sto.ofV Ar4 qA4 Ov (Ins.self E_xl_3)) (g := (mkF m 21 #[.val (.ref ar), .val (.int (8 : Int32)), .val (.ref xl), .val (.ref xq)] [(.ref xl), (.int (11 : Int32)), (.ref ar)])) rfl rfl (hb hby d9_21)
  have E_xl_4 : Exa Z h4 xl "java/lang/String" := E_xl_3.wr W4
  have E_xq_4 : Exa Z h4 xq "java/lang/String" := E_xq_3.wr W4
  have SZ4 : n0 ≤ h4.size := by rw [Wr.size W4]; exact SZ3
  have K4 : Keep h0 h4 [ar] := K3.wr W4 (Or.inl (List.mem_of_getElem? (i := 0) rfl))
  have N4 := Fr.snoc X4 N3 g_ar
  have V_ar_4 : Arv Z h4 ar kA (.object "java/lang/String") (12 : Int32) [p0, p1, p2, p3, p4, p5, p6, p7, (.ref xl), (.ref xl), (.ref xq), (.ref xl)] .null := Arv.set Ar4 qA4 SA4 NA4 HA4 GA4 rfl W4 11 rfl (Nat.le_of_ble_eq_true rfl)
  refine Gl.go (fun _ k => st4 _ k) ?_
  show Gl _ _ _ _ (T4.setTop (mkF m 22 #[.val (.ref ar), .val (.int (8 : Int32)), .val (.ref xl), .val (.ref xq)] []))
  refine leafV X4 hx hlk Bd.returns (hb hby d9_22) ?_ (by decide) (by decide)
  rw [e4]
  exact ⟨rfl, N4, K4, V_ar_4⟩
def Q_fd0 (Z : State) (a1 aq ar : Addr) (kA : ClassId) (qn : List Int32) (G1 : Int32) (h0 : Heap) (n0 : Nat) (v : Option Value) (h : Heap) (L : List Loc) : Prop := v = some (.int (-1 : Int32)) ∧ Fr n0 L ∧ h = h0
set_option maxRecDepth 65536 in
set_option maxHeartbeats 40000000 in
theorem rm_fd0 (l : Launch) (Z : State) (a0 : Array Value) (hw : ∀ d ∈ tables_1, d.before a0 Z = true) (ws : List Jvm.Cond) (a1 aq ar : Addr) (kA : ClassId) (qn : List Int32) (G1 : Int32) (h0 : Heap) (n0 : Nat) (Z0 : n0 ≤ h0.size) (E_a1 : (Exa Z h0 a1 "org/semfolio/Dom$Element")) (Fa : Fld Z h0 a1 "org/semfolio/Dom$Element" "attributes" "[Ljava/lang/String;" (.ref ar)) (Va : Arv Z h0 ar kA (.object "java/lang/String") (0 : Int32) [] .null) (Sq : StrAt Z h0 aq qn)  (SC : Sta Z h0 "java/lang/String" "COMPACT_STRINGS" "Z" (.int G1)) (P5 : ¬ (G1 = (0 : Int32))) :
    MetFree l (⟨"org/semfolio/Dom$Element", "find", "(Ljava/lang/String;)I"⟩ : MethodName) (head1 (Jvm.Cond.code (⟨"org/semfolio/Dom$Element", "find", "(Ljava/lang/String;)I"⟩ : MethodName) prog_16_method_7_code 3 (some .int) :: ws) ({ frames := 0, cells := 0, slots := 0, locals := 0 } : Room)) (fun aa U => aa = #[(.ref a1), (.ref aq)] ∧ Z.Warmed39 U.vm ∧ U.heap = h0) (fun _ _ _ _ _ => True) (fun _ U o U' => ∃ v L, o = .returned v ∧ Q_fd0 Z a1 aq ar kA qn  G1 h0 n0 v U'.heap L ∧ FrameEnd U o U' L ({ frames := 0, cells := 0, slots := 0, locals := 0 } : Room).cells ({ frames := 0, cells := 0, slots := 0, locals := 0 } : Room).slots) := by
  refine MetFree.of_bodySF (plainFor_of_name pn_3) hisR ?_
  intro p e s m args below meth c s₁ Bd hml0 hP hK
  obtain ⟨rfl, hZ, hh⟩ := hP
  have hx := Bd.exec
  have hby := Bd.bytes
  have hml : c.maxLocals = 3 := hml0
  have hown : s.vm.findClass "org/semfolio/Dom$Element" = some m.cls := findClass_of_methodNamed Bd.named
  have hnm := (name_of_methodNamed Bd.named Bd.method).1
  have hlk : meth.locks = false := BodyLoose.notSynchronized Bd
  have X0 : Stand p l e ({ frames := 0, cells := 0, slots := 0, locals := 0 } : Room) s m #[(.ref a1), (.ref aq)] below meth c s₁ [] 0 0 := Stand.of_body Bd
  have e0 : s₁.heap = h0 := by rw [← hh, Bd.state]; rfl
  have N0 := Fr.nil n0
  have K0 : Keep h0 h0 [] := Keep.refl _ _
  show Gl p.tables e below (QQof s (Q_fd0 Z a1 aq ar kA qn  G1 h0 n0) 0 0) (s₁.setTop (entryFrame m #[(.ref a1), (.ref aq)] 3))
  refine Gl.go (fun t k => castTop (ef_fd0 m a1 aq) k) ?_
  show Gl _ _ _ _ (s₁.setTop (mkF m 0 #[.val (.ref a1), .val (.ref aq), .unset] []))
  refine Gl.go (fun _ k => XS.iconst X0.here hx rfl (hb hby d8_0) k) ?_
  show Gl _ _ _ _ (s₁.setTop (mkF m 1 #[.val (.ref a1), .val (.ref aq), .unset] [(.int (0 : Int32))]))
  refine Gl.go (fun _ k => XS.istoreN X0.here hx rfl (hb hby d8_1) rfl (l' := #[.val (.ref a1), .val (.ref aq), .val (.int (0 : Int32))]) rfl k) ?_
  show Gl _ _ _ _ (s₁.setTop (mkF m 2 #[.val (.ref a1), .val (.ref aq), .val (.int (0 : Int32))] []))
  refine Gl.go (fun _ k => XS.iloadN X0.here hx rfl (hb hby d8_2) rfl  k) ?_
  show Gl _ _ _ _ (s₁.setTop (mkF m 3 #[.val (.ref a1), .val (.ref aq), .val (.int (0 : Int32))] [(.int (0 : Int32))]))
  refine Gl.go (fun _ k => XS.aloadN X0.here hx rfl (hb hby d8_3) rfl rfl  k) ?_
  show Gl _ _ _ _ (s₁.setTop (mkF m 4 #[.val (.ref a1), .val (.ref aq), .val (.int (0 : Int32))] [(.ref a1), (.int (0 : Int32))]))
  obtain ⟨T1, X1, e1, st1⟩ := getF X0 hx hZ hown (host := "") (Or.inl (hw _ (List.mem_of_getElem? (i := 44) rfl))) Via.refl e0 Fa (g := (mkF m 4 #[.val (.ref a1), .val (.ref aq), .val (.int (0 : Int32))] [(.ref a1), (.int (0 : Int32))])) rfl rfl (hb hby d8_4)
  refine Gl.go (fun _ k => st1 _ k) ?_
  show Gl _ _ _ _ (T1.setTop (mkF m 7 #[.val (.ref a1), .val (.ref aq), .val (.int (0 : Int32))] [(.ref ar), (.int (0 : Int32))]))
  obtain ⟨cl2, Ar2, qA2, SA2, NA2, HA2, GA2⟩ := id Va
  refine Gl.go (fun _ k => X1.arraylength hx (by rw [e1]; exact Ar2.1) (State.isArrayOf_alike hZ.alike Ar2.2.1) (g := (mkF m 7 #[.val (.ref a1), .val (.ref aq), .val (.int (0 : Int32))] [(.ref ar), (.int (0 : Int32))])) rfl rfl (hb hby d8_7) _ k) ?_
  rw [len_of SA2 NA2]
  show Gl _ _ _ _ (T1.setTop (mkF m 8 #[.val (.ref a1), .val (.ref aq), .val (.int (0 : Int32))] [(.int (0 : Int32)), (.int (0 : Int32))]))
  refine Gl.go (fun _ k => XS.icmpYes X1.here hx rfl (pc0 := 8) (pc' := 34) rfl (hb hby d8_8) rfl (flt (by decide)).2.1 (by decide) (by decide) k) ?_
  show Gl _ _ _ _ (T1.setTop (mkF m 34 #[.val (.ref a1), .val (.ref aq), .val (.int (0 : Int32))] []))
  refine Gl.go (fun _ k => XS.iconst X1.here hx rfl (hb hby d8_34) k) ?_
  show Gl _ _ _ _ (T1.setTop (mkF m 35 #[.val (.ref a1), .val (.ref aq), .val (.int (0 : Int32))] [(.int (-1 : Int32))]))
  refine leafI X1 hx hlk Bd.returns (hb hby d8_35) ?_ (by decide) (by decide)
  exact ⟨rfl, N0, e1⟩
def Q_ha0 (Z : State) (a1 aq ar : Addr) (kA : ClassId) (qn : List Int32) (G1 : Int32) (h0 : Heap) (n0 : Nat) (v : Option Value) (h : Heap) (L : List Loc) : Prop := v = some (.int (if (-1 : Int32) < (0 : Int32) then (0 : Int32) else (1 : Int32))) ∧ Fr n0 L ∧ h = h0
set_option maxRecDepth 65536 in
set_option maxHeartbeats 40000000 in
theorem rm_ha0 (l : Launch) (Z : State) (a0 : Array Value) (hw : ∀ d ∈ tables_1, d.before a0 Z = true) (ws : List Jvm.Cond) (a1 aq ar : Addr) (kA : ClassId) (qn : List Int32) (G1 : Int32) (h0 : Heap) (n0 : Nat) (Z0 : n0 ≤ h0.size) (E_a1 : (Exa Z h0 a1 "org/semfolio/Dom$Element")) (Fa : Fld Z h0 a1 "org/semfolio/Dom$Element" "attributes" "[Ljava/lang/String;" (.ref ar)) (Va : Arv Z h0 ar kA (.object "java/lang/String") (0 : Int32) [] .null) (Sq : StrAt Z h0 aq qn)  (SC : Sta Z h0 "java/lang/String" "COMPACT_STRINGS" "Z" (.int G1)) (P5 : ¬ (G1 = (0 : Int32))) :
    MetFree l (⟨"org/semfolio/Dom$Element", "hasAttribute", "(Ljava/lang/String;)Z"⟩ : MethodName) (head1 (Jvm.Cond.code (⟨"org/semfolio/Dom$Element", "hasAttribute", "(Ljava/lang/String;)Z"⟩ : MethodName) prog_16_method_6_code 2 (some .boolean) :: ws) ({ frames := 1, cells := 0, slots := 0, locals := 14 } : Room)) (fun aa U => aa = #[(.ref a1), (.ref aq)] ∧ Z.Warmed39 U.vm ∧ U.heap = h0) (fun _ _ _ _ _ => True) (fun _ U o U' => ∃ v L, o = .returned v ∧ Q_ha0 Z a1 aq ar kA qn  G1 h0 n0 v U'.heap L ∧ FrameEnd U o U' L ({ frames := 1, cells := 0, slots := 0, locals := 14 } : Room).cells ({ frames := 1, cells := 0, slots := 0, locals := 14 } : Room).slots) := by
  refine MetFree.of_bodySF (plainFor_of_name pn_3) hisR ?_
  intro p e s m args below meth c s₁ Bd hml0 hP hK
  obtain ⟨rfl, hZ, hh⟩ := hP
  have hx := Bd.exec
  have hby := Bd.bytes
  have hml : c.maxLocals = 2 := hml0
  have hown : s.vm.findClass "org/semfolio/Dom$Element" = some m.cls := findClass_of_methodNamed Bd.named
  have hnm := (name_of_methodNamed Bd.named Bd.method).1
  have hlk : meth.locks = false := BodyLoose.notSynchronized Bd
  have X0 : Stand p l e ({ frames := 1, cells := 0, slots := 0, locals := 14 } : Room) s m #[(.ref a1), (.ref aq)] below meth c s₁ [] 0 0 := Stand.of_body Bd
  have e0 : s₁.heap = h0 := by rw [← hh, Bd.state]; rfl
  have N0 := Fr.nil n0
  have K0 : Keep h0 h0 [] := Keep.refl _ _
  show Gl p.tables e below (QQof s (Q_ha0 Z a1 aq ar kA qn  G1 h0 n0) 0 0) (s₁.setTop (entryFrame m #[(.ref a1), (.ref aq)] 2))
  refine Gl.go (fun t k => castTop (ef_ha0 m a1 aq) k) ?_
  show Gl _ _ _ _ (s₁.setTop (mkF m 0 #[.val (.ref a1), .val (.ref aq)] []))
  refine Gl.go (fun _ k => XS.aloadN X0.here hx rfl (hb hby d7_0) rfl rfl  k) ?_
  show Gl _ _ _ _ (s₁.setTop (mkF m 1 #[.val (.ref a1), .val (.ref aq)] [(.ref a1)]))
  refine Gl.go (fun _ k => XS.aloadN X0.here hx rfl (hb hby d7_1) rfl rfl  k) ?_
  show Gl _ _ _ _ (s₁.setTop (mkF m 2 #[.val (.ref a1), .val (.ref aq)] [(.ref aq), (.ref a1)]))
  obtain ⟨cq1, q1a, q1b⟩ := Exa.cell E_a1
  obtain ⟨_, _, ⟨T1, L1, k1, n1⟩, -, X1, ⟨Lc1, hQ1, l1, y1, z1⟩, st1⟩ := X0.privateBack hx (y := (⟨"org/semfolio/Dom$Element", "find", "(Ljava/lang/String;)I"⟩ : MethodName)) hown (mvT hZ (hw _ (List.mem_of_getElem? (i := 51) rfl))) (mvT hZ (hw _ (List.mem_of_getElem? (i := 52) rfl))) (selPriv hZ (hw _ (List.mem_of_getElem? (i := 29) rfl)) (hw _ (List.mem_of_getElem? (i := 52) rfl)) (hw _ (List.mem_of_getElem? (i := 53) rfl)) (by decide)) (Cond.privateMethod_at (args := #[]) (mvP hZ (hw _ (List.mem_of_getElem? (i := 53) rfl)))) (mvT hZ (hw _ (List.mem_of_getElem? (i := 54) rfl))) (by decide) (backOf (W := 0) (rm_fd0 l Z a0 hw [] a1 aq ar kA qn  G1 h0 n0 Z0 E_a1 Fa Va Sq  SC P5) hZ (hw _ (List.mem_of_getElem? (i := 54) rfl)) (hw _ (List.mem_of_getElem? (i := 30) rfl)) (by decide) (by decide)) (g := (mkF m 2 #[.val (.ref a1), .val (.ref aq)] [(.ref aq), (.ref a1)])) rfl (by rw [hml]; rfl) (Steps.refl _) (by rw [e0]; exact q1a) q1b (argsL := [(.ref aq)]) (rest := []) (lenOf pd_8 rfl) rfl (by show 2 * 0 + _ ≤ _; exact Nat.le_of_eq rfl) (hb hby d7_2) (fun _ _ => ⟨rfl, e0, (by decide : 0 + 0 ≤ _), (by decide : 0 + 0 ≤ _)⟩)
  dsimp only [Pt.U, Pt.locs, Pt.cells, Pt.slots] at X1 l1 y1 z1 st1 hQ1
  subst y1 z1
  obtain ⟨rfl, Nq1, e1⟩ := hQ1
  have N1 : Fr n0 L1 := by rw [l1]; exact Fr.app N0 Nq1
  refine Gl.go (fun _ k => st1.trans k) ?_
  show Gl _ _ _ _ (T1.setTop (mkF m 5 #[.val (.ref a1), .val (.ref aq)] [(.int (-1 : Int32))]))
  by_cases hA : (-1 : Int32) < (0 : Int32)
  · skip
    refine Gl.go (fun _ k => XS.ifYes X1.here hx rfl (pc0 := 5) (pc' := 12) rfl (hb hby d7_5) rfl ((if0 _ _).trans (tlt hA).1) (by decide) (by decide) k) ?_
    show Gl _ _ _ _ (T1.setTop (mkF m 12 #[.val (.ref a1), .val (.ref aq)] []))
    refine Gl.go (fun _ k => XS.iconst X1.here hx rfl (hb hby d7_12) k) ?_
    show Gl _ _ _ _ (T1.setTop (mkF m 13 #[.val (.ref a1), .val (.ref aq)] [(.int (0 : Int32))]))
    refine leafN X1 hx hlk (t := .boolean) Bd.returns (by simp) (hb hby d7_13) ?_ (by decide) (by decide)
    exact ⟨by rw [nar0, if_pos hA], N1, e1⟩
  · skip
    refine Gl.go (fun _ k => XS.ifNo X1.here hx rfl (hb hby d7_5) rfl ((if0 _ _).trans (flt hA).1) k) ?_
    show Gl _ _ _ _ (T1.setTop (mkF m 8 #[.val (.ref a1), .val (.ref aq)] []))
    refine Gl.go (fun _ k => XS.iconst X1.here hx rfl (hb hby d7_8) k) ?_
    show Gl _ _ _ _ (T1.setTop (mkF m 9 #[.val (.ref a1), .val (.ref aq)] [(.int (1 : Int32))]))
    refine Gl.go (fun _ k => XS.goto X1.here hx rfl (pc0 := 9) (pc' := 13) rfl (hb hby d7_9) (by decide) (by decide) k) ?_
    show Gl _ _ _ _ (T1.setTop (mkF m 13 #[.val (.ref a1), .val (.ref aq)] [(.int (1 : Int32))]))
    refine leafN X1 hx hlk (t := .boolean) Bd.returns (by simp) (hb hby d7_13) ?_ (by decide) (by decide)
    exact ⟨by rw [nar1, if_neg hA], N1, e1⟩
def Q_fd1 (Z : State) (a1 aq ar : Addr) (kA : ClassId) (qn : List Int32) (x0 : Addr) (x1 : Addr) (x2 : Addr) (x3 : Addr) (bs0 : List Int32) (G1 : Int32) (h0 : Heap) (n0 : Nat) (v : Option Value) (h : Heap) (L : List Loc) : Prop := v = some (.int (if bs0 = qn then (0 : Int32) else (-1 : Int32))) ∧ Fr n0 L ∧ h = h0
set_option maxRecDepth 65536 in
set_option maxHeartbeats 40000000 in
theorem rm_fd1 (l : Launch) (Z : State) (a0 : Array Value) (hw : ∀ d ∈ tables_1, d.before a0 Z = true) (ws : List Jvm.Cond) (a1 aq ar : Addr) (kA : ClassId) (qn : List Int32) (x0 : Addr) (x1 : Addr) (x2 : Addr) (x3 : Addr) (bs0 : List Int32) (G1 : Int32) (h0 : Heap) (n0 : Nat) (Z0 : n0 ≤ h0.size) (E_a1 : (Exa Z h0 a1 "org/semfolio/Dom$Element")) (Fa : Fld Z h0 a1 "org/semfolio/Dom$Element" "attributes" "[Ljava/lang/String;" (.ref ar)) (Va : Arv Z h0 ar kA (.object "java/lang/String") (4 : Int32) [(.ref x0), (.ref x1), (.ref x2), (.ref x3)] .null) (Sq : StrAt Z h0 aq qn) (Sn0 : StrAt Z h0 x2 bs0) (SC : Sta Z h0 "java/lang/String" "COMPACT_STRINGS" "Z" (.int G1)) (P5 : ¬ (G1 = (0 : Int32))) :
    MetFree l (⟨"org/semfolio/Dom$Element", "find", "(Ljava/lang/String;)I"⟩ : MethodName) (head1 (Jvm.Cond.code (⟨"org/semfolio/Dom$Element", "find", "(Ljava/lang/String;)I"⟩ : MethodName) prog_16_method_7_code 3 (some .int) :: ws) ({ frames := 2, cells := 0, slots := 0, locals := 28 } : Room)) (fun aa U => aa = #[(.ref a1), (.ref aq)] ∧ Z.Warmed39 U.vm ∧ U.heap = h0) (fun _ _ _ _ _ => True) (fun _ U o U' => ∃ v L, o = .returned v ∧ Q_fd1 Z a1 aq ar kA qn x0 x1 x2 x3 bs0 G1 h0 n0 v U'.heap L ∧ FrameEnd U o U' L ({ frames := 2, cells := 0, slots := 0, locals := 28 } : Room).cells ({ frames := 2, cells := 0, slots := 0, locals := 28 } : Room).slots) := by
  refine MetFree.of_bodySF (plainFor_of_name pn_3) hisR ?_
  intro p e s m args below meth c s₁ Bd hml0 hP hK
  obtain ⟨rfl, hZ, hh⟩ := hP
  have hx := Bd.exec
  have hby := Bd.bytes
  have hml : c.maxLocals = 3 := hml0
  have hown : s.vm.findClass "org/semfolio/Dom$Element" = some m.cls := findClass_of_methodNamed Bd.named
  have hnm := (name_of_methodNamed Bd.named Bd.method).1
  have hlk : meth.locks = false := BodyLoose.notSynchronized Bd
  have X0 : Stand p l e ({ frames := 2, cells := 0, slots := 0, locals := 28 } : Room) s m #[(.ref a1), (.ref aq)] below meth c s₁ [] 0 0 := Stand.of_body Bd
  have e0 : s₁.heap = h0 := by rw [← hh, Bd.state]; rfl
  have N0 := Fr.nil n0
  have K0 : Keep h0 h0 [] := Keep.refl _ _
  show Gl p.tables e below (QQof s (Q_fd1 Z a1 aq ar kA qn x0 x1 x2 x3 bs0 G1 h0 n0) 0 0) (s₁.setTop (entryFrame m #[(.ref a1), (.ref aq)] 3))
  refine Gl.go (fun t k => castTop (ef_fd1 m a1 aq) k) ?_
  show Gl _ _ _ _ (s₁.setTop (mkF m 0 #[.val (.ref a1), .val (.ref aq), .unset] []))
  refine Gl.go (fun _ k => XS.iconst X0.here hx rfl (hb hby d8_0) k) ?_
  show Gl _ _ _ _ (s₁.setTop (mkF m 1 #[.val (.ref a1), .val (.ref aq), .unset] [(.int (0 : Int32))]))
  refine Gl.go (fun _ k => XS.istoreN X0.here hx rfl (hb hby d8_1) rfl (l' := #[.val (.ref a1), .val (.ref aq), .val (.int (0 : Int32))]) rfl k) ?_
  show Gl _ _ _ _ (s₁.setTop (mkF m 2 #[.val (.ref a1), .val (.ref aq), .val (.int (0 : Int32))] []))
  refine Gl.go (fun _ k => XS.iloadN X0.here hx rfl (hb hby d8_2) rfl  k) ?_
  show Gl _ _ _ _ (s₁.setTop (mkF m 3 #[.val (.ref a1), .val (.ref aq), .val (.int (0 : Int32))] [(.int (0 : Int32))]))
  refine Gl.go (fun _ k => XS.aloadN X0.here hx rfl (hb hby d8_3) rfl rfl  k) ?_
  show Gl _ _ _ _ (s₁.setTop (mkF m 4 #[.val (.ref a1), .val (.ref aq), .val (.int (0 : Int32))] [(.ref a1), (.int (0 : Int32))]))
  obtain ⟨T1, X1, e1, st1⟩ := getF X0 hx hZ hown (host := "") (Or.inl (hw _ (List.mem_of_getElem? (i := 44) rfl))) Via.refl e0 Fa (g := (mkF m 4 #[.val (.ref a1), .val (.ref aq), .val (.int (0 : Int32))] [(.ref a1), (.int (0 : Int32))])) rfl rfl (hb hby d8_4)
  refine Gl.go (fun _ k => st1 _ k) ?_
  show Gl _ _ _ _ (T1.setTop (mkF m 7 #[.val (.ref a1), .val (.ref aq), .val (.int (0 : Int32))] [(.ref ar), (.int (0 : Int32))]))
  obtain ⟨cl2, Ar2, qA2, SA2, NA2, HA2, GA2⟩ := id Va
  refine Gl.go (fun _ k => X1.arraylength hx (by rw [e1]; exact Ar2.1) (State.isArrayOf_alike hZ.alike Ar2.2.1) (g := (mkF m 7 #[.val (.ref a1), .val (.ref aq), .val (.int (0 : Int32))] [(.ref ar), (.int (0 : Int32))])) rfl rfl (hb hby d8_7) _ k) ?_
  rw [len_of SA2 NA2]
  show Gl _ _ _ _ (T1.setTop (mkF m 8 #[.val (.ref a1), .val (.ref aq), .val (.int (0 : Int32))] [(.int (4 : Int32)), (.int (0 : Int32))]))
  refine Gl.go (fun _ k => XS.icmpNo X1.here hx rfl (hb hby d8_8) rfl (tlt (by decide)).2.1 k) ?_
  show Gl _ _ _ _ (T1.setTop (mkF m 11 #[.val (.ref a1), .val (.ref aq), .val (.int (0 : Int32))] []))
  refine Gl.go (fun _ k => XS.aloadN X1.here hx rfl (hb hby d8_11) rfl rfl  k) ?_
  show Gl _ _ _ _ (T1.setTop (mkF m 12 #[.val (.ref a1), .val (.ref aq), .val (.int (0 : Int32))] [(.ref a1)]))
  obtain ⟨T3, X3, e3, st3⟩ := getF X1 hx hZ hown (host := "") (Or.inl (hw _ (List.mem_of_getElem? (i := 44) rfl))) Via.refl e1 Fa (g := (mkF m 12 #[.val (.ref a1), .val (.ref aq), .val (.int (0 : Int32))] [(.ref a1)])) rfl rfl (hb hby d8_12)
  refine Gl.go (fun _ k => st3 _ k) ?_
  show Gl _ _ _ _ (T3.setTop (mkF m 15 #[.val (.ref a1), .val (.ref aq), .val (.int (0 : Int32))] [(.ref ar)]))
  refine Gl.go (fun _ k => XS.iloadN X3.here hx rfl (hb hby d8_15) rfl  k) ?_
  show Gl _ _ _ _ (T3.setTop (mkF m 16 #[.val (.ref a1), .val (.ref aq), .val (.int (0 : Int32))] [(.int (0 : Int32)), (.ref ar)]))
  refine Gl.go (fun _ k => XS.iconst X3.here hx rfl (hb hby d8_16) k) ?_
  show Gl _ _ _ _ (T3.setTop (mkF m 17 #[.val (.ref a1), .val (.ref aq), .val (.int (0 : Int32))] [(.int (2 : Int32)), (.int (0 : Int32)), (.ref ar)]))
  refine Gl.go (fun _ k => XS.iadd X3.here hx rfl (hb hby d8_17) rfl k) ?_
  show Gl _ _ _ _ (T3.setTop (mkF m 18 #[.val (.ref a1), .val (.ref aq), .val (.int (0 : Int32))] [(.int ((0 : Int32) + (2 : Int32))), (.ref ar)]))
  rw [(by decide : ((0 : Int32) + (2 : Int32)) = (2 : Int32))]
  show Gl _ _ _ _ (T3.setTop (mkF m 18 #[.val (.ref a1), .val (.ref aq), .val (.int (0 : Int32))] [(.int (2 : Int32)), (.ref ar)]))
  obtain ⟨cl4, Ar4, qA4, SA4, NA4, HA4, GA4⟩ := id Va
  have hin4 := inb_of (j := (2 : Int32)) SA4 ⟨by decide, by decide⟩
  have hat4 : cl4.slots[((2 : Int32)).toNatClampNeg]? = some (.ref x2) := HA4.at hin4 rfl
  refine Gl.go (fun _ k => X3.aaload hx (j := (2 : Int32)) (v := (.ref x2)) (by rw [e3]; exact Ar4.1) (State.isArrayOf_alike hZ.alike Ar4.2.1) rfl Ar4.2.2 hin4 hat4 (g := (mkF m 18 #[.val (.ref a1), .val (.ref aq), .val (.int (0 : Int32))] [(.int (2 : Int32)), (.ref ar)])) rfl rfl (hb hby d8_18) _ k) ?_
  show Gl _ _ _ _ (T3.setTop (mkF m 19 #[.val (.ref a1), .val (.ref aq), .val (.int (0 : Int32))] [(.ref x2)]))
  refine Gl.go (fun _ k => XS.aloadN X3.here hx rfl (hb hby d8_19) rfl rfl  k) ?_
  show Gl _ _ _ _ (T3.setTop (mkF m 20 #[.val (.ref a1), .val (.ref aq), .val (.int (0 : Int32))] [(.ref aq), (.ref x2)]))
  obtain ⟨cq5, kq5, q5a, q5b, q5c⟩ := isOf hZ e3 Sn0.1
  obtain ⟨_, _, ⟨T5, L5, k5, n5⟩, -, X5, ⟨Lc5, hQ5, l5, y5, z5⟩, st5⟩ := X3.virtualBack hx (y := (⟨"java/lang/String", "equals", "(Ljava/lang/Object;)Z"⟩ : MethodName)) (z := (⟨"java/lang/String", "equals", "(Ljava/lang/Object;)Z"⟩ : MethodName)) hown (mvT hZ (hw _ (List.mem_of_getElem? (i := 69) rfl))) (mvT hZ (hw _ (List.mem_of_getElem? (i := 59) rfl))) (notFace_of_selects (args := #[]) (mvT hZ (hw _ (List.mem_of_getElem? (i := 61) rfl)))) (mvT hZ (hw _ (List.mem_of_getElem? (i := 61) rfl))) (mvT hZ (hw _ (List.mem_of_getElem? (i := 60) rfl))) (by decide) (backOf (W := 0) (rm_seq l Z a0 hw [] x2 aq bs0 qn G1 h0 n0 Z0 Sn0 Sq SC P5) hZ (hw _ (List.mem_of_getElem? (i := 62) rfl)) (hw _ (List.mem_of_getElem? (i := 7) rfl)) (by decide) (by decide)) q5a q5c (g := (mkF m 20 #[.val (.ref a1), .val (.ref aq), .val (.int (0 : Int32))] [(.ref aq), (.ref x2)])) rfl (by rw [hml]; rfl) (Steps.refl _) (argsL := [(.ref aq)]) (rest := []) (lenOf pd_9 rfl) rfl (by show 2 * 0 + _ ≤ _; exact Nat.le_of_eq rfl) (hb hby d8_20) (fun _ _ => ⟨rfl, e3, (by decide : 0 + 0 ≤ _), (by decide : 0 + 0 ≤ _)⟩)
  dsimp only [Pt.U, Pt.locs, Pt.cells, Pt.slots] at X5 l5 y5 z5 st5 hQ5
  subst y5 z5
  obtain ⟨rfl, Nq5, e5⟩ := hQ5
  have N5 : Fr n0 L5 := by rw [l5]; exact Fr.app N0 Nq5
  refine Gl.go (fun _ k => st5.trans k) ?_
  show Gl _ _ _ _ (T5.setTop (mkF m 23 #[.val (.ref a1), .val (.ref aq), .val (.int (0 : Int32))] [(.int (eqI bs0 qn))]))
  by_cases hn0 : bs0 = qn
  · skip
    rw [(eqI_yes hn0 : (eqI bs0 qn) = (1 : Int32))]
    show Gl _ _ _ _ (T5.setTop (mkF m 23 #[.val (.ref a1), .val (.ref aq), .val (.int (0 : Int32))] [(.int (1 : Int32))]))
    refine Gl.go (fun _ k => XS.ifNo X5.here hx rfl (hb hby d8_23) rfl ((if0 _ _).trans (feq (by decide)).1) k) ?_
    show Gl _ _ _ _ (T5.setTop (mkF m 26 #[.val (.ref a1), .val (.ref aq), .val (.int (0 : Int32))] []))
    refine Gl.go (fun _ k => XS.iloadN X5.here hx rfl (hb hby d8_26) rfl  k) ?_
    show Gl _ _ _ _ (T5.setTop (mkF m 27 #[.val (.ref a1), .val (.ref aq), .val (.int (0 : Int32))] [(.int (0 : Int32))]))
    refine leafI X5 hx hlk Bd.returns (hb hby d8_27) ?_ (by decide) (by decide)
    exact ⟨by rw [if_pos hn0], N5, e5⟩
  · skip
    rw [(eqI_no hn0 : (eqI bs0 qn) = (0 : Int32))]
    show Gl _ _ _ _ (T5.setTop (mkF m 23 #[.val (.ref a1), .val (.ref aq), .val (.int (0 : Int32))] [(.int (0 : Int32))]))
    refine Gl.go (fun _ k => XS.ifYes X5.here hx rfl (pc0 := 23) (pc' := 28) rfl (hb hby d8_23) rfl ((if0 _ _).trans (teq rfl).1) (by decide) (by decide) k) ?_
    show Gl _ _ _ _ (T5.setTop (mkF m 28 #[.val (.ref a1), .val (.ref aq), .val (.int (0 : Int32))] []))
    refine Gl.go (fun _ k => XS.iinc X5.here hx rfl (hb hby d8_28) rfl (l' := #[.val (.ref a1), .val (.ref aq), .val (.int ((0 : Int32) + (4 : Int32)))]) rfl k) ?_
    show Gl _ _ _ _ (T5.setTop (mkF m 31 #[.val (.ref a1), .val (.ref aq), .val (.int ((0 : Int32) + (4 : Int32)))] []))
    rw [(by decide : ((0 : Int32) + (4 : Int32)) = (4 : Int32))]
    show Gl _ _ _ _ (T5.setTop (mkF m 31 #[.val (.ref a1), .val (.ref aq), .val (.int (4 : Int32))] []))
    refine Gl.go (fun _ k => XS.goto X5.here hx rfl (pc0 := 31) (pc' := 2) rfl (hb hby d8_31) (by decide) (by decide) k) ?_
    show Gl _ _ _ _ (T5.setTop (mkF m 2 #[.val (.ref a1), .val (.ref aq), .val (.int (4 : Int32))] []))
    refine Gl.go (fun _ k => XS.iloadN X5.here hx rfl (hb hby d8_2) rfl  k) ?_
    show Gl _ _ _ _ (T5.setTop (mkF m 3 #[.val (.ref a1), .val (.ref aq), .val (.int (4 : Int32))] [(.int (4 : Int32))]))
    refine Gl.go (fun _ k => XS.aloadN X5.here hx rfl (hb hby d8_3) rfl rfl  k) ?_
    show Gl _ _ _ _ (T5.setTop (mkF m 4 #[.val (.ref a1), .val (.ref aq), .val (.int (4 : Int32))] [(.ref a1), (.int (4 : Int32))]))
    obtain ⟨T6, X6, e6, st6⟩ := getF X5 hx hZ hown (host := "") (Or.inl (hw _ (List.mem_of_getElem? (i := 44) rfl))) Via.refl e5 Fa (g := (mkF m 4 #[.val (.ref a1), .val (.ref aq), .val (.int (4 : Int32))] [(.ref a1), (.int (4 : Int32))])) rfl rfl (hb hby d8_4)
    refine Gl.go (fun _ k => st6 _ k) ?_
    show Gl _ _ _ _ (T6.setTop (mkF m 7 #[.val (.ref a1), .val (.ref aq), .val (.int (4 : Int32))] [(.ref ar), (.int (4 : Int32))]))
    obtain ⟨cl7, Ar7, qA7, SA7, NA7, HA7, GA7⟩ := id Va
    refine Gl.go (fun _ k => X6.arraylength hx (by rw [e6]; exact Ar7.1) (State.isArrayOf_alike hZ.alike Ar7.2.1) (g := (mkF m 7 #[.val (.ref a1), .val (.ref aq), .val (.int (4 : Int32))] [(.ref ar), (.int (4 : Int32))])) rfl rfl (hb hby d8_7) _ k) ?_
    rw [len_of SA7 NA7]
    show Gl _ _ _ _ (T6.setTop (mkF m 8 #[.val (.ref a1), .val (.ref aq), .val (.int (4 : Int32))] [(.int (4 : Int32)), (.int (4 : Int32))]))
    refine Gl.go (fun _ k => XS.icmpYes X6.here hx rfl (pc0 := 8) (pc' := 34) rfl (hb hby d8_8) rfl (flt (by decide)).2.1 (by decide) (by decide) k) ?_
    show Gl _ _ _ _ (T6.setTop (mkF m 34 #[.val (.ref a1), .val (.ref aq), .val (.int (4 : Int32))] []))
    refine Gl.go (fun _ k => XS.iconst X6.here hx rfl (hb hby d8_34) k) ?_
    show Gl _ _ _ _ (T6.setTop (mkF m 35 #[.val (.ref a1), .val (.ref aq), .val (.int (4 : Int32))] [(.int (-1 : Int32))]))
    refine leafI X6 hx hlk Bd.returns (hb hby d8_35) ?_ (by decide) (by decide)
    exact ⟨by rw [if_neg hn0], N5, e6⟩
def Q_ha1 (Z : State) (a1 aq ar : Addr) (kA : ClassId) (qn : List Int32) (x0 : Addr) (x1 : Addr) (x2 : Addr) (x3 : Addr) (bs0 : List Int32) (G1 : Int32) (h0 : Heap) (n0 : Nat) (v : Option Value) (h : Heap) (L : List Loc) : Prop := v = some (.int (if (if bs0 = qn then (0 : Int32) else (-1 : Int32)) < (0 : Int32) then (0 : Int32) else (1 : Int32))) ∧ Fr n0 L ∧ h = h0
set_option maxRecDepth 65536 in
set_option maxHeartbeats 40000000 in
theorem rm_ha1 (l : Launch) (Z : State) (a0 : Array Value) (hw : ∀ d ∈ tables_1, d.before a0 Z = true) (ws : List Jvm.Cond) (a1 aq ar : Addr) (kA : ClassId) (qn : List Int32) (x0 : Addr) (x1 : Addr) (x2 : Addr) (x3 : Addr) (bs0 : List Int32) (G1 : Int32) (h0 : Heap) (n0 : Nat) (Z0 : n0 ≤ h0.size) (E_a1 : (Exa Z h0 a1 "org/semfolio/Dom$Element")) (Fa : Fld Z h0 a1 "org/semfolio/Dom$Element" "attributes" "[Ljava/lang/String;" (.ref ar)) (Va : Arv Z h0 ar kA (.object "java/lang/String") (4 : Int32) [(.ref x0), (.ref x1), (.ref x2), (.ref x3)] .null) (Sq : StrAt Z h0 aq qn) (Sn0 : StrAt Z h0 x2 bs0) (SC : Sta Z h0 "java/lang/String" "COMPACT_STRINGS" "Z" (.int G1)) (P5 : ¬ (G1 = (0 : Int32))) :
    MetFree l (⟨"org/semfolio/Dom$Element", "hasAttribute", "(Ljava/lang/String;)Z"⟩ : MethodName) (head1 (Jvm.Cond.code (⟨"org/semfolio/Dom$Element", "hasAttribute", "(Ljava/lang/String;)Z"⟩ : MethodName) prog_16_method_6_code 2 (some .boolean) :: ws) ({ frames := 3, cells := 0, slots := 0, locals := 42 } : Room)) (fun aa U => aa = #[(.ref a1), (.ref aq)] ∧ Z.Warmed39 U.vm ∧ U.heap = h0) (fun _ _ _ _ _ => True) (fun _ U o U' => ∃ v L, o = .returned v ∧ Q_ha1 Z a1 aq ar kA qn x0 x1 x2 x3 bs0 G1 h0 n0 v U'.heap L ∧ FrameEnd U o U' L ({ frames := 3, cells := 0, slots := 0, locals := 42 } : Room).cells ({ frames := 3, cells := 0, slots := 0, locals := 42 } : Room).slots) := by
  refine MetFree.of_bodySF (plainFor_of_name pn_3) hisR ?_
  intro p e s m args below meth c s₁ Bd hml0 hP hK
  obtain ⟨rfl, hZ, hh⟩ := hP
  have hx := Bd.exec
  have hby := Bd.bytes
  have hml : c.maxLocals = 2 := hml0
  have hown : s.vm.findClass "org/semfolio/Dom$Element" = some m.cls := findClass_of_methodNamed Bd.named
  have hnm := (name_of_methodNamed Bd.named Bd.method).1
  have hlk : meth.locks = false := BodyLoose.notSynchronized Bd
  have X0 : Stand p l e ({ frames := 3, cells := 0, slots := 0, locals := 42 } : Room) s m #[(.ref a1), (.ref aq)] below meth c s₁ [] 0 0 := Stand.of_body Bd
  have e0 : s₁.heap = h0 := by rw [← hh, Bd.state]; rfl
  have N0 := Fr.nil n0
  have K0 : Keep h0 h0 [] := Keep.refl _ _
  show Gl p.tables e below (QQof s (Q_ha1 Z a1 aq ar kA qn x0 x1 x2 x3 bs0 G1 h0 n0) 0 0) (s₁.setTop (entryFrame m #[(.ref a1), (.ref aq)] 2))
  refine Gl.go (fun t k => castTop (ef_ha1 m a1 aq) k) ?_
  show Gl _ _ _ _ (s₁.setTop (mkF m 0 #[.val (.ref a1), .val (.ref aq)] []))
  refine Gl.go (fun _ k => XS.aloadN X0.here hx rfl (hb hby d7_0) rfl rfl  k) ?_
  show Gl _ _ _ _ (s₁.setTop (mkF m 1 #[.val (.ref a1), .val (.ref aq)] [(.ref a1)]))
  refine Gl.go (fun _ k => XS.aloadN X0.here hx rfl (hb hby d7_1) rfl rfl  k) ?_
  show Gl _ _ _ _ (s₁.setTop (mkF m 2 #[.val (.ref a1), .val (.ref aq)] [(.ref aq), (.ref a1)]))
  obtain ⟨cq1, q1a, q1b⟩ := Exa.cell E_a1
  obtain ⟨_, _, ⟨T1, L1, k1, n1⟩, -, X1, ⟨Lc1, hQ1, l1, y1, z1⟩, st1⟩ := X0.privateBack hx (y := (⟨"org/semfolio/Dom$Element", "find", "(Ljava/lang/String;)I"⟩ : MethodName)) hown (mvT hZ (hw _ (List.mem_of_getElem? (i := 51) rfl))) (mvT hZ (hw _ (List.mem_of_getElem? (i := 52) rfl))) (selPriv hZ (hw _ (List.mem_of_getElem? (i := 29) rfl)) (hw _ (List.mem_of_getElem? (i := 52) rfl)) (hw _ (List.mem_of_getElem? (i := 53) rfl)) (by decide)) (Cond.privateMethod_at (args := #[]) (mvP hZ (hw _ (List.mem_of_getElem? (i := 53) rfl)))) (mvT hZ (hw _ (List.mem_of_getElem? (i := 54) rfl))) (by decide) (backOf (W := 0) (rm_fd1 l Z a0 hw [] a1 aq ar kA qn x0 x1 x2 x3 bs0 G1 h0 n0 Z0 E_a1 Fa Va Sq Sn0 SC P5) hZ (hw _ (List.mem_of_getElem? (i := 54) rfl)) (hw _ (List.mem_of_getElem? (i := 30) rfl)) (by decide) (by decide)) (g := (mkF m 2 #[.val (.ref a1), .val (.ref aq)] [(.ref aq), (.ref a1)])) rfl (by rw [hml]; rfl) (Steps.refl _) (by rw [e0]; exact q1a) q1b (argsL := [(.ref aq)]) (rest := []) (lenOf pd_8 rfl) rfl (by show 2 * 0 + _ ≤ _; exact Nat.le_of_eq rfl) (hb hby d7_2) (fun _ _ => ⟨rfl, e0, (by decide : 0 + 0 ≤ _), (by decide : 0 + 0 ≤ _)⟩)
  dsimp only [Pt.U, Pt.locs, Pt.cells, Pt.slots] at X1 l1 y1 z1 st1 hQ1
  subst y1 z1
  obtain ⟨rfl, Nq1, e1⟩ := hQ1
  have N1 : Fr n0 L1 := by rw [l1]; exact Fr.app N0 Nq1
  refine Gl.go (fun _ k => st1.trans k) ?_
  show Gl _ _ _ _ (T1.setTop (mkF m 5 #[.val (.ref a1), .val (.ref aq)] [(.int (if bs0 = qn then (0 : Int32) else (-1 : Int32)))]))
  by_cases hA : (if bs0 = qn then (0 : Int32) else (-1 : Int32)) < (0 : Int32)
  · skip
    refine Gl.go (fun _ k => XS.ifYes X1.here hx rfl (pc0 := 5) (pc' := 12) rfl (hb hby d7_5) rfl ((if0 _ _).trans (tlt hA).1) (by decide) (by decide) k) ?_
    show Gl _ _ _ _ (T1.setTop (mkF m 12 #[.val (.ref a1), .val (.ref aq)] []))
    refine Gl.go (fun _ k => XS.iconst X1.here hx rfl (hb hby d7_12) k) ?_
    show Gl _ _ _ _ (T1.setTop (mkF m 13 #[.val (.ref a1), .val (.ref aq)] [(.int (0 : Int32))]))
    refine leafN X1 hx hlk (t := .boolean) Bd.returns (by simp) (hb hby d7_13) ?_ (by decide) (by decide)
    exact ⟨by rw [nar0, if_pos hA], N1, e1⟩
  · skip
    refine Gl.go (fun _ k => XS.ifNo X1.here hx rfl (hb hby d7_5) rfl ((if0 _ _).trans (flt hA).1) k) ?_
    show Gl _ _ _ _ (T1.setTop (mkF m 8 #[.val (.ref a1), .val (.ref aq)] []))
    refine Gl.go (fun _ k => XS.iconst X1.here hx rfl (hb hby d7_8) k) ?_
    show Gl _ _ _ _ (T1.setTop (mkF m 9 #[.val (.ref a1), .val (.ref aq)] [(.int (1 : Int32))]))
    refine Gl.go (fun _ k => XS.goto X1.here hx rfl (pc0 := 9) (pc' := 13) rfl (hb hby d7_9) (by decide) (by decide) k) ?_
    show Gl _ _ _ _ (T1.setTop (mkF m 13 #[.val (.ref a1), .val (.ref aq)] [(.int (1 : Int32))]))
    refine leafN X1 hx hlk (t := .boolean) Bd.returns (by simp) (hb hby d7_13) ?_ (by decide) (by decide)
    exact ⟨by rw [nar1, if_neg hA], N1, e1⟩
def Q_fd2 (Z : State) (a1 aq ar : Addr) (kA : ClassId) (qn : List Int32) (x0 : Addr) (x1 : Addr) (x2 : Addr) (x3 : Addr) (x4 : Addr) (x5 : Addr) (x6 : Addr) (x7 : Addr) (bs0 : List Int32) (bs1 : List Int32) (G1 : Int32) (h0 : Heap) (n0 : Nat) (v : Option Value) (h : Heap) (L : List Loc) : Prop := v = some (.int (if bs0 = qn then (0 : Int32) else (if bs1 = qn then (4 : Int32) else (-1 : Int32)))) ∧ Fr n0 L ∧ h = h0
set_option maxRecDepth 65536 in
set_option maxHeartbeats 40000000 in
theorem rm_fd2 (l : Launch) (Z : State) (a0 : Array Value) (hw : ∀ d ∈ tables_1, d.before a0 Z = true) (ws : List Jvm.Cond) (a1 aq ar : Addr) (kA : ClassId) (qn : List Int32) (x0 : Addr) (x1 : Addr) (x2 : Addr) (x3 : Addr) (x4 : Addr) (x5 : Addr) (x6 : Addr) (x7 : Addr) (bs0 : List Int32) (bs1 : List Int32) (G1 : Int32) (h0 : Heap) (n0 : Nat) (Z0 : n0 ≤ h0.size) (E_a1 : (Exa Z h0 a1 "org/semfolio/Dom$Element")) (Fa : Fld Z h0 a1 "org/semfolio/Dom$Element" "attributes" "[Ljava/lang/String;" (.ref ar)) (Va : Arv Z h0 ar kA (.object "java/lang/String") (8 : Int32) [(.ref x0), (.ref x1), (.ref x2), (.ref x3), (.ref x4), (.ref x5), (.ref x6), (.ref x7)] .null) (Sq : StrAt Z h0 aq qn) (Sn0 : StrAt Z h0 x2 bs0) (Sn1 : StrAt Z h0 x6 bs1) (SC : Sta Z h0 "java/lang/String" "COMPACT_STRINGS" "Z" (.int G1)) (P5 : ¬ (G1 = (0 : Int32))) :
    MetFree l (⟨"org/semfolio/Dom$Element", "find", "(Ljava/lang/String;)I"⟩ : MethodName) (head1 (Jvm.Cond.code (⟨"org/semfolio/Dom$Element", "find", "(Ljava/lang/String;)I"⟩ : MethodName) prog_16_method_7_code 3 (some .int) :: ws) ({ frames := 2, cells := 0, slots := 0, locals := 28 } : Room)) (fun aa U => aa = #[(.ref a1), (.ref aq)] ∧ Z.Warmed39 U.vm ∧ U.heap = h0) (fun _ _ _ _ _ => True) (fun _ U o U' => ∃ v L, o = .returned v ∧ Q_fd2 Z a1 aq ar kA qn x0 x1 x2 x3 x4 x5 x6 x7 bs0 bs1 G1 h0 n0 v U'.heap L ∧ FrameEnd U o U' L ({ frames := 2, cells := 0, slots := 0, locals := 28 } : Room).cells ({ frames := 2, cells := 0, slots := 0, locals := 28 } : Room).slots) := by
  refine MetFree.of_bodySF (plainFor_of_name pn_3) hisR ?_
  intro p e s m args below meth c s₁ Bd hml0 hP hK
  obtain ⟨rfl, hZ, hh⟩ := hP
  have hx := Bd.exec
  have hby := Bd.bytes
  have hml : c.maxLocals = 3 := hml0
  have hown : s.vm.findClass "org/semfolio/Dom$Element" = some m.cls := findClass_of_methodNamed Bd.named
  have hnm := (name_of_methodNamed Bd.named Bd.method).1
  have hlk : meth.locks = false := BodyLoose.notSynchronized Bd
  have X0 : Stand p l e ({ frames := 2, cells := 0, slots := 0, locals := 28 } : Room) s m #[(.ref a1), (.ref aq)] below meth c s₁ [] 0 0 := Stand.of_body Bd
  have e0 : s₁.heap = h0 := by rw [← hh, Bd.state]; rfl
  have N0 := Fr.nil n0
  have K0 : Keep h0 h0 [] := Keep.refl _ _
  show Gl p.tables e below (QQof s (Q_fd2 Z a1 aq ar kA qn x0 x1 x2 x3 x4 x5 x6 x7 bs0 bs1 G1 h0 n0) 0 0) (s₁.setTop (entryFrame m #[(.ref a1), (.ref aq)] 3))
  refine Gl.go (fun t k => castTop (ef_fd2 m a1 aq) k) ?_
  show Gl _ _ _ _ (s₁.setTop (mkF m 0 #[.val (.ref a1), .val (.ref aq), .unset] []))
  refine Gl.go (fun _ k => XS.iconst X0.here hx rfl (hb hby d8_0) k) ?_
  show Gl _ _ _ _ (s₁.setTop (mkF m 1 #[.val (.ref a1), .val (.ref aq), .unset] [(.int (0 : Int32))]))
  refine Gl.go (fun _ k => XS.istoreN X0.here hx rfl (hb hby d8_1) rfl (l' := #[.val (.ref a1), .val (.ref aq), .val (.int (0 : Int32))]) rfl k) ?_
  show Gl _ _ _ _ (s₁.setTop (mkF m 2 #[.val (.ref a1), .val (.ref aq), .val (.int (0 : Int32))] []))
  refine Gl.go (fun _ k => XS.iloadN X0.here hx rfl (hb hby d8_2) rfl  k) ?_
  show Gl _ _ _ _ (s₁.setTop (mkF m 3 #[.val (.ref a1), .val (.ref aq), .val (.int (0 : Int32))] [(.int (0 : Int32))]))
  refine Gl.go (fun _ k => XS.aloadN X0.here hx rfl (hb hby d8_3) rfl rfl  k) ?_
  show Gl _ _ _ _ (s₁.setTop (mkF m 4 #[.val (.ref a1), .val (.ref aq), .val (.int (0 : Int32))] [(.ref a1), (.int (0 : Int32))]))
  obtain ⟨T1, X1, e1, st1⟩ := getF X0 hx hZ hown (host := "") (Or.inl (hw _ (List.mem_of_getElem? (i := 44) rfl))) Via.refl e0 Fa (g := (mkF m 4 #[.val (.ref a1), .val (.ref aq), .val (.int (0 : Int32))] [(.ref a1), (.int (0 : Int32))])) rfl rfl (hb hby d8_4)
  refine Gl.go (fun _ k => st1 _ k) ?_
  show Gl _ _ _ _ (T1.setTop (mkF m 7 #[.val (.ref a1), .val (.ref aq), .val (.int (0 : Int32))] [(.ref ar), (.int (0 : Int32))]))
  obtain ⟨cl2, Ar2, qA2, SA2, NA2, HA2, GA2⟩ := id Va
  refine Gl.go (fun _ k => X1.arraylength hx (by rw [e1]; exact Ar2.1) (State.isArrayOf_alike hZ.alike Ar2.2.1) (g := (mkF m 7 #[.val (.ref a1), .val (.ref aq), .val (.int (0 : Int32))] [(.ref ar), (.int (0 : Int32))])) rfl rfl (hb hby d8_7) _ k) ?_
  rw [len_of SA2 NA2]
  show Gl _ _ _ _ (T1.setTop (mkF m 8 #[.val (.ref a1), .val (.ref aq), .val (.int (0 : Int32))] [(.int (8 : Int32)), (.int (0 : Int32))]))
  refine Gl.go (fun _ k => XS.icmpNo X1.here hx rfl (hb hby d8_8) rfl (tlt (by decide)).2.1 k) ?_
  show Gl _ _ _ _ (T1.setTop (mkF m 11 #[.val (.ref a1), .val (.ref aq), .val (.int (0 : Int32))] []))
  refine Gl.go (fun _ k => XS.aloadN X1.here hx rfl (hb hby d8_11) rfl rfl  k) ?_
  show Gl _ _ _ _ (T1.setTop (mkF m 12 #[.val (.ref a1), .val (.ref aq), .val (.int (0 : Int32))] [(.ref a1)]))
  obtain ⟨T3, X3, e3, st3⟩ := getF X1 hx hZ hown (host := "") (Or.inl (hw _ (List.mem_of_getElem? (i := 44) rfl))) Via.refl e1 Fa (g := (mkF m 12 #[.val (.ref a1), .val (.ref aq), .val (.int (0 : Int32))] [(.ref a1)])) rfl rfl (hb hby d8_12)
  refine Gl.go (fun _ k => st3 _ k) ?_
  show Gl _ _ _ _ (T3.setTop (mkF m 15 #[.val (.ref a1), .val (.ref aq), .val (.int (0 : Int32))] [(.ref ar)]))
  refine Gl.go (fun _ k => XS.iloadN X3.here hx rfl (hb hby d8_15) rfl  k) ?_
  show Gl _ _ _ _ (T3.setTop (mkF m 16 #[.val (.ref a1), .val (.ref aq), .val (.int (0 : Int32))] [(.int (0 : Int32)), (.ref ar)]))
  refine Gl.go (fun _ k => XS.iconst X3.here hx rfl (hb hby d8_16) k) ?_
  show Gl _ _ _ _ (T3.setTop (mkF m 17 #[.val (.ref a1), .val (.ref aq), .val (.int (0 : Int32))] [(.int (2 : Int32)), (.int (0 : Int32)), (.ref ar)]))
  refine Gl.go (fun _ k => XS.iadd X3.here hx rfl (hb hby d8_17) rfl k) ?_
  show Gl _ _ _ _ (T3.setTop (mkF m 18 #[.val (.ref a1), .val (.ref aq), .val (.int (0 : Int32))] [(.int ((0 : Int32) + (2 : Int32))), (.ref ar)]))
  rw [(by decide : ((0 : Int32) + (2 : Int32)) = (2 : Int32))]
  show Gl _ _ _ _ (T3.setTop (mkF m 18 #[.val (.ref a1), .val (.ref aq), .val (.int (0 : Int32))] [(.int (2 : Int32)), (.ref ar)]))
  obtain ⟨cl4, Ar4, qA4, SA4, NA4, HA4, GA4⟩ := id Va
  have hin4 := inb_of (j := (2 : Int32)) SA4 ⟨by decide, by decide⟩
  have hat4 : cl4.slots[((2 : Int32)).toNatClampNeg]? = some (.ref x2) := HA4.at hin4 rfl
  refine Gl.go (fun _ k => X3.aaload hx (j := (2 : Int32)) (v := (.ref x2)) (by rw [e3]; exact Ar4.1) (State.isArrayOf_alike hZ.alike Ar4.2.1) rfl Ar4.2.2 hin4 hat4 (g := (mkF m 18 #[.val (.ref a1), .val (.ref aq), .val (.int (0 : Int32))] [(.int (2 : Int32)), (.ref ar)])) rfl rfl (hb hby d8_18) _ k) ?_
  show Gl _ _ _ _ (T3.setTop (mkF m 19 #[.val (.ref a1), .val (.ref aq), .val (.int (0 : Int32))] [(.ref x2)]))
  refine Gl.go (fun _ k => XS.aloadN X3.here hx rfl (hb hby d8_19) rfl rfl  k) ?_
  show Gl _ _ _ _ (T3.setTop (mkF m 20 #[.val (.ref a1), .val (.ref aq), .val (.int (0 : Int32))] [(.ref aq), (.ref x2)]))
  obtain ⟨cq5, kq5, q5a, q5b, q5c⟩ := isOf hZ e3 Sn0.1
  obtain ⟨_, _, ⟨T5, L5, k5, n5⟩, -, X5, ⟨Lc5, hQ5, l5, y5, z5⟩, st5⟩ := X3.virtualBack hx (y := (⟨"java/lang/String", "equals", "(Ljava/lang/Object;)Z"⟩ : MethodName)) (z := (⟨"java/lang/String", "equals", "(Ljava/lang/Object;)Z"⟩ : MethodName)) hown (mvT hZ (hw _ (List.mem_of_getElem? (i := 69) rfl))) (mvT hZ (hw _ (List.mem_of_getElem? (i := 59) rfl))) (notFace_of_selects (args := #[]) (mvT hZ (hw _ (List.mem_of_getElem? (i := 61) rfl)))) (mvT hZ (hw _ (List.mem_of_getElem? (i := 61) rfl))) (mvT hZ (hw _ (List.mem_of_getElem? (i := 60) rfl))) (by decide) (backOf (W := 0) (rm_seq l Z a0 hw [] x2 aq bs0 qn G1 h0 n0 Z0 Sn0 Sq SC P5) hZ (hw _ (List.mem_of_getElem? (i := 62) rfl)) (hw _ (List.mem_of_getElem? (i := 7) rfl)) (by decide) (by decide)) q5a q5c (g := (mkF m 20 #[.val (.ref a1), .val (.ref aq), .val (.int (0 : Int32))] [(.ref aq), (.ref x2)])) rfl (by rw [hml]; rfl) (Steps.refl _) (argsL := [(.ref aq)]) (rest := []) (lenOf pd_9 rfl) rfl (by show 2 * 0 + _ ≤ _; exact Nat.le_of_eq rfl) (hb hby d8_20) (fun _ _ => ⟨rfl, e3, (by decide : 0 + 0 ≤ _), (by decide : 0 + 0 ≤ _)⟩)
  dsimp only [Pt.U, Pt.locs, Pt.cells, Pt.slots] at X5 l5 y5 z5 st5 hQ5
  subst y5 z5
  obtain ⟨rfl, Nq5, e5⟩ := hQ5
  have N5 : Fr n0 L5 := by rw [l5]; exact Fr.app N0 Nq5
  refine Gl.go (fun _ k => st5.trans k) ?_
  show Gl _ _ _ _ (T5.setTop (mkF m 23 #[.val (.ref a1), .val (.ref aq), .val (.int (0 : Int32))] [(.int (eqI bs0 qn))]))
  by_cases hn0 : bs0 = qn
  · skip
    rw [(eqI_yes hn0 : (eqI bs0 qn) = (1 : Int32))]
    show Gl _ _ _ _ (T5.setTop (mkF m 23 #[.val (.ref a1), .val (.ref aq), .val (.int (0 : Int32))] [(.int (1 : Int32))]))
    refine Gl.go (fun _ k => XS.ifNo X5.here hx rfl (hb hby d8_23) rfl ((if0 _ _).trans (feq (by decide)).1) k) ?_
    show Gl _ _ _ _ (T5.setTop (mkF m 26 #[.val (.ref a1), .val (.ref aq), .val (.int (0 : Int32))] []))
    refine Gl.go (fun _ k => XS.iloadN X5.here hx rfl (hb hby d8_26) rfl  k) ?_
    show Gl _ _ _ _ (T5.setTop (mkF m 27 #[.val (.ref a1), .val (.ref aq), .val (.int (0 : Int32))] [(.int (0 : Int32))]))
    refine leafI X5 hx hlk Bd.returns (hb hby d8_27) ?_ (by decide) (by decide)
    exact ⟨by rw [if_pos hn0], N5, e5⟩
  · skip
    rw [(eqI_no hn0 : (eqI bs0 qn) = (0 : Int32))]
    show Gl _ _ _ _ (T5.setTop (mkF m 23 #[.val (.ref a1), .val (.ref aq), .val (.int (0 : Int32))] [(.int (0 : Int32))]))
    refine Gl.go (fun _ k => XS.ifYes X5.here hx rfl (pc0 := 23) (pc' := 28) rfl (hb hby d8_23) rfl ((if0 _ _).trans (teq rfl).1) (by decide) (by decide) k) ?_
    show Gl _ _ _ _ (T5.setTop (mkF m 28 #[.val (.ref a1), .val (.ref aq), .val (.int (0 : Int32))] []))
    refine Gl.go (fun _ k => XS.iinc X5.here hx rfl (hb hby d8_28) rfl (l' := #[.val (.ref a1), .val (.ref aq), .val (.int ((0 : Int32) + (4 : Int32)))]) rfl k) ?_
    show Gl _ _ _ _ (T5.setTop (mkF m 31 #[.val (.ref a1), .val (.ref aq), .val (.int ((0 : Int32) + (4 : Int32)))] []))
    rw [(by decide : ((0 : Int32) + (4 : Int32)) = (4 : Int32))]
    show Gl _ _ _ _ (T5.setTop (mkF m 31 #[.val (.ref a1), .val (.ref aq), .val (.int (4 : Int32))] []))
    refine Gl.go (fun _ k => XS.goto X5.here hx rfl (pc0 := 31) (pc' := 2) rfl (hb hby d8_31) (by decide) (by decide) k) ?_
    show Gl _ _ _ _ (T5.setTop (mkF m 2 #[.val (.ref a1), .val (.ref aq), .val (.int (4 : Int32))] []))
    refine Gl.go (fun _ k => XS.iloadN X5.here hx rfl (hb hby d8_2) rfl  k) ?_
    show Gl _ _ _ _ (T5.setTop (mkF m 3 #[.val (.ref a1), .val (.ref aq), .val (.int (4 : Int32))] [(.int (4 : Int32))]))
    refine Gl.go (fun _ k => XS.aloadN X5.here hx rfl (hb hby d8_3) rfl rfl  k) ?_
    show Gl _ _ _ _ (T5.setTop (mkF m 4 #[.val (.ref a1), .val (.ref aq), .val (.int (4 : Int32))] [(.ref a1), (.int (4 : Int32))]))
    obtain ⟨T6, X6, e6, st6⟩ := getF X5 hx hZ hown (host := "") (Or.inl (hw _ (List.mem_of_getElem? (i := 44) rfl))) Via.refl e5 Fa (g := (mkF m 4 #[.val (.ref a1), .val (.ref aq), .val (.int (4 : Int32))] [(.ref a1), (.int (4 : Int32))])) rfl rfl (hb hby d8_4)
    refine Gl.go (fun _ k => st6 _ k) ?_
    show Gl _ _ _ _ (T6.setTop (mkF m 7 #[.val (.ref a1), .val (.ref aq), .val (.int (4 : Int32))] [(.ref ar), (.int (4 : Int32))]))
    obtain ⟨cl7, Ar7, qA7, SA7, NA7, HA7, GA7⟩ := id Va
    refine Gl.go (fun _ k => X6.arraylength hx (by rw [e6]; exact Ar7.1) (State.isArrayOf_alike hZ.alike Ar7.2.1) (g := (mkF m 7 #[.val (.ref a1), .val (.ref aq), .val (.int (4 : Int32))] [(.ref ar), (.int (4 : Int32))])) rfl rfl (hb hby d8_7) _ k) ?_
    rw [len_of SA7 NA7]
    show Gl _ _ _ _ (T6.setTop (mkF m 8 #[.val (.ref a1), .val (.ref aq), .val (.int (4 : Int32))] [(.int (8 : Int32)), (.int (4 : Int32))]))
    refine Gl.go (fun _ k => XS.icmpNo X6.here hx rfl (hb hby d8_8) rfl (tlt (by decide)).2.1 k) ?_
    show Gl _ _ _ _ (T6.setTop (mkF m 11 #[.val (.ref a1), .val (.ref aq), .val (.int (4 : Int32))] []))
    refine Gl.go (fun _ k => XS.aloadN X6.here hx rfl (hb hby d8_11) rfl rfl  k) ?_
    show Gl _ _ _ _ (T6.setTop (mkF m 12 #[.val (.ref a1), .val (.ref aq), .val (.int (4 : Int32))] [(.ref a1)]))
    obtain ⟨T8, X8, e8, st8⟩ := getF X6 hx hZ hown (host := "") (Or.inl (hw _ (List.mem_of_getElem? (i := 44) rfl))) Via.refl e6 Fa (g := (mkF m 12 #[.val (.ref a1), .val (.ref aq), .val (.int (4 : Int32))] [(.ref a1)])) rfl rfl (hb hby d8_12)
    refine Gl.go (fun _ k => st8 _ k) ?_
    show Gl _ _ _ _ (T8.setTop (mkF m 15 #[.val (.ref a1), .val (.ref aq), .val (.int (4 : Int32))] [(.ref ar)]))
    refine Gl.go (fun _ k => XS.iloadN X8.here hx rfl (hb hby d8_15) rfl  k) ?_
    show Gl _ _ _ _ (T8.setTop (mkF m 16 #[.val (.ref a1), .val (.ref aq), .val (.int (4 : Int32))] [(.int (4 : Int32)), (.ref ar)]))
    refine Gl.go (fun _ k => XS.iconst X8.here hx rfl (hb hby d8_16) k) ?_
    show Gl _ _ _ _ (T8.setTop (mkF m 17 #[.val (.ref a1), .val (.ref aq), .val (.int (4 : Int32))] [(.int (2 : Int32)), (.int (4 : Int32)), (.ref ar)]))
    refine Gl.go (fun _ k => XS.iadd X8.here hx rfl (hb hby d8_17) rfl k) ?_
    show Gl _ _ _ _ (T8.setTop (mkF m 18 #[.val (.ref a1), .val (.ref aq), .val (.int (4 : Int32))] [(.int ((4 : Int32) + (2 : Int32))), (.ref ar)]))
    rw [(by decide : ((4 : Int32) + (2 : Int32)) = (6 : Int32))]
    show Gl _ _ _ _ (T8.setTop (mkF m 18 #[.val (.ref a1), .val (.ref aq), .val (.int (4 : Int32))] [(.int (6 : Int32)), (.ref ar)]))
    obtain ⟨cl9, Ar9, qA9, SA9, NA9, HA9, GA9⟩ := id Va
    have hin9 := inb_of (j := (6 : Int32)) SA9 ⟨by decide, by decide⟩
    have hat9 : cl9.slots[((6 : Int32)).toNatClampNeg]? = some (.ref x6) := HA9.at hin9 rfl
    refine Gl.go (fun _ k => X8.aaload hx (j := (6 : Int32)) (v := (.ref x6)) (by rw [e8]; exact Ar9.1) (State.isArrayOf_alike hZ.alike Ar9.2.1) rfl Ar9.2.2 hin9 hat9 (g := (mkF m 18 #[.val (.ref a1), .val (.ref aq), .val (.int (4 : Int32))] [(.int (6 : Int32)), (.ref ar)])) rfl rfl (hb hby d8_18) _ k) ?_
    show Gl _ _ _ _ (T8.setTop (mkF m 19 #[.val (.ref a1), .val (.ref aq), .val (.int (4 : Int32))] [(.ref x6)]))
    refine Gl.go (fun _ k => XS.aloadN X8.here hx rfl (hb hby d8_19) rfl rfl  k) ?_
    show Gl _ _ _ _ (T8.setTop (mkF m 20 #[.val (.ref a1), .val (.ref aq), .val (.int (4 : Int32))] [(.ref aq), (.ref x6)]))
    obtain ⟨cq10, kq10, q10a, q10b, q10c⟩ := isOf hZ e8 Sn1.1
    obtain ⟨_, _, ⟨T10, L10, k10, n10⟩, -, X10, ⟨Lc10, hQ10, l10, y10, z10⟩, st10⟩ := X8.virtualBack hx (y := (⟨"java/lang/String", "equals", "(Ljava/lang/Object;)Z"⟩ : MethodName)) (z := (⟨"java/lang/String", "equals", "(Ljava/lang/Object;)Z"⟩ : MethodName)) hown (mvT hZ (hw _ (List.mem_of_getElem? (i := 69) rfl))) (mvT hZ (hw _ (List.mem_of_getElem? (i := 59) rfl))) (notFace_of_selects (args := #[]) (mvT hZ (hw _ (List.mem_of_getElem? (i := 61) rfl)))) (mvT hZ (hw _ (List.mem_of_getElem? (i := 61) rfl))) (mvT hZ (hw _ (List.mem_of_getElem? (i := 60) rfl))) (by decide) (backOf (W := 0) (rm_seq l Z a0 hw [] x6 aq bs1 qn G1 h0 n0 Z0 Sn1 Sq SC P5) hZ (hw _ (List.mem_of_getElem? (i := 62) rfl)) (hw _ (List.mem_of_getElem? (i := 7) rfl)) (by decide) (by decide)) q10a q10c (g := (mkF m 20 #[.val (.ref a1), .val (.ref aq), .val (.int (4 : Int32))] [(.ref aq), (.ref x6)])) rfl (by rw [hml]; rfl) (Steps.refl _) (argsL := [(.ref aq)]) (rest := []) (lenOf pd_9 rfl) rfl (by show 2 * 0 + _ ≤ _; exact Nat.le_of_eq rfl) (hb hby d8_20) (fun _ _ => ⟨rfl, e8, (by decide : 0 + 0 ≤ _), (by decide : 0 + 0 ≤ _)⟩)
    dsimp only [Pt.U, Pt.locs, Pt.cells, Pt.slots] at X10 l10 y10 z10 st10 hQ10
    subst y10 z10
    obtain ⟨rfl, Nq10, e10⟩ := hQ10
    have N10 : Fr n0 L10 := by rw [l10]; exact Fr.app N5 Nq10
    refine Gl.go (fun _ k => st10.trans k) ?_
    show Gl _ _ _ _ (T10.setTop (mkF m 23 #[.val (.ref a1), .val (.ref aq), .val (.int (4 : Int32))] [(.int (eqI bs1 qn))]))
    by_cases hn1 : bs1 = qn
    · skip
      rw [(eqI_yes hn1 : (eqI bs1 qn) = (1 : Int32))]
      show Gl _ _ _ _ (T10.setTop (mkF m 23 #[.val (.ref a1), .val (.ref aq), .val (.int (4 : Int32))] [(.int (1 : Int32))]))
      refine Gl.go (fun _ k => XS.ifNo X10.here hx rfl (hb hby d8_23) rfl ((if0 _ _).trans (feq (by decide)).1) k) ?_
      show Gl _ _ _ _ (T10.setTop (mkF m 26 #[.val (.ref a1), .val (.ref aq), .val (.int (4 : Int32))] []))
      refine Gl.go (fun _ k => XS.iloadN X10.here hx rfl (hb hby d8_26) rfl  k) ?_
      show Gl _ _ _ _ (T10.setTop (mkF m 27 #[.val (.ref a1), .val (.ref aq), .val (.int (4 : Int32))] [(.int (4 : Int32))]))
      refine leafI X10 hx hlk Bd.returns (hb hby d8_27) ?_ (by decide) (by decide)
      exact ⟨by rw [if_neg hn0, if_pos hn1], N10, e10⟩
    · skip
      rw [(eqI_no hn1 : (eqI bs1 qn) = (0 : Int32))]
      show Gl _ _ _ _ (T10.setTop (mkF m 23 #[.val (.ref a1), .val (.ref aq), .val (.int (4 : Int32))] [(.int (0 : Int32))]))
      refine Gl.go (fun _ k => XS.ifYes X10.here hx rfl (pc0 := 23) (pc' := 28) rfl (hb hby d8_23) rfl ((if0 _ _).trans (teq rfl).1) (by decide) (by decide) k) ?_
      show Gl _ _ _ _ (T10.setTop (mkF m 28 #[.val (.ref a1), .val (.ref aq), .val (.int (4 : Int32))] []))
      refine Gl.go (fun _ k => XS.iinc X10.here hx rfl (hb hby d8_28) rfl (l' := #[.val (.ref a1), .val (.ref aq), .val (.int ((4 : Int32) + (4 : Int32)))]) rfl k) ?_
      show Gl _ _ _ _ (T10.setTop (mkF m 31 #[.val (.ref a1), .val (.ref aq), .val (.int ((4 : Int32) + (4 : Int32)))] []))
      rw [(by decide : ((4 : Int32) + (4 : Int32)) = (8 : Int32))]
      show Gl _ _ _ _ (T10.setTop (mkF m 31 #[.val (.ref a1), .val (.ref aq), .val (.int (8 : Int32))] []))
      refine Gl.go (fun _ k => XS.goto X10.here hx rfl (pc0 := 31) (pc' := 2) rfl (hb hby d8_31) (by decide) (by decide) k) ?_
      show Gl _ _ _ _ (T10.setTop (mkF m 2 #[.val (.ref a1), .val (.ref aq), .val (.int (8 : Int32))] []))
      refine Gl.go (fun _ k => XS.iloadN X10.here hx rfl (hb hby d8_2) rfl  k) ?_
      show Gl _ _ _ _ (T10.setTop (mkF m 3 #[.val (.ref a1), .val (.ref aq), .val (.int (8 : Int32))] [(.int (8 : Int32))]))
      refine Gl.go (fun _ k => XS.aloadN X10.here hx rfl (hb hby d8_3) rfl rfl  k) ?_
      show Gl _ _ _ _ (T10.setTop (mkF m 4 #[.val (.ref a1), .val (.ref aq), .val (.int (8 : Int32))] [(.ref a1), (.int (8 : Int32))]))
      obtain ⟨T11, X11, e11, st11⟩ := getF X10 hx hZ hown (host := "") (Or.inl (hw _ (List.mem_of_getElem? (i := 44) rfl))) Via.refl e10 Fa (g := (mkF m 4 #[.val (.ref a1), .val (.ref aq), .val (.int (8 : Int32))] [(.ref a1), (.int (8 : Int32))])) rfl rfl (hb hby d8_4)
      refine Gl.go (fun _ k => st11 _ k) ?_
      show Gl _ _ _ _ (T11.setTop (mkF m 7 #[.val (.ref a1), .val (.ref aq), .val (.int (8 : Int32))] [(.ref ar), (.int (8 : Int32))]))
      obtain ⟨cl12, Ar12, qA12, SA12, NA12, HA12, GA12⟩ := id Va
      refine Gl.go (fun _ k => X11.arraylength hx (by rw [e11]; exact Ar12.1) (State.isArrayOf_alike hZ.alike Ar12.2.1) (g := (mkF m 7 #[.val (.ref a1), .val (.ref aq), .val (.int (8 : Int32))] [(.ref ar), (.int (8 : Int32))])) rfl rfl (hb hby d8_7) _ k) ?_
      rw [len_of SA12 NA12]
      show Gl _ _ _ _ (T11.setTop (mkF m 8 #[.val (.ref a1), .val (.ref aq), .val (.int (8 : Int32))] [(.int (8 : Int32)), (.int (8 : Int32))]))
      refine Gl.go (fun _ k => XS.icmpYes X11.here hx rfl (pc0 := 8) (pc' := 34) rfl (hb hby d8_8) rfl (flt (by decide)).2.1 (by decide) (by decide) k) ?_
      show Gl _ _ _ _ (T11.setTop (mkF m 34 #[.val (.ref a1), .val (.ref aq), .val (.int (8 : Int32))] []))
      refine Gl.go (fun _ k => XS.iconst X11.here hx rfl (hb hby d8_34) k) ?_
      show Gl _ _ _ _ (T11.setTop (mkF m 35 #[.val (.ref a1), .val (.ref aq), .val (.int (8 : Int32))] [(.int (-1 : Int32))]))
      refine leafI X11 hx hlk Bd.returns (hb hby d8_35) ?_ (by decide) (by decide)
      exact ⟨by rw [if_neg hn0, if_neg hn1], N10, e11⟩
def Q_ha2 (Z : State) (a1 aq ar : Addr) (kA : ClassId) (qn : List Int32) (x0 : Addr) (x1 : Addr) (x2 : Addr) (x3 : Addr) (x4 : Addr) (x5 : Addr) (x6 : Addr) (x7 : Addr) (bs0 : List Int32) (bs1 : List Int32) (G1 : Int32) (h0 : Heap) (n0 : Nat) (v : Option Value) (h : Heap) (L : List Loc) : Prop := v = some (.int (if (if bs0 = qn then (0 : Int32) else (if bs1 = qn then (4 : Int32) else (-1 : Int32))) < (0 : Int32) then (0 : Int32) else (1 : Int32))) ∧ Fr n0 L ∧ h = h0
set_option maxRecDepth 65536 in
set_option maxHeartbeats 40000000 in
theorem rm_ha2 (l : Launch) (Z : State) (a0 : Array Value) (hw : ∀ d ∈ tables_1, d.before a0 Z = true) (ws : List Jvm.Cond) (a1 aq ar : Addr) (kA : ClassId) (qn : List Int32) (x0 : Addr) (x1 : Addr) (x2 : Addr) (x3 : Addr) (x4 : Addr) (x5 : Addr) (x6 : Addr) (x7 : Addr) (bs0 : List Int32) (bs1 : List Int32) (G1 : Int32) (h0 : Heap) (n0 : Nat) (Z0 : n0 ≤ h0.size) (E_a1 : (Exa Z h0 a1 "org/semfolio/Dom$Element")) (Fa : Fld Z h0 a1 "org/semfolio/Dom$Element" "attributes" "[Ljava/lang/String;" (.ref ar)) (Va : Arv Z h0 ar kA (.object "java/lang/String") (8 : Int32) [(.ref x0), (.ref x1), (.ref x2), (.ref x3), (.ref x4), (.ref x5), (.ref x6), (.ref x7)] .null) (Sq : StrAt Z h0 aq qn) (Sn0 : StrAt Z h0 x2 bs0) (Sn1 : StrAt Z h0 x6 bs1) (SC : Sta Z h0 "java/lang/String" "COMPACT_STRINGS" "Z" (.int G1)) (P5 : ¬ (G1 = (0 : Int32))) :
    MetFree l (⟨"org/semfolio/Dom$Element", "hasAttribute", "(Ljava/lang/String;)Z"⟩ : MethodName) (head1 (Jvm.Cond.code (⟨"org/semfolio/Dom$Element", "hasAttribute", "(Ljava/lang/String;)Z"⟩ : MethodName) prog_16_method_6_code 2 (some .boolean) :: ws) ({ frames := 3, cells := 0, slots := 0, locals := 42 } : Room)) (fun aa U => aa = #[(.ref a1), (.ref aq)] ∧ Z.Warmed39 U.vm ∧ U.heap = h0) (fun _ _ _ _ _ => True) (fun _ U o U' => ∃ v L, o = .returned v ∧ Q_ha2 Z a1 aq ar kA qn x0 x1 x2 x3 x4 x5 x6 x7 bs0 bs1 G1 h0 n0 v U'.heap L ∧ FrameEnd U o U' L ({ frames := 3, cells := 0, slots := 0, locals := 42 } : Room).cells ({ frames := 3, cells := 0, slots := 0, locals := 42 } : Room).slots) := by
  refine MetFree.of_bodySF (plainFor_of_name pn_3) hisR ?_
  intro p e s m args below meth c s₁ Bd hml0 hP hK
  obtain ⟨rfl, hZ, hh⟩ := hP
  have hx := Bd.exec
  have hby := Bd.bytes
  have hml : c.maxLocals = 2 := hml0
  have hown : s.vm.findClass "org/semfolio/Dom$Element" = some m.cls := findClass_of_methodNamed Bd.named
  have hnm := (name_of_methodNamed Bd.named Bd.method).1
  have hlk : meth.locks = false := BodyLoose.notSynchronized Bd
  have X0 : Stand p l e ({ frames := 3, cells := 0, slots := 0, locals := 42 } : Room) s m #[(.ref a1), (.ref aq)] below meth c s₁ [] 0 0 := Stand.of_body Bd
  have e0 : s₁.heap = h0 := by rw [← hh, Bd.state]; rfl
  have N0 := Fr.nil n0
  have K0 : Keep h0 h0 [] := Keep.refl _ _
  show Gl p.tables e below (QQof s (Q_ha2 Z a1 aq ar kA qn x0 x1 x2 x3 x4 x5 x6 x7 bs0 bs1 G1 h0 n0) 0 0) (s₁.setTop (entryFrame m #[(.ref a1), (.ref aq)] 2))
  refine Gl.go (fun t k => castTop (ef_ha2 m a1 aq) k) ?_
  show Gl _ _ _ _ (s₁.setTop (mkF m 0 #[.val (.ref a1), .val (.ref aq)] []))
  refine Gl.go (fun _ k => XS.aloadN X0.here hx rfl (hb hby d7_0) rfl rfl  k) ?_
  show Gl _ _ _ _ (s₁.setTop (mkF m 1 #[.val (.ref a1), .val (.ref aq)] [(.ref a1)]))
  refine Gl.go (fun _ k => XS.aloadN X0.here hx rfl (hb hby d7_1) rfl rfl  k) ?_
  show Gl _ _ _ _ (s₁.setTop (mkF m 2 #[.val (.ref a1), .val (.ref aq)] [(.ref aq), (.ref a1)]))
  obtain ⟨cq1, q1a, q1b⟩ := Exa.cell E_a1
  obtain ⟨_, _, ⟨T1, L1, k1, n1⟩, -, X1, ⟨Lc1, hQ1, l1, y1, z1⟩, st1⟩ := X0.privateBack hx (y := (⟨"org/semfolio/Dom$Element", "find", "(Ljava/lang/String;)I"⟩ : MethodName)) hown (mvT hZ (hw _ (List.mem_of_getElem? (i := 51) rfl))) (mvT hZ (hw _ (List.mem_of_getElem? (i := 52) rfl))) (selPriv hZ (hw _ (List.mem_of_getElem? (i := 29) rfl)) (hw _ (List.mem_of_getElem? (i := 52) rfl)) (hw _ (List.mem_of_getElem? (i := 53) rfl)) (by decide)) (Cond.privateMethod_at (args := #[]) (mvP hZ (hw _ (List.mem_of_getElem? (i := 53) rfl)))) (mvT hZ (hw _ (List.mem_of_getElem? (i := 54) rfl))) (by decide) (backOf (W := 0) (rm_fd2 l Z a0 hw [] a1 aq ar kA qn x0 x1 x2 x3 x4 x5 x6 x7 bs0 bs1 G1 h0 n0 Z0 E_a1 Fa Va Sq Sn0 Sn1 SC P5) hZ (hw _ (List.mem_of_getElem? (i := 54) rfl)) (hw _ (List.mem_of_getElem? (i := 30) rfl)) (by decide) (by decide)) (g := (mkF m 2 #[.val (.ref a1), .val (.ref aq)] [(.ref aq), (.ref a1)])) rfl (by rw [hml]; rfl) (Steps.refl _) (by rw [e0]; exact q1a) q1b (argsL := [(.ref aq)]) (rest := []) (lenOf pd_8 rfl) rfl (by show 2 * 0 + _ ≤ _; exact Nat.le_of_eq rfl) (hb hby d7_2) (fun _ _ => ⟨rfl, e0, (by decide : 0 + 0 ≤ _), (by decide : 0 + 0 ≤ _)⟩)
  dsimp only [Pt.U, Pt.locs, Pt.cells, Pt.slots] at X1 l1 y1 z1 st1 hQ1
  subst y1 z1
  obtain ⟨rfl, Nq1, e1⟩ := hQ1
  have N1 : Fr n0 L1 := by rw [l1]; exact Fr.app N0 Nq1
  refine Gl.go (fun _ k => st1.trans k) ?_
  show Gl _ _ _ _ (T1.setTop (mkF m 5 #[.val (.ref a1), .val (.ref aq)] [(.int (if bs0 = qn then (0 : Int32) else (if bs1 = qn then (4 : Int32) else (-1 : Int32))))]))
  by_cases hA : (if bs0 = qn then (0 : Int32) else (if bs1 = qn then (4 : Int32) else (-1 : Int32))) < (0 : Int32)
  · skip
    refine Gl.go (fun _ k => XS.ifYes X1.here hx rfl (pc0 := 5) (pc' := 12) rfl (hb hby d7_5) rfl ((if0 _ _).trans (tlt hA).1) (by decide) (by decide) k) ?_
    show Gl _ _ _ _ (T1.setTop (mkF m 12 #[.val (.ref a1), .val (.ref aq)] []))
    refine Gl.go (fun _ k => XS.iconst X1.here hx rfl (hb hby d7_12) k) ?_
    show Gl _ _ _ _ (T1.setTop (mkF m 13 #[.val (.ref a1), .val (.ref aq)] [(.int (0 : Int32))]))
    refine leafN X1 hx hlk (t := .boolean) Bd.returns (by simp) (hb hby d7_13) ?_ (by decide) (by decide)
    exact ⟨by rw [nar0, if_pos hA], N1, e1⟩
  · skip
    refine Gl.go (fun _ k => XS.ifNo X1.here hx rfl (hb hby d7_5) rfl ((if0 _ _).trans (flt hA).1) k) ?_
    show Gl _ _ _ _ (T1.setTop (mkF m 8 #[.val (.ref a1), .val (.ref aq)] []))
    refine Gl.go (fun _ k => XS.iconst X1.here hx rfl (hb hby d7_8) k) ?_
    show Gl _ _ _ _ (T1.setTop (mkF m 9 #[.val (.ref a1), .val (.ref aq)] [(.int (1 : Int32))]))
    refine Gl.go (fun _ k => XS.goto X1.here hx rfl (pc0 := 9) (pc' := 13) rfl (hb hby d7_9) (by decide) (by decide) k) ?_
    show Gl _ _ _ _ (T1.setTop (mkF m 13 #[.val (.ref a1), .val (.ref aq)] [(.int (1 : Int32))]))
    refine leafN X1 hx hlk (t := .boolean) Bd.returns (by simp) (hb hby d7_13) ?_ (by decide) (by decide)
    exact ⟨by rw [nar1, if_neg hA], N1, e1⟩
def Q_fd3 (Z : State) (a1 aq ar : Addr) (kA : ClassId) (qn : List Int32) (x0 : Addr) (x1 : Addr) (x2 : Addr) (x3 : Addr) (x4 : Addr) (x5 : Addr) (x6 : Addr) (x7 : Addr) (x8 : Addr) (x9 : Addr) (x10 : Addr) (x11 : Addr) (bs0 : List Int32) (bs1 : List Int32) (bs2 : List Int32) (G1 : Int32) (h0 : Heap) (n0 : Nat) (v : Option Value) (h : Heap) (L : List Loc) : Prop := v = some (.int (if bs0 = qn then (0 : Int32) else (if bs1 = qn then (4 : Int32) else (if bs2 = qn then (8 : Int32) else (-1 : Int32))))) ∧ Fr n0 L ∧ h = h0
set_option maxRecDepth 65536 in
set_option maxHeartbeats 40000000 in
theorem rm_fd3 (l : Launch) (Z : State) (a0 : Array Value) (hw : ∀ d ∈ tables_1, d.before a0 Z = true) (ws : List Jvm.Cond) (a1 aq ar : Addr) (kA : ClassId) (qn : List Int32) (x0 : Addr) (x1 : Addr) (x2 : Addr) (x3 : Addr) (x4 : Addr) (x5 : Addr) (x6 : Addr) (x7 : Addr) (x8 : Addr) (x9 : Addr) (x10 : Addr) (x11 : Addr) (bs0 : List Int32) (bs1 : List Int32) (bs2 : List Int32) (G1 : Int32) (h0 : Heap) (n0 : Nat) (Z0 : n0 ≤ h0.size) (E_a1 : (Exa Z h0 a1 "org/semfolio/Dom$Element")) (Fa : Fld Z h0 a1 "org/semfolio/Dom$Element" "attributes" "[Ljava/lang/String;" (.ref ar)) (Va : Arv Z h0 ar kA (.object "java/lang/String") (12 : Int32) [(.ref x0), (.ref x1), (.ref x2), (.ref x3), (.ref x4), (.ref x5), (.ref x6), (.ref x7), (.ref x8), (.ref x9), (.ref x10), (.ref x11)] .null) (Sq : StrAt Z h0 aq qn) (Sn0 : StrAt Z h0 x2 bs0) (Sn1 : StrAt Z h0 x6 bs1) (Sn2 : StrAt Z h0 x10 bs2) (SC : Sta Z h0 "java/lang/String" "COMPACT_STRINGS" "Z" (.int G1)) (P5 : ¬ (G1 = (0 : Int32))) :
    MetFree l (⟨"org/semfolio/Dom$Element", "find", "(Ljava/lang/String;)I"⟩ : MethodName) (head1 (Jvm.Cond.code (⟨"org/semfolio/Dom$Element", "find", "(Ljava/lang/String;)I"⟩ : MethodName) prog_16_method_7_code 3 (some .int) :: ws) ({ frames := 2, cells := 0, slots := 0, locals := 28 } : Room)) (fun aa U => aa = #[(.ref a1), (.ref aq)] ∧ Z.Warmed39 U.vm ∧ U.heap = h0) (fun _ _ _ _ _ => True) (fun _ U o U' => ∃ v L, o = .returned v ∧ Q_fd3 Z a1 aq ar kA qn x0 x1 x2 x3 x4 x5 x6 x7 x8 x9 x10 x11 bs0 bs1 bs2 G1 h0 n0 v U'.heap L ∧ FrameEnd U o U' L ({ frames := 2, cells := 0, slots := 0, locals := 28 } : Room).cells ({ frames := 2, cells := 0, slots := 0, locals := 28 } : Room).slots) := by
  refine MetFree.of_bodySF (plainFor_of_name pn_3) hisR ?_
  intro p e s m args below meth c s₁ Bd hml0 hP hK
  obtain ⟨rfl, hZ, hh⟩ := hP
  have hx := Bd.exec
  have hby := Bd.bytes
  have hml : c.maxLocals = 3 := hml0
  have hown : s.vm.findClass "org/semfolio/Dom$Element" = some m.cls := findClass_of_methodNamed Bd.named
  have hnm := (name_of_methodNamed Bd.named Bd.method).1
  have hlk : meth.locks = false := BodyLoose.notSynchronized Bd
  have X0 : Stand p l e ({ frames := 2, cells := 0, slots := 0, locals := 28 } : Room) s m #[(.ref a1), (.ref aq)] below meth c s₁ [] 0 0 := Stand.of_body Bd
  have e0 : s₁.heap = h0 := by rw [← hh, Bd.state]; rfl
  have N0 := Fr.nil n0
  have K0 : Keep h0 h0 [] := Keep.refl _ _
  show Gl p.tables e below (QQof s (Q_fd3 Z a1 aq ar kA qn x0 x1 x2 x3 x4 x5 x6 x7 x8 x9 x10 x11 bs0 bs1 bs2 G1 h0 n0) 0 0) (s₁.setTop (entryFrame m #[(.ref a1), (.ref aq)] 3))
  refine Gl.go (fun t k => castTop (ef_fd3 m a1 aq) k) ?_
  show Gl _ _ _ _ (s₁.setTop (mkF m 0 #[.val (.ref a1), .val (.ref aq), .unset] []))
  refine Gl.go (fun _ k => XS.iconst X0.here hx rfl (hb hby d8_0) k) ?_
  show Gl _ _ _ _ (s₁.setTop (mkF m 1 #[.val (.ref a1), .val (.ref aq), .unset] [(.int (0 : Int32))]))
  refine Gl.go (fun _ k => XS.istoreN X0.here hx rfl (hb hby d8_1) rfl (l' := #[.val (.ref a1), .val (.ref aq), .val (.int (0 : Int32))]) rfl k) ?_
  show Gl _ _ _ _ (s₁.setTop (mkF m 2 #[.val (.ref a1), .val (.ref aq), .val (.int (0 : Int32))] []))
  refine Gl.go (fun _ k => XS.iloadN X0.here hx rfl (hb hby d8_2) rfl  k) ?_
  show Gl _ _ _ _ (s₁.setTop (mkF m 3 #[.val (.ref a1), .val (.ref aq), .val (.int (0 : Int32))] [(.int (0 : Int32))]))
  refine Gl.go (fun _ k => XS.aloadN X0.here hx rfl (hb hby d8_3) rfl rfl  k) ?_
  show Gl _ _ _ _ (s₁.setTop (mkF m 4 #[.val (.ref a1), .val (.ref aq), .val (.int (0 : Int32))] [(.ref a1), (.int (0 : Int32))]))
  obtain ⟨T1, X1, e1, st1⟩ := getF X0 hx hZ hown (host := "") (Or.inl (hw _ (List.mem_of_getElem? (i := 44) rfl))) Via.refl e0 Fa (g := (mkF m 4 #[.val (.ref a1), .val (.ref aq), .val (.int (0 : Int32))] [(.ref a1), (.int (0 : Int32))])) rfl rfl (hb hby d8_4)
  refine Gl.go (fun _ k => st1 _ k) ?_
  show Gl _ _ _ _ (T1.setTop (mkF m 7 #[.val (.ref a1), .val (.ref aq), .val (.int (0 : Int32))] [(.ref ar), (.int (0 : Int32))]))
  obtain ⟨cl2, Ar2, qA2, SA2, NA2, HA2, GA2⟩ := id Va
  refine Gl.go (fun _ k => X1.arraylength hx (by rw [e1]; exact Ar2.1) (State.isArrayOf_alike hZ.alike Ar2.2.1) (g := (mkF m 7 #[.val (.ref a1), .val (.ref aq), .val (.int (0 : Int32))] [(.ref ar), (.int (0 : Int32))])) rfl rfl (hb hby d8_7) _ k) ?_
  rw [len_of SA2 NA2]
  show Gl _ _ _ _ (T1.setTop (mkF m 8 #[.val (.ref a1), .val (.ref aq), .val (.int (0 : Int32))] [(.int (12 : Int32)), (.int (0 : Int32))]))
  refine Gl.go (fun _ k => XS.icmpNo X1.here hx rfl (hb hby d8_8) rfl (tlt (by decide)).2.1 k) ?_
  show Gl _ _ _ _ (T1.setTop (mkF m 11 #[.val (.ref a1), .val (.ref aq), .val (.int (0 : Int32))] []))
  refine Gl.go (fun _ k => XS.aloadN X1.here hx rfl (hb hby d8_11) rfl rfl  k) ?_
  show Gl _ _ _ _ (T1.setTop (mkF m 12 #[.val (.ref a1), .val (.ref aq), .val (.int (0 : Int32))] [(.ref a1)]))
  obtain ⟨T3, X3, e3, st3⟩ := getF X1 hx hZ hown (host := "") (Or.inl (hw _ (List.mem_of_getElem? (i := 44) rfl))) Via.refl e1 Fa (g := (mkF m 12 #[.val (.ref a1), .val (.ref aq), .val (.int (0 : Int32))] [(.ref a1)])) rfl rfl (hb hby d8_12)
  refine Gl.go (fun _ k => st3 _ k) ?_
  show Gl _ _ _ _ (T3.setTop (mkF m 15 #[.val (.ref a1), .val (.ref aq), .val (.int (0 : Int32))] [(.ref ar)]))
  refine Gl.go (fun _ k => XS.iloadN X3.here hx rfl (hb hby d8_15) rfl  k) ?_
  show Gl _ _ _ _ (T3.setTop (mkF m 16 #[.val (.ref a1), .val (.ref aq), .val (.int (0 : Int32))] [(.int (0 : Int32)), (.ref ar)]))
  refine Gl.go (fun _ k => XS.iconst X3.here hx rfl (hb hby d8_16) k) ?_
  show Gl _ _ _ _ (T3.setTop (mkF m 17 #[.val (.ref a1), .val (.ref aq), .val (.int (0 : Int32))] [(.int (2 : Int32)), (.int (0 : Int32)), (.ref ar)]))
  refine Gl.go (fun _ k => XS.iadd X3.here hx rfl (hb hby d8_17) rfl k) ?_
  show Gl _ _ _ _ (T3.setTop (mkF m 18 #[.val (.ref a1), .val (.ref aq), .val (.int (0 : Int32))] [(.int ((0 : Int32) + (2 : Int32))), (.ref ar)]))
  rw [(by decide : ((0 : Int32) + (2 : Int32)) = (2 : Int32))]
  show Gl _ _ _ _ (T3.setTop (mkF m 18 #[.val (.ref a1), .val (.ref aq), .val (.int (0 : Int32))] [(.int (2 : Int32)), (.ref ar)]))
  obtain ⟨cl4, Ar4, qA4, SA4, NA4, HA4, GA4⟩ := id Va
  have hin4 := inb_of (j := (2 : Int32)) SA4 ⟨by decide, by decide⟩
  have hat4 : cl4.slots[((2 : Int32)).toNatClampNeg]? = some (.ref x2) := HA4.at hin4 rfl
  refine Gl.go (fun _ k => X3.aaload hx (j := (2 : Int32)) (v := (.ref x2)) (by rw [e3]; exact Ar4.1) (State.isArrayOf_alike hZ.alike Ar4.2.1) rfl Ar4.2.2 hin4 hat4 (g := (mkF m 18 #[.val (.ref a1), .val (.ref aq), .val (.int (0 : Int32))] [(.int (2 : Int32)), (.ref ar)])) rfl rfl (hb hby d8_18) _ k) ?_
  show Gl _ _ _ _ (T3.setTop (mkF m 19 #[.val (.ref a1), .val (.ref aq), .val (.int (0 : Int32))] [(.ref x2)]))
  refine Gl.go (fun _ k => XS.aloadN X3.here hx rfl (hb hby d8_19) rfl rfl  k) ?_
  show Gl _ _ _ _ (T3.setTop (mkF m 20 #[.val (.ref a1), .val (.ref aq), .val (.int (0 : Int32))] [(.ref aq), (.ref x2)]))
  obtain ⟨cq5, kq5, q5a, q5b, q5c⟩ := isOf hZ e3 Sn0.1
  obtain ⟨_, _, ⟨T5, L5, k5, n5⟩, -, X5, ⟨Lc5, hQ5, l5, y5, z5⟩, st5⟩ := X3.virtualBack hx (y := (⟨"java/lang/String", "equals", "(Ljava/lang/Object;)Z"⟩ : MethodName)) (z := (⟨"java/lang/String", "equals", "(Ljava/lang/Object;)Z"⟩ : MethodName)) hown (mvT hZ (hw _ (List.mem_of_getElem? (i := 69) rfl))) (mvT hZ (hw _ (List.mem_of_getElem? (i := 59) rfl))) (notFace_of_selects (args := #[]) (mvT hZ (hw _ (List.mem_of_getElem? (i := 61) rfl)))) (mvT hZ (hw _ (List.mem_of_getElem? (i := 61) rfl))) (mvT hZ (hw _ (List.mem_of_getElem? (i := 60) rfl))) (by decide) (backOf (W := 0) (rm_seq l Z a0 hw [] x2 aq bs0 qn G1 h0 n0 Z0 Sn0 Sq SC P5) hZ (hw _ (List.mem_of_getElem? (i := 62) rfl)) (hw _ (List.mem_of_getElem? (i := 7) rfl)) (by decide) (by decide)) q5a q5c (g := (mkF m 20 #[.val (.ref a1), .val (.ref aq), .val (.int (0 : Int32))] [(.ref aq), (.ref x2)])) rfl (by rw [hml]; rfl) (Steps.refl _) (argsL := [(.ref aq)]) (rest := []) (lenOf pd_9 rfl) rfl (by show 2 * 0 + _ ≤ _; exact Nat.le_of_eq rfl) (hb hby d8_20) (fun _ _ => ⟨rfl, e3, (by decide : 0 + 0 ≤ _), (by decide : 0 + 0 ≤ _)⟩)
  dsimp only [Pt.U, Pt.locs, Pt.cells, Pt.slots] at X5 l5 y5 z5 st5 hQ5
  subst y5 z5
  obtain ⟨rfl, Nq5, e5⟩ := hQ5
  have N5 : Fr n0 L5 := by rw [l5]; exact Fr.app N0 Nq5
  refine Gl.go (fun _ k => st5.trans k) ?_
  show Gl _ _ _ _ (T5.setTop (mkF m 23 #[.val (.ref a1), .val (.ref aq), .val (.int (0 : Int32))] [(.int (eqI bs0 qn))]))
  by_cases hn0 : bs0 = qn
  · skip
    rw [(eqI_yes hn0 : (eqI bs0 qn) = (1 : Int32))]
    show Gl _ _ _ _ (T5.setTop (mkF m 23 #[.val (.ref a1), .val (.ref aq), .val (.int (0 : Int32))] [(.int (1 : Int32))]))
    refine Gl.go (fun _ k => XS.ifNo X5.here hx rfl (hb hby d8_23) rfl ((if0 _ _).trans (feq (by decide)).1) k) ?_
    show Gl _ _ _ _ (T5.setTop (mkF m 26 #[.val (.ref a1), .val (.ref aq), .val (.int (0 : Int32))] []))
    refine Gl.go (fun _ k => XS.iloadN X5.here hx rfl (hb hby d8_26) rfl  k) ?_
    show Gl _ _ _ _ (T5.setTop (mkF m 27 #[.val (.ref a1), .val (.ref aq), .val (.int (0 : Int32))] [(.int (0 : Int32))]))
    refine leafI X5 hx hlk Bd.returns (hb hby d8_27) ?_ (by decide) (by decide)
    exact ⟨by rw [if_pos hn0], N5, e5⟩
  · skip
    rw [(eqI_no hn0 : (eqI bs0 qn) = (0 : Int32))]
    show Gl _ _ _ _ (T5.setTop (mkF m 23 #[.val (.ref a1), .val (.ref aq), .val (.int (0 : Int32))] [(.int (0 : Int32))]))
    refine Gl.go (fun _ k => XS.ifYes X5.here hx rfl (pc0 := 23) (pc' := 28) rfl (hb hby d8_23) rfl ((if0 _ _).trans (teq rfl).1) (by decide) (by decide) k) ?_
    show Gl _ _ _ _ (T5.setTop (mkF m 28 #[.val (.ref a1), .val (.ref aq), .val (.int (0 : Int32))] []))
    refine Gl.go (fun _ k => XS.iinc X5.here hx rfl (hb hby d8_28) rfl (l' := #[.val (.ref a1), .val (.ref aq), .val (.int ((0 : Int32) + (4 : Int32)))]) rfl k) ?_
    show Gl _ _ _ _ (T5.setTop (mkF m 31 #[.val (.ref a1), .val (.ref aq), .val (.int ((0 : Int32) + (4 : Int32)))] []))
    rw [(by decide : ((0 : Int32) + (4 : Int32)) = (4 : Int32))]
    show Gl _ _ _ _ (T5.setTop (mkF m 31 #[.val (.ref a1), .val (.ref aq), .val (.int (4 : Int32))] []))
    refine Gl.go (fun _ k => XS.goto X5.here hx rfl (pc0 := 31) (pc' := 2) rfl (hb hby d8_31) (by decide) (by decide) k) ?_
    show Gl _ _ _ _ (T5.setTop (mkF m 2 #[.val (.ref a1), .val (.ref aq), .val (.int (4 : Int32))] []))
    refine Gl.go (fun _ k => XS.iloadN X5.here hx rfl (hb hby d8_2) rfl  k) ?_
    show Gl _ _ _ _ (T5.setTop (mkF m 3 #[.val (.ref a1), .val (.ref aq), .val (.int (4 : Int32))] [(.int (4 : Int32))]))
    refine Gl.go (fun _ k => XS.aloadN X5.here hx rfl (hb hby d8_3) rfl rfl  k) ?_
    show Gl _ _ _ _ (T5.setTop (mkF m 4 #[.val (.ref a1), .val (.ref aq), .val (.int (4 : Int32))] [(.ref a1), (.int (4 : Int32))]))
    obtain ⟨T6, X6, e6, st6⟩ := getF X5 hx hZ hown (host := "") (Or.inl (hw _ (List.mem_of_getElem? (i := 44) rfl))) Via.refl e5 Fa (g := (mkF m 4 #[.val (.ref a1), .val (.ref aq), .val (.int (4 : Int32))] [(.ref a1), (.int (4 : Int32))])) rfl rfl (hb hby d8_4)
    refine Gl.go (fun _ k => st6 _ k) ?_
    show Gl _ _ _ _ (T6.setTop (mkF m 7 #[.val (.ref a1), .val (.ref aq), .val (.int (4 : Int32))] [(.ref ar), (.int (4 : Int32))]))
    obtain ⟨cl7, Ar7, qA7, SA7, NA7, HA7, GA7⟩ := id Va
    refine Gl.go (fun _ k => X6.arraylength hx (by rw [e6]; exact Ar7.1) (State.isArrayOf_alike hZ.alike Ar7.2.1) (g := (mkF m 7 #[.val (.ref a1), .val (.ref aq), .val (.int (4 : Int32))] [(.ref ar), (.int (4 : Int32))])) rfl rfl (hb hby d8_7) _ k) ?_
    rw [len_of SA7 NA7]
    show Gl _ _ _ _ (T6.setTop (mkF m 8 #[.val (.ref a1), .val (.ref aq), .val (.int (4 : Int32))] [(.int (12 : Int32)), (.int (4 : Int32))]))
    refine Gl.go (fun _ k => XS.icmpNo X6.here hx rfl (hb hby d8_8) rfl (tlt (by decide)).2.1 k) ?_
    show Gl _ _ _ _ (T6.setTop (mkF m 11 #[.val (.ref a1), .val (.ref aq), .val (.int (4 : Int32))] []))
    refine Gl.go (fun _ k => XS.aloadN X6.here hx rfl (hb hby d8_11) rfl rfl  k) ?_
    show Gl _ _ _ _ (T6.setTop (mkF m 12 #[.val (.ref a1), .val (.ref aq), .val (.int (4 : Int32))] [(.ref a1)]))
    obtain ⟨T8, X8, e8, st8⟩ := getF X6 hx hZ hown (host := "") (Or.inl (hw _ (List.mem_of_getElem? (i := 44) rfl))) Via.refl e6 Fa (g := (mkF m 12 #[.val (.ref a1), .val (.ref aq), .val (.int (4 : Int32))] [(.ref a1)])) rfl rfl (hb hby d8_12)
    refine Gl.go (fun _ k => st8 _ k) ?_
    show Gl _ _ _ _ (T8.setTop (mkF m 15 #[.val (.ref a1), .val (.ref aq), .val (.int (4 : Int32))] [(.ref ar)]))
    refine Gl.go (fun _ k => XS.iloadN X8.here hx rfl (hb hby d8_15) rfl  k) ?_
    show Gl _ _ _ _ (T8.setTop (mkF m 16 #[.val (.ref a1), .val (.ref aq), .val (.int (4 : Int32))] [(.int (4 : Int32)), (.ref ar)]))
    refine Gl.go (fun _ k => XS.iconst X8.here hx rfl (hb hby d8_16) k) ?_
    show Gl _ _ _ _ (T8.setTop (mkF m 17 #[.val (.ref a1), .val (.ref aq), .val (.int (4 : Int32))] [(.int (2 : Int32)), (.int (4 : Int32)), (.ref ar)]))
    refine Gl.go (fun _ k => XS.iadd X8.here hx rfl (hb hby d8_17) rfl k) ?_
    show Gl _ _ _ _ (T8.setTop (mkF m 18 #[.val (.ref a1), .val (.ref aq), .val (.int (4 : Int32))] [(.int ((4 : Int32) + (2 : Int32))), (.ref ar)]))
    rw [(by decide : ((4 : Int32) + (2 : Int32)) = (6 : Int32))]
    show Gl _ _ _ _ (T8.setTop (mkF m 18 #[.val (.ref a1), .val (.ref aq), .val (.int (4 : Int32))] [(.int (6 : Int32)), (.ref ar)]))
    obtain ⟨cl9, Ar9, qA9, SA9, NA9, HA9, GA9⟩ := id Va
    have hin9 := inb_of (j := (6 : Int32)) SA9 ⟨by decide, by decide⟩
    have hat9 : cl9.slots[((6 : Int32)).toNatClampNeg]? = some (.ref x6) := HA9.at hin9 rfl
    refine Gl.go (fun _ k => X8.aaload hx (j := (6 : Int32)) (v := (.ref x6)) (by rw [e8]; exact Ar9.1) (State.isArrayOf_alike hZ.alike Ar9.2.1) rfl Ar9.2.2 hin9 hat9 (g := (mkF m 18 #[.val (.ref a1), .val (.ref aq), .val (.int (4 : Int32))] [(.int (6 : Int32)), (.ref ar)])) rfl rfl (hb hby d8_18) _ k) ?_
    show Gl _ _ _ _ (T8.setTop (mkF m 19 #[.val (.ref a1), .val (.ref aq), .val (.int (4 : Int32))] [(.ref x6)]))
    refine Gl.go (fun _ k => XS.aloadN X8.here hx rfl (hb hby d8_19) rfl rfl  k) ?_
    show Gl _ _ _ _ (T8.setTop (mkF m 20 #[.val (.ref a1), .val (.ref aq), .val (.int (4 : Int32))] [(.ref aq), (.ref x6)]))
    obtain ⟨cq10, kq10, q10a, q10b, q10c⟩ := isOf hZ e8 Sn1.1
    obtain ⟨_, _, ⟨T10, L10, k10, n10⟩, -, X10, ⟨Lc10, hQ10, l10, y10, z10⟩, st10⟩ := X8.virtualBack hx (y := (⟨"java/lang/String", "equals", "(Ljava/lang/Object;)Z"⟩ : MethodName)) (z := (⟨"java/lang/String", "equals", "(Ljava/lang/Object;)Z"⟩ : MethodName)) hown (mvT hZ (hw _ (List.mem_of_getElem? (i := 69) rfl))) (mvT hZ (hw _ (List.mem_of_getElem? (i := 59) rfl))) (notFace_of_selects (args := #[]) (mvT hZ (hw _ (List.mem_of_getElem? (i := 61) rfl)))) (mvT hZ (hw _ (List.mem_of_getElem? (i := 61) rfl))) (mvT hZ (hw _ (List.mem_of_getElem? (i := 60) rfl))) (by decide) (backOf (W := 0) (rm_seq l Z a0 hw [] x6 aq bs1 qn G1 h0 n0 Z0 Sn1 Sq SC P5) hZ (hw _ (List.mem_of_getElem? (i := 62) rfl)) (hw _ (List.mem_of_getElem? (i := 7) rfl)) (by decide) (by decide)) q10a q10c (g := (mkF m 20 #[.val (.ref a1), .val (.ref aq), .val (.int (4 : Int32))] [(.ref aq), (.ref x6)])) rfl (by rw [hml]; rfl) (Steps.refl _) (argsL := [(.ref aq)]) (rest := []) (lenOf pd_9 rfl) rfl (by show 2 * 0 + _ ≤ _; exact Nat.le_of_eq rfl) (hb hby d8_20) (fun _ _ => ⟨rfl, e8, (by decide : 0 + 0 ≤ _), (by decide : 0 + 0 ≤ _)⟩)
    dsimp only [Pt.U, Pt.locs, Pt.cells, Pt.slots] at X10 l10 y10 z10 st10 hQ10
    subst y10 z10
    obtain ⟨rfl, Nq10, e10⟩ := hQ10
    have N10 : Fr n0 L10 := by rw [l10]; exact Fr.app N5 Nq10
    refine Gl.go (fun _ k => st10.trans k) ?_
    show Gl _ _ _ _ (T10.setTop (mkF m 23 #[.val (.ref a1), .val (.ref aq), .val (.int (4 : Int32))] [(.int (eqI bs1 qn))]))
    by_cases hn1 : bs1 = qn
    · skip
      rw [(eqI_yes hn1 : (eqI bs1 qn) = (1 : Int32))]
      show Gl _ _ _ _ (T10.setTop (mkF m 23 #[.val (.ref a1), .val (.ref aq), .val (.int (4 : Int32))] [(.int (1 : Int32))]))
      refine Gl.go (fun _ k => XS.ifNo X10.here hx rfl (hb hby d8_23) rfl ((if0 _ _).trans (feq (by decide)).1) k) ?_
      show Gl _ _ _ _ (T10.setTop (mkF m 26 #[.val (.ref a1), .val (.ref aq), .val (.int (4 : Int32))] []))
      refine Gl.go (fun _ k => XS.iloadN X10.here hx rfl (hb hby d8_26) rfl  k) ?_
      show Gl _ _ _ _ (T10.setTop (mkF m 27 #[.val (.ref a1), .val (.ref aq), .val (.int (4 : Int32))] [(.int (4 : Int32))]))
      refine leafI X10 hx hlk Bd.returns (hb hby d8_27) ?_ (by decide) (by decide)
      exact ⟨by rw [if_neg hn0, if_pos hn1], N10, e10⟩
    · skip
      rw [(eqI_no hn1 : (eqI bs1 qn) = (0 : Int32))]
      show Gl _ _ _ _ (T10.setTop (mkF m 23 #[.val (.ref a1), .val (.ref aq), .val (.int (4 : Int32))] [(.int (0 : Int32))]))
      refine Gl.go (fun _ k => XS.ifYes X10.here hx rfl (pc0 := 23) (pc' := 28) rfl (hb hby d8_23) rfl ((if0 _ _).trans (teq rfl).1) (by decide) (by decide) k) ?_
      show Gl _ _ _ _ (T10.setTop (mkF m 28 #[.val (.ref a1), .val (.ref aq), .val (.int (4 : Int32))] []))
      refine Gl.go (fun _ k => XS.iinc X10.here hx rfl (hb hby d8_28) rfl (l' := #[.val (.ref a1), .val (.ref aq), .val (.int ((4 : Int32) + (4 : Int32)))]) rfl k) ?_
      show Gl _ _ _ _ (T10.setTop (mkF m 31 #[.val (.ref a1), .val (.ref aq), .val (.int ((4 : Int32) + (4 : Int32)))] []))
      rw [(by decide : ((4 : Int32) + (4 : Int32)) = (8 : Int32))]
      show Gl _ _ _ _ (T10.setTop (mkF m 31 #[.val (.ref a1), .val (.ref aq), .val (.int (8 : Int32))] []))
      refine Gl.go (fun _ k => XS.goto X10.here hx rfl (pc0 := 31) (pc' := 2) rfl (hb hby d8_31) (by decide) (by decide) k) ?_
      show Gl _ _ _ _ (T10.setTop (mkF m 2 #[.val (.ref a1), .val (.ref aq), .val (.int (8 : Int32))] []))
      refine Gl.go (fun _ k => XS.iloadN X10.here hx rfl (hb hby d8_2) rfl  k) ?_
      show Gl _ _ _ _ (T10.setTop (mkF m 3 #[.val (.ref a1), .val (.ref aq), .val (.int (8 : Int32))] [(.int (8 : Int32))]))
      refine Gl.go (fun _ k => XS.aloadN X10.here hx rfl (hb hby d8_3) rfl rfl  k) ?_
      show Gl _ _ _ _ (T10.setTop (mkF m 4 #[.val (.ref a1), .val (.ref aq), .val (.int (8 : Int32))] [(.ref a1), (.int (8 : Int32))]))
      obtain ⟨T11, X11, e11, st11⟩ := getF X10 hx hZ hown (host := "") (Or.inl (hw _ (List.mem_of_getElem? (i := 44) rfl))) Via.refl e10 Fa (g := (mkF m 4 #[.val (.ref a1), .val (.ref aq), .val (.int (8 : Int32))] [(.ref a1), (.int (8 : Int32))])) rfl rfl (hb hby d8_4)
      refine Gl.go (fun _ k => st11 _ k) ?_
      show Gl _ _ _ _ (T11.setTop (mkF m 7 #[.val (.ref a1), .val (.ref aq), .val (.int (8 : Int32))] [(.ref ar), (.int (8 : Int32))]))
      obtain ⟨cl12, Ar12, qA12, SA12, NA12, HA12, GA12⟩ := id Va
      refine Gl.go (fun _ k => X11.arraylength hx (by rw [e11]; exact Ar12.1) (State.isArrayOf_alike hZ.alike Ar12.2.1) (g := (mkF m 7 #[.val (.ref a1), .val (.ref aq), .val (.int (8 : Int32))] [(.ref ar), (.int (8 : Int32))])) rfl rfl (hb hby d8_7) _ k) ?_
      rw [len_of SA12 NA12]
      show Gl _ _ _ _ (T11.setTop (mkF m 8 #[.val (.ref a1), .val (.ref aq), .val (.int (8 : Int32))] [(.int (12 : Int32)), (.int (8 : Int32))]))
      refine Gl.go (fun _ k => XS.icmpNo X11.here hx rfl (hb hby d8_8) rfl (tlt (by decide)).2.1 k) ?_
      show Gl _ _ _ _ (T11.setTop (mkF m 11 #[.val (.ref a1), .val (.ref aq), .val (.int (8 : Int32))] []))
      refine Gl.go (fun _ k => XS.aloadN X11.here hx rfl (hb hby d8_11) rfl rfl  k) ?_
      show Gl _ _ _ _ (T11.setTop (mkF m 12 #[.val (.ref a1), .val (.ref aq), .val (.int (8 : Int32))] [(.ref a1)]))
      obtain ⟨T13, X13, e13, st13⟩ := getF X11 hx hZ hown (host := "") (Or.inl (hw _ (List.mem_of_getElem? (i := 44) rfl))) Via.refl e11 Fa (g := (mkF m 12 #[.val (.ref a1), .val (.ref aq), .val (.int (8 : Int32))] [(.ref a1)])) rfl rfl (hb hby d8_12)
      refine Gl.go (fun _ k => st13 _ k) ?_
      show Gl _ _ _ _ (T13.setTop (mkF m 15 #[.val (.ref a1), .val (.ref aq), .val (.int (8 : Int32))] [(.ref ar)]))
      refine Gl.go (fun _ k => XS.iloadN X13.here hx rfl (hb hby d8_15) rfl  k) ?_
      show Gl _ _ _ _ (T13.setTop (mkF m 16 #[.val (.ref a1), .val (.ref aq), .val (.int (8 : Int32))] [(.int (8 : Int32)), (.ref ar)]))
      refine Gl.go (fun _ k => XS.iconst X13.here hx rfl (hb hby d8_16) k) ?_
      show Gl _ _ _ _ (T13.setTop (mkF m 17 #[.val (.ref a1), .val (.ref aq), .val (.int (8 : Int32))] [(.int (2 : Int32)), (.int (8 : Int32)), (.ref ar)]))
      refine Gl.go (fun _ k => XS.iadd X13.here hx rfl (hb hby d8_17) rfl k) ?_
      show Gl _ _ _ _ (T13.setTop (mkF m 18 #[.val (.ref a1), .val (.ref aq), .val (.int (8 : Int32))] [(.int ((8 : Int32) + (2 : Int32))), (.ref ar)]))
      rw [(by decide : ((8 : Int32) + (2 : Int32)) = (10 : Int32))]
      show Gl _ _ _ _ (T13.setTop (mkF m 18 #[.val (.ref a1), .val (.ref aq), .val (.int (8 : Int32))] [(.int (10 : Int32)), (.ref ar)]))
      obtain ⟨cl14, Ar14, qA14, SA14, NA14, HA14, GA14⟩ := id Va
      have hin14 := inb_of (j := (10 : Int32)) SA14 ⟨by decide, by decide⟩
      have hat14 : cl14.slots[((10 : Int32)).toNatClampNeg]? = some (.ref x10) := HA14.at hin14 rfl
      refine Gl.go (fun _ k => X13.aaload hx (j := (10 : Int32)) (v := (.ref x10)) (by rw [e13]; exact Ar14.1) (State.isArrayOf_alike hZ.alike Ar14.2.1) rfl Ar14.2.2 hin14 hat14 (g := (mkF m 18 #[.val (.ref a1), .val (.ref aq), .val (.int (8 : Int32))] [(.int (10 : Int32)), (.ref ar)])) rfl rfl (hb hby d8_18) _ k) ?_
      show Gl _ _ _ _ (T13.setTop (mkF m 19 #[.val (.ref a1), .val (.ref aq), .val (.int (8 : Int32))] [(.ref x10)]))
      refine Gl.go (fun _ k => XS.aloadN X13.here hx rfl (hb hby d8_19) rfl rfl  k) ?_
      show Gl _ _ _ _ (T13.setTop (mkF m 20 #[.val (.ref a1), .val (.ref aq), .val (.int (8 : Int32))] [(.ref aq), (.ref x10)]))
      obtain ⟨cq15, kq15, q15a, q15b, q15c⟩ := isOf hZ e13 Sn2.1
      obtain ⟨_, _, ⟨T15, L15, k15, n15⟩, -, X15, ⟨Lc15, hQ15, l15, y15, z15⟩, st15⟩ := X13.virtualBack hx (y := (⟨"java/lang/String", "equals", "(Ljava/lang/Object;)Z"⟩ : MethodName)) (z := (⟨"java/lang/String", "equals", "(Ljava/lang/Object;)Z"⟩ : MethodName)) hown (mvT hZ (hw _ (List.mem_of_getElem? (i := 69) rfl))) (mvT hZ (hw _ (List.mem_of_getElem? (i := 59) rfl))) (notFace_of_selects (args := #[]) (mvT hZ (hw _ (List.mem_of_getElem? (i := 61) rfl)))) (mvT hZ (hw _ (List.mem_of_getElem? (i := 61) rfl))) (mvT hZ (hw _ (List.mem_of_getElem? (i := 60) rfl))) (by decide) (backOf (W := 0) (rm_seq l Z a0 hw [] x10 aq bs2 qn G1 h0 n0 Z0 Sn2 Sq SC P5) hZ (hw _ (List.mem_of_getElem? (i := 62) rfl)) (hw _ (List.mem_of_getElem? (i := 7) rfl)) (by decide) (by decide)) q15a q15c (g := (mkF m 20 #[.val (.ref a1), .val (.ref aq), .val (.int (8 : Int32))] [(.ref aq), (.ref x10)])) rfl (by rw [hml]; rfl) (Steps.refl _) (argsL := [(.ref aq)]) (rest := []) (lenOf pd_9 rfl) rfl (by show 2 * 0 + _ ≤ _; exact Nat.le_of_eq rfl) (hb hby d8_20) (fun _ _ => ⟨rfl, e13, (by decide : 0 + 0 ≤ _), (by decide : 0 + 0 ≤ _)⟩)
      dsimp only [Pt.U, Pt.locs, Pt.cells, Pt.slots] at X15 l15 y15 z15 st15 hQ15
      subst y15 z15
      obtain ⟨rfl, Nq15, e15⟩ := hQ15
      have N15 : Fr n0 L15 := by rw [l15]; exact Fr.app N10 Nq15
      refine Gl.go (fun _ k => st15.trans k) ?_
      show Gl _ _ _ _ (T15.setTop (mkF m 23 #[.val (.ref a1), .val (.ref aq), .val (.int (8 : Int32))] [(.int (eqI bs2 qn))]))
      by_cases hn2 : bs2 = qn
      · skip
        rw [(eqI_yes hn2 : (eqI bs2 qn) = (1 : Int32))]
        show Gl _ _ _ _ (T15.setTop (mkF m 23 #[.val (.ref a1), .val (.ref aq), .val (.int (8 : Int32))] [(.int (1 : Int32))]))
        refine Gl.go (fun _ k => XS.ifNo X15.here hx rfl (hb hby d8_23) rfl ((if0 _ _).trans (feq (by decide)).1) k) ?_
        show Gl _ _ _ _ (T15.setTop (mkF m 26 #[.val (.ref a1), .val (.ref aq), .val (.int (8 : Int32))] []))
        refine Gl.go (fun _ k => XS.iloadN X15.here hx rfl (hb hby d8_26) rfl  k) ?_
        show Gl _ _ _ _ (T15.setTop (mkF m 27 #[.val (.ref a1), .val (.ref aq), .val (.int (8 : Int32))] [(.int (8 : Int32))]))
        refine leafI X15 hx hlk Bd.returns (hb hby d8_27) ?_ (by decide) (by decide)
        exact ⟨by rw [if_neg hn0, if_neg hn1, if_pos hn2], N15, e15⟩
      · skip
        rw [(eqI_no hn2 : (eqI bs2 qn) = (0 : Int32))]
        show Gl _ _ _ _ (T15.setTop (mkF m 23 #[.val (.ref a1), .val (.ref aq), .val (.int (8 : Int32))] [(.int (0 : Int32))]))
        refine Gl.go (fun _ k => XS.ifYes X15.here hx rfl (pc0 := 23) (pc' := 28) rfl (hb hby d8_23) rfl ((if0 _ _).trans (teq rfl).1) (by decide) (by decide) k) ?_
        show Gl _ _ _ _ (T15.setTop (mkF m 28 #[.val (.ref a1), .val (.ref aq), .val (.int (8 : Int32))] []))
        refine Gl.go (fun _ k => XS.iinc X15.here hx rfl (hb hby d8_28) rfl (l' := #[.val (.ref a1), .val (.ref aq), .val (.int ((8 : Int32) + (4 : Int32)))]) rfl k) ?_
        show Gl _ _ _ _ (T15.setTop (mkF m 31 #[.val (.ref a1), .val (.ref aq), .val (.int ((8 : Int32) + (4 : Int32)))] []))
        rw [(by decide : ((8 : Int32) + (4 : Int32)) = (12 : Int32))]
        show Gl _ _ _ _ (T15.setTop (mkF m 31 #[.val (.ref a1), .val (.ref aq), .val (.int (12 : Int32))] []))
        refine Gl.go (fun _ k => XS.goto X15.here hx rfl (pc0 := 31) (pc' := 2) rfl (hb hby d8_31) (by decide) (by decide) k) ?_
        show Gl _ _ _ _ (T15.setTop (mkF m 2 #[.val (.ref a1), .val (.ref aq), .val (.int (12 : Int32))] []))
        refine Gl.go (fun _ k => XS.iloadN X15.here hx rfl (hb hby d8_2) rfl  k) ?_
        show Gl _ _ _ _ (T15.setTop (mkF m 3 #[.val (.ref a1), .val (.ref aq), .val (.int (12 : Int32))] [(.int (12 : Int32))]))
        refine Gl.go (fun _ k => XS.aloadN X15.here hx rfl (hb hby d8_3) rfl rfl  k) ?_
        show Gl _ _ _ _ (T15.setTop (mkF m 4 #[.val (.ref a1), .val (.ref aq), .val (.int (12 : Int32))] [(.ref a1), (.int (12 : Int32))]))
        obtain ⟨T16, X16, e16, st16⟩ := getF X15 hx hZ hown (host := "") (Or.inl (hw _ (List.mem_of_getElem? (i := 44) rfl))) Via.refl e15 Fa (g := (mkF m 4 #[.val (.ref a1), .val (.ref aq), .val (.int (12 : Int32))] [(.ref a1), (.int (12 : Int32))])) rfl rfl (hb hby d8_4)
        refine Gl.go (fun _ k => st16 _ k) ?_
        show Gl _ _ _ _ (T16.setTop (mkF m 7 #[.val (.ref a1), .val (.ref aq), .val (.int (12 : Int32))] [(.ref ar), (.int (12 : Int32))]))
        obtain ⟨cl17, Ar17, qA17, SA17, NA17, HA17, GA17⟩ := id Va
        refine Gl.go (fun _ k => X16.arraylength hx (by rw [e16]; exact Ar17.1) (State.isArrayOf_alike hZ.alike Ar17.2.1) (g := (mkF m 7 #[.val (.ref a1), .val (.ref aq), .val (.int (12 : Int32))] [(.ref ar), (.int (12 : Int32))])) rfl rfl (hb hby d8_7) _ k) ?_
        rw [len_of SA17 NA17]
        show Gl _ _ _ _ (T16.setTop (mkF m 8 #[.val (.ref a1), .val (.ref aq), .val (.int (12 : Int32))] [(.int (12 : Int32)), (.int (12 : Int32))]))
        refine Gl.go (fun _ k => XS.icmpYes X16.here hx rfl (pc0 := 8) (pc' := 34) rfl (hb hby d8_8) rfl (flt (by decide)).2.1 (by decide) (by decide) k) ?_
        show Gl _ _ _ _ (T16.setTop (mkF m 34 #[.val (.ref a1), .val (.ref aq), .val (.int (12 : Int32))] []))
        refine Gl.go (fun _ k => XS.iconst X16.here hx rfl (hb hby d8_34) k) ?_
        show Gl _ _ _ _ (T16.setTop (mkF m 35 #[.val (.ref a1), .val (.ref aq), .val (.int (12 : Int32))] [(.int (-1 : Int32))]))
        refine leafI X16 hx hlk Bd.returns (hb hby d8_35) ?_ (by decide) (by decide)
        exact ⟨by rw [if_neg hn0, if_neg hn1, if_neg hn2], N15, e16⟩
def Q_ha3 (Z : State) (a1 aq ar : Addr) (kA : ClassId) (qn : List Int32) (x0 : Addr) (x1 : Addr) (x2 : Addr) (x3 : Addr) (x4 : Addr) (x5 : Addr) (x6 : Addr) (x7 : Addr) (x8 : Addr) (x9 : Addr) (x10 : Addr) (x11 : Addr) (bs0 : List Int32) (bs1 : List Int32) (bs2 : List Int32) (G1 : Int32) (h0 : Heap) (n0 : Nat) (v : Option Value) (h : Heap) (L : List Loc) : Prop := v = some (.int (if (if bs0 = qn then (0 : Int32) else (if bs1 = qn then (4 : Int32) else (if bs2 = qn then (8 : Int32) else (-1 : Int32)))) < (0 : Int32) then (0 : Int32) else (1 : Int32))) ∧ Fr n0 L ∧ h = h0
set_option maxRecDepth 65536 in
set_option maxHeartbeats 40000000 in
theorem rm_ha3 (l : Launch) (Z : State) (a0 : Array Value) (hw : ∀ d ∈ tables_1, d.before a0 Z = true) (ws : List Jvm.Cond) (a1 aq ar : Addr) (kA : ClassId) (qn : List Int32) (x0 : Addr) (x1 : Addr) (x2 : Addr) (x3 : Addr) (x4 : Addr) (x5 : Addr) (x6 : Addr) (x7 : Addr) (x8 : Addr) (x9 : Addr) (x10 : Addr) (x11 : Addr) (bs0 : List Int32) (bs1 : List Int32) (bs2 : List Int32) (G1 : Int32) (h0 : Heap) (n0 : Nat) (Z0 : n0 ≤ h0.size) (E_a1 : (Exa Z h0 a1 "org/semfolio/Dom$Element")) (Fa : Fld Z h0 a1 "org/semfolio/Dom$Element" "attributes" "[Ljava/lang/String;" (.ref ar)) (Va : Arv Z h0 ar kA (.object "java/lang/String") (12 : Int32) [(.ref x0), (.ref x1), (.ref x2), (.ref x3), (.ref x4), (.ref x5), (.ref x6), (.ref x7), (.ref x8), (.ref x9), (.ref x10), (.ref x11)] .null) (Sq : StrAt Z h0 aq qn) (Sn0 : StrAt Z h0 x2 bs0) (Sn1 : StrAt Z h0 x6 bs1) (Sn2 : StrAt Z h0 x10 bs2) (SC : Sta Z h0 "java/lang/String" "COMPACT_STRINGS" "Z" (.int G1)) (P5 : ¬ (G1 = (0 : Int32))) :
    MetFree l (⟨"org/semfolio/Dom$Element", "hasAttribute", "(Ljava/lang/String;)Z"⟩ : MethodName) (head1 (Jvm.Cond.code (⟨"org/semfolio/Dom$Element", "hasAttribute", "(Ljava/lang/String;)Z"⟩ : MethodName) prog_16_method_6_code 2 (some .boolean) :: ws) ({ frames := 3, cells := 0, slots := 0, locals := 42 } : Room)) (fun aa U => aa = #[(.ref a1), (.ref aq)] ∧ Z.Warmed39 U.vm ∧ U.heap = h0) (fun _ _ _ _ _ => True) (fun _ U o U' => ∃ v L, o = .returned v ∧ Q_ha3 Z a1 aq ar kA qn x0 x1 x2 x3 x4 x5 x6 x7 x8 x9 x10 x11 bs0 bs1 bs2 G1 h0 n0 v U'.heap L ∧ FrameEnd U o U' L ({ frames := 3, cells := 0, slots := 0, locals := 42 } : Room).cells ({ frames := 3, cells := 0, slots := 0, locals := 42 } : Room).slots) := by
  refine MetFree.of_bodySF (plainFor_of_name pn_3) hisR ?_
  intro p e s m args below meth c s₁ Bd hml0 hP hK
  obtain ⟨rfl, hZ, hh⟩ := hP
  have hx := Bd.exec
  have hby := Bd.bytes
  have hml : c.maxLocals = 2 := hml0
  have hown : s.vm.findClass "org/semfolio/Dom$Element" = some m.cls := findClass_of_methodNamed Bd.named
  have hnm := (name_of_methodNamed Bd.named Bd.method).1
  have hlk : meth.locks = false := BodyLoose.notSynchronized Bd
  have X0 : Stand p l e ({ frames := 3, cells := 0, slots := 0, locals := 42 } : Room) s m #[(.ref a1), (.ref aq)] below meth c s₁ [] 0 0 := Stand.of_body Bd
  have e0 : s₁.heap = h0 := by rw [← hh, Bd.state]; rfl
  have N0 := Fr.nil n0
  have K0 : Keep h0 h0 [] := Keep.refl _ _
  show Gl p.tables e below (QQof s (Q_ha3 Z a1 aq ar kA qn x0 x1 x2 x3 x4 x5 x6 x7 x8 x9 x10 x11 bs0 bs1 bs2 G1 h0 n0) 0 0) (s₁.setTop (entryFrame m #[(.ref a1), (.ref aq)] 2))
  refine Gl.go (fun t k => castTop (ef_ha3 m a1 aq) k) ?_
  show Gl _ _ _ _ (s₁.setTop (mkF m 0 #[.val (.ref a1), .val (.ref aq)] []))
  refine Gl.go (fun _ k => XS.aloadN X0.here hx rfl (hb hby d7_0) rfl rfl  k) ?_
  show Gl _ _ _ _ (s₁.setTop (mkF m 1 #[.val (.ref a1), .val (.ref aq)] [(.ref a1)]))
  refine Gl.go (fun _ k => XS.aloadN X0.here hx rfl (hb hby d7_1) rfl rfl  k) ?_
  show Gl _ _ _ _ (s₁.setTop (mkF m 2 #[.val (.ref a1), .val (.ref aq)] [(.ref aq), (.ref a1)]))
  obtain ⟨cq1, q1a, q1b⟩ := Exa.cell E_a1
  obtain ⟨_, _, ⟨T1, L1, k1, n1⟩, -, X1, ⟨Lc1, hQ1, l1, y1, z1⟩, st1⟩ := X0.privateBack hx (y := (⟨"org/semfolio/Dom$Element", "find", "(Ljava/lang/String;)I"⟩ : MethodName)) hown (mvT hZ (hw _ (List.mem_of_getElem? (i := 51) rfl))) (mvT hZ (hw _ (List.mem_of_getElem? (i := 52) rfl))) (selPriv hZ (hw _ (List.mem_of_getElem? (i := 29) rfl)) (hw _ (List.mem_of_getElem? (i := 52) rfl)) (hw _ (List.mem_of_getElem? (i := 53) rfl)) (by decide)) (Cond.privateMethod_at (args := #[]) (mvP hZ (hw _ (List.mem_of_getElem? (i := 53) rfl)))) (mvT hZ (hw _ (List.mem_of_getElem? (i := 54) rfl))) (by decide) (backOf (W := 0) (rm_fd3 l Z a0 hw [] a1 aq ar kA qn x0 x1 x2 x3 x4 x5 x6 x7 x8 x9 x10 x11 bs0 bs1 bs2 G1 h0 n0 Z0 E_a1 Fa Va Sq Sn0 Sn1 Sn2 SC P5) hZ (hw _ (List.mem_of_getElem? (i := 54) rfl)) (hw _ (List.mem_of_getElem? (i := 30) rfl)) (by decide) (by decide)) (g := (mkF m 2 #[.val (.ref a1), .val (.ref aq)] [(.ref aq), (.ref a1)])) rfl (by rw [hml]; rfl) (Steps.refl _) (by rw [e0]; exact q1a) q1b (argsL := [(.ref aq)]) (rest := []) (lenOf pd_8 rfl) rfl (by show 2 * 0 + _ ≤ _; exact Nat.le_of_eq rfl) (hb hby d7_2) (fun _ _ => ⟨rfl, e0, (by decide : 0 + 0 ≤ _), (by decide : 0 + 0 ≤ _)⟩)
  dsimp only [Pt.U, Pt.locs, Pt.cells, Pt.slots] at X1 l1 y1 z1 st1 hQ1
  subst y1 z1
  obtain ⟨rfl, Nq1, e1⟩ := hQ1
  have N1 : Fr n0 L1 := by rw [l1]; exact Fr.app N0 Nq1
  refine Gl.go (fun _ k => st1.trans k) ?_
  show Gl _ _ _ _ (T1.setTop (mkF m 5 #[.val (.ref a1), .val (.ref aq)] [(.int (if bs0 = qn then (0 : Int32) else (if bs1 = qn then (4 : Int32) else (if bs2 = qn then (8 : Int32) else (-1 : Int32)))))]))
  by_cases hA : (if bs0 = qn then (0 : Int32) else (if bs1 = qn then (4 : Int32) else (if bs2 = qn then (8 : Int32) else (-1 : Int32)))) < (0 : Int32)
  · skip
    refine Gl.go (fun _ k => XS.ifYes X1.here hx rfl (pc0 := 5) (pc' := 12) rfl (hb hby d7_5) rfl ((if0 _ _).trans (tlt hA).1) (by decide) (by decide) k) ?_
    show Gl _ _ _ _ (T1.setTop (mkF m 12 #[.val (.ref a1), .val (.ref aq)] []))
    refine Gl.go (fun _ k => XS.iconst X1.here hx rfl (hb hby d7_12) k) ?_
    show Gl _ _ _ _ (T1.setTop (mkF m 13 #[.val (.ref a1), .val (.ref aq)] [(.int (0 : Int32))]))
    refine leafN X1 hx hlk (t := .boolean) Bd.returns (by simp) (hb hby d7_13) ?_ (by decide) (by decide)
    exact ⟨by rw [nar0, if_pos hA], N1, e1⟩
  · skip
    refine Gl.go (fun _ k => XS.ifNo X1.here hx rfl (hb hby d7_5) rfl ((if0 _ _).trans (flt hA).1) k) ?_
    show Gl _ _ _ _ (T1.setTop (mkF m 8 #[.val (.ref a1), .val (.ref aq)] []))
    refine Gl.go (fun _ k => XS.iconst X1.here hx rfl (hb hby d7_8) k) ?_
    show Gl _ _ _ _ (T1.setTop (mkF m 9 #[.val (.ref a1), .val (.ref aq)] [(.int (1 : Int32))]))
    refine Gl.go (fun _ k => XS.goto X1.here hx rfl (pc0 := 9) (pc' := 13) rfl (hb hby d7_9) (by decide) (by decide) k) ?_
    show Gl _ _ _ _ (T1.setTop (mkF m 13 #[.val (.ref a1), .val (.ref aq)] [(.int (1 : Int32))]))
    refine leafN X1 hx hlk (t := .boolean) Bd.returns (by simp) (hb hby d7_13) ?_ (by decide) (by decide)
    exact ⟨by rw [nar1, if_neg hA], N1, e1⟩
def Q_law (Z : State) (w0 w1 w2 w3 w4 : Int32) (w5 : Int64) (G1 : Int32) (h0 : Heap) (n0 : Nat) (v : Option Value) (h : Heap) (L : List Loc) : Prop := v = some (.int 1) ∧ Fr n0 L
set_option maxRecDepth 65536 in
set_option maxHeartbeats 40000000 in
theorem rm_law (l : Launch) (Z : State) (a0 : Array Value) (hw : ∀ d ∈ tables_1, d.before a0 Z = true) (ws : List Jvm.Cond) (w0 w1 w2 w3 w4 : Int32) (w5 : Int64) (G1 : Int32) (h0 : Heap) (n0 : Nat) (Z0 : n0 ≤ h0.size) (hEL : EW Z a0 elL) (hSA : ∀ a ∈ Bundle.stringAtoms, a.before a0 Z = true) (O2 : Sta Z Z.heap "java/lang/String" "COMPACT_STRINGS" "Z" (.int G1)) (P5 : ¬ (G1 = (0 : Int32))) (X00 : Old Z n0 h0) :
    MetFree l x (head1 (Jvm.Cond.code x code maxLocals ret :: ws) room_1) (fun aa U => aa = #[(.int w0), (.int w1), (.int w2), (.int w3), (.int w4), (.long w5)] ∧ Z.Warmed39 U.vm ∧ U.heap = h0 ∧ CHv Z elL U.vm h0) (fun _ _ _ _ _ => True) (fun _ U o U' => ∃ v L, o = .returned v ∧ Q_law Z w0 w1 w2 w3 w4 w5 G1 h0 n0 v U'.heap L ∧ CHr Z elL U.vm U.heap U'.vm U'.heap ∧ ReturnedEndW U o U' L 56 1280) := by
  refine MetFree.of_bodySF (plainFor_of_name pn_4) hisR ?_
  intro p e s m args below meth c s₁ Bd hml0 hP hK
  obtain ⟨rfl, hZ, hh, hCH⟩ := hP
  have hx := Bd.exec
  have hby := Bd.bytes
  have hml : c.maxLocals = 18 := hml0
  have hown : s.vm.findClass "org/semfolio/ElementHasAttributePinLaw" = some m.cls := findClass_of_methodNamed Bd.named
  have hnm := (name_of_methodNamed Bd.named Bd.method).1
  have hlk : meth.locks = false := BodyLoose.notSynchronized Bd
  have X0 : Stand p l e room_1 (s.setVm s.vm) m #[(.int w0), (.int w1), (.int w2), (.int w3), (.int w4), (.long w5)] below meth c s₁ [] 0 0 := Stand.of_body Bd
  have hS : s.Since s.vm 0 := (State.WarmedH.refl s).since 0
  have hk : 0 ≤ h0.size := Nat.zero_le _
  have CR0 : CHr Z elL s.vm h0 s.vm h0 := CHr.refl hCH
  have e0 : s₁.heap = h0 := by rw [← hh, Bd.state]; rfl
  have N0 := Fr.nil n0
  have K0 : Keep h0 h0 [] := Keep.refl _ _
  show Gl p.tables e below (QQofW Z elL s (Q_law Z w0 w1 w2 w3 w4 w5 G1 h0 n0) 56 1280) (s₁.setTop (entryFrame m #[(.int w0), (.int w1), (.int w2), (.int w3), (.int w4), (.long w5)] maxLocals))
  refine Gl.go (fun t k => castTop (ef_law m w0 w1 w2 w3 w4 w5) k) ?_
  show Gl _ _ _ _ (s₁.setTop (mkF m 0 #[.val (.int w0), .val (.int w1), .val (.int w2), .val (.int w3), .val (.int w4), .val (.long w5), .second, .unset, .unset, .unset, .unset, .unset, .unset, .unset, .unset, .unset, .unset, .unset] []))
  refine Gl.go (fun _ k => XS.iloadN X0.here hx rfl (hb hby at_0) rfl  k) ?_
  show Gl _ _ _ _ (s₁.setTop (mkF m 1 #[.val (.int w0), .val (.int w1), .val (.int w2), .val (.int w3), .val (.int w4), .val (.long w5), .second, .unset, .unset, .unset, .unset, .unset, .unset, .unset, .unset, .unset, .unset, .unset] [(.int w0)]))
  refine Gl.go (fun _ k => X0.ldcInt hx hown (mvT hZ (hw _ (List.mem_of_getElem? (i := 0) rfl))) (g := (mkF m 1 #[.val (.int w0), .val (.int w1), .val (.int w2), .val (.int w3), .val (.int w4), .val (.long w5), .second, .unset, .unset, .unset, .unset, .unset, .unset, .unset, .unset, .unset, .unset, .unset] [(.int w0)])) rfl (hb hby at_1) _ k) ?_
  show Gl _ _ _ _ (s₁.setTop (mkF m 3 #[.val (.int w0), .val (.int w1), .val (.int w2), .val (.int w3), .val (.int w4), .val (.long w5), .second, .unset, .unset, .unset, .unset, .unset, .unset, .unset, .unset, .unset, .unset, .unset] [(.int (2147483647 : Int32)), (.int w0)]))
  refine Gl.go (fun _ k => XS.iand X0.here hx rfl (hb hby at_3) rfl k) ?_
  show Gl _ _ _ _ (s₁.setTop (mkF m 4 #[.val (.int w0), .val (.int w1), .val (.int w2), .val (.int w3), .val (.int w4), .val (.long w5), .second, .unset, .unset, .unset, .unset, .unset, .unset, .unset, .unset, .unset, .unset, .unset] [(.int (w0 &&& (2147483647 : Int32)))]))
  refine Gl.go (fun _ k => XS.iconst X0.here hx rfl (hb hby at_4) k) ?_
  show Gl _ _ _ _ (s₁.setTop (mkF m 5 #[.val (.int w0), .val (.int w1), .val (.int w2), .val (.int w3), .val (.int w4), .val (.long w5), .second, .unset, .unset, .unset, .unset, .unset, .unset, .unset, .unset, .unset, .unset, .unset] [(.int (4 : Int32)), (.int (w0 &&& (2147483647 : Int32)))]))
  refine Gl.go (fun _ k => iremM X0 hx rfl (hb hby at_5) rfl (by decide) k) ?_
  show Gl _ _ _ _ (s₁.setTop (mkF m 6 #[.val (.int w0), .val (.int w1), .val (.int w2), .val (.int w3), .val (.int w4), .val (.long w5), .second, .unset, .unset, .unset, .unset, .unset, .unset, .unset, .unset, .unset, .unset, .unset] [(.int ((w0 &&& (2147483647 : Int32)) % (4 : Int32)))]))
  have hm := own_m4 w0
  generalize h_cm : ((w0 &&& (2147483647 : Int32)) % (4 : Int32)) = cm at hm ⊢
  show Gl _ _ _ _ (s₁.setTop (mkF m 6 #[.val (.int w0), .val (.int w1), .val (.int w2), .val (.int w3), .val (.int w4), .val (.long w5), .second, .unset, .unset, .unset, .unset, .unset, .unset, .unset, .unset, .unset, .unset, .unset] [(.int cm)]))
  refine Gl.go (fun _ k => XS.istore X0.here hx rfl (hb hby at_6) rfl (l' := #[.val (.int w0), .val (.int w1), .val (.int w2), .val (.int w3), .val (.int w4), .val (.long w5), .second, .val (.int cm), .unset, .unset, .unset, .unset, .unset, .unset, .unset, .unset, .unset, .unset]) rfl k) ?_
  show Gl _ _ _ _ (s₁.setTop (mkF m 8 #[.val (.int w0), .val (.int w1), .val (.int w2), .val (.int w3), .val (.int w4), .val (.long w5), .second, .val (.int cm), .unset, .unset, .unset, .unset, .unset, .unset, .unset, .unset, .unset, .unset] []))
  refine Gl.go (fun _ k => XS.iloadN X0.here hx rfl (hb hby at_8) rfl  k) ?_
  show Gl _ _ _ _ (s₁.setTop (mkF m 9 #[.val (.int w0), .val (.int w1), .val (.int w2), .val (.int w3), .val (.int w4), .val (.long w5), .second, .val (.int cm), .unset, .unset, .unset, .unset, .unset, .unset, .unset, .unset, .unset, .unset] [(.int w1)]))
  obtain ⟨_, _, ⟨T1, L1, k1, n1⟩, -, X1, hS1, hg1, ⟨Lc1, hQ1, l1, y1, z1, hC1⟩, st1⟩ := callSS X0 hx (y := (⟨"org/semfolio/ElementHasAttributePinLaw", "str", "(I)Ljava/lang/String;"⟩ : MethodName)) hown (mvT hZ (hw _ (List.mem_of_getElem? (i := 1) rfl))) (mvT hZ (hw _ (List.mem_of_getElem? (i := 2) rfl))) (mvT hZ (hw _ (List.mem_of_getElem? (i := 3) rfl))) (mvT hZ (hw _ (List.mem_of_getElem? (i := 4) rfl))) (by decide) (backOfSH (EL := elL) (W := 0) (rm_str l Z a0 hw [] w1 G1 h0 n0 Z0 hEL hSA O2 P5 X00) hZ (hw _ (List.mem_of_getElem? (i := 4) rfl)) (hw _ (List.mem_of_getElem? (i := 3) rfl)) (by decide) (by decide) hEL CR0.1) (g := (mkF m 9 #[.val (.int w0), .val (.int w1), .val (.int w2), .val (.int w3), .val (.int w4), .val (.long w5), .second, .val (.int cm), .unset, .unset, .unset, .unset, .unset, .unset, .unset, .unset, .unset, .unset] [(.int w1)])) rfl (by rw [hml]; rfl) (argsL := [(.int w1)]) (rest := []) (lenOf pd_10 rfl) rfl (by show 2 * 0 + _ ≤ _; exact Nat.le_of_eq rfl) (hb hby at_9) (fun _ _ => ⟨rfl, e0, (by decide : 0 + 6 ≤ _), (by decide : 0 + 12 ≤ _)⟩)
  dsimp only [Pt.U, Pt.locs, Pt.cells, Pt.slots] at X1 hS1 hg1 l1 y1 z1 st1 hQ1 hC1
  subst y1 z1
  have X1 : Stand p l e _ (s.setVm T1.vm) m _ below meth c T1 L1 _ _ := X1
  have hZo := hZ
  have hS : s.Since T1.vm T1.heap.size := foldS hS (by rw [e0]; exact hk) hS1 hg1
  have hk : T1.heap.size ≤ T1.heap.size := Nat.le_refl _
  have hZ : Z.Warmed39 T1.vm := State.Warmed39.trans (t := s.setVm s.vm) hZo hS1.1
  have hown : T1.vm.findClass "org/semfolio/ElementHasAttributePinLaw" = some m.cls := by rw [hS1.1.alike.findClass]; exact hown
  have CR1 : CHr Z elL s.vm h0 T1.vm T1.heap := CR0.trans hC1
  obtain ⟨a1, rfl, Nq1, Kc1, Sc1⟩ := hQ1
  have N1 : Fr n0 L1 := by rw [l1]; exact Fr.app N0 Nq1
  refine Gl.go (fun _ k => st1.trans k) ?_
  have Ex1 := ext_of_keep Kc1
  have O__1 : Old Z n0 T1.heap := X00.ext Ex1
  have SZ1 : n0 ≤ T1.heap.size := Nat.le_trans Z0 Ex1.1
  have K1 : Keep h0 T1.heap [] := K0.ext Ex1
  show Gl _ _ _ _ (T1.setTop (mkF m 12 #[.val (.int w0), .val (.int w1), .val (.int w2), .val (.int w3), .val (.int w4), .val (.long w5), .second, .val (.int cm), .unset, .unset, .unset, .unset, .unset, .unset, .unset, .unset, .unset, .unset] [(.ref a1)]))
  have KBq1 : Keep T1.heap T1.heap [] := Keep.refl _ _
  refine Gl.go (fun _ k => XS.astore X1.here hx rfl (hb hby at_12) rfl rfl (l' := #[.val (.int w0), .val (.int w1), .val (.int w2), .val (.int w3), .val (.int w4), .val (.long w5), .second, .val (.int cm), .val (.ref a1), .unset, .unset, .unset, .unset, .unset, .unset, .unset, .unset, .unset]) rfl k) ?_
  show Gl _ _ _ _ (T1.setTop (mkF m 14 #[.val (.int w0), .val (.int w1), .val (.int w2), .val (.int w3), .val (.int w4), .val (.long w5), .second, .val (.int cm), .val (.ref a1), .unset, .unset, .unset, .unset, .unset, .unset, .unset, .unset, .unset] []))
  refine Gl.go (fun _ k => XS.iloadN X1.here hx rfl (hb hby at_14) rfl  k) ?_
  show Gl _ _ _ _ (T1.setTop (mkF m 15 #[.val (.int w0), .val (.int w1), .val (.int w2), .val (.int w3), .val (.int w4), .val (.long w5), .second, .val (.int cm), .val (.ref a1), .unset, .unset, .unset, .unset, .unset, .unset, .unset, .unset, .unset] [(.int w2)]))
  obtain ⟨_, _, ⟨T2, L2, k2, n2⟩, -, X2, hS2, hg2, ⟨Lc2, hQ2, l2, y2, z2, hC2⟩, st2⟩ := callSS X1 hx (y := (⟨"org/semfolio/ElementHasAttributePinLaw", "str", "(I)Ljava/lang/String;"⟩ : MethodName)) hown (mvT hZ (hw _ (List.mem_of_getElem? (i := 1) rfl))) (mvT hZ (hw _ (List.mem_of_getElem? (i := 2) rfl))) (mvT hZ (hw _ (List.mem_of_getElem? (i := 3) rfl))) (mvT hZ (hw _ (List.mem_of_getElem? (i := 4) rfl))) (by decide) (backOfSH (EL := elL) (W := 0) (rm_str l Z a0 hw [] w2 G1 T1.heap n0 SZ1 hEL hSA O2 P5 O__1) hZ (hw _ (List.mem_of_getElem? (i := 4) rfl)) (hw _ (List.mem_of_getElem? (i := 3) rfl)) (by decide) (by decide) hEL CR1.1) (g := (mkF m 15 #[.val (.int w0), .val (.int w1), .val (.int w2), .val (.int w3), .val (.int w4), .val (.long w5), .second, .val (.int cm), .val (.ref a1), .unset, .unset, .unset, .unset, .unset, .unset, .unset, .unset, .unset] [(.int w2)])) rfl (by rw [hml]; rfl) (argsL := [(.int w2)]) (rest := []) (lenOf pd_10 rfl) rfl (by show 2 * 0 + _ ≤ _; exact Nat.le_of_eq rfl) (hb hby at_15) (fun _ _ => ⟨rfl, rfl, (by decide : 6 + 6 ≤ _), (by decide : 12 + 12 ≤ _)⟩)
  dsimp only [Pt.U, Pt.locs, Pt.cells, Pt.slots] at X2 hS2 hg2 l2 y2 z2 st2 hQ2 hC2
  subst y2 z2
  have X2 : Stand p l e _ (s.setVm T2.vm) m _ below meth c T2 L2 _ _ := X2
  have hZo := hZ
  have hS : s.Since T2.vm T2.heap.size := foldS hS hk hS2 hg2
  have hk : T2.heap.size ≤ T2.heap.size := Nat.le_refl _
  have hZ : Z.Warmed39 T2.vm := State.Warmed39.trans (t := s.setVm T1.vm) hZo hS2.1
  have hown : T2.vm.findClass "org/semfolio/ElementHasAttributePinLaw" = some m.cls := by rw [hS2.1.alike.findClass]; exact hown
  have CR2 : CHr Z elL s.vm h0 T2.vm T2.heap := CR1.trans hC2
  obtain ⟨a2, rfl, Nq2, Kc2, Sc2⟩ := hQ2
  have N2 : Fr n0 L2 := by rw [l2]; exact Fr.app N1 Nq2
  refine Gl.go (fun _ k => st2.trans k) ?_
  have Ex2 := ext_of_keep Kc2
  have O__2 : Old Z n0 T2.heap := O__1.ext Ex2
  have SZ2 : n0 ≤ T2.heap.size := Nat.le_trans SZ1 Ex2.1
  have K2 : Keep h0 T2.heap [] := K1.ext Ex2
  have KBq1_2 : Keep T1.heap T2.heap [] := KBq1.ext Ex2
  show Gl _ _ _ _ (T2.setTop (mkF m 18 #[.val (.int w0), .val (.int w1), .val (.int w2), .val (.int w3), .val (.int w4), .val (.long w5), .second, .val (.int cm), .val (.ref a1), .unset, .unset, .unset, .unset, .unset, .unset, .unset, .unset, .unset] [(.ref a2)]))
  have KBq2 : Keep T2.heap T2.heap [] := Keep.refl _ _
  refine Gl.go (fun _ k => XS.astore X2.here hx rfl (hb hby at_18) rfl rfl (l' := #[.val (.int w0), .val (.int w1), .val (.int w2), .val (.int w3), .val (.int w4), .val (.long w5), .second, .val (.int cm), .val (.ref a1), .val (.ref a2), .unset, .unset, .unset, .unset, .unset, .unset, .unset, .unset]) rfl k) ?_
  show Gl _ _ _ _ (T2.setTop (mkF m 20 #[.val (.int w0), .val (.int w1), .val (.int w2), .val (.int w3), .val (.int w4), .val (.long w5), .second, .val (.int cm), .val (.ref a1), .val (.ref a2), .unset, .unset, .unset, .unset, .unset, .unset, .unset, .unset] []))
  refine Gl.go (fun _ k => XS.iloadN X2.here hx rfl (hb hby at_20) rfl  k) ?_
  show Gl _ _ _ _ (T2.setTop (mkF m 21 #[.val (.int w0), .val (.int w1), .val (.int w2), .val (.int w3), .val (.int w4), .val (.long w5), .second, .val (.int cm), .val (.ref a1), .val (.ref a2), .unset, .unset, .unset, .unset, .unset, .unset, .unset, .unset] [(.int w3)]))
  obtain ⟨_, _, ⟨T3, L3, k3, n3⟩, -, X3, hS3, hg3, ⟨Lc3, hQ3, l3, y3, z3, hC3⟩, st3⟩ := callSS X2 hx (y := (⟨"org/semfolio/ElementHasAttributePinLaw", "str", "(I)Ljava/lang/String;"⟩ : MethodName)) hown (mvT hZ (hw _ (List.mem_of_getElem? (i := 1) rfl))) (mvT hZ (hw _ (List.mem_of_getElem? (i := 2) rfl))) (mvT hZ (hw _ (List.mem_of_getElem? (i := 3) rfl))) (mvT hZ (hw _ (List.mem_of_getElem? (i := 4) rfl))) (by decide) (backOfSH (EL := elL) (W := 0) (rm_str l Z a0 hw [] w3 G1 T2.heap n0 SZ2 hEL hSA O2 P5 O__2) hZ (hw _ (List.mem_of_getElem? (i := 4) rfl)) (hw _ (List.mem_of_getElem? (i := 3) rfl)) (by decide) (by decide) hEL CR2.1) (g := (mkF m 21 #[.val (.int w0), .val (.int w1), .val (.int w2), .val (.int w3), .val (.int w4), .val (.long w5), .second, .val (.int cm), .val (.ref a1), .val (.ref a2), .unset, .unset, .unset, .unset, .unset, .unset, .unset, .unset] [(.int w3)])) rfl (by rw [hml]; rfl) (argsL := [(.int w3)]) (rest := []) (lenOf pd_10 rfl) rfl (by show 2 * 0 + _ ≤ _; exact Nat.le_of_eq rfl) (hb hby at_21) (fun _ _ => ⟨rfl, rfl, (by decide : 12 + 6 ≤ _), (by decide : 24 + 12 ≤ _)⟩)
  dsimp only [Pt.U, Pt.locs, Pt.cells, Pt.slots] at X3 hS3 hg3 l3 y3 z3 st3 hQ3 hC3
  subst y3 z3
  have X3 : Stand p l e _ (s.setVm T3.vm) m _ below meth c T3 L3 _ _ := X3
  have hZo := hZ
  have hS : s.Since T3.vm T3.heap.size := foldS hS hk hS3 hg3
  have hk : T3.heap.size ≤ T3.heap.size := Nat.le_refl _
  have hZ : Z.Warmed39 T3.vm := State.Warmed39.trans (t := s.setVm T2.vm) hZo hS3.1
  have hown : T3.vm.findClass "org/semfolio/ElementHasAttributePinLaw" = some m.cls := by rw [hS3.1.alike.findClass]; exact hown
  have CR3 : CHr Z elL s.vm h0 T3.vm T3.heap := CR2.trans hC3
  obtain ⟨a3, rfl, Nq3, Kc3, Sc3⟩ := hQ3
  have N3 : Fr n0 L3 := by rw [l3]; exact Fr.app N2 Nq3
  refine Gl.go (fun _ k => st3.trans k) ?_
  have Ex3 := ext_of_keep Kc3
  have O__3 : Old Z n0 T3.heap := O__2.ext Ex3
  have SZ3 : n0 ≤ T3.heap.size := Nat.le_trans SZ2 Ex3.1
  have K3 : Keep h0 T3.heap [] := K2.ext Ex3
  have KBq1_3 : Keep T1.heap T3.heap [] := KBq1_2.ext Ex3
  have KBq2_3 : Keep T2.heap T3.heap [] := KBq2.ext Ex3
  show Gl _ _ _ _ (T3.setTop (mkF m 24 #[.val (.int w0), .val (.int w1), .val (.int w2), .val (.int w3), .val (.int w4), .val (.long w5), .second, .val (.int cm), .val (.ref a1), .val (.ref a2), .unset, .unset, .unset, .unset, .unset, .unset, .unset, .unset] [(.ref a3)]))
  have KBq3 : Keep T3.heap T3.heap [] := Keep.refl _ _
  refine Gl.go (fun _ k => XS.astore X3.here hx rfl (hb hby at_24) rfl rfl (l' := #[.val (.int w0), .val (.int w1), .val (.int w2), .val (.int w3), .val (.int w4), .val (.long w5), .second, .val (.int cm), .val (.ref a1), .val (.ref a2), .val (.ref a3), .unset, .unset, .unset, .unset, .unset, .unset, .unset]) rfl k) ?_
  show Gl _ _ _ _ (T3.setTop (mkF m 26 #[.val (.int w0), .val (.int w1), .val (.int w2), .val (.int w3), .val (.int w4), .val (.long w5), .second, .val (.int cm), .val (.ref a1), .val (.ref a2), .val (.ref a3), .unset, .unset, .unset, .unset, .unset, .unset, .unset] []))
  refine Gl.go (fun _ k => XS.lload X3.here hx rfl (hb hby at_26) rfl  k) ?_
  show Gl _ _ _ _ (T3.setTop (mkF m 28 #[.val (.int w0), .val (.int w1), .val (.int w2), .val (.int w3), .val (.int w4), .val (.long w5), .second, .val (.int cm), .val (.ref a1), .val (.ref a2), .val (.ref a3), .unset, .unset, .unset, .unset, .unset, .unset, .unset] [(.long w5)]))
  refine Gl.go (fun _ k => XS.l2i X3.here hx rfl (hb hby at_28) rfl k) ?_
  show Gl _ _ _ _ (T3.setTop (mkF m 29 #[.val (.int w0), .val (.int w1), .val (.int w2), .val (.int w3), .val (.int w4), .val (.long w5), .second, .val (.int cm), .val (.ref a1), .val (.ref a2), .val (.ref a3), .unset, .unset, .unset, .unset, .unset, .unset, .unset] [(.int (w5.toInt32))]))
  obtain ⟨_, _, ⟨T4, L4, k4, n4⟩, -, X4, hS4, hg4, ⟨Lc4, hQ4, l4, y4, z4, hC4⟩, st4⟩ := callSS X3 hx (y := (⟨"org/semfolio/ElementHasAttributePinLaw", "str", "(I)Ljava/lang/String;"⟩ : MethodName)) hown (mvT hZ (hw _ (List.mem_of_getElem? (i := 1) rfl))) (mvT hZ (hw _ (List.mem_of_getElem? (i := 2) rfl))) (mvT hZ (hw _ (List.mem_of_getElem? (i := 3) rfl))) (mvT hZ (hw _ (List.mem_of_getElem? (i := 4) rfl))) (by decide) (backOfSH (EL := elL) (W := 0) (rm_str l Z a0 hw [] (w5.toInt32) G1 T3.heap n0 SZ3 hEL hSA O2 P5 O__3) hZ (hw _ (List.mem_of_getElem? (i := 4) rfl)) (hw _ (List.mem_of_getElem? (i := 3) rfl)) (by decide) (by decide) hEL CR3.1) (g := (mkF m 29 #[.val (.int w0), .val (.int w1), .val (.int w2), .val (.int w3), .val (.int w4), .val (.long w5), .second, .val (.int cm), .val (.ref a1), .val (.ref a2), .val (.ref a3), .unset, .unset, .unset, .unset, .unset, .unset, .unset] [(.int (w5.toInt32))])) rfl (by rw [hml]; rfl) (argsL := [(.int (w5.toInt32))]) (rest := []) (lenOf pd_10 rfl) rfl (by show 2 * 0 + _ ≤ _; exact Nat.le_of_eq rfl) (hb hby at_29) (fun _ _ => ⟨rfl, rfl, (by decide : 18 + 6 ≤ _), (by decide : 36 + 12 ≤ _)⟩)
  dsimp only [Pt.U, Pt.locs, Pt.cells, Pt.slots] at X4 hS4 hg4 l4 y4 z4 st4 hQ4 hC4
  subst y4 z4
  have X4 : Stand p l e _ (s.setVm T4.vm) m _ below meth c T4 L4 _ _ := X4
  have hZo := hZ
  have hS : s.Since T4.vm T4.heap.size := foldS hS hk hS4 hg4
  have hk : T4.heap.size ≤ T4.heap.size := Nat.le_refl _
  have hZ : Z.Warmed39 T4.vm := State.Warmed39.trans (t := s.setVm T3.vm) hZo hS4.1
  have hown : T4.vm.findClass "org/semfolio/ElementHasAttributePinLaw" = some m.cls := by rw [hS4.1.alike.findClass]; exact hown
  have CR4 : CHr Z elL s.vm h0 T4.vm T4.heap := CR3.trans hC4
  obtain ⟨a4, rfl, Nq4, Kc4, Sc4⟩ := hQ4
  have N4 : Fr n0 L4 := by rw [l4]; exact Fr.app N3 Nq4
  refine Gl.go (fun _ k => st4.trans k) ?_
  have Ex4 := ext_of_keep Kc4
  have O__4 : Old Z n0 T4.heap := O__3.ext Ex4
  have SZ4 : n0 ≤ T4.heap.size := Nat.le_trans SZ3 Ex4.1
  have K4 : Keep h0 T4.heap [] := K3.ext Ex4
  have KBq1_4 : Keep T1.heap T4.heap [] := KBq1_3.ext Ex4
  have KBq2_4 : Keep T2.heap T4.heap [] := KBq2_3.ext Ex4
  have KBq3_4 : Keep T3.heap T4.heap [] := KBq3.ext Ex4
  show Gl _ _ _ _ (T4.setTop (mkF m 32 #[.val (.int w0), .val (.int w1), .val (.int w2), .val (.int w3), .val (.int w4), .val (.long w5), .second, .val (.int cm), .val (.ref a1), .val (.ref a2), .val (.ref a3), .unset, .unset, .unset, .unset, .unset, .unset, .unset] [(.ref a4)]))
  have KBq4 : Keep T4.heap T4.heap [] := Keep.refl _ _
  refine Gl.go (fun _ k => XS.astore X4.here hx rfl (hb hby at_32) rfl rfl (l' := #[.val (.int w0), .val (.int w1), .val (.int w2), .val (.int w3), .val (.int w4), .val (.long w5), .second, .val (.int cm), .val (.ref a1), .val (.ref a2), .val (.ref a3), .val (.ref a4), .unset, .unset, .unset, .unset, .unset, .unset]) rfl k) ?_
  show Gl _ _ _ _ (T4.setTop (mkF m 34 #[.val (.int w0), .val (.int w1), .val (.int w2), .val (.int w3), .val (.int w4), .val (.long w5), .second, .val (.int cm), .val (.ref a1), .val (.ref a2), .val (.ref a3), .val (.ref a4), .unset, .unset, .unset, .unset, .unset, .unset] []))
  refine Gl.go (fun _ k => XS.lload X4.here hx rfl (hb hby at_34) rfl  k) ?_
  show Gl _ _ _ _ (T4.setTop (mkF m 36 #[.val (.int w0), .val (.int w1), .val (.int w2), .val (.int w3), .val (.int w4), .val (.long w5), .second, .val (.int cm), .val (.ref a1), .val (.ref a2), .val (.ref a3), .val (.ref a4), .unset, .unset, .unset, .unset, .unset, .unset] [(.long w5)]))
  refine Gl.go (fun _ k => XS.bipush X4.here hx rfl (hb hby at_36) k) ?_
  show Gl _ _ _ _ (T4.setTop (mkF m 38 #[.val (.int w0), .val (.int w1), .val (.int w2), .val (.int w3), .val (.int w4), .val (.long w5), .second, .val (.int cm), .val (.ref a1), .val (.ref a2), .val (.ref a3), .val (.ref a4), .unset, .unset, .unset, .unset, .unset, .unset] [(.int (20 : Int32)), (.long w5)]))
  refine Gl.go (fun _ k => XS.lushr X4.here hx rfl (hb hby at_38) rfl k) ?_
  show Gl _ _ _ _ (T4.setTop (mkF m 39 #[.val (.int w0), .val (.int w1), .val (.int w2), .val (.int w3), .val (.int w4), .val (.long w5), .second, .val (.int cm), .val (.ref a1), .val (.ref a2), .val (.ref a3), .val (.ref a4), .unset, .unset, .unset, .unset, .unset, .unset] [(.long ((w5.toUInt64 >>> ((20 : Int32) &&& 0x3f).toInt64.toUInt64).toInt64))]))
  refine Gl.go (fun _ k => XS.l2i X4.here hx rfl (hb hby at_39) rfl k) ?_
  show Gl _ _ _ _ (T4.setTop (mkF m 40 #[.val (.int w0), .val (.int w1), .val (.int w2), .val (.int w3), .val (.int w4), .val (.long w5), .second, .val (.int cm), .val (.ref a1), .val (.ref a2), .val (.ref a3), .val (.ref a4), .unset, .unset, .unset, .unset, .unset, .unset] [(.int (((w5.toUInt64 >>> ((20 : Int32) &&& 0x3f).toInt64.toUInt64).toInt64).toInt32))]))
  obtain ⟨_, _, ⟨T5, L5, k5, n5⟩, -, X5, hS5, hg5, ⟨Lc5, hQ5, l5, y5, z5, hC5⟩, st5⟩ := callSS X4 hx (y := (⟨"org/semfolio/ElementHasAttributePinLaw", "str", "(I)Ljava/lang/String;"⟩ : MethodName)) hown (mvT hZ (hw _ (List.mem_of_getElem? (i := 1) rfl))) (mvT hZ (hw _ (List.mem_of_getElem? (i := 2) rfl))) (mvT hZ (hw _ (List.mem_of_getElem? (i := 3) rfl))) (mvT hZ (hw _ (List.mem_of_getElem? (i := 4) rfl))) (by decide) (backOfSH (EL := elL) (W := 0) (rm_str l Z a0 hw [] (((w5.toUInt64 >>> ((20 : Int32) &&& 0x3f).toInt64.toUInt64).toInt64).toInt32) G1 T4.heap n0 SZ4 hEL hSA O2 P5 O__4) hZ (hw _ (List.mem_of_getElem? (i := 4) rfl)) (hw _ (List.mem_of_getElem? (i := 3) rfl)) (by decide) (by decide) hEL CR4.1) (g := (mkF m 40 #[.val (.int w0), .val (.int w1), .val (.int w2), .val (.int w3), .val (.int w4), .val (.long w5), .second, .val (.int cm), .val (.ref a1), .val (.ref a2), .val (.ref a3), .val (.ref a4), .unset, .unset, .unset, .unset, .unset, .unset] [(.int (((w5.toUInt64 >>> ((20 : Int32) &&& 0x3f).toInt64.toUInt64).toInt64).toInt32))])) rfl (by rw [hml]; rfl) (argsL := [(.int (((w5.toUInt64 >>> ((20 : Int32) &&& 0x3f).toInt64.toUInt64).toInt64).toInt32))]) (rest := []) (lenOf pd_10 rfl) rfl (by show 2 * 0 + _ ≤ _; exact Nat.le_of_eq rfl) (hb hby at_40) (fun _ _ => ⟨rfl, rfl, (by decide : 24 + 6 ≤ _), (by decide : 48 + 12 ≤ _)⟩)
  dsimp only [Pt.U, Pt.locs, Pt.cells, Pt.slots] at X5 hS5 hg5 l5 y5 z5 st5 hQ5 hC5
  subst y5 z5
  have X5 : Stand p l e _ (s.setVm T5.vm) m _ below meth c T5 L5 _ _ := X5
  have hZo := hZ
  have hS : s.Since T5.vm T5.heap.size := foldS hS hk hS5 hg5
  have hk : T5.heap.size ≤ T5.heap.size := Nat.le_refl _
  have hZ : Z.Warmed39 T5.vm := State.Warmed39.trans (t := s.setVm T4.vm) hZo hS5.1
  have hown : T5.vm.findClass "org/semfolio/ElementHasAttributePinLaw" = some m.cls := by rw [hS5.1.alike.findClass]; exact hown
  have CR5 : CHr Z elL s.vm h0 T5.vm T5.heap := CR4.trans hC5
  obtain ⟨a5, rfl, Nq5, Kc5, Sc5⟩ := hQ5
  have N5 : Fr n0 L5 := by rw [l5]; exact Fr.app N4 Nq5
  refine Gl.go (fun _ k => st5.trans k) ?_
  have Ex5 := ext_of_keep Kc5
  have O__5 : Old Z n0 T5.heap := O__4.ext Ex5
  have SZ5 : n0 ≤ T5.heap.size := Nat.le_trans SZ4 Ex5.1
  have K5 : Keep h0 T5.heap [] := K4.ext Ex5
  have KBq1_5 : Keep T1.heap T5.heap [] := KBq1_4.ext Ex5
  have KBq2_5 : Keep T2.heap T5.heap [] := KBq2_4.ext Ex5
  have KBq3_5 : Keep T3.heap T5.heap [] := KBq3_4.ext Ex5
  have KBq4_5 : Keep T4.heap T5.heap [] := KBq4.ext Ex5
  show Gl _ _ _ _ (T5.setTop (mkF m 43 #[.val (.int w0), .val (.int w1), .val (.int w2), .val (.int w3), .val (.int w4), .val (.long w5), .second, .val (.int cm), .val (.ref a1), .val (.ref a2), .val (.ref a3), .val (.ref a4), .unset, .unset, .unset, .unset, .unset, .unset] [(.ref a5)]))
  have KBq5 : Keep T5.heap T5.heap [] := Keep.refl _ _
  refine Gl.go (fun _ k => XS.astore X5.here hx rfl (hb hby at_43) rfl rfl (l' := #[.val (.int w0), .val (.int w1), .val (.int w2), .val (.int w3), .val (.int w4), .val (.long w5), .second, .val (.int cm), .val (.ref a1), .val (.ref a2), .val (.ref a3), .val (.ref a4), .val (.ref a5), .unset, .unset, .unset, .unset, .unset]) rfl k) ?_
  show Gl _ _ _ _ (T5.setTop (mkF m 45 #[.val (.int w0), .val (.int w1), .val (.int w2), .val (.int w3), .val (.int w4), .val (.long w5), .second, .val (.int cm), .val (.ref a1), .val (.ref a2), .val (.ref a3), .val (.ref a4), .val (.ref a5), .unset, .unset, .unset, .unset, .unset] []))
  refine Gl.go (fun _ k => XS.lload X5.here hx rfl (hb hby at_45) rfl  k) ?_
  show Gl _ _ _ _ (T5.setTop (mkF m 47 #[.val (.int w0), .val (.int w1), .val (.int w2), .val (.int w3), .val (.int w4), .val (.long w5), .second, .val (.int cm), .val (.ref a1), .val (.ref a2), .val (.ref a3), .val (.ref a4), .val (.ref a5), .unset, .unset, .unset, .unset, .unset] [(.long w5)]))
  refine Gl.go (fun _ k => XS.bipush X5.here hx rfl (hb hby at_47) k) ?_
  show Gl _ _ _ _ (T5.setTop (mkF m 49 #[.val (.int w0), .val (.int w1), .val (.int w2), .val (.int w3), .val (.int w4), .val (.long w5), .second, .val (.int cm), .val (.ref a1), .val (.ref a2), .val (.ref a3), .val (.ref a4), .val (.ref a5), .unset, .unset, .unset, .unset, .unset] [(.int (40 : Int32)), (.long w5)]))
  refine Gl.go (fun _ k => XS.lushr X5.here hx rfl (hb hby at_49) rfl k) ?_
  show Gl _ _ _ _ (T5.setTop (mkF m 50 #[.val (.int w0), .val (.int w1), .val (.int w2), .val (.int w3), .val (.int w4), .val (.long w5), .second, .val (.int cm), .val (.ref a1), .val (.ref a2), .val (.ref a3), .val (.ref a4), .val (.ref a5), .unset, .unset, .unset, .unset, .unset] [(.long ((w5.toUInt64 >>> ((40 : Int32) &&& 0x3f).toInt64.toUInt64).toInt64))]))
  refine Gl.go (fun _ k => XS.l2i X5.here hx rfl (hb hby at_50) rfl k) ?_
  show Gl _ _ _ _ (T5.setTop (mkF m 51 #[.val (.int w0), .val (.int w1), .val (.int w2), .val (.int w3), .val (.int w4), .val (.long w5), .second, .val (.int cm), .val (.ref a1), .val (.ref a2), .val (.ref a3), .val (.ref a4), .val (.ref a5), .unset, .unset, .unset, .unset, .unset] [(.int (((w5.toUInt64 >>> ((40 : Int32) &&& 0x3f).toInt64.toUInt64).toInt64).toInt32))]))
  obtain ⟨_, _, ⟨T6, L6, k6, n6⟩, -, X6, hS6, hg6, ⟨Lc6, hQ6, l6, y6, z6, hC6⟩, st6⟩ := callSS X5 hx (y := (⟨"org/semfolio/ElementHasAttributePinLaw", "str", "(I)Ljava/lang/String;"⟩ : MethodName)) hown (mvT hZ (hw _ (List.mem_of_getElem? (i := 1) rfl))) (mvT hZ (hw _ (List.mem_of_getElem? (i := 2) rfl))) (mvT hZ (hw _ (List.mem_of_getElem? (i := 3) rfl))) (mvT hZ (hw _ (List.mem_of_getElem? (i := 4) rfl))) (by decide) (backOfSH (EL := elL) (W := 0) (rm_str l Z a0 hw [] (((w5.toUInt64 >>> ((40 : Int32) &&& 0x3f).toInt64.toUInt64).toInt64).toInt32) G1 T5.heap n0 SZ5 hEL hSA O2 P5 O__5) hZ (hw _ (List.mem_of_getElem? (i := 4) rfl)) (hw _ (List.mem_of_getElem? (i := 3) rfl)) (by decide) (by decide) hEL CR5.1) (g := (mkF m 51 #[.val (.int w0), .val (.int w1), .val (.int w2), .val (.int w3), .val (.int w4), .val (.long w5), .second, .val (.int cm), .val (.ref a1), .val (.ref a2), .val (.ref a3), .val (.ref a4), .val (.ref a5), .unset, .unset, .unset, .unset, .unset] [(.int (((w5.toUInt64 >>> ((40 : Int32) &&& 0x3f).toInt64.toUInt64).toInt64).toInt32))])) rfl (by rw [hml]; rfl) (argsL := [(.int (((w5.toUInt64 >>> ((40 : Int32) &&& 0x3f).toInt64.toUInt64).toInt64).toInt32))]) (rest := []) (lenOf pd_10 rfl) rfl (by show 2 * 0 + _ ≤ _; exact Nat.le_of_eq rfl) (hb hby at_51) (fun _ _ => ⟨rfl, rfl, (by decide : 30 + 6 ≤ _), (by decide : 60 + 12 ≤ _)⟩)
  dsimp only [Pt.U, Pt.locs, Pt.cells, Pt.slots] at X6 hS6 hg6 l6 y6 z6 st6 hQ6 hC6
  subst y6 z6
  have X6 : Stand p l e _ (s.setVm T6.vm) m _ below meth c T6 L6 _ _ := X6
  have hZo := hZ
  have hS : s.Since T6.vm T6.heap.size := foldS hS hk hS6 hg6
  have hk : T6.heap.size ≤ T6.heap.size := Nat.le_refl _
  have hZ : Z.Warmed39 T6.vm := State.Warmed39.trans (t := s.setVm T5.vm) hZo hS6.1
  have hown : T6.vm.findClass "org/semfolio/ElementHasAttributePinLaw" = some m.cls := by rw [hS6.1.alike.findClass]; exact hown
  have CR6 : CHr Z elL s.vm h0 T6.vm T6.heap := CR5.trans hC6
  obtain ⟨a6, rfl, Nq6, Kc6, Sc6⟩ := hQ6
  have N6 : Fr n0 L6 := by rw [l6]; exact Fr.app N5 Nq6
  refine Gl.go (fun _ k => st6.trans k) ?_
  have Ex6 := ext_of_keep Kc6
  have O__6 : Old Z n0 T6.heap := O__5.ext Ex6
  have SZ6 : n0 ≤ T6.heap.size := Nat.le_trans SZ5 Ex6.1
  have K6 : Keep h0 T6.heap [] := K5.ext Ex6
  have KBq1_6 : Keep T1.heap T6.heap [] := KBq1_5.ext Ex6
  have KBq2_6 : Keep T2.heap T6.heap [] := KBq2_5.ext Ex6
  have KBq3_6 : Keep T3.heap T6.heap [] := KBq3_5.ext Ex6
  have KBq4_6 : Keep T4.heap T6.heap [] := KBq4_5.ext Ex6
  have KBq5_6 : Keep T5.heap T6.heap [] := KBq5.ext Ex6
  show Gl _ _ _ _ (T6.setTop (mkF m 54 #[.val (.int w0), .val (.int w1), .val (.int w2), .val (.int w3), .val (.int w4), .val (.long w5), .second, .val (.int cm), .val (.ref a1), .val (.ref a2), .val (.ref a3), .val (.ref a4), .val (.ref a5), .unset, .unset, .unset, .unset, .unset] [(.ref a6)]))
  have KBq6 : Keep T6.heap T6.heap [] := Keep.refl _ _
  refine Gl.go (fun _ k => XS.astore X6.here hx rfl (hb hby at_54) rfl rfl (l' := #[.val (.int w0), .val (.int w1), .val (.int w2), .val (.int w3), .val (.int w4), .val (.long w5), .second, .val (.int cm), .val (.ref a1), .val (.ref a2), .val (.ref a3), .val (.ref a4), .val (.ref a5), .val (.ref a6), .unset, .unset, .unset, .unset]) rfl k) ?_
  show Gl _ _ _ _ (T6.setTop (mkF m 56 #[.val (.int w0), .val (.int w1), .val (.int w2), .val (.int w3), .val (.int w4), .val (.long w5), .second, .val (.int cm), .val (.ref a1), .val (.ref a2), .val (.ref a3), .val (.ref a4), .val (.ref a5), .val (.ref a6), .unset, .unset, .unset, .unset] []))
  refine Gl.go (fun _ k => XS.iload X6.here hx rfl (hb hby at_56) rfl  k) ?_
  show Gl _ _ _ _ (T6.setTop (mkF m 58 #[.val (.int w0), .val (.int w1), .val (.int w2), .val (.int w3), .val (.int w4), .val (.long w5), .second, .val (.int cm), .val (.ref a1), .val (.ref a2), .val (.ref a3), .val (.ref a4), .val (.ref a5), .val (.ref a6), .unset, .unset, .unset, .unset] [(.int w4)]))
  obtain ⟨_, _, ⟨T7, L7, k7, n7⟩, -, X7, hS7, hg7, ⟨Lc7, hQ7, l7, y7, z7, hC7⟩, st7⟩ := callSS X6 hx (y := (⟨"org/semfolio/ElementHasAttributePinLaw", "str", "(I)Ljava/lang/String;"⟩ : MethodName)) hown (mvT hZ (hw _ (List.mem_of_getElem? (i := 1) rfl))) (mvT hZ (hw _ (List.mem_of_getElem? (i := 2) rfl))) (mvT hZ (hw _ (List.mem_of_getElem? (i := 3) rfl))) (mvT hZ (hw _ (List.mem_of_getElem? (i := 4) rfl))) (by decide) (backOfSH (EL := elL) (W := 0) (rm_str l Z a0 hw [] w4 G1 T6.heap n0 SZ6 hEL hSA O2 P5 O__6) hZ (hw _ (List.mem_of_getElem? (i := 4) rfl)) (hw _ (List.mem_of_getElem? (i := 3) rfl)) (by decide) (by decide) hEL CR6.1) (g := (mkF m 58 #[.val (.int w0), .val (.int w1), .val (.int w2), .val (.int w3), .val (.int w4), .val (.long w5), .second, .val (.int cm), .val (.ref a1), .val (.ref a2), .val (.ref a3), .val (.ref a4), .val (.ref a5), .val (.ref a6), .unset, .unset, .unset, .unset] [(.int w4)])) rfl (by rw [hml]; rfl) (argsL := [(.int w4)]) (rest := []) (lenOf pd_10 rfl) rfl (by show 2 * 0 + _ ≤ _; exact Nat.le_of_eq rfl) (hb hby at_58) (fun _ _ => ⟨rfl, rfl, (by decide : 36 + 6 ≤ _), (by decide : 72 + 12 ≤ _)⟩)
  dsimp only [Pt.U, Pt.locs, Pt.cells, Pt.slots] at X7 hS7 hg7 l7 y7 z7 st7 hQ7 hC7
  subst y7 z7
  have X7 : Stand p l e _ (s.setVm T7.vm) m _ below meth c T7 L7 _ _ := X7
  have hZo := hZ
  have hS : s.Since T7.vm T7.heap.size := foldS hS hk hS7 hg7
  have hk : T7.heap.size ≤ T7.heap.size := Nat.le_refl _
  have hZ : Z.Warmed39 T7.vm := State.Warmed39.trans (t := s.setVm T6.vm) hZo hS7.1
  have hown : T7.vm.findClass "org/semfolio/ElementHasAttributePinLaw" = some m.cls := by rw [hS7.1.alike.findClass]; exact hown
  have CR7 : CHr Z elL s.vm h0 T7.vm T7.heap := CR6.trans hC7
  obtain ⟨a7, rfl, Nq7, Kc7, Sc7⟩ := hQ7
  have N7 : Fr n0 L7 := by rw [l7]; exact Fr.app N6 Nq7
  refine Gl.go (fun _ k => st7.trans k) ?_
  have Ex7 := ext_of_keep Kc7
  have O__7 : Old Z n0 T7.heap := O__6.ext Ex7
  have SZ7 : n0 ≤ T7.heap.size := Nat.le_trans SZ6 Ex7.1
  have K7 : Keep h0 T7.heap [] := K6.ext Ex7
  have KBq1_7 : Keep T1.heap T7.heap [] := KBq1_6.ext Ex7
  have KBq2_7 : Keep T2.heap T7.heap [] := KBq2_6.ext Ex7
  have KBq3_7 : Keep T3.heap T7.heap [] := KBq3_6.ext Ex7
  have KBq4_7 : Keep T4.heap T7.heap [] := KBq4_6.ext Ex7
  have KBq5_7 : Keep T5.heap T7.heap [] := KBq5_6.ext Ex7
  have KBq6_7 : Keep T6.heap T7.heap [] := KBq6.ext Ex7
  show Gl _ _ _ _ (T7.setTop (mkF m 61 #[.val (.int w0), .val (.int w1), .val (.int w2), .val (.int w3), .val (.int w4), .val (.long w5), .second, .val (.int cm), .val (.ref a1), .val (.ref a2), .val (.ref a3), .val (.ref a4), .val (.ref a5), .val (.ref a6), .unset, .unset, .unset, .unset] [(.ref a7)]))
  have KBq7 : Keep T7.heap T7.heap [] := Keep.refl _ _
  refine Gl.go (fun _ k => XS.astore X7.here hx rfl (hb hby at_61) rfl rfl (l' := #[.val (.int w0), .val (.int w1), .val (.int w2), .val (.int w3), .val (.int w4), .val (.long w5), .second, .val (.int cm), .val (.ref a1), .val (.ref a2), .val (.ref a3), .val (.ref a4), .val (.ref a5), .val (.ref a6), .val (.ref a7), .unset, .unset, .unset]) rfl k) ?_
  show Gl _ _ _ _ (T7.setTop (mkF m 63 #[.val (.int w0), .val (.int w1), .val (.int w2), .val (.int w3), .val (.int w4), .val (.long w5), .second, .val (.int cm), .val (.ref a1), .val (.ref a2), .val (.ref a3), .val (.ref a4), .val (.ref a5), .val (.ref a6), .val (.ref a7), .unset, .unset, .unset] []))
  refine Gl.go (fun _ k => XS.iload X7.here hx rfl (hb hby at_63) rfl  k) ?_
  show Gl _ _ _ _ (T7.setTop (mkF m 65 #[.val (.int w0), .val (.int w1), .val (.int w2), .val (.int w3), .val (.int w4), .val (.long w5), .second, .val (.int cm), .val (.ref a1), .val (.ref a2), .val (.ref a3), .val (.ref a4), .val (.ref a5), .val (.ref a6), .val (.ref a7), .unset, .unset, .unset] [(.int cm)]))
  obtain ⟨c0_, h_c0⟩ : ∃ l : List Int32, stV w1 = l := ⟨_, rfl⟩
  have Sd0 : StrAt Z T7.heap a1 c0_ := by rw [← h_c0]; exact Sc1.ext (ext_of_keep KBq1_7)
  obtain ⟨c1_, h_c1⟩ : ∃ l : List Int32, stV w2 = l := ⟨_, rfl⟩
  have Sd1 : StrAt Z T7.heap a2 c1_ := by rw [← h_c1]; exact Sc2.ext (ext_of_keep KBq2_7)
  obtain ⟨c2_, h_c2⟩ : ∃ l : List Int32, stV w3 = l := ⟨_, rfl⟩
  have Sd2 : StrAt Z T7.heap a3 c2_ := by rw [← h_c2]; exact Sc3.ext (ext_of_keep KBq3_7)
  obtain ⟨c3_, h_c3⟩ : ∃ l : List Int32, stV (w5.toInt32) = l := ⟨_, rfl⟩
  have Sd3 : StrAt Z T7.heap a4 c3_ := by rw [← h_c3]; exact Sc4.ext (ext_of_keep KBq4_7)
  obtain ⟨c4_, h_c4⟩ : ∃ l : List Int32, stV (((w5.toUInt64 >>> ((20 : Int32) &&& 0x3f).toInt64.toUInt64).toInt64).toInt32) = l := ⟨_, rfl⟩
  have Sd4 : StrAt Z T7.heap a5 c4_ := by rw [← h_c4]; exact Sc5.ext (ext_of_keep KBq5_7)
  obtain ⟨c5_, h_c5⟩ : ∃ l : List Int32, stV (((w5.toUInt64 >>> ((40 : Int32) &&& 0x3f).toInt64.toUInt64).toInt64).toInt32) = l := ⟨_, rfl⟩
  have Sd5 : StrAt Z T7.heap a6 c5_ := by rw [← h_c5]; exact Sc6.ext (ext_of_keep KBq6_7)
  obtain ⟨c6_, h_c6⟩ : ∃ l : List Int32, stV w4 = l := ⟨_, rfl⟩
  have Sd6 : StrAt Z T7.heap a7 c6_ := by rw [← h_c6]; exact Sc7.ext (ext_of_keep KBq7)
  have KBB : Keep T7.heap T7.heap [] := Keep.refl _ _
  rcases hm with hm | hm | hm | hm
  · skip
    rw [(hm : cm = (0 : Int32))]
    show Gl _ _ _ _ (T7.setTop (mkF m 65 #[.val (.int w0), .val (.int w1), .val (.int w2), .val (.int w3), .val (.int w4), .val (.long w5), .second, .val (.int (0 : Int32)), .val (.ref a1), .val (.ref a2), .val (.ref a3), .val (.ref a4), .val (.ref a5), .val (.ref a6), .val (.ref a7), .unset, .unset, .unset] [(.int (0 : Int32))]))
    refine Gl.go (fun _ k => XS.ifNo X7.here hx rfl (hb hby at_65) rfl ((if0 _ _).trans (teq rfl).2) k) ?_
    show Gl _ _ _ _ (T7.setTop (mkF m 68 #[.val (.int w0), .val (.int w1), .val (.int w2), .val (.int w3), .val (.int w4), .val (.long w5), .second, .val (.int (0 : Int32)), .val (.ref a1), .val (.ref a2), .val (.ref a3), .val (.ref a4), .val (.ref a5), .val (.ref a6), .val (.ref a7), .unset, .unset, .unset] []))
    refine Gl.go (fun _ k => XS.iconst X7.here hx rfl (hb hby at_68) k) ?_
    show Gl _ _ _ _ (T7.setTop (mkF m 69 #[.val (.int w0), .val (.int w1), .val (.int w2), .val (.int w3), .val (.int w4), .val (.long w5), .second, .val (.int (0 : Int32)), .val (.ref a1), .val (.ref a2), .val (.ref a3), .val (.ref a4), .val (.ref a5), .val (.ref a6), .val (.ref a7), .unset, .unset, .unset] [(.int (0 : Int32))]))
    obtain ⟨T8, h8, cA8, X8, e8, E8, A8, O8, st8⟩ := newR X7 hx hZ hown (hw _ (List.mem_of_getElem? (i := 5) rfl)) (hw _ (List.mem_of_getElem? (i := 27) rfl)) rfl (g := (mkF m 69 #[.val (.int w0), .val (.int w1), .val (.int w2), .val (.int w3), .val (.int w4), .val (.long w5), .second, .val (.int (0 : Int32)), .val (.ref a1), .val (.ref a2), .val (.ref a3), .val (.ref a4), .val (.ref a5), .val (.ref a6), .val (.ref a7), .unset, .unset, .unset] [(.int (0 : Int32))])) rfl (hb hby at_69) rfl (by decide) (cap := 0) (by decide) (by decide) (by decide) (by decide)
    obtain ⟨b8, g8⟩ : ∃ z, z = T7.heap.size := ⟨_, rfl⟩
    rw [← g8] at A8 st8
    have g_b8 : n0 ≤ b8 := Nat.le_trans SZ7 (Nat.le_of_eq g8.symm)
    have sz_b8 : h0.size ≤ b8 := Nat.le_trans K7.1 (Nat.le_of_eq g8.symm)
    have szb_B_b8 : T7.heap.size ≤ b8 := Nat.le_trans KBB.1 (Nat.le_of_eq g8.symm)
    have O__8 : Old Z n0 h8 := O__7.ext E8
    have SZ8 : n0 ≤ h8.size := Nat.le_trans SZ7 E8.1
    have K8 : Keep h0 h8 [] := K7.ext E8
    have KBB_8 : Keep T7.heap h8 [] := KBB.ext E8
    have hk := Nat.le_trans hk E8.1
    have CR8 : CHr Z elL s.vm h0 T7.vm h8 := CR7.trans (CHr.ext E8 CR7.1)
    have V_b8_8 : Arv Z h8 b8 cA8 (.object "java/lang/String") (0 : Int32) [] .null := (Arv.new A8 (by decide)).pad (pad_rep [] _ 0)
    refine Gl.go (fun _ k => st8 _ k) ?_
    show Gl _ _ _ _ (T8.setTop (mkF m 72 #[.val (.int w0), .val (.int w1), .val (.int w2), .val (.int w3), .val (.int w4), .val (.long w5), .second, .val (.int (0 : Int32)), .val (.ref a1), .val (.ref a2), .val (.ref a3), .val (.ref a4), .val (.ref a5), .val (.ref a6), .val (.ref a7), .unset, .unset, .unset] [(.ref b8)]))
    refine Gl.go (fun _ k => XS.goto X8.here hx rfl (pc0 := 72) (pc' := 107) rfl (hb hby at_72) (by decide) (by decide) k) ?_
    show Gl _ _ _ _ (T8.setTop (mkF m 107 #[.val (.int w0), .val (.int w1), .val (.int w2), .val (.int w3), .val (.int w4), .val (.long w5), .second, .val (.int (0 : Int32)), .val (.ref a1), .val (.ref a2), .val (.ref a3), .val (.ref a4), .val (.ref a5), .val (.ref a6), .val (.ref a7), .unset, .unset, .unset] [(.ref b8)]))
    refine Gl.go (fun _ k => XS.astore X8.here hx rfl (hb hby at_107) rfl rfl (l' := #[.val (.int w0), .val (.int w1), .val (.int w2), .val (.int w3), .val (.int w4), .val (.long w5), .second, .val (.int (0 : Int32)), .val (.ref a1), .val (.ref a2), .val (.ref a3), .val (.ref a4), .val (.ref a5), .val (.ref a6), .val (.ref a7), .val (.ref b8), .unset, .unset]) rfl k) ?_
    show Gl _ _ _ _ (T8.setTop (mkF m 109 #[.val (.int w0), .val (.int w1), .val (.int w2), .val (.int w3), .val (.int w4), .val (.long w5), .second, .val (.int (0 : Int32)), .val (.ref a1), .val (.ref a2), .val (.ref a3), .val (.ref a4), .val (.ref a5), .val (.ref a6), .val (.ref a7), .val (.ref b8), .unset, .unset] []))
    refine Gl.go (fun _ k => XS.iload X8.here hx rfl (hb hby at_109) rfl  k) ?_
    show Gl _ _ _ _ (T8.setTop (mkF m 111 #[.val (.int w0), .val (.int w1), .val (.int w2), .val (.int w3), .val (.int w4), .val (.long w5), .second, .val (.int (0 : Int32)), .val (.ref a1), .val (.ref a2), .val (.ref a3), .val (.ref a4), .val (.ref a5), .val (.ref a6), .val (.ref a7), .val (.ref b8), .unset, .unset] [(.int (0 : Int32))]))
    refine Gl.go (fun _ k => XS.iconst X8.here hx rfl (hb hby at_111) k) ?_
    show Gl _ _ _ _ (T8.setTop (mkF m 112 #[.val (.int w0), .val (.int w1), .val (.int w2), .val (.int w3), .val (.int w4), .val (.long w5), .second, .val (.int (0 : Int32)), .val (.ref a1), .val (.ref a2), .val (.ref a3), .val (.ref a4), .val (.ref a5), .val (.ref a6), .val (.ref a7), .val (.ref b8), .unset, .unset] [(.int (1 : Int32)), (.int (0 : Int32))]))
    refine Gl.go (fun _ k => XS.icmpYes X8.here hx rfl (pc0 := 112) (pc' := 125) rfl (hb hby at_112) rfl (tlt (by decide)).1 (by decide) (by decide) k) ?_
    show Gl _ _ _ _ (T8.setTop (mkF m 125 #[.val (.int w0), .val (.int w1), .val (.int w2), .val (.int w3), .val (.int w4), .val (.long w5), .second, .val (.int (0 : Int32)), .val (.ref a1), .val (.ref a2), .val (.ref a3), .val (.ref a4), .val (.ref a5), .val (.ref a6), .val (.ref a7), .val (.ref b8), .unset, .unset] []))
    refine Gl.go (fun _ k => XS.iload X8.here hx rfl (hb hby at_125) rfl  k) ?_
    show Gl _ _ _ _ (T8.setTop (mkF m 127 #[.val (.int w0), .val (.int w1), .val (.int w2), .val (.int w3), .val (.int w4), .val (.long w5), .second, .val (.int (0 : Int32)), .val (.ref a1), .val (.ref a2), .val (.ref a3), .val (.ref a4), .val (.ref a5), .val (.ref a6), .val (.ref a7), .val (.ref b8), .unset, .unset] [(.int (0 : Int32))]))
    refine Gl.go (fun _ k => XS.iconst X8.here hx rfl (hb hby at_127) k) ?_
    show Gl _ _ _ _ (T8.setTop (mkF m 128 #[.val (.int w0), .val (.int w1), .val (.int w2), .val (.int w3), .val (.int w4), .val (.long w5), .second, .val (.int (0 : Int32)), .val (.ref a1), .val (.ref a2), .val (.ref a3), .val (.ref a4), .val (.ref a5), .val (.ref a6), .val (.ref a7), .val (.ref b8), .unset, .unset] [(.int (2 : Int32)), (.int (0 : Int32))]))
    refine Gl.go (fun _ k => XS.icmpYes X8.here hx rfl (pc0 := 128) (pc' := 141) rfl (hb hby at_128) rfl (tlt (by decide)).1 (by decide) (by decide) k) ?_
    show Gl _ _ _ _ (T8.setTop (mkF m 141 #[.val (.int w0), .val (.int w1), .val (.int w2), .val (.int w3), .val (.int w4), .val (.long w5), .second, .val (.int (0 : Int32)), .val (.ref a1), .val (.ref a2), .val (.ref a3), .val (.ref a4), .val (.ref a5), .val (.ref a6), .val (.ref a7), .val (.ref b8), .unset, .unset] []))
    refine Gl.go (fun _ k => XS.iload X8.here hx rfl (hb hby at_141) rfl  k) ?_
    show Gl _ _ _ _ (T8.setTop (mkF m 143 #[.val (.int w0), .val (.int w1), .val (.int w2), .val (.int w3), .val (.int w4), .val (.long w5), .second, .val (.int (0 : Int32)), .val (.ref a1), .val (.ref a2), .val (.ref a3), .val (.ref a4), .val (.ref a5), .val (.ref a6), .val (.ref a7), .val (.ref b8), .unset, .unset] [(.int (0 : Int32))]))
    refine Gl.go (fun _ k => XS.iconst X8.here hx rfl (hb hby at_143) k) ?_
    show Gl _ _ _ _ (T8.setTop (mkF m 144 #[.val (.int w0), .val (.int w1), .val (.int w2), .val (.int w3), .val (.int w4), .val (.long w5), .second, .val (.int (0 : Int32)), .val (.ref a1), .val (.ref a2), .val (.ref a3), .val (.ref a4), .val (.ref a5), .val (.ref a6), .val (.ref a7), .val (.ref b8), .unset, .unset] [(.int (3 : Int32)), (.int (0 : Int32))]))
    refine Gl.go (fun _ k => XS.icmpYes X8.here hx rfl (pc0 := 144) (pc' := 158) rfl (hb hby at_144) rfl (tlt (by decide)).1 (by decide) (by decide) k) ?_
    show Gl _ _ _ _ (T8.setTop (mkF m 158 #[.val (.int w0), .val (.int w1), .val (.int w2), .val (.int w3), .val (.int w4), .val (.long w5), .second, .val (.int (0 : Int32)), .val (.ref a1), .val (.ref a2), .val (.ref a3), .val (.ref a4), .val (.ref a5), .val (.ref a6), .val (.ref a7), .val (.ref b8), .unset, .unset] []))
    obtain ⟨T9, h9, X9, e9, E9, A9, D9, -, st9⟩ := newO X8 hx hZ hown (hw _ (List.mem_of_getElem? (i := 28) rfl)) (hw _ (List.mem_of_getElem? (i := 29) rfl)) (hw _ (List.mem_of_getElem? (i := 30) rfl)) e8 (g := (mkF m 158 #[.val (.int w0), .val (.int w1), .val (.int w2), .val (.int w3), .val (.int w4), .val (.long w5), .second, .val (.int (0 : Int32)), .val (.ref a1), .val (.ref a2), .val (.ref a3), .val (.ref a4), .val (.ref a5), .val (.ref a6), .val (.ref a7), .val (.ref b8), .unset, .unset] [])) rfl (hb hby at_158) (by decide) (by decide)
    obtain ⟨b9, g9⟩ : ∃ z, z = h8.size := ⟨_, rfl⟩
    rw [← g9] at A9 D9 st9
    have g_b9 : n0 ≤ b9 := Nat.le_trans SZ8 (Nat.le_of_eq g9.symm)
    have sz_b9 : h0.size ≤ b9 := Nat.le_trans K8.1 (Nat.le_of_eq g9.symm)
    have szb_B_b9 : T7.heap.size ≤ b9 := Nat.le_trans KBB_8.1 (Nat.le_of_eq g9.symm)
    have ne_b8_b9 : b8 ≠ b9 := Nat.ne_of_lt (Nat.lt_of_lt_of_le V_b8_8.lt (Nat.le_of_eq g9.symm))
    have O__9 : Old Z n0 h9 := O__8.ext E9
    have V_b8_9 : Arv Z h9 b8 cA8 (.object "java/lang/String") (0 : Int32) [] .null := V_b8_8.ext E9
    have SZ9 : n0 ≤ h9.size := Nat.le_trans SZ8 E9.1
    have K9 : Keep h0 h9 [] := K8.ext E9
    have KBB_9 : Keep T7.heap h9 [] := KBB_8.ext E9
    have hk := Nat.le_trans hk E9.1
    have CR9 : CHr Z elL s.vm h0 T7.vm h9 := CR8.trans (CHr.ext E9 CR8.1)
    have F_b9_name_9 : Fld Z h9 b9 "org/semfolio/Dom$Element" "name" "Ljava/lang/String;" .null := D9 (Or.inr (hw _ (List.mem_of_getElem? (i := 41) rfl))) (ty := (.object "java/lang/String")) (by decide)
    have F_b9_qualifiedName_9 : Fld Z h9 b9 "org/semfolio/Dom$Element" "qualifiedName" "Ljava/lang/String;" .null := D9 (Or.inr (hw _ (List.mem_of_getElem? (i := 43) rfl))) (ty := (.object "java/lang/String")) (by decide)
    have F_b9_attributes_9 : Fld Z h9 b9 "org/semfolio/Dom$Element" "attributes" "[Ljava/lang/String;" .null := D9 (Or.inr (hw _ (List.mem_of_getElem? (i := 45) rfl))) (ty := (.array (.object "java/lang/String"))) (by decide)
    refine Gl.go (fun _ k => st9 _ k) ?_
    show Gl _ _ _ _ (T9.setTop (mkF m 161 #[.val (.int w0), .val (.int w1), .val (.int w2), .val (.int w3), .val (.int w4), .val (.long w5), .second, .val (.int (0 : Int32)), .val (.ref a1), .val (.ref a2), .val (.ref a3), .val (.ref a4), .val (.ref a5), .val (.ref a6), .val (.ref a7), .val (.ref b8), .unset, .unset] [(.ref b9)]))
    refine Gl.go (fun _ k => XS.dup X9.here hx rfl (hb hby at_161) rfl rfl k) ?_
    show Gl _ _ _ _ (T9.setTop (mkF m 162 #[.val (.int w0), .val (.int w1), .val (.int w2), .val (.int w3), .val (.int w4), .val (.long w5), .second, .val (.int (0 : Int32)), .val (.ref a1), .val (.ref a2), .val (.ref a3), .val (.ref a4), .val (.ref a5), .val (.ref a6), .val (.ref a7), .val (.ref b8), .unset, .unset] [(.ref b9), (.ref b9)]))
    refine Gl.go (fun _ k => XS.aload X9.here hx rfl (hb hby at_162) rfl rfl  k) ?_
    show Gl _ _ _ _ (T9.setTop (mkF m 164 #[.val (.int w0), .val (.int w1), .val (.int w2), .val (.int w3), .val (.int w4), .val (.long w5), .second, .val (.int (0 : Int32)), .val (.ref a1), .val (.ref a2), .val (.ref a3), .val (.ref a4), .val (.ref a5), .val (.ref a6), .val (.ref a7), .val (.ref b8), .unset, .unset] [(.ref a4), (.ref b9), (.ref b9)]))
    refine Gl.go (fun _ k => XS.aload X9.here hx rfl (hb hby at_164) rfl rfl  k) ?_
    show Gl _ _ _ _ (T9.setTop (mkF m 166 #[.val (.int w0), .val (.int w1), .val (.int w2), .val (.int w3), .val (.int w4), .val (.long w5), .second, .val (.int (0 : Int32)), .val (.ref a1), .val (.ref a2), .val (.ref a3), .val (.ref a4), .val (.ref a5), .val (.ref a6), .val (.ref a7), .val (.ref b8), .unset, .unset] [(.ref a1), (.ref a4), (.ref b9), (.ref b9)]))
    refine Gl.go (fun _ k => XS.aload X9.here hx rfl (hb hby at_166) rfl rfl  k) ?_
    show Gl _ _ _ _ (T9.setTop (mkF m 168 #[.val (.int w0), .val (.int w1), .val (.int w2), .val (.int w3), .val (.int w4), .val (.long w5), .second, .val (.int (0 : Int32)), .val (.ref a1), .val (.ref a2), .val (.ref a3), .val (.ref a4), .val (.ref a5), .val (.ref a6), .val (.ref a7), .val (.ref b8), .unset, .unset] [(.ref b8), (.ref a1), (.ref a4), (.ref b9), (.ref b9)]))
    obtain ⟨_, _, ⟨T10, L10, k10, n10⟩, -, X10, ⟨Lc10, hQ10, l10, y10, z10⟩, st10⟩ := X9.specialBack hx (y := (⟨"org/semfolio/Dom$Element", "<init>", "(Ljava/lang/String;Ljava/lang/String;[Ljava/lang/String;)V"⟩ : MethodName)) rfl hown (mvT hZ (hw _ (List.mem_of_getElem? (i := 31) rfl))) (mvT hZ (hw _ (List.mem_of_getElem? (i := 32) rfl))) (mvT hZ (hw _ (List.mem_of_getElem? (i := 33) rfl))) (by decide) (backOf (W := 1) (rm_ein l Z a0 hw [] b9 a4 a1 b8 .null .null .null h9 n0 SZ9 A9 F_b9_name_9 F_b9_qualifiedName_9 F_b9_attributes_9 g_b9) hZ (hw _ (List.mem_of_getElem? (i := 33) rfl)) (hw _ (List.mem_of_getElem? (i := 30) rfl)) (by decide) (by decide)) (g := (mkF m 168 #[.val (.int w0), .val (.int w1), .val (.int w2), .val (.int w3), .val (.int w4), .val (.long w5), .second, .val (.int (0 : Int32)), .val (.ref a1), .val (.ref a2), .val (.ref a3), .val (.ref a4), .val (.ref a5), .val (.ref a6), .val (.ref a7), .val (.ref b8), .unset, .unset] [(.ref b8), (.ref a1), (.ref a4), (.ref b9), (.ref b9)])) rfl (by rw [hml]; rfl) (Steps.refl _) (a := b9) (argsL := [(.ref a4), (.ref a1), (.ref b8)]) (rest := [(.ref b9)]) (lenOf pd_11 rfl) rfl (by show 2 * 0 + _ ≤ _; exact Nat.le_of_eq rfl) (hb hby at_168) (fun _ _ => ⟨rfl, e9, (by decide : 44 + 0 ≤ _), (by decide : 91 + 0 ≤ _)⟩)
    dsimp only [Pt.U, Pt.locs, Pt.cells, Pt.slots] at X10 l10 y10 z10 st10 hQ10
    subst y10 z10
    obtain ⟨rfl, Nq10, Kc10, Ec10, Fa10⟩ := hQ10
    have N10 : Fr n0 L10 := by rw [l10]; exact Fr.app N7 Nq10
    refine Gl.go (fun _ k => st10.trans k) ?_
    have O__10 : Old Z n0 T10.heap := O__9.keep Kc10 (allS g_b9 all0)
    have V_b8_10 : Arv Z T10.heap b8 cA8 (.object "java/lang/String") (0 : Int32) [] .null := V_b8_9.keep Kc10 (ninS ne_b8_b9 nin0)
    have E_b9_10 : Exa Z T10.heap b9 "org/semfolio/Dom$Element" := A9.keep Kc10
    have SZ10 : n0 ≤ T10.heap.size := Nat.le_trans SZ9 Kc10.1
    have K10 : Keep h0 T10.heap [] := K9.trans Kc10 (allS (Or.inr sz_b9) all0)
    have KBB_10 : Keep T7.heap T10.heap [] := KBB_9.trans Kc10 (allS (Or.inr szb_B_b9) all0)
    have hk := Nat.le_trans hk Kc10.1
    have CR10 : CHr Z elL s.vm h0 T7.vm T10.heap := CR9.trans (CHr.keep Kc10 (sfS (Safe.exa hZ.alike A9 (by decide) (by decide)) sf0) CR9.1)
    show Gl _ _ _ _ (T10.setTop (mkF m 171 #[.val (.int w0), .val (.int w1), .val (.int w2), .val (.int w3), .val (.int w4), .val (.long w5), .second, .val (.int (0 : Int32)), .val (.ref a1), .val (.ref a2), .val (.ref a3), .val (.ref a4), .val (.ref a5), .val (.ref a6), .val (.ref a7), .val (.ref b8), .unset, .unset] [(.ref b9)]))
    refine Gl.go (fun _ k => XS.astore X10.here hx rfl (hb hby at_171) rfl rfl (l' := #[.val (.int w0), .val (.int w1), .val (.int w2), .val (.int w3), .val (.int w4), .val (.long w5), .second, .val (.int (0 : Int32)), .val (.ref a1), .val (.ref a2), .val (.ref a3), .val (.ref a4), .val (.ref a5), .val (.ref a6), .val (.ref a7), .val (.ref b8), .val (.ref b9), .unset]) rfl k) ?_
    show Gl _ _ _ _ (T10.setTop (mkF m 173 #[.val (.int w0), .val (.int w1), .val (.int w2), .val (.int w3), .val (.int w4), .val (.long w5), .second, .val (.int (0 : Int32)), .val (.ref a1), .val (.ref a2), .val (.ref a3), .val (.ref a4), .val (.ref a5), .val (.ref a6), .val (.ref a7), .val (.ref b8), .val (.ref b9), .unset] []))
    refine Gl.go (fun _ k => XS.iload X10.here hx rfl (hb hby at_173) rfl  k) ?_
    show Gl _ _ _ _ (T10.setTop (mkF m 175 #[.val (.int w0), .val (.int w1), .val (.int w2), .val (.int w3), .val (.int w4), .val (.long w5), .second, .val (.int (0 : Int32)), .val (.ref a1), .val (.ref a2), .val (.ref a3), .val (.ref a4), .val (.ref a5), .val (.ref a6), .val (.ref a7), .val (.ref b8), .val (.ref b9), .unset] [(.int (0 : Int32))]))
    refine Gl.go (fun _ k => XS.iconst X10.here hx rfl (hb hby at_175) k) ?_
    show Gl _ _ _ _ (T10.setTop (mkF m 176 #[.val (.int w0), .val (.int w1), .val (.int w2), .val (.int w3), .val (.int w4), .val (.long w5), .second, .val (.int (0 : Int32)), .val (.ref a1), .val (.ref a2), .val (.ref a3), .val (.ref a4), .val (.ref a5), .val (.ref a6), .val (.ref a7), .val (.ref b8), .val (.ref b9), .unset] [(.int (1 : Int32)), (.int (0 : Int32))]))
    refine Gl.go (fun _ k => XS.icmpYes X10.here hx rfl (pc0 := 176) (pc' := 189) rfl (hb hby at_176) rfl (tlt (by decide)).1 (by decide) (by decide) k) ?_
    show Gl _ _ _ _ (T10.setTop (mkF m 189 #[.val (.int w0), .val (.int w1), .val (.int w2), .val (.int w3), .val (.int w4), .val (.long w5), .second, .val (.int (0 : Int32)), .val (.ref a1), .val (.ref a2), .val (.ref a3), .val (.ref a4), .val (.ref a5), .val (.ref a6), .val (.ref a7), .val (.ref b8), .val (.ref b9), .unset] []))
    refine Gl.go (fun _ k => XS.iload X10.here hx rfl (hb hby at_189) rfl  k) ?_
    show Gl _ _ _ _ (T10.setTop (mkF m 191 #[.val (.int w0), .val (.int w1), .val (.int w2), .val (.int w3), .val (.int w4), .val (.long w5), .second, .val (.int (0 : Int32)), .val (.ref a1), .val (.ref a2), .val (.ref a3), .val (.ref a4), .val (.ref a5), .val (.ref a6), .val (.ref a7), .val (.ref b8), .val (.ref b9), .unset] [(.int (0 : Int32))]))
    refine Gl.go (fun _ k => XS.iconst X10.here hx rfl (hb hby at_191) k) ?_
    show Gl _ _ _ _ (T10.setTop (mkF m 192 #[.val (.int w0), .val (.int w1), .val (.int w2), .val (.int w3), .val (.int w4), .val (.long w5), .second, .val (.int (0 : Int32)), .val (.ref a1), .val (.ref a2), .val (.ref a3), .val (.ref a4), .val (.ref a5), .val (.ref a6), .val (.ref a7), .val (.ref b8), .val (.ref b9), .unset] [(.int (2 : Int32)), (.int (0 : Int32))]))
    refine Gl.go (fun _ k => XS.icmpYes X10.here hx rfl (pc0 := 192) (pc' := 205) rfl (hb hby at_192) rfl (tlt (by decide)).1 (by decide) (by decide) k) ?_
    show Gl _ _ _ _ (T10.setTop (mkF m 205 #[.val (.int w0), .val (.int w1), .val (.int w2), .val (.int w3), .val (.int w4), .val (.long w5), .second, .val (.int (0 : Int32)), .val (.ref a1), .val (.ref a2), .val (.ref a3), .val (.ref a4), .val (.ref a5), .val (.ref a6), .val (.ref a7), .val (.ref b8), .val (.ref b9), .unset] []))
    refine Gl.go (fun _ k => XS.iload X10.here hx rfl (hb hby at_205) rfl  k) ?_
    show Gl _ _ _ _ (T10.setTop (mkF m 207 #[.val (.int w0), .val (.int w1), .val (.int w2), .val (.int w3), .val (.int w4), .val (.long w5), .second, .val (.int (0 : Int32)), .val (.ref a1), .val (.ref a2), .val (.ref a3), .val (.ref a4), .val (.ref a5), .val (.ref a6), .val (.ref a7), .val (.ref b8), .val (.ref b9), .unset] [(.int (0 : Int32))]))
    refine Gl.go (fun _ k => XS.iconst X10.here hx rfl (hb hby at_207) k) ?_
    show Gl _ _ _ _ (T10.setTop (mkF m 208 #[.val (.int w0), .val (.int w1), .val (.int w2), .val (.int w3), .val (.int w4), .val (.long w5), .second, .val (.int (0 : Int32)), .val (.ref a1), .val (.ref a2), .val (.ref a3), .val (.ref a4), .val (.ref a5), .val (.ref a6), .val (.ref a7), .val (.ref b8), .val (.ref b9), .unset] [(.int (3 : Int32)), (.int (0 : Int32))]))
    refine Gl.go (fun _ k => XS.icmpYes X10.here hx rfl (pc0 := 208) (pc' := 225) rfl (hb hby at_208) rfl (tlt (by decide)).1 (by decide) (by decide) k) ?_
    show Gl _ _ _ _ (T10.setTop (mkF m 225 #[.val (.int w0), .val (.int w1), .val (.int w2), .val (.int w3), .val (.int w4), .val (.long w5), .second, .val (.int (0 : Int32)), .val (.ref a1), .val (.ref a2), .val (.ref a3), .val (.ref a4), .val (.ref a5), .val (.ref a6), .val (.ref a7), .val (.ref b8), .val (.ref b9), .unset] []))
    refine Gl.go (fun _ k => XS.iconst X10.here hx rfl (hb hby at_225) k) ?_
    show Gl _ _ _ _ (T10.setTop (mkF m 226 #[.val (.int w0), .val (.int w1), .val (.int w2), .val (.int w3), .val (.int w4), .val (.long w5), .second, .val (.int (0 : Int32)), .val (.ref a1), .val (.ref a2), .val (.ref a3), .val (.ref a4), .val (.ref a5), .val (.ref a6), .val (.ref a7), .val (.ref b8), .val (.ref b9), .unset] [(.int (0 : Int32))]))
    refine Gl.go (fun _ k => XS.istore X10.here hx rfl (hb hby at_226) rfl (l' := #[.val (.int w0), .val (.int w1), .val (.int w2), .val (.int w3), .val (.int w4), .val (.long w5), .second, .val (.int (0 : Int32)), .val (.ref a1), .val (.ref a2), .val (.ref a3), .val (.ref a4), .val (.ref a5), .val (.ref a6), .val (.ref a7), .val (.ref b8), .val (.ref b9), .val (.int (0 : Int32))]) rfl k) ?_
    show Gl _ _ _ _ (T10.setTop (mkF m 228 #[.val (.int w0), .val (.int w1), .val (.int w2), .val (.int w3), .val (.int w4), .val (.long w5), .second, .val (.int (0 : Int32)), .val (.ref a1), .val (.ref a2), .val (.ref a3), .val (.ref a4), .val (.ref a5), .val (.ref a6), .val (.ref a7), .val (.ref b8), .val (.ref b9), .val (.int (0 : Int32))] []))
    refine Gl.go (fun _ k => XS.aload X10.here hx rfl (hb hby at_228) rfl rfl  k) ?_
    show Gl _ _ _ _ (T10.setTop (mkF m 230 #[.val (.int w0), .val (.int w1), .val (.int w2), .val (.int w3), .val (.int w4), .val (.long w5), .second, .val (.int (0 : Int32)), .val (.ref a1), .val (.ref a2), .val (.ref a3), .val (.ref a4), .val (.ref a5), .val (.ref a6), .val (.ref a7), .val (.ref b8), .val (.ref b9), .val (.int (0 : Int32))] [(.ref b9)]))
    refine Gl.go (fun _ k => XS.aload X10.here hx rfl (hb hby at_230) rfl rfl  k) ?_
    show Gl _ _ _ _ (T10.setTop (mkF m 232 #[.val (.int w0), .val (.int w1), .val (.int w2), .val (.int w3), .val (.int w4), .val (.long w5), .second, .val (.int (0 : Int32)), .val (.ref a1), .val (.ref a2), .val (.ref a3), .val (.ref a4), .val (.ref a5), .val (.ref a6), .val (.ref a7), .val (.ref b8), .val (.ref b9), .val (.int (0 : Int32))] [(.ref a7), (.ref b9)]))
    obtain ⟨cq11, kq11, q11a, q11b, q11c⟩ := isOf (s := s.setVm T7.vm) hZ rfl E_b9_10
    obtain ⟨_, _, ⟨T11, L11, k11, n11⟩, -, X11, ⟨Lc11, hQ11, l11, y11, z11⟩, st11⟩ := X10.virtualBack hx (y := (⟨"org/semfolio/Dom$Element", "hasAttribute", "(Ljava/lang/String;)Z"⟩ : MethodName)) (z := (⟨"org/semfolio/Dom$Element", "hasAttribute", "(Ljava/lang/String;)Z"⟩ : MethodName)) hown (mvT hZ (hw _ (List.mem_of_getElem? (i := 46) rfl))) (mvT hZ (hw _ (List.mem_of_getElem? (i := 47) rfl))) (notFace_of_selects (args := #[]) (mvT hZ (hw _ (List.mem_of_getElem? (i := 49) rfl)))) (mvT hZ (hw _ (List.mem_of_getElem? (i := 49) rfl))) (mvT hZ (hw _ (List.mem_of_getElem? (i := 48) rfl))) (by decide) (backOf (W := 0) (rm_ha0 l Z a0 hw [] b9 a7 b8 cA8 c6_  G1 T10.heap n0 SZ10 E_b9_10 Fa10 V_b8_10 (Sd6.ext (ext_of_keep KBB_10))  (O2.ext O__10.2) P5) hZ (hw _ (List.mem_of_getElem? (i := 50) rfl)) (hw _ (List.mem_of_getElem? (i := 30) rfl)) (by decide) (by decide)) q11a q11c (g := (mkF m 232 #[.val (.int w0), .val (.int w1), .val (.int w2), .val (.int w3), .val (.int w4), .val (.long w5), .second, .val (.int (0 : Int32)), .val (.ref a1), .val (.ref a2), .val (.ref a3), .val (.ref a4), .val (.ref a5), .val (.ref a6), .val (.ref a7), .val (.ref b8), .val (.ref b9), .val (.int (0 : Int32))] [(.ref a7), (.ref b9)])) rfl (by rw [hml]; rfl) (Steps.refl _) (argsL := [(.ref a7)]) (rest := []) (lenOf pd_12 rfl) rfl (by show 2 * 0 + _ ≤ _; exact Nat.le_of_eq rfl) (hb hby at_232) (fun _ _ => ⟨rfl, rfl, (by decide : 44 + 0 ≤ _), (by decide : 91 + 0 ≤ _)⟩)
    dsimp only [Pt.U, Pt.locs, Pt.cells, Pt.slots] at X11 l11 y11 z11 st11 hQ11
    subst y11 z11
    obtain ⟨rfl, Nq11, e11⟩ := hQ11
    have N11 : Fr n0 L11 := by rw [l11]; exact Fr.app N10 Nq11
    refine Gl.go (fun _ k => st11.trans k) ?_
    show Gl _ _ _ _ (T11.setTop (mkF m 235 #[.val (.int w0), .val (.int w1), .val (.int w2), .val (.int w3), .val (.int w4), .val (.long w5), .second, .val (.int (0 : Int32)), .val (.ref a1), .val (.ref a2), .val (.ref a3), .val (.ref a4), .val (.ref a5), .val (.ref a6), .val (.ref a7), .val (.ref b8), .val (.ref b9), .val (.int (0 : Int32))] [(.int (if (-1 : Int32) < (0 : Int32) then (0 : Int32) else (1 : Int32)))]))
    rw [((by rw [if_pos (by decide)]) : (if (-1 : Int32) < (0 : Int32) then (0 : Int32) else (1 : Int32)) = (0 : Int32))]
    show Gl _ _ _ _ (T11.setTop (mkF m 235 #[.val (.int w0), .val (.int w1), .val (.int w2), .val (.int w3), .val (.int w4), .val (.long w5), .second, .val (.int (0 : Int32)), .val (.ref a1), .val (.ref a2), .val (.ref a3), .val (.ref a4), .val (.ref a5), .val (.ref a6), .val (.ref a7), .val (.ref b8), .val (.ref b9), .val (.int (0 : Int32))] [(.int (0 : Int32))]))
    refine Gl.go (fun _ k => XS.iload X11.here hx rfl (hb hby at_235) rfl  k) ?_
    show Gl _ _ _ _ (T11.setTop (mkF m 237 #[.val (.int w0), .val (.int w1), .val (.int w2), .val (.int w3), .val (.int w4), .val (.long w5), .second, .val (.int (0 : Int32)), .val (.ref a1), .val (.ref a2), .val (.ref a3), .val (.ref a4), .val (.ref a5), .val (.ref a6), .val (.ref a7), .val (.ref b8), .val (.ref b9), .val (.int (0 : Int32))] [(.int (0 : Int32)), (.int (0 : Int32))]))
    refine Gl.go (fun _ k => XS.icmpNo X11.here hx rfl (hb hby at_237) rfl (teq rfl).2 k) ?_
    show Gl _ _ _ _ (T11.setTop (mkF m 240 #[.val (.int w0), .val (.int w1), .val (.int w2), .val (.int w3), .val (.int w4), .val (.long w5), .second, .val (.int (0 : Int32)), .val (.ref a1), .val (.ref a2), .val (.ref a3), .val (.ref a4), .val (.ref a5), .val (.ref a6), .val (.ref a7), .val (.ref b8), .val (.ref b9), .val (.int (0 : Int32))] []))
    refine Gl.go (fun _ k => XS.iconst X11.here hx rfl (hb hby at_240) k) ?_
    show Gl _ _ _ _ (T11.setTop (mkF m 241 #[.val (.int w0), .val (.int w1), .val (.int w2), .val (.int w3), .val (.int w4), .val (.long w5), .second, .val (.int (0 : Int32)), .val (.ref a1), .val (.ref a2), .val (.ref a3), .val (.ref a4), .val (.ref a5), .val (.ref a6), .val (.ref a7), .val (.ref b8), .val (.ref b9), .val (.int (0 : Int32))] [(.int (1 : Int32))]))
    refine Gl.go (fun _ k => XS.goto X11.here hx rfl (pc0 := 241) (pc' := 245) rfl (hb hby at_241) (by decide) (by decide) k) ?_
    show Gl _ _ _ _ (T11.setTop (mkF m 245 #[.val (.int w0), .val (.int w1), .val (.int w2), .val (.int w3), .val (.int w4), .val (.long w5), .second, .val (.int (0 : Int32)), .val (.ref a1), .val (.ref a2), .val (.ref a3), .val (.ref a4), .val (.ref a5), .val (.ref a6), .val (.ref a7), .val (.ref b8), .val (.ref b9), .val (.int (0 : Int32))] [(.int (1 : Int32))]))
    refine leafWN X11 hS (by rw [e11]; exact hk) hx hlk (t := .boolean) Bd.returns (by simp) (hb hby at_245) (by rw [e11]; exact (CR10.trans (CHv.at X11 hZ hEL CR10.1))) hh ?_ (by decide) (by decide)
    exact ⟨rfl, N11⟩
  · skip
    rw [(hm : cm = (1 : Int32))]
    show Gl _ _ _ _ (T7.setTop (mkF m 65 #[.val (.int w0), .val (.int w1), .val (.int w2), .val (.int w3), .val (.int w4), .val (.long w5), .second, .val (.int (1 : Int32)), .val (.ref a1), .val (.ref a2), .val (.ref a3), .val (.ref a4), .val (.ref a5), .val (.ref a6), .val (.ref a7), .unset, .unset, .unset] [(.int (1 : Int32))]))
    refine Gl.go (fun _ k => XS.ifYes X7.here hx rfl (pc0 := 65) (pc' := 75) rfl (hb hby at_65) rfl ((if0 _ _).trans (feq (by decide)).2) (by decide) (by decide) k) ?_
    show Gl _ _ _ _ (T7.setTop (mkF m 75 #[.val (.int w0), .val (.int w1), .val (.int w2), .val (.int w3), .val (.int w4), .val (.long w5), .second, .val (.int (1 : Int32)), .val (.ref a1), .val (.ref a2), .val (.ref a3), .val (.ref a4), .val (.ref a5), .val (.ref a6), .val (.ref a7), .unset, .unset, .unset] []))
    refine Gl.go (fun _ k => XS.iload X7.here hx rfl (hb hby at_75) rfl  k) ?_
    show Gl _ _ _ _ (T7.setTop (mkF m 77 #[.val (.int w0), .val (.int w1), .val (.int w2), .val (.int w3), .val (.int w4), .val (.long w5), .second, .val (.int (1 : Int32)), .val (.ref a1), .val (.ref a2), .val (.ref a3), .val (.ref a4), .val (.ref a5), .val (.ref a6), .val (.ref a7), .unset, .unset, .unset] [(.int (1 : Int32))]))
    refine Gl.go (fun _ k => XS.iconst X7.here hx rfl (hb hby at_77) k) ?_
    show Gl _ _ _ _ (T7.setTop (mkF m 78 #[.val (.int w0), .val (.int w1), .val (.int w2), .val (.int w3), .val (.int w4), .val (.long w5), .second, .val (.int (1 : Int32)), .val (.ref a1), .val (.ref a2), .val (.ref a3), .val (.ref a4), .val (.ref a5), .val (.ref a6), .val (.ref a7), .unset, .unset, .unset] [(.int (1 : Int32)), (.int (1 : Int32))]))
    refine Gl.go (fun _ k => XS.icmpNo X7.here hx rfl (hb hby at_78) rfl (teq rfl).2 k) ?_
    show Gl _ _ _ _ (T7.setTop (mkF m 81 #[.val (.int w0), .val (.int w1), .val (.int w2), .val (.int w3), .val (.int w4), .val (.long w5), .second, .val (.int (1 : Int32)), .val (.ref a1), .val (.ref a2), .val (.ref a3), .val (.ref a4), .val (.ref a5), .val (.ref a6), .val (.ref a7), .unset, .unset, .unset] []))
    refine Gl.go (fun _ k => XS.iconst X7.here hx rfl (hb hby at_81) k) ?_
    show Gl _ _ _ _ (T7.setTop (mkF m 82 #[.val (.int w0), .val (.int w1), .val (.int w2), .val (.int w3), .val (.int w4), .val (.long w5), .second, .val (.int (1 : Int32)), .val (.ref a1), .val (.ref a2), .val (.ref a3), .val (.ref a4), .val (.ref a5), .val (.ref a6), .val (.ref a7), .unset, .unset, .unset] [(.int (4 : Int32))]))
    obtain ⟨T12, h12, cA12, X12, e12, E12, A12, O12, st12⟩ := newR X7 hx hZ hown (hw _ (List.mem_of_getElem? (i := 5) rfl)) (hw _ (List.mem_of_getElem? (i := 27) rfl)) rfl (g := (mkF m 82 #[.val (.int w0), .val (.int w1), .val (.int w2), .val (.int w3), .val (.int w4), .val (.long w5), .second, .val (.int (1 : Int32)), .val (.ref a1), .val (.ref a2), .val (.ref a3), .val (.ref a4), .val (.ref a5), .val (.ref a6), .val (.ref a7), .unset, .unset, .unset] [(.int (4 : Int32))])) rfl (hb hby at_82) rfl (by decide) (cap := 4) (by decide) (by decide) (by decide) (by decide)
    obtain ⟨b12, g12⟩ : ∃ z, z = T7.heap.size := ⟨_, rfl⟩
    rw [← g12] at A12 st12
    have g_b12 : n0 ≤ b12 := Nat.le_trans SZ7 (Nat.le_of_eq g12.symm)
    have sz_b12 : h0.size ≤ b12 := Nat.le_trans K7.1 (Nat.le_of_eq g12.symm)
    have szb_B_b12 : T7.heap.size ≤ b12 := Nat.le_trans KBB.1 (Nat.le_of_eq g12.symm)
    have O__12 : Old Z n0 h12 := O__7.ext E12
    have SZ12 : n0 ≤ h12.size := Nat.le_trans SZ7 E12.1
    have K12 : Keep h0 h12 [] := K7.ext E12
    have KBB_12 : Keep T7.heap h12 [] := KBB.ext E12
    have hk := Nat.le_trans hk E12.1
    have CR12 : CHr Z elL s.vm h0 T7.vm h12 := CR7.trans (CHr.ext E12 CR7.1)
    have V_b12_12 : Arv Z h12 b12 cA12 (.object "java/lang/String") (4 : Int32) [.null, .null, .null, .null] .null := (Arv.new A12 (by decide)).pad (pad_rep [] _ 4)
    refine Gl.go (fun _ k => st12 _ k) ?_
    show Gl _ _ _ _ (T12.setTop (mkF m 85 #[.val (.int w0), .val (.int w1), .val (.int w2), .val (.int w3), .val (.int w4), .val (.long w5), .second, .val (.int (1 : Int32)), .val (.ref a1), .val (.ref a2), .val (.ref a3), .val (.ref a4), .val (.ref a5), .val (.ref a6), .val (.ref a7), .unset, .unset, .unset] [(.ref b12)]))
    refine Gl.go (fun _ k => XS.goto X12.here hx rfl (pc0 := 85) (pc' := 107) rfl (hb hby at_85) (by decide) (by decide) k) ?_
    show Gl _ _ _ _ (T12.setTop (mkF m 107 #[.val (.int w0), .val (.int w1), .val (.int w2), .val (.int w3), .val (.int w4), .val (.long w5), .second, .val (.int (1 : Int32)), .val (.ref a1), .val (.ref a2), .val (.ref a3), .val (.ref a4), .val (.ref a5), .val (.ref a6), .val (.ref a7), .unset, .unset, .unset] [(.ref b12)]))
    refine Gl.go (fun _ k => XS.astore X12.here hx rfl (hb hby at_107) rfl rfl (l' := #[.val (.int w0), .val (.int w1), .val (.int w2), .val (.int w3), .val (.int w4), .val (.long w5), .second, .val (.int (1 : Int32)), .val (.ref a1), .val (.ref a2), .val (.ref a3), .val (.ref a4), .val (.ref a5), .val (.ref a6), .val (.ref a7), .val (.ref b12), .unset, .unset]) rfl k) ?_
    show Gl _ _ _ _ (T12.setTop (mkF m 109 #[.val (.int w0), .val (.int w1), .val (.int w2), .val (.int w3), .val (.int w4), .val (.long w5), .second, .val (.int (1 : Int32)), .val (.ref a1), .val (.ref a2), .val (.ref a3), .val (.ref a4), .val (.ref a5), .val (.ref a6), .val (.ref a7), .val (.ref b12), .unset, .unset] []))
    refine Gl.go (fun _ k => XS.iload X12.here hx rfl (hb hby at_109) rfl  k) ?_
    show Gl _ _ _ _ (T12.setTop (mkF m 111 #[.val (.int w0), .val (.int w1), .val (.int w2), .val (.int w3), .val (.int w4), .val (.long w5), .second, .val (.int (1 : Int32)), .val (.ref a1), .val (.ref a2), .val (.ref a3), .val (.ref a4), .val (.ref a5), .val (.ref a6), .val (.ref a7), .val (.ref b12), .unset, .unset] [(.int (1 : Int32))]))
    refine Gl.go (fun _ k => XS.iconst X12.here hx rfl (hb hby at_111) k) ?_
    show Gl _ _ _ _ (T12.setTop (mkF m 112 #[.val (.int w0), .val (.int w1), .val (.int w2), .val (.int w3), .val (.int w4), .val (.long w5), .second, .val (.int (1 : Int32)), .val (.ref a1), .val (.ref a2), .val (.ref a3), .val (.ref a4), .val (.ref a5), .val (.ref a6), .val (.ref a7), .val (.ref b12), .unset, .unset] [(.int (1 : Int32)), (.int (1 : Int32))]))
    refine Gl.go (fun _ k => XS.icmpNo X12.here hx rfl (hb hby at_112) rfl (flt (by decide)).1 k) ?_
    show Gl _ _ _ _ (T12.setTop (mkF m 115 #[.val (.int w0), .val (.int w1), .val (.int w2), .val (.int w3), .val (.int w4), .val (.long w5), .second, .val (.int (1 : Int32)), .val (.ref a1), .val (.ref a2), .val (.ref a3), .val (.ref a4), .val (.ref a5), .val (.ref a6), .val (.ref a7), .val (.ref b12), .unset, .unset] []))
    refine Gl.go (fun _ k => XS.aload X12.here hx rfl (hb hby at_115) rfl rfl  k) ?_
    show Gl _ _ _ _ (T12.setTop (mkF m 117 #[.val (.int w0), .val (.int w1), .val (.int w2), .val (.int w3), .val (.int w4), .val (.long w5), .second, .val (.int (1 : Int32)), .val (.ref a1), .val (.ref a2), .val (.ref a3), .val (.ref a4), .val (.ref a5), .val (.ref a6), .val (.ref a7), .val (.ref b12), .unset, .unset] [(.ref b12)]))
    refine Gl.go (fun _ k => XS.iconst X12.here hx rfl (hb hby at_117) k) ?_
    show Gl _ _ _ _ (T12.setTop (mkF m 118 #[.val (.int w0), .val (.int w1), .val (.int w2), .val (.int w3), .val (.int w4), .val (.long w5), .second, .val (.int (1 : Int32)), .val (.ref a1), .val (.ref a2), .val (.ref a3), .val (.ref a4), .val (.ref a5), .val (.ref a6), .val (.ref a7), .val (.ref b12), .unset, .unset] [(.int (0 : Int32)), (.ref b12)]))
    refine Gl.go (fun _ k => XS.aload X12.here hx rfl (hb hby at_118) rfl rfl  k) ?_
    show Gl _ _ _ _ (T12.setTop (mkF m 120 #[.val (.int w0), .val (.int w1), .val (.int w2), .val (.int w3), .val (.int w4), .val (.long w5), .second, .val (.int (1 : Int32)), .val (.ref a1), .val (.ref a2), .val (.ref a3), .val (.ref a4), .val (.ref a5), .val (.ref a6), .val (.ref a7), .val (.ref b12), .unset, .unset] [(.ref a4), (.int (0 : Int32)), (.ref b12)]))
    refine Gl.go (fun _ k => XS.aload X12.here hx rfl (hb hby at_120) rfl rfl  k) ?_
    show Gl _ _ _ _ (T12.setTop (mkF m 122 #[.val (.int w0), .val (.int w1), .val (.int w2), .val (.int w3), .val (.int w4), .val (.long w5), .second, .val (.int (1 : Int32)), .val (.ref a1), .val (.ref a2), .val (.ref a3), .val (.ref a4), .val (.ref a5), .val (.ref a6), .val (.ref a7), .val (.ref b12), .unset, .unset] [(.ref a1), (.ref a4), (.int (0 : Int32)), (.ref b12)]))
    obtain ⟨_, _, ⟨T13, L13, k13, n13⟩, -, X13, ⟨Lc13, hQ13, l13, y13, z13⟩, st13⟩ := Jvm.LawKit.callS X12 hx (y := (⟨"org/semfolio/ElementHasAttributePinLaw", "put", "([Ljava/lang/String;ILjava/lang/String;Ljava/lang/String;)V"⟩ : MethodName)) hown (mvT hZ (hw _ (List.mem_of_getElem? (i := 55) rfl))) (mvT hZ (hw _ (List.mem_of_getElem? (i := 56) rfl))) (mvT hZ (hw _ (List.mem_of_getElem? (i := 3) rfl))) (mvT hZ (hw _ (List.mem_of_getElem? (i := 57) rfl))) (by decide) (backOf (W := 0) (rm_put_1_0 l Z a0 hw [] b12 a4 a1 cA12 .null .null .null .null h12 n0 SZ12 V_b12_12 O12 (Sd3.ext (ext_of_keep KBB_12)).1 (Sd0.ext (ext_of_keep KBB_12)).1 g_b12) hZ (hw _ (List.mem_of_getElem? (i := 57) rfl)) (hw _ (List.mem_of_getElem? (i := 3) rfl)) (by decide) (by decide)) (g := (mkF m 122 #[.val (.int w0), .val (.int w1), .val (.int w2), .val (.int w3), .val (.int w4), .val (.long w5), .second, .val (.int (1 : Int32)), .val (.ref a1), .val (.ref a2), .val (.ref a3), .val (.ref a4), .val (.ref a5), .val (.ref a6), .val (.ref a7), .val (.ref b12), .unset, .unset] [(.ref a1), (.ref a4), (.int (0 : Int32)), (.ref b12)])) rfl (by rw [hml]; rfl) (argsL := [(.ref b12), (.int (0 : Int32)), (.ref a4), (.ref a1)]) (rest := []) (lenOf pd_13 rfl) rfl (by show 2 * 0 + _ ≤ _; exact Nat.le_of_eq rfl) (hb hby at_122) (fun _ _ => ⟨rfl, e12, (by decide : 43 + 0 ≤ _), (by decide : 88 + 0 ≤ _)⟩)
    dsimp only [Pt.U, Pt.locs, Pt.cells, Pt.slots] at X13 l13 y13 z13 st13 hQ13
    subst y13 z13
    obtain ⟨rfl, Nq13, Kc13, Vc13⟩ := hQ13
    have N13 : Fr n0 L13 := by rw [l13]; exact Fr.app N7 Nq13
    refine Gl.go (fun _ k => st13 _ k) ?_
    have O__13 : Old Z n0 T13.heap := O__12.keep Kc13 (allS g_b12 all0)
    have SZ13 : n0 ≤ T13.heap.size := Nat.le_trans SZ12 Kc13.1
    have K13 : Keep h0 T13.heap [] := K12.trans Kc13 (allS (Or.inr sz_b12) all0)
    have KBB_13 : Keep T7.heap T13.heap [] := KBB_12.trans Kc13 (allS (Or.inr szb_B_b12) all0)
    have hk := Nat.le_trans hk Kc13.1
    have CR13 : CHr Z elL s.vm h0 T7.vm T13.heap := CR12.trans (CHr.keep Kc13 (sfS (Safe.arv hZ.alike V_b12_12 (by decide)) sf0) CR12.1)
    show Gl _ _ _ _ (T13.setTop (mkF m 125 #[.val (.int w0), .val (.int w1), .val (.int w2), .val (.int w3), .val (.int w4), .val (.long w5), .second, .val (.int (1 : Int32)), .val (.ref a1), .val (.ref a2), .val (.ref a3), .val (.ref a4), .val (.ref a5), .val (.ref a6), .val (.ref a7), .val (.ref b12), .unset, .unset] []))
    refine Gl.go (fun _ k => XS.iload X13.here hx rfl (hb hby at_125) rfl  k) ?_
    show Gl _ _ _ _ (T13.setTop (mkF m 127 #[.val (.int w0), .val (.int w1), .val (.int w2), .val (.int w3), .val (.int w4), .val (.long w5), .second, .val (.int (1 : Int32)), .val (.ref a1), .val (.ref a2), .val (.ref a3), .val (.ref a4), .val (.ref a5), .val (.ref a6), .val (.ref a7), .val (.ref b12), .unset, .unset] [(.int (1 : Int32))]))
    refine Gl.go (fun _ k => XS.iconst X13.here hx rfl (hb hby at_127) k) ?_
    show Gl _ _ _ _ (T13.setTop (mkF m 128 #[.val (.int w0), .val (.int w1), .val (.int w2), .val (.int w3), .val (.int w4), .val (.long w5), .second, .val (.int (1 : Int32)), .val (.ref a1), .val (.ref a2), .val (.ref a3), .val (.ref a4), .val (.ref a5), .val (.ref a6), .val (.ref a7), .val (.ref b12), .unset, .unset] [(.int (2 : Int32)), (.int (1 : Int32))]))
    refine Gl.go (fun _ k => XS.icmpYes X13.here hx rfl (pc0 := 128) (pc' := 141) rfl (hb hby at_128) rfl (tlt (by decide)).1 (by decide) (by decide) k) ?_
    show Gl _ _ _ _ (T13.setTop (mkF m 141 #[.val (.int w0), .val (.int w1), .val (.int w2), .val (.int w3), .val (.int w4), .val (.long w5), .second, .val (.int (1 : Int32)), .val (.ref a1), .val (.ref a2), .val (.ref a3), .val (.ref a4), .val (.ref a5), .val (.ref a6), .val (.ref a7), .val (.ref b12), .unset, .unset] []))
    refine Gl.go (fun _ k => XS.iload X13.here hx rfl (hb hby at_141) rfl  k) ?_
    show Gl _ _ _ _ (T13.setTop (mkF m 143 #[.val (.int w0), .val (.int w1), .val (.int w2), .val (.int w3), .val (.int w4), .val (.long w5), .second, .val (.int (1 : Int32)), .val (.ref a1), .val (.ref a2), .val (.ref a3), .val (.ref a4), .val (.ref a5), .val (.ref a6), .val (.ref a7), .val (.ref b12), .unset, .unset] [(.int (1 : Int32))]))
    refine Gl.go (fun _ k => XS.iconst X13.here hx rfl (hb hby at_143) k) ?_
    show Gl _ _ _ _ (T13.setTop (mkF m 144 #[.val (.int w0), .val (.int w1), .val (.int w2), .val (.int w3), .val (.int w4), .val (.long w5), .second, .val (.int (1 : Int32)), .val (.ref a1), .val (.ref a2), .val (.ref a3), .val (.ref a4), .val (.ref a5), .val (.ref a6), .val (.ref a7), .val (.ref b12), .unset, .unset] [(.int (3 : Int32)), (.int (1 : Int32))]))
    refine Gl.go (fun _ k => XS.icmpYes X13.here hx rfl (pc0 := 144) (pc' := 158) rfl (hb hby at_144) rfl (tlt (by decide)).1 (by decide) (by decide) k) ?_
    show Gl _ _ _ _ (T13.setTop (mkF m 158 #[.val (.int w0), .val (.int w1), .val (.int w2), .val (.int w3), .val (.int w4), .val (.long w5), .second, .val (.int (1 : Int32)), .val (.ref a1), .val (.ref a2), .val (.ref a3), .val (.ref a4), .val (.ref a5), .val (.ref a6), .val (.ref a7), .val (.ref b12), .unset, .unset] []))
    obtain ⟨T14, h14, X14, e14, E14, A14, D14, -, st14⟩ := newO X13 hx hZ hown (hw _ (List.mem_of_getElem? (i := 28) rfl)) (hw _ (List.mem_of_getElem? (i := 29) rfl)) (hw _ (List.mem_of_getElem? (i := 30) rfl)) rfl (g := (mkF m 158 #[.val (.int w0), .val (.int w1), .val (.int w2), .val (.int w3), .val (.int w4), .val (.long w5), .second, .val (.int (1 : Int32)), .val (.ref a1), .val (.ref a2), .val (.ref a3), .val (.ref a4), .val (.ref a5), .val (.ref a6), .val (.ref a7), .val (.ref b12), .unset, .unset] [])) rfl (hb hby at_158) (by decide) (by decide)
    obtain ⟨b14, g14⟩ : ∃ z, z = T13.heap.size := ⟨_, rfl⟩
    rw [← g14] at A14 D14 st14
    have g_b14 : n0 ≤ b14 := Nat.le_trans SZ13 (Nat.le_of_eq g14.symm)
    have sz_b14 : h0.size ≤ b14 := Nat.le_trans K13.1 (Nat.le_of_eq g14.symm)
    have szb_B_b14 : T7.heap.size ≤ b14 := Nat.le_trans KBB_13.1 (Nat.le_of_eq g14.symm)
    have ne_b12_b14 : b12 ≠ b14 := Nat.ne_of_lt (Nat.lt_of_lt_of_le Vc13.lt (Nat.le_of_eq g14.symm))
    have O__14 : Old Z n0 h14 := O__13.ext E14
    have V_b12_14 : Arv Z h14 b12 cA12 (.object "java/lang/String") (4 : Int32) [(.ref a4), (.ref a4), (.ref a1), (.ref a4)] .null := Vc13.ext E14
    have SZ14 : n0 ≤ h14.size := Nat.le_trans SZ13 E14.1
    have K14 : Keep h0 h14 [] := K13.ext E14
    have KBB_14 : Keep T7.heap h14 [] := KBB_13.ext E14
    have hk := Nat.le_trans hk E14.1
    have CR14 : CHr Z elL s.vm h0 T7.vm h14 := CR13.trans (CHr.ext E14 CR13.1)
    have F_b14_name_14 : Fld Z h14 b14 "org/semfolio/Dom$Element" "name" "Ljava/lang/String;" .null := D14 (Or.inr (hw _ (List.mem_of_getElem? (i := 41) rfl))) (ty := (.object "java/lang/String")) (by decide)
    have F_b14_qualifiedName_14 : Fld Z h14 b14 "org/semfolio/Dom$Element" "qualifiedName" "Ljava/lang/String;" .null := D14 (Or.inr (hw _ (List.mem_of_getElem? (i := 43) rfl))) (ty := (.object "java/lang/String")) (by decide)
    have F_b14_attributes_14 : Fld Z h14 b14 "org/semfolio/Dom$Element" "attributes" "[Ljava/lang/String;" .null := D14 (Or.inr (hw _ (List.mem_of_getElem? (i := 45) rfl))) (ty := (.array (.object "java/lang/String"))) (by decide)
    refine Gl.go (fun _ k => st14 _ k) ?_
    show Gl _ _ _ _ (T14.setTop (mkF m 161 #[.val (.int w0), .val (.int w1), .val (.int w2), .val (.int w3), .val (.int w4), .val (.long w5), .second, .val (.int (1 : Int32)), .val (.ref a1), .val (.ref a2), .val (.ref a3), .val (.ref a4), .val (.ref a5), .val (.ref a6), .val (.ref a7), .val (.ref b12), .unset, .unset] [(.ref b14)]))
    refine Gl.go (fun _ k => XS.dup X14.here hx rfl (hb hby at_161) rfl rfl k) ?_
    show Gl _ _ _ _ (T14.setTop (mkF m 162 #[.val (.int w0), .val (.int w1), .val (.int w2), .val (.int w3), .val (.int w4), .val (.long w5), .second, .val (.int (1 : Int32)), .val (.ref a1), .val (.ref a2), .val (.ref a3), .val (.ref a4), .val (.ref a5), .val (.ref a6), .val (.ref a7), .val (.ref b12), .unset, .unset] [(.ref b14), (.ref b14)]))
    refine Gl.go (fun _ k => XS.aload X14.here hx rfl (hb hby at_162) rfl rfl  k) ?_
    show Gl _ _ _ _ (T14.setTop (mkF m 164 #[.val (.int w0), .val (.int w1), .val (.int w2), .val (.int w3), .val (.int w4), .val (.long w5), .second, .val (.int (1 : Int32)), .val (.ref a1), .val (.ref a2), .val (.ref a3), .val (.ref a4), .val (.ref a5), .val (.ref a6), .val (.ref a7), .val (.ref b12), .unset, .unset] [(.ref a4), (.ref b14), (.ref b14)]))
    refine Gl.go (fun _ k => XS.aload X14.here hx rfl (hb hby at_164) rfl rfl  k) ?_
    show Gl _ _ _ _ (T14.setTop (mkF m 166 #[.val (.int w0), .val (.int w1), .val (.int w2), .val (.int w3), .val (.int w4), .val (.long w5), .second, .val (.int (1 : Int32)), .val (.ref a1), .val (.ref a2), .val (.ref a3), .val (.ref a4), .val (.ref a5), .val (.ref a6), .val (.ref a7), .val (.ref b12), .unset, .unset] [(.ref a1), (.ref a4), (.ref b14), (.ref b14)]))
    refine Gl.go (fun _ k => XS.aload X14.here hx rfl (hb hby at_166) rfl rfl  k) ?_
    show Gl _ _ _ _ (T14.setTop (mkF m 168 #[.val (.int w0), .val (.int w1), .val (.int w2), .val (.int w3), .val (.int w4), .val (.long w5), .second, .val (.int (1 : Int32)), .val (.ref a1), .val (.ref a2), .val (.ref a3), .val (.ref a4), .val (.ref a5), .val (.ref a6), .val (.ref a7), .val (.ref b12), .unset, .unset] [(.ref b12), (.ref a1), (.ref a4), (.ref b14), (.ref b14)]))
    obtain ⟨_, _, ⟨T15, L15, k15, n15⟩, -, X15, ⟨Lc15, hQ15, l15, y15, z15⟩, st15⟩ := X14.specialBack hx (y := (⟨"org/semfolio/Dom$Element", "<init>", "(Ljava/lang/String;Ljava/lang/String;[Ljava/lang/String;)V"⟩ : MethodName)) rfl hown (mvT hZ (hw _ (List.mem_of_getElem? (i := 31) rfl))) (mvT hZ (hw _ (List.mem_of_getElem? (i := 32) rfl))) (mvT hZ (hw _ (List.mem_of_getElem? (i := 33) rfl))) (by decide) (backOf (W := 1) (rm_ein l Z a0 hw [] b14 a4 a1 b12 .null .null .null h14 n0 SZ14 A14 F_b14_name_14 F_b14_qualifiedName_14 F_b14_attributes_14 g_b14) hZ (hw _ (List.mem_of_getElem? (i := 33) rfl)) (hw _ (List.mem_of_getElem? (i := 30) rfl)) (by decide) (by decide)) (g := (mkF m 168 #[.val (.int w0), .val (.int w1), .val (.int w2), .val (.int w3), .val (.int w4), .val (.long w5), .second, .val (.int (1 : Int32)), .val (.ref a1), .val (.ref a2), .val (.ref a3), .val (.ref a4), .val (.ref a5), .val (.ref a6), .val (.ref a7), .val (.ref b12), .unset, .unset] [(.ref b12), (.ref a1), (.ref a4), (.ref b14), (.ref b14)])) rfl (by rw [hml]; rfl) (Steps.refl _) (a := b14) (argsL := [(.ref a4), (.ref a1), (.ref b12)]) (rest := [(.ref b14)]) (lenOf pd_11 rfl) rfl (by show 2 * 0 + _ ≤ _; exact Nat.le_of_eq rfl) (hb hby at_168) (fun _ _ => ⟨rfl, e14, (by decide : 44 + 0 ≤ _), (by decide : 95 + 0 ≤ _)⟩)
    dsimp only [Pt.U, Pt.locs, Pt.cells, Pt.slots] at X15 l15 y15 z15 st15 hQ15
    subst y15 z15
    obtain ⟨rfl, Nq15, Kc15, Ec15, Fa15⟩ := hQ15
    have N15 : Fr n0 L15 := by rw [l15]; exact Fr.app N13 Nq15
    refine Gl.go (fun _ k => st15.trans k) ?_
    have O__15 : Old Z n0 T15.heap := O__14.keep Kc15 (allS g_b14 all0)
    have V_b12_15 : Arv Z T15.heap b12 cA12 (.object "java/lang/String") (4 : Int32) [(.ref a4), (.ref a4), (.ref a1), (.ref a4)] .null := V_b12_14.keep Kc15 (ninS ne_b12_b14 nin0)
    have E_b14_15 : Exa Z T15.heap b14 "org/semfolio/Dom$Element" := A14.keep Kc15
    have SZ15 : n0 ≤ T15.heap.size := Nat.le_trans SZ14 Kc15.1
    have K15 : Keep h0 T15.heap [] := K14.trans Kc15 (allS (Or.inr sz_b14) all0)
    have KBB_15 : Keep T7.heap T15.heap [] := KBB_14.trans Kc15 (allS (Or.inr szb_B_b14) all0)
    have hk := Nat.le_trans hk Kc15.1
    have CR15 : CHr Z elL s.vm h0 T7.vm T15.heap := CR14.trans (CHr.keep Kc15 (sfS (Safe.exa hZ.alike A14 (by decide) (by decide)) sf0) CR14.1)
    show Gl _ _ _ _ (T15.setTop (mkF m 171 #[.val (.int w0), .val (.int w1), .val (.int w2), .val (.int w3), .val (.int w4), .val (.long w5), .second, .val (.int (1 : Int32)), .val (.ref a1), .val (.ref a2), .val (.ref a3), .val (.ref a4), .val (.ref a5), .val (.ref a6), .val (.ref a7), .val (.ref b12), .unset, .unset] [(.ref b14)]))
    refine Gl.go (fun _ k => XS.astore X15.here hx rfl (hb hby at_171) rfl rfl (l' := #[.val (.int w0), .val (.int w1), .val (.int w2), .val (.int w3), .val (.int w4), .val (.long w5), .second, .val (.int (1 : Int32)), .val (.ref a1), .val (.ref a2), .val (.ref a3), .val (.ref a4), .val (.ref a5), .val (.ref a6), .val (.ref a7), .val (.ref b12), .val (.ref b14), .unset]) rfl k) ?_
    show Gl _ _ _ _ (T15.setTop (mkF m 173 #[.val (.int w0), .val (.int w1), .val (.int w2), .val (.int w3), .val (.int w4), .val (.long w5), .second, .val (.int (1 : Int32)), .val (.ref a1), .val (.ref a2), .val (.ref a3), .val (.ref a4), .val (.ref a5), .val (.ref a6), .val (.ref a7), .val (.ref b12), .val (.ref b14), .unset] []))
    refine Gl.go (fun _ k => XS.iload X15.here hx rfl (hb hby at_173) rfl  k) ?_
    show Gl _ _ _ _ (T15.setTop (mkF m 175 #[.val (.int w0), .val (.int w1), .val (.int w2), .val (.int w3), .val (.int w4), .val (.long w5), .second, .val (.int (1 : Int32)), .val (.ref a1), .val (.ref a2), .val (.ref a3), .val (.ref a4), .val (.ref a5), .val (.ref a6), .val (.ref a7), .val (.ref b12), .val (.ref b14), .unset] [(.int (1 : Int32))]))
    refine Gl.go (fun _ k => XS.iconst X15.here hx rfl (hb hby at_175) k) ?_
    show Gl _ _ _ _ (T15.setTop (mkF m 176 #[.val (.int w0), .val (.int w1), .val (.int w2), .val (.int w3), .val (.int w4), .val (.long w5), .second, .val (.int (1 : Int32)), .val (.ref a1), .val (.ref a2), .val (.ref a3), .val (.ref a4), .val (.ref a5), .val (.ref a6), .val (.ref a7), .val (.ref b12), .val (.ref b14), .unset] [(.int (1 : Int32)), (.int (1 : Int32))]))
    refine Gl.go (fun _ k => XS.icmpNo X15.here hx rfl (hb hby at_176) rfl (flt (by decide)).1 k) ?_
    show Gl _ _ _ _ (T15.setTop (mkF m 179 #[.val (.int w0), .val (.int w1), .val (.int w2), .val (.int w3), .val (.int w4), .val (.long w5), .second, .val (.int (1 : Int32)), .val (.ref a1), .val (.ref a2), .val (.ref a3), .val (.ref a4), .val (.ref a5), .val (.ref a6), .val (.ref a7), .val (.ref b12), .val (.ref b14), .unset] []))
    refine Gl.go (fun _ k => XS.aload X15.here hx rfl (hb hby at_179) rfl rfl  k) ?_
    show Gl _ _ _ _ (T15.setTop (mkF m 181 #[.val (.int w0), .val (.int w1), .val (.int w2), .val (.int w3), .val (.int w4), .val (.long w5), .second, .val (.int (1 : Int32)), .val (.ref a1), .val (.ref a2), .val (.ref a3), .val (.ref a4), .val (.ref a5), .val (.ref a6), .val (.ref a7), .val (.ref b12), .val (.ref b14), .unset] [(.ref a7)]))
    refine Gl.go (fun _ k => XS.aload X15.here hx rfl (hb hby at_181) rfl rfl  k) ?_
    show Gl _ _ _ _ (T15.setTop (mkF m 183 #[.val (.int w0), .val (.int w1), .val (.int w2), .val (.int w3), .val (.int w4), .val (.long w5), .second, .val (.int (1 : Int32)), .val (.ref a1), .val (.ref a2), .val (.ref a3), .val (.ref a4), .val (.ref a5), .val (.ref a6), .val (.ref a7), .val (.ref b12), .val (.ref b14), .unset] [(.ref a1), (.ref a7)]))
    obtain ⟨cq16, kq16, q16a, q16b, q16c⟩ := isOf (s := s.setVm T7.vm) hZ rfl (Sd6.ext (ext_of_keep KBB_15)).1
    obtain ⟨_, _, ⟨T16, L16, k16, n16⟩, -, X16, ⟨Lc16, hQ16, l16, y16, z16⟩, st16⟩ := X15.virtualBack hx (y := (⟨"java/lang/String", "equals", "(Ljava/lang/Object;)Z"⟩ : MethodName)) (z := (⟨"java/lang/String", "equals", "(Ljava/lang/Object;)Z"⟩ : MethodName)) hown (mvT hZ (hw _ (List.mem_of_getElem? (i := 58) rfl))) (mvT hZ (hw _ (List.mem_of_getElem? (i := 59) rfl))) (notFace_of_selects (args := #[]) (mvT hZ (hw _ (List.mem_of_getElem? (i := 61) rfl)))) (mvT hZ (hw _ (List.mem_of_getElem? (i := 61) rfl))) (mvT hZ (hw _ (List.mem_of_getElem? (i := 60) rfl))) (by decide) (backOf (W := 0) (rm_seq l Z a0 hw [] a7 a1 c6_ c0_ G1 T15.heap n0 SZ15 (Sd6.ext (ext_of_keep KBB_15)) (Sd0.ext (ext_of_keep KBB_15)) (O2.ext O__15.2) P5) hZ (hw _ (List.mem_of_getElem? (i := 62) rfl)) (hw _ (List.mem_of_getElem? (i := 7) rfl)) (by decide) (by decide)) q16a q16c (g := (mkF m 183 #[.val (.int w0), .val (.int w1), .val (.int w2), .val (.int w3), .val (.int w4), .val (.long w5), .second, .val (.int (1 : Int32)), .val (.ref a1), .val (.ref a2), .val (.ref a3), .val (.ref a4), .val (.ref a5), .val (.ref a6), .val (.ref a7), .val (.ref b12), .val (.ref b14), .unset] [(.ref a1), (.ref a7)])) rfl (by rw [hml]; rfl) (Steps.refl _) (argsL := [(.ref a1)]) (rest := []) (lenOf pd_9 rfl) rfl (by show 2 * 0 + _ ≤ _; exact Nat.le_of_eq rfl) (hb hby at_183) (fun _ _ => ⟨rfl, rfl, (by decide : 44 + 0 ≤ _), (by decide : 95 + 0 ≤ _)⟩)
    dsimp only [Pt.U, Pt.locs, Pt.cells, Pt.slots] at X16 l16 y16 z16 st16 hQ16
    subst y16 z16
    obtain ⟨rfl, Nq16, e16⟩ := hQ16
    have N16 : Fr n0 L16 := by rw [l16]; exact Fr.app N15 Nq16
    refine Gl.go (fun _ k => st16.trans k) ?_
    show Gl _ _ _ _ (T16.setTop (mkF m 186 #[.val (.int w0), .val (.int w1), .val (.int w2), .val (.int w3), .val (.int w4), .val (.long w5), .second, .val (.int (1 : Int32)), .val (.ref a1), .val (.ref a2), .val (.ref a3), .val (.ref a4), .val (.ref a5), .val (.ref a6), .val (.ref a7), .val (.ref b12), .val (.ref b14), .unset] [(.int (eqI c6_ c0_))]))
    by_cases tn0 : c0_ = c6_
    · skip
      rw [(eqI_yes tn0.symm : (eqI c6_ c0_) = (1 : Int32))]
      show Gl _ _ _ _ (T16.setTop (mkF m 186 #[.val (.int w0), .val (.int w1), .val (.int w2), .val (.int w3), .val (.int w4), .val (.long w5), .second, .val (.int (1 : Int32)), .val (.ref a1), .val (.ref a2), .val (.ref a3), .val (.ref a4), .val (.ref a5), .val (.ref a6), .val (.ref a7), .val (.ref b12), .val (.ref b14), .unset] [(.int (1 : Int32))]))
      refine Gl.go (fun _ k => XS.ifYes X16.here hx rfl (pc0 := 186) (pc' := 221) rfl (hb hby at_186) rfl ((if0 _ _).trans (feq (by decide)).2) (by decide) (by decide) k) ?_
      show Gl _ _ _ _ (T16.setTop (mkF m 221 #[.val (.int w0), .val (.int w1), .val (.int w2), .val (.int w3), .val (.int w4), .val (.long w5), .second, .val (.int (1 : Int32)), .val (.ref a1), .val (.ref a2), .val (.ref a3), .val (.ref a4), .val (.ref a5), .val (.ref a6), .val (.ref a7), .val (.ref b12), .val (.ref b14), .unset] []))
      refine Gl.go (fun _ k => XS.iconst X16.here hx rfl (hb hby at_221) k) ?_
      show Gl _ _ _ _ (T16.setTop (mkF m 222 #[.val (.int w0), .val (.int w1), .val (.int w2), .val (.int w3), .val (.int w4), .val (.long w5), .second, .val (.int (1 : Int32)), .val (.ref a1), .val (.ref a2), .val (.ref a3), .val (.ref a4), .val (.ref a5), .val (.ref a6), .val (.ref a7), .val (.ref b12), .val (.ref b14), .unset] [(.int (1 : Int32))]))
      refine Gl.go (fun _ k => XS.goto X16.here hx rfl (pc0 := 222) (pc' := 226) rfl (hb hby at_222) (by decide) (by decide) k) ?_
      show Gl _ _ _ _ (T16.setTop (mkF m 226 #[.val (.int w0), .val (.int w1), .val (.int w2), .val (.int w3), .val (.int w4), .val (.long w5), .second, .val (.int (1 : Int32)), .val (.ref a1), .val (.ref a2), .val (.ref a3), .val (.ref a4), .val (.ref a5), .val (.ref a6), .val (.ref a7), .val (.ref b12), .val (.ref b14), .unset] [(.int (1 : Int32))]))
      refine Gl.go (fun _ k => XS.istore X16.here hx rfl (hb hby at_226) rfl (l' := #[.val (.int w0), .val (.int w1), .val (.int w2), .val (.int w3), .val (.int w4), .val (.long w5), .second, .val (.int (1 : Int32)), .val (.ref a1), .val (.ref a2), .val (.ref a3), .val (.ref a4), .val (.ref a5), .val (.ref a6), .val (.ref a7), .val (.ref b12), .val (.ref b14), .val (.int (1 : Int32))]) rfl k) ?_
      show Gl _ _ _ _ (T16.setTop (mkF m 228 #[.val (.int w0), .val (.int w1), .val (.int w2), .val (.int w3), .val (.int w4), .val (.long w5), .second, .val (.int (1 : Int32)), .val (.ref a1), .val (.ref a2), .val (.ref a3), .val (.ref a4), .val (.ref a5), .val (.ref a6), .val (.ref a7), .val (.ref b12), .val (.ref b14), .val (.int (1 : Int32))] []))
      refine Gl.go (fun _ k => XS.aload X16.here hx rfl (hb hby at_228) rfl rfl  k) ?_
      show Gl _ _ _ _ (T16.setTop (mkF m 230 #[.val (.int w0), .val (.int w1), .val (.int w2), .val (.int w3), .val (.int w4), .val (.long w5), .second, .val (.int (1 : Int32)), .val (.ref a1), .val (.ref a2), .val (.ref a3), .val (.ref a4), .val (.ref a5), .val (.ref a6), .val (.ref a7), .val (.ref b12), .val (.ref b14), .val (.int (1 : Int32))] [(.ref b14)]))
      refine Gl.go (fun _ k => XS.aload X16.here hx rfl (hb hby at_230) rfl rfl  k) ?_
      show Gl _ _ _ _ (T16.setTop (mkF m 232 #[.val (.int w0), .val (.int w1), .val (.int w2), .val (.int w3), .val (.int w4), .val (.long w5), .second, .val (.int (1 : Int32)), .val (.ref a1), .val (.ref a2), .val (.ref a3), .val (.ref a4), .val (.ref a5), .val (.ref a6), .val (.ref a7), .val (.ref b12), .val (.ref b14), .val (.int (1 : Int32))] [(.ref a7), (.ref b14)]))
      obtain ⟨cq17, kq17, q17a, q17b, q17c⟩ := isOf (s := s.setVm T7.vm) hZ e16 E_b14_15
      obtain ⟨_, _, ⟨T17, L17, k17, n17⟩, -, X17, ⟨Lc17, hQ17, l17, y17, z17⟩, st17⟩ := X16.virtualBack hx (y := (⟨"org/semfolio/Dom$Element", "hasAttribute", "(Ljava/lang/String;)Z"⟩ : MethodName)) (z := (⟨"org/semfolio/Dom$Element", "hasAttribute", "(Ljava/lang/String;)Z"⟩ : MethodName)) hown (mvT hZ (hw _ (List.mem_of_getElem? (i := 46) rfl))) (mvT hZ (hw _ (List.mem_of_getElem? (i := 47) rfl))) (notFace_of_selects (args := #[]) (mvT hZ (hw _ (List.mem_of_getElem? (i := 49) rfl)))) (mvT hZ (hw _ (List.mem_of_getElem? (i := 49) rfl))) (mvT hZ (hw _ (List.mem_of_getElem? (i := 48) rfl))) (by decide) (backOf (W := 0) (rm_ha1 l Z a0 hw [] b14 a7 b12 cA12 c6_ a4 a4 a1 a4 c0_ G1 T15.heap n0 SZ15 E_b14_15 Fa15 V_b12_15 (Sd6.ext (ext_of_keep KBB_15)) (Sd0.ext (ext_of_keep KBB_15)) (O2.ext O__15.2) P5) hZ (hw _ (List.mem_of_getElem? (i := 50) rfl)) (hw _ (List.mem_of_getElem? (i := 30) rfl)) (by decide) (by decide)) q17a q17c (g := (mkF m 232 #[.val (.int w0), .val (.int w1), .val (.int w2), .val (.int w3), .val (.int w4), .val (.long w5), .second, .val (.int (1 : Int32)), .val (.ref a1), .val (.ref a2), .val (.ref a3), .val (.ref a4), .val (.ref a5), .val (.ref a6), .val (.ref a7), .val (.ref b12), .val (.ref b14), .val (.int (1 : Int32))] [(.ref a7), (.ref b14)])) rfl (by rw [hml]; rfl) (Steps.refl _) (argsL := [(.ref a7)]) (rest := []) (lenOf pd_12 rfl) rfl (by show 2 * 0 + _ ≤ _; exact Nat.le_of_eq rfl) (hb hby at_232) (fun _ _ => ⟨rfl, e16, (by decide : 44 + 0 ≤ _), (by decide : 95 + 0 ≤ _)⟩)
      dsimp only [Pt.U, Pt.locs, Pt.cells, Pt.slots] at X17 l17 y17 z17 st17 hQ17
      subst y17 z17
      obtain ⟨rfl, Nq17, e17⟩ := hQ17
      have N17 : Fr n0 L17 := by rw [l17]; exact Fr.app N16 Nq17
      refine Gl.go (fun _ k => st17.trans k) ?_
      show Gl _ _ _ _ (T17.setTop (mkF m 235 #[.val (.int w0), .val (.int w1), .val (.int w2), .val (.int w3), .val (.int w4), .val (.long w5), .second, .val (.int (1 : Int32)), .val (.ref a1), .val (.ref a2), .val (.ref a3), .val (.ref a4), .val (.ref a5), .val (.ref a6), .val (.ref a7), .val (.ref b12), .val (.ref b14), .val (.int (1 : Int32))] [(.int (if (if c0_ = c6_ then (0 : Int32) else (-1 : Int32)) < (0 : Int32) then (0 : Int32) else (1 : Int32)))]))
      rw [((by rw [if_pos tn0, if_neg (by decide)]) : (if (if c0_ = c6_ then (0 : Int32) else (-1 : Int32)) < (0 : Int32) then (0 : Int32) else (1 : Int32)) = (1 : Int32))]
      show Gl _ _ _ _ (T17.setTop (mkF m 235 #[.val (.int w0), .val (.int w1), .val (.int w2), .val (.int w3), .val (.int w4), .val (.long w5), .second, .val (.int (1 : Int32)), .val (.ref a1), .val (.ref a2), .val (.ref a3), .val (.ref a4), .val (.ref a5), .val (.ref a6), .val (.ref a7), .val (.ref b12), .val (.ref b14), .val (.int (1 : Int32))] [(.int (1 : Int32))]))
      refine Gl.go (fun _ k => XS.iload X17.here hx rfl (hb hby at_235) rfl  k) ?_
      show Gl _ _ _ _ (T17.setTop (mkF m 237 #[.val (.int w0), .val (.int w1), .val (.int w2), .val (.int w3), .val (.int w4), .val (.long w5), .second, .val (.int (1 : Int32)), .val (.ref a1), .val (.ref a2), .val (.ref a3), .val (.ref a4), .val (.ref a5), .val (.ref a6), .val (.ref a7), .val (.ref b12), .val (.ref b14), .val (.int (1 : Int32))] [(.int (1 : Int32)), (.int (1 : Int32))]))
      refine Gl.go (fun _ k => XS.icmpNo X17.here hx rfl (hb hby at_237) rfl (teq rfl).2 k) ?_
      show Gl _ _ _ _ (T17.setTop (mkF m 240 #[.val (.int w0), .val (.int w1), .val (.int w2), .val (.int w3), .val (.int w4), .val (.long w5), .second, .val (.int (1 : Int32)), .val (.ref a1), .val (.ref a2), .val (.ref a3), .val (.ref a4), .val (.ref a5), .val (.ref a6), .val (.ref a7), .val (.ref b12), .val (.ref b14), .val (.int (1 : Int32))] []))
      refine Gl.go (fun _ k => XS.iconst X17.here hx rfl (hb hby at_240) k) ?_
      show Gl _ _ _ _ (T17.setTop (mkF m 241 #[.val (.int w0), .val (.int w1), .val (.int w2), .val (.int w3), .val (.int w4), .val (.long w5), .second, .val (.int (1 : Int32)), .val (.ref a1), .val (.ref a2), .val (.ref a3), .val (.ref a4), .val (.ref a5), .val (.ref a6), .val (.ref a7), .val (.ref b12), .val (.ref b14), .val (.int (1 : Int32))] [(.int (1 : Int32))]))
      refine Gl.go (fun _ k => XS.goto X17.here hx rfl (pc0 := 241) (pc' := 245) rfl (hb hby at_241) (by decide) (by decide) k) ?_
      show Gl _ _ _ _ (T17.setTop (mkF m 245 #[.val (.int w0), .val (.int w1), .val (.int w2), .val (.int w3), .val (.int w4), .val (.long w5), .second, .val (.int (1 : Int32)), .val (.ref a1), .val (.ref a2), .val (.ref a3), .val (.ref a4), .val (.ref a5), .val (.ref a6), .val (.ref a7), .val (.ref b12), .val (.ref b14), .val (.int (1 : Int32))] [(.int (1 : Int32))]))
      refine leafWN X17 hS (by rw [e17]; exact hk) hx hlk (t := .boolean) Bd.returns (by simp) (hb hby at_245) (by rw [e17]; exact (CR15.trans (CHv.at X17 hZ hEL CR15.1))) hh ?_ (by decide) (by decide)
      exact ⟨rfl, N17⟩
    · skip
      rw [(eqI_no (fun q => tn0 q.symm) : (eqI c6_ c0_) = (0 : Int32))]
      show Gl _ _ _ _ (T16.setTop (mkF m 186 #[.val (.int w0), .val (.int w1), .val (.int w2), .val (.int w3), .val (.int w4), .val (.long w5), .second, .val (.int (1 : Int32)), .val (.ref a1), .val (.ref a2), .val (.ref a3), .val (.ref a4), .val (.ref a5), .val (.ref a6), .val (.ref a7), .val (.ref b12), .val (.ref b14), .unset] [(.int (0 : Int32))]))
      refine Gl.go (fun _ k => XS.ifNo X16.here hx rfl (hb hby at_186) rfl ((if0 _ _).trans (teq rfl).2) k) ?_
      show Gl _ _ _ _ (T16.setTop (mkF m 189 #[.val (.int w0), .val (.int w1), .val (.int w2), .val (.int w3), .val (.int w4), .val (.long w5), .second, .val (.int (1 : Int32)), .val (.ref a1), .val (.ref a2), .val (.ref a3), .val (.ref a4), .val (.ref a5), .val (.ref a6), .val (.ref a7), .val (.ref b12), .val (.ref b14), .unset] []))
      refine Gl.go (fun _ k => XS.iload X16.here hx rfl (hb hby at_189) rfl  k) ?_
      show Gl _ _ _ _ (T16.setTop (mkF m 191 #[.val (.int w0), .val (.int w1), .val (.int w2), .val (.int w3), .val (.int w4), .val (.long w5), .second, .val (.int (1 : Int32)), .val (.ref a1), .val (.ref a2), .val (.ref a3), .val (.ref a4), .val (.ref a5), .val (.ref a6), .val (.ref a7), .val (.ref b12), .val (.ref b14), .unset] [(.int (1 : Int32))]))
      refine Gl.go (fun _ k => XS.iconst X16.here hx rfl (hb hby at_191) k) ?_
      show Gl _ _ _ _ (T16.setTop (mkF m 192 #[.val (.int w0), .val (.int w1), .val (.int w2), .val (.int w3), .val (.int w4), .val (.long w5), .second, .val (.int (1 : Int32)), .val (.ref a1), .val (.ref a2), .val (.ref a3), .val (.ref a4), .val (.ref a5), .val (.ref a6), .val (.ref a7), .val (.ref b12), .val (.ref b14), .unset] [(.int (2 : Int32)), (.int (1 : Int32))]))
      refine Gl.go (fun _ k => XS.icmpYes X16.here hx rfl (pc0 := 192) (pc' := 205) rfl (hb hby at_192) rfl (tlt (by decide)).1 (by decide) (by decide) k) ?_
      show Gl _ _ _ _ (T16.setTop (mkF m 205 #[.val (.int w0), .val (.int w1), .val (.int w2), .val (.int w3), .val (.int w4), .val (.long w5), .second, .val (.int (1 : Int32)), .val (.ref a1), .val (.ref a2), .val (.ref a3), .val (.ref a4), .val (.ref a5), .val (.ref a6), .val (.ref a7), .val (.ref b12), .val (.ref b14), .unset] []))
      refine Gl.go (fun _ k => XS.iload X16.here hx rfl (hb hby at_205) rfl  k) ?_
      show Gl _ _ _ _ (T16.setTop (mkF m 207 #[.val (.int w0), .val (.int w1), .val (.int w2), .val (.int w3), .val (.int w4), .val (.long w5), .second, .val (.int (1 : Int32)), .val (.ref a1), .val (.ref a2), .val (.ref a3), .val (.ref a4), .val (.ref a5), .val (.ref a6), .val (.ref a7), .val (.ref b12), .val (.ref b14), .unset] [(.int (1 : Int32))]))
      refine Gl.go (fun _ k => XS.iconst X16.here hx rfl (hb hby at_207) k) ?_
      show Gl _ _ _ _ (T16.setTop (mkF m 208 #[.val (.int w0), .val (.int w1), .val (.int w2), .val (.int w3), .val (.int w4), .val (.long w5), .second, .val (.int (1 : Int32)), .val (.ref a1), .val (.ref a2), .val (.ref a3), .val (.ref a4), .val (.ref a5), .val (.ref a6), .val (.ref a7), .val (.ref b12), .val (.ref b14), .unset] [(.int (3 : Int32)), (.int (1 : Int32))]))
      refine Gl.go (fun _ k => XS.icmpYes X16.here hx rfl (pc0 := 208) (pc' := 225) rfl (hb hby at_208) rfl (tlt (by decide)).1 (by decide) (by decide) k) ?_
      show Gl _ _ _ _ (T16.setTop (mkF m 225 #[.val (.int w0), .val (.int w1), .val (.int w2), .val (.int w3), .val (.int w4), .val (.long w5), .second, .val (.int (1 : Int32)), .val (.ref a1), .val (.ref a2), .val (.ref a3), .val (.ref a4), .val (.ref a5), .val (.ref a6), .val (.ref a7), .val (.ref b12), .val (.ref b14), .unset] []))
      refine Gl.go (fun _ k => XS.iconst X16.here hx rfl (hb hby at_225) k) ?_
      show Gl _ _ _ _ (T16.setTop (mkF m 226 #[.val (.int w0), .val (.int w1), .val (.int w2), .val (.int w3), .val (.int w4), .val (.long w5), .second, .val (.int (1 : Int32)), .val (.ref a1), .val (.ref a2), .val (.ref a3), .val (.ref a4), .val (.ref a5), .val (.ref a6), .val (.ref a7), .val (.ref b12), .val (.ref b14), .unset] [(.int (0 : Int32))]))
      refine Gl.go (fun _ k => XS.istore X16.here hx rfl (hb hby at_226) rfl (l' := #[.val (.int w0), .val (.int w1), .val (.int w2), .val (.int w3), .val (.int w4), .val (.long w5), .second, .val (.int (1 : Int32)), .val (.ref a1), .val (.ref a2), .val (.ref a3), .val (.ref a4), .val (.ref a5), .val (.ref a6), .val (.ref a7), .val (.ref b12), .val (.ref b14), .val (.int (0 : Int32))]) rfl k) ?_
      show Gl _ _ _ _ (T16.setTop (mkF m 228 #[.val (.int w0), .val (.int w1), .val (.int w2), .val (.int w3), .val (.int w4), .val (.long w5), .second, .val (.int (1 : Int32)), .val (.ref a1), .val (.ref a2), .val (.ref a3), .val (.ref a4), .val (.ref a5), .val (.ref a6), .val (.ref a7), .val (.ref b12), .val (.ref b14), .val (.int (0 : Int32))] []))
      refine Gl.go (fun _ k => XS.aload X16.here hx rfl (hb hby at_228) rfl rfl  k) ?_
      show Gl _ _ _ _ (T16.setTop (mkF m 230 #[.val (.int w0), .val (.int w1), .val (.int w2), .val (.int w3), .val (.int w4), .val (.long w5), .second, .val (.int (1 : Int32)), .val (.ref a1), .val (.ref a2), .val (.ref a3), .val (.ref a4), .val (.ref a5), .val (.ref a6), .val (.ref a7), .val (.ref b12), .val (.ref b14), .val (.int (0 : Int32))] [(.ref b14)]))
      refine Gl.go (fun _ k => XS.aload X16.here hx rfl (hb hby at_230) rfl rfl  k) ?_
      show Gl _ _ _ _ (T16.setTop (mkF m 232 #[.val (.int w0), .val (.int w1), .val (.int w2), .val (.int w3), .val (.int w4), .val (.long w5), .second, .val (.int (1 : Int32)), .val (.ref a1), .val (.ref a2), .val (.ref a3), .val (.ref a4), .val (.ref a5), .val (.ref a6), .val (.ref a7), .val (.ref b12), .val (.ref b14), .val (.int (0 : Int32))] [(.ref a7), (.ref b14)]))
      obtain ⟨cq18, kq18, q18a, q18b, q18c⟩ := isOf (s := s.setVm T7.vm) hZ e16 E_b14_15
      obtain ⟨_, _, ⟨T18, L18, k18, n18⟩, -, X18, ⟨Lc18, hQ18, l18, y18, z18⟩, st18⟩ := X16.virtualBack hx (y := (⟨"org/semfolio/Dom$Element", "hasAttribute", "(Ljava/lang/String;)Z"⟩ : MethodName)) (z := (⟨"org/semfolio/Dom$Element", "hasAttribute", "(Ljava/lang/String;)Z"⟩ : MethodName)) hown (mvT hZ (hw _ (List.mem_of_getElem? (i := 46) rfl))) (mvT hZ (hw _ (List.mem_of_getElem? (i := 47) rfl))) (notFace_of_selects (args := #[]) (mvT hZ (hw _ (List.mem_of_getElem? (i := 49) rfl)))) (mvT hZ (hw _ (List.mem_of_getElem? (i := 49) rfl))) (mvT hZ (hw _ (List.mem_of_getElem? (i := 48) rfl))) (by decide) (backOf (W := 0) (rm_ha1 l Z a0 hw [] b14 a7 b12 cA12 c6_ a4 a4 a1 a4 c0_ G1 T15.heap n0 SZ15 E_b14_15 Fa15 V_b12_15 (Sd6.ext (ext_of_keep KBB_15)) (Sd0.ext (ext_of_keep KBB_15)) (O2.ext O__15.2) P5) hZ (hw _ (List.mem_of_getElem? (i := 50) rfl)) (hw _ (List.mem_of_getElem? (i := 30) rfl)) (by decide) (by decide)) q18a q18c (g := (mkF m 232 #[.val (.int w0), .val (.int w1), .val (.int w2), .val (.int w3), .val (.int w4), .val (.long w5), .second, .val (.int (1 : Int32)), .val (.ref a1), .val (.ref a2), .val (.ref a3), .val (.ref a4), .val (.ref a5), .val (.ref a6), .val (.ref a7), .val (.ref b12), .val (.ref b14), .val (.int (0 : Int32))] [(.ref a7), (.ref b14)])) rfl (by rw [hml]; rfl) (Steps.refl _) (argsL := [(.ref a7)]) (rest := []) (lenOf pd_12 rfl) rfl (by show 2 * 0 + _ ≤ _; exact Nat.le_of_eq rfl) (hb hby at_232) (fun _ _ => ⟨rfl, e16, (by decide : 44 + 0 ≤ _), (by decide : 95 + 0 ≤ _)⟩)
      dsimp only [Pt.U, Pt.locs, Pt.cells, Pt.slots] at X18 l18 y18 z18 st18 hQ18
      subst y18 z18
      obtain ⟨rfl, Nq18, e18⟩ := hQ18
      have N18 : Fr n0 L18 := by rw [l18]; exact Fr.app N16 Nq18
      refine Gl.go (fun _ k => st18.trans k) ?_
      show Gl _ _ _ _ (T18.setTop (mkF m 235 #[.val (.int w0), .val (.int w1), .val (.int w2), .val (.int w3), .val (.int w4), .val (.long w5), .second, .val (.int (1 : Int32)), .val (.ref a1), .val (.ref a2), .val (.ref a3), .val (.ref a4), .val (.ref a5), .val (.ref a6), .val (.ref a7), .val (.ref b12), .val (.ref b14), .val (.int (0 : Int32))] [(.int (if (if c0_ = c6_ then (0 : Int32) else (-1 : Int32)) < (0 : Int32) then (0 : Int32) else (1 : Int32)))]))
      rw [((by rw [if_neg tn0, if_pos (by decide)]) : (if (if c0_ = c6_ then (0 : Int32) else (-1 : Int32)) < (0 : Int32) then (0 : Int32) else (1 : Int32)) = (0 : Int32))]
      show Gl _ _ _ _ (T18.setTop (mkF m 235 #[.val (.int w0), .val (.int w1), .val (.int w2), .val (.int w3), .val (.int w4), .val (.long w5), .second, .val (.int (1 : Int32)), .val (.ref a1), .val (.ref a2), .val (.ref a3), .val (.ref a4), .val (.ref a5), .val (.ref a6), .val (.ref a7), .val (.ref b12), .val (.ref b14), .val (.int (0 : Int32))] [(.int (0 : Int32))]))
      refine Gl.go (fun _ k => XS.iload X18.here hx rfl (hb hby at_235) rfl  k) ?_
      show Gl _ _ _ _ (T18.setTop (mkF m 237 #[.val (.int w0), .val (.int w1), .val (.int w2), .val (.int w3), .val (.int w4), .val (.long w5), .second, .val (.int (1 : Int32)), .val (.ref a1), .val (.ref a2), .val (.ref a3), .val (.ref a4), .val (.ref a5), .val (.ref a6), .val (.ref a7), .val (.ref b12), .val (.ref b14), .val (.int (0 : Int32))] [(.int (0 : Int32)), (.int (0 : Int32))]))
      refine Gl.go (fun _ k => XS.icmpNo X18.here hx rfl (hb hby at_237) rfl (teq rfl).2 k) ?_
      show Gl _ _ _ _ (T18.setTop (mkF m 240 #[.val (.int w0), .val (.int w1), .val (.int w2), .val (.int w3), .val (.int w4), .val (.long w5), .second, .val (.int (1 : Int32)), .val (.ref a1), .val (.ref a2), .val (.ref a3), .val (.ref a4), .val (.ref a5), .val (.ref a6), .val (.ref a7), .val (.ref b12), .val (.ref b14), .val (.int (0 : Int32))] []))
      refine Gl.go (fun _ k => XS.iconst X18.here hx rfl (hb hby at_240) k) ?_
      show Gl _ _ _ _ (T18.setTop (mkF m 241 #[.val (.int w0), .val (.int w1), .val (.int w2), .val (.int w3), .val (.int w4), .val (.long w5), .second, .val (.int (1 : Int32)), .val (.ref a1), .val (.ref a2), .val (.ref a3), .val (.ref a4), .val (.ref a5), .val (.ref a6), .val (.ref a7), .val (.ref b12), .val (.ref b14), .val (.int (0 : Int32))] [(.int (1 : Int32))]))
      refine Gl.go (fun _ k => XS.goto X18.here hx rfl (pc0 := 241) (pc' := 245) rfl (hb hby at_241) (by decide) (by decide) k) ?_
      show Gl _ _ _ _ (T18.setTop (mkF m 245 #[.val (.int w0), .val (.int w1), .val (.int w2), .val (.int w3), .val (.int w4), .val (.long w5), .second, .val (.int (1 : Int32)), .val (.ref a1), .val (.ref a2), .val (.ref a3), .val (.ref a4), .val (.ref a5), .val (.ref a6), .val (.ref a7), .val (.ref b12), .val (.ref b14), .val (.int (0 : Int32))] [(.int (1 : Int32))]))
      refine leafWN X18 hS (by rw [e18]; exact hk) hx hlk (t := .boolean) Bd.returns (by simp) (hb hby at_245) (by rw [e18]; exact (CR15.trans (CHv.at X18 hZ hEL CR15.1))) hh ?_ (by decide) (by decide)
      exact ⟨rfl, N18⟩
  · skip
    rw [(hm : cm = (2 : Int32))]
    show Gl _ _ _ _ (T7.setTop (mkF m 65 #[.val (.int w0), .val (.int w1), .val (.int w2), .val (.int w3), .val (.int w4), .val (.long w5), .second, .val (.int (2 : Int32)), .val (.ref a1), .val (.ref a2), .val (.ref a3), .val (.ref a4), .val (.ref a5), .val (.ref a6), .val (.ref a7), .unset, .unset, .unset] [(.int (2 : Int32))]))
    refine Gl.go (fun _ k => XS.ifYes X7.here hx rfl (pc0 := 65) (pc' := 75) rfl (hb hby at_65) rfl ((if0 _ _).trans (feq (by decide)).2) (by decide) (by decide) k) ?_
    show Gl _ _ _ _ (T7.setTop (mkF m 75 #[.val (.int w0), .val (.int w1), .val (.int w2), .val (.int w3), .val (.int w4), .val (.long w5), .second, .val (.int (2 : Int32)), .val (.ref a1), .val (.ref a2), .val (.ref a3), .val (.ref a4), .val (.ref a5), .val (.ref a6), .val (.ref a7), .unset, .unset, .unset] []))
    refine Gl.go (fun _ k => XS.iload X7.here hx rfl (hb hby at_75) rfl  k) ?_
    show Gl _ _ _ _ (T7.setTop (mkF m 77 #[.val (.int w0), .val (.int w1), .val (.int w2), .val (.int w3), .val (.int w4), .val (.long w5), .second, .val (.int (2 : Int32)), .val (.ref a1), .val (.ref a2), .val (.ref a3), .val (.ref a4), .val (.ref a5), .val (.ref a6), .val (.ref a7), .unset, .unset, .unset] [(.int (2 : Int32))]))
    refine Gl.go (fun _ k => XS.iconst X7.here hx rfl (hb hby at_77) k) ?_
    show Gl _ _ _ _ (T7.setTop (mkF m 78 #[.val (.int w0), .val (.int w1), .val (.int w2), .val (.int w3), .val (.int w4), .val (.long w5), .second, .val (.int (2 : Int32)), .val (.ref a1), .val (.ref a2), .val (.ref a3), .val (.ref a4), .val (.ref a5), .val (.ref a6), .val (.ref a7), .unset, .unset, .unset] [(.int (1 : Int32)), (.int (2 : Int32))]))
    refine Gl.go (fun _ k => XS.icmpYes X7.here hx rfl (pc0 := 78) (pc' := 88) rfl (hb hby at_78) rfl (feq (by decide)).2 (by decide) (by decide) k) ?_
    show Gl _ _ _ _ (T7.setTop (mkF m 88 #[.val (.int w0), .val (.int w1), .val (.int w2), .val (.int w3), .val (.int w4), .val (.long w5), .second, .val (.int (2 : Int32)), .val (.ref a1), .val (.ref a2), .val (.ref a3), .val (.ref a4), .val (.ref a5), .val (.ref a6), .val (.ref a7), .unset, .unset, .unset] []))
    refine Gl.go (fun _ k => XS.iload X7.here hx rfl (hb hby at_88) rfl  k) ?_
    show Gl _ _ _ _ (T7.setTop (mkF m 90 #[.val (.int w0), .val (.int w1), .val (.int w2), .val (.int w3), .val (.int w4), .val (.long w5), .second, .val (.int (2 : Int32)), .val (.ref a1), .val (.ref a2), .val (.ref a3), .val (.ref a4), .val (.ref a5), .val (.ref a6), .val (.ref a7), .unset, .unset, .unset] [(.int (2 : Int32))]))
    refine Gl.go (fun _ k => XS.iconst X7.here hx rfl (hb hby at_90) k) ?_
    show Gl _ _ _ _ (T7.setTop (mkF m 91 #[.val (.int w0), .val (.int w1), .val (.int w2), .val (.int w3), .val (.int w4), .val (.long w5), .second, .val (.int (2 : Int32)), .val (.ref a1), .val (.ref a2), .val (.ref a3), .val (.ref a4), .val (.ref a5), .val (.ref a6), .val (.ref a7), .unset, .unset, .unset] [(.int (2 : Int32)), (.int (2 : Int32))]))
    refine Gl.go (fun _ k => XS.icmpNo X7.here hx rfl (hb hby at_91) rfl (teq rfl).2 k) ?_
    show Gl _ _ _ _ (T7.setTop (mkF m 94 #[.val (.int w0), .val (.int w1), .val (.int w2), .val (.int w3), .val (.int w4), .val (.long w5), .second, .val (.int (2 : Int32)), .val (.ref a1), .val (.ref a2), .val (.ref a3), .val (.ref a4), .val (.ref a5), .val (.ref a6), .val (.ref a7), .unset, .unset, .unset] []))
    refine Gl.go (fun _ k => XS.bipush X7.here hx rfl (hb hby at_94) k) ?_
    show Gl _ _ _ _ (T7.setTop (mkF m 96 #[.val (.int w0), .val (.int w1), .val (.int w2), .val (.int w3), .val (.int w4), .val (.long w5), .second, .val (.int (2 : Int32)), .val (.ref a1), .val (.ref a2), .val (.ref a3), .val (.ref a4), .val (.ref a5), .val (.ref a6), .val (.ref a7), .unset, .unset, .unset] [(.int (8 : Int32))]))
    obtain ⟨T19, h19, cA19, X19, e19, E19, A19, O19, st19⟩ := newR X7 hx hZ hown (hw _ (List.mem_of_getElem? (i := 5) rfl)) (hw _ (List.mem_of_getElem? (i := 27) rfl)) rfl (g := (mkF m 96 #[.val (.int w0), .val (.int w1), .val (.int w2), .val (.int w3), .val (.int w4), .val (.long w5), .second, .val (.int (2 : Int32)), .val (.ref a1), .val (.ref a2), .val (.ref a3), .val (.ref a4), .val (.ref a5), .val (.ref a6), .val (.ref a7), .unset, .unset, .unset] [(.int (8 : Int32))])) rfl (hb hby at_96) rfl (by decide) (cap := 8) (by decide) (by decide) (by decide) (by decide)
    obtain ⟨b19, g19⟩ : ∃ z, z = T7.heap.size := ⟨_, rfl⟩
    rw [← g19] at A19 st19
    have g_b19 : n0 ≤ b19 := Nat.le_trans SZ7 (Nat.le_of_eq g19.symm)
    have sz_b19 : h0.size ≤ b19 := Nat.le_trans K7.1 (Nat.le_of_eq g19.symm)
    have szb_B_b19 : T7.heap.size ≤ b19 := Nat.le_trans KBB.1 (Nat.le_of_eq g19.symm)
    have O__19 : Old Z n0 h19 := O__7.ext E19
    have SZ19 : n0 ≤ h19.size := Nat.le_trans SZ7 E19.1
    have K19 : Keep h0 h19 [] := K7.ext E19
    have KBB_19 : Keep T7.heap h19 [] := KBB.ext E19
    have hk := Nat.le_trans hk E19.1
    have CR19 : CHr Z elL s.vm h0 T7.vm h19 := CR7.trans (CHr.ext E19 CR7.1)
    have V_b19_19 : Arv Z h19 b19 cA19 (.object "java/lang/String") (8 : Int32) [.null, .null, .null, .null, .null, .null, .null, .null] .null := (Arv.new A19 (by decide)).pad (pad_rep [] _ 8)
    refine Gl.go (fun _ k => st19 _ k) ?_
    show Gl _ _ _ _ (T19.setTop (mkF m 99 #[.val (.int w0), .val (.int w1), .val (.int w2), .val (.int w3), .val (.int w4), .val (.long w5), .second, .val (.int (2 : Int32)), .val (.ref a1), .val (.ref a2), .val (.ref a3), .val (.ref a4), .val (.ref a5), .val (.ref a6), .val (.ref a7), .unset, .unset, .unset] [(.ref b19)]))
    refine Gl.go (fun _ k => XS.goto X19.here hx rfl (pc0 := 99) (pc' := 107) rfl (hb hby at_99) (by decide) (by decide) k) ?_
    show Gl _ _ _ _ (T19.setTop (mkF m 107 #[.val (.int w0), .val (.int w1), .val (.int w2), .val (.int w3), .val (.int w4), .val (.long w5), .second, .val (.int (2 : Int32)), .val (.ref a1), .val (.ref a2), .val (.ref a3), .val (.ref a4), .val (.ref a5), .val (.ref a6), .val (.ref a7), .unset, .unset, .unset] [(.ref b19)]))
    refine Gl.go (fun _ k => XS.astore X19.here hx rfl (hb hby at_107) rfl rfl (l' := #[.val (.int w0), .val (.int w1), .val (.int w2), .val (.int w3), .val (.int w4), .val (.long w5), .second, .val (.int (2 : Int32)), .val (.ref a1), .val (.ref a2), .val (.ref a3), .val (.ref a4), .val (.ref a5), .val (.ref a6), .val (.ref a7), .val (.ref b19), .unset, .unset]) rfl k) ?_
    show Gl _ _ _ _ (T19.setTop (mkF m 109 #[.val (.int w0), .val (.int w1), .val (.int w2), .val (.int w3), .val (.int w4), .val (.long w5), .second, .val (.int (2 : Int32)), .val (.ref a1), .val (.ref a2), .val (.ref a3), .val (.ref a4), .val (.ref a5), .val (.ref a6), .val (.ref a7), .val (.ref b19), .unset, .unset] []))
    refine Gl.go (fun _ k => XS.iload X19.here hx rfl (hb hby at_109) rfl  k) ?_
    show Gl _ _ _ _ (T19.setTop (mkF m 111 #[.val (.int w0), .val (.int w1), .val (.int w2), .val (.int w3), .val (.int w4), .val (.long w5), .second, .val (.int (2 : Int32)), .val (.ref a1), .val (.ref a2), .val (.ref a3), .val (.ref a4), .val (.ref a5), .val (.ref a6), .val (.ref a7), .val (.ref b19), .unset, .unset] [(.int (2 : Int32))]))
    refine Gl.go (fun _ k => XS.iconst X19.here hx rfl (hb hby at_111) k) ?_
    show Gl _ _ _ _ (T19.setTop (mkF m 112 #[.val (.int w0), .val (.int w1), .val (.int w2), .val (.int w3), .val (.int w4), .val (.long w5), .second, .val (.int (2 : Int32)), .val (.ref a1), .val (.ref a2), .val (.ref a3), .val (.ref a4), .val (.ref a5), .val (.ref a6), .val (.ref a7), .val (.ref b19), .unset, .unset] [(.int (1 : Int32)), (.int (2 : Int32))]))
    refine Gl.go (fun _ k => XS.icmpNo X19.here hx rfl (hb hby at_112) rfl (flt (by decide)).1 k) ?_
    show Gl _ _ _ _ (T19.setTop (mkF m 115 #[.val (.int w0), .val (.int w1), .val (.int w2), .val (.int w3), .val (.int w4), .val (.long w5), .second, .val (.int (2 : Int32)), .val (.ref a1), .val (.ref a2), .val (.ref a3), .val (.ref a4), .val (.ref a5), .val (.ref a6), .val (.ref a7), .val (.ref b19), .unset, .unset] []))
    refine Gl.go (fun _ k => XS.aload X19.here hx rfl (hb hby at_115) rfl rfl  k) ?_
    show Gl _ _ _ _ (T19.setTop (mkF m 117 #[.val (.int w0), .val (.int w1), .val (.int w2), .val (.int w3), .val (.int w4), .val (.long w5), .second, .val (.int (2 : Int32)), .val (.ref a1), .val (.ref a2), .val (.ref a3), .val (.ref a4), .val (.ref a5), .val (.ref a6), .val (.ref a7), .val (.ref b19), .unset, .unset] [(.ref b19)]))
    refine Gl.go (fun _ k => XS.iconst X19.here hx rfl (hb hby at_117) k) ?_
    show Gl _ _ _ _ (T19.setTop (mkF m 118 #[.val (.int w0), .val (.int w1), .val (.int w2), .val (.int w3), .val (.int w4), .val (.long w5), .second, .val (.int (2 : Int32)), .val (.ref a1), .val (.ref a2), .val (.ref a3), .val (.ref a4), .val (.ref a5), .val (.ref a6), .val (.ref a7), .val (.ref b19), .unset, .unset] [(.int (0 : Int32)), (.ref b19)]))
    refine Gl.go (fun _ k => XS.aload X19.here hx rfl (hb hby at_118) rfl rfl  k) ?_
    show Gl _ _ _ _ (T19.setTop (mkF m 120 #[.val (.int w0), .val (.int w1), .val (.int w2), .val (.int w3), .val (.int w4), .val (.long w5), .second, .val (.int (2 : Int32)), .val (.ref a1), .val (.ref a2), .val (.ref a3), .val (.ref a4), .val (.ref a5), .val (.ref a6), .val (.ref a7), .val (.ref b19), .unset, .unset] [(.ref a4), (.int (0 : Int32)), (.ref b19)]))
    refine Gl.go (fun _ k => XS.aload X19.here hx rfl (hb hby at_120) rfl rfl  k) ?_
    show Gl _ _ _ _ (T19.setTop (mkF m 122 #[.val (.int w0), .val (.int w1), .val (.int w2), .val (.int w3), .val (.int w4), .val (.long w5), .second, .val (.int (2 : Int32)), .val (.ref a1), .val (.ref a2), .val (.ref a3), .val (.ref a4), .val (.ref a5), .val (.ref a6), .val (.ref a7), .val (.ref b19), .unset, .unset] [(.ref a1), (.ref a4), (.int (0 : Int32)), (.ref b19)]))
    obtain ⟨_, _, ⟨T20, L20, k20, n20⟩, -, X20, ⟨Lc20, hQ20, l20, y20, z20⟩, st20⟩ := Jvm.LawKit.callS X19 hx (y := (⟨"org/semfolio/ElementHasAttributePinLaw", "put", "([Ljava/lang/String;ILjava/lang/String;Ljava/lang/String;)V"⟩ : MethodName)) hown (mvT hZ (hw _ (List.mem_of_getElem? (i := 55) rfl))) (mvT hZ (hw _ (List.mem_of_getElem? (i := 56) rfl))) (mvT hZ (hw _ (List.mem_of_getElem? (i := 3) rfl))) (mvT hZ (hw _ (List.mem_of_getElem? (i := 57) rfl))) (by decide) (backOf (W := 0) (rm_put_2_0 l Z a0 hw [] b19 a4 a1 cA19 .null .null .null .null .null .null .null .null h19 n0 SZ19 V_b19_19 O19 (Sd3.ext (ext_of_keep KBB_19)).1 (Sd0.ext (ext_of_keep KBB_19)).1 g_b19) hZ (hw _ (List.mem_of_getElem? (i := 57) rfl)) (hw _ (List.mem_of_getElem? (i := 3) rfl)) (by decide) (by decide)) (g := (mkF m 122 #[.val (.int w0), .val (.int w1), .val (.int w2), .val (.int w3), .val (.int w4), .val (.long w5), .second, .val (.int (2 : Int32)), .val (.ref a1), .val (.ref a2), .val (.ref a3), .val (.ref a4), .val (.ref a5), .val (.ref a6), .val (.ref a7), .val (.ref b19), .unset, .unset] [(.ref a1), (.ref a4), (.int (0 : Int32)), (.ref b19)])) rfl (by rw [hml]; rfl) (argsL := [(.ref b19), (.int (0 : Int32)), (.ref a4), (.ref a1)]) (rest := []) (lenOf pd_13 rfl) rfl (by show 2 * 0 + _ ≤ _; exact Nat.le_of_eq rfl) (hb hby at_122) (fun _ _ => ⟨rfl, e19, (by decide : 43 + 0 ≤ _), (by decide : 92 + 0 ≤ _)⟩)
    dsimp only [Pt.U, Pt.locs, Pt.cells, Pt.slots] at X20 l20 y20 z20 st20 hQ20
    subst y20 z20
    obtain ⟨rfl, Nq20, Kc20, Vc20⟩ := hQ20
    have N20 : Fr n0 L20 := by rw [l20]; exact Fr.app N7 Nq20
    refine Gl.go (fun _ k => st20 _ k) ?_
    have O__20 : Old Z n0 T20.heap := O__19.keep Kc20 (allS g_b19 all0)
    have SZ20 : n0 ≤ T20.heap.size := Nat.le_trans SZ19 Kc20.1
    have K20 : Keep h0 T20.heap [] := K19.trans Kc20 (allS (Or.inr sz_b19) all0)
    have KBB_20 : Keep T7.heap T20.heap [] := KBB_19.trans Kc20 (allS (Or.inr szb_B_b19) all0)
    have hk := Nat.le_trans hk Kc20.1
    have CR20 : CHr Z elL s.vm h0 T7.vm T20.heap := CR19.trans (CHr.keep Kc20 (sfS (Safe.arv hZ.alike V_b19_19 (by decide)) sf0) CR19.1)
    show Gl _ _ _ _ (T20.setTop (mkF m 125 #[.val (.int w0), .val (.int w1), .val (.int w2), .val (.int w3), .val (.int w4), .val (.long w5), .second, .val (.int (2 : Int32)), .val (.ref a1), .val (.ref a2), .val (.ref a3), .val (.ref a4), .val (.ref a5), .val (.ref a6), .val (.ref a7), .val (.ref b19), .unset, .unset] []))
    refine Gl.go (fun _ k => XS.iload X20.here hx rfl (hb hby at_125) rfl  k) ?_
    show Gl _ _ _ _ (T20.setTop (mkF m 127 #[.val (.int w0), .val (.int w1), .val (.int w2), .val (.int w3), .val (.int w4), .val (.long w5), .second, .val (.int (2 : Int32)), .val (.ref a1), .val (.ref a2), .val (.ref a3), .val (.ref a4), .val (.ref a5), .val (.ref a6), .val (.ref a7), .val (.ref b19), .unset, .unset] [(.int (2 : Int32))]))
    refine Gl.go (fun _ k => XS.iconst X20.here hx rfl (hb hby at_127) k) ?_
    show Gl _ _ _ _ (T20.setTop (mkF m 128 #[.val (.int w0), .val (.int w1), .val (.int w2), .val (.int w3), .val (.int w4), .val (.long w5), .second, .val (.int (2 : Int32)), .val (.ref a1), .val (.ref a2), .val (.ref a3), .val (.ref a4), .val (.ref a5), .val (.ref a6), .val (.ref a7), .val (.ref b19), .unset, .unset] [(.int (2 : Int32)), (.int (2 : Int32))]))
    refine Gl.go (fun _ k => XS.icmpNo X20.here hx rfl (hb hby at_128) rfl (flt (by decide)).1 k) ?_
    show Gl _ _ _ _ (T20.setTop (mkF m 131 #[.val (.int w0), .val (.int w1), .val (.int w2), .val (.int w3), .val (.int w4), .val (.long w5), .second, .val (.int (2 : Int32)), .val (.ref a1), .val (.ref a2), .val (.ref a3), .val (.ref a4), .val (.ref a5), .val (.ref a6), .val (.ref a7), .val (.ref b19), .unset, .unset] []))
    refine Gl.go (fun _ k => XS.aload X20.here hx rfl (hb hby at_131) rfl rfl  k) ?_
    show Gl _ _ _ _ (T20.setTop (mkF m 133 #[.val (.int w0), .val (.int w1), .val (.int w2), .val (.int w3), .val (.int w4), .val (.long w5), .second, .val (.int (2 : Int32)), .val (.ref a1), .val (.ref a2), .val (.ref a3), .val (.ref a4), .val (.ref a5), .val (.ref a6), .val (.ref a7), .val (.ref b19), .unset, .unset] [(.ref b19)]))
    refine Gl.go (fun _ k => XS.iconst X20.here hx rfl (hb hby at_133) k) ?_
    show Gl _ _ _ _ (T20.setTop (mkF m 134 #[.val (.int w0), .val (.int w1), .val (.int w2), .val (.int w3), .val (.int w4), .val (.long w5), .second, .val (.int (2 : Int32)), .val (.ref a1), .val (.ref a2), .val (.ref a3), .val (.ref a4), .val (.ref a5), .val (.ref a6), .val (.ref a7), .val (.ref b19), .unset, .unset] [(.int (4 : Int32)), (.ref b19)]))
    refine Gl.go (fun _ k => XS.aload X20.here hx rfl (hb hby at_134) rfl rfl  k) ?_
    show Gl _ _ _ _ (T20.setTop (mkF m 136 #[.val (.int w0), .val (.int w1), .val (.int w2), .val (.int w3), .val (.int w4), .val (.long w5), .second, .val (.int (2 : Int32)), .val (.ref a1), .val (.ref a2), .val (.ref a3), .val (.ref a4), .val (.ref a5), .val (.ref a6), .val (.ref a7), .val (.ref b19), .unset, .unset] [(.ref a5), (.int (4 : Int32)), (.ref b19)]))
    refine Gl.go (fun _ k => XS.aload X20.here hx rfl (hb hby at_136) rfl rfl  k) ?_
    show Gl _ _ _ _ (T20.setTop (mkF m 138 #[.val (.int w0), .val (.int w1), .val (.int w2), .val (.int w3), .val (.int w4), .val (.long w5), .second, .val (.int (2 : Int32)), .val (.ref a1), .val (.ref a2), .val (.ref a3), .val (.ref a4), .val (.ref a5), .val (.ref a6), .val (.ref a7), .val (.ref b19), .unset, .unset] [(.ref a2), (.ref a5), (.int (4 : Int32)), (.ref b19)]))
    obtain ⟨_, _, ⟨T21, L21, k21, n21⟩, -, X21, ⟨Lc21, hQ21, l21, y21, z21⟩, st21⟩ := Jvm.LawKit.callS X20 hx (y := (⟨"org/semfolio/ElementHasAttributePinLaw", "put", "([Ljava/lang/String;ILjava/lang/String;Ljava/lang/String;)V"⟩ : MethodName)) hown (mvT hZ (hw _ (List.mem_of_getElem? (i := 55) rfl))) (mvT hZ (hw _ (List.mem_of_getElem? (i := 56) rfl))) (mvT hZ (hw _ (List.mem_of_getElem? (i := 3) rfl))) (mvT hZ (hw _ (List.mem_of_getElem? (i := 57) rfl))) (by decide) (backOf (W := 0) (rm_put_2_1 l Z a0 hw [] b19 a5 a2 cA19 (.ref a4) (.ref a4) (.ref a1) (.ref a4) .null .null .null .null T20.heap n0 SZ20 Vc20 O19 (Sd4.ext (ext_of_keep KBB_20)).1 (Sd1.ext (ext_of_keep KBB_20)).1 g_b19) hZ (hw _ (List.mem_of_getElem? (i := 57) rfl)) (hw _ (List.mem_of_getElem? (i := 3) rfl)) (by decide) (by decide)) (g := (mkF m 138 #[.val (.int w0), .val (.int w1), .val (.int w2), .val (.int w3), .val (.int w4), .val (.long w5), .second, .val (.int (2 : Int32)), .val (.ref a1), .val (.ref a2), .val (.ref a3), .val (.ref a4), .val (.ref a5), .val (.ref a6), .val (.ref a7), .val (.ref b19), .unset, .unset] [(.ref a2), (.ref a5), (.int (4 : Int32)), (.ref b19)])) rfl (by rw [hml]; rfl) (argsL := [(.ref b19), (.int (4 : Int32)), (.ref a5), (.ref a2)]) (rest := []) (lenOf pd_13 rfl) rfl (by show 2 * 0 + _ ≤ _; exact Nat.le_of_eq rfl) (hb hby at_138) (fun _ _ => ⟨rfl, rfl, (by decide : 43 + 0 ≤ _), (by decide : 92 + 0 ≤ _)⟩)
    dsimp only [Pt.U, Pt.locs, Pt.cells, Pt.slots] at X21 l21 y21 z21 st21 hQ21
    subst y21 z21
    obtain ⟨rfl, Nq21, Kc21, Vc21⟩ := hQ21
    have N21 : Fr n0 L21 := by rw [l21]; exact Fr.app N20 Nq21
    refine Gl.go (fun _ k => st21 _ k) ?_
    have O__21 : Old Z n0 T21.heap := O__20.keep Kc21 (allS g_b19 all0)
    have SZ21 : n0 ≤ T21.heap.size := Nat.le_trans SZ20 Kc21.1
    have K21 : Keep h0 T21.heap [] := K20.trans Kc21 (allS (Or.inr sz_b19) all0)
    have KBB_21 : Keep T7.heap T21.heap [] := KBB_20.trans Kc21 (allS (Or.inr szb_B_b19) all0)
    have hk := Nat.le_trans hk Kc21.1
    have CR21 : CHr Z elL s.vm h0 T7.vm T21.heap := CR20.trans (CHr.keep Kc21 (sfS (Safe.arv hZ.alike Vc20 (by decide)) sf0) CR20.1)
    show Gl _ _ _ _ (T21.setTop (mkF m 141 #[.val (.int w0), .val (.int w1), .val (.int w2), .val (.int w3), .val (.int w4), .val (.long w5), .second, .val (.int (2 : Int32)), .val (.ref a1), .val (.ref a2), .val (.ref a3), .val (.ref a4), .val (.ref a5), .val (.ref a6), .val (.ref a7), .val (.ref b19), .unset, .unset] []))
    refine Gl.go (fun _ k => XS.iload X21.here hx rfl (hb hby at_141) rfl  k) ?_
    show Gl _ _ _ _ (T21.setTop (mkF m 143 #[.val (.int w0), .val (.int w1), .val (.int w2), .val (.int w3), .val (.int w4), .val (.long w5), .second, .val (.int (2 : Int32)), .val (.ref a1), .val (.ref a2), .val (.ref a3), .val (.ref a4), .val (.ref a5), .val (.ref a6), .val (.ref a7), .val (.ref b19), .unset, .unset] [(.int (2 : Int32))]))
    refine Gl.go (fun _ k => XS.iconst X21.here hx rfl (hb hby at_143) k) ?_
    show Gl _ _ _ _ (T21.setTop (mkF m 144 #[.val (.int w0), .val (.int w1), .val (.int w2), .val (.int w3), .val (.int w4), .val (.long w5), .second, .val (.int (2 : Int32)), .val (.ref a1), .val (.ref a2), .val (.ref a3), .val (.ref a4), .val (.ref a5), .val (.ref a6), .val (.ref a7), .val (.ref b19), .unset, .unset] [(.int (3 : Int32)), (.int (2 : Int32))]))
    refine Gl.go (fun _ k => XS.icmpYes X21.here hx rfl (pc0 := 144) (pc' := 158) rfl (hb hby at_144) rfl (tlt (by decide)).1 (by decide) (by decide) k) ?_
    show Gl _ _ _ _ (T21.setTop (mkF m 158 #[.val (.int w0), .val (.int w1), .val (.int w2), .val (.int w3), .val (.int w4), .val (.long w5), .second, .val (.int (2 : Int32)), .val (.ref a1), .val (.ref a2), .val (.ref a3), .val (.ref a4), .val (.ref a5), .val (.ref a6), .val (.ref a7), .val (.ref b19), .unset, .unset] []))
    obtain ⟨T22, h22, X22, e22, E22, A22, D22, -, st22⟩ := newO X21 hx hZ hown (hw _ (List.mem_of_getElem? (i := 28) rfl)) (hw _ (List.mem_of_getElem? (i := 29) rfl)) (hw _ (List.mem_of_getElem? (i := 30) rfl)) rfl (g := (mkF m 158 #[.val (.int w0), .val (.int w1), .val (.int w2), .val (.int w3), .val (.int w4), .val (.long w5), .second, .val (.int (2 : Int32)), .val (.ref a1), .val (.ref a2), .val (.ref a3), .val (.ref a4), .val (.ref a5), .val (.ref a6), .val (.ref a7), .val (.ref b19), .unset, .unset] [])) rfl (hb hby at_158) (by decide) (by decide)
    obtain ⟨b22, g22⟩ : ∃ z, z = T21.heap.size := ⟨_, rfl⟩
    rw [← g22] at A22 D22 st22
    have g_b22 : n0 ≤ b22 := Nat.le_trans SZ21 (Nat.le_of_eq g22.symm)
    have sz_b22 : h0.size ≤ b22 := Nat.le_trans K21.1 (Nat.le_of_eq g22.symm)
    have szb_B_b22 : T7.heap.size ≤ b22 := Nat.le_trans KBB_21.1 (Nat.le_of_eq g22.symm)
    have ne_b19_b22 : b19 ≠ b22 := Nat.ne_of_lt (Nat.lt_of_lt_of_le Vc21.lt (Nat.le_of_eq g22.symm))
    have O__22 : Old Z n0 h22 := O__21.ext E22
    have V_b19_22 : Arv Z h22 b19 cA19 (.object "java/lang/String") (8 : Int32) [(.ref a4), (.ref a4), (.ref a1), (.ref a4), (.ref a5), (.ref a5), (.ref a2), (.ref a5)] .null := Vc21.ext E22
    have SZ22 : n0 ≤ h22.size := Nat.le_trans SZ21 E22.1
    have K22 : Keep h0 h22 [] := K21.ext E22
    have KBB_22 : Keep T7.heap h22 [] := KBB_21.ext E22
    have hk := Nat.le_trans hk E22.1
    have CR22 : CHr Z elL s.vm h0 T7.vm h22 := CR21.trans (CHr.ext E22 CR21.1)
    have F_b22_name_22 : Fld Z h22 b22 "org/semfolio/Dom$Element" "name" "Ljava/lang/String;" .null := D22 (Or.inr (hw _ (List.mem_of_getElem? (i := 41) rfl))) (ty := (.object "java/lang/String")) (by decide)
    have F_b22_qualifiedName_22 : Fld Z h22 b22 "org/semfolio/Dom$Element" "qualifiedName" "Ljava/lang/String;" .null := D22 (Or.inr (hw _ (List.mem_of_getElem? (i := 43) rfl))) (ty := (.object "java/lang/String")) (by decide)
    have F_b22_attributes_22 : Fld Z h22 b22 "org/semfolio/Dom$Element" "attributes" "[Ljava/lang/String;" .null := D22 (Or.inr (hw _ (List.mem_of_getElem? (i := 45) rfl))) (ty := (.array (.object "java/lang/String"))) (by decide)
    refine Gl.go (fun _ k => st22 _ k) ?_
    show Gl _ _ _ _ (T22.setTop (mkF m 161 #[.val (.int w0), .val (.int w1), .val (.int w2), .val (.int w3), .val (.int w4), .val (.long w5), .second, .val (.int (2 : Int32)), .val (.ref a1), .val (.ref a2), .val (.ref a3), .val (.ref a4), .val (.ref a5), .val (.ref a6), .val (.ref a7), .val (.ref b19), .unset, .unset] [(.ref b22)]))
    refine Gl.go (fun _ k => XS.dup X22.here hx rfl (hb hby at_161) rfl rfl k) ?_
    show Gl _ _ _ _ (T22.setTop (mkF m 162 #[.val (.int w0), .val (.int w1), .val (.int w2), .val (.int w3), .val (.int w4), .val (.long w5), .second, .val (.int (2 : Int32)), .val (.ref a1), .val (.ref a2), .val (.ref a3), .val (.ref a4), .val (.ref a5), .val (.ref a6), .val (.ref a7), .val (.ref b19), .unset, .unset] [(.ref b22), (.ref b22)]))
    refine Gl.go (fun _ k => XS.aload X22.here hx rfl (hb hby at_162) rfl rfl  k) ?_
    show Gl _ _ _ _ (T22.setTop (mkF m 164 #[.val (.int w0), .val (.int w1), .val (.int w2), .val (.int w3), .val (.int w4), .val (.long w5), .second, .val (.int (2 : Int32)), .val (.ref a1), .val (.ref a2), .val (.ref a3), .val (.ref a4), .val (.ref a5), .val (.ref a6), .val (.ref a7), .val (.ref b19), .unset, .unset] [(.ref a4), (.ref b22), (.ref b22)]))
    refine Gl.go (fun _ k => XS.aload X22.here hx rfl (hb hby at_164) rfl rfl  k) ?_
    show Gl _ _ _ _ (T22.setTop (mkF m 166 #[.val (.int w0), .val (.int w1), .val (.int w2), .val (.int w3), .val (.int w4), .val (.long w5), .second, .val (.int (2 : Int32)), .val (.ref a1), .val (.ref a2), .val (.ref a3), .val (.ref a4), .val (.ref a5), .val (.ref a6), .val (.ref a7), .val (.ref b19), .unset, .unset] [(.ref a1), (.ref a4), (.ref b22), (.ref b22)]))
    refine Gl.go (fun _ k => XS.aload X22.here hx rfl (hb hby at_166) rfl rfl  k) ?_
    show Gl _ _ _ _ (T22.setTop (mkF m 168 #[.val (.int w0), .val (.int w1), .val (.int w2), .val (.int w3), .val (.int w4), .val (.long w5), .second, .val (.int (2 : Int32)), .val (.ref a1), .val (.ref a2), .val (.ref a3), .val (.ref a4), .val (.ref a5), .val (.ref a6), .val (.ref a7), .val (.ref b19), .unset, .unset] [(.ref b19), (.ref a1), (.ref a4), (.ref b22), (.ref b22)]))
    obtain ⟨_, _, ⟨T23, L23, k23, n23⟩, -, X23, ⟨Lc23, hQ23, l23, y23, z23⟩, st23⟩ := X22.specialBack hx (y := (⟨"org/semfolio/Dom$Element", "<init>", "(Ljava/lang/String;Ljava/lang/String;[Ljava/lang/String;)V"⟩ : MethodName)) rfl hown (mvT hZ (hw _ (List.mem_of_getElem? (i := 31) rfl))) (mvT hZ (hw _ (List.mem_of_getElem? (i := 32) rfl))) (mvT hZ (hw _ (List.mem_of_getElem? (i := 33) rfl))) (by decide) (backOf (W := 1) (rm_ein l Z a0 hw [] b22 a4 a1 b19 .null .null .null h22 n0 SZ22 A22 F_b22_name_22 F_b22_qualifiedName_22 F_b22_attributes_22 g_b22) hZ (hw _ (List.mem_of_getElem? (i := 33) rfl)) (hw _ (List.mem_of_getElem? (i := 30) rfl)) (by decide) (by decide)) (g := (mkF m 168 #[.val (.int w0), .val (.int w1), .val (.int w2), .val (.int w3), .val (.int w4), .val (.long w5), .second, .val (.int (2 : Int32)), .val (.ref a1), .val (.ref a2), .val (.ref a3), .val (.ref a4), .val (.ref a5), .val (.ref a6), .val (.ref a7), .val (.ref b19), .unset, .unset] [(.ref b19), (.ref a1), (.ref a4), (.ref b22), (.ref b22)])) rfl (by rw [hml]; rfl) (Steps.refl _) (a := b22) (argsL := [(.ref a4), (.ref a1), (.ref b19)]) (rest := [(.ref b22)]) (lenOf pd_11 rfl) rfl (by show 2 * 0 + _ ≤ _; exact Nat.le_of_eq rfl) (hb hby at_168) (fun _ _ => ⟨rfl, e22, (by decide : 44 + 0 ≤ _), (by decide : 99 + 0 ≤ _)⟩)
    dsimp only [Pt.U, Pt.locs, Pt.cells, Pt.slots] at X23 l23 y23 z23 st23 hQ23
    subst y23 z23
    obtain ⟨rfl, Nq23, Kc23, Ec23, Fa23⟩ := hQ23
    have N23 : Fr n0 L23 := by rw [l23]; exact Fr.app N21 Nq23
    refine Gl.go (fun _ k => st23.trans k) ?_
    have O__23 : Old Z n0 T23.heap := O__22.keep Kc23 (allS g_b22 all0)
    have V_b19_23 : Arv Z T23.heap b19 cA19 (.object "java/lang/String") (8 : Int32) [(.ref a4), (.ref a4), (.ref a1), (.ref a4), (.ref a5), (.ref a5), (.ref a2), (.ref a5)] .null := V_b19_22.keep Kc23 (ninS ne_b19_b22 nin0)
    have E_b22_23 : Exa Z T23.heap b22 "org/semfolio/Dom$Element" := A22.keep Kc23
    have SZ23 : n0 ≤ T23.heap.size := Nat.le_trans SZ22 Kc23.1
    have K23 : Keep h0 T23.heap [] := K22.trans Kc23 (allS (Or.inr sz_b22) all0)
    have KBB_23 : Keep T7.heap T23.heap [] := KBB_22.trans Kc23 (allS (Or.inr szb_B_b22) all0)
    have hk := Nat.le_trans hk Kc23.1
    have CR23 : CHr Z elL s.vm h0 T7.vm T23.heap := CR22.trans (CHr.keep Kc23 (sfS (Safe.exa hZ.alike A22 (by decide) (by decide)) sf0) CR22.1)
    show Gl _ _ _ _ (T23.setTop (mkF m 171 #[.val (.int w0), .val (.int w1), .val (.int w2), .val (.int w3), .val (.int w4), .val (.long w5), .second, .val (.int (2 : Int32)), .val (.ref a1), .val (.ref a2), .val (.ref a3), .val (.ref a4), .val (.ref a5), .val (.ref a6), .val (.ref a7), .val (.ref b19), .unset, .unset] [(.ref b22)]))
    refine Gl.go (fun _ k => XS.astore X23.here hx rfl (hb hby at_171) rfl rfl (l' := #[.val (.int w0), .val (.int w1), .val (.int w2), .val (.int w3), .val (.int w4), .val (.long w5), .second, .val (.int (2 : Int32)), .val (.ref a1), .val (.ref a2), .val (.ref a3), .val (.ref a4), .val (.ref a5), .val (.ref a6), .val (.ref a7), .val (.ref b19), .val (.ref b22), .unset]) rfl k) ?_
    show Gl _ _ _ _ (T23.setTop (mkF m 173 #[.val (.int w0), .val (.int w1), .val (.int w2), .val (.int w3), .val (.int w4), .val (.long w5), .second, .val (.int (2 : Int32)), .val (.ref a1), .val (.ref a2), .val (.ref a3), .val (.ref a4), .val (.ref a5), .val (.ref a6), .val (.ref a7), .val (.ref b19), .val (.ref b22), .unset] []))
    refine Gl.go (fun _ k => XS.iload X23.here hx rfl (hb hby at_173) rfl  k) ?_
    show Gl _ _ _ _ (T23.setTop (mkF m 175 #[.val (.int w0), .val (.int w1), .val (.int w2), .val (.int w3), .val (.int w4), .val (.long w5), .second, .val (.int (2 : Int32)), .val (.ref a1), .val (.ref a2), .val (.ref a3), .val (.ref a4), .val (.ref a5), .val (.ref a6), .val (.ref a7), .val (.ref b19), .val (.ref b22), .unset] [(.int (2 : Int32))]))
    refine Gl.go (fun _ k => XS.iconst X23.here hx rfl (hb hby at_175) k) ?_
    show Gl _ _ _ _ (T23.setTop (mkF m 176 #[.val (.int w0), .val (.int w1), .val (.int w2), .val (.int w3), .val (.int w4), .val (.long w5), .second, .val (.int (2 : Int32)), .val (.ref a1), .val (.ref a2), .val (.ref a3), .val (.ref a4), .val (.ref a5), .val (.ref a6), .val (.ref a7), .val (.ref b19), .val (.ref b22), .unset] [(.int (1 : Int32)), (.int (2 : Int32))]))
    refine Gl.go (fun _ k => XS.icmpNo X23.here hx rfl (hb hby at_176) rfl (flt (by decide)).1 k) ?_
    show Gl _ _ _ _ (T23.setTop (mkF m 179 #[.val (.int w0), .val (.int w1), .val (.int w2), .val (.int w3), .val (.int w4), .val (.long w5), .second, .val (.int (2 : Int32)), .val (.ref a1), .val (.ref a2), .val (.ref a3), .val (.ref a4), .val (.ref a5), .val (.ref a6), .val (.ref a7), .val (.ref b19), .val (.ref b22), .unset] []))
    refine Gl.go (fun _ k => XS.aload X23.here hx rfl (hb hby at_179) rfl rfl  k) ?_
    show Gl _ _ _ _ (T23.setTop (mkF m 181 #[.val (.int w0), .val (.int w1), .val (.int w2), .val (.int w3), .val (.int w4), .val (.long w5), .second, .val (.int (2 : Int32)), .val (.ref a1), .val (.ref a2), .val (.ref a3), .val (.ref a4), .val (.ref a5), .val (.ref a6), .val (.ref a7), .val (.ref b19), .val (.ref b22), .unset] [(.ref a7)]))
    refine Gl.go (fun _ k => XS.aload X23.here hx rfl (hb hby at_181) rfl rfl  k) ?_
    show Gl _ _ _ _ (T23.setTop (mkF m 183 #[.val (.int w0), .val (.int w1), .val (.int w2), .val (.int w3), .val (.int w4), .val (.long w5), .second, .val (.int (2 : Int32)), .val (.ref a1), .val (.ref a2), .val (.ref a3), .val (.ref a4), .val (.ref a5), .val (.ref a6), .val (.ref a7), .val (.ref b19), .val (.ref b22), .unset] [(.ref a1), (.ref a7)]))
    obtain ⟨cq24, kq24, q24a, q24b, q24c⟩ := isOf (s := s.setVm T7.vm) hZ rfl (Sd6.ext (ext_of_keep KBB_23)).1
    obtain ⟨_, _, ⟨T24, L24, k24, n24⟩, -, X24, ⟨Lc24, hQ24, l24, y24, z24⟩, st24⟩ := X23.virtualBack hx (y := (⟨"java/lang/String", "equals", "(Ljava/lang/Object;)Z"⟩ : MethodName)) (z := (⟨"java/lang/String", "equals", "(Ljava/lang/Object;)Z"⟩ : MethodName)) hown (mvT hZ (hw _ (List.mem_of_getElem? (i := 58) rfl))) (mvT hZ (hw _ (List.mem_of_getElem? (i := 59) rfl))) (notFace_of_selects (args := #[]) (mvT hZ (hw _ (List.mem_of_getElem? (i := 61) rfl)))) (mvT hZ (hw _ (List.mem_of_getElem? (i := 61) rfl))) (mvT hZ (hw _ (List.mem_of_getElem? (i := 60) rfl))) (by decide) (backOf (W := 0) (rm_seq l Z a0 hw [] a7 a1 c6_ c0_ G1 T23.heap n0 SZ23 (Sd6.ext (ext_of_keep KBB_23)) (Sd0.ext (ext_of_keep KBB_23)) (O2.ext O__23.2) P5) hZ (hw _ (List.mem_of_getElem? (i := 62) rfl)) (hw _ (List.mem_of_getElem? (i := 7) rfl)) (by decide) (by decide)) q24a q24c (g := (mkF m 183 #[.val (.int w0), .val (.int w1), .val (.int w2), .val (.int w3), .val (.int w4), .val (.long w5), .second, .val (.int (2 : Int32)), .val (.ref a1), .val (.ref a2), .val (.ref a3), .val (.ref a4), .val (.ref a5), .val (.ref a6), .val (.ref a7), .val (.ref b19), .val (.ref b22), .unset] [(.ref a1), (.ref a7)])) rfl (by rw [hml]; rfl) (Steps.refl _) (argsL := [(.ref a1)]) (rest := []) (lenOf pd_9 rfl) rfl (by show 2 * 0 + _ ≤ _; exact Nat.le_of_eq rfl) (hb hby at_183) (fun _ _ => ⟨rfl, rfl, (by decide : 44 + 0 ≤ _), (by decide : 99 + 0 ≤ _)⟩)
    dsimp only [Pt.U, Pt.locs, Pt.cells, Pt.slots] at X24 l24 y24 z24 st24 hQ24
    subst y24 z24
    obtain ⟨rfl, Nq24, e24⟩ := hQ24
    have N24 : Fr n0 L24 := by rw [l24]; exact Fr.app N23 Nq24
    refine Gl.go (fun _ k => st24.trans k) ?_
    show Gl _ _ _ _ (T24.setTop (mkF m 186 #[.val (.int w0), .val (.int w1), .val (.int w2), .val (.int w3), .val (.int w4), .val (.long w5), .second, .val (.int (2 : Int32)), .val (.ref a1), .val (.ref a2), .val (.ref a3), .val (.ref a4), .val (.ref a5), .val (.ref a6), .val (.ref a7), .val (.ref b19), .val (.ref b22), .unset] [(.int (eqI c6_ c0_))]))
    by_cases tn0 : c0_ = c6_
    · skip
      rw [(eqI_yes tn0.symm : (eqI c6_ c0_) = (1 : Int32))]
      show Gl _ _ _ _ (T24.setTop (mkF m 186 #[.val (.int w0), .val (.int w1), .val (.int w2), .val (.int w3), .val (.int w4), .val (.long w5), .second, .val (.int (2 : Int32)), .val (.ref a1), .val (.ref a2), .val (.ref a3), .val (.ref a4), .val (.ref a5), .val (.ref a6), .val (.ref a7), .val (.ref b19), .val (.ref b22), .unset] [(.int (1 : Int32))]))
      refine Gl.go (fun _ k => XS.ifYes X24.here hx rfl (pc0 := 186) (pc' := 221) rfl (hb hby at_186) rfl ((if0 _ _).trans (feq (by decide)).2) (by decide) (by decide) k) ?_
      show Gl _ _ _ _ (T24.setTop (mkF m 221 #[.val (.int w0), .val (.int w1), .val (.int w2), .val (.int w3), .val (.int w4), .val (.long w5), .second, .val (.int (2 : Int32)), .val (.ref a1), .val (.ref a2), .val (.ref a3), .val (.ref a4), .val (.ref a5), .val (.ref a6), .val (.ref a7), .val (.ref b19), .val (.ref b22), .unset] []))
      refine Gl.go (fun _ k => XS.iconst X24.here hx rfl (hb hby at_221) k) ?_
      show Gl _ _ _ _ (T24.setTop (mkF m 222 #[.val (.int w0), .val (.int w1), .val (.int w2), .val (.int w3), .val (.int w4), .val (.long w5), .second, .val (.int (2 : Int32)), .val (.ref a1), .val (.ref a2), .val (.ref a3), .val (.ref a4), .val (.ref a5), .val (.ref a6), .val (.ref a7), .val (.ref b19), .val (.ref b22), .unset] [(.int (1 : Int32))]))
      refine Gl.go (fun _ k => XS.goto X24.here hx rfl (pc0 := 222) (pc' := 226) rfl (hb hby at_222) (by decide) (by decide) k) ?_
      show Gl _ _ _ _ (T24.setTop (mkF m 226 #[.val (.int w0), .val (.int w1), .val (.int w2), .val (.int w3), .val (.int w4), .val (.long w5), .second, .val (.int (2 : Int32)), .val (.ref a1), .val (.ref a2), .val (.ref a3), .val (.ref a4), .val (.ref a5), .val (.ref a6), .val (.ref a7), .val (.ref b19), .val (.ref b22), .unset] [(.int (1 : Int32))]))
      refine Gl.go (fun _ k => XS.istore X24.here hx rfl (hb hby at_226) rfl (l' := #[.val (.int w0), .val (.int w1), .val (.int w2), .val (.int w3), .val (.int w4), .val (.long w5), .second, .val (.int (2 : Int32)), .val (.ref a1), .val (.ref a2), .val (.ref a3), .val (.ref a4), .val (.ref a5), .val (.ref a6), .val (.ref a7), .val (.ref b19), .val (.ref b22), .val (.int (1 : Int32))]) rfl k) ?_
      show Gl _ _ _ _ (T24.setTop (mkF m 228 #[.val (.int w0), .val (.int w1), .val (.int w2), .val (.int w3), .val (.int w4), .val (.long w5), .second, .val (.int (2 : Int32)), .val (.ref a1), .val (.ref a2), .val (.ref a3), .val (.ref a4), .val (.ref a5), .val (.ref a6), .val (.ref a7), .val (.ref b19), .val (.ref b22), .val (.int (1 : Int32))] []))
      refine Gl.go (fun _ k => XS.aload X24.here hx rfl (hb hby at_228) rfl rfl  k) ?_
      show Gl _ _ _ _ (T24.setTop (mkF m 230 #[.val (.int w0), .val (.int w1), .val (.int w2), .val (.int w3), .val (.int w4), .val (.long w5), .second, .val (.int (2 : Int32)), .val (.ref a1), .val (.ref a2), .val (.ref a3), .val (.ref a4), .val (.ref a5), .val (.ref a6), .val (.ref a7), .val (.ref b19), .val (.ref b22), .val (.int (1 : Int32))] [(.ref b22)]))
      refine Gl.go (fun _ k => XS.aload X24.here hx rfl (hb hby at_230) rfl rfl  k) ?_
      show Gl _ _ _ _ (T24.setTop (mkF m 232 #[.val (.int w0), .val (.int w1), .val (.int w2), .val (.int w3), .val (.int w4), .val (.long w5), .second, .val (.int (2 : Int32)), .val (.ref a1), .val (.ref a2), .val (.ref a3), .val (.ref a4), .val (.ref a5), .val (.ref a6), .val (.ref a7), .val (.ref b19), .val (.ref b22), .val (.int (1 : Int32))] [(.ref a7), (.ref b22)]))
      obtain ⟨cq25, kq25, q25a, q25b, q25c⟩ := isOf (s := s.setVm T7.vm) hZ e24 E_b22_23
      obtain ⟨_, _, ⟨T25, L25, k25, n25⟩, -, X25, ⟨Lc25, hQ25, l25, y25, z25⟩, st25⟩ := X24.virtualBack hx (y := (⟨"org/semfolio/Dom$Element", "hasAttribute", "(Ljava/lang/String;)Z"⟩ : MethodName)) (z := (⟨"org/semfolio/Dom$Element", "hasAttribute", "(Ljava/lang/String;)Z"⟩ : MethodName)) hown (mvT hZ (hw _ (List.mem_of_getElem? (i := 46) rfl))) (mvT hZ (hw _ (List.mem_of_getElem? (i := 47) rfl))) (notFace_of_selects (args := #[]) (mvT hZ (hw _ (List.mem_of_getElem? (i := 49) rfl)))) (mvT hZ (hw _ (List.mem_of_getElem? (i := 49) rfl))) (mvT hZ (hw _ (List.mem_of_getElem? (i := 48) rfl))) (by decide) (backOf (W := 0) (rm_ha2 l Z a0 hw [] b22 a7 b19 cA19 c6_ a4 a4 a1 a4 a5 a5 a2 a5 c0_ c1_ G1 T23.heap n0 SZ23 E_b22_23 Fa23 V_b19_23 (Sd6.ext (ext_of_keep KBB_23)) (Sd0.ext (ext_of_keep KBB_23)) (Sd1.ext (ext_of_keep KBB_23)) (O2.ext O__23.2) P5) hZ (hw _ (List.mem_of_getElem? (i := 50) rfl)) (hw _ (List.mem_of_getElem? (i := 30) rfl)) (by decide) (by decide)) q25a q25c (g := (mkF m 232 #[.val (.int w0), .val (.int w1), .val (.int w2), .val (.int w3), .val (.int w4), .val (.long w5), .second, .val (.int (2 : Int32)), .val (.ref a1), .val (.ref a2), .val (.ref a3), .val (.ref a4), .val (.ref a5), .val (.ref a6), .val (.ref a7), .val (.ref b19), .val (.ref b22), .val (.int (1 : Int32))] [(.ref a7), (.ref b22)])) rfl (by rw [hml]; rfl) (Steps.refl _) (argsL := [(.ref a7)]) (rest := []) (lenOf pd_12 rfl) rfl (by show 2 * 0 + _ ≤ _; exact Nat.le_of_eq rfl) (hb hby at_232) (fun _ _ => ⟨rfl, e24, (by decide : 44 + 0 ≤ _), (by decide : 99 + 0 ≤ _)⟩)
      dsimp only [Pt.U, Pt.locs, Pt.cells, Pt.slots] at X25 l25 y25 z25 st25 hQ25
      subst y25 z25
      obtain ⟨rfl, Nq25, e25⟩ := hQ25
      have N25 : Fr n0 L25 := by rw [l25]; exact Fr.app N24 Nq25
      refine Gl.go (fun _ k => st25.trans k) ?_
      show Gl _ _ _ _ (T25.setTop (mkF m 235 #[.val (.int w0), .val (.int w1), .val (.int w2), .val (.int w3), .val (.int w4), .val (.long w5), .second, .val (.int (2 : Int32)), .val (.ref a1), .val (.ref a2), .val (.ref a3), .val (.ref a4), .val (.ref a5), .val (.ref a6), .val (.ref a7), .val (.ref b19), .val (.ref b22), .val (.int (1 : Int32))] [(.int (if (if c0_ = c6_ then (0 : Int32) else (if c1_ = c6_ then (4 : Int32) else (-1 : Int32))) < (0 : Int32) then (0 : Int32) else (1 : Int32)))]))
      rw [((by rw [if_pos tn0, if_neg (by decide)]) : (if (if c0_ = c6_ then (0 : Int32) else (if c1_ = c6_ then (4 : Int32) else (-1 : Int32))) < (0 : Int32) then (0 : Int32) else (1 : Int32)) = (1 : Int32))]
      show Gl _ _ _ _ (T25.setTop (mkF m 235 #[.val (.int w0), .val (.int w1), .val (.int w2), .val (.int w3), .val (.int w4), .val (.long w5), .second, .val (.int (2 : Int32)), .val (.ref a1), .val (.ref a2), .val (.ref a3), .val (.ref a4), .val (.ref a5), .val (.ref a6), .val (.ref a7), .val (.ref b19), .val (.ref b22), .val (.int (1 : Int32))] [(.int (1 : Int32))]))
      refine Gl.go (fun _ k => XS.iload X25.here hx rfl (hb hby at_235) rfl  k) ?_
      show Gl _ _ _ _ (T25.setTop (mkF m 237 #[.val (.int w0), .val (.int w1), .val (.int w2), .val (.int w3), .val (.int w4), .val (.long w5), .second, .val (.int (2 : Int32)), .val (.ref a1), .val (.ref a2), .val (.ref a3), .val (.ref a4), .val (.ref a5), .val (.ref a6), .val (.ref a7), .val (.ref b19), .val (.ref b22), .val (.int (1 : Int32))] [(.int (1 : Int32)), (.int (1 : Int32))]))
      refine Gl.go (fun _ k => XS.icmpNo X25.here hx rfl (hb hby at_237) rfl (teq rfl).2 k) ?_
      show Gl _ _ _ _ (T25.setTop (mkF m 240 #[.val (.int w0), .val (.int w1), .val (.int w2), .val (.int w3), .val (.int w4), .val (.long w5), .second, .val (.int (2 : Int32)), .val (.ref a1), .val (.ref a2), .val (.ref a3), .val (.ref a4), .val (.ref a5), .val (.ref a6), .val (.ref a7), .val (.ref b19), .val (.ref b22), .val (.int (1 : Int32))] []))
      refine Gl.go (fun _ k => XS.iconst X25.here hx rfl (hb hby at_240) k) ?_
      show Gl _ _ _ _ (T25.setTop (mkF m 241 #[.val (.int w0), .val (.int w1), .val (.int w2), .val (.int w3), .val (.int w4), .val (.long w5), .second, .val (.int (2 : Int32)), .val (.ref a1), .val (.ref a2), .val (.ref a3), .val (.ref a4), .val (.ref a5), .val (.ref a6), .val (.ref a7), .val (.ref b19), .val (.ref b22), .val (.int (1 : Int32))] [(.int (1 : Int32))]))
      refine Gl.go (fun _ k => XS.goto X25.here hx rfl (pc0 := 241) (pc' := 245) rfl (hb hby at_241) (by decide) (by decide) k) ?_
      show Gl _ _ _ _ (T25.setTop (mkF m 245 #[.val (.int w0), .val (.int w1), .val (.int w2), .val (.int w3), .val (.int w4), .val (.long w5), .second, .val (.int (2 : Int32)), .val (.ref a1), .val (.ref a2), .val (.ref a3), .val (.ref a4), .val (.ref a5), .val (.ref a6), .val (.ref a7), .val (.ref b19), .val (.ref b22), .val (.int (1 : Int32))] [(.int (1 : Int32))]))
      refine leafWN X25 hS (by rw [e25]; exact hk) hx hlk (t := .boolean) Bd.returns (by simp) (hb hby at_245) (by rw [e25]; exact (CR23.trans (CHv.at X25 hZ hEL CR23.1))) hh ?_ (by decide) (by decide)
      exact ⟨rfl, N25⟩
    · skip
      rw [(eqI_no (fun q => tn0 q.symm) : (eqI c6_ c0_) = (0 : Int32))]
      show Gl _ _ _ _ (T24.setTop (mkF m 186 #[.val (.int w0), .val (.int w1), .val (.int w2), .val (.int w3), .val (.int w4), .val (.long w5), .second, .val (.int (2 : Int32)), .val (.ref a1), .val (.ref a2), .val (.ref a3), .val (.ref a4), .val (.ref a5), .val (.ref a6), .val (.ref a7), .val (.ref b19), .val (.ref b22), .unset] [(.int (0 : Int32))]))
      refine Gl.go (fun _ k => XS.ifNo X24.here hx rfl (hb hby at_186) rfl ((if0 _ _).trans (teq rfl).2) k) ?_
      show Gl _ _ _ _ (T24.setTop (mkF m 189 #[.val (.int w0), .val (.int w1), .val (.int w2), .val (.int w3), .val (.int w4), .val (.long w5), .second, .val (.int (2 : Int32)), .val (.ref a1), .val (.ref a2), .val (.ref a3), .val (.ref a4), .val (.ref a5), .val (.ref a6), .val (.ref a7), .val (.ref b19), .val (.ref b22), .unset] []))
      refine Gl.go (fun _ k => XS.iload X24.here hx rfl (hb hby at_189) rfl  k) ?_
      show Gl _ _ _ _ (T24.setTop (mkF m 191 #[.val (.int w0), .val (.int w1), .val (.int w2), .val (.int w3), .val (.int w4), .val (.long w5), .second, .val (.int (2 : Int32)), .val (.ref a1), .val (.ref a2), .val (.ref a3), .val (.ref a4), .val (.ref a5), .val (.ref a6), .val (.ref a7), .val (.ref b19), .val (.ref b22), .unset] [(.int (2 : Int32))]))
      refine Gl.go (fun _ k => XS.iconst X24.here hx rfl (hb hby at_191) k) ?_
      show Gl _ _ _ _ (T24.setTop (mkF m 192 #[.val (.int w0), .val (.int w1), .val (.int w2), .val (.int w3), .val (.int w4), .val (.long w5), .second, .val (.int (2 : Int32)), .val (.ref a1), .val (.ref a2), .val (.ref a3), .val (.ref a4), .val (.ref a5), .val (.ref a6), .val (.ref a7), .val (.ref b19), .val (.ref b22), .unset] [(.int (2 : Int32)), (.int (2 : Int32))]))
      refine Gl.go (fun _ k => XS.icmpNo X24.here hx rfl (hb hby at_192) rfl (flt (by decide)).1 k) ?_
      show Gl _ _ _ _ (T24.setTop (mkF m 195 #[.val (.int w0), .val (.int w1), .val (.int w2), .val (.int w3), .val (.int w4), .val (.long w5), .second, .val (.int (2 : Int32)), .val (.ref a1), .val (.ref a2), .val (.ref a3), .val (.ref a4), .val (.ref a5), .val (.ref a6), .val (.ref a7), .val (.ref b19), .val (.ref b22), .unset] []))
      refine Gl.go (fun _ k => XS.aload X24.here hx rfl (hb hby at_195) rfl rfl  k) ?_
      show Gl _ _ _ _ (T24.setTop (mkF m 197 #[.val (.int w0), .val (.int w1), .val (.int w2), .val (.int w3), .val (.int w4), .val (.long w5), .second, .val (.int (2 : Int32)), .val (.ref a1), .val (.ref a2), .val (.ref a3), .val (.ref a4), .val (.ref a5), .val (.ref a6), .val (.ref a7), .val (.ref b19), .val (.ref b22), .unset] [(.ref a7)]))
      refine Gl.go (fun _ k => XS.aload X24.here hx rfl (hb hby at_197) rfl rfl  k) ?_
      show Gl _ _ _ _ (T24.setTop (mkF m 199 #[.val (.int w0), .val (.int w1), .val (.int w2), .val (.int w3), .val (.int w4), .val (.long w5), .second, .val (.int (2 : Int32)), .val (.ref a1), .val (.ref a2), .val (.ref a3), .val (.ref a4), .val (.ref a5), .val (.ref a6), .val (.ref a7), .val (.ref b19), .val (.ref b22), .unset] [(.ref a2), (.ref a7)]))
      obtain ⟨cq26, kq26, q26a, q26b, q26c⟩ := isOf (s := s.setVm T7.vm) hZ e24 (Sd6.ext (ext_of_keep KBB_23)).1
      obtain ⟨_, _, ⟨T26, L26, k26, n26⟩, -, X26, ⟨Lc26, hQ26, l26, y26, z26⟩, st26⟩ := X24.virtualBack hx (y := (⟨"java/lang/String", "equals", "(Ljava/lang/Object;)Z"⟩ : MethodName)) (z := (⟨"java/lang/String", "equals", "(Ljava/lang/Object;)Z"⟩ : MethodName)) hown (mvT hZ (hw _ (List.mem_of_getElem? (i := 58) rfl))) (mvT hZ (hw _ (List.mem_of_getElem? (i := 59) rfl))) (notFace_of_selects (args := #[]) (mvT hZ (hw _ (List.mem_of_getElem? (i := 61) rfl)))) (mvT hZ (hw _ (List.mem_of_getElem? (i := 61) rfl))) (mvT hZ (hw _ (List.mem_of_getElem? (i := 60) rfl))) (by decide) (backOf (W := 0) (rm_seq l Z a0 hw [] a7 a2 c6_ c1_ G1 T23.heap n0 SZ23 (Sd6.ext (ext_of_keep KBB_23)) (Sd1.ext (ext_of_keep KBB_23)) (O2.ext O__23.2) P5) hZ (hw _ (List.mem_of_getElem? (i := 62) rfl)) (hw _ (List.mem_of_getElem? (i := 7) rfl)) (by decide) (by decide)) q26a q26c (g := (mkF m 199 #[.val (.int w0), .val (.int w1), .val (.int w2), .val (.int w3), .val (.int w4), .val (.long w5), .second, .val (.int (2 : Int32)), .val (.ref a1), .val (.ref a2), .val (.ref a3), .val (.ref a4), .val (.ref a5), .val (.ref a6), .val (.ref a7), .val (.ref b19), .val (.ref b22), .unset] [(.ref a2), (.ref a7)])) rfl (by rw [hml]; rfl) (Steps.refl _) (argsL := [(.ref a2)]) (rest := []) (lenOf pd_9 rfl) rfl (by show 2 * 0 + _ ≤ _; exact Nat.le_of_eq rfl) (hb hby at_199) (fun _ _ => ⟨rfl, e24, (by decide : 44 + 0 ≤ _), (by decide : 99 + 0 ≤ _)⟩)
      dsimp only [Pt.U, Pt.locs, Pt.cells, Pt.slots] at X26 l26 y26 z26 st26 hQ26
      subst y26 z26
      obtain ⟨rfl, Nq26, e26⟩ := hQ26
      have N26 : Fr n0 L26 := by rw [l26]; exact Fr.app N24 Nq26
      refine Gl.go (fun _ k => st26.trans k) ?_
      show Gl _ _ _ _ (T26.setTop (mkF m 202 #[.val (.int w0), .val (.int w1), .val (.int w2), .val (.int w3), .val (.int w4), .val (.long w5), .second, .val (.int (2 : Int32)), .val (.ref a1), .val (.ref a2), .val (.ref a3), .val (.ref a4), .val (.ref a5), .val (.ref a6), .val (.ref a7), .val (.ref b19), .val (.ref b22), .unset] [(.int (eqI c6_ c1_))]))
      by_cases tn1 : c1_ = c6_
      · skip
        rw [(eqI_yes tn1.symm : (eqI c6_ c1_) = (1 : Int32))]
        show Gl _ _ _ _ (T26.setTop (mkF m 202 #[.val (.int w0), .val (.int w1), .val (.int w2), .val (.int w3), .val (.int w4), .val (.long w5), .second, .val (.int (2 : Int32)), .val (.ref a1), .val (.ref a2), .val (.ref a3), .val (.ref a4), .val (.ref a5), .val (.ref a6), .val (.ref a7), .val (.ref b19), .val (.ref b22), .unset] [(.int (1 : Int32))]))
        refine Gl.go (fun _ k => XS.ifYes X26.here hx rfl (pc0 := 202) (pc' := 221) rfl (hb hby at_202) rfl ((if0 _ _).trans (feq (by decide)).2) (by decide) (by decide) k) ?_
        show Gl _ _ _ _ (T26.setTop (mkF m 221 #[.val (.int w0), .val (.int w1), .val (.int w2), .val (.int w3), .val (.int w4), .val (.long w5), .second, .val (.int (2 : Int32)), .val (.ref a1), .val (.ref a2), .val (.ref a3), .val (.ref a4), .val (.ref a5), .val (.ref a6), .val (.ref a7), .val (.ref b19), .val (.ref b22), .unset] []))
        refine Gl.go (fun _ k => XS.iconst X26.here hx rfl (hb hby at_221) k) ?_
        show Gl _ _ _ _ (T26.setTop (mkF m 222 #[.val (.int w0), .val (.int w1), .val (.int w2), .val (.int w3), .val (.int w4), .val (.long w5), .second, .val (.int (2 : Int32)), .val (.ref a1), .val (.ref a2), .val (.ref a3), .val (.ref a4), .val (.ref a5), .val (.ref a6), .val (.ref a7), .val (.ref b19), .val (.ref b22), .unset] [(.int (1 : Int32))]))
        refine Gl.go (fun _ k => XS.goto X26.here hx rfl (pc0 := 222) (pc' := 226) rfl (hb hby at_222) (by decide) (by decide) k) ?_
        show Gl _ _ _ _ (T26.setTop (mkF m 226 #[.val (.int w0), .val (.int w1), .val (.int w2), .val (.int w3), .val (.int w4), .val (.long w5), .second, .val (.int (2 : Int32)), .val (.ref a1), .val (.ref a2), .val (.ref a3), .val (.ref a4), .val (.ref a5), .val (.ref a6), .val (.ref a7), .val (.ref b19), .val (.ref b22), .unset] [(.int (1 : Int32))]))
        refine Gl.go (fun _ k => XS.istore X26.here hx rfl (hb hby at_226) rfl (l' := #[.val (.int w0), .val (.int w1), .val (.int w2), .val (.int w3), .val (.int w4), .val (.long w5), .second, .val (.int (2 : Int32)), .val (.ref a1), .val (.ref a2), .val (.ref a3), .val (.ref a4), .val (.ref a5), .val (.ref a6), .val (.ref a7), .val (.ref b19), .val (.ref b22), .val (.int (1 : Int32))]) rfl k) ?_
        show Gl _ _ _ _ (T26.setTop (mkF m 228 #[.val (.int w0), .val (.int w1), .val (.int w2), .val (.int w3), .val (.int w4), .val (.long w5), .second, .val (.int (2 : Int32)), .val (.ref a1), .val (.ref a2), .val (.ref a3), .val (.ref a4), .val (.ref a5), .val (.ref a6), .val (.ref a7), .val (.ref b19), .val (.ref b22), .val (.int (1 : Int32))] []))
        refine Gl.go (fun _ k => XS.aload X26.here hx rfl (hb hby at_228) rfl rfl  k) ?_
        show Gl _ _ _ _ (T26.setTop (mkF m 230 #[.val (.int w0), .val (.int w1), .val (.int w2), .val (.int w3), .val (.int w4), .val (.long w5), .second, .val (.int (2 : Int32)), .val (.ref a1), .val (.ref a2), .val (.ref a3), .val (.ref a4), .val (.ref a5), .val (.ref a6), .val (.ref a7), .val (.ref b19), .val (.ref b22), .val (.int (1 : Int32))] [(.ref b22)]))
        refine Gl.go (fun _ k => XS.aload X26.here hx rfl (hb hby at_230) rfl rfl  k) ?_
        show Gl _ _ _ _ (T26.setTop (mkF m 232 #[.val (.int w0), .val (.int w1), .val (.int w2), .val (.int w3), .val (.int w4), .val (.long w5), .second, .val (.int (2 : Int32)), .val (.ref a1), .val (.ref a2), .val (.ref a3), .val (.ref a4), .val (.ref a5), .val (.ref a6), .val (.ref a7), .val (.ref b19), .val (.ref b22), .val (.int (1 : Int32))] [(.ref a7), (.ref b22)]))
        obtain ⟨cq27, kq27, q27a, q27b, q27c⟩ := isOf (s := s.setVm T7.vm) hZ e26 E_b22_23
        obtain ⟨_, _, ⟨T27, L27, k27, n27⟩, -, X27, ⟨Lc27, hQ27, l27, y27, z27⟩, st27⟩ := X26.virtualBack hx (y := (⟨"org/semfolio/Dom$Element", "hasAttribute", "(Ljava/lang/String;)Z"⟩ : MethodName)) (z := (⟨"org/semfolio/Dom$Element", "hasAttribute", "(Ljava/lang/String;)Z"⟩ : MethodName)) hown (mvT hZ (hw _ (List.mem_of_getElem? (i := 46) rfl))) (mvT hZ (hw _ (List.mem_of_getElem? (i := 47) rfl))) (notFace_of_selects (args := #[]) (mvT hZ (hw _ (List.mem_of_getElem? (i := 49) rfl)))) (mvT hZ (hw _ (List.mem_of_getElem? (i := 49) rfl))) (mvT hZ (hw _ (List.mem_of_getElem? (i := 48) rfl))) (by decide) (backOf (W := 0) (rm_ha2 l Z a0 hw [] b22 a7 b19 cA19 c6_ a4 a4 a1 a4 a5 a5 a2 a5 c0_ c1_ G1 T23.heap n0 SZ23 E_b22_23 Fa23 V_b19_23 (Sd6.ext (ext_of_keep KBB_23)) (Sd0.ext (ext_of_keep KBB_23)) (Sd1.ext (ext_of_keep KBB_23)) (O2.ext O__23.2) P5) hZ (hw _ (List.mem_of_getElem? (i := 50) rfl)) (hw _ (List.mem_of_getElem? (i := 30) rfl)) (by decide) (by decide)) q27a q27c (g := (mkF m 232 #[.val (.int w0), .val (.int w1), .val (.int w2), .val (.int w3), .val (.int w4), .val (.long w5), .second, .val (.int (2 : Int32)), .val (.ref a1), .val (.ref a2), .val (.ref a3), .val (.ref a4), .val (.ref a5), .val (.ref a6), .val (.ref a7), .val (.ref b19), .val (.ref b22), .val (.int (1 : Int32))] [(.ref a7), (.ref b22)])) rfl (by rw [hml]; rfl) (Steps.refl _) (argsL := [(.ref a7)]) (rest := []) (lenOf pd_12 rfl) rfl (by show 2 * 0 + _ ≤ _; exact Nat.le_of_eq rfl) (hb hby at_232) (fun _ _ => ⟨rfl, e26, (by decide : 44 + 0 ≤ _), (by decide : 99 + 0 ≤ _)⟩)
        dsimp only [Pt.U, Pt.locs, Pt.cells, Pt.slots] at X27 l27 y27 z27 st27 hQ27
        subst y27 z27
        obtain ⟨rfl, Nq27, e27⟩ := hQ27
        have N27 : Fr n0 L27 := by rw [l27]; exact Fr.app N26 Nq27
        refine Gl.go (fun _ k => st27.trans k) ?_
        show Gl _ _ _ _ (T27.setTop (mkF m 235 #[.val (.int w0), .val (.int w1), .val (.int w2), .val (.int w3), .val (.int w4), .val (.long w5), .second, .val (.int (2 : Int32)), .val (.ref a1), .val (.ref a2), .val (.ref a3), .val (.ref a4), .val (.ref a5), .val (.ref a6), .val (.ref a7), .val (.ref b19), .val (.ref b22), .val (.int (1 : Int32))] [(.int (if (if c0_ = c6_ then (0 : Int32) else (if c1_ = c6_ then (4 : Int32) else (-1 : Int32))) < (0 : Int32) then (0 : Int32) else (1 : Int32)))]))
        rw [((by rw [if_neg tn0, if_pos tn1, if_neg (by decide)]) : (if (if c0_ = c6_ then (0 : Int32) else (if c1_ = c6_ then (4 : Int32) else (-1 : Int32))) < (0 : Int32) then (0 : Int32) else (1 : Int32)) = (1 : Int32))]
        show Gl _ _ _ _ (T27.setTop (mkF m 235 #[.val (.int w0), .val (.int w1), .val (.int w2), .val (.int w3), .val (.int w4), .val (.long w5), .second, .val (.int (2 : Int32)), .val (.ref a1), .val (.ref a2), .val (.ref a3), .val (.ref a4), .val (.ref a5), .val (.ref a6), .val (.ref a7), .val (.ref b19), .val (.ref b22), .val (.int (1 : Int32))] [(.int (1 : Int32))]))
        refine Gl.go (fun _ k => XS.iload X27.here hx rfl (hb hby at_235) rfl  k) ?_
        show Gl _ _ _ _ (T27.setTop (mkF m 237 #[.val (.int w0), .val (.int w1), .val (.int w2), .val (.int w3), .val (.int w4), .val (.long w5), .second, .val (.int (2 : Int32)), .val (.ref a1), .val (.ref a2), .val (.ref a3), .val (.ref a4), .val (.ref a5), .val (.ref a6), .val (.ref a7), .val (.ref b19), .val (.ref b22), .val (.int (1 : Int32))] [(.int (1 : Int32)), (.int (1 : Int32))]))
        refine Gl.go (fun _ k => XS.icmpNo X27.here hx rfl (hb hby at_237) rfl (teq rfl).2 k) ?_
        show Gl _ _ _ _ (T27.setTop (mkF m 240 #[.val (.int w0), .val (.int w1), .val (.int w2), .val (.int w3), .val (.int w4), .val (.long w5), .second, .val (.int (2 : Int32)), .val (.ref a1), .val (.ref a2), .val (.ref a3), .val (.ref a4), .val (.ref a5), .val (.ref a6), .val (.ref a7), .val (.ref b19), .val (.ref b22), .val (.int (1 : Int32))] []))
        refine Gl.go (fun _ k => XS.iconst X27.here hx rfl (hb hby at_240) k) ?_
        show Gl _ _ _ _ (T27.setTop (mkF m 241 #[.val (.int w0), .val (.int w1), .val (.int w2), .val (.int w3), .val (.int w4), .val (.long w5), .second, .val (.int (2 : Int32)), .val (.ref a1), .val (.ref a2), .val (.ref a3), .val (.ref a4), .val (.ref a5), .val (.ref a6), .val (.ref a7), .val (.ref b19), .val (.ref b22), .val (.int (1 : Int32))] [(.int (1 : Int32))]))
        refine Gl.go (fun _ k => XS.goto X27.here hx rfl (pc0 := 241) (pc' := 245) rfl (hb hby at_241) (by decide) (by decide) k) ?_
        show Gl _ _ _ _ (T27.setTop (mkF m 245 #[.val (.int w0), .val (.int w1), .val (.int w2), .val (.int w3), .val (.int w4), .val (.long w5), .second, .val (.int (2 : Int32)), .val (.ref a1), .val (.ref a2), .val (.ref a3), .val (.ref a4), .val (.ref a5), .val (.ref a6), .val (.ref a7), .val (.ref b19), .val (.ref b22), .val (.int (1 : Int32))] [(.int (1 : Int32))]))
        refine leafWN X27 hS (by rw [e27]; exact hk) hx hlk (t := .boolean) Bd.returns (by simp) (hb hby at_245) (by rw [e27]; exact (CR23.trans (CHv.at X27 hZ hEL CR23.1))) hh ?_ (by decide) (by decide)
        exact ⟨rfl, N27⟩
      · skip
        rw [(eqI_no (fun q => tn1 q.symm) : (eqI c6_ c1_) = (0 : Int32))]
        show Gl _ _ _ _ (T26.setTop (mkF m 202 #[.val (.int w0), .val (.int w1), .val (.int w2), .val (.int w3), .val (.int w4), .val (.long w5), .second, .val (.int (2 : Int32)), .val (.ref a1), .val (.ref a2), .val (.ref a3), .val (.ref a4), .val (.ref a5), .val (.ref a6), .val (.ref a7), .val (.ref b19), .val (.ref b22), .unset] [(.int (0 : Int32))]))
        refine Gl.go (fun _ k => XS.ifNo X26.here hx rfl (hb hby at_202) rfl ((if0 _ _).trans (teq rfl).2) k) ?_
        show Gl _ _ _ _ (T26.setTop (mkF m 205 #[.val (.int w0), .val (.int w1), .val (.int w2), .val (.int w3), .val (.int w4), .val (.long w5), .second, .val (.int (2 : Int32)), .val (.ref a1), .val (.ref a2), .val (.ref a3), .val (.ref a4), .val (.ref a5), .val (.ref a6), .val (.ref a7), .val (.ref b19), .val (.ref b22), .unset] []))
        refine Gl.go (fun _ k => XS.iload X26.here hx rfl (hb hby at_205) rfl  k) ?_
        show Gl _ _ _ _ (T26.setTop (mkF m 207 #[.val (.int w0), .val (.int w1), .val (.int w2), .val (.int w3), .val (.int w4), .val (.long w5), .second, .val (.int (2 : Int32)), .val (.ref a1), .val (.ref a2), .val (.ref a3), .val (.ref a4), .val (.ref a5), .val (.ref a6), .val (.ref a7), .val (.ref b19), .val (.ref b22), .unset] [(.int (2 : Int32))]))
        refine Gl.go (fun _ k => XS.iconst X26.here hx rfl (hb hby at_207) k) ?_
        show Gl _ _ _ _ (T26.setTop (mkF m 208 #[.val (.int w0), .val (.int w1), .val (.int w2), .val (.int w3), .val (.int w4), .val (.long w5), .second, .val (.int (2 : Int32)), .val (.ref a1), .val (.ref a2), .val (.ref a3), .val (.ref a4), .val (.ref a5), .val (.ref a6), .val (.ref a7), .val (.ref b19), .val (.ref b22), .unset] [(.int (3 : Int32)), (.int (2 : Int32))]))
        refine Gl.go (fun _ k => XS.icmpYes X26.here hx rfl (pc0 := 208) (pc' := 225) rfl (hb hby at_208) rfl (tlt (by decide)).1 (by decide) (by decide) k) ?_
        show Gl _ _ _ _ (T26.setTop (mkF m 225 #[.val (.int w0), .val (.int w1), .val (.int w2), .val (.int w3), .val (.int w4), .val (.long w5), .second, .val (.int (2 : Int32)), .val (.ref a1), .val (.ref a2), .val (.ref a3), .val (.ref a4), .val (.ref a5), .val (.ref a6), .val (.ref a7), .val (.ref b19), .val (.ref b22), .unset] []))
        refine Gl.go (fun _ k => XS.iconst X26.here hx rfl (hb hby at_225) k) ?_
        show Gl _ _ _ _ (T26.setTop (mkF m 226 #[.val (.int w0), .val (.int w1), .val (.int w2), .val (.int w3), .val (.int w4), .val (.long w5), .second, .val (.int (2 : Int32)), .val (.ref a1), .val (.ref a2), .val (.ref a3), .val (.ref a4), .val (.ref a5), .val (.ref a6), .val (.ref a7), .val (.ref b19), .val (.ref b22), .unset] [(.int (0 : Int32))]))
        refine Gl.go (fun _ k => XS.istore X26.here hx rfl (hb hby at_226) rfl (l' := #[.val (.int w0), .val (.int w1), .val (.int w2), .val (.int w3), .val (.int w4), .val (.long w5), .second, .val (.int (2 : Int32)), .val (.ref a1), .val (.ref a2), .val (.ref a3), .val (.ref a4), .val (.ref a5), .val (.ref a6), .val (.ref a7), .val (.ref b19), .val (.ref b22), .val (.int (0 : Int32))]) rfl k) ?_
        show Gl _ _ _ _ (T26.setTop (mkF m 228 #[.val (.int w0), .val (.int w1), .val (.int w2), .val (.int w3), .val (.int w4), .val (.long w5), .second, .val (.int (2 : Int32)), .val (.ref a1), .val (.ref a2), .val (.ref a3), .val (.ref a4), .val (.ref a5), .val (.ref a6), .val (.ref a7), .val (.ref b19), .val (.ref b22), .val (.int (0 : Int32))] []))
        refine Gl.go (fun _ k => XS.aload X26.here hx rfl (hb hby at_228) rfl rfl  k) ?_
        show Gl _ _ _ _ (T26.setTop (mkF m 230 #[.val (.int w0), .val (.int w1), .val (.int w2), .val (.int w3), .val (.int w4), .val (.long w5), .second, .val (.int (2 : Int32)), .val (.ref a1), .val (.ref a2), .val (.ref a3), .val (.ref a4), .val (.ref a5), .val (.ref a6), .val (.ref a7), .val (.ref b19), .val (.ref b22), .val (.int (0 : Int32))] [(.ref b22)]))
        refine Gl.go (fun _ k => XS.aload X26.here hx rfl (hb hby at_230) rfl rfl  k) ?_
        show Gl _ _ _ _ (T26.setTop (mkF m 232 #[.val (.int w0), .val (.int w1), .val (.int w2), .val (.int w3), .val (.int w4), .val (.long w5), .second, .val (.int (2 : Int32)), .val (.ref a1), .val (.ref a2), .val (.ref a3), .val (.ref a4), .val (.ref a5), .val (.ref a6), .val (.ref a7), .val (.ref b19), .val (.ref b22), .val (.int (0 : Int32))] [(.ref a7), (.ref b22)]))
        obtain ⟨cq28, kq28, q28a, q28b, q28c⟩ := isOf (s := s.setVm T7.vm) hZ e26 E_b22_23
        obtain ⟨_, _, ⟨T28, L28, k28, n28⟩, -, X28, ⟨Lc28, hQ28, l28, y28, z28⟩, st28⟩ := X26.virtualBack hx (y := (⟨"org/semfolio/Dom$Element", "hasAttribute", "(Ljava/lang/String;)Z"⟩ : MethodName)) (z := (⟨"org/semfolio/Dom$Element", "hasAttribute", "(Ljava/lang/String;)Z"⟩ : MethodName)) hown (mvT hZ (hw _ (List.mem_of_getElem? (i := 46) rfl))) (mvT hZ (hw _ (List.mem_of_getElem? (i := 47) rfl))) (notFace_of_selects (args := #[]) (mvT hZ (hw _ (List.mem_of_getElem? (i := 49) rfl)))) (mvT hZ (hw _ (List.mem_of_getElem? (i := 49) rfl))) (mvT hZ (hw _ (List.mem_of_getElem? (i := 48) rfl))) (by decide) (backOf (W := 0) (rm_ha2 l Z a0 hw [] b22 a7 b19 cA19 c6_ a4 a4 a1 a4 a5 a5 a2 a5 c0_ c1_ G1 T23.heap n0 SZ23 E_b22_23 Fa23 V_b19_23 (Sd6.ext (ext_of_keep KBB_23)) (Sd0.ext (ext_of_keep KBB_23)) (Sd1.ext (ext_of_keep KBB_23)) (O2.ext O__23.2) P5) hZ (hw _ (List.mem_of_getElem? (i := 50) rfl)) (hw _ (List.mem_of_getElem? (i := 30) rfl)) (by decide) (by decide)) q28a q28c (g := (mkF m 232 #[.val (.int w0), .val (.int w1), .val (.int w2), .val (.int w3), .val (.int w4), .val (.long w5), .second, .val (.int (2 : Int32)), .val (.ref a1), .val (.ref a2), .val (.ref a3), .val (.ref a4), .val (.ref a5), .val (.ref a6), .val (.ref a7), .val (.ref b19), .val (.ref b22), .val (.int (0 : Int32))] [(.ref a7), (.ref b22)])) rfl (by rw [hml]; rfl) (Steps.refl _) (argsL := [(.ref a7)]) (rest := []) (lenOf pd_12 rfl) rfl (by show 2 * 0 + _ ≤ _; exact Nat.le_of_eq rfl) (hb hby at_232) (fun _ _ => ⟨rfl, e26, (by decide : 44 + 0 ≤ _), (by decide : 99 + 0 ≤ _)⟩)
        dsimp only [Pt.U, Pt.locs, Pt.cells, Pt.slots] at X28 l28 y28 z28 st28 hQ28
        subst y28 z28
        obtain ⟨rfl, Nq28, e28⟩ := hQ28
        have N28 : Fr n0 L28 := by rw [l28]; exact Fr.app N26 Nq28
        refine Gl.go (fun _ k => st28.trans k) ?_
        show Gl _ _ _ _ (T28.setTop (mkF m 235 #[.val (.int w0), .val (.int w1), .val (.int w2), .val (.int w3), .val (.int w4), .val (.long w5), .second, .val (.int (2 : Int32)), .val (.ref a1), .val (.ref a2), .val (.ref a3), .val (.ref a4), .val (.ref a5), .val (.ref a6), .val (.ref a7), .val (.ref b19), .val (.ref b22), .val (.int (0 : Int32))] [(.int (if (if c0_ = c6_ then (0 : Int32) else (if c1_ = c6_ then (4 : Int32) else (-1 : Int32))) < (0 : Int32) then (0 : Int32) else (1 : Int32)))]))
        rw [((by rw [if_neg tn0, if_neg tn1, if_pos (by decide)]) : (if (if c0_ = c6_ then (0 : Int32) else (if c1_ = c6_ then (4 : Int32) else (-1 : Int32))) < (0 : Int32) then (0 : Int32) else (1 : Int32)) = (0 : Int32))]
        show Gl _ _ _ _ (T28.setTop (mkF m 235 #[.val (.int w0), .val (.int w1), .val (.int w2), .val (.int w3), .val (.int w4), .val (.long w5), .second, .val (.int (2 : Int32)), .val (.ref a1), .val (.ref a2), .val (.ref a3), .val (.ref a4), .val (.ref a5), .val (.ref a6), .val (.ref a7), .val (.ref b19), .val (.ref b22), .val (.int (0 : Int32))] [(.int (0 : Int32))]))
        refine Gl.go (fun _ k => XS.iload X28.here hx rfl (hb hby at_235) rfl  k) ?_
        show Gl _ _ _ _ (T28.setTop (mkF m 237 #[.val (.int w0), .val (.int w1), .val (.int w2), .val (.int w3), .val (.int w4), .val (.long w5), .second, .val (.int (2 : Int32)), .val (.ref a1), .val (.ref a2), .val (.ref a3), .val (.ref a4), .val (.ref a5), .val (.ref a6), .val (.ref a7), .val (.ref b19), .val (.ref b22), .val (.int (0 : Int32))] [(.int (0 : Int32)), (.int (0 : Int32))]))
        refine Gl.go (fun _ k => XS.icmpNo X28.here hx rfl (hb hby at_237) rfl (teq rfl).2 k) ?_
        show Gl _ _ _ _ (T28.setTop (mkF m 240 #[.val (.int w0), .val (.int w1), .val (.int w2), .val (.int w3), .val (.int w4), .val (.long w5), .second, .val (.int (2 : Int32)), .val (.ref a1), .val (.ref a2), .val (.ref a3), .val (.ref a4), .val (.ref a5), .val (.ref a6), .val (.ref a7), .val (.ref b19), .val (.ref b22), .val (.int (0 : Int32))] []))
        refine Gl.go (fun _ k => XS.iconst X28.here hx rfl (hb hby at_240) k) ?_
        show Gl _ _ _ _ (T28.setTop (mkF m 241 #[.val (.int w0), .val (.int w1), .val (.int w2), .val (.int w3), .val (.int w4), .val (.long w5), .second, .val (.int (2 : Int32)), .val (.ref a1), .val (.ref a2), .val (.ref a3), .val (.ref a4), .val (.ref a5), .val (.ref a6), .val (.ref a7), .val (.ref b19), .val (.ref b22), .val (.int (0 : Int32))] [(.int (1 : Int32))]))
        refine Gl.go (fun _ k => XS.goto X28.here hx rfl (pc0 := 241) (pc' := 245) rfl (hb hby at_241) (by decide) (by decide) k) ?_
        show Gl _ _ _ _ (T28.setTop (mkF m 245 #[.val (.int w0), .val (.int w1), .val (.int w2), .val (.int w3), .val (.int w4), .val (.long w5), .second, .val (.int (2 : Int32)), .val (.ref a1), .val (.ref a2), .val (.ref a3), .val (.ref a4), .val (.ref a5), .val (.ref a6), .val (.ref a7), .val (.ref b19), .val (.ref b22), .val (.int (0 : Int32))] [(.int (1 : Int32))]))
        refine leafWN X28 hS (by rw [e28]; exact hk) hx hlk (t := .boolean) Bd.returns (by simp) (hb hby at_245) (by rw [e28]; exact (CR23.trans (CHv.at X28 hZ hEL CR23.1))) hh ?_ (by decide) (by decide)
        exact ⟨rfl, N28⟩
  · skip
    rw [(hm : cm = (3 : Int32))]
    show Gl _ _ _ _ (T7.setTop (mkF m 65 #[.val (.int w0), .val (.int w1), .val (.int w2), .val (.int w3), .val (.int w4), .val (.long w5), .second, .val (.int (3 : Int32)), .val (.ref a1), .val (.ref a2), .val (.ref a3), .val (.ref a4), .val (.ref a5), .val (.ref a6), .val (.ref a7), .unset, .unset, .unset] [(.int (3 : Int32))]))
    refine Gl.go (fun _ k => XS.ifYes X7.here hx rfl (pc0 := 65) (pc' := 75) rfl (hb hby at_65) rfl ((if0 _ _).trans (feq (by decide)).2) (by decide) (by decide) k) ?_
    show Gl _ _ _ _ (T7.setTop (mkF m 75 #[.val (.int w0), .val (.int w1), .val (.int w2), .val (.int w3), .val (.int w4), .val (.long w5), .second, .val (.int (3 : Int32)), .val (.ref a1), .val (.ref a2), .val (.ref a3), .val (.ref a4), .val (.ref a5), .val (.ref a6), .val (.ref a7), .unset, .unset, .unset] []))
    refine Gl.go (fun _ k => XS.iload X7.here hx rfl (hb hby at_75) rfl  k) ?_
    show Gl _ _ _ _ (T7.setTop (mkF m 77 #[.val (.int w0), .val (.int w1), .val (.int w2), .val (.int w3), .val (.int w4), .val (.long w5), .second, .val (.int (3 : Int32)), .val (.ref a1), .val (.ref a2), .val (.ref a3), .val (.ref a4), .val (.ref a5), .val (.ref a6), .val (.ref a7), .unset, .unset, .unset] [(.int (3 : Int32))]))
    refine Gl.go (fun _ k => XS.iconst X7.here hx rfl (hb hby at_77) k) ?_
    show Gl _ _ _ _ (T7.setTop (mkF m 78 #[.val (.int w0), .val (.int w1), .val (.int w2), .val (.int w3), .val (.int w4), .val (.long w5), .second, .val (.int (3 : Int32)), .val (.ref a1), .val (.ref a2), .val (.ref a3), .val (.ref a4), .val (.ref a5), .val (.ref a6), .val (.ref a7), .unset, .unset, .unset] [(.int (1 : Int32)), (.int (3 : Int32))]))
    refine Gl.go (fun _ k => XS.icmpYes X7.here hx rfl (pc0 := 78) (pc' := 88) rfl (hb hby at_78) rfl (feq (by decide)).2 (by decide) (by decide) k) ?_
    show Gl _ _ _ _ (T7.setTop (mkF m 88 #[.val (.int w0), .val (.int w1), .val (.int w2), .val (.int w3), .val (.int w4), .val (.long w5), .second, .val (.int (3 : Int32)), .val (.ref a1), .val (.ref a2), .val (.ref a3), .val (.ref a4), .val (.ref a5), .val (.ref a6), .val (.ref a7), .unset, .unset, .unset] []))
    refine Gl.go (fun _ k => XS.iload X7.here hx rfl (hb hby at_88) rfl  k) ?_
    show Gl _ _ _ _ (T7.setTop (mkF m 90 #[.val (.int w0), .val (.int w1), .val (.int w2), .val (.int w3), .val (.int w4), .val (.long w5), .second, .val (.int (3 : Int32)), .val (.ref a1), .val (.ref a2), .val (.ref a3), .val (.ref a4), .val (.ref a5), .val (.ref a6), .val (.ref a7), .unset, .unset, .unset] [(.int (3 : Int32))]))
    refine Gl.go (fun _ k => XS.iconst X7.here hx rfl (hb hby at_90) k) ?_
    show Gl _ _ _ _ (T7.setTop (mkF m 91 #[.val (.int w0), .val (.int w1), .val (.int w2), .val (.int w3), .val (.int w4), .val (.long w5), .second, .val (.int (3 : Int32)), .val (.ref a1), .val (.ref a2), .val (.ref a3), .val (.ref a4), .val (.ref a5), .val (.ref a6), .val (.ref a7), .unset, .unset, .unset] [(.int (2 : Int32)), (.int (3 : Int32))]))
    refine Gl.go (fun _ k => XS.icmpYes X7.here hx rfl (pc0 := 91) (pc' := 102) rfl (hb hby at_91) rfl (feq (by decide)).2 (by decide) (by decide) k) ?_
    show Gl _ _ _ _ (T7.setTop (mkF m 102 #[.val (.int w0), .val (.int w1), .val (.int w2), .val (.int w3), .val (.int w4), .val (.long w5), .second, .val (.int (3 : Int32)), .val (.ref a1), .val (.ref a2), .val (.ref a3), .val (.ref a4), .val (.ref a5), .val (.ref a6), .val (.ref a7), .unset, .unset, .unset] []))
    refine Gl.go (fun _ k => XS.bipush X7.here hx rfl (hb hby at_102) k) ?_
    show Gl _ _ _ _ (T7.setTop (mkF m 104 #[.val (.int w0), .val (.int w1), .val (.int w2), .val (.int w3), .val (.int w4), .val (.long w5), .second, .val (.int (3 : Int32)), .val (.ref a1), .val (.ref a2), .val (.ref a3), .val (.ref a4), .val (.ref a5), .val (.ref a6), .val (.ref a7), .unset, .unset, .unset] [(.int (12 : Int32))]))
    obtain ⟨T29, h29, cA29, X29, e29, E29, A29, O29, st29⟩ := newR X7 hx hZ hown (hw _ (List.mem_of_getElem? (i := 5) rfl)) (hw _ (List.mem_of_getElem? (i := 27) rfl)) rfl (g := (mkF m 104 #[.val (.int w0), .val (.int w1), .val (.int w2), .val (.int w3), .val (.int w4), .val (.long w5), .second, .val (.int (3 : Int32)), .val (.ref a1), .val (.ref a2), .val (.ref a3), .val (.ref a4), .val (.ref a5), .val (.ref a6), .val (.ref a7), .unset, .unset, .unset] [(.int (12 : Int32))])) rfl (hb hby at_104) rfl (by decide) (cap := 12) (by decide) (by decide) (by decide) (by decide)
    obtain ⟨b29, g29⟩ : ∃ z, z = T7.heap.size := ⟨_, rfl⟩
    rw [← g29] at A29 st29
    have g_b29 : n0 ≤ b29 := Nat.le_trans SZ7 (Nat.le_of_eq g29.symm)
    have sz_b29 : h0.size ≤ b29 := Nat.le_trans K7.1 (Nat.le_of_eq g29.symm)
    have szb_B_b29 : T7.heap.size ≤ b29 := Nat.le_trans KBB.1 (Nat.le_of_eq g29.symm)
    have O__29 : Old Z n0 h29 := O__7.ext E29
    have SZ29 : n0 ≤ h29.size := Nat.le_trans SZ7 E29.1
    have K29 : Keep h0 h29 [] := K7.ext E29
    have KBB_29 : Keep T7.heap h29 [] := KBB.ext E29
    have hk := Nat.le_trans hk E29.1
    have CR29 : CHr Z elL s.vm h0 T7.vm h29 := CR7.trans (CHr.ext E29 CR7.1)
    have V_b29_29 : Arv Z h29 b29 cA29 (.object "java/lang/String") (12 : Int32) [.null, .null, .null, .null, .null, .null, .null, .null, .null, .null, .null, .null] .null := (Arv.new A29 (by decide)).pad (pad_rep [] _ 12)
    refine Gl.go (fun _ k => st29 _ k) ?_
    show Gl _ _ _ _ (T29.setTop (mkF m 107 #[.val (.int w0), .val (.int w1), .val (.int w2), .val (.int w3), .val (.int w4), .val (.long w5), .second, .val (.int (3 : Int32)), .val (.ref a1), .val (.ref a2), .val (.ref a3), .val (.ref a4), .val (.ref a5), .val (.ref a6), .val (.ref a7), .unset, .unset, .unset] [(.ref b29)]))
    refine Gl.go (fun _ k => XS.astore X29.here hx rfl (hb hby at_107) rfl rfl (l' := #[.val (.int w0), .val (.int w1), .val (.int w2), .val (.int w3), .val (.int w4), .val (.long w5), .second, .val (.int (3 : Int32)), .val (.ref a1), .val (.ref a2), .val (.ref a3), .val (.ref a4), .val (.ref a5), .val (.ref a6), .val (.ref a7), .val (.ref b29), .unset, .unset]) rfl k) ?_
    show Gl _ _ _ _ (T29.setTop (mkF m 109 #[.val (.int w0), .val (.int w1), .val (.int w2), .val (.int w3), .val (.int w4), .val (.long w5), .second, .val (.int (3 : Int32)), .val (.ref a1), .val (.ref a2), .val (.ref a3), .val (.ref a4), .val (.ref a5), .val (.ref a6), .val (.ref a7), .val (.ref b29), .unset, .unset] []))
    refine Gl.go (fun _ k => XS.iload X29.here hx rfl (hb hby at_109) rfl  k) ?_
    show Gl _ _ _ _ (T29.setTop (mkF m 111 #[.val (.int w0), .val (.int w1), .val (.int w2), .val (.int w3), .val (.int w4), .val (.long w5), .second, .val (.int (3 : Int32)), .val (.ref a1), .val (.ref a2), .val (.ref a3), .val (.ref a4), .val (.ref a5), .val (.ref a6), .val (.ref a7), .val (.ref b29), .unset, .unset] [(.int (3 : Int32))]))
    refine Gl.go (fun _ k => XS.iconst X29.here hx rfl (hb hby at_111) k) ?_
    show Gl _ _ _ _ (T29.setTop (mkF m 112 #[.val (.int w0), .val (.int w1), .val (.int w2), .val (.int w3), .val (.int w4), .val (.long w5), .second, .val (.int (3 : Int32)), .val (.ref a1), .val (.ref a2), .val (.ref a3), .val (.ref a4), .val (.ref a5), .val (.ref a6), .val (.ref a7), .val (.ref b29), .unset, .unset] [(.int (1 : Int32)), (.int (3 : Int32))]))
    refine Gl.go (fun _ k => XS.icmpNo X29.here hx rfl (hb hby at_112) rfl (flt (by decide)).1 k) ?_
    show Gl _ _ _ _ (T29.setTop (mkF m 115 #[.val (.int w0), .val (.int w1), .val (.int w2), .val (.int w3), .val (.int w4), .val (.long w5), .second, .val (.int (3 : Int32)), .val (.ref a1), .val (.ref a2), .val (.ref a3), .val (.ref a4), .val (.ref a5), .val (.ref a6), .val (.ref a7), .val (.ref b29), .unset, .unset] []))
    refine Gl.go (fun _ k => XS.aload X29.here hx rfl (hb hby at_115) rfl rfl  k) ?_
    show Gl _ _ _ _ (T29.setTop (mkF m 117 #[.val (.int w0), .val (.int w1), .val (.int w2), .val (.int w3), .val (.int w4), .val (.long w5), .second, .val (.int (3 : Int32)), .val (.ref a1), .val (.ref a2), .val (.ref a3), .val (.ref a4), .val (.ref a5), .val (.ref a6), .val (.ref a7), .val (.ref b29), .unset, .unset] [(.ref b29)]))
    refine Gl.go (fun _ k => XS.iconst X29.here hx rfl (hb hby at_117) k) ?_
    show Gl _ _ _ _ (T29.setTop (mkF m 118 #[.val (.int w0), .val (.int w1), .val (.int w2), .val (.int w3), .val (.int w4), .val (.long w5), .second, .val (.int (3 : Int32)), .val (.ref a1), .val (.ref a2), .val (.ref a3), .val (.ref a4), .val (.ref a5), .val (.ref a6), .val (.ref a7), .val (.ref b29), .unset, .unset] [(.int (0 : Int32)), (.ref b29)]))
    refine Gl.go (fun _ k => XS.aload X29.here hx rfl (hb hby at_118) rfl rfl  k) ?_
    show Gl _ _ _ _ (T29.setTop (mkF m 120 #[.val (.int w0), .val (.int w1), .val (.int w2), .val (.int w3), .val (.int w4), .val (.long w5), .second, .val (.int (3 : Int32)), .val (.ref a1), .val (.ref a2), .val (.ref a3), .val (.ref a4), .val (.ref a5), .val (.ref a6), .val (.ref a7), .val (.ref b29), .unset, .unset] [(.ref a4), (.int (0 : Int32)), (.ref b29)]))
    refine Gl.go (fun _ k => XS.aload X29.here hx rfl (hb hby at_120) rfl rfl  k) ?_
    show Gl _ _ _ _ (T29.setTop (mkF m 122 #[.val (.int w0), .val (.int w1), .val (.int w2), .val (.int w3), .val (.int w4), .val (.long w5), .second, .val (.int (3 : Int32)), .val (.ref a1), .val (.ref a2), .val (.ref a3), .val (.ref a4), .val (.ref a5), .val (.ref a6), .val (.ref a7), .val (.ref b29), .unset, .unset] [(.ref a1), (.ref a4), (.int (0 : Int32)), (.ref b29)]))
    obtain ⟨_, _, ⟨T30, L30, k30, n30⟩, -, X30, ⟨Lc30, hQ30, l30, y30, z30⟩, st30⟩ := Jvm.LawKit.callS X29 hx (y := (⟨"org/semfolio/ElementHasAttributePinLaw", "put", "([Ljava/lang/String;ILjava/lang/String;Ljava/lang/String;)V"⟩ : MethodName)) hown (mvT hZ (hw _ (List.mem_of_getElem? (i := 55) rfl))) (mvT hZ (hw _ (List.mem_of_getElem? (i := 56) rfl))) (mvT hZ (hw _ (List.mem_of_getElem? (i := 3) rfl))) (mvT hZ (hw _ (List.mem_of_getElem? (i := 57) rfl))) (by decide) (backOf (W := 0) (rm_put_3_0 l Z a0 hw [] b29 a4 a1 cA29 .null .null .null .null .null .null .null .null .null .null .null .null h29 n0 SZ29 V_b29_29 O29 (Sd3.ext (ext_of_keep KBB_29)).1 (Sd0.ext (ext_of_keep KBB_29)).1 g_b29) hZ (hw _ (List.mem_of_getElem? (i := 57) rfl)) (hw _ (List.mem_of_getElem? (i := 3) rfl)) (by decide) (by decide)) (g := (mkF m 122 #[.val (.int w0), .val (.int w1), .val (.int w2), .val (.int w3), .val (.int w4), .val (.long w5), .second, .val (.int (3 : Int32)), .val (.ref a1), .val (.ref a2), .val (.ref a3), .val (.ref a4), .val (.ref a5), .val (.ref a6), .val (.ref a7), .val (.ref b29), .unset, .unset] [(.ref a1), (.ref a4), (.int (0 : Int32)), (.ref b29)])) rfl (by rw [hml]; rfl) (argsL := [(.ref b29), (.int (0 : Int32)), (.ref a4), (.ref a1)]) (rest := []) (lenOf pd_13 rfl) rfl (by show 2 * 0 + _ ≤ _; exact Nat.le_of_eq rfl) (hb hby at_122) (fun _ _ => ⟨rfl, e29, (by decide : 43 + 0 ≤ _), (by decide : 96 + 0 ≤ _)⟩)
    dsimp only [Pt.U, Pt.locs, Pt.cells, Pt.slots] at X30 l30 y30 z30 st30 hQ30
    subst y30 z30
    obtain ⟨rfl, Nq30, Kc30, Vc30⟩ := hQ30
    have N30 : Fr n0 L30 := by rw [l30]; exact Fr.app N7 Nq30
    refine Gl.go (fun _ k => st30 _ k) ?_
    have O__30 : Old Z n0 T30.heap := O__29.keep Kc30 (allS g_b29 all0)
    have SZ30 : n0 ≤ T30.heap.size := Nat.le_trans SZ29 Kc30.1
    have K30 : Keep h0 T30.heap [] := K29.trans Kc30 (allS (Or.inr sz_b29) all0)
    have KBB_30 : Keep T7.heap T30.heap [] := KBB_29.trans Kc30 (allS (Or.inr szb_B_b29) all0)
    have hk := Nat.le_trans hk Kc30.1
    have CR30 : CHr Z elL s.vm h0 T7.vm T30.heap := CR29.trans (CHr.keep Kc30 (sfS (Safe.arv hZ.alike V_b29_29 (by decide)) sf0) CR29.1)
    show Gl _ _ _ _ (T30.setTop (mkF m 125 #[.val (.int w0), .val (.int w1), .val (.int w2), .val (.int w3), .val (.int w4), .val (.long w5), .second, .val (.int (3 : Int32)), .val (.ref a1), .val (.ref a2), .val (.ref a3), .val (.ref a4), .val (.ref a5), .val (.ref a6), .val (.ref a7), .val (.ref b29), .unset, .unset] []))
    refine Gl.go (fun _ k => XS.iload X30.here hx rfl (hb hby at_125) rfl  k) ?_
    show Gl _ _ _ _ (T30.setTop (mkF m 127 #[.val (.int w0), .val (.int w1), .val (.int w2), .val (.int w3), .val (.int w4), .val (.long w5), .second, .val (.int (3 : Int32)), .val (.ref a1), .val (.ref a2), .val (.ref a3), .val (.ref a4), .val (.ref a5), .val (.ref a6), .val (.ref a7), .val (.ref b29), .unset, .unset] [(.int (3 : Int32))]))
    refine Gl.go (fun _ k => XS.iconst X30.here hx rfl (hb hby at_127) k) ?_
    show Gl _ _ _ _ (T30.setTop (mkF m 128 #[.val (.int w0), .val (.int w1), .val (.int w2), .val (.int w3), .val (.int w4), .val (.long w5), .second, .val (.int (3 : Int32)), .val (.ref a1), .val (.ref a2), .val (.ref a3), .val (.ref a4), .val (.ref a5), .val (.ref a6), .val (.ref a7), .val (.ref b29), .unset, .unset] [(.int (2 : Int32)), (.int (3 : Int32))]))
    refine Gl.go (fun _ k => XS.icmpNo X30.here hx rfl (hb hby at_128) rfl (flt (by decide)).1 k) ?_
    show Gl _ _ _ _ (T30.setTop (mkF m 131 #[.val (.int w0), .val (.int w1), .val (.int w2), .val (.int w3), .val (.int w4), .val (.long w5), .second, .val (.int (3 : Int32)), .val (.ref a1), .val (.ref a2), .val (.ref a3), .val (.ref a4), .val (.ref a5), .val (.ref a6), .val (.ref a7), .val (.ref b29), .unset, .unset] []))
    refine Gl.go (fun _ k => XS.aload X30.here hx rfl (hb hby at_131) rfl rfl  k) ?_
    show Gl _ _ _ _ (T30.setTop (mkF m 133 #[.val (.int w0), .val (.int w1), .val (.int w2), .val (.int w3), .val (.int w4), .val (.long w5), .second, .val (.int (3 : Int32)), .val (.ref a1), .val (.ref a2), .val (.ref a3), .val (.ref a4), .val (.ref a5), .val (.ref a6), .val (.ref a7), .val (.ref b29), .unset, .unset] [(.ref b29)]))
    refine Gl.go (fun _ k => XS.iconst X30.here hx rfl (hb hby at_133) k) ?_
    show Gl _ _ _ _ (T30.setTop (mkF m 134 #[.val (.int w0), .val (.int w1), .val (.int w2), .val (.int w3), .val (.int w4), .val (.long w5), .second, .val (.int (3 : Int32)), .val (.ref a1), .val (.ref a2), .val (.ref a3), .val (.ref a4), .val (.ref a5), .val (.ref a6), .val (.ref a7), .val (.ref b29), .unset, .unset] [(.int (4 : Int32)), (.ref b29)]))
    refine Gl.go (fun _ k => XS.aload X30.here hx rfl (hb hby at_134) rfl rfl  k) ?_
    show Gl _ _ _ _ (T30.setTop (mkF m 136 #[.val (.int w0), .val (.int w1), .val (.int w2), .val (.int w3), .val (.int w4), .val (.long w5), .second, .val (.int (3 : Int32)), .val (.ref a1), .val (.ref a2), .val (.ref a3), .val (.ref a4), .val (.ref a5), .val (.ref a6), .val (.ref a7), .val (.ref b29), .unset, .unset] [(.ref a5), (.int (4 : Int32)), (.ref b29)]))
    refine Gl.go (fun _ k => XS.aload X30.here hx rfl (hb hby at_136) rfl rfl  k) ?_
    show Gl _ _ _ _ (T30.setTop (mkF m 138 #[.val (.int w0), .val (.int w1), .val (.int w2), .val (.int w3), .val (.int w4), .val (.long w5), .second, .val (.int (3 : Int32)), .val (.ref a1), .val (.ref a2), .val (.ref a3), .val (.ref a4), .val (.ref a5), .val (.ref a6), .val (.ref a7), .val (.ref b29), .unset, .unset] [(.ref a2), (.ref a5), (.int (4 : Int32)), (.ref b29)]))
    obtain ⟨_, _, ⟨T31, L31, k31, n31⟩, -, X31, ⟨Lc31, hQ31, l31, y31, z31⟩, st31⟩ := Jvm.LawKit.callS X30 hx (y := (⟨"org/semfolio/ElementHasAttributePinLaw", "put", "([Ljava/lang/String;ILjava/lang/String;Ljava/lang/String;)V"⟩ : MethodName)) hown (mvT hZ (hw _ (List.mem_of_getElem? (i := 55) rfl))) (mvT hZ (hw _ (List.mem_of_getElem? (i := 56) rfl))) (mvT hZ (hw _ (List.mem_of_getElem? (i := 3) rfl))) (mvT hZ (hw _ (List.mem_of_getElem? (i := 57) rfl))) (by decide) (backOf (W := 0) (rm_put_3_1 l Z a0 hw [] b29 a5 a2 cA29 (.ref a4) (.ref a4) (.ref a1) (.ref a4) .null .null .null .null .null .null .null .null T30.heap n0 SZ30 Vc30 O29 (Sd4.ext (ext_of_keep KBB_30)).1 (Sd1.ext (ext_of_keep KBB_30)).1 g_b29) hZ (hw _ (List.mem_of_getElem? (i := 57) rfl)) (hw _ (List.mem_of_getElem? (i := 3) rfl)) (by decide) (by decide)) (g := (mkF m 138 #[.val (.int w0), .val (.int w1), .val (.int w2), .val (.int w3), .val (.int w4), .val (.long w5), .second, .val (.int (3 : Int32)), .val (.ref a1), .val (.ref a2), .val (.ref a3), .val (.ref a4), .val (.ref a5), .val (.ref a6), .val (.ref a7), .val (.ref b29), .unset, .unset] [(.ref a2), (.ref a5), (.int (4 : Int32)), (.ref b29)])) rfl (by rw [hml]; rfl) (argsL := [(.ref b29), (.int (4 : Int32)), (.ref a5), (.ref a2)]) (rest := []) (lenOf pd_13 rfl) rfl (by show 2 * 0 + _ ≤ _; exact Nat.le_of_eq rfl) (hb hby at_138) (fun _ _ => ⟨rfl, rfl, (by decide : 43 + 0 ≤ _), (by decide : 96 + 0 ≤ _)⟩)
    dsimp only [Pt.U, Pt.locs, Pt.cells, Pt.slots] at X31 l31 y31 z31 st31 hQ31
    subst y31 z31
    obtain ⟨rfl, Nq31, Kc31, Vc31⟩ := hQ31
    have N31 : Fr n0 L31 := by rw [l31]; exact Fr.app N30 Nq31
    refine Gl.go (fun _ k => st31 _ k) ?_
    have O__31 : Old Z n0 T31.heap := O__30.keep Kc31 (allS g_b29 all0)
    have SZ31 : n0 ≤ T31.heap.size := Nat.le_trans SZ30 Kc31.1
    have K31 : Keep h0 T31.heap [] := K30.trans Kc31 (allS (Or.inr sz_b29) all0)
    have KBB_31 : Keep T7.heap T31.heap [] := KBB_30.trans Kc31 (allS (Or.inr szb_B_b29) all0)
    have hk := Nat.le_trans hk Kc31.1
    have CR31 : CHr Z elL s.vm h0 T7.vm T31.heap := CR30.trans (CHr.keep Kc31 (sfS (Safe.arv hZ.alike Vc30 (by decide)) sf0) CR30.1)
    show Gl _ _ _ _ (T31.setTop (mkF m 141 #[.val (.int w0), .val (.int w1), .val (.int w2), .val (.int w3), .val (.int w4), .val (.long w5), .second, .val (.int (3 : Int32)), .val (.ref a1), .val (.ref a2), .val (.ref a3), .val (.ref a4), .val (.ref a5), .val (.ref a6), .val (.ref a7), .val (.ref b29), .unset, .unset] []))
    refine Gl.go (fun _ k => XS.iload X31.here hx rfl (hb hby at_141) rfl  k) ?_
    show Gl _ _ _ _ (T31.setTop (mkF m 143 #[.val (.int w0), .val (.int w1), .val (.int w2), .val (.int w3), .val (.int w4), .val (.long w5), .second, .val (.int (3 : Int32)), .val (.ref a1), .val (.ref a2), .val (.ref a3), .val (.ref a4), .val (.ref a5), .val (.ref a6), .val (.ref a7), .val (.ref b29), .unset, .unset] [(.int (3 : Int32))]))
    refine Gl.go (fun _ k => XS.iconst X31.here hx rfl (hb hby at_143) k) ?_
    show Gl _ _ _ _ (T31.setTop (mkF m 144 #[.val (.int w0), .val (.int w1), .val (.int w2), .val (.int w3), .val (.int w4), .val (.long w5), .second, .val (.int (3 : Int32)), .val (.ref a1), .val (.ref a2), .val (.ref a3), .val (.ref a4), .val (.ref a5), .val (.ref a6), .val (.ref a7), .val (.ref b29), .unset, .unset] [(.int (3 : Int32)), (.int (3 : Int32))]))
    refine Gl.go (fun _ k => XS.icmpNo X31.here hx rfl (hb hby at_144) rfl (flt (by decide)).1 k) ?_
    show Gl _ _ _ _ (T31.setTop (mkF m 147 #[.val (.int w0), .val (.int w1), .val (.int w2), .val (.int w3), .val (.int w4), .val (.long w5), .second, .val (.int (3 : Int32)), .val (.ref a1), .val (.ref a2), .val (.ref a3), .val (.ref a4), .val (.ref a5), .val (.ref a6), .val (.ref a7), .val (.ref b29), .unset, .unset] []))
    refine Gl.go (fun _ k => XS.aload X31.here hx rfl (hb hby at_147) rfl rfl  k) ?_
    show Gl _ _ _ _ (T31.setTop (mkF m 149 #[.val (.int w0), .val (.int w1), .val (.int w2), .val (.int w3), .val (.int w4), .val (.long w5), .second, .val (.int (3 : Int32)), .val (.ref a1), .val (.ref a2), .val (.ref a3), .val (.ref a4), .val (.ref a5), .val (.ref a6), .val (.ref a7), .val (.ref b29), .unset, .unset] [(.ref b29)]))
    refine Gl.go (fun _ k => XS.bipush X31.here hx rfl (hb hby at_149) k) ?_
    show Gl _ _ _ _ (T31.setTop (mkF m 151 #[.val (.int w0), .val (.int w1), .val (.int w2), .val (.int w3), .val (.int w4), .val (.long w5), .second, .val (.int (3 : Int32)), .val (.ref a1), .val (.ref a2), .val (.ref a3), .val (.ref a4), .val (.ref a5), .val (.ref a6), .val (.ref a7), .val (.ref b29), .unset, .unset] [(.int (8 : Int32)), (.ref b29)]))
    refine Gl.go (fun _ k => XS.aload X31.here hx rfl (hb hby at_151) rfl rfl  k) ?_
    show Gl _ _ _ _ (T31.setTop (mkF m 153 #[.val (.int w0), .val (.int w1), .val (.int w2), .val (.int w3), .val (.int w4), .val (.long w5), .second, .val (.int (3 : Int32)), .val (.ref a1), .val (.ref a2), .val (.ref a3), .val (.ref a4), .val (.ref a5), .val (.ref a6), .val (.ref a7), .val (.ref b29), .unset, .unset] [(.ref a6), (.int (8 : Int32)), (.ref b29)]))
    refine Gl.go (fun _ k => XS.aload X31.here hx rfl (hb hby at_153) rfl rfl  k) ?_
    show Gl _ _ _ _ (T31.setTop (mkF m 155 #[.val (.int w0), .val (.int w1), .val (.int w2), .val (.int w3), .val (.int w4), .val (.long w5), .second, .val (.int (3 : Int32)), .val (.ref a1), .val (.ref a2), .val (.ref a3), .val (.ref a4), .val (.ref a5), .val (.ref a6), .val (.ref a7), .val (.ref b29), .unset, .unset] [(.ref a3), (.ref a6), (.int (8 : Int32)), (.ref b29)]))
    obtain ⟨_, _, ⟨T32, L32, k32, n32⟩, -, X32, ⟨Lc32, hQ32, l32, y32, z32⟩, st32⟩ := Jvm.LawKit.callS X31 hx (y := (⟨"org/semfolio/ElementHasAttributePinLaw", "put", "([Ljava/lang/String;ILjava/lang/String;Ljava/lang/String;)V"⟩ : MethodName)) hown (mvT hZ (hw _ (List.mem_of_getElem? (i := 55) rfl))) (mvT hZ (hw _ (List.mem_of_getElem? (i := 56) rfl))) (mvT hZ (hw _ (List.mem_of_getElem? (i := 3) rfl))) (mvT hZ (hw _ (List.mem_of_getElem? (i := 57) rfl))) (by decide) (backOf (W := 0) (rm_put_3_2 l Z a0 hw [] b29 a6 a3 cA29 (.ref a4) (.ref a4) (.ref a1) (.ref a4) (.ref a5) (.ref a5) (.ref a2) (.ref a5) .null .null .null .null T31.heap n0 SZ31 Vc31 O29 (Sd5.ext (ext_of_keep KBB_31)).1 (Sd2.ext (ext_of_keep KBB_31)).1 g_b29) hZ (hw _ (List.mem_of_getElem? (i := 57) rfl)) (hw _ (List.mem_of_getElem? (i := 3) rfl)) (by decide) (by decide)) (g := (mkF m 155 #[.val (.int w0), .val (.int w1), .val (.int w2), .val (.int w3), .val (.int w4), .val (.long w5), .second, .val (.int (3 : Int32)), .val (.ref a1), .val (.ref a2), .val (.ref a3), .val (.ref a4), .val (.ref a5), .val (.ref a6), .val (.ref a7), .val (.ref b29), .unset, .unset] [(.ref a3), (.ref a6), (.int (8 : Int32)), (.ref b29)])) rfl (by rw [hml]; rfl) (argsL := [(.ref b29), (.int (8 : Int32)), (.ref a6), (.ref a3)]) (rest := []) (lenOf pd_13 rfl) rfl (by show 2 * 0 + _ ≤ _; exact Nat.le_of_eq rfl) (hb hby at_155) (fun _ _ => ⟨rfl, rfl, (by decide : 43 + 0 ≤ _), (by decide : 96 + 0 ≤ _)⟩)
    dsimp only [Pt.U, Pt.locs, Pt.cells, Pt.slots] at X32 l32 y32 z32 st32 hQ32
    subst y32 z32
    obtain ⟨rfl, Nq32, Kc32, Vc32⟩ := hQ32
    have N32 : Fr n0 L32 := by rw [l32]; exact Fr.app N31 Nq32
    refine Gl.go (fun _ k => st32 _ k) ?_
    have O__32 : Old Z n0 T32.heap := O__31.keep Kc32 (allS g_b29 all0)
    have SZ32 : n0 ≤ T32.heap.size := Nat.le_trans SZ31 Kc32.1
    have K32 : Keep h0 T32.heap [] := K31.trans Kc32 (allS (Or.inr sz_b29) all0)
    have KBB_32 : Keep T7.heap T32.heap [] := KBB_31.trans Kc32 (allS (Or.inr szb_B_b29) all0)
    have hk := Nat.le_trans hk Kc32.1
    have CR32 : CHr Z elL s.vm h0 T7.vm T32.heap := CR31.trans (CHr.keep Kc32 (sfS (Safe.arv hZ.alike Vc31 (by decide)) sf0) CR31.1)
    show Gl _ _ _ _ (T32.setTop (mkF m 158 #[.val (.int w0), .val (.int w1), .val (.int w2), .val (.int w3), .val (.int w4), .val (.long w5), .second, .val (.int (3 : Int32)), .val (.ref a1), .val (.ref a2), .val (.ref a3), .val (.ref a4), .val (.ref a5), .val (.ref a6), .val (.ref a7), .val (.ref b29), .unset, .unset] []))
    obtain ⟨T33, h33, X33, e33, E33, A33, D33, -, st33⟩ := newO X32 hx hZ hown (hw _ (List.mem_of_getElem? (i := 28) rfl)) (hw _ (List.mem_of_getElem? (i := 29) rfl)) (hw _ (List.mem_of_getElem? (i := 30) rfl)) rfl (g := (mkF m 158 #[.val (.int w0), .val (.int w1), .val (.int w2), .val (.int w3), .val (.int w4), .val (.long w5), .second, .val (.int (3 : Int32)), .val (.ref a1), .val (.ref a2), .val (.ref a3), .val (.ref a4), .val (.ref a5), .val (.ref a6), .val (.ref a7), .val (.ref b29), .unset, .unset] [])) rfl (hb hby at_158) (by decide) (by decide)
    obtain ⟨b33, g33⟩ : ∃ z, z = T32.heap.size := ⟨_, rfl⟩
    rw [← g33] at A33 D33 st33
    have g_b33 : n0 ≤ b33 := Nat.le_trans SZ32 (Nat.le_of_eq g33.symm)
    have sz_b33 : h0.size ≤ b33 := Nat.le_trans K32.1 (Nat.le_of_eq g33.symm)
    have szb_B_b33 : T7.heap.size ≤ b33 := Nat.le_trans KBB_32.1 (Nat.le_of_eq g33.symm)
    have ne_b29_b33 : b29 ≠ b33 := Nat.ne_of_lt (Nat.lt_of_lt_of_le Vc32.lt (Nat.le_of_eq g33.symm))
    have O__33 : Old Z n0 h33 := O__32.ext E33
    have V_b29_33 : Arv Z h33 b29 cA29 (.object "java/lang/String") (12 : Int32) [(.ref a4), (.ref a4), (.ref a1), (.ref a4), (.ref a5), (.ref a5), (.ref a2), (.ref a5), (.ref a6), (.ref a6), (.ref a3), (.ref a6)] .null := Vc32.ext E33
    have SZ33 : n0 ≤ h33.size := Nat.le_trans SZ32 E33.1
    have K33 : Keep h0 h33 [] := K32.ext E33
    have KBB_33 : Keep T7.heap h33 [] := KBB_32.ext E33
    have hk := Nat.le_trans hk E33.1
    have CR33 : CHr Z elL s.vm h0 T7.vm h33 := CR32.trans (CHr.ext E33 CR32.1)
    have F_b33_name_33 : Fld Z h33 b33 "org/semfolio/Dom$Element" "name" "Ljava/lang/String;" .null := D33 (Or.inr (hw _ (List.mem_of_getElem? (i := 41) rfl))) (ty := (.object "java/lang/String")) (by decide)
    have F_b33_qualifiedName_33 : Fld Z h33 b33 "org/semfolio/Dom$Element" "qualifiedName" "Ljava/lang/String;" .null := D33 (Or.inr (hw _ (List.mem_of_getElem? (i := 43) rfl))) (ty := (.object "java/lang/String")) (by decide)
    have F_b33_attributes_33 : Fld Z h33 b33 "org/semfolio/Dom$Element" "attributes" "[Ljava/lang/String;" .null := D33 (Or.inr (hw _ (List.mem_of_getElem? (i := 45) rfl))) (ty := (.array (.object "java/lang/String"))) (by decide)
    refine Gl.go (fun _ k => st33 _ k) ?_
    show Gl _ _ _ _ (T33.setTop (mkF m 161 #[.val (.int w0), .val (.int w1), .val (.int w2), .val (.int w3), .val (.int w4), .val (.long w5), .second, .val (.int (3 : Int32)), .val (.ref a1), .val (.ref a2), .val (.ref a3), .val (.ref a4), .val (.ref a5), .val (.ref a6), .val (.ref a7), .val (.ref b29), .unset, .unset] [(.ref b33)]))
    refine Gl.go (fun _ k => XS.dup X33.here hx rfl (hb hby at_161) rfl rfl k) ?_
    show Gl _ _ _ _ (T33.setTop (mkF m 162 #[.val (.int w0), .val (.int w1), .val (.int w2), .val (.int w3), .val (.int w4), .val (.long w5), .second, .val (.int (3 : Int32)), .val (.ref a1), .val (.ref a2), .val (.ref a3), .val (.ref a4), .val (.ref a5), .val (.ref a6), .val (.ref a7), .val (.ref b29), .unset, .unset] [(.ref b33), (.ref b33)]))
    refine Gl.go (fun _ k => XS.aload X33.here hx rfl (hb hby at_162) rfl rfl  k) ?_
    show Gl _ _ _ _ (T33.setTop (mkF m 164 #[.val (.int w0), .val (.int w1), .val (.int w2), .val (.int w3), .val (.int w4), .val (.long w5), .second, .val (.int (3 : Int32)), .val (.ref a1), .val (.ref a2), .val (.ref a3), .val (.ref a4), .val (.ref a5), .val (.ref a6), .val (.ref a7), .val (.ref b29), .unset, .unset] [(.ref a4), (.ref b33), (.ref b33)]))
    refine Gl.go (fun _ k => XS.aload X33.here hx rfl (hb hby at_164) rfl rfl  k) ?_
    show Gl _ _ _ _ (T33.setTop (mkF m 166 #[.val (.int w0), .val (.int w1), .val (.int w2), .val (.int w3), .val (.int w4), .val (.long w5), .second, .val (.int (3 : Int32)), .val (.ref a1), .val (.ref a2), .val (.ref a3), .val (.ref a4), .val (.ref a5), .val (.ref a6), .val (.ref a7), .val (.ref b29), .unset, .unset] [(.ref a1), (.ref a4), (.ref b33), (.ref b33)]))
    refine Gl.go (fun _ k => XS.aload X33.here hx rfl (hb hby at_166) rfl rfl  k) ?_
    show Gl _ _ _ _ (T33.setTop (mkF m 168 #[.val (.int w0), .val (.int w1), .val (.int w2), .val (.int w3), .val (.int w4), .val (.long w5), .second, .val (.int (3 : Int32)), .val (.ref a1), .val (.ref a2), .val (.ref a3), .val (.ref a4), .val (.ref a5), .val (.ref a6), .val (.ref a7), .val (.ref b29), .unset, .unset] [(.ref b29), (.ref a1), (.ref a4), (.ref b33), (.ref b33)]))
    obtain ⟨_, _, ⟨T34, L34, k34, n34⟩, -, X34, ⟨Lc34, hQ34, l34, y34, z34⟩, st34⟩ := X33.specialBack hx (y := (⟨"org/semfolio/Dom$Element", "<init>", "(Ljava/lang/String;Ljava/lang/String;[Ljava/lang/String;)V"⟩ : MethodName)) rfl hown (mvT hZ (hw _ (List.mem_of_getElem? (i := 31) rfl))) (mvT hZ (hw _ (List.mem_of_getElem? (i := 32) rfl))) (mvT hZ (hw _ (List.mem_of_getElem? (i := 33) rfl))) (by decide) (backOf (W := 1) (rm_ein l Z a0 hw [] b33 a4 a1 b29 .null .null .null h33 n0 SZ33 A33 F_b33_name_33 F_b33_qualifiedName_33 F_b33_attributes_33 g_b33) hZ (hw _ (List.mem_of_getElem? (i := 33) rfl)) (hw _ (List.mem_of_getElem? (i := 30) rfl)) (by decide) (by decide)) (g := (mkF m 168 #[.val (.int w0), .val (.int w1), .val (.int w2), .val (.int w3), .val (.int w4), .val (.long w5), .second, .val (.int (3 : Int32)), .val (.ref a1), .val (.ref a2), .val (.ref a3), .val (.ref a4), .val (.ref a5), .val (.ref a6), .val (.ref a7), .val (.ref b29), .unset, .unset] [(.ref b29), (.ref a1), (.ref a4), (.ref b33), (.ref b33)])) rfl (by rw [hml]; rfl) (Steps.refl _) (a := b33) (argsL := [(.ref a4), (.ref a1), (.ref b29)]) (rest := [(.ref b33)]) (lenOf pd_11 rfl) rfl (by show 2 * 0 + _ ≤ _; exact Nat.le_of_eq rfl) (hb hby at_168) (fun _ _ => ⟨rfl, e33, (by decide : 44 + 0 ≤ _), (by decide : 103 + 0 ≤ _)⟩)
    dsimp only [Pt.U, Pt.locs, Pt.cells, Pt.slots] at X34 l34 y34 z34 st34 hQ34
    subst y34 z34
    obtain ⟨rfl, Nq34, Kc34, Ec34, Fa34⟩ := hQ34
    have N34 : Fr n0 L34 := by rw [l34]; exact Fr.app N32 Nq34
    refine Gl.go (fun _ k => st34.trans k) ?_
    have O__34 : Old Z n0 T34.heap := O__33.keep Kc34 (allS g_b33 all0)
    have V_b29_34 : Arv Z T34.heap b29 cA29 (.object "java/lang/String") (12 : Int32) [(.ref a4), (.ref a4), (.ref a1), (.ref a4), (.ref a5), (.ref a5), (.ref a2), (.ref a5), (.ref a6), (.ref a6), (.ref a3), (.ref a6)] .null := V_b29_33.keep Kc34 (ninS ne_b29_b33 nin0)
    have E_b33_34 : Exa Z T34.heap b33 "org/semfolio/Dom$Element" := A33.keep Kc34
    have SZ34 : n0 ≤ T34.heap.size := Nat.le_trans SZ33 Kc34.1
    have K34 : Keep h0 T34.heap [] := K33.trans Kc34 (allS (Or.inr sz_b33) all0)
    have KBB_34 : Keep T7.heap T34.heap [] := KBB_33.trans Kc34 (allS (Or.inr szb_B_b33) all0)
    have hk := Nat.le_trans hk Kc34.1
    have CR34 : CHr Z elL s.vm h0 T7.vm T34.heap := CR33.trans (CHr.keep Kc34 (sfS (Safe.exa hZ.alike A33 (by decide) (by decide)) sf0) CR33.1)
    show Gl _ _ _ _ (T34.setTop (mkF m 171 #[.val (.int w0), .val (.int w1), .val (.int w2), .val (.int w3), .val (.int w4), .val (.long w5), .second, .val (.int (3 : Int32)), .val (.ref a1), .val (.ref a2), .val (.ref a3), .val (.ref a4), .val (.ref a5), .val (.ref a6), .val (.ref a7), .val (.ref b29), .unset, .unset] [(.ref b33)]))
    refine Gl.go (fun _ k => XS.astore X34.here hx rfl (hb hby at_171) rfl rfl (l' := #[.val (.int w0), .val (.int w1), .val (.int w2), .val (.int w3), .val (.int w4), .val (.long w5), .second, .val (.int (3 : Int32)), .val (.ref a1), .val (.ref a2), .val (.ref a3), .val (.ref a4), .val (.ref a5), .val (.ref a6), .val (.ref a7), .val (.ref b29), .val (.ref b33), .unset]) rfl k) ?_
    show Gl _ _ _ _ (T34.setTop (mkF m 173 #[.val (.int w0), .val (.int w1), .val (.int w2), .val (.int w3), .val (.int w4), .val (.long w5), .second, .val (.int (3 : Int32)), .val (.ref a1), .val (.ref a2), .val (.ref a3), .val (.ref a4), .val (.ref a5), .val (.ref a6), .val (.ref a7), .val (.ref b29), .val (.ref b33), .unset] []))
    refine Gl.go (fun _ k => XS.iload X34.here hx rfl (hb hby at_173) rfl  k) ?_
    show Gl _ _ _ _ (T34.setTop (mkF m 175 #[.val (.int w0), .val (.int w1), .val (.int w2), .val (.int w3), .val (.int w4), .val (.long w5), .second, .val (.int (3 : Int32)), .val (.ref a1), .val (.ref a2), .val (.ref a3), .val (.ref a4), .val (.ref a5), .val (.ref a6), .val (.ref a7), .val (.ref b29), .val (.ref b33), .unset] [(.int (3 : Int32))]))
    refine Gl.go (fun _ k => XS.iconst X34.here hx rfl (hb hby at_175) k) ?_
    show Gl _ _ _ _ (T34.setTop (mkF m 176 #[.val (.int w0), .val (.int w1), .val (.int w2), .val (.int w3), .val (.int w4), .val (.long w5), .second, .val (.int (3 : Int32)), .val (.ref a1), .val (.ref a2), .val (.ref a3), .val (.ref a4), .val (.ref a5), .val (.ref a6), .val (.ref a7), .val (.ref b29), .val (.ref b33), .unset] [(.int (1 : Int32)), (.int (3 : Int32))]))
    refine Gl.go (fun _ k => XS.icmpNo X34.here hx rfl (hb hby at_176) rfl (flt (by decide)).1 k) ?_
    show Gl _ _ _ _ (T34.setTop (mkF m 179 #[.val (.int w0), .val (.int w1), .val (.int w2), .val (.int w3), .val (.int w4), .val (.long w5), .second, .val (.int (3 : Int32)), .val (.ref a1), .val (.ref a2), .val (.ref a3), .val (.ref a4), .val (.ref a5), .val (.ref a6), .val (.ref a7), .val (.ref b29), .val (.ref b33), .unset] []))
    refine Gl.go (fun _ k => XS.aload X34.here hx rfl (hb hby at_179) rfl rfl  k) ?_
    show Gl _ _ _ _ (T34.setTop (mkF m 181 #[.val (.int w0), .val (.int w1), .val (.int w2), .val (.int w3), .val (.int w4), .val (.long w5), .second, .val (.int (3 : Int32)), .val (.ref a1), .val (.ref a2), .val (.ref a3), .val (.ref a4), .val (.ref a5), .val (.ref a6), .val (.ref a7), .val (.ref b29), .val (.ref b33), .unset] [(.ref a7)]))
    refine Gl.go (fun _ k => XS.aload X34.here hx rfl (hb hby at_181) rfl rfl  k) ?_
    show Gl _ _ _ _ (T34.setTop (mkF m 183 #[.val (.int w0), .val (.int w1), .val (.int w2), .val (.int w3), .val (.int w4), .val (.long w5), .second, .val (.int (3 : Int32)), .val (.ref a1), .val (.ref a2), .val (.ref a3), .val (.ref a4), .val (.ref a5), .val (.ref a6), .val (.ref a7), .val (.ref b29), .val (.ref b33), .unset] [(.ref a1), (.ref a7)]))
    obtain ⟨cq35, kq35, q35a, q35b, q35c⟩ := isOf (s := s.setVm T7.vm) hZ rfl (Sd6.ext (ext_of_keep KBB_34)).1
    obtain ⟨_, _, ⟨T35, L35, k35, n35⟩, -, X35, ⟨Lc35, hQ35, l35, y35, z35⟩, st35⟩ := X34.virtualBack hx (y := (⟨"java/lang/String", "equals", "(Ljava/lang/Object;)Z"⟩ : MethodName)) (z := (⟨"java/lang/String", "equals", "(Ljava/lang/Object;)Z"⟩ : MethodName)) hown (mvT hZ (hw _ (List.mem_of_getElem? (i := 58) rfl))) (mvT hZ (hw _ (List.mem_of_getElem? (i := 59) rfl))) (notFace_of_selects (args := #[]) (mvT hZ (hw _ (List.mem_of_getElem? (i := 61) rfl)))) (mvT hZ (hw _ (List.mem_of_getElem? (i := 61) rfl))) (mvT hZ (hw _ (List.mem_of_getElem? (i := 60) rfl))) (by decide) (backOf (W := 0) (rm_seq l Z a0 hw [] a7 a1 c6_ c0_ G1 T34.heap n0 SZ34 (Sd6.ext (ext_of_keep KBB_34)) (Sd0.ext (ext_of_keep KBB_34)) (O2.ext O__34.2) P5) hZ (hw _ (List.mem_of_getElem? (i := 62) rfl)) (hw _ (List.mem_of_getElem? (i := 7) rfl)) (by decide) (by decide)) q35a q35c (g := (mkF m 183 #[.val (.int w0), .val (.int w1), .val (.int w2), .val (.int w3), .val (.int w4), .val (.long w5), .second, .val (.int (3 : Int32)), .val (.ref a1), .val (.ref a2), .val (.ref a3), .val (.ref a4), .val (.ref a5), .val (.ref a6), .val (.ref a7), .val (.ref b29), .val (.ref b33), .unset] [(.ref a1), (.ref a7)])) rfl (by rw [hml]; rfl) (Steps.refl _) (argsL := [(.ref a1)]) (rest := []) (lenOf pd_9 rfl) rfl (by show 2 * 0 + _ ≤ _; exact Nat.le_of_eq rfl) (hb hby at_183) (fun _ _ => ⟨rfl, rfl, (by decide : 44 + 0 ≤ _), (by decide : 103 + 0 ≤ _)⟩)
    dsimp only [Pt.U, Pt.locs, Pt.cells, Pt.slots] at X35 l35 y35 z35 st35 hQ35
    subst y35 z35
    obtain ⟨rfl, Nq35, e35⟩ := hQ35
    have N35 : Fr n0 L35 := by rw [l35]; exact Fr.app N34 Nq35
    refine Gl.go (fun _ k => st35.trans k) ?_
    show Gl _ _ _ _ (T35.setTop (mkF m 186 #[.val (.int w0), .val (.int w1), .val (.int w2), .val (.int w3), .val (.int w4), .val (.long w5), .second, .val (.int (3 : Int32)), .val (.ref a1), .val (.ref a2), .val (.ref a3), .val (.ref a4), .val (.ref a5), .val (.ref a6), .val (.ref a7), .val (.ref b29), .val (.ref b33), .unset] [(.int (eqI c6_ c0_))]))
    by_cases tn0 : c0_ = c6_
    · skip
      rw [(eqI_yes tn0.symm : (eqI c6_ c0_) = (1 : Int32))]
      show Gl _ _ _ _ (T35.setTop (mkF m 186 #[.val (.int w0), .val (.int w1), .val (.int w2), .val (.int w3), .val (.int w4), .val (.long w5), .second, .val (.int (3 : Int32)), .val (.ref a1), .val (.ref a2), .val (.ref a3), .val (.ref a4), .val (.ref a5), .val (.ref a6), .val (.ref a7), .val (.ref b29), .val (.ref b33), .unset] [(.int (1 : Int32))]))
      refine Gl.go (fun _ k => XS.ifYes X35.here hx rfl (pc0 := 186) (pc' := 221) rfl (hb hby at_186) rfl ((if0 _ _).trans (feq (by decide)).2) (by decide) (by decide) k) ?_
      show Gl _ _ _ _ (T35.setTop (mkF m 221 #[.val (.int w0), .val (.int w1), .val (.int w2), .val (.int w3), .val (.int w4), .val (.long w5), .second, .val (.int (3 : Int32)), .val (.ref a1), .val (.ref a2), .val (.ref a3), .val (.ref a4), .val (.ref a5), .val (.ref a6), .val (.ref a7), .val (.ref b29), .val (.ref b33), .unset] []))
      refine Gl.go (fun _ k => XS.iconst X35.here hx rfl (hb hby at_221) k) ?_
      show Gl _ _ _ _ (T35.setTop (mkF m 222 #[.val (.int w0), .val (.int w1), .val (.int w2), .val (.int w3), .val (.int w4), .val (.long w5), .second, .val (.int (3 : Int32)), .val (.ref a1), .val (.ref a2), .val (.ref a3), .val (.ref a4), .val (.ref a5), .val (.ref a6), .val (.ref a7), .val (.ref b29), .val (.ref b33), .unset] [(.int (1 : Int32))]))
      refine Gl.go (fun _ k => XS.goto X35.here hx rfl (pc0 := 222) (pc' := 226) rfl (hb hby at_222) (by decide) (by decide) k) ?_
      show Gl _ _ _ _ (T35.setTop (mkF m 226 #[.val (.int w0), .val (.int w1), .val (.int w2), .val (.int w3), .val (.int w4), .val (.long w5), .second, .val (.int (3 : Int32)), .val (.ref a1), .val (.ref a2), .val (.ref a3), .val (.ref a4), .val (.ref a5), .val (.ref a6), .val (.ref a7), .val (.ref b29), .val (.ref b33), .unset] [(.int (1 : Int32))]))
      refine Gl.go (fun _ k => XS.istore X35.here hx rfl (hb hby at_226) rfl (l' := #[.val (.int w0), .val (.int w1), .val (.int w2), .val (.int w3), .val (.int w4), .val (.long w5), .second, .val (.int (3 : Int32)), .val (.ref a1), .val (.ref a2), .val (.ref a3), .val (.ref a4), .val (.ref a5), .val (.ref a6), .val (.ref a7), .val (.ref b29), .val (.ref b33), .val (.int (1 : Int32))]) rfl k) ?_
      show Gl _ _ _ _ (T35.setTop (mkF m 228 #[.val (.int w0), .val (.int w1), .val (.int w2), .val (.int w3), .val (.int w4), .val (.long w5), .second, .val (.int (3 : Int32)), .val (.ref a1), .val (.ref a2), .val (.ref a3), .val (.ref a4), .val (.ref a5), .val (.ref a6), .val (.ref a7), .val (.ref b29), .val (.ref b33), .val (.int (1 : Int32))] []))
      refine Gl.go (fun _ k => XS.aload X35.here hx rfl (hb hby at_228) rfl rfl  k) ?_
      show Gl _ _ _ _ (T35.setTop (mkF m 230 #[.val (.int w0), .val (.int w1), .val (.int w2), .val (.int w3), .val (.int w4), .val (.long w5), .second, .val (.int (3 : Int32)), .val (.ref a1), .val (.ref a2), .val (.ref a3), .val (.ref a4), .val (.ref a5), .val (.ref a6), .val (.ref a7), .val (.ref b29), .val (.ref b33), .val (.int (1 : Int32))] [(.ref b33)]))
      refine Gl.go (fun _ k => XS.aload X35.here hx rfl (hb hby at_230) rfl rfl  k) ?_
      show Gl _ _ _ _ (T35.setTop (mkF m 232 #[.val (.int w0), .val (.int w1), .val (.int w2), .val (.int w3), .val (.int w4), .val (.long w5), .second, .val (.int (3 : Int32)), .val (.ref a1), .val (.ref a2), .val (.ref a3), .val (.ref a4), .val (.ref a5), .val (.ref a6), .val (.ref a7), .val (.ref b29), .val (.ref b33), .val (.int (1 : Int32))] [(.ref a7), (.ref b33)]))
      obtain ⟨cq36, kq36, q36a, q36b, q36c⟩ := isOf (s := s.setVm T7.vm) hZ e35 E_b33_34
      obtain ⟨_, _, ⟨T36, L36, k36, n36⟩, -, X36, ⟨Lc36, hQ36, l36, y36, z36⟩, st36⟩ := X35.virtualBack hx (y := (⟨"org/semfolio/Dom$Element", "hasAttribute", "(Ljava/lang/String;)Z"⟩ : MethodName)) (z := (⟨"org/semfolio/Dom$Element", "hasAttribute", "(Ljava/lang/String;)Z"⟩ : MethodName)) hown (mvT hZ (hw _ (List.mem_of_getElem? (i := 46) rfl))) (mvT hZ (hw _ (List.mem_of_getElem? (i := 47) rfl))) (notFace_of_selects (args := #[]) (mvT hZ (hw _ (List.mem_of_getElem? (i := 49) rfl)))) (mvT hZ (hw _ (List.mem_of_getElem? (i := 49) rfl))) (mvT hZ (hw _ (List.mem_of_getElem? (i := 48) rfl))) (by decide) (backOf (W := 0) (rm_ha3 l Z a0 hw [] b33 a7 b29 cA29 c6_ a4 a4 a1 a4 a5 a5 a2 a5 a6 a6 a3 a6 c0_ c1_ c2_ G1 T34.heap n0 SZ34 E_b33_34 Fa34 V_b29_34 (Sd6.ext (ext_of_keep KBB_34)) (Sd0.ext (ext_of_keep KBB_34)) (Sd1.ext (ext_of_keep KBB_34)) (Sd2.ext (ext_of_keep KBB_34)) (O2.ext O__34.2) P5) hZ (hw _ (List.mem_of_getElem? (i := 50) rfl)) (hw _ (List.mem_of_getElem? (i := 30) rfl)) (by decide) (by decide)) q36a q36c (g := (mkF m 232 #[.val (.int w0), .val (.int w1), .val (.int w2), .val (.int w3), .val (.int w4), .val (.long w5), .second, .val (.int (3 : Int32)), .val (.ref a1), .val (.ref a2), .val (.ref a3), .val (.ref a4), .val (.ref a5), .val (.ref a6), .val (.ref a7), .val (.ref b29), .val (.ref b33), .val (.int (1 : Int32))] [(.ref a7), (.ref b33)])) rfl (by rw [hml]; rfl) (Steps.refl _) (argsL := [(.ref a7)]) (rest := []) (lenOf pd_12 rfl) rfl (by show 2 * 0 + _ ≤ _; exact Nat.le_of_eq rfl) (hb hby at_232) (fun _ _ => ⟨rfl, e35, (by decide : 44 + 0 ≤ _), (by decide : 103 + 0 ≤ _)⟩)
      dsimp only [Pt.U, Pt.locs, Pt.cells, Pt.slots] at X36 l36 y36 z36 st36 hQ36
      subst y36 z36
      obtain ⟨rfl, Nq36, e36⟩ := hQ36
      have N36 : Fr n0 L36 := by rw [l36]; exact Fr.app N35 Nq36
      refine Gl.go (fun _ k => st36.trans k) ?_
      show Gl _ _ _ _ (T36.setTop (mkF m 235 #[.val (.int w0), .val (.int w1), .val (.int w2), .val (.int w3), .val (.int w4), .val (.long w5), .second, .val (.int (3 : Int32)), .val (.ref a1), .val (.ref a2), .val (.ref a3), .val (.ref a4), .val (.ref a5), .val (.ref a6), .val (.ref a7), .val (.ref b29), .val (.ref b33), .val (.int (1 : Int32))] [(.int (if (if c0_ = c6_ then (0 : Int32) else (if c1_ = c6_ then (4 : Int32) else (if c2_ = c6_ then (8 : Int32) else (-1 : Int32)))) < (0 : Int32) then (0 : Int32) else (1 : Int32)))]))
      rw [((by rw [if_pos tn0, if_neg (by decide)]) : (if (if c0_ = c6_ then (0 : Int32) else (if c1_ = c6_ then (4 : Int32) else (if c2_ = c6_ then (8 : Int32) else (-1 : Int32)))) < (0 : Int32) then (0 : Int32) else (1 : Int32)) = (1 : Int32))]
      show Gl _ _ _ _ (T36.setTop (mkF m 235 #[.val (.int w0), .val (.int w1), .val (.int w2), .val (.int w3), .val (.int w4), .val (.long w5), .second, .val (.int (3 : Int32)), .val (.ref a1), .val (.ref a2), .val (.ref a3), .val (.ref a4), .val (.ref a5), .val (.ref a6), .val (.ref a7), .val (.ref b29), .val (.ref b33), .val (.int (1 : Int32))] [(.int (1 : Int32))]))
      refine Gl.go (fun _ k => XS.iload X36.here hx rfl (hb hby at_235) rfl  k) ?_
      show Gl _ _ _ _ (T36.setTop (mkF m 237 #[.val (.int w0), .val (.int w1), .val (.int w2), .val (.int w3), .val (.int w4), .val (.long w5), .second, .val (.int (3 : Int32)), .val (.ref a1), .val (.ref a2), .val (.ref a3), .val (.ref a4), .val (.ref a5), .val (.ref a6), .val (.ref a7), .val (.ref b29), .val (.ref b33), .val (.int (1 : Int32))] [(.int (1 : Int32)), (.int (1 : Int32))]))
      refine Gl.go (fun _ k => XS.icmpNo X36.here hx rfl (hb hby at_237) rfl (teq rfl).2 k) ?_
      show Gl _ _ _ _ (T36.setTop (mkF m 240 #[.val (.int w0), .val (.int w1), .val (.int w2), .val (.int w3), .val (.int w4), .val (.long w5), .second, .val (.int (3 : Int32)), .val (.ref a1), .val (.ref a2), .val (.ref a3), .val (.ref a4), .val (.ref a5), .val (.ref a6), .val (.ref a7), .val (.ref b29), .val (.ref b33), .val (.int (1 : Int32))] []))
      refine Gl.go (fun _ k => XS.iconst X36.here hx rfl (hb hby at_240) k) ?_
      show Gl _ _ _ _ (T36.setTop (mkF m 241 #[.val (.int w0), .val (.int w1), .val (.int w2), .val (.int w3), .val (.int w4), .val (.long w5), .second, .val (.int (3 : Int32)), .val (.ref a1), .val (.ref a2), .val (.ref a3), .val (.ref a4), .val (.ref a5), .val (.ref a6), .val (.ref a7), .val (.ref b29), .val (.ref b33), .val (.int (1 : Int32))] [(.int (1 : Int32))]))
      refine Gl.go (fun _ k => XS.goto X36.here hx rfl (pc0 := 241) (pc' := 245) rfl (hb hby at_241) (by decide) (by decide) k) ?_
      show Gl _ _ _ _ (T36.setTop (mkF m 245 #[.val (.int w0), .val (.int w1), .val (.int w2), .val (.int w3), .val (.int w4), .val (.long w5), .second, .val (.int (3 : Int32)), .val (.ref a1), .val (.ref a2), .val (.ref a3), .val (.ref a4), .val (.ref a5), .val (.ref a6), .val (.ref a7), .val (.ref b29), .val (.ref b33), .val (.int (1 : Int32))] [(.int (1 : Int32))]))
      refine leafWN X36 hS (by rw [e36]; exact hk) hx hlk (t := .boolean) Bd.returns (by simp) (hb hby at_245) (by rw [e36]; exact (CR34.trans (CHv.at X36 hZ hEL CR34.1))) hh ?_ (by decide) (by decide)
      exact ⟨rfl, N36⟩
    · skip
      rw [(eqI_no (fun q => tn0 q.symm) : (eqI c6_ c0_) = (0 : Int32))]
      show Gl _ _ _ _ (T35.setTop (mkF m 186 #[.val (.int w0), .val (.int w1), .val (.int w2), .val (.int w3), .val (.int w4), .val (.long w5), .second, .val (.int (3 : Int32)), .val (.ref a1), .val (.ref a2), .val (.ref a3), .val (.ref a4), .val (.ref a5), .val (.ref a6), .val (.ref a7), .val (.ref b29), .val (.ref b33), .unset] [(.int (0 : Int32))]))
      refine Gl.go (fun _ k => XS.ifNo X35.here hx rfl (hb hby at_186) rfl ((if0 _ _).trans (teq rfl).2) k) ?_
      show Gl _ _ _ _ (T35.setTop (mkF m 189 #[.val (.int w0), .val (.int w1), .val (.int w2), .val (.int w3), .val (.int w4), .val (.long w5), .second, .val (.int (3 : Int32)), .val (.ref a1), .val (.ref a2), .val (.ref a3), .val (.ref a4), .val (.ref a5), .val (.ref a6), .val (.ref a7), .val (.ref b29), .val (.ref b33), .unset] []))
      refine Gl.go (fun _ k => XS.iload X35.here hx rfl (hb hby at_189) rfl  k) ?_
      show Gl _ _ _ _ (T35.setTop (mkF m 191 #[.val (.int w0), .val (.int w1), .val (.int w2), .val (.int w3), .val (.int w4), .val (.long w5), .second, .val (.int (3 : Int32)), .val (.ref a1), .val (.ref a2), .val (.ref a3), .val (.ref a4), .val (.ref a5), .val (.ref a6), .val (.ref a7), .val (.ref b29), .val (.ref b33), .unset] [(.int (3 : Int32))]))
      refine Gl.go (fun _ k => XS.iconst X35.here hx rfl (hb hby at_191) k) ?_
      show Gl _ _ _ _ (T35.setTop (mkF m 192 #[.val (.int w0), .val (.int w1), .val (.int w2), .val (.int w3), .val (.int w4), .val (.long w5), .second, .val (.int (3 : Int32)), .val (.ref a1), .val (.ref a2), .val (.ref a3), .val (.ref a4), .val (.ref a5), .val (.ref a6), .val (.ref a7), .val (.ref b29), .val (.ref b33), .unset] [(.int (2 : Int32)), (.int (3 : Int32))]))
      refine Gl.go (fun _ k => XS.icmpNo X35.here hx rfl (hb hby at_192) rfl (flt (by decide)).1 k) ?_
      show Gl _ _ _ _ (T35.setTop (mkF m 195 #[.val (.int w0), .val (.int w1), .val (.int w2), .val (.int w3), .val (.int w4), .val (.long w5), .second, .val (.int (3 : Int32)), .val (.ref a1), .val (.ref a2), .val (.ref a3), .val (.ref a4), .val (.ref a5), .val (.ref a6), .val (.ref a7), .val (.ref b29), .val (.ref b33), .unset] []))
      refine Gl.go (fun _ k => XS.aload X35.here hx rfl (hb hby at_195) rfl rfl  k) ?_
      show Gl _ _ _ _ (T35.setTop (mkF m 197 #[.val (.int w0), .val (.int w1), .val (.int w2), .val (.int w3), .val (.int w4), .val (.long w5), .second, .val (.int (3 : Int32)), .val (.ref a1), .val (.ref a2), .val (.ref a3), .val (.ref a4), .val (.ref a5), .val (.ref a6), .val (.ref a7), .val (.ref b29), .val (.ref b33), .unset] [(.ref a7)]))
      refine Gl.go (fun _ k => XS.aload X35.here hx rfl (hb hby at_197) rfl rfl  k) ?_
      show Gl _ _ _ _ (T35.setTop (mkF m 199 #[.val (.int w0), .val (.int w1), .val (.int w2), .val (.int w3), .val (.int w4), .val (.long w5), .second, .val (.int (3 : Int32)), .val (.ref a1), .val (.ref a2), .val (.ref a3), .val (.ref a4), .val (.ref a5), .val (.ref a6), .val (.ref a7), .val (.ref b29), .val (.ref b33), .unset] [(.ref a2), (.ref a7)]))
      obtain ⟨cq37, kq37, q37a, q37b, q37c⟩ := isOf (s := s.setVm T7.vm) hZ e35 (Sd6.ext (ext_of_keep KBB_34)).1
      obtain ⟨_, _, ⟨T37, L37, k37, n37⟩, -, X37, ⟨Lc37, hQ37, l37, y37, z37⟩, st37⟩ := X35.virtualBack hx (y := (⟨"java/lang/String", "equals", "(Ljava/lang/Object;)Z"⟩ : MethodName)) (z := (⟨"java/lang/String", "equals", "(Ljava/lang/Object;)Z"⟩ : MethodName)) hown (mvT hZ (hw _ (List.mem_of_getElem? (i := 58) rfl))) (mvT hZ (hw _ (List.mem_of_getElem? (i := 59) rfl))) (notFace_of_selects (args := #[]) (mvT hZ (hw _ (List.mem_of_getElem? (i := 61) rfl)))) (mvT hZ (hw _ (List.mem_of_getElem? (i := 61) rfl))) (mvT hZ (hw _ (List.mem_of_getElem? (i := 60) rfl))) (by decide) (backOf (W := 0) (rm_seq l Z a0 hw [] a7 a2 c6_ c1_ G1 T34.heap n0 SZ34 (Sd6.ext (ext_of_keep KBB_34)) (Sd1.ext (ext_of_keep KBB_34)) (O2.ext O__34.2) P5) hZ (hw _ (List.mem_of_getElem? (i := 62) rfl)) (hw _ (List.mem_of_getElem? (i := 7) rfl)) (by decide) (by decide)) q37a q37c (g := (mkF m 199 #[.val (.int w0), .val (.int w1), .val (.int w2), .val (.int w3), .val (.int w4), .val (.long w5), .second, .val (.int (3 : Int32)), .val (.ref a1), .val (.ref a2), .val (.ref a3), .val (.ref a4), .val (.ref a5), .val (.ref a6), .val (.ref a7), .val (.ref b29), .val (.ref b33), .unset] [(.ref a2), (.ref a7)])) rfl (by rw [hml]; rfl) (Steps.refl _) (argsL := [(.ref a2)]) (rest := []) (lenOf pd_9 rfl) rfl (by show 2 * 0 + _ ≤ _; exact Nat.le_of_eq rfl) (hb hby at_199) (fun _ _ => ⟨rfl, e35, (by decide : 44 + 0 ≤ _), (by decide : 103 + 0 ≤ _)⟩)
      dsimp only [Pt.U, Pt.locs, Pt.cells, Pt.slots] at X37 l37 y37 z37 st37 hQ37
      subst y37 z37
      obtain ⟨rfl, Nq37, e37⟩ := hQ37
      have N37 : Fr n0 L37 := by rw [l37]; exact Fr.app N35 Nq37
      refine Gl.go (fun _ k => st37.trans k) ?_
      show Gl _ _ _ _ (T37.setTop (mkF m 202 #[.val (.int w0), .val (.int w1), .val (.int w2), .val (.int w3), .val (.int w4), .val (.long w5), .second, .val (.int (3 : Int32)), .val (.ref a1), .val (.ref a2), .val (.ref a3), .val (.ref a4), .val (.ref a5), .val (.ref a6), .val (.ref a7), .val (.ref b29), .val (.ref b33), .unset] [(.int (eqI c6_ c1_))]))
      by_cases tn1 : c1_ = c6_
      · skip
        rw [(eqI_yes tn1.symm : (eqI c6_ c1_) = (1 : Int32))]
        show Gl _ _ _ _ (T37.setTop (mkF m 202 #[.val (.int w0), .val (.int w1), .val (.int w2), .val (.int w3), .val (.int w4), .val (.long w5), .second, .val (.int (3 : Int32)), .val (.ref a1), .val (.ref a2), .val (.ref a3), .val (.ref a4), .val (.ref a5), .val (.ref a6), .val (.ref a7), .val (.ref b29), .val (.ref b33), .unset] [(.int (1 : Int32))]))
        refine Gl.go (fun _ k => XS.ifYes X37.here hx rfl (pc0 := 202) (pc' := 221) rfl (hb hby at_202) rfl ((if0 _ _).trans (feq (by decide)).2) (by decide) (by decide) k) ?_
        show Gl _ _ _ _ (T37.setTop (mkF m 221 #[.val (.int w0), .val (.int w1), .val (.int w2), .val (.int w3), .val (.int w4), .val (.long w5), .second, .val (.int (3 : Int32)), .val (.ref a1), .val (.ref a2), .val (.ref a3), .val (.ref a4), .val (.ref a5), .val (.ref a6), .val (.ref a7), .val (.ref b29), .val (.ref b33), .unset] []))
        refine Gl.go (fun _ k => XS.iconst X37.here hx rfl (hb hby at_221) k) ?_
        show Gl _ _ _ _ (T37.setTop (mkF m 222 #[.val (.int w0), .val (.int w1), .val (.int w2), .val (.int w3), .val (.int w4), .val (.long w5), .second, .val (.int (3 : Int32)), .val (.ref a1), .val (.ref a2), .val (.ref a3), .val (.ref a4), .val (.ref a5), .val (.ref a6), .val (.ref a7), .val (.ref b29), .val (.ref b33), .unset] [(.int (1 : Int32))]))
        refine Gl.go (fun _ k => XS.goto X37.here hx rfl (pc0 := 222) (pc' := 226) rfl (hb hby at_222) (by decide) (by decide) k) ?_
        show Gl _ _ _ _ (T37.setTop (mkF m 226 #[.val (.int w0), .val (.int w1), .val (.int w2), .val (.int w3), .val (.int w4), .val (.long w5), .second, .val (.int (3 : Int32)), .val (.ref a1), .val (.ref a2), .val (.ref a3), .val (.ref a4), .val (.ref a5), .val (.ref a6), .val (.ref a7), .val (.ref b29), .val (.ref b33), .unset] [(.int (1 : Int32))]))
        refine Gl.go (fun _ k => XS.istore X37.here hx rfl (hb hby at_226) rfl (l' := #[.val (.int w0), .val (.int w1), .val (.int w2), .val (.int w3), .val (.int w4), .val (.long w5), .second, .val (.int (3 : Int32)), .val (.ref a1), .val (.ref a2), .val (.ref a3), .val (.ref a4), .val (.ref a5), .val (.ref a6), .val (.ref a7), .val (.ref b29), .val (.ref b33), .val (.int (1 : Int32))]) rfl k) ?_
        show Gl _ _ _ _ (T37.setTop (mkF m 228 #[.val (.int w0), .val (.int w1), .val (.int w2), .val (.int w3), .val (.int w4), .val (.long w5), .second, .val (.int (3 : Int32)), .val (.ref a1), .val (.ref a2), .val (.ref a3), .val (.ref a4), .val (.ref a5), .val (.ref a6), .val (.ref a7), .val (.ref b29), .val (.ref b33), .val (.int (1 : Int32))] []))
        refine Gl.go (fun _ k => XS.aload X37.here hx rfl (hb hby at_228) rfl rfl  k) ?_
        show Gl _ _ _ _ (T37.setTop (mkF m 230 #[.val (.int w0), .val (.int w1), .val (.int w2), .val (.int w3), .val (.int w4), .val (.long w5), .second, .val (.int (3 : Int32)), .val (.ref a1), .val (.ref a2), .val (.ref a3), .val (.ref a4), .val (.ref a5), .val (.ref a6), .val (.ref a7), .val (.ref b29), .val (.ref b33), .val (.int (1 : Int32))] [(.ref b33)]))
        refine Gl.go (fun _ k => XS.aload X37.here hx rfl (hb hby at_230) rfl rfl  k) ?_
        show Gl _ _ _ _ (T37.setTop (mkF m 232 #[.val (.int w0), .val (.int w1), .val (.int w2), .val (.int w3), .val (.int w4), .val (.long w5), .second, .val (.int (3 : Int32)), .val (.ref a1), .val (.ref a2), .val (.ref a3), .val (.ref a4), .val (.ref a5), .val (.ref a6), .val (.ref a7), .val (.ref b29), .val (.ref b33), .val (.int (1 : Int32))] [(.ref a7), (.ref b33)]))
        obtain ⟨cq38, kq38, q38a, q38b, q38c⟩ := isOf (s := s.setVm T7.vm) hZ e37 E_b33_34
        obtain ⟨_, _, ⟨T38, L38, k38, n38⟩, -, X38, ⟨Lc38, hQ38, l38, y38, z38⟩, st38⟩ := X37.virtualBack hx (y := (⟨"org/semfolio/Dom$Element", "hasAttribute", "(Ljava/lang/String;)Z"⟩ : MethodName)) (z := (⟨"org/semfolio/Dom$Element", "hasAttribute", "(Ljava/lang/String;)Z"⟩ : MethodName)) hown (mvT hZ (hw _ (List.mem_of_getElem? (i := 46) rfl))) (mvT hZ (hw _ (List.mem_of_getElem? (i := 47) rfl))) (notFace_of_selects (args := #[]) (mvT hZ (hw _ (List.mem_of_getElem? (i := 49) rfl)))) (mvT hZ (hw _ (List.mem_of_getElem? (i := 49) rfl))) (mvT hZ (hw _ (List.mem_of_getElem? (i := 48) rfl))) (by decide) (backOf (W := 0) (rm_ha3 l Z a0 hw [] b33 a7 b29 cA29 c6_ a4 a4 a1 a4 a5 a5 a2 a5 a6 a6 a3 a6 c0_ c1_ c2_ G1 T34.heap n0 SZ34 E_b33_34 Fa34 V_b29_34 (Sd6.ext (ext_of_keep KBB_34)) (Sd0.ext (ext_of_keep KBB_34)) (Sd1.ext (ext_of_keep KBB_34)) (Sd2.ext (ext_of_keep KBB_34)) (O2.ext O__34.2) P5) hZ (hw _ (List.mem_of_getElem? (i := 50) rfl)) (hw _ (List.mem_of_getElem? (i := 30) rfl)) (by decide) (by decide)) q38a q38c (g := (mkF m 232 #[.val (.int w0), .val (.int w1), .val (.int w2), .val (.int w3), .val (.int w4), .val (.long w5), .second, .val (.int (3 : Int32)), .val (.ref a1), .val (.ref a2), .val (.ref a3), .val (.ref a4), .val (.ref a5), .val (.ref a6), .val (.ref a7), .val (.ref b29), .val (.ref b33), .val (.int (1 : Int32))] [(.ref a7), (.ref b33)])) rfl (by rw [hml]; rfl) (Steps.refl _) (argsL := [(.ref a7)]) (rest := []) (lenOf pd_12 rfl) rfl (by show 2 * 0 + _ ≤ _; exact Nat.le_of_eq rfl) (hb hby at_232) (fun _ _ => ⟨rfl, e37, (by decide : 44 + 0 ≤ _), (by decide : 103 + 0 ≤ _)⟩)
        dsimp only [Pt.U, Pt.locs, Pt.cells, Pt.slots] at X38 l38 y38 z38 st38 hQ38
        subst y38 z38
        obtain ⟨rfl, Nq38, e38⟩ := hQ38
        have N38 : Fr n0 L38 := by rw [l38]; exact Fr.app N37 Nq38
        refine Gl.go (fun _ k => st38.trans k) ?_
        show Gl _ _ _ _ (T38.setTop (mkF m 235 #[.val (.int w0), .val (.int w1), .val (.int w2), .val (.int w3), .val (.int w4), .val (.long w5), .second, .val (.int (3 : Int32)), .val (.ref a1), .val (.ref a2), .val (.ref a3), .val (.ref a4), .val (.ref a5), .val (.ref a6), .val (.ref a7), .val (.ref b29), .val (.ref b33), .val (.int (1 : Int32))] [(.int (if (if c0_ = c6_ then (0 : Int32) else (if c1_ = c6_ then (4 : Int32) else (if c2_ = c6_ then (8 : Int32) else (-1 : Int32)))) < (0 : Int32) then (0 : Int32) else (1 : Int32)))]))
        rw [((by rw [if_neg tn0, if_pos tn1, if_neg (by decide)]) : (if (if c0_ = c6_ then (0 : Int32) else (if c1_ = c6_ then (4 : Int32) else (if c2_ = c6_ then (8 : Int32) else (-1 : Int32)))) < (0 : Int32) then (0 : Int32) else (1 : Int32)) = (1 : Int32))]
        show Gl _ _ _ _ (T38.setTop (mkF m 235 #[.val (.int w0), .val (.int w1), .val (.int w2), .val (.int w3), .val (.int w4), .val (.long w5), .second, .val (.int (3 : Int32)), .val (.ref a1), .val (.ref a2), .val (.ref a3), .val (.ref a4), .val (.ref a5), .val (.ref a6), .val (.ref a7), .val (.ref b29), .val (.ref b33), .val (.int (1 : Int32))] [(.int (1 : Int32))]))
        refine Gl.go (fun _ k => XS.iload X38.here hx rfl (hb hby at_235) rfl  k) ?_
        show Gl _ _ _ _ (T38.setTop (mkF m 237 #[.val (.int w0), .val (.int w1), .val (.int w2), .val (.int w3), .val (.int w4), .val (.long w5), .second, .val (.int (3 : Int32)), .val (.ref a1), .val (.ref a2), .val (.ref a3), .val (.ref a4), .val (.ref a5), .val (.ref a6), .val (.ref a7), .val (.ref b29), .val (.ref b33), .val (.int (1 : Int32))] [(.int (1 : Int32)), (.int (1 : Int32))]))
        refine Gl.go (fun _ k => XS.icmpNo X38.here hx rfl (hb hby at_237) rfl (teq rfl).2 k) ?_
        show Gl _ _ _ _ (T38.setTop (mkF m 240 #[.val (.int w0), .val (.int w1), .val (.int w2), .val (.int w3), .val (.int w4), .val (.long w5), .second, .val (.int (3 : Int32)), .val (.ref a1), .val (.ref a2), .val (.ref a3), .val (.ref a4), .val (.ref a5), .val (.ref a6), .val (.ref a7), .val (.ref b29), .val (.ref b33), .val (.int (1 : Int32))] []))
        refine Gl.go (fun _ k => XS.iconst X38.here hx rfl (hb hby at_240) k) ?_
        show Gl _ _ _ _ (T38.setTop (mkF m 241 #[.val (.int w0), .val (.int w1), .val (.int w2), .val (.int w3), .val (.int w4), .val (.long w5), .second, .val (.int (3 : Int32)), .val (.ref a1), .val (.ref a2), .val (.ref a3), .val (.ref a4), .val (.ref a5), .val (.ref a6), .val (.ref a7), .val (.ref b29), .val (.ref b33), .val (.int (1 : Int32))] [(.int (1 : Int32))]))
        refine Gl.go (fun _ k => XS.goto X38.here hx rfl (pc0 := 241) (pc' := 245) rfl (hb hby at_241) (by decide) (by decide) k) ?_
        show Gl _ _ _ _ (T38.setTop (mkF m 245 #[.val (.int w0), .val (.int w1), .val (.int w2), .val (.int w3), .val (.int w4), .val (.long w5), .second, .val (.int (3 : Int32)), .val (.ref a1), .val (.ref a2), .val (.ref a3), .val (.ref a4), .val (.ref a5), .val (.ref a6), .val (.ref a7), .val (.ref b29), .val (.ref b33), .val (.int (1 : Int32))] [(.int (1 : Int32))]))
        refine leafWN X38 hS (by rw [e38]; exact hk) hx hlk (t := .boolean) Bd.returns (by simp) (hb hby at_245) (by rw [e38]; exact (CR34.trans (CHv.at X38 hZ hEL CR34.1))) hh ?_ (by decide) (by decide)
        exact ⟨rfl, N38⟩
      · skip
        rw [(eqI_no (fun q => tn1 q.symm) : (eqI c6_ c1_) = (0 : Int32))]
        show Gl _ _ _ _ (T37.setTop (mkF m 202 #[.val (.int w0), .val (.int w1), .val (.int w2), .val (.int w3), .val (.int w4), .val (.long w5), .second, .val (.int (3 : Int32)), .val (.ref a1), .val (.ref a2), .val (.ref a3), .val (.ref a4), .val (.ref a5), .val (.ref a6), .val (.ref a7), .val (.ref b29), .val (.ref b33), .unset] [(.int (0 : Int32))]))
        refine Gl.go (fun _ k => XS.ifNo X37.here hx rfl (hb hby at_202) rfl ((if0 _ _).trans (teq rfl).2) k) ?_
        show Gl _ _ _ _ (T37.setTop (mkF m 205 #[.val (.int w0), .val (.int w1), .val (.int w2), .val (.int w3), .val (.int w4), .val (.long w5), .second, .val (.int (3 : Int32)), .val (.ref a1), .val (.ref a2), .val (.ref a3), .val (.ref a4), .val (.ref a5), .val (.ref a6), .val (.ref a7), .val (.ref b29), .val (.ref b33), .unset] []))
        refine Gl.go (fun _ k => XS.iload X37.here hx rfl (hb hby at_205) rfl  k) ?_
        show Gl _ _ _ _ (T37.setTop (mkF m 207 #[.val (.int w0), .val (.int w1), .val (.int w2), .val (.int w3), .val (.int w4), .val (.long w5), .second, .val (.int (3 : Int32)), .val (.ref a1), .val (.ref a2), .val (.ref a3), .val (.ref a4), .val (.ref a5), .val (.ref a6), .val (.ref a7), .val (.ref b29), .val (.ref b33), .unset] [(.int (3 : Int32))]))
        refine Gl.go (fun _ k => XS.iconst X37.here hx rfl (hb hby at_207) k) ?_
        show Gl _ _ _ _ (T37.setTop (mkF m 208 #[.val (.int w0), .val (.int w1), .val (.int w2), .val (.int w3), .val (.int w4), .val (.long w5), .second, .val (.int (3 : Int32)), .val (.ref a1), .val (.ref a2), .val (.ref a3), .val (.ref a4), .val (.ref a5), .val (.ref a6), .val (.ref a7), .val (.ref b29), .val (.ref b33), .unset] [(.int (3 : Int32)), (.int (3 : Int32))]))
        refine Gl.go (fun _ k => XS.icmpNo X37.here hx rfl (hb hby at_208) rfl (flt (by decide)).1 k) ?_
        show Gl _ _ _ _ (T37.setTop (mkF m 211 #[.val (.int w0), .val (.int w1), .val (.int w2), .val (.int w3), .val (.int w4), .val (.long w5), .second, .val (.int (3 : Int32)), .val (.ref a1), .val (.ref a2), .val (.ref a3), .val (.ref a4), .val (.ref a5), .val (.ref a6), .val (.ref a7), .val (.ref b29), .val (.ref b33), .unset] []))
        refine Gl.go (fun _ k => XS.aload X37.here hx rfl (hb hby at_211) rfl rfl  k) ?_
        show Gl _ _ _ _ (T37.setTop (mkF m 213 #[.val (.int w0), .val (.int w1), .val (.int w2), .val (.int w3), .val (.int w4), .val (.long w5), .second, .val (.int (3 : Int32)), .val (.ref a1), .val (.ref a2), .val (.ref a3), .val (.ref a4), .val (.ref a5), .val (.ref a6), .val (.ref a7), .val (.ref b29), .val (.ref b33), .unset] [(.ref a7)]))
        refine Gl.go (fun _ k => XS.aload X37.here hx rfl (hb hby at_213) rfl rfl  k) ?_
        show Gl _ _ _ _ (T37.setTop (mkF m 215 #[.val (.int w0), .val (.int w1), .val (.int w2), .val (.int w3), .val (.int w4), .val (.long w5), .second, .val (.int (3 : Int32)), .val (.ref a1), .val (.ref a2), .val (.ref a3), .val (.ref a4), .val (.ref a5), .val (.ref a6), .val (.ref a7), .val (.ref b29), .val (.ref b33), .unset] [(.ref a3), (.ref a7)]))
        obtain ⟨cq39, kq39, q39a, q39b, q39c⟩ := isOf (s := s.setVm T7.vm) hZ e37 (Sd6.ext (ext_of_keep KBB_34)).1
        obtain ⟨_, _, ⟨T39, L39, k39, n39⟩, -, X39, ⟨Lc39, hQ39, l39, y39, z39⟩, st39⟩ := X37.virtualBack hx (y := (⟨"java/lang/String", "equals", "(Ljava/lang/Object;)Z"⟩ : MethodName)) (z := (⟨"java/lang/String", "equals", "(Ljava/lang/Object;)Z"⟩ : MethodName)) hown (mvT hZ (hw _ (List.mem_of_getElem? (i := 58) rfl))) (mvT hZ (hw _ (List.mem_of_getElem? (i := 59) rfl))) (notFace_of_selects (args := #[]) (mvT hZ (hw _ (List.mem_of_getElem? (i := 61) rfl)))) (mvT hZ (hw _ (List.mem_of_getElem? (i := 61) rfl))) (mvT hZ (hw _ (List.mem_of_getElem? (i := 60) rfl))) (by decide) (backOf (W := 0) (rm_seq l Z a0 hw [] a7 a3 c6_ c2_ G1 T34.heap n0 SZ34 (Sd6.ext (ext_of_keep KBB_34)) (Sd2.ext (ext_of_keep KBB_34)) (O2.ext O__34.2) P5) hZ (hw _ (List.mem_of_getElem? (i := 62) rfl)) (hw _ (List.mem_of_getElem? (i := 7) rfl)) (by decide) (by decide)) q39a q39c (g := (mkF m 215 #[.val (.int w0), .val (.int w1), .val (.int w2), .val (.int w3), .val (.int w4), .val (.long w5), .second, .val (.int (3 : Int32)), .val (.ref a1), .val (.ref a2), .val (.ref a3), .val (.ref a4), .val (.ref a5), .val (.ref a6), .val (.ref a7), .val (.ref b29), .val (.ref b33), .unset] [(.ref a3), (.ref a7)])) rfl (by rw [hml]; rfl) (Steps.refl _) (argsL := [(.ref a3)]) (rest := []) (lenOf pd_9 rfl) rfl (by show 2 * 0 + _ ≤ _; exact Nat.le_of_eq rfl) (hb hby at_215) (fun _ _ => ⟨rfl, e37, (by decide : 44 + 0 ≤ _), (by decide : 103 + 0 ≤ _)⟩)
        dsimp only [Pt.U, Pt.locs, Pt.cells, Pt.slots] at X39 l39 y39 z39 st39 hQ39
        subst y39 z39
        obtain ⟨rfl, Nq39, e39⟩ := hQ39
        have N39 : Fr n0 L39 := by rw [l39]; exact Fr.app N37 Nq39
        refine Gl.go (fun _ k => st39.trans k) ?_
        show Gl _ _ _ _ (T39.setTop (mkF m 218 #[.val (.int w0), .val (.int w1), .val (.int w2), .val (.int w3), .val (.int w4), .val (.long w5), .second, .val (.int (3 : Int32)), .val (.ref a1), .val (.ref a2), .val (.ref a3), .val (.ref a4), .val (.ref a5), .val (.ref a6), .val (.ref a7), .val (.ref b29), .val (.ref b33), .unset] [(.int (eqI c6_ c2_))]))
        by_cases tn2 : c2_ = c6_
        · skip
          rw [(eqI_yes tn2.symm : (eqI c6_ c2_) = (1 : Int32))]
          show Gl _ _ _ _ (T39.setTop (mkF m 218 #[.val (.int w0), .val (.int w1), .val (.int w2), .val (.int w3), .val (.int w4), .val (.long w5), .second, .val (.int (3 : Int32)), .val (.ref a1), .val (.ref a2), .val (.ref a3), .val (.ref a4), .val (.ref a5), .val (.ref a6), .val (.ref a7), .val (.ref b29), .val (.ref b33), .unset] [(.int (1 : Int32))]))
          refine Gl.go (fun _ k => XS.ifNo X39.here hx rfl (hb hby at_218) rfl ((if0 _ _).trans (feq (by decide)).1) k) ?_
          show Gl _ _ _ _ (T39.setTop (mkF m 221 #[.val (.int w0), .val (.int w1), .val (.int w2), .val (.int w3), .val (.int w4), .val (.long w5), .second, .val (.int (3 : Int32)), .val (.ref a1), .val (.ref a2), .val (.ref a3), .val (.ref a4), .val (.ref a5), .val (.ref a6), .val (.ref a7), .val (.ref b29), .val (.ref b33), .unset] []))
          refine Gl.go (fun _ k => XS.iconst X39.here hx rfl (hb hby at_221) k) ?_
          show Gl _ _ _ _ (T39.setTop (mkF m 222 #[.val (.int w0), .val (.int w1), .val (.int w2), .val (.int w3), .val (.int w4), .val (.long w5), .second, .val (.int (3 : Int32)), .val (.ref a1), .val (.ref a2), .val (.ref a3), .val (.ref a4), .val (.ref a5), .val (.ref a6), .val (.ref a7), .val (.ref b29), .val (.ref b33), .unset] [(.int (1 : Int32))]))
          refine Gl.go (fun _ k => XS.goto X39.here hx rfl (pc0 := 222) (pc' := 226) rfl (hb hby at_222) (by decide) (by decide) k) ?_
          show Gl _ _ _ _ (T39.setTop (mkF m 226 #[.val (.int w0), .val (.int w1), .val (.int w2), .val (.int w3), .val (.int w4), .val (.long w5), .second, .val (.int (3 : Int32)), .val (.ref a1), .val (.ref a2), .val (.ref a3), .val (.ref a4), .val (.ref a5), .val (.ref a6), .val (.ref a7), .val (.ref b29), .val (.ref b33), .unset] [(.int (1 : Int32))]))
          refine Gl.go (fun _ k => XS.istore X39.here hx rfl (hb hby at_226) rfl (l' := #[.val (.int w0), .val (.int w1), .val (.int w2), .val (.int w3), .val (.int w4), .val (.long w5), .second, .val (.int (3 : Int32)), .val (.ref a1), .val (.ref a2), .val (.ref a3), .val (.ref a4), .val (.ref a5), .val (.ref a6), .val (.ref a7), .val (.ref b29), .val (.ref b33), .val (.int (1 : Int32))]) rfl k) ?_
          show Gl _ _ _ _ (T39.setTop (mkF m 228 #[.val (.int w0), .val (.int w1), .val (.int w2), .val (.int w3), .val (.int w4), .val (.long w5), .second, .val (.int (3 : Int32)), .val (.ref a1), .val (.ref a2), .val (.ref a3), .val (.ref a4), .val (.ref a5), .val (.ref a6), .val (.ref a7), .val (.ref b29), .val (.ref b33), .val (.int (1 : Int32))] []))
          refine Gl.go (fun _ k => XS.aload X39.here hx rfl (hb hby at_228) rfl rfl  k) ?_
          show Gl _ _ _ _ (T39.setTop (mkF m 230 #[.val (.int w0), .val (.int w1), .val (.int w2), .val (.int w3), .val (.int w4), .val (.long w5), .second, .val (.int (3 : Int32)), .val (.ref a1), .val (.ref a2), .val (.ref a3), .val (.ref a4), .val (.ref a5), .val (.ref a6), .val (.ref a7), .val (.ref b29), .val (.ref b33), .val (.int (1 : Int32))] [(.ref b33)]))
          refine Gl.go (fun _ k => XS.aload X39.here hx rfl (hb hby at_230) rfl rfl  k) ?_
          show Gl _ _ _ _ (T39.setTop (mkF m 232 #[.val (.int w0), .val (.int w1), .val (.int w2), .val (.int w3), .val (.int w4), .val (.long w5), .second, .val (.int (3 : Int32)), .val (.ref a1), .val (.ref a2), .val (.ref a3), .val (.ref a4), .val (.ref a5), .val (.ref a6), .val (.ref a7), .val (.ref b29), .val (.ref b33), .val (.int (1 : Int32))] [(.ref a7), (.ref b33)]))
          obtain ⟨cq40, kq40, q40a, q40b, q40c⟩ := isOf (s := s.setVm T7.vm) hZ e39 E_b33_34
          obtain ⟨_, _, ⟨T40, L40, k40, n40⟩, -, X40, ⟨Lc40, hQ40, l40, y40, z40⟩, st40⟩ := X39.virtualBack hx (y := (⟨"org/semfolio/Dom$Element", "hasAttribute", "(Ljava/lang/String;)Z"⟩ : MethodName)) (z := (⟨"org/semfolio/Dom$Element", "hasAttribute", "(Ljava/lang/String;)Z"⟩ : MethodName)) hown (mvT hZ (hw _ (List.mem_of_getElem? (i := 46) rfl))) (mvT hZ (hw _ (List.mem_of_getElem? (i := 47) rfl))) (notFace_of_selects (args := #[]) (mvT hZ (hw _ (List.mem_of_getElem? (i := 49) rfl)))) (mvT hZ (hw _ (List.mem_of_getElem? (i := 49) rfl))) (mvT hZ (hw _ (List.mem_of_getElem? (i := 48) rfl))) (by decide) (backOf (W := 0) (rm_ha3 l Z a0 hw [] b33 a7 b29 cA29 c6_ a4 a4 a1 a4 a5 a5 a2 a5 a6 a6 a3 a6 c0_ c1_ c2_ G1 T34.heap n0 SZ34 E_b33_34 Fa34 V_b29_34 (Sd6.ext (ext_of_keep KBB_34)) (Sd0.ext (ext_of_keep KBB_34)) (Sd1.ext (ext_of_keep KBB_34)) (Sd2.ext (ext_of_keep KBB_34)) (O2.ext O__34.2) P5) hZ (hw _ (List.mem_of_getElem? (i := 50) rfl)) (hw _ (List.mem_of_getElem? (i := 30) rfl)) (by decide) (by decide)) q40a q40c (g := (mkF m 232 #[.val (.int w0), .val (.int w1), .val (.int w2), .val (.int w3), .val (.int w4), .val (.long w5), .second, .val (.int (3 : Int32)), .val (.ref a1), .val (.ref a2), .val (.ref a3), .val (.ref a4), .val (.ref a5), .val (.ref a6), .val (.ref a7), .val (.ref b29), .val (.ref b33), .val (.int (1 : Int32))] [(.ref a7), (.ref b33)])) rfl (by rw [hml]; rfl) (Steps.refl _) (argsL := [(.ref a7)]) (rest := []) (lenOf pd_12 rfl) rfl (by show 2 * 0 + _ ≤ _; exact Nat.le_of_eq rfl) (hb hby at_232) (fun _ _ => ⟨rfl, e39, (by decide : 44 + 0 ≤ _), (by decide : 103 + 0 ≤ _)⟩)
          dsimp only [Pt.U, Pt.locs, Pt.cells, Pt.slots] at X40 l40 y40 z40 st40 hQ40
          subst y40 z40
          obtain ⟨rfl, Nq40, e40⟩ := hQ40
          have N40 : Fr n0 L40 := by rw [l40]; exact Fr.app N39 Nq40
          refine Gl.go (fun _ k => st40.trans k) ?_
          show Gl _ _ _ _ (T40.setTop (mkF m 235 #[.val (.int w0), .val (.int w1), .val (.int w2), .val (.int w3), .val (.int w4), .val (.long w5), .second, .val (.int (3 : Int32)), .val (.ref a1), .val (.ref a2), .val (.ref a3), .val (.ref a4), .val (.ref a5), .val (.ref a6), .val (.ref a7), .val (.ref b29), .val (.ref b33), .val (.int (1 : Int32))] [(.int (if (if c0_ = c6_ then (0 : Int32) else (if c1_ = c6_ then (4 : Int32) else (if c2_ = c6_ then (8 : Int32) else (-1 : Int32)))) < (0 : Int32) then (0 : Int32) else (1 : Int32)))]))
          rw [((by rw [if_neg tn0, if_neg tn1, if_pos tn2, if_neg (by decide)]) : (if (if c0_ = c6_ then (0 : Int32) else (if c1_ = c6_ then (4 : Int32) else (if c2_ = c6_ then (8 : Int32) else (-1 : Int32)))) < (0 : Int32) then (0 : Int32) else (1 : Int32)) = (1 : Int32))]
          show Gl _ _ _ _ (T40.setTop (mkF m 235 #[.val (.int w0), .val (.int w1), .val (.int w2), .val (.int w3), .val (.int w4), .val (.long w5), .second, .val (.int (3 : Int32)), .val (.ref a1), .val (.ref a2), .val (.ref a3), .val (.ref a4), .val (.ref a5), .val (.ref a6), .val (.ref a7), .val (.ref b29), .val (.ref b33), .val (.int (1 : Int32))] [(.int (1 : Int32))]))
          refine Gl.go (fun _ k => XS.iload X40.here hx rfl (hb hby at_235) rfl  k) ?_
          show Gl _ _ _ _ (T40.setTop (mkF m 237 #[.val (.int w0), .val (.int w1), .val (.int w2), .val (.int w3), .val (.int w4), .val (.long w5), .second, .val (.int (3 : Int32)), .val (.ref a1), .val (.ref a2), .val (.ref a3), .val (.ref a4), .val (.ref a5), .val (.ref a6), .val (.ref a7), .val (.ref b29), .val (.ref b33), .val (.int (1 : Int32))] [(.int (1 : Int32)), (.int (1 : Int32))]))
          refine Gl.go (fun _ k => XS.icmpNo X40.here hx rfl (hb hby at_237) rfl (teq rfl).2 k) ?_
          show Gl _ _ _ _ (T40.setTop (mkF m 240 #[.val (.int w0), .val (.int w1), .val (.int w2), .val (.int w3), .val (.int w4), .val (.long w5), .second, .val (.int (3 : Int32)), .val (.ref a1), .val (.ref a2), .val (.ref a3), .val (.ref a4), .val (.ref a5), .val (.ref a6), .val (.ref a7), .val (.ref b29), .val (.ref b33), .val (.int (1 : Int32))] []))
          refine Gl.go (fun _ k => XS.iconst X40.here hx rfl (hb hby at_240) k) ?_
          show Gl _ _ _ _ (T40.setTop (mkF m 241 #[.val (.int w0), .val (.int w1), .val (.int w2), .val (.int w3), .val (.int w4), .val (.long w5), .second, .val (.int (3 : Int32)), .val (.ref a1), .val (.ref a2), .val (.ref a3), .val (.ref a4), .val (.ref a5), .val (.ref a6), .val (.ref a7), .val (.ref b29), .val (.ref b33), .val (.int (1 : Int32))] [(.int (1 : Int32))]))
          refine Gl.go (fun _ k => XS.goto X40.here hx rfl (pc0 := 241) (pc' := 245) rfl (hb hby at_241) (by decide) (by decide) k) ?_
          show Gl _ _ _ _ (T40.setTop (mkF m 245 #[.val (.int w0), .val (.int w1), .val (.int w2), .val (.int w3), .val (.int w4), .val (.long w5), .second, .val (.int (3 : Int32)), .val (.ref a1), .val (.ref a2), .val (.ref a3), .val (.ref a4), .val (.ref a5), .val (.ref a6), .val (.ref a7), .val (.ref b29), .val (.ref b33), .val (.int (1 : Int32))] [(.int (1 : Int32))]))
          refine leafWN X40 hS (by rw [e40]; exact hk) hx hlk (t := .boolean) Bd.returns (by simp) (hb hby at_245) (by rw [e40]; exact (CR34.trans (CHv.at X40 hZ hEL CR34.1))) hh ?_ (by decide) (by decide)
          exact ⟨rfl, N40⟩
        · skip
          rw [(eqI_no (fun q => tn2 q.symm) : (eqI c6_ c2_) = (0 : Int32))]
          show Gl _ _ _ _ (T39.setTop (mkF m 218 #[.val (.int w0), .val (.int w1), .val (.int w2), .val (.int w3), .val (.int w4), .val (.long w5), .second, .val (.int (3 : Int32)), .val (.ref a1), .val (.ref a2), .val (.ref a3), .val (.ref a4), .val (.ref a5), .val (.ref a6), .val (.ref a7), .val (.ref b29), .val (.ref b33), .unset] [(.int (0 : Int32))]))
          refine Gl.go (fun _ k => XS.ifYes X39.here hx rfl (pc0 := 218) (pc' := 225) rfl (hb hby at_218) rfl ((if0 _ _).trans (teq rfl).1) (by decide) (by decide) k) ?_
          show Gl _ _ _ _ (T39.setTop (mkF m 225 #[.val (.int w0), .val (.int w1), .val (.int w2), .val (.int w3), .val (.int w4), .val (.long w5), .second, .val (.int (3 : Int32)), .val (.ref a1), .val (.ref a2), .val (.ref a3), .val (.ref a4), .val (.ref a5), .val (.ref a6), .val (.ref a7), .val (.ref b29), .val (.ref b33), .unset] []))
          refine Gl.go (fun _ k => XS.iconst X39.here hx rfl (hb hby at_225) k) ?_
          show Gl _ _ _ _ (T39.setTop (mkF m 226 #[.val (.int w0), .val (.int w1), .val (.int w2), .val (.int w3), .val (.int w4), .val (.long w5), .second, .val (.int (3 : Int32)), .val (.ref a1), .val (.ref a2), .val (.ref a3), .val (.ref a4), .val (.ref a5), .val (.ref a6), .val (.ref a7), .val (.ref b29), .val (.ref b33), .unset] [(.int (0 : Int32))]))
          refine Gl.go (fun _ k => XS.istore X39.here hx rfl (hb hby at_226) rfl (l' := #[.val (.int w0), .val (.int w1), .val (.int w2), .val (.int w3), .val (.int w4), .val (.long w5), .second, .val (.int (3 : Int32)), .val (.ref a1), .val (.ref a2), .val (.ref a3), .val (.ref a4), .val (.ref a5), .val (.ref a6), .val (.ref a7), .val (.ref b29), .val (.ref b33), .val (.int (0 : Int32))]) rfl k) ?_
          show Gl _ _ _ _ (T39.setTop (mkF m 228 #[.val (.int w0), .val (.int w1), .val (.int w2), .val (.int w3), .val (.int w4), .val (.long w5), .second, .val (.int (3 : Int32)), .val (.ref a1), .val (.ref a2), .val (.ref a3), .val (.ref a4), .val (.ref a5), .val (.ref a6), .val (.ref a7), .val (.ref b29), .val (.ref b33), .val (.int (0 : Int32))] []))
          refine Gl.go (fun _ k => XS.aload X39.here hx rfl (hb hby at_228) rfl rfl  k) ?_
          show Gl _ _ _ _ (T39.setTop (mkF m 230 #[.val (.int w0), .val (.int w1), .val (.int w2), .val (.int w3), .val (.int w4), .val (.long w5), .second, .val (.int (3 : Int32)), .val (.ref a1), .val (.ref a2), .val (.ref a3), .val (.ref a4), .val (.ref a5), .val (.ref a6), .val (.ref a7), .val (.ref b29), .val (.ref b33), .val (.int (0 : Int32))] [(.ref b33)]))
          refine Gl.go (fun _ k => XS.aload X39.here hx rfl (hb hby at_230) rfl rfl  k) ?_
          show Gl _ _ _ _ (T39.setTop (mkF m 232 #[.val (.int w0), .val (.int w1), .val (.int w2), .val (.int w3), .val (.int w4), .val (.long w5), .second, .val (.int (3 : Int32)), .val (.ref a1), .val (.ref a2), .val (.ref a3), .val (.ref a4), .val (.ref a5), .val (.ref a6), .val (.ref a7), .val (.ref b29), .val (.ref b33), .val (.int (0 : Int32))] [(.ref a7), (.ref b33)]))
          obtain ⟨cq41, kq41, q41a, q41b, q41c⟩ := isOf (s := s.setVm T7.vm) hZ e39 E_b33_34
          obtain ⟨_, _, ⟨T41, L41, k41, n41⟩, -, X41, ⟨Lc41, hQ41, l41, y41, z41⟩, st41⟩ := X39.virtualBack hx (y := (⟨"org/semfolio/Dom$Element", "hasAttribute", "(Ljava/lang/String;)Z"⟩ : MethodName)) (z := (⟨"org/semfolio/Dom$Element", "hasAttribute", "(Ljava/lang/String;)Z"⟩ : MethodName)) hown (mvT hZ (hw _ (List.mem_of_getElem? (i := 46) rfl))) (mvT hZ (hw _ (List.mem_of_getElem? (i := 47) rfl))) (notFace_of_selects (args := #[]) (mvT hZ (hw _ (List.mem_of_getElem? (i := 49) rfl)))) (mvT hZ (hw _ (List.mem_of_getElem? (i := 49) rfl))) (mvT hZ (hw _ (List.mem_of_getElem? (i := 48) rfl))) (by decide) (backOf (W := 0) (rm_ha3 l Z a0 hw [] b33 a7 b29 cA29 c6_ a4 a4 a1 a4 a5 a5 a2 a5 a6 a6 a3 a6 c0_ c1_ c2_ G1 T34.heap n0 SZ34 E_b33_34 Fa34 V_b29_34 (Sd6.ext (ext_of_keep KBB_34)) (Sd0.ext (ext_of_keep KBB_34)) (Sd1.ext (ext_of_keep KBB_34)) (Sd2.ext (ext_of_keep KBB_34)) (O2.ext O__34.2) P5) hZ (hw _ (List.mem_of_getElem? (i := 50) rfl)) (hw _ (List.mem_of_getElem? (i := 30) rfl)) (by decide) (by decide)) q41a q41c (g := (mkF m 232 #[.val (.int w0), .val (.int w1), .val (.int w2), .val (.int w3), .val (.int w4), .val (.long w5), .second, .val (.int (3 : Int32)), .val (.ref a1), .val (.ref a2), .val (.ref a3), .val (.ref a4), .val (.ref a5), .val (.ref a6), .val (.ref a7), .val (.ref b29), .val (.ref b33), .val (.int (0 : Int32))] [(.ref a7), (.ref b33)])) rfl (by rw [hml]; rfl) (Steps.refl _) (argsL := [(.ref a7)]) (rest := []) (lenOf pd_12 rfl) rfl (by show 2 * 0 + _ ≤ _; exact Nat.le_of_eq rfl) (hb hby at_232) (fun _ _ => ⟨rfl, e39, (by decide : 44 + 0 ≤ _), (by decide : 103 + 0 ≤ _)⟩)
          dsimp only [Pt.U, Pt.locs, Pt.cells, Pt.slots] at X41 l41 y41 z41 st41 hQ41
          subst y41 z41
          obtain ⟨rfl, Nq41, e41⟩ := hQ41
          have N41 : Fr n0 L41 := by rw [l41]; exact Fr.app N39 Nq41
          refine Gl.go (fun _ k => st41.trans k) ?_
          show Gl _ _ _ _ (T41.setTop (mkF m 235 #[.val (.int w0), .val (.int w1), .val (.int w2), .val (.int w3), .val (.int w4), .val (.long w5), .second, .val (.int (3 : Int32)), .val (.ref a1), .val (.ref a2), .val (.ref a3), .val (.ref a4), .val (.ref a5), .val (.ref a6), .val (.ref a7), .val (.ref b29), .val (.ref b33), .val (.int (0 : Int32))] [(.int (if (if c0_ = c6_ then (0 : Int32) else (if c1_ = c6_ then (4 : Int32) else (if c2_ = c6_ then (8 : Int32) else (-1 : Int32)))) < (0 : Int32) then (0 : Int32) else (1 : Int32)))]))
          rw [((by rw [if_neg tn0, if_neg tn1, if_neg tn2, if_pos (by decide)]) : (if (if c0_ = c6_ then (0 : Int32) else (if c1_ = c6_ then (4 : Int32) else (if c2_ = c6_ then (8 : Int32) else (-1 : Int32)))) < (0 : Int32) then (0 : Int32) else (1 : Int32)) = (0 : Int32))]
          show Gl _ _ _ _ (T41.setTop (mkF m 235 #[.val (.int w0), .val (.int w1), .val (.int w2), .val (.int w3), .val (.int w4), .val (.long w5), .second, .val (.int (3 : Int32)), .val (.ref a1), .val (.ref a2), .val (.ref a3), .val (.ref a4), .val (.ref a5), .val (.ref a6), .val (.ref a7), .val (.ref b29), .val (.ref b33), .val (.int (0 : Int32))] [(.int (0 : Int32))]))
          refine Gl.go (fun _ k => XS.iload X41.here hx rfl (hb hby at_235) rfl  k) ?_
          show Gl _ _ _ _ (T41.setTop (mkF m 237 #[.val (.int w0), .val (.int w1), .val (.int w2), .val (.int w3), .val (.int w4), .val (.long w5), .second, .val (.int (3 : Int32)), .val (.ref a1), .val (.ref a2), .val (.ref a3), .val (.ref a4), .val (.ref a5), .val (.ref a6), .val (.ref a7), .val (.ref b29), .val (.ref b33), .val (.int (0 : Int32))] [(.int (0 : Int32)), (.int (0 : Int32))]))
          refine Gl.go (fun _ k => XS.icmpNo X41.here hx rfl (hb hby at_237) rfl (teq rfl).2 k) ?_
          show Gl _ _ _ _ (T41.setTop (mkF m 240 #[.val (.int w0), .val (.int w1), .val (.int w2), .val (.int w3), .val (.int w4), .val (.long w5), .second, .val (.int (3 : Int32)), .val (.ref a1), .val (.ref a2), .val (.ref a3), .val (.ref a4), .val (.ref a5), .val (.ref a6), .val (.ref a7), .val (.ref b29), .val (.ref b33), .val (.int (0 : Int32))] []))
          refine Gl.go (fun _ k => XS.iconst X41.here hx rfl (hb hby at_240) k) ?_
          show Gl _ _ _ _ (T41.setTop (mkF m 241 #[.val (.int w0), .val (.int w1), .val (.int w2), .val (.int w3), .val (.int w4), .val (.long w5), .second, .val (.int (3 : Int32)), .val (.ref a1), .val (.ref a2), .val (.ref a3), .val (.ref a4), .val (.ref a5), .val (.ref a6), .val (.ref a7), .val (.ref b29), .val (.ref b33), .val (.int (0 : Int32))] [(.int (1 : Int32))]))
          refine Gl.go (fun _ k => XS.goto X41.here hx rfl (pc0 := 241) (pc' := 245) rfl (hb hby at_241) (by decide) (by decide) k) ?_
          show Gl _ _ _ _ (T41.setTop (mkF m 245 #[.val (.int w0), .val (.int w1), .val (.int w2), .val (.int w3), .val (.int w4), .val (.long w5), .second, .val (.int (3 : Int32)), .val (.ref a1), .val (.ref a2), .val (.ref a3), .val (.ref a4), .val (.ref a5), .val (.ref a6), .val (.ref a7), .val (.ref b29), .val (.ref b33), .val (.int (0 : Int32))] [(.int (1 : Int32))]))
          refine leafWN X41 hS (by rw [e41]; exact hk) hx hlk (t := .boolean) Bd.returns (by simp) (hb hby at_245) (by rw [e41]; exact (CR34.trans (CHv.at X41 hZ hEL CR34.1))) hh ?_ (by decide) (by decide)
          exact ⟨rfl, N41⟩
set_option maxRecDepth 65536 in
set_option maxHeartbeats 40000000 in
theorem comes_1 {Post : Tables → Env → Array Value → State → Outcome → State → Prop} (hpost : ∀ tb e args s v u, (limb_1_1.after args s (.returned v) u = true ∧ limb_1_2.after args s (.returned v) u = true ∧ True) → ReturnedEndW s (.returned v) u (Jvm.fieldLocs frame_1_writes args s ++ Jvm.arrayLocs frame_1_arrays args s ++ Jvm.staticLocs frame_1_statics s) 56 1280 → Post tb e args s (.returned v) u) :
    ArmFor flags0 classFile x code maxLocals ret World_1 tables_1 room_1 Calls_1 rest_1 Pre_1 Post := by
  intro l hfl _ _ p e ha hc hk s m args below hf hA hF happ hP
  obtain ⟨hcalls, hrest, hpre⟩ := hP
  obtain ⟨-, -, -, hnamed, -, -, -, hat⟩ := (Spec.applies_iff hf).mp happ
  obtain ⟨hg, hn⟩ := and_e (Cond.before_iff.mp (show (Jvm.Cond.and given_1 narrow_1).before args s = true from hpre))
  obtain ⟨hcount, hg0⟩ := and_e hg
  obtain ⟨hk0, hg1⟩ := and_e hg0
  obtain ⟨hk1, hg2⟩ := and_e hg1
  obtain ⟨hk2, hg3⟩ := and_e hg2
  obtain ⟨hk3, hg4⟩ := and_e hg3
  obtain ⟨hk4, hg5⟩ := and_e hg4
  have hk5 := hg5
  obtain ⟨w0, w1, w2, w3, w4, w5, rfl⟩ : ∃ w0 w1 w2 w3 w4 w5 : Value, args = #[w0, w1, w2, w3, w4, w5] := by
    have hs : args.size = 6 := by simpa [Cond.value, given_1] using hcount
    obtain ⟨L⟩ := args
    match L, hs with
    | [w0, w1, w2, w3, w4, w5], _ => exact ⟨w0, w1, w2, w3, w4, w5, rfl⟩
  have hw := fun d (hd : d ∈ tables_1) => atoms_spec (ws := Jvm.Cond.code x code maxLocals ret :: tables_1) hat d (List.mem_cons_of_mem _ hd)
  obtain ⟨hsets, hown0⟩ := atoms_of _ (rest_1_c_eq ▸ (show rest_1_c.before _ s = true from hrest))
  have hfit : Fit s := fun {y c} hc i hi => by
    obtain ⟨ha, rfl⟩ := Array.getElem?_eq_some_iff.mp hc
    have q := List.all_eq_true.mp ((Array.all_eq_true_iff_forall_mem.mp hF) _ (Array.getElem_mem ha)) i (List.mem_range.mpr hi)
    simpa [Array.getElem?_eq_getElem hi] using q
  obtain ⟨i0, ei0⟩ := is_v hk0
  obtain rfl : w0 = (.int i0) := Option.some.inj ei0
  obtain ⟨i1, ei1⟩ := is_v hk1
  obtain rfl : w1 = (.int i1) := Option.some.inj ei1
  obtain ⟨i2, ei2⟩ := is_v hk2
  obtain rfl : w2 = (.int i2) := Option.some.inj ei2
  obtain ⟨i3, ei3⟩ := is_v hk3
  obtain rfl : w3 = (.int i3) := Option.some.inj ei3
  obtain ⟨i4, ei4⟩ := is_v hk4
  obtain rfl : w4 = (.int i4) := Option.some.inj ei4
  obtain ⟨i5, ei5⟩ := isL_v hk5
  obtain rfl : w5 = (.long i5) := Option.some.inj ei5
  have n5 := not_v (Cond.before_iff.mp (hsets _ (List.mem_of_getElem? (i := 2) rfl)))
  obtain ⟨i11, e10⟩ := is_v (Cond.before_iff.mp (hsets _ (List.mem_of_getElem? (i := 1) rfl)))
  have S12 : Sta s s.heap "java/lang/String" "COMPACT_STRINGS" "Z" (.int i11) := Sta.start e10 (Or.inl (hsets _ (List.mem_of_getElem? (i := 0) rfl)))
  have c17 : ¬ (i11 = (0 : Int32)) := gotF (Cond.eq_ints e10 (Term.int_eval (0))) n5
  have hSA : ∀ d ∈ Bundle.stringAtoms, d.before _ s = true := fun d hd => hw d ((by decide +kernel : ∀ d ∈ Bundle.stringAtoms, d ∈ tables_1) d hd)
  have hEL : EW s _ elL := (EW.cons (hw _ (List.mem_of_getElem? (i := 19) rfl)) (by decide) EW.nil)
  have hCH : CHv s elL s.vm s.heap := CHv.start hEL (fun p hp => hcalls.1 p hp) (hsets _ (List.mem_of_getElem? (i := 2) rfl)) (hw _ (List.mem_of_getElem? (i := 20) rfl)) (hw _ (List.mem_of_getElem? (i := 6) rfl))
  obtain ⟨n, o, h1, h2, h3, _, L, rfl, ⟨rfl, N⟩, -, hq⟩ := rm_law l s _ hw tables_1 i0 i1 i2 i3 i4 i5 i11 s.heap s.heap.size (Nat.le_refl _) hEL hSA S12 c17 (Old.start s) p e ha hc hk s m _ below hf ((Spec.applies_iff_loose hf).mp happ).1 ⟨rfl, State.Warmed39.refl s, rfl, hCH⟩ trivial
  refine ⟨n, _, h1, h2, h3, hpost _ _ _ _ _ _ ⟨Cond.after_iff.mpr rfl, Cond.after_iff.mpr (eq_i res_at (Term.int_eval (1)) rfl), trivial⟩ ⟨hq.1, hq.2.1, hq.2.2.1, (hq.2.2.2.sift fun y hy => Or.inr (N y hy)).mono (by decide) (by decide)⟩⟩
theorem main_1_1 : Claimed_1_1 := comes_1 fun _ _ _ _ _ _ h hF => ⟨h.1, hF⟩
theorem main_1_2 : Claimed_1_2 := comes_1 fun _ _ _ _ _ _ h hF => ⟨h.2.1, hF⟩
end Jvm.Pilot.@@N@@
namespace Jvm.Pilot.@@N@@
open Jvm Jvm.ClassFile Sem Op Lib Jvm.Free Jvm.Stand Jvm.Pilot.@@N@@.Jvm.D
/-! MADE BY PROGRAM (witnessworld.py) out of the Statement's table words and the real class files: 22 classes; the members and pool entries that the words name. The judged class is class 1, her method 3. -/
namespace start1
open Jvm.ClassFile
def u (s : String) : CpInfo := .utf8 (stringToUtf16 s)
/-- a pool by its gaps: so many unusable entries, then the entry; so many at the end -/
def gap : Nat → List CpInfo → List CpInfo
  | 0, r => r
  | n + 1, r => .unusable :: gap n r
def poolList (es : List (Nat × CpInfo)) (last : Nat) : List CpInfo := es.foldr (fun e r => gap e.1 (e.2 :: r)) (gap last [])
def pool (es : List (Nat × CpInfo)) (last : Nat) : Array CpInfo := ⟨poolList es last⟩
def fileOf (pool : Array CpInfo) (this : Nat) (attrs : Array Attribute := #[]) (ms : Array MethodInfo := #[]) (fl : Nat := 33) (sup : Nat := 0) (ifs : Array Nat := #[]) (fds : Array FieldInfo := #[]) : ClassFile where
  minorVersion := 0
  majorVersion := 65
  constantPool := pool
  accessFlags := fl
  thisClass := this
  superClass := sup
  interfaces := ifs
  fields := fds
  methods := ms
  attributes := attrs
def plain (name : String) (sup : Option ClassId) : Class where
  name := name
  kind := .ordinary
  loader := none
  accessFlags := 33
  super := sup
  interfaces := #[]
  cf := none
  fields := #[]
  methods := #[]
  instanceTypes := #[]
  staticTypes := #[]
  resolved := #[]
  callSites := []
  init := .initialized
  statics := none
  mirror := none

def pool0 : Array CpInfo := pool [(5, u "<init>"), (0, u "()V"), (1, .class_ 10), (1, u "java/lang/Object")] 113

def k0c0 : Code := { maxStack := 0, maxLocals := 1, code := object_method_1_code, exceptionTable := #[], attributes := #[] }
def k0m0 : Method := { name := "<init>", desc := "()V", sig := { parameters := [], returnType := none }, accessFlags := 1, code := some k0c0 }
/-- java/lang/Object -/
def k0 : Class := { plain "java/lang/Object" none with
  accessFlags := 33
  interfaces := #[]
  cf := some (fileOf pool0 8 #[] #[{ accessFlags := 1, nameIndex := 5, descriptorIndex := 6, attributes := #[] }] 33 0 #[] #[])
  fields := #[]
  methods := #[k0m0]
  instanceTypes := #[]
  staticTypes := #[]
  resolved := Array.replicate 124 none
  statics := none }

def pool1 : Array CpInfo := pool [(2, .class_ 4), (1, u "java/lang/Object"), (0, u "<init>"), (0, u "()V"), (0, .class_ 8), (0, u "java/lang/String"), (0, .methodref 7 10), (0, .nameAndType 5 11), (0, u "([C)V"), (0, .methodref 7 13), (0, .nameAndType 14 15), (0, u "valueOf"), (0, u "(C)Ljava/lang/String;"), (0, .integer 2147483647), (0, .methodref 18 19), (0, .class_ 20), (0, .nameAndType 21 22), (0, u "org/semfolio/ElementHasAttributePinLaw"), (0, u "str"), (0, u "(I)Ljava/lang/String;"), (0, .methodref 18 24), (0, .nameAndType 25 26), (0, u "put"), (0, u "([Ljava/lang/String;ILjava/lang/String;Ljava/lang/String;)V"), (0, .class_ 28), (0, u "org/semfolio/Dom$Element"), (0, .methodref 27 30), (0, .nameAndType 5 31), (0, u "(Ljava/lang/String;Ljava/lang/String;[Ljava/lang/String;)V"), (0, .methodref 7 33), (0, .nameAndType 34 35), (0, u "equals"), (0, u "(Ljava/lang/Object;)Z"), (0, .methodref 27 37), (0, .nameAndType 38 39), (0, u "hasAttribute"), (0, u "(Ljava/lang/String;)Z"), (3, u "law"), (0, u "(IIIIIJ)Z")] 8

def k1m0 : Method := { name := "<init>", desc := "()V", sig := { parameters := [], returnType := none }, accessFlags := 2, code := none }
def k1c1 : Code := { maxStack := 6, maxLocals := 4, code := method_2_code, exceptionTable := #[], attributes := #[] }
def k1m1 : Method := { name := "str", desc := "(I)Ljava/lang/String;", sig := { parameters := [.int], returnType := some (.object "java/lang/String") }, accessFlags := 10, code := some k1c1 }
def k1c2 : Code := { maxStack := 3, maxLocals := 4, code := method_3_code, exceptionTable := #[], attributes := #[] }
def k1m2 : Method := { name := "put", desc := "([Ljava/lang/String;ILjava/lang/String;Ljava/lang/String;)V", sig := { parameters := [(.array (.object "java/lang/String")), .int, (.object "java/lang/String"), (.object "java/lang/String")], returnType := none }, accessFlags := 10, code := some k1c2 }
def k1c3 : Code := { maxStack := 5, maxLocals := 18, code := code, exceptionTable := #[], attributes := #[] }
def k1m3 : Method := { name := "law", desc := "(IIIIIJ)Z", sig := { parameters := [.int, .int, .int, .int, .int, .long], returnType := some .boolean }, accessFlags := 9, code := some k1c3 }
/-- org/semfolio/ElementHasAttributePinLaw -/
def k1 : Class := { plain "org/semfolio/ElementHasAttributePinLaw" (some 0) with
  accessFlags := 49
  interfaces := #[]
  cf := some (fileOf pool1 18 #[] #[{ accessFlags := 2, nameIndex := 5, descriptorIndex := 6, attributes := #[] }, { accessFlags := 10, nameIndex := 21, descriptorIndex := 22, attributes := #[] }, { accessFlags := 10, nameIndex := 25, descriptorIndex := 26, attributes := #[] }, { accessFlags := 9, nameIndex := 43, descriptorIndex := 44, attributes := #[] }] 49 2 #[] #[])
  fields := #[]
  methods := #[k1m0, k1m1, k1m2, k1m3]
  instanceTypes := #[]
  staticTypes := #[]
  resolved := Array.replicate 53 none
  statics := none }

def pool2 : Array CpInfo := pool [(1, .class_ 2), (0, u "java/io/Serializable"), (0, .class_ 4), (0, u "java/lang/Object")] 2

/-- java/io/Serializable -/
def k2 : Class := { plain "java/io/Serializable" (some 0) with
  accessFlags := 1537
  interfaces := #[]
  cf := some (fileOf pool2 1 #[] #[] 1537 3 #[] #[])
  fields := #[]
  methods := #[]
  instanceTypes := #[]
  staticTypes := #[]
  resolved := Array.replicate 7 none
  statics := none }

def pool3 : Array CpInfo := pool [(1, .class_ 2), (0, u "java/lang/Comparable"), (0, .class_ 4), (0, u "java/lang/Object")] 7

/-- java/lang/Comparable -/
def k3 : Class := { plain "java/lang/Comparable" (some 0) with
  accessFlags := 1537
  interfaces := #[]
  cf := some (fileOf pool3 1 #[] #[] 1537 3 #[] #[])
  fields := #[]
  methods := #[]
  instanceTypes := #[]
  staticTypes := #[]
  resolved := Array.replicate 12 none
  statics := none }

def pool4 : Array CpInfo := pool [(2, .class_ 4), (1, u "java/lang/CharSequence"), (42, .class_ 48), (0, u "java/lang/CharSequence$1CodePointIterator"), (10, .class_ 60), (0, u "java/lang/CharSequence$1CharIterator"), (5, .class_ 67), (0, u "java/lang/Object")] 63

/-- java/lang/CharSequence -/
def k4 : Class := { plain "java/lang/CharSequence" (some 0) with
  accessFlags := 1537
  interfaces := #[]
  cf := some (fileOf pool4 2 #[.nestMembers #[47, 59]] #[] 1537 66 #[] #[])
  fields := #[]
  methods := #[]
  instanceTypes := #[]
  staticTypes := #[]
  resolved := Array.replicate 131 none
  statics := none }

def pool5 : Array CpInfo := pool [(1, .class_ 2), (0, u "java/lang/constant/Constable"), (0, .class_ 4), (0, u "java/lang/Object")] 6

/-- java/lang/constant/Constable -/
def k5 : Class := { plain "java/lang/constant/Constable" (some 0) with
  accessFlags := 1537
  interfaces := #[]
  cf := some (fileOf pool5 1 #[] #[] 1537 3 #[] #[])
  fields := #[]
  methods := #[]
  instanceTypes := #[]
  staticTypes := #[]
  resolved := Array.replicate 11 none
  statics := none }

def pool6 : Array CpInfo := pool [(1, .class_ 2), (0, u "java/lang/constant/ConstantDesc"), (0, .class_ 4), (0, u "java/lang/Object")] 32

/-- java/lang/constant/ConstantDesc -/
def k6 : Class := { plain "java/lang/constant/ConstantDesc" (some 0) with
  accessFlags := 1537
  interfaces := #[]
  cf := some (fileOf pool6 1 #[] #[] 1537 3 #[] #[])
  fields := #[]
  methods := #[]
  instanceTypes := #[]
  staticTypes := #[]
  resolved := Array.replicate 37 none
  statics := none }

def pool7 : Array CpInfo := pool [(1, .methodref 2 3), (0, .class_ 4), (0, .nameAndType 5 6), (0, u "java/lang/Object"), (0, u "<init>"), (0, u "()V"), (0, .string 8), (0, u ""), (0, .fieldref 10 11), (0, .class_ 12), (0, .nameAndType 13 14), (0, u "java/lang/String"), (0, u "value"), (0, u "[B"), (0, .fieldref 10 16), (0, .nameAndType 17 18), (0, u "coder"), (0, u "B"), (2, u "hash"), (0, u "I"), (2, u "hashIsZero"), (0, u "Z"), (0, .methodref 10 28), (0, .nameAndType 5 29), (0, u "([CIILjava/lang/Void;)V"), (8, .fieldref 10 39), (0, .nameAndType 40 26), (0, u "COMPACT_STRINGS"), (1, .class_ 44), (1, u "java/lang/StringUTF16"), (0, u "compress"), (1, .methodref 42 48), (0, .nameAndType 49 50), (0, u "coderFromArrayLen"), (0, u "([BI)B"), (2, u "toBytes"), (53, .class_ 109), (1, u "java/lang/StringLatin1"), (67, .methodref 42 178), (0, .nameAndType 45 179), (0, u "([CII)[B"), (29, .methodref 10 210), (0, .nameAndType 5 211), (0, u "([BB)V"), (157, u "(C)Z"), (171, .methodref 107 542), (0, .nameAndType 543 544), (0, u "equals"), (0, u "([B[B)Z"), (28, u "(Ljava/lang/Object;)Z"), (1, .class_ 576), (0, u "java/lang/CharSequence"), (22, u "CASE_INSENSITIVE_ORDER"), (0, u "Ljava/util/Comparator;"), (181, u "valueOf"), (0, u "(C)Ljava/lang/String;"), (226, u "([C)V"), (4, .methodref 107 1016), (0, .nameAndType 1017 369), (0, u "canEncode"), (0, .methodref 107 1019), (0, .nameAndType 53 1020), (0, u "(C)[B"), (80, u "serialPersistentFields"), (0, u "[Ljava/io/ObjectStreamField;"), (0, .class_ 1104), (0, u "java/lang/String$CaseInsensitiveComparator"), (1, .class_ 1107), (0, u "java/io/Serializable"), (0, .class_ 1109), (0, u "java/lang/Comparable"), (0, .class_ 1111), (0, u "java/lang/constant/Constable"), (0, .class_ 1113), (0, u "java/lang/constant/ConstantDesc"), (2, u "serialVersionUID"), (0, u "J"), (3, u "REPL"), (0, u "C"), (2, u "LATIN1"), (1, u "UTF16")] 323

def k7m0 : Method := { name := "<init>", desc := "()V", sig := { parameters := [], returnType := none }, accessFlags := 1, code := none }
def k7c1 : Code := { maxStack := 5, maxLocals := 2, code := jdk_42_method_3_code, exceptionTable := #[], attributes := #[] }
def k7m1 : Method := { name := "<init>", desc := "([C)V", sig := { parameters := [(.array .char)], returnType := none }, accessFlags := 1, code := some k7c1 }
def k7c2 : Code := { maxStack := 2, maxLocals := 3, code := jdk_42_method_66_code, exceptionTable := #[], attributes := #[] }
def k7m2 : Method := { name := "equals", desc := "(Ljava/lang/Object;)Z", sig := { parameters := [(.object "java/lang/Object")], returnType := some .boolean }, accessFlags := 1, code := some k7c2 }
def k7c3 : Code := { maxStack := 4, maxLocals := 1, code := jdk_42_method_139_code, exceptionTable := #[], attributes := #[] }
def k7m3 : Method := { name := "valueOf", desc := "(C)Ljava/lang/String;", sig := { parameters := [.char], returnType := some (.object "java/lang/String") }, accessFlags := 9, code := some k7c3 }
def k7c4 : Code := { maxStack := 4, maxLocals := 6, code := jdk_42_method_149_code, exceptionTable := #[], attributes := #[] }
def k7m4 : Method := { name := "<init>", desc := "([CIILjava/lang/Void;)V", sig := { parameters := [(.array .char), .int, .int, (.object "java/lang/Void")], returnType := none }, accessFlags := 2, code := some k7c4 }
def k7c5 : Code := { maxStack := 2, maxLocals := 3, code := jdk_42_method_151_code, exceptionTable := #[], attributes := #[] }
def k7m5 : Method := { name := "<init>", desc := "([BB)V", sig := { parameters := [(.array .byte), .byte], returnType := none }, accessFlags := 0, code := some k7c5 }
/-- java/lang/String -/
def k7 : Class := { plain "java/lang/String" (some 0) with
  accessFlags := 49
  interfaces := #[2, 3, 4, 5, 6]
  cf := some (fileOf pool7 10 #[.nestMembers #[1103]] #[{ accessFlags := 1, nameIndex := 5, descriptorIndex := 6, attributes := #[] }, { accessFlags := 1, nameIndex := 5, descriptorIndex := 1010, attributes := #[] }, { accessFlags := 1, nameIndex := 543, descriptorIndex := 573, attributes := #[] }, { accessFlags := 9, nameIndex := 782, descriptorIndex := 783, attributes := #[] }, { accessFlags := 2, nameIndex := 5, descriptorIndex := 29, attributes := #[] }, { accessFlags := 0, nameIndex := 5, descriptorIndex := 211, attributes := #[] }] 49 2 #[1106, 1108, 575, 1110, 1112] #[{ accessFlags := 18, nameIndex := 13, descriptorIndex := 14, attributes := #[] }, { accessFlags := 18, nameIndex := 17, descriptorIndex := 18, attributes := #[] }, { accessFlags := 2, nameIndex := 21, descriptorIndex := 22, attributes := #[] }, { accessFlags := 2, nameIndex := 25, descriptorIndex := 26, attributes := #[] }, { accessFlags := 26, nameIndex := 1116, descriptorIndex := 1117, attributes := #[] }, { accessFlags := 24, nameIndex := 40, descriptorIndex := 26, attributes := #[] }, { accessFlags := 26, nameIndex := 1101, descriptorIndex := 1102, attributes := #[] }, { accessFlags := 26, nameIndex := 1121, descriptorIndex := 1122, attributes := #[] }, { accessFlags := 25, nameIndex := 599, descriptorIndex := 600, attributes := #[] }, { accessFlags := 24, nameIndex := 1125, descriptorIndex := 18, attributes := #[] }, { accessFlags := 24, nameIndex := 1127, descriptorIndex := 18, attributes := #[] }])
  fields := #[{ name := "value", type := (.array .byte), accessFlags := 18, slot := 0, constantValue := 0 }, { name := "coder", type := .byte, accessFlags := 18, slot := 1, constantValue := 0 }, { name := "hash", type := .int, accessFlags := 2, slot := 2, constantValue := 0 }, { name := "hashIsZero", type := .boolean, accessFlags := 2, slot := 3, constantValue := 0 }, { name := "serialVersionUID", type := .long, accessFlags := 26, slot := 0, constantValue := 0 }, { name := "COMPACT_STRINGS", type := .boolean, accessFlags := 24, slot := 1, constantValue := 0 }, { name := "serialPersistentFields", type := (.array (.object "java/io/ObjectStreamField")), accessFlags := 26, slot := 2, constantValue := 0 }, { name := "REPL", type := .char, accessFlags := 26, slot := 3, constantValue := 0 }, { name := "CASE_INSENSITIVE_ORDER", type := (.object "java/util/Comparator"), accessFlags := 25, slot := 4, constantValue := 0 }, { name := "LATIN1", type := .byte, accessFlags := 24, slot := 5, constantValue := 0 }, { name := "UTF16", type := .byte, accessFlags := 24, slot := 6, constantValue := 0 }]
  methods := #[k7m0, k7m1, k7m2, k7m3, k7m4, k7m5]
  instanceTypes := #[(.array .byte), .byte, .int, .boolean]
  staticTypes := #[.long, .boolean, (.array (.object "java/io/ObjectStreamField")), .char, (.object "java/util/Comparator"), .byte, .byte]
  resolved := Array.replicate 1451 none
  statics := some 0 }

def pool8 : Array CpInfo := pool [(1, .methodref 2 3), (0, .class_ 4), (0, .nameAndType 5 6), (0, u "java/lang/Object"), (0, u "<init>"), (0, u "()V"), (1, .class_ 10), (1, u "org/semfolio/Dom$Node"), (0, u "parent"), (0, u "Lorg/semfolio/Dom$Element;"), (2, u "nextSibling"), (0, u "Lorg/semfolio/Dom$Node;"), (8, .class_ 26), (0, u "org/semfolio/Dom")] 9

def k8c0 : Code := { maxStack := 1, maxLocals := 1, code := prog_17_method_1_code, exceptionTable := #[], attributes := #[] }
def k8m0 : Method := { name := "<init>", desc := "()V", sig := { parameters := [], returnType := none }, accessFlags := 0, code := some k8c0 }
/-- org/semfolio/Dom$Node -/
def k8 : Class := { plain "org/semfolio/Dom$Node" (some 0) with
  accessFlags := 1056
  interfaces := #[]
  cf := some (fileOf pool8 8 #[.nestHost 25] #[{ accessFlags := 0, nameIndex := 5, descriptorIndex := 6, attributes := #[] }] 1056 2 #[] #[{ accessFlags := 2, nameIndex := 11, descriptorIndex := 12, attributes := #[] }, { accessFlags := 2, nameIndex := 15, descriptorIndex := 16, attributes := #[] }])
  fields := #[{ name := "parent", type := (.object "org/semfolio/Dom$Element"), accessFlags := 2, slot := 0, constantValue := 0 }, { name := "nextSibling", type := (.object "org/semfolio/Dom$Node"), accessFlags := 2, slot := 1, constantValue := 0 }]
  methods := #[k8m0]
  instanceTypes := #[(.object "org/semfolio/Dom$Element"), (.object "org/semfolio/Dom$Node")]
  staticTypes := #[]
  resolved := Array.replicate 36 none
  statics := none }

def pool9 : Array CpInfo := pool [(1, .methodref 2 3), (0, .class_ 4), (0, .nameAndType 5 6), (0, u "org/semfolio/Dom$Node"), (0, u "<init>"), (0, u "()V"), (0, .fieldref 8 9), (0, .class_ 10), (0, .nameAndType 11 12), (0, u "org/semfolio/Dom$Element"), (0, u "name"), (0, u "Ljava/lang/String;"), (0, .fieldref 8 14), (0, .nameAndType 15 12), (0, u "qualifiedName"), (0, .fieldref 8 17), (0, .nameAndType 18 19), (0, u "attributes"), (0, u "[Ljava/lang/String;"), (0, .methodref 8 21), (0, .nameAndType 22 23), (0, u "find"), (0, u "(Ljava/lang/String;)I"), (2, .methodref 27 28), (0, .class_ 29), (0, .nameAndType 30 31), (0, u "java/lang/String"), (0, u "equals"), (0, u "(Ljava/lang/Object;)Z"), (2, u "firstChild"), (0, u "Lorg/semfolio/Dom$Node;"), (6, u "lastChild"), (3, u "(Ljava/lang/String;Ljava/lang/String;[Ljava/lang/String;)V"), (7, u "hasAttribute"), (0, u "(Ljava/lang/String;)Z"), (6, .class_ 63), (0, u "org/semfolio/Dom")] 3

def k9c0 : Code := { maxStack := 2, maxLocals := 4, code := prog_16_method_1_code, exceptionTable := #[], attributes := #[] }
def k9m0 : Method := { name := "<init>", desc := "(Ljava/lang/String;Ljava/lang/String;[Ljava/lang/String;)V", sig := { parameters := [(.object "java/lang/String"), (.object "java/lang/String"), (.array (.object "java/lang/String"))], returnType := none }, accessFlags := 0, code := some k9c0 }
def k9c1 : Code := { maxStack := 2, maxLocals := 2, code := prog_16_method_6_code, exceptionTable := #[], attributes := #[] }
def k9m1 : Method := { name := "hasAttribute", desc := "(Ljava/lang/String;)Z", sig := { parameters := [(.object "java/lang/String")], returnType := some .boolean }, accessFlags := 0, code := some k9c1 }
def k9c2 : Code := { maxStack := 3, maxLocals := 3, code := prog_16_method_7_code, exceptionTable := #[], attributes := #[] }
def k9m2 : Method := { name := "find", desc := "(Ljava/lang/String;)I", sig := { parameters := [(.object "java/lang/String")], returnType := some .int }, accessFlags := 2, code := some k9c2 }
/-- org/semfolio/Dom$Element -/
def k9 : Class := { plain "org/semfolio/Dom$Element" (some 8) with
  accessFlags := 48
  interfaces := #[]
  cf := some (fileOf pool9 8 #[.nestHost 62] #[{ accessFlags := 0, nameIndex := 5, descriptorIndex := 46, attributes := #[] }, { accessFlags := 0, nameIndex := 54, descriptorIndex := 55, attributes := #[] }, { accessFlags := 2, nameIndex := 22, descriptorIndex := 23, attributes := #[] }] 48 2 #[] #[{ accessFlags := 18, nameIndex := 11, descriptorIndex := 12, attributes := #[] }, { accessFlags := 18, nameIndex := 15, descriptorIndex := 12, attributes := #[] }, { accessFlags := 18, nameIndex := 18, descriptorIndex := 19, attributes := #[] }, { accessFlags := 2, nameIndex := 34, descriptorIndex := 35, attributes := #[] }, { accessFlags := 2, nameIndex := 42, descriptorIndex := 35, attributes := #[] }])
  fields := #[{ name := "name", type := (.object "java/lang/String"), accessFlags := 18, slot := 2, constantValue := 0 }, { name := "qualifiedName", type := (.object "java/lang/String"), accessFlags := 18, slot := 3, constantValue := 0 }, { name := "attributes", type := (.array (.object "java/lang/String")), accessFlags := 18, slot := 4, constantValue := 0 }, { name := "firstChild", type := (.object "org/semfolio/Dom$Node"), accessFlags := 2, slot := 5, constantValue := 0 }, { name := "lastChild", type := (.object "org/semfolio/Dom$Node"), accessFlags := 2, slot := 6, constantValue := 0 }]
  methods := #[k9m0, k9m1, k9m2]
  instanceTypes := #[(.object "org/semfolio/Dom$Element"), (.object "org/semfolio/Dom$Node"), (.object "java/lang/String"), (.object "java/lang/String"), (.array (.object "java/lang/String")), (.object "org/semfolio/Dom$Node"), (.object "org/semfolio/Dom$Node")]
  staticTypes := #[]
  resolved := Array.replicate 67 none
  statics := none }

def pool10 : Array CpInfo := pool [(4, .class_ 6), (1, u "java/lang/Object"), (0, u "<init>"), (0, u "()V"), (5, .class_ 16), (1, u "java/lang/StringLatin1"), (73, u "canEncode"), (14, u "(C)Z"), (15, u "$assertionsDisabled"), (0, u "Z"), (98, .class_ 223), (1, u "java/lang/StringLatin1$LinesSpliterator"), (57, u "equals"), (0, u "([B[B)Z"), (97, u "toBytes"), (1, u "(C)[B"), (7, .class_ 391), (0, u "java/lang/StringLatin1$CharsSpliterator")] 3

def k10m0 : Method := { name := "<init>", desc := "()V", sig := { parameters := [], returnType := none }, accessFlags := 0, code := none }
def k10c1 : Code := { maxStack := 2, maxLocals := 1, code := jdk_43_method_3_code, exceptionTable := #[], attributes := #[] }
def k10m1 : Method := { name := "canEncode", desc := "(C)Z", sig := { parameters := [.char], returnType := some .boolean }, accessFlags := 9, code := some k10c1 }
def k10c2 : Code := { maxStack := 3, maxLocals := 3, code := jdk_43_method_13_code, exceptionTable := #[], attributes := #[] }
def k10m2 : Method := { name := "equals", desc := "([B[B)Z", sig := { parameters := [(.array .byte), (.array .byte)], returnType := some .boolean }, accessFlags := 9, code := some k10c2 }
def k10c3 : Code := { maxStack := 4, maxLocals := 1, code := jdk_43_method_46_code, exceptionTable := #[], attributes := #[] }
def k10m3 : Method := { name := "toBytes", desc := "(C)[B", sig := { parameters := [.char], returnType := some (.array .byte) }, accessFlags := 9, code := some k10c3 }
/-- java/lang/StringLatin1 -/
def k10 : Class := { plain "java/lang/StringLatin1" (some 0) with
  accessFlags := 48
  interfaces := #[]
  cf := some (fileOf pool10 14 #[.nestMembers #[390, 221]] #[{ accessFlags := 0, nameIndex := 7, descriptorIndex := 8, attributes := #[] }, { accessFlags := 9, nameIndex := 90, descriptorIndex := 105, attributes := #[] }, { accessFlags := 9, nameIndex := 281, descriptorIndex := 282, attributes := #[] }, { accessFlags := 9, nameIndex := 380, descriptorIndex := 382, attributes := #[] }] 48 4 #[] #[{ accessFlags := 4120, nameIndex := 121, descriptorIndex := 122, attributes := #[] }])
  fields := #[{ name := "$assertionsDisabled", type := .boolean, accessFlags := 4120, slot := 0, constantValue := 0 }]
  methods := #[k10m0, k10m1, k10m2, k10m3]
  instanceTypes := #[]
  staticTypes := #[.boolean]
  resolved := Array.replicate 395 none
  statics := none }

def pool11 : Array CpInfo := pool [(6, .class_ 8), (1, u "java/lang/Object"), (0, u "<init>"), (0, u "()V"), (1, .class_ 14), (1, u "java/lang/StringUTF16"), (31, u "$assertionsDisabled"), (0, u "Z"), (13, u "HI_BYTE_SHIFT"), (0, u "I"), (2, u "LO_BYTE_SHIFT"), (49, .methodref 12 116), (0, .nameAndType 117 118), (0, u "compress"), (0, u "([CI[BII)I"), (3, u "([CII)[B"), (138, u "coderFromArrayLen"), (0, u "([BI)B"), (106, .class_ 371), (1, u "java/lang/StringUTF16$LinesSpliterator"), (58, u "MAX_LENGTH"), (196, .class_ 628), (0, u "java/lang/StringUTF16$CodePointsSpliterator"), (0, .class_ 630), (0, u "java/lang/StringUTF16$CharsSpliterator")] 4

def k11m0 : Method := { name := "<init>", desc := "()V", sig := { parameters := [], returnType := none }, accessFlags := 0, code := none }
def k11c1 : Code := { maxStack := 2, maxLocals := 2, code := jdk_52_method_15_code, exceptionTable := #[], attributes := #[] }
def k11m1 : Method := { name := "coderFromArrayLen", desc := "([BI)B", sig := { parameters := [(.array .byte), .int], returnType := some .byte }, accessFlags := 8, code := some k11c1 }
def k11c2 : Code := { maxStack := 5, maxLocals := 6, code := jdk_52_method_16_code, exceptionTable := #[], attributes := #[] }
def k11m2 : Method := { name := "compress", desc := "([CII)[B", sig := { parameters := [(.array .char), .int, .int], returnType := some (.array .byte) }, accessFlags := 9, code := some k11c2 }
def k11c3 : Code := { maxStack := 3, maxLocals := 7, code := jdk_52_method_21_code, exceptionTable := #[], attributes := #[] }
def k11m3 : Method := { name := "compress", desc := "([CI[BII)I", sig := { parameters := [(.array .char), .int, (.array .byte), .int, .int], returnType := some .int }, accessFlags := 9, code := some k11c3 }
/-- java/lang/StringUTF16 -/
def k11 : Class := { plain "java/lang/StringUTF16" (some 0) with
  accessFlags := 48
  interfaces := #[]
  cf := some (fileOf pool11 12 #[.nestMembers #[627, 629, 369]] #[{ accessFlags := 0, nameIndex := 9, descriptorIndex := 10, attributes := #[] }, { accessFlags := 8, nameIndex := 261, descriptorIndex := 262, attributes := #[] }, { accessFlags := 9, nameIndex := 117, descriptorIndex := 122, attributes := #[] }, { accessFlags := 9, nameIndex := 117, descriptorIndex := 118, attributes := #[] }] 48 6 #[] #[{ accessFlags := 26, nameIndex := 61, descriptorIndex := 62, attributes := #[] }, { accessFlags := 26, nameIndex := 65, descriptorIndex := 62, attributes := #[] }, { accessFlags := 24, nameIndex := 430, descriptorIndex := 62, attributes := #[] }, { accessFlags := 4120, nameIndex := 46, descriptorIndex := 47, attributes := #[] }])
  fields := #[{ name := "HI_BYTE_SHIFT", type := .int, accessFlags := 26, slot := 0, constantValue := 0 }, { name := "LO_BYTE_SHIFT", type := .int, accessFlags := 26, slot := 1, constantValue := 0 }, { name := "MAX_LENGTH", type := .int, accessFlags := 24, slot := 2, constantValue := 0 }, { name := "$assertionsDisabled", type := .boolean, accessFlags := 4120, slot := 3, constantValue := 0 }]
  methods := #[k11m0, k11m1, k11m2, k11m3]
  instanceTypes := #[]
  staticTypes := #[.int, .int, .int, .boolean]
  resolved := Array.replicate 635 none
  statics := none }

def pool12 : Array CpInfo := pool [(2, .class_ 4), (1, u "java/lang/Object"), (0, u "<init>"), (0, u "()V"), (17, .class_ 26), (1, u "jdk/internal/util/Preconditions"), (28, .class_ 56), (0, u "jdk/internal/util/Preconditions$4"), (57, .class_ 115), (0, u "jdk/internal/util/Preconditions$1"), (7, u "SIOOBE_FORMATTER"), (0, u "Ljava/util/function/BiFunction;"), (0, .class_ 126), (0, u "jdk/internal/util/Preconditions$2"), (3, u "AIOOBE_FORMATTER"), (0, .class_ 132), (0, u "jdk/internal/util/Preconditions$3"), (3, u "IOOBE_FORMATTER")] 57

def k12m0 : Method := { name := "<init>", desc := "()V", sig := { parameters := [], returnType := none }, accessFlags := 1, code := none }
/-- jdk/internal/util/Preconditions -/
def k12 : Class := { plain "jdk/internal/util/Preconditions" (some 0) with
  accessFlags := 33
  interfaces := #[]
  cf := some (fileOf pool12 24 #[.nestMembers #[55, 131, 125, 114]] #[{ accessFlags := 1, nameIndex := 5, descriptorIndex := 6, attributes := #[] }] 33 2 #[] #[{ accessFlags := 25, nameIndex := 123, descriptorIndex := 124, attributes := #[] }, { accessFlags := 25, nameIndex := 130, descriptorIndex := 124, attributes := #[] }, { accessFlags := 25, nameIndex := 136, descriptorIndex := 124, attributes := #[] }])
  fields := #[{ name := "SIOOBE_FORMATTER", type := (.object "java/util/function/BiFunction"), accessFlags := 25, slot := 0, constantValue := 0 }, { name := "AIOOBE_FORMATTER", type := (.object "java/util/function/BiFunction"), accessFlags := 25, slot := 1, constantValue := 0 }, { name := "IOOBE_FORMATTER", type := (.object "java/util/function/BiFunction"), accessFlags := 25, slot := 2, constantValue := 0 }]
  methods := #[k12m0]
  instanceTypes := #[]
  staticTypes := #[(.object "java/util/function/BiFunction"), (.object "java/util/function/BiFunction"), (.object "java/util/function/BiFunction")]
  resolved := Array.replicate 194 none
  statics := some 1 }

def pool13 : Array CpInfo := pool [(9, u "<init>"), (6, .class_ 18), (1, u "java/lang/Object"), (0, u "()V"), (1, .class_ 23), (1, u "jdk/internal/util/ArraysSupport"), (0, u "LOG2_ARRAY_LONG_INDEX_SCALE"), (0, u "I"), (2, u "U"), (0, u "Ljdk/internal/misc/Unsafe;"), (8, u "BIG_ENDIAN"), (0, u "Z"), (8, u "LOG2_BYTE_BIT_SIZE"), (4, u "LOG2_ARRAY_INT_INDEX_SCALE"), (54, u "JLA"), (0, u "Ljdk/internal/access/JavaLangAccess;"), (11, u "LOG2_ARRAY_BOOLEAN_INDEX_SCALE"), (9, u "LOG2_ARRAY_BYTE_INDEX_SCALE"), (5, u "LOG2_ARRAY_CHAR_INDEX_SCALE"), (5, u "LOG2_ARRAY_SHORT_INDEX_SCALE"), (18, u "LOG2_ARRAY_FLOAT_INDEX_SCALE"), (24, u "LOG2_ARRAY_DOUBLE_INDEX_SCALE"), (89, u "T_BOOLEAN"), (2, u "T_CHAR"), (1, u "T_FLOAT"), (1, u "T_DOUBLE"), (1, u "T_BYTE"), (1, u "T_SHORT"), (1, u "T_INT"), (1, u "T_LONG"), (1, u "SOFT_MAX_ARRAY_LENGTH")] 83

def k13m0 : Method := { name := "<init>", desc := "()V", sig := { parameters := [], returnType := none }, accessFlags := 2, code := none }
/-- jdk/internal/util/ArraysSupport -/
def k13 : Class := { plain "jdk/internal/util/ArraysSupport" (some 0) with
  accessFlags := 33
  interfaces := #[]
  cf := some (fileOf pool13 21 #[] #[{ accessFlags := 2, nameIndex := 9, descriptorIndex := 19, attributes := #[] }] 33 16 #[] #[{ accessFlags := 24, nameIndex := 28, descriptorIndex := 29, attributes := #[] }, { accessFlags := 26, nameIndex := 38, descriptorIndex := 39, attributes := #[] }, { accessFlags := 25, nameIndex := 121, descriptorIndex := 25, attributes := #[] }, { accessFlags := 25, nameIndex := 131, descriptorIndex := 25, attributes := #[] }, { accessFlags := 25, nameIndex := 137, descriptorIndex := 25, attributes := #[] }, { accessFlags := 25, nameIndex := 143, descriptorIndex := 25, attributes := #[] }, { accessFlags := 25, nameIndex := 53, descriptorIndex := 25, attributes := #[] }, { accessFlags := 25, nameIndex := 24, descriptorIndex := 25, attributes := #[] }, { accessFlags := 25, nameIndex := 162, descriptorIndex := 25, attributes := #[] }, { accessFlags := 25, nameIndex := 187, descriptorIndex := 25, attributes := #[] }, { accessFlags := 26, nameIndex := 48, descriptorIndex := 25, attributes := #[] }, { accessFlags := 25, nameIndex := 277, descriptorIndex := 25, attributes := #[] }, { accessFlags := 25, nameIndex := 280, descriptorIndex := 25, attributes := #[] }, { accessFlags := 25, nameIndex := 282, descriptorIndex := 25, attributes := #[] }, { accessFlags := 25, nameIndex := 284, descriptorIndex := 25, attributes := #[] }, { accessFlags := 25, nameIndex := 286, descriptorIndex := 25, attributes := #[] }, { accessFlags := 25, nameIndex := 288, descriptorIndex := 25, attributes := #[] }, { accessFlags := 25, nameIndex := 290, descriptorIndex := 25, attributes := #[] }, { accessFlags := 25, nameIndex := 292, descriptorIndex := 25, attributes := #[] }, { accessFlags := 26, nameIndex := 108, descriptorIndex := 109, attributes := #[] }, { accessFlags := 25, nameIndex := 294, descriptorIndex := 25, attributes := #[] }])
  fields := #[{ name := "U", type := (.object "jdk/internal/misc/Unsafe"), accessFlags := 24, slot := 0, constantValue := 0 }, { name := "BIG_ENDIAN", type := .boolean, accessFlags := 26, slot := 1, constantValue := 0 }, { name := "LOG2_ARRAY_BOOLEAN_INDEX_SCALE", type := .int, accessFlags := 25, slot := 2, constantValue := 0 }, { name := "LOG2_ARRAY_BYTE_INDEX_SCALE", type := .int, accessFlags := 25, slot := 3, constantValue := 0 }, { name := "LOG2_ARRAY_CHAR_INDEX_SCALE", type := .int, accessFlags := 25, slot := 4, constantValue := 0 }, { name := "LOG2_ARRAY_SHORT_INDEX_SCALE", type := .int, accessFlags := 25, slot := 5, constantValue := 0 }, { name := "LOG2_ARRAY_INT_INDEX_SCALE", type := .int, accessFlags := 25, slot := 6, constantValue := 0 }, { name := "LOG2_ARRAY_LONG_INDEX_SCALE", type := .int, accessFlags := 25, slot := 7, constantValue := 0 }, { name := "LOG2_ARRAY_FLOAT_INDEX_SCALE", type := .int, accessFlags := 25, slot := 8, constantValue := 0 }, { name := "LOG2_ARRAY_DOUBLE_INDEX_SCALE", type := .int, accessFlags := 25, slot := 9, constantValue := 0 }, { name := "LOG2_BYTE_BIT_SIZE", type := .int, accessFlags := 26, slot := 10, constantValue := 0 }, { name := "T_BOOLEAN", type := .int, accessFlags := 25, slot := 11, constantValue := 0 }, { name := "T_CHAR", type := .int, accessFlags := 25, slot := 12, constantValue := 0 }, { name := "T_FLOAT", type := .int, accessFlags := 25, slot := 13, constantValue := 0 }, { name := "T_DOUBLE", type := .int, accessFlags := 25, slot := 14, constantValue := 0 }, { name := "T_BYTE", type := .int, accessFlags := 25, slot := 15, constantValue := 0 }, { name := "T_SHORT", type := .int, accessFlags := 25, slot := 16, constantValue := 0 }, { name := "T_INT", type := .int, accessFlags := 25, slot := 17, constantValue := 0 }, { name := "T_LONG", type := .int, accessFlags := 25, slot := 18, constantValue := 0 }, { name := "JLA", type := (.object "jdk/internal/access/JavaLangAccess"), accessFlags := 26, slot := 19, constantValue := 0 }, { name := "SOFT_MAX_ARRAY_LENGTH", type := .int, accessFlags := 25, slot := 20, constantValue := 0 }]
  methods := #[k13m0]
  instanceTypes := #[]
  staticTypes := #[(.object "jdk/internal/misc/Unsafe"), .boolean, .int, .int, .int, .int, .int, .int, .int, .int, .int, .int, .int, .int, .int, .int, .int, .int, .int, (.object "jdk/internal/access/JavaLangAccess"), .int]
  resolved := Array.replicate 378 none
  statics := none }

def pool14 : Array CpInfo := pool [(1, u "java/lang/Cloneable"), (0, .class_ 1), (0, u "java/lang/Object"), (0, .class_ 3)] 3

/-- java/lang/Cloneable -/
def k14 : Class := { plain "java/lang/Cloneable" (some 0) with
  accessFlags := 1537
  interfaces := #[]
  cf := some (fileOf pool14 2 #[] #[] 1537 4 #[] #[])
  fields := #[]
  methods := #[]
  instanceTypes := #[]
  staticTypes := #[]
  resolved := Array.replicate 8 none
  statics := none }

/-- the primitive byte -/
def k15 : Class := { plain "byte" none with kind := .primitive 'B', accessFlags := 0x411 }
/-- [B -/
def k16 : Class := { plain "[B" (some 0) with kind := .array 15 .byte, interfaces := #[14, 2], accessFlags := 1041 }

/-- the primitive char -/
def k17 : Class := { plain "char" none with kind := .primitive 'C', accessFlags := 0x411 }
/-- [C -/
def k18 : Class := { plain "[C" (some 0) with kind := .array 17 .char, interfaces := #[14, 2], accessFlags := 1041 }

/-- the primitive int -/
def k19 : Class := { plain "int" none with kind := .primitive 'I', accessFlags := 0x411 }
/-- [I -/
def k20 : Class := { plain "[I" (some 0) with kind := .array 19 .int, interfaces := #[14, 2], accessFlags := 1041 }

/-- [Ljava/lang/String; -/
def k21 : Class := { plain "[Ljava/lang/String;" (some 0) with kind := .array 7 (.object "java/lang/String"), interfaces := #[14, 2], accessFlags := 1041 }

def heap : Heap := #[{ cls := 7, slots := #[.long 0, .int 1, .null, .int 0, .null, .int 0, .int 0], vm := .statics 7 },
  { cls := 12, slots := #[.null, .null, .null], vm := .statics 12 }]
def classes : Array Class := #[k0, k1, k2, k3, k4, k5, k6, k7, k8, k9, k10, k11, k12, k13, k14, k15, k16, k17, k18, k19, k20, k21]
def interned : List (Array UInt16 × Addr) := []
def slotsUsed : Nat := 10
def theMethod : MethodId := ⟨1, 3⟩
def args0 : Array Value := #[.int 5, .int 5, .int 5, .int 5, .int 5, .long 7]
def aboutOver (below : List Frame) : State where
  vm := { classes := classes, interned := interned.toArray }
  heap := heap
  slotsUsed := slotsUsed
  threads := #[{ frames := .invoking theMethod args0 :: below }]
def below0 : List Frame := [.native { method := ⟨0, 0⟩, args := #[] }]
def about1 : State := aboutOver below0
def p0 : Program := .bare "" "" ""
def e0 : Env := launch0.env 0 0 0
theorem w_frames : about1.frames = Frame.invoking theMethod args0 :: below0 := rfl
set_option maxRecDepth 65536 in
theorem w_args : argsFit about1.vm theMethod args0 = true := by decide +kernel
set_option maxRecDepth 65536 in
theorem w_heap : heapFits about1 = true := by decide +kernel
set_option maxRecDepth 65536 in
theorem w_runnable : about1.curStatus? = some .runnable := by decide +kernel
set_option maxRecDepth 65536 in
theorem w_alone : about1.alone = true := by decide +kernel
set_option maxRecDepth 65536 in
theorem w_named : about1.methodNamed? x = some theMethod := by decide +kernel
set_option maxRecDepth 65536 in
theorem w_hears : about1.hears theMethod below0 = true := by decide +kernel
set_option maxRecDepth 65536 in
theorem w_ripe : about1.ripe theMethod args0 below0 = true := by decide +kernel
theorem w_running : about1.status = .running := rfl
set_option maxRecDepth 65536 in
theorem w_room : about1.hasRoom e0.platform room_1 = true :=
  launch0.hasRoom_least _ room_1 (by decide +kernel) (by decide +kernel) (by decide +kernel) (by decide +kernel) (by decide +kernel) (by decide +kernel)
theorem allAtoms_all (ts : List Jvm.Cond) (a : Array Jvm.Value) (st : Jvm.State) : (allAtoms ts).before a st = ts.all (fun c => c.before a st) := by
  induction ts with
  | nil => rfl
  | cons c t ih =>
    show (Jvm.Cond.and c (allAtoms t)).before a st = _
    rw [Jvm.Cond.before_and, ih, List.all_cons]
def words1 : List Jvm.Cond := Jvm.Cond.code x code maxLocals ret :: tables_1
/-- a 'code' word, met by the world's own term for the bytes: nothing is compared byte by byte -/
theorem code_word {y : MethodName} {bytes : ByteArray} {mx : Nat} {rt : Option FieldType} {a : Array Value} {s : State} {m : MethodId} {meth : Method} {c : Code} (h1 : s.methodNamed? y = some m) (h2 : s.vm.method? m = some meth) (h3 : meth.code = some c) (h4 : c.code = bytes)
    (h5 : (c.maxLocals == mx && c.exceptionTable.isEmpty && decide (c.maxStack ≤ mostOperands) && decide (meth.sig.returnType = rt) && !meth.locks && decide (parseMethodDescriptor y.desc = some meth.sig)) = true) : (Jvm.Cond.code y bytes mx rt).before a s = true := by
  simp only [Bool.and_eq_true, beq_iff_eq, Bool.not_eq_true', decide_eq_true_eq] at h5
  obtain ⟨⟨⟨⟨⟨g1, g2⟩, g3⟩, g4⟩, g5⟩, g6⟩ := h5
  simp [Cond.before, Cond.holds, Cond.value, h1, h2, h3, h4, g1, g2, g3, g4, g5, g6]
def isCode : Jvm.Cond → Bool
  | .code _ _ _ _ => true
  | _ => false
theorem all_split {L : List Jvm.Cond} {P : Jvm.Cond → Bool} (h1 : L.all (fun c => isCode c || P c) = true) (h2 : ∀ c ∈ L.filter isCode, P c = true) : L.all P = true := by
  refine List.all_eq_true.mpr fun c hc => ?_
  have h := List.all_eq_true.mp h1 c hc
  rcases Bool.eq_false_or_eq_true (isCode c) with hi | hi
  · exact h2 c (List.mem_filter.mpr ⟨hc, hi⟩)
  · simpa [hi] using h
set_option maxRecDepth 65536 in
theorem w_c0 : (Jvm.Cond.code x code maxLocals ret).before args0 about1 = true := code_word (m := ⟨1, 3⟩) (meth := k1m3) (c := k1c3) (by decide +kernel) rfl rfl rfl (by decide +kernel)
set_option maxRecDepth 65536 in
theorem w_c1 : (Jvm.Cond.code ({ cls := "org/semfolio/ElementHasAttributePinLaw", name := "str", desc := "(I)Ljava/lang/String;" } : Jvm.MethodName) method_2_code (4 : Nat) (Option.some (Jvm.ClassFile.FieldType.object "java/lang/String"))).before args0 about1 = true := code_word (m := ⟨1, 1⟩) (meth := k1m1) (c := k1c1) (by decide +kernel) rfl rfl rfl (by decide +kernel)
set_option maxRecDepth 65536 in
theorem w_c2 : (Jvm.Cond.code ({ cls := "java/lang/String", name := "<init>", desc := "([C)V" } : Jvm.MethodName) jdk_42_method_3_code (2 : Nat) (Option.none : Option Jvm.ClassFile.FieldType)).before args0 about1 = true := code_word (m := ⟨7, 1⟩) (meth := k7m1) (c := k7c1) (by decide +kernel) rfl rfl rfl (by decide +kernel)
set_option maxRecDepth 65536 in
theorem w_c3 : (Jvm.Cond.code ({ cls := "java/lang/String", name := "<init>", desc := "([CIILjava/lang/Void;)V" } : Jvm.MethodName) jdk_42_method_149_code (6 : Nat) (Option.none : Option Jvm.ClassFile.FieldType)).before args0 about1 = true := code_word (m := ⟨7, 4⟩) (meth := k7m4) (c := k7c4) (by decide +kernel) rfl rfl rfl (by decide +kernel)
set_option maxRecDepth 65536 in
theorem w_c4 : (Jvm.Cond.code ({ cls := "java/lang/Object", name := "<init>", desc := "()V" } : Jvm.MethodName) object_method_1_code (1 : Nat) (Option.none : Option Jvm.ClassFile.FieldType)).before args0 about1 = true := code_word (m := ⟨0, 0⟩) (meth := k0m0) (c := k0c0) (by decide +kernel) rfl rfl rfl (by decide +kernel)
set_option maxRecDepth 65536 in
theorem w_c5 : (Jvm.Cond.code ({ cls := "org/semfolio/Dom$Element", name := "<init>", desc := "(Ljava/lang/String;Ljava/lang/String;[Ljava/lang/String;)V" } : Jvm.MethodName) prog_16_method_1_code (4 : Nat) (Option.none : Option Jvm.ClassFile.FieldType)).before args0 about1 = true := code_word (m := ⟨9, 0⟩) (meth := k9m0) (c := k9c0) (by decide +kernel) rfl rfl rfl (by decide +kernel)
set_option maxRecDepth 65536 in
theorem w_c6 : (Jvm.Cond.code ({ cls := "org/semfolio/Dom$Node", name := "<init>", desc := "()V" } : Jvm.MethodName) prog_17_method_1_code (1 : Nat) (Option.none : Option Jvm.ClassFile.FieldType)).before args0 about1 = true := code_word (m := ⟨8, 0⟩) (meth := k8m0) (c := k8c0) (by decide +kernel) rfl rfl rfl (by decide +kernel)
set_option maxRecDepth 65536 in
theorem w_c7 : (Jvm.Cond.code ({ cls := "org/semfolio/Dom$Element", name := "hasAttribute", desc := "(Ljava/lang/String;)Z" } : Jvm.MethodName) prog_16_method_6_code (2 : Nat) (Option.some Jvm.ClassFile.FieldType.boolean)).before args0 about1 = true := code_word (m := ⟨9, 1⟩) (meth := k9m1) (c := k9c1) (by decide +kernel) rfl rfl rfl (by decide +kernel)
set_option maxRecDepth 65536 in
theorem w_c8 : (Jvm.Cond.code ({ cls := "org/semfolio/Dom$Element", name := "find", desc := "(Ljava/lang/String;)I" } : Jvm.MethodName) prog_16_method_7_code (3 : Nat) (Option.some Jvm.ClassFile.FieldType.int)).before args0 about1 = true := code_word (m := ⟨9, 2⟩) (meth := k9m2) (c := k9c2) (by decide +kernel) rfl rfl rfl (by decide +kernel)
set_option maxRecDepth 65536 in
theorem w_c9 : (Jvm.Cond.code ({ cls := "org/semfolio/ElementHasAttributePinLaw", name := "put", desc := "([Ljava/lang/String;ILjava/lang/String;Ljava/lang/String;)V" } : Jvm.MethodName) method_3_code (4 : Nat) (Option.none : Option Jvm.ClassFile.FieldType)).before args0 about1 = true := code_word (m := ⟨1, 2⟩) (meth := k1m2) (c := k1c2) (by decide +kernel) rfl rfl rfl (by decide +kernel)
set_option maxRecDepth 65536 in
theorem w_c10 : (Jvm.Cond.code ({ cls := "java/lang/String", name := "equals", desc := "(Ljava/lang/Object;)Z" } : Jvm.MethodName) jdk_42_method_66_code (3 : Nat) (Option.some Jvm.ClassFile.FieldType.boolean)).before args0 about1 = true := code_word (m := ⟨7, 2⟩) (meth := k7m2) (c := k7c2) (by decide +kernel) rfl rfl rfl (by decide +kernel)
set_option maxRecDepth 65536 in
theorem w_c11 : (Jvm.Cond.code ({ cls := "java/lang/StringLatin1", name := "equals", desc := "([B[B)Z" } : Jvm.MethodName) jdk_43_method_13_code (3 : Nat) (Option.some Jvm.ClassFile.FieldType.boolean)).before args0 about1 = true := code_word (m := ⟨10, 2⟩) (meth := k10m2) (c := k10c2) (by decide +kernel) rfl rfl rfl (by decide +kernel)
set_option maxRecDepth 65536 in
theorem w_c12 : (Jvm.Cond.code ({ cls := "java/lang/StringUTF16", name := "compress", desc := "([CII)[B" } : Jvm.MethodName) jdk_52_method_16_code (6 : Nat) (Option.some (Jvm.ClassFile.FieldType.array Jvm.ClassFile.FieldType.byte))).before args0 about1 = true := code_word (m := ⟨11, 2⟩) (meth := k11m2) (c := k11c2) (by decide +kernel) rfl rfl rfl (by decide +kernel)
set_option maxRecDepth 65536 in
theorem w_c13 : (Jvm.Cond.code ({ cls := "java/lang/StringUTF16", name := "compress", desc := "([CI[BII)I" } : Jvm.MethodName) jdk_52_method_21_code (7 : Nat) (Option.some Jvm.ClassFile.FieldType.int)).before args0 about1 = true := code_word (m := ⟨11, 3⟩) (meth := k11m3) (c := k11c3) (by decide +kernel) rfl rfl rfl (by decide +kernel)
set_option maxRecDepth 65536 in
theorem w_c14 : (Jvm.Cond.code ({ cls := "java/lang/StringUTF16", name := "coderFromArrayLen", desc := "([BI)B" } : Jvm.MethodName) jdk_52_method_15_code (2 : Nat) (Option.some Jvm.ClassFile.FieldType.byte)).before args0 about1 = true := code_word (m := ⟨11, 1⟩) (meth := k11m1) (c := k11c1) (by decide +kernel) rfl rfl rfl (by decide +kernel)
set_option maxRecDepth 65536 in
theorem w_c15 : (Jvm.Cond.code ({ cls := "java/lang/String", name := "valueOf", desc := "(C)Ljava/lang/String;" } : Jvm.MethodName) jdk_42_method_139_code (1 : Nat) (Option.some (Jvm.ClassFile.FieldType.object "java/lang/String"))).before args0 about1 = true := code_word (m := ⟨7, 3⟩) (meth := k7m3) (c := k7c3) (by decide +kernel) rfl rfl rfl (by decide +kernel)
set_option maxRecDepth 65536 in
theorem w_c16 : (Jvm.Cond.code ({ cls := "java/lang/StringLatin1", name := "canEncode", desc := "(C)Z" } : Jvm.MethodName) jdk_43_method_3_code (1 : Nat) (Option.some Jvm.ClassFile.FieldType.boolean)).before args0 about1 = true := code_word (m := ⟨10, 1⟩) (meth := k10m1) (c := k10c1) (by decide +kernel) rfl rfl rfl (by decide +kernel)
set_option maxRecDepth 65536 in
theorem w_c17 : (Jvm.Cond.code ({ cls := "java/lang/StringLatin1", name := "toBytes", desc := "(C)[B" } : Jvm.MethodName) jdk_43_method_46_code (1 : Nat) (Option.some (Jvm.ClassFile.FieldType.array Jvm.ClassFile.FieldType.byte))).before args0 about1 = true := code_word (m := ⟨10, 3⟩) (meth := k10m3) (c := k10c3) (by decide +kernel) rfl rfl rfl (by decide +kernel)
set_option maxRecDepth 65536 in
theorem w_c18 : (Jvm.Cond.code ({ cls := "java/lang/String", name := "<init>", desc := "([BB)V" } : Jvm.MethodName) jdk_42_method_151_code (3 : Nat) (Option.none : Option Jvm.ClassFile.FieldType)).before args0 about1 = true := code_word (m := ⟨7, 5⟩) (meth := k7m5) (c := k7c5) (by decide +kernel) rfl rfl rfl (by decide +kernel)
def codes1 : List Jvm.Cond := [Jvm.Cond.code x code maxLocals ret, Jvm.Cond.code ({ cls := "org/semfolio/ElementHasAttributePinLaw", name := "str", desc := "(I)Ljava/lang/String;" } : Jvm.MethodName) method_2_code (4 : Nat) (Option.some (Jvm.ClassFile.FieldType.object "java/lang/String")), Jvm.Cond.code ({ cls := "java/lang/String", name := "<init>", desc := "([C)V" } : Jvm.MethodName) jdk_42_method_3_code (2 : Nat) (Option.none : Option Jvm.ClassFile.FieldType), Jvm.Cond.code ({ cls := "java/lang/String", name := "<init>", desc := "([CIILjava/lang/Void;)V" } : Jvm.MethodName) jdk_42_method_149_code (6 : Nat) (Option.none : Option Jvm.ClassFile.FieldType), Jvm.Cond.code ({ cls := "java/lang/Object", name := "<init>", desc := "()V" } : Jvm.MethodName) object_method_1_code (1 : Nat) (Option.none : Option Jvm.ClassFile.FieldType), Jvm.Cond.code ({ cls := "org/semfolio/Dom$Element", name := "<init>", desc := "(Ljava/lang/String;Ljava/lang/String;[Ljava/lang/String;)V" } : Jvm.MethodName) prog_16_method_1_code (4 : Nat) (Option.none : Option Jvm.ClassFile.FieldType), Jvm.Cond.code ({ cls := "org/semfolio/Dom$Node", name := "<init>", desc := "()V" } : Jvm.MethodName) prog_17_method_1_code (1 : Nat) (Option.none : Option Jvm.ClassFile.FieldType), Jvm.Cond.code ({ cls := "org/semfolio/Dom$Element", name := "hasAttribute", desc := "(Ljava/lang/String;)Z" } : Jvm.MethodName) prog_16_method_6_code (2 : Nat) (Option.some Jvm.ClassFile.FieldType.boolean), Jvm.Cond.code ({ cls := "org/semfolio/Dom$Element", name := "find", desc := "(Ljava/lang/String;)I" } : Jvm.MethodName) prog_16_method_7_code (3 : Nat) (Option.some Jvm.ClassFile.FieldType.int), Jvm.Cond.code ({ cls := "org/semfolio/ElementHasAttributePinLaw", name := "put", desc := "([Ljava/lang/String;ILjava/lang/String;Ljava/lang/String;)V" } : Jvm.MethodName) method_3_code (4 : Nat) (Option.none : Option Jvm.ClassFile.FieldType), Jvm.Cond.code ({ cls := "java/lang/String", name := "equals", desc := "(Ljava/lang/Object;)Z" } : Jvm.MethodName) jdk_42_method_66_code (3 : Nat) (Option.some Jvm.ClassFile.FieldType.boolean), Jvm.Cond.code ({ cls := "java/lang/StringLatin1", name := "equals", desc := "([B[B)Z" } : Jvm.MethodName) jdk_43_method_13_code (3 : Nat) (Option.some Jvm.ClassFile.FieldType.boolean), Jvm.Cond.code ({ cls := "java/lang/StringUTF16", name := "compress", desc := "([CII)[B" } : Jvm.MethodName) jdk_52_method_16_code (6 : Nat) (Option.some (Jvm.ClassFile.FieldType.array Jvm.ClassFile.FieldType.byte)), Jvm.Cond.code ({ cls := "java/lang/StringUTF16", name := "compress", desc := "([CI[BII)I" } : Jvm.MethodName) jdk_52_method_21_code (7 : Nat) (Option.some Jvm.ClassFile.FieldType.int), Jvm.Cond.code ({ cls := "java/lang/StringUTF16", name := "coderFromArrayLen", desc := "([BI)B" } : Jvm.MethodName) jdk_52_method_15_code (2 : Nat) (Option.some Jvm.ClassFile.FieldType.byte), Jvm.Cond.code ({ cls := "java/lang/String", name := "valueOf", desc := "(C)Ljava/lang/String;" } : Jvm.MethodName) jdk_42_method_139_code (1 : Nat) (Option.some (Jvm.ClassFile.FieldType.object "java/lang/String")), Jvm.Cond.code ({ cls := "java/lang/StringLatin1", name := "canEncode", desc := "(C)Z" } : Jvm.MethodName) jdk_43_method_3_code (1 : Nat) (Option.some Jvm.ClassFile.FieldType.boolean), Jvm.Cond.code ({ cls := "java/lang/StringLatin1", name := "toBytes", desc := "(C)[B" } : Jvm.MethodName) jdk_43_method_46_code (1 : Nat) (Option.some (Jvm.ClassFile.FieldType.array Jvm.ClassFile.FieldType.byte)), Jvm.Cond.code ({ cls := "java/lang/String", name := "<init>", desc := "([BB)V" } : Jvm.MethodName) jdk_42_method_151_code (3 : Nat) (Option.none : Option Jvm.ClassFile.FieldType)]
set_option maxRecDepth 65536 in
theorem codes_eq : words1.filter isCode = codes1 := rfl
theorem w_codes : ∀ c ∈ words1.filter isCode, c.before args0 about1 = true := by
  rw [codes_eq]
  intro c hc
  simp only [codes1, List.mem_cons, List.not_mem_nil, or_false] at hc
  rcases hc with rfl | rfl | rfl | rfl | rfl | rfl | rfl | rfl | rfl | rfl | rfl | rfl | rfl | rfl | rfl | rfl | rfl | rfl | rfl
  · exact w_c0
  · exact w_c1
  · exact w_c2
  · exact w_c3
  · exact w_c4
  · exact w_c5
  · exact w_c6
  · exact w_c7
  · exact w_c8
  · exact w_c9
  · exact w_c10
  · exact w_c11
  · exact w_c12
  · exact w_c13
  · exact w_c14
  · exact w_c15
  · exact w_c16
  · exact w_c17
  · exact w_c18
set_option maxRecDepth 65536 in
theorem w_t1 : (words1.take 24).all (fun c => isCode c || c.before args0 about1) = true := by decide +kernel
set_option maxRecDepth 65536 in
theorem w_t2 : ((words1.drop 24).take 24).all (fun c => isCode c || c.before args0 about1) = true := by decide +kernel
set_option maxRecDepth 65536 in
theorem w_t3 : (((words1.drop 24).drop 24).take 24).all (fun c => isCode c || c.before args0 about1) = true := by decide +kernel
set_option maxRecDepth 65536 in
theorem w_t4 : (((words1.drop 24).drop 24).drop 24).all (fun c => isCode c || c.before args0 about1) = true := by decide +kernel
theorem w_tables : (allAtoms (Jvm.Cond.code x code maxLocals ret :: tables_1)).before args0 about1 = true := by
  rw [allAtoms_all]
  show words1.all (fun c => c.before args0 about1) = true
  refine all_split ?_ w_codes
  rw [← List.take_append_drop 24 words1, List.all_append, w_t1, ← List.take_append_drop 24 (words1.drop 24), List.all_append, w_t2, ← List.take_append_drop 24 ((words1.drop 24).drop 24), List.all_append, w_t3, w_t4]
  rfl
set_option maxRecDepth 65536 in
theorem w_rest : rest_1_c.before args0 about1 = true := by decide +kernel
set_option maxRecDepth 65536 in
theorem w_case : (Jvm.Cond.and given_1 narrow_1).before args0 about1 = true := by decide +kernel
set_option maxRecDepth 65536 in
theorem w_consts : constsHeld consts_1 about1 := Jvm.Lit.constsHeldB_iff.mp (by decide +kernel)
theorem w_applies : (headSpec (Jvm.Cond.code x code maxLocals ret :: tables_1) room_1).applies x e0.platform about1 = true :=
  (Spec.applies_iff w_frames).mpr ⟨w_running, w_runnable, w_alone, w_named, w_hears, w_ripe, w_room, w_tables⟩
theorem atStart : AtStart classFile x code maxLocals ret World_1 tables_1 room_1 Calls_1 rest_1 Pre_1 launch0 p0 e0 about1 theMethod args0 below0 :=
  ⟨lists_1, trivial, launch0.admits_env _ _ _, launch0.least_env, fairChoices_fair.cas, fairChoices_fair.clock, w_frames, w_args, w_heap, w_applies, ⟨w_consts, trivial⟩, w_rest, w_case⟩
end start1
theorem witness_1 : WitnessClaimed_1 := ⟨start1.p0, start1.e0, start1.about1, start1.theMethod, start1.args0, start1.below0, start1.atStart⟩
end Jvm.Pilot.@@N@@
