import JvmDerived
import JvmDerived.Pilot.@@N@@Statement
import JvmDerived.Pilot.@@N@@Code
set_option linter.unusedVariables false
set_option linter.unusedSimpArgs false
/- laws to paste: Road.backV (cut by pick.py; bodies as the Statement names them) -/
namespace Jvm.Pilot.@@N@@
namespace StrChars
open Jvm Sem ClassFile Op Lib Jvm.Stand Jvm.Free.XT Jvm.Free.ALB Jvm.Free.JM Jvm.Free
open Jvm.Lib.Cold (StaticIs)
/-- a char array whose places are chars -/
def Ch (a : Addr) (A : Cell) (U : State) : Prop := Arr .char a A U ∧ Typed .char A
theorem Ch.mv {a : Addr} {A : Cell} {U U' : State} (h : Ch a A U) (hal : U.vm.Alike U'.vm) (hh : U'.heap = U.heap) : Ch a A U' := ⟨h.1.mv hal hh, h.2⟩
theorem Ch.keep {a : Addr} {A : Cell} {U U' : State} (h : Ch a A U) (hal : U.vm.Alike U'.vm) (hk : U'.heap[a]? = some A) : Ch a A U' := ⟨h.1.keep hal hk, h.2⟩
/-- what place i of a char[]'s cell holds -/
def cv (A : Cell) (i : Nat) : Int32 := match A.slots[i]? with | some (.int x) => x | _ => 0
theorem Ch.get {a : Addr} {A : Cell} {U : State} (h : Ch a A U) {i : Nat} (hi : i < A.slots.size) : A.slots[i]? = some (.int (cv A i)) := by
  have e := Array.getElem?_eq_getElem hi
  have f := h.2 i _ e
  unfold cv; rw [e]
  generalize A.slots[i] = v at f
  cases v <;> simp [fits] at f ⊢
/-- the byte that i2b leaves of a char -/
def lo8 (x : Int32) : Int32 := x.toInt8.toInt32
theorem fits_lo8 (y : Int32) : fits .byte (.int (lo8 y)) = true := by
  have h1 := y.toInt8.le_toInt
  have h2 := y.toInt8.toInt_lt
  simp only [lo8, fits, Bool.and_eq_true, decide_eq_true_eq, Int32.le_iff_toInt_le, Int8.toInt_toInt32, show (-128 : Int32).toInt = -128 from by decide, show (127 : Int32).toInt = 127 from by decide]
  omega
/-- A' is A but that each place j of lo .. hi - 1 holds f j -/
def Laid (A A' : Cell) (lo hi : Nat) (f : Nat → Value) : Prop := A'.cls = A.cls ∧ A'.vm = A.vm ∧ A'.slots.size = A.slots.size ∧ ∀ i, A'.slots[i]? = if lo ≤ i ∧ i < hi then some (f i) else A.slots[i]?
theorem Laid.zero (A : Cell) (lo : Nat) (f : Nat → Value) : Laid A A lo (lo + 0) f := ⟨rfl, rfl, rfl, fun i => by rw [if_neg (by omega)]⟩
theorem Laid.step {A Ak : Cell} {lo k : Nat} {f : Nat → Value} {v : Value} (h : Laid A Ak lo k f) (hlo : lo ≤ k) (hk : k < Ak.slots.size) (hv : v = f k) : Laid A (Ak.setSlot k v) lo (k + 1) f := by
  refine ⟨h.1, h.2.1, by simpa [Cell.setSlot] using h.2.2.1, fun i => ?_⟩
  by_cases e : k = i
  · subst e; rw [Cell.slots_setSlot_self v hk, if_pos (by omega), hv]
  · rw [Cell.slots_setSlot_ne v e, h.2.2.2 i]
    by_cases q : lo ≤ i ∧ i < k
    · rw [if_pos q, if_pos (by omega)]
    · rw [if_neg q, if_neg (by omega)]
def U16 : String := "java/lang/StringUTF16"
namespace Cmp5
def yN : MethodName := ⟨"java/lang/StringUTF16", "compress", "([CI[BII)I"⟩
abbrev yB : ByteArray := jdk_52_method_21_code
theorem d0 : decode yB 0 = .ok (.iconst 0, 1) := by decide +kernel
theorem d1 : decode yB 1 = .ok (.istore 5, 2) := by decide +kernel
theorem d3 : decode yB 3 = .ok (.iload 5, 2) := by decide +kernel
theorem d5 : decode yB 5 = .ok (.iload 4, 2) := by decide +kernel
theorem d7 : decode yB 7 = .ok (.if_icmp (.ge) 37, 3) := by decide +kernel
theorem d10 : decode yB 10 = .ok (.aload_n 0, 1) := by decide +kernel
theorem d11 : decode yB 11 = .ok (.iload_n 1, 1) := by decide +kernel
theorem d12 : decode yB 12 = .ok (.caload, 1) := by decide +kernel
theorem d13 : decode yB 13 = .ok (.istore 6, 2) := by decide +kernel
theorem d15 : decode yB 15 = .ok (.iload 6, 2) := by decide +kernel
theorem d17 : decode yB 17 = .ok (.sipush 255, 3) := by decide +kernel
theorem d20 : decode yB 20 = .ok (.if_icmp (.le) 6, 3) := by decide +kernel
theorem d26 : decode yB 26 = .ok (.aload_n 2, 1) := by decide +kernel
theorem d27 : decode yB 27 = .ok (.iload_n 3, 1) := by decide +kernel
theorem d28 : decode yB 28 = .ok (.iload 6, 2) := by decide +kernel
theorem d30 : decode yB 30 = .ok (.i2b, 1) := by decide +kernel
theorem d31 : decode yB 31 = .ok (.bastore, 1) := by decide +kernel
theorem d32 : decode yB 32 = .ok (.iinc 1 1, 3) := by decide +kernel
theorem d35 : decode yB 35 = .ok (.iinc 3 1, 3) := by decide +kernel
theorem d38 : decode yB 38 = .ok (.iinc 5 1, 3) := by decide +kernel
theorem d41 : decode yB 41 = .ok (.goto (-38), 3) := by decide +kernel
theorem d44 : decode yB 44 = .ok (.iload 4, 2) := by decide +kernel
theorem d46 : decode yB 46 = .ok (.ireturn, 1) := by decide +kernel
def site : List Cond := []
def tab : Cond := tabOf yN yB 7 (some .int) site
def P (b : Addr) (A : Cell) (d : Addr) (B : Cell) (o q len : Nat) (args : Array Value) (s : State) : Prop := args = #[.ref b, .int (Int32.ofNat o), .ref d, .int (Int32.ofNat q), .int (Int32.ofNat len)] ∧ Ch b A s ∧ Arr .byte d B s ∧ b ≠ d ∧ o + len ≤ A.slots.size ∧ q + len ≤ B.slots.size ∧ ∀ i, i < len → ¬ 255 < cv A (o + i)
def E (b : Addr) (A : Cell) (d : Addr) (B : Cell) (o q len : Nat) (r : Option Value) (s u : State) : Prop := r = some (.int (Int32.ofNat len)) ∧ ∃ B', Put d B' s u ∧ Laid B B' q (q + len) (fun j => Value.int (lo8 (cv A (o + (j - q)))))
/-- no char of the range above 255: len; the places written hold each char's low byte -/
theorem law (l : Launch) (b : Addr) (A : Cell) (d : Addr) (B : Cell) (o q len : Nat) : Law l yN 5 5 0 0 yB 7 (some .int) site (P b A d B o q len) (E b A d B o q len) (copyLocs d q len) 0 0 := by
  refine Law.of_walk (plainFor_of_name (by decide +kernel)) (by decide +kernel) (by decide +kernel) (by decide) (fun _ _ h => by rw [h.1]; rfl) (fun _ U U' hal hh h => ⟨h.1, h.2.1.mv hal hh, h.2.2.1.mv hal hh, h.2.2.2⟩) (fun r U U' V V' h1 hal h2 h => ⟨h.1, h.2.elim fun B' q => ⟨B', q.1.mv h1 h2, q.2⟩⟩) ?_
  intro p e s m args below meth c s₁ X0 hexec hbytes hml hret hlk hnm hown hh0 W hP
  obtain ⟨rfl, hA, hB, hne, l1, l2, hp⟩ := hP
  have c1 : Steps p.tables e below (s₁.setTop (entryFrame m #[.ref b, .int (Int32.ofNat o), .ref d, .int (Int32.ofNat q), .int (Int32.ofNat len)] 7)) (s₁.setTop (mkF m 0 #[.val (.ref b), .val (.int (Int32.ofNat o)), .val (.ref d), .val (.int (Int32.ofNat q)), .val (.int (Int32.ofNat len)), .unset, .unset] [])) := entry rfl
  have hA0 := hA.1.mv X0.warmed.alike hh0
  have hB0 := hB.mv X0.warmed.alike hh0
  have a31 := hA.1.2.2.2
  have c2 : Steps p.tables e below (s₁.setTop (entryFrame m #[.ref b, .int (Int32.ofNat o), .ref d, .int (Int32.ofNat q), .int (Int32.ofNat len)] 7)) (s₁.setTop (mkF m 3 #[.val (.ref b), .val (.int (Int32.ofNat o)), .val (.ref d), .val (.int (Int32.ofNat q)), .val (.int (Int32.ofNat len)), .val (.int 0), .unset] [])) := c1.trans (by
    refine iconstV X0.here hexec rfl 0 (hb hbytes d0) (by decide) ?_
    refine XS.istore X0.here hexec rfl (hb hbytes d1) rfl rfl ?_
    exact Steps.refl _)
  have loop : ∀ (r i : Nat), i + r = len → ∀ (z : Slot), (z = .unset ∨ ∃ w, z = .val w ∧ w.category = 1) → ∀ (Tl : State) (Bk : Cell), Stand p l e { frames := 0, locals := 0, cells := 0, slots := 0 } s m #[.ref b, .int (Int32.ofNat o), .ref d, .int (Int32.ofNat q), .int (Int32.ofNat len)] below meth c Tl ([] ++ copyLocs d q i) 0 0 → Put d Bk s₁ Tl → Laid B Bk q (q + i) (fun j => Value.int (lo8 (cv A (o + (j - q))))) →
      Steps p.tables e below (s₁.setTop (entryFrame m #[.ref b, .int (Int32.ofNat o), .ref d, .int (Int32.ofNat q), .int (Int32.ofNat len)] 7)) (Tl.setTop (mkF m 3 #[.val (.ref b), .val (.int (Int32.ofNat (o + i))), .val (.ref d), .val (.int (Int32.ofNat (q + i))), .val (.int (Int32.ofNat len)), .val (.int (Int32.ofNat i)), z] [])) → ∃ (T' : State) (B' : Cell) (z' : Slot), Stand p l e { frames := 0, locals := 0, cells := 0, slots := 0 } s m #[.ref b, .int (Int32.ofNat o), .ref d, .int (Int32.ofNat q), .int (Int32.ofNat len)] below meth c T' ([] ++ copyLocs d q len) 0 0 ∧ Put d B' s₁ T' ∧ Laid B B' q (q + len) (fun j => Value.int (lo8 (cv A (o + (j - q))))) ∧
      Steps p.tables e below (s₁.setTop (entryFrame m #[.ref b, .int (Int32.ofNat o), .ref d, .int (Int32.ofNat q), .int (Int32.ofNat len)] 7)) (T'.setTop (mkF m 3 #[.val (.ref b), .val (.int (Int32.ofNat (o + len))), .val (.ref d), .val (.int (Int32.ofNat (q + len))), .val (.int (Int32.ofNat len)), .val (.int (Int32.ofNat len)), z'] [])) := by
    intro r
    induction r with
    | zero =>
      intro i hi z hz Tl Bk Xl pl fl cl
      have hil : i = len := by omega
      rw [hil] at Xl fl cl
      exact ⟨Tl, Bk, z, Xl, pl, fl, cl⟩
    | succ r ih =>
      intro i hi z hz Tl Bk Xl pl fl cl
      have all := X0.warmed.alike.symm.trans Xl.warmed.alike
      have hAl := hA0.keep all (pl.other hne hA0.1)
      have hBk := hB0.like all pl.1 fl.1 fl.2.1 fl.2.2.1
      have hlt : q + i < Bk.slots.size := by rw [fl.2.2.1]; omega
      have c3 : Steps p.tables e below (s₁.setTop (entryFrame m #[.ref b, .int (Int32.ofNat o), .ref d, .int (Int32.ofNat q), .int (Int32.ofNat len)] 7)) (Tl.setTop (mkF m 12 #[.val (.ref b), .val (.int (Int32.ofNat (o + i))), .val (.ref d), .val (.int (Int32.ofNat (q + i))), .val (.int (Int32.ofNat len)), .val (.int (Int32.ofNat i)), z] [.int (Int32.ofNat (o + i)), .ref b])) := cl.trans (by
        refine XS.iload Xl.here hexec rfl (hb hbytes d3) rfl ?_
        refine XS.iload Xl.here hexec rfl (hb hbytes d5) rfl ?_
        refine XS.icmpNo Xl.here hexec rfl (hb hbytes d7) rfl (ii_ge_f (lt32 (by omega) (by omega))) ?_
        refine XS.aloadN Xl.here hexec rfl (hb hbytes d10) rfl rfl ?_
        refine XS.iloadN Xl.here hexec rfl (hb hbytes d11) rfl ?_
        exact Steps.refl _)
      have c4 : Steps p.tables e below (s₁.setTop (entryFrame m #[.ref b, .int (Int32.ofNat o), .ref d, .int (Int32.ofNat q), .int (Int32.ofNat len)] 7)) (Tl.setTop (mkF m 13 #[.val (.ref b), .val (.int (Int32.ofNat (o + i))), .val (.ref d), .val (.int (Int32.ofNat (q + i))), .val (.int (Int32.ofNat len)), .val (.int (Int32.ofNat i)), z] [.int (cv A (o + i))])) := c3.trans (by
        refine Xl.aget hexec hAl rfl (hA.get (i := o + i) (by omega)) rfl rfl (hb hbytes d12) ?_
        exact Steps.refl _)
      have c5 : Steps p.tables e below (s₁.setTop (entryFrame m #[.ref b, .int (Int32.ofNat o), .ref d, .int (Int32.ofNat q), .int (Int32.ofNat len)] 7)) (Tl.setTop (mkF m 15 #[.val (.ref b), .val (.int (Int32.ofNat (o + i))), .val (.ref d), .val (.int (Int32.ofNat (q + i))), .val (.int (Int32.ofNat len)), .val (.int (Int32.ofNat i)), .val (.int (cv A (o + i)))] [])) := c4.trans (by
        refine XS.istoreS Xl.here hexec rfl (hb hbytes d13) rfl rfl hz ?_
        exact Steps.refl _)
      have c6 : Steps p.tables e below (s₁.setTop (entryFrame m #[.ref b, .int (Int32.ofNat o), .ref d, .int (Int32.ofNat q), .int (Int32.ofNat len)] 7)) (Tl.setTop (mkF m 31 #[.val (.ref b), .val (.int (Int32.ofNat (o + i))), .val (.ref d), .val (.int (Int32.ofNat (q + i))), .val (.int (Int32.ofNat len)), .val (.int (Int32.ofNat i)), .val (.int (cv A (o + i)))] [.int (lo8 (cv A (o + i))), .int (Int32.ofNat (q + i)), .ref d])) := c5.trans (by
        refine XS.iload Xl.here hexec rfl (hb hbytes d15) rfl ?_
        refine sipushV Xl.here hexec rfl 255 (hb hbytes d17) (by decide) ?_
        refine XS.icmpYes Xl.here hexec rfl (pc0 := 20) rfl (hb hbytes d20) rfl (ii_le_t (hp i (by omega))) (by decide) rfl ?_
        refine XS.aloadN Xl.here hexec rfl (hb hbytes d26) rfl rfl ?_
        refine XS.iloadN Xl.here hexec rfl (hb hbytes d27) rfl ?_
        refine XS.iload Xl.here hexec rfl (hb hbytes d28) rfl ?_
        refine i2b Xl.here hexec rfl (hb hbytes d30) rfl ?_
        exact Steps.refl _)
      obtain ⟨T7, X7, p7, st7⟩ := Xl.aput hexec hBk rfl hlt rfl (fits_lo8 (cv A (o + i))) (g := (mkF m 31 #[.val (.ref b), .val (.int (Int32.ofNat (o + i))), .val (.ref d), .val (.int (Int32.ofNat (q + i))), .val (.int (Int32.ofNat len)), .val (.int (Int32.ofNat i)), .val (.int (cv A (o + i)))] [.int (lo8 (cv A (o + i))), .int (Int32.ofNat (q + i)), .ref d])) rfl (rest := []) rfl (hb hbytes d31)
      have c8 : Steps p.tables e below (s₁.setTop (entryFrame m #[.ref b, .int (Int32.ofNat o), .ref d, .int (Int32.ofNat q), .int (Int32.ofNat len)] 7)) (T7.setTop (mkF m 32 #[.val (.ref b), .val (.int (Int32.ofNat (o + i))), .val (.ref d), .val (.int (Int32.ofNat (q + i))), .val (.int (Int32.ofNat len)), .val (.int (Int32.ofNat i)), .val (.int (cv A (o + i)))] [])) := c6.trans (st7 _ (Steps.refl _))
      have c9 : Steps p.tables e below (s₁.setTop (entryFrame m #[.ref b, .int (Int32.ofNat o), .ref d, .int (Int32.ofNat q), .int (Int32.ofNat len)] 7)) (T7.setTop (mkF m 3 #[.val (.ref b), .val (.int (Int32.ofNat (o + i) + 1)), .val (.ref d), .val (.int (Int32.ofNat (q + i) + 1)), .val (.int (Int32.ofNat len)), .val (.int (Int32.ofNat i + 1)), .val (.int (cv A (o + i)))] [])) := c8.trans (by
        refine iincV X7.here hexec rfl 1 (hb hbytes d32) (by decide) rfl rfl ?_
        refine iincV X7.here hexec rfl 1 (hb hbytes d35) (by decide) rfl rfl ?_
        refine iincV X7.here hexec rfl 1 (hb hbytes d38) (by decide) rfl rfl ?_
        refine XS.goto X7.here hexec rfl (pc0 := 41) rfl (hb hbytes d41) (by decide) rfl ?_
        exact Steps.refl _)
      have c10 : Steps p.tables e below (s₁.setTop (entryFrame m #[.ref b, .int (Int32.ofNat o), .ref d, .int (Int32.ofNat q), .int (Int32.ofNat len)] 7)) (T7.setTop (mkF m 3 #[.val (.ref b), .val (.int (Int32.ofNat (o + (i + 1)))), .val (.ref d), .val (.int (Int32.ofNat (q + (i + 1)))), .val (.int (Int32.ofNat len)), .val (.int (Int32.ofNat (i + 1))), .val (.int (cv A (o + i)))] [])) := by
        have := c9
        rw [succ32, succ32, succ32] at this
        exact this
      exact ih (i + 1) (by omega) _ (Or.inr ⟨_, rfl, rfl⟩) T7 _ (by rw [copyLocs_step, ← List.append_assoc]; exact X7) (pl.trans p7) (fl.step (by omega) hlt (by simp)) c10
  obtain ⟨T9, B9, z9, X9, p9, f9, g9⟩ := loop len 0 (by omega) .unset (Or.inl rfl) s₁ B (by simpa [copyLocs] using X0) ⟨hB0.1, fun _ _ => rfl, rfl⟩ (Laid.zero _ _ _) c2
  have c11 : Steps p.tables e below (s₁.setTop (entryFrame m #[.ref b, .int (Int32.ofNat o), .ref d, .int (Int32.ofNat q), .int (Int32.ofNat len)] 7)) (T9.setTop (mkF m 46 #[.val (.ref b), .val (.int (Int32.ofNat (o + len))), .val (.ref d), .val (.int (Int32.ofNat (q + len))), .val (.int (Int32.ofNat len)), .val (.int (Int32.ofNat len)), z9] [.int (Int32.ofNat len)])) := g9.trans (by
    refine XS.iload X9.here hexec rfl (hb hbytes d3) rfl ?_
    refine XS.iload X9.here hexec rfl (hb hbytes d5) rfl ?_
    refine XS.icmpYes X9.here hexec rfl (pc0 := 7) rfl (hb hbytes d7) rfl (ii_ge_t (nlt32 (by omega) (Nat.le_refl _))) (by decide) rfl ?_
    refine XS.iload X9.here hexec rfl (hb hbytes d44) rfl ?_
    exact Steps.refl _)
  exact ⟨T9, some (.int (Int32.ofNat len)), _, _, _, X9, by simp, rfl, rfl, (fun h => by cases h), ⟨rfl, B9, p9.from hh0, f9⟩, fun fs hl => c11.trans (X9.ireturnOut hexec hret rfl (Or.inl rfl) (hb hbytes d46) hl)⟩
end Cmp5
namespace Cmp3
def yN : MethodName := ⟨"java/lang/StringUTF16", "compress", "([CII)[B"⟩
abbrev yB : ByteArray := jdk_52_method_16_code
theorem d0 : decode yB 0 = .ok (.iload_n 2, 1) := by decide +kernel
theorem d1 : decode yB 1 = .ok (.newarray .byte, 2) := by decide +kernel
theorem d3 : decode yB 3 = .ok (.astore_n 3, 1) := by decide +kernel
theorem d4 : decode yB 4 = .ok (.aload_n 0, 1) := by decide +kernel
theorem d5 : decode yB 5 = .ok (.iload_n 1, 1) := by decide +kernel
theorem d6 : decode yB 6 = .ok (.aload_n 3, 1) := by decide +kernel
theorem d7 : decode yB 7 = .ok (.iconst 0, 1) := by decide +kernel
theorem d8 : decode yB 8 = .ok (.iload_n 2, 1) := by decide +kernel
theorem d9 : decode yB 9 = .ok (.invokestatic 115, 3) := by decide +kernel
theorem d12 : decode yB 12 = .ok (.istore 4, 2) := by decide +kernel
theorem d14 : decode yB 14 = .ok (.iload 4, 2) := by decide +kernel
theorem d16 : decode yB 16 = .ok (.iload_n 2, 1) := by decide +kernel
theorem d17 : decode yB 17 = .ok (.if_icmp (.eq) 40, 3) := by decide +kernel
theorem d57 : decode yB 57 = .ok (.aload_n 3, 1) := by decide +kernel
theorem d58 : decode yB 58 = .ok (.areturn, 1) := by decide +kernel
def site : List Cond := [.arrayClass .byte, Cmp5.tab] ++ staticW U16 115 Cmp5.yN
def tab : Cond := tabOf yN yB 6 (some (.array .byte)) site
def P (b : Addr) (A : Cell) (o len : Nat) (args : Array Value) (s : State) : Prop := args = #[.ref b, .int (Int32.ofNat o), .int (Int32.ofNat len)] ∧ Ch b A s ∧ o + len ≤ A.slots.size ∧ len ≤ 536870912 ∧ ∀ i, i < len → ¬ 255 < cv A (o + i)
def E (b : Addr) (A : Cell) (o len : Nat) (r : Option Value) (s u : State) : Prop := NewArr .byte "[B" len (fun j => .int (lo8 (cv A (o + j)))) r s u ∧ u.heap.size = s.heap.size + 1
/-- no char of the range above 255: a new byte[] of their low bytes -/
theorem law (l : Launch) (b : Addr) (A : Cell) (o len : Nat) : Law l yN 3 3 1 18 yB 6 (some (.array .byte)) site (P b A o len) (E b A o len) [] 1 len := by
  refine Law.of_walk (plainFor_of_name (by decide +kernel)) (by decide +kernel) (by decide +kernel) (by decide) (fun _ _ h => by rw [h.1]; rfl) (fun _ U U' hal hh h => ⟨h.1, h.2.1.mv hal hh, h.2.2⟩) (fun r U U' V V' h1 hal h2 h => ⟨NewArr.mv r U U' V V' h1 hal h2 h.1, by rw [h1, h2]; exact h.2⟩) ?_
  intro p e s m args below meth c s₁ X0 hexec hbytes hml hret hlk hnm hown hh0 W hP
  obtain ⟨rfl, hA, l1, l2, hp⟩ := hP
  have a31 := hA.1.2.2.2
  have c1 : Steps p.tables e below (s₁.setTop (entryFrame m #[.ref b, .int (Int32.ofNat o), .int (Int32.ofNat len)] 6)) (s₁.setTop (mkF m 0 #[.val (.ref b), .val (.int (Int32.ofNat o)), .val (.int (Int32.ofNat len)), .unset, .unset, .unset] [])) := entry rfl
  have c2 : Steps p.tables e below (s₁.setTop (entryFrame m #[.ref b, .int (Int32.ofNat o), .int (Int32.ofNat len)] 6)) (s₁.setTop (mkF m 1 #[.val (.ref b), .val (.int (Int32.ofNat o)), .val (.int (Int32.ofNat len)), .unset, .unset, .unset] [.int (Int32.ofNat len)])) := c1.trans (by
    refine XS.iloadN X0.here hexec rfl (hb hbytes d0) rfl ?_
    exact Steps.refl _)
  obtain ⟨T3, B3, X3, ba3, bs3, bv3, bh3, bf3, st3⟩ := X0.anew hexec (atype := .byte) (wk W (.arrayClass .byte)) rfl (by show len * 1 ≤ _; omega) (by omega) (g := (mkF m 1 #[.val (.ref b), .val (.int (Int32.ofNat o)), .val (.int (Int32.ofNat len)), .unset, .unset, .unset] [.int (Int32.ofNat len)])) rfl (hb hbytes d1) (rest := []) rfl (Nat.le_refl _) (by show 0 + len ≤ len; omega)
  rw [hh0] at ba3 st3
  have kp3 : XT.Kept s T3 := (XT.Kept.of_eq hh0).push bh3
  have hA3 := hA.keep X3.warmed.alike (kp3 _ _ hA.1.1)
  have hne : b ≠ s.heap.size := hA.1.ne
  have c4 : Steps p.tables e below (s₁.setTop (entryFrame m #[.ref b, .int (Int32.ofNat o), .int (Int32.ofNat len)] 6)) (T3.setTop (mkF m 3 #[.val (.ref b), .val (.int (Int32.ofNat o)), .val (.int (Int32.ofNat len)), .unset, .unset, .unset] [.ref s.heap.size])) := c2.trans (st3 _ (Steps.refl _))
  have c5 : Steps p.tables e below (s₁.setTop (entryFrame m #[.ref b, .int (Int32.ofNat o), .int (Int32.ofNat len)] 6)) (T3.setTop (mkF m 9 #[.val (.ref b), .val (.int (Int32.ofNat o)), .val (.int (Int32.ofNat len)), .val (.ref s.heap.size), .unset, .unset] [.int (Int32.ofNat len), .int 0, .ref s.heap.size, .int (Int32.ofNat o), .ref b])) := c4.trans (by
    refine XS.astoreN X3.here hexec rfl (hb hbytes d3) rfl rfl rfl ?_
    refine XS.aloadN X3.here hexec rfl (hb hbytes d4) rfl rfl ?_
    refine XS.iloadN X3.here hexec rfl (hb hbytes d5) rfl ?_
    refine XS.aloadN X3.here hexec rfl (hb hbytes d6) rfl rfl ?_
    refine iconstV X3.here hexec rfl 0 (hb hbytes d7) (by decide) ?_
    refine XS.iloadN X3.here hexec rfl (hb hbytes d8) rfl ?_
    exact Steps.refl _)
  obtain ⟨v6, T6, X6, E6, g6⟩ := X3.callS hexec (Cmp5.law l b A s.heap.size B3 o 0 len) hown (wks W (staticW U16 115 Cmp5.yN)) (wk W Cmp5.tab) (W := 0) (Nat.le_of_ble_eq_true rfl) (Nat.le_of_ble_eq_true rfl) (Nat.le_refl _) (by show 0 + len + 0 ≤ len; omega) (g := (mkF m 9 #[.val (.ref b), .val (.int (Int32.ofNat o)), .val (.int (Int32.ofNat len)), .val (.ref s.heap.size), .unset, .unset] [.int (Int32.ofNat len), .int (Int32.ofNat 0), .ref s.heap.size, .int (Int32.ofNat o), .ref b])) rfl (by rw [hml]; rfl) c5 (argsL := [.ref b, .int (Int32.ofNat o), .ref s.heap.size, .int (Int32.ofNat 0), .int (Int32.ofNat len)]) (rest := []) rfl rfl (by show 2 * 0 + 0 ≤ _; decide) (hb hbytes d9) (⟨rfl, hA3, ba3, hne, l1, by rw [bs3]; simp, hp⟩)
  obtain ⟨rfl, B6, p6, f6⟩ := E6
  have c7 : Steps p.tables e below (s₁.setTop (entryFrame m #[.ref b, .int (Int32.ofNat o), .int (Int32.ofNat len)] 6)) (T6.setTop (mkF m 12 #[.val (.ref b), .val (.int (Int32.ofNat o)), .val (.int (Int32.ofNat len)), .val (.ref s.heap.size), .unset, .unset] [.int (Int32.ofNat len)])) := g6
  have c8 : Steps p.tables e below (s₁.setTop (entryFrame m #[.ref b, .int (Int32.ofNat o), .int (Int32.ofNat len)] 6)) (T6.setTop (mkF m 58 #[.val (.ref b), .val (.int (Int32.ofNat o)), .val (.int (Int32.ofNat len)), .val (.ref s.heap.size), .val (.int (Int32.ofNat len)), .unset] [.ref s.heap.size])) := c7.trans (by
    refine XS.istore X6.here hexec rfl (hb hbytes d12) rfl rfl ?_
    refine XS.iload X6.here hexec rfl (hb hbytes d14) rfl ?_
    refine XS.iloadN X6.here hexec rfl (hb hbytes d16) rfl ?_
    refine XS.icmpYes X6.here hexec rfl (pc0 := 17) rfl (hb hbytes d17) rfl (ii_eq_t rfl) (by decide) rfl ?_
    refine XS.aloadN X6.here hexec rfl (hb hbytes d57) rfl rfl ?_
    exact Steps.refl _)
  have X8 := X6.wide (L' := []) (cells' := 1) (slots' := len) (fun x hx hlt => by
    simp only [List.nil_append, copyLocs, List.mem_map, List.mem_range] at hx
    obtain ⟨i, -, rfl⟩ := hx
    exact absurd hlt (Nat.lt_irrefl _)) (Nat.le_refl _) (by omega)
  exact ⟨T6, some (.ref s.heap.size), _, _, _, X8, rfl, rfl, rfl, (fun h => by cases h), ⟨⟨rfl, B6, ba3.like (X3.warmed.alike.symm.trans X6.warmed.alike) p6.1 f6.1 f6.2.1 f6.2.2.1, f6.2.1.trans bv3, by rw [X6.warmed.alike.findClass, f6.1]; exact bf3, by rw [f6.2.2.1, bs3]; simp, fun j hj => by rw [f6.2.2.2 j, if_pos (by omega)]; rfl, kp3.put p6 (Nat.le_refl _)⟩, by rw [p6.2.2, bh3, hh0]; simp⟩, fun fs hl => c8.trans (X8.areturnOut hexec rfl hret rfl (hb hbytes d58) hl)⟩
end Cmp3
namespace CodL
def yN : MethodName := ⟨"java/lang/StringUTF16", "coderFromArrayLen", "([BI)B"⟩
abbrev yB : ByteArray := jdk_52_method_15_code
theorem d0 : decode yB 0 = .ok (.iload_n 1, 1) := by decide +kernel
theorem d1 : decode yB 1 = .ok (.aload_n 0, 1) := by decide +kernel
theorem d2 : decode yB 2 = .ok (.arraylength, 1) := by decide +kernel
theorem d3 : decode yB 3 = .ok (.isub, 1) := by decide +kernel
theorem d4 : decode yB 4 = .ok (.bipush 31, 2) := by decide +kernel
theorem d6 : decode yB 6 = .ok (.iushr, 1) := by decide +kernel
theorem d7 : decode yB 7 = .ok (.i2b, 1) := by decide +kernel
theorem d8 : decode yB 8 = .ok (.ireturn, 1) := by decide +kernel
def site : List Cond := []
def tab : Cond := tabOf yN yB 2 (some .byte) site
def P (d : Addr) (B : Cell) (args : Array Value) (s : State) : Prop := args = #[.ref d, .int (Int32.ofNat B.slots.size)] ∧ Arr .byte d B s
def E (r : Option Value) (s u : State) : Prop := XT.PureE (some (.int 0)) r s u
/-- an array as long as the number of chars: LATIN1 -/
theorem law (l : Launch) (d : Addr) (B : Cell) : Law l yN 2 2 0 0 yB 2 (some .byte) site (P d B) E [] 0 0 := by
  refine Law.of_walk (plainFor_of_name (by decide +kernel)) (by decide +kernel) (by decide +kernel) (by decide) (fun _ _ h => by rw [h.1]; rfl) (fun _ U U' hal hh h => ⟨h.1, h.2.mv hal hh⟩) (fun r U U' V V' h1 hal h2 h => XT.PureE.mv r U U' V V' h1 hal h2 h) ?_
  intro p e s m args below meth c s₁ X0 hexec hbytes hml hret hlk hnm hown hh0 W hP
  obtain ⟨rfl, hB⟩ := hP
  have hB0 := hB.mv X0.warmed.alike hh0
  have c1 : Steps p.tables e below (s₁.setTop (entryFrame m #[.ref d, .int (Int32.ofNat B.slots.size)] 2)) (s₁.setTop (mkF m 0 #[.val (.ref d), .val (.int (Int32.ofNat B.slots.size))] [])) := entry rfl
  have c2 : Steps p.tables e below (s₁.setTop (entryFrame m #[.ref d, .int (Int32.ofNat B.slots.size)] 2)) (s₁.setTop (mkF m 2 #[.val (.ref d), .val (.int (Int32.ofNat B.slots.size))] [.ref d, .int (Int32.ofNat B.slots.size)])) := c1.trans (by
    refine XS.iloadN X0.here hexec rfl (hb hbytes d0) rfl ?_
    refine XS.aloadN X0.here hexec rfl (hb hbytes d1) rfl rfl ?_
    exact Steps.refl _)
  have c3 : Steps p.tables e below (s₁.setTop (entryFrame m #[.ref d, .int (Int32.ofNat B.slots.size)] 2)) (s₁.setTop (mkF m 8 #[.val (.ref d), .val (.int (Int32.ofNat B.slots.size))] [.int (lo8 (ushr (Int32.ofNat B.slots.size - Int32.ofNat B.slots.size) 31))])) := c2.trans (by
    refine X0.alen hexec hB0 rfl rfl (hb hbytes d2) ?_
    refine XS.isub X0.here hexec rfl (hb hbytes d3) rfl ?_
    refine bipushV X0.here hexec rfl 31 (hb hbytes d4) (by decide) ?_
    refine iushr X0.here hexec rfl (hb hbytes d6) rfl ?_
    refine i2b X0.here hexec rfl (hb hbytes d7) rfl ?_
    exact Steps.refl _)
  have e0 : lo8 (ushr (Int32.ofNat B.slots.size - Int32.ofNat B.slots.size) 31) = 0 := by rw [Int32.sub_self]; decide
  rw [e0] at c3
  exact ⟨s₁, some (.int 0), _, _, _, X0, rfl, rfl, rfl, (fun h => by cases h), ⟨rfl, hh0⟩, fun fs hl => c3.trans (X0.ireturnOut hexec hret rfl (Or.inr (Or.inr (Or.inl rfl))) (hb hbytes d8) hl)⟩
end CodL
/-- the String at a is Latin-1 over a new byte[] (the heap's one new cell): the low bytes of the len chars of A from o on; every cell but a is kept -/
def Got (a : Addr) (D : Cell) (fV fC : Field) (A : Cell) (o len : Nat) (r : Option Value) (s u : State) : Prop := r = none ∧ ∃ D' V : Cell, Blank "java/lang/String" a D' u ∧ Same D D' [fV.slot, fC.slot] ∧ D'.slots[fV.slot]? = some (.ref s.heap.size) ∧ D'.slots[fC.slot]? = some (.int 0) ∧ Arr .byte s.heap.size V u ∧ V.vm = .none ∧ u.vm.findClass "[B" = some V.cls ∧ V.slots.size = len ∧ (∀ j, j < len → V.slots[j]? = some (.int (lo8 (cv A (o + j))))) ∧ (∀ (y : Addr) (c : Cell), y ≠ a → s.heap[y]? = some c → u.heap[y]? = some c) ∧ u.heap.size = s.heap.size + 1
theorem Got.mv {a : Addr} {D A : Cell} {fV fC : Field} {o len : Nat} : ∀ r (U U' V V' : State), U'.heap = U.heap → V.vm.Alike V'.vm → V'.heap = V.heap → Got a D fV fC A o len r U V → Got a D fV fC A o len r U' V' :=
  fun r U U' V V' h1 hal h2 ⟨e0, D', X, a1, a2, a3, a4, a5, a6, a7, a8, a9, a10, a11⟩ => ⟨e0, D', X, a1.mv hal h2, a2, by rw [h1]; exact a3, a4, by rw [h1]; exact a5.mv hal h2, a6, by rw [hal.findClass]; exact a7, a8, a9, by rw [h1, h2]; exact a10, by rw [h1, h2]; exact a11⟩
namespace New4
def yN : MethodName := ⟨"java/lang/String", "<init>", "([CIILjava/lang/Void;)V"⟩
abbrev yB : ByteArray := jdk_42_method_149_code
theorem d0 : decode yB 0 = .ok (.aload_n 0, 1) := by decide +kernel
theorem d1 : decode yB 1 = .ok (.invokespecial 1, 3) := by decide +kernel
theorem d4 : decode yB 4 = .ok (.iload_n 3, 1) := by decide +kernel
theorem d5 : decode yB 5 = .ok (.ifCond (.ne) 22, 3) := by decide +kernel
theorem d27 : decode yB 27 = .ok (.getstatic 38, 3) := by decide +kernel
theorem d30 : decode yB 30 = .ok (.ifCond (.eq) 28, 3) := by decide +kernel
theorem d33 : decode yB 33 = .ok (.aload_n 1, 1) := by decide +kernel
theorem d34 : decode yB 34 = .ok (.iload_n 2, 1) := by decide +kernel
theorem d35 : decode yB 35 = .ok (.iload_n 3, 1) := by decide +kernel
theorem d36 : decode yB 36 = .ok (.invokestatic 177, 3) := by decide +kernel
theorem d39 : decode yB 39 = .ok (.astore 5, 2) := by decide +kernel
theorem d41 : decode yB 41 = .ok (.aload_n 0, 1) := by decide +kernel
theorem d42 : decode yB 42 = .ok (.aload 5, 2) := by decide +kernel
theorem d44 : decode yB 44 = .ok (.iload_n 3, 1) := by decide +kernel
theorem d45 : decode yB 45 = .ok (.invokestatic 47, 3) := by decide +kernel
theorem d48 : decode yB 48 = .ok (.putfield 15, 3) := by decide +kernel
theorem d51 : decode yB 51 = .ok (.aload_n 0, 1) := by decide +kernel
theorem d52 : decode yB 52 = .ok (.aload 5, 2) := by decide +kernel
theorem d54 : decode yB 54 = .ok (.putfield 9, 3) := by decide +kernel
theorem d57 : decode yB 57 = .ok (.return_, 1) := by decide +kernel
def site : List Cond := [.fieldLink "java/lang/String" 38 "java/lang/String" "COMPACT_STRINGS" "Z", Cmp3.tab, CodL.tab, .laysFinal "java/lang/String" "java/lang/String" "value" "[B", .fieldLink "java/lang/String" 9 "java/lang/String" "value" "[B", .laysFinal "java/lang/String" "java/lang/String" "coder" "B", .fieldLink "java/lang/String" 15 "java/lang/String" "coder" "B"] ++ objW "java/lang/String" 1 ++ staticW "java/lang/String" 177 Cmp3.yN ++ staticW "java/lang/String" 47 CodL.yN
def tab : Cond := tabOf yN yB 6 none site
def P (a : Addr) (D : Cell) (fV fC : Field) (b : Addr) (A : Cell) (z : Int32) (o len : Nat) (args : Array Value) (s : State) : Prop := args = #[.ref a, .ref b, .int (Int32.ofNat o), .int (Int32.ofNat len), .null] ∧ Blank "java/lang/String" a D s ∧ Found "java/lang/String" "value" "[B" fV s ∧ Found "java/lang/String" "coder" "B" fC s ∧ Ch b A s ∧ StaticIs s "java/lang/String" "COMPACT_STRINGS" "Z" (.int z) ∧ ¬ z = 0 ∧ 0 < len ∧ o + len ≤ A.slots.size ∧ len ≤ 536870912 ∧ ∀ i, i < len → ¬ 255 < cv A (o + i)
def E (a : Addr) (D : Cell) (fV fC : Field) (A : Cell) (o len : Nat) (r : Option Value) (s u : State) : Prop := Got a D fV fC A o len r s u
/-- len > 0, no char of the range above 255: a Latin-1 String of their low bytes -/
theorem law (l : Launch) (a : Addr) (D : Cell) (fV fC : Field) (b : Addr) (A : Cell) (z : Int32) (o len : Nat) : Law l yN 5 4 2 35 yB 6 none site (P a D fV fC b A z o len) (E a D fV fC A o len) [⟨a, fC.slot⟩, ⟨a, fV.slot⟩] 1 len := by
  refine Law.of_walk (plainFor_of_name (by decide +kernel)) (by decide +kernel) (by decide +kernel) (by decide) (fun _ _ h => by rw [h.1]; rfl) (fun _ U U' hal hh h => ⟨h.1, h.2.1.mv hal hh, h.2.2.1.al hal, h.2.2.2.1.al hal, h.2.2.2.2.1.mv hal hh, h.2.2.2.2.2.1.there hal hh, h.2.2.2.2.2.2⟩) (fun r U U' V V' h1 hal h2 h => Got.mv r U U' V V' h1 hal h2 h) ?_
  intro p e s m args below meth c s₁ X0 hexec hbytes hml hret hlk hnm hown hh0 W hP
  obtain ⟨rfl, hB, f1, f2, hA, s1, hz, l0, l1, l2, hp⟩ := hP
  have a31 := hA.1.2.2.2
  have c1 : Steps p.tables e below (s₁.setTop (entryFrame m #[.ref a, .ref b, .int (Int32.ofNat o), .int (Int32.ofNat len), .null] 6)) (s₁.setTop (mkF m 0 #[.val (.ref a), .val (.ref b), .val (.int (Int32.ofNat o)), .val (.int (Int32.ofNat len)), .val .null, .unset] [])) := entry rfl
  have c2 : Steps p.tables e below (s₁.setTop (entryFrame m #[.ref a, .ref b, .int (Int32.ofNat o), .int (Int32.ofNat len), .null] 6)) (s₁.setTop (mkF m 1 #[.val (.ref a), .val (.ref b), .val (.int (Int32.ofNat o)), .val (.int (Int32.ofNat len)), .val .null, .unset] [.ref a])) := c1.trans (by
    refine XS.aloadN X0.here hexec rfl (hb hbytes d0) rfl rfl ?_
    exact Steps.refl _)
  obtain ⟨T3, X3, q3, st3⟩ := X0.oinit hexec hown (wks W (objW "java/lang/String" 1)) (g := (mkF m 1 #[.val (.ref a), .val (.ref b), .val (.int (Int32.ofNat o)), .val (.int (Int32.ofNat len)), .val .null, .unset] [.ref a])) rfl (by rw [hml]; rfl) (rest := []) rfl (hb hbytes d1) (W := 0) (by show 2 * 0 + 0 ≤ _; decide) (Nat.le_of_ble_eq_true rfl) (Nat.le_of_ble_eq_true rfl)
  have hh3 := q3.trans hh0
  have c4 : Steps p.tables e below (s₁.setTop (entryFrame m #[.ref a, .ref b, .int (Int32.ofNat o), .int (Int32.ofNat len), .null] 6)) (T3.setTop (mkF m 27 #[.val (.ref a), .val (.ref b), .val (.int (Int32.ofNat o)), .val (.int (Int32.ofNat len)), .val .null, .unset] [])) := (c2.trans (st3 _ (Steps.refl _))).trans (by
    refine XS.iloadN X3.here hexec rfl (hb hbytes d4) rfl ?_
    refine XS.ifYes X3.here hexec rfl (pc0 := 5) rfl (hb hbytes d5) rfl (i0_ne_t (nz32 (by omega) l0)) (by decide) rfl ?_
    exact Steps.refl _)
  obtain ⟨T5, X5, q5, st5⟩ := X3.sget hexec hown (wk W (.fieldLink "java/lang/String" 38 "java/lang/String" "COMPACT_STRINGS" "Z")) s1 (fun _ _ h => by rw [hh3]; exact h) (g := (mkF m 27 #[.val (.ref a), .val (.ref b), .val (.int (Int32.ofNat o)), .val (.int (Int32.ofNat len)), .val .null, .unset] [])) rfl (hb hbytes d27)
  have hh5 := q5.trans hh3
  have c6 : Steps p.tables e below (s₁.setTop (entryFrame m #[.ref a, .ref b, .int (Int32.ofNat o), .int (Int32.ofNat len), .null] 6)) (T5.setTop (mkF m 30 #[.val (.ref a), .val (.ref b), .val (.int (Int32.ofNat o)), .val (.int (Int32.ofNat len)), .val .null, .unset] [.int z])) := c4.trans (st5 _ (Steps.refl _))
  have c7 : Steps p.tables e below (s₁.setTop (entryFrame m #[.ref a, .ref b, .int (Int32.ofNat o), .int (Int32.ofNat len), .null] 6)) (T5.setTop (mkF m 36 #[.val (.ref a), .val (.ref b), .val (.int (Int32.ofNat o)), .val (.int (Int32.ofNat len)), .val .null, .unset] [.int (Int32.ofNat len), .int (Int32.ofNat o), .ref b])) := c6.trans (by
    refine XS.ifNo X5.here hexec rfl (hb hbytes d30) rfl (i0_eq_f hz) ?_
    refine XS.aloadN X5.here hexec rfl (hb hbytes d33) rfl rfl ?_
    refine XS.iloadN X5.here hexec rfl (hb hbytes d34) rfl ?_
    refine XS.iloadN X5.here hexec rfl (hb hbytes d35) rfl ?_
    exact Steps.refl _)
  obtain ⟨v8, T8, X8, E8, g8⟩ := X5.callS hexec (Cmp3.law l b A o len) hown (wks W (staticW "java/lang/String" 177 Cmp3.yN)) (wk W Cmp3.tab) (W := 0) (Nat.le_of_ble_eq_true rfl) (Nat.le_of_ble_eq_true rfl) (Nat.le_refl _) (by show 0 + len ≤ len; omega) (g := (mkF m 36 #[.val (.ref a), .val (.ref b), .val (.int (Int32.ofNat o)), .val (.int (Int32.ofNat len)), .val .null, .unset] [.int (Int32.ofNat len), .int (Int32.ofNat o), .ref b])) rfl (by rw [hml]; rfl) c7 (argsL := [.ref b, .int (Int32.ofNat o), .int (Int32.ofNat len)]) (rest := []) rfl rfl (by show 2 * 0 + 0 ≤ _; decide) (hb hbytes d36) (⟨rfl, hA.mv X5.warmed.alike hh5, l1, l2, hp⟩)
  obtain ⟨e8, z8⟩ := E8
  obtain ⟨rfl, N, n1, n2, n3, n4, n5, n6⟩ := NewArr.mv _ T5 s _ _ hh5.symm (Vm.Alike.refl _) rfl e8
  rw [hh5] at z8
  have hB1 := hB.keep X8.warmed.alike (n6 _ _ hB.1)
  have hne : s.heap.size ≠ a := (Nat.ne_of_lt (Array.getElem?_eq_some_iff.mp hB.1).1).symm
  have c9 : Steps p.tables e below (s₁.setTop (entryFrame m #[.ref a, .ref b, .int (Int32.ofNat o), .int (Int32.ofNat len), .null] 6)) (T8.setTop (mkF m 39 #[.val (.ref a), .val (.ref b), .val (.int (Int32.ofNat o)), .val (.int (Int32.ofNat len)), .val .null, .unset] [.ref s.heap.size])) := g8
  have c10 : Steps p.tables e below (s₁.setTop (entryFrame m #[.ref a, .ref b, .int (Int32.ofNat o), .int (Int32.ofNat len), .null] 6)) (T8.setTop (mkF m 45 #[.val (.ref a), .val (.ref b), .val (.int (Int32.ofNat o)), .val (.int (Int32.ofNat len)), .val .null, .val (.ref s.heap.size)] [.int (Int32.ofNat N.slots.size), .ref s.heap.size, .ref a])) := by
    have hc : Steps p.tables e below (s₁.setTop (entryFrame m #[.ref a, .ref b, .int (Int32.ofNat o), .int (Int32.ofNat len), .null] 6)) (T8.setTop (mkF m 45 #[.val (.ref a), .val (.ref b), .val (.int (Int32.ofNat o)), .val (.int (Int32.ofNat len)), .val .null, .val (.ref s.heap.size)] [.int (Int32.ofNat len), .ref s.heap.size, .ref a])) := c9.trans (by
      refine XS.astore X8.here hexec rfl (hb hbytes d39) rfl rfl rfl ?_
      refine XS.aloadN X8.here hexec rfl (hb hbytes d41) rfl rfl ?_
      refine XS.aload X8.here hexec rfl (hb hbytes d42) rfl rfl ?_
      refine XS.iloadN X8.here hexec rfl (hb hbytes d44) rfl ?_
      exact Steps.refl _)
    rw [n4]; exact hc
  obtain ⟨v11, T11, X11, E11, g11⟩ := X8.callS hexec (CodL.law l s.heap.size N) hown (wks W (staticW "java/lang/String" 47 CodL.yN)) (wk W CodL.tab) (W := 1) (Nat.le_of_ble_eq_true rfl) (Nat.le_of_ble_eq_true rfl) (Nat.le_refl _) (by show 0 + len + 0 ≤ len; omega) (g := (mkF m 45 #[.val (.ref a), .val (.ref b), .val (.int (Int32.ofNat o)), .val (.int (Int32.ofNat len)), .val .null, .val (.ref s.heap.size)] [.int (Int32.ofNat N.slots.size), .ref s.heap.size, .ref a])) rfl (by rw [hml]; rfl) c10 (argsL := [.ref s.heap.size, .int (Int32.ofNat N.slots.size)]) (rest := [.ref a]) rfl rfl (by show 2 * 0 + (1 + 0) ≤ _; decide) (hb hbytes d45) (⟨rfl, n1⟩)
  obtain ⟨rfl, q11⟩ := E11
  have hB11 := hB1.mv (X8.warmed.alike.symm.trans X11.warmed.alike) q11
  have c12 : Steps p.tables e below (s₁.setTop (entryFrame m #[.ref a, .ref b, .int (Int32.ofNat o), .int (Int32.ofNat len), .null] 6)) (T11.setTop (mkF m 48 #[.val (.ref a), .val (.ref b), .val (.int (Int32.ofNat o)), .val (.int (Int32.ofNat len)), .val .null, .val (.ref s.heap.size)] [.int 0, .ref a])) := g11
  obtain ⟨T13, X13, p13, bl13, sl13, st13⟩ := X11.finit hexec hown (wk W (.fieldLink "java/lang/String" 15 "java/lang/String" "coder" "B")) (Or.inr ⟨_, (wk W (.laysFinal "java/lang/String" "java/lang/String" "coder" "B"))⟩) (Or.inl ⟨rfl, hnm⟩) f2 (Or.inl rfl) hB11 (t := .byte) (by decide +kernel) rfl (g := (mkF m 48 #[.val (.ref a), .val (.ref b), .val (.int (Int32.ofNat o)), .val (.int (Int32.ofNat len)), .val .null, .val (.ref s.heap.size)] [.int 0, .ref a])) rfl (rest := []) rfl (hb hbytes d48)
  have c14 : Steps p.tables e below (s₁.setTop (entryFrame m #[.ref a, .ref b, .int (Int32.ofNat o), .int (Int32.ofNat len), .null] 6)) (T13.setTop (mkF m 54 #[.val (.ref a), .val (.ref b), .val (.int (Int32.ofNat o)), .val (.int (Int32.ofNat len)), .val .null, .val (.ref s.heap.size)] [.ref s.heap.size, .ref a])) := (c12.trans (st13 _ (Steps.refl _))).trans (by
    refine XS.aloadN X13.here hexec rfl (hb hbytes d51) rfl rfl ?_
    refine XS.aload X13.here hexec rfl (hb hbytes d52) rfl rfl ?_
    exact Steps.refl _)
  obtain ⟨T15, X15, p15, bl15, sl15, st15⟩ := X13.finit hexec hown (wk W (.fieldLink "java/lang/String" 9 "java/lang/String" "value" "[B")) (Or.inr ⟨_, (wk W (.laysFinal "java/lang/String" "java/lang/String" "value" "[B"))⟩) (Or.inl ⟨rfl, hnm⟩) f1 (Or.inl rfl) bl13 (t := (.array .byte)) (by decide +kernel) rfl (g := (mkF m 54 #[.val (.ref a), .val (.ref b), .val (.int (Int32.ofNat o)), .val (.int (Int32.ofNat len)), .val .null, .val (.ref s.heap.size)] [.ref s.heap.size, .ref a])) rfl (rest := []) rfl (hb hbytes d54)
  have c16 : Steps p.tables e below (s₁.setTop (entryFrame m #[.ref a, .ref b, .int (Int32.ofNat o), .int (Int32.ofNat len), .null] 6)) (T15.setTop (mkF m 57 #[.val (.ref a), .val (.ref b), .val (.int (Int32.ofNat o)), .val (.int (Int32.ofNat len)), .val .null, .val (.ref s.heap.size)] [])) := c14.trans (st15 _ (Steps.refl _))
  have ap := apart (Or.inr ⟨_, (wk W (.laysFinal "java/lang/String" "java/lang/String" "value" "[B"))⟩) (Or.inr ⟨_, (wk W (.laysFinal "java/lang/String" "java/lang/String" "coder" "B"))⟩) f1 f2 (t₁ := .array .byte) (t₂ := .byte) (by decide +kernel) (by decide +kernel) (by decide)
  have al := X8.warmed.alike.symm.trans X15.warmed.alike
  have n7 : T11.heap[s.heap.size]? = some N := by rw [q11]; exact n1.1
  exact ⟨T15, none, _, _, _, X15, by simp, rfl, by omega, (fun _ => rfl), ⟨rfl, _, N, bl15, ((Same.refl D _).set _ (by simp)).set _ (by simp), sl15, (Cell.slots_setSlot_ne _ ap).trans sl13, n1.keep al (p15.other hne (p13.other hne n7)), n2, by rw [al.findClass]; exact n3, n4, n5, fun y c h1 h2 => p15.other h1 (p13.other h1 (by rw [q11]; exact n6 y c h2)), by rw [p15.2.2, p13.2.2, q11]; exact z8⟩, fun fs hl => c16.trans (X15.returnOut hexec hret (hb hbytes d57) hl)⟩
end New4
namespace New1
def yN : MethodName := ⟨"java/lang/String", "<init>", "([C)V"⟩
abbrev yB : ByteArray := jdk_42_method_3_code
theorem d0 : decode yB 0 = .ok (.aload_n 0, 1) := by decide +kernel
theorem d1 : decode yB 1 = .ok (.aload_n 1, 1) := by decide +kernel
theorem d2 : decode yB 2 = .ok (.iconst 0, 1) := by decide +kernel
theorem d3 : decode yB 3 = .ok (.aload_n 1, 1) := by decide +kernel
theorem d4 : decode yB 4 = .ok (.arraylength, 1) := by decide +kernel
theorem d5 : decode yB 5 = .ok (.aconst_null, 1) := by decide +kernel
theorem d6 : decode yB 6 = .ok (.invokespecial 27, 3) := by decide +kernel
theorem d9 : decode yB 9 = .ok (.return_, 1) := by decide +kernel
def site : List Cond := [New4.tab] ++ initW "java/lang/String" 27 New4.yN
def tab : Cond := tabOf yN yB 2 none site
def P (a : Addr) (D : Cell) (fV fC : Field) (b : Addr) (A : Cell) (z : Int32) (args : Array Value) (s : State) : Prop := args = #[.ref a, .ref b] ∧ Blank "java/lang/String" a D s ∧ Found "java/lang/String" "value" "[B" fV s ∧ Found "java/lang/String" "coder" "B" fC s ∧ Ch b A s ∧ StaticIs s "java/lang/String" "COMPACT_STRINGS" "Z" (.int z) ∧ ¬ z = 0 ∧ 0 < A.slots.size ∧ A.slots.size ≤ 536870912 ∧ ∀ i, i < A.slots.size → ¬ 255 < cv A i
def E (a : Addr) (D : Cell) (fV fC : Field) (A : Cell) (r : Option Value) (s u : State) : Prop := Got a D fV fC A 0 A.slots.size r s u
/-- new String(chars), not empty, no char above 255: a Latin-1 String of their low bytes -/
theorem law (l : Launch) (a : Addr) (D : Cell) (fV fC : Field) (b : Addr) (A : Cell) (z : Int32) : Law l yN 2 1 3 52 yB 2 none site (P a D fV fC b A z) (E a D fV fC A) [⟨a, fC.slot⟩, ⟨a, fV.slot⟩] 1 A.slots.size := by
  refine Law.of_walk (plainFor_of_name (by decide +kernel)) (by decide +kernel) (by decide +kernel) (by decide) (fun _ _ h => by rw [h.1]; rfl) (fun _ U U' hal hh h => ⟨h.1, h.2.1.mv hal hh, h.2.2.1.al hal, h.2.2.2.1.al hal, h.2.2.2.2.1.mv hal hh, h.2.2.2.2.2.1.there hal hh, h.2.2.2.2.2.2⟩) (fun r U U' V V' h1 hal h2 h => Got.mv r U U' V V' h1 hal h2 h) ?_
  intro p e s m args below meth c s₁ X0 hexec hbytes hml hret hlk hnm hown hh0 W hP
  obtain ⟨rfl, hB, f1, f2, hA, s1, hz, l0, l2, hp⟩ := hP
  have c1 : Steps p.tables e below (s₁.setTop (entryFrame m #[.ref a, .ref b] 2)) (s₁.setTop (mkF m 0 #[.val (.ref a), .val (.ref b)] [])) := entry rfl
  have c2 : Steps p.tables e below (s₁.setTop (entryFrame m #[.ref a, .ref b] 2)) (s₁.setTop (mkF m 6 #[.val (.ref a), .val (.ref b)] [.null, .int (Int32.ofNat A.slots.size), .int 0, .ref b, .ref a])) := c1.trans (by
    refine XS.aloadN X0.here hexec rfl (hb hbytes d0) rfl rfl ?_
    refine XS.aloadN X0.here hexec rfl (hb hbytes d1) rfl rfl ?_
    refine iconstV X0.here hexec rfl 0 (hb hbytes d2) (by decide) ?_
    refine XS.aloadN X0.here hexec rfl (hb hbytes d3) rfl rfl ?_
    refine X0.alen hexec (hA.1.mv X0.warmed.alike hh0) rfl rfl (hb hbytes d4) ?_
    refine XS.aconstNull X0.here hexec rfl (hb hbytes d5) ?_
    exact Steps.refl _)
  obtain ⟨v3, T3, X3, E3, g3⟩ := X0.callN hexec (New4.law l a D fV fC b A z 0 A.slots.size) rfl hown (wks W (initW "java/lang/String" 27 New4.yN)) (W New4.tab (by simp only [site, List.mem_cons, List.mem_append, true_or, or_true])) (W := 0) (Nat.le_of_ble_eq_true rfl) (Nat.le_of_ble_eq_true rfl) (Nat.le_refl _) (by show 0 + A.slots.size ≤ A.slots.size; omega) (g := (mkF m 6 #[.val (.ref a), .val (.ref b)] [.null, .int (Int32.ofNat A.slots.size), .int (Int32.ofNat 0), .ref b, .ref a])) rfl (by rw [hml]; rfl) c2 (argsL := [.ref b, .int (Int32.ofNat 0), .int (Int32.ofNat A.slots.size), .null]) (rest := []) rfl rfl (by show 2 * 0 + 0 ≤ _; decide) (hb hbytes d6) (⟨rfl, hB.mv X0.warmed.alike hh0, f1.al X0.warmed.alike, f2.al X0.warmed.alike, hA.mv X0.warmed.alike hh0, s1.there X0.warmed.alike hh0, hz, l0, by omega, l2, fun i hi => by rw [Nat.zero_add]; exact hp i hi⟩)
  have e0 := Got.mv _ s₁ s _ _ hh0.symm (Vm.Alike.refl _) rfl E3
  obtain rfl := e0.1
  have c4 : Steps p.tables e below (s₁.setTop (entryFrame m #[.ref a, .ref b] 2)) (T3.setTop (mkF m 9 #[.val (.ref a), .val (.ref b)] [])) := g3
  exact ⟨T3, none, _, _, _, X3, by simp, rfl, by omega, (fun _ => rfl), e0, fun fs hl => c4.trans (X3.returnOut hexec hret (hb hbytes d9) hl)⟩
theorem pays {l : Launch} {R : Room} {p : Program} {e : Env} {below : List Frame} {s : State} {sargs : Array Value} {len W : Nat} (a : Addr) (D : Cell) (fV fC : Field) (b : Addr) (A : Cell) (z : Int32) (htab : tab.before sargs s = true) (hfr : 4 ≤ R.frames) (hlo : W + 65 ≤ R.locals) :
    Back l R p e below s sargs yN len W (fun A₁ a₁ => A₁.cells + 1 ≤ R.cells ∧ A₁.slots + A.slots.size ≤ R.slots ∧ P a D fV fC b A z a₁ A₁.U) (fun A₁ _ v₁ B₁ => E a D fV fC A v₁ A₁.U B₁.U ∧ B₁.locs = A₁.locs ++ [⟨a, fC.slot⟩, ⟨a, fV.slot⟩] ∧ B₁.cells = A₁.cells + 1 ∧ B₁.slots = A₁.slots + A.slots.size) :=
  (law l a D fV fC b A z).pays htab hfr (by omega)
end New1
end StrChars
namespace StrChars.Road
open Jvm Sem ClassFile Op Lib Jvm.Stand Jvm.Free Jvm.Free.XT
open Jvm.Lib.Cold (StaticIs)
abbrev ST : String := "java/lang/String"
/-- every table word that New1's law asks, flat -/
abbrev words : List Jvm.Cond := [.code New1.yN New1.yB 2 none, .initialized ST, .methodLink ST 27 New4.yN, .instanceMethod New4.yN,
  .code New4.yN New4.yB 6 none, .fieldLink ST 38 ST "COMPACT_STRINGS" "Z", .laysFinal ST ST "value" "[B", .fieldLink ST 9 ST "value" "[B", .laysFinal ST ST "coder" "B", .fieldLink ST 15 ST "coder" "B",
  .methodLink ST 1 Lib.objectInit, .instanceMethod Lib.objectInit, .code Lib.objectInit ⟨#[0xb1]⟩ 1 none, .methodLink ST 177 Cmp3.yN, .static Cmp3.yN, .methodLink ST 47 CodL.yN, .static CodL.yN,
  .code Cmp3.yN Cmp3.yB 6 (some (.array .byte)), .initialized U16, .arrayClass .byte, .methodLink U16 115 Cmp5.yN, .static Cmp5.yN, .code Cmp5.yN Cmp5.yB 7 (some .int), .code CodL.yN CodL.yB 2 (some .byte)]
theorem tab_of {a : Array Value} {s : State} (h : ∀ w ∈ words, w.before a s = true) : New1.tab.before a s = true := by
  have h5 : Cmp5.tab.before a s = true := unparts (wk h (.code Cmp5.yN Cmp5.yB 7 (some .int))) (wks h (.initialized Cmp5.yN.cls :: Cmp5.site))
  have hc : CodL.tab.before a s = true := unparts (wk h (.code CodL.yN CodL.yB 2 (some .byte))) (wks h (.initialized CodL.yN.cls :: CodL.site))
  have q5 : ∀ w ∈ Cmp5.tab :: words, w.before a s = true := fun w hw => (List.mem_cons.mp hw).elim (fun e => e ▸ h5) (h w)
  have h3 : Cmp3.tab.before a s = true := unparts (wk q5 (.code Cmp3.yN Cmp3.yB 6 (some (.array .byte)))) (wks q5 (.initialized Cmp3.yN.cls :: Cmp3.site))
  have q3 : ∀ w ∈ Cmp3.tab :: CodL.tab :: words, w.before a s = true := fun w hw => (List.mem_cons.mp hw).elim (fun e => e ▸ h3) fun hw => (List.mem_cons.mp hw).elim (fun e => e ▸ hc) (h w)
  have h4 : New4.tab.before a s = true := unparts (wk q3 (.code New4.yN New4.yB 6 none)) (wks q3 (.initialized New4.yN.cls :: New4.site))
  have q4 : ∀ w ∈ New4.tab :: words, w.before a s = true := fun w hw => (List.mem_cons.mp hw).elim (fun e => e ▸ h4) (h w)
  exact unparts (wk q4 (.code New1.yN New1.yB 2 none)) (wks q4 (.initialized New1.yN.cls :: New1.site))
/-- the words ride from the start Z to the walk's own state -/
theorem moved {Z s : State} {a0 args : Array Value} (hZ : Z.Warmed39 s.vm) (hw : ∀ d ∈ words, d.before a0 Z = true) : ∀ d ∈ words, d.before args s = true := fun d hd => by
  have q := hw d hd
  have t : ∀ d ∈ words, d = .arrayClass .byte ∨ (d.onTables && d.keepsFace) = true := by decide +kernel
  rcases t d hd with rfl | t
  · exact RoadKit.mvA hZ q
  · exact RoadKit.mv hZ q t
/-- WHAT COMES BACK, over the tables of the start Z: h the heap at the call, h' behind it -/
def Q (Z : State) (x : Addr) (A : Cell) (h : Heap) (v : Option Value) (h' : Heap) (L : List Loc) : Prop := v = none ∧ (∀ y ∈ L, y.base = x) ∧ RoadKit.Keep h h' [x] ∧ h'.size = h.size + 1 ∧ RoadKit.Exa Z h' x ST ∧ RoadKit.Fld Z h' x ST "value" "[B" (.ref h.size) ∧ RoadKit.Fld Z h' x ST "coder" "B" (.int 0) ∧
  (∃ V : Cell, RoadKit.Arr Z h' h.size V .byte ∧ V.vm = .none ∧ Z.vm.findClass "[B" = some V.cls ∧ V.slots.size = A.slots.size ∧ ∀ j, j < A.slots.size → V.slots[j]? = some (.int (lo8 (cv A j)))) ∧
  ∀ (O n d : String) (w : Value), RoadKit.Fld Z h x O n d w → RoadKit.slotOf Z O n d ≠ RoadKit.slotOf Z ST "value" "[B" → RoadKit.slotOf Z O n d ≠ RoadKit.slotOf Z ST "coder" "B" → RoadKit.Fld Z h' x O n d w
/-- **new String(chars) AT A CALL, IN THE ROAD'S FORM**: for specialBack behind newO: x the fresh String, b the char[] with the cell A -/
theorem back {p : Program} {l : Launch} {e : Env} {R : Room} {s : State} {args : Array Value} {below : List Frame} {len W : Nat} {Z : State} {a0 : Array Value} {h : Heap} (hZ : Z.Warmed39 s.vm) (hw : ∀ d ∈ words, d.before a0 Z = true) {kI : Nat} (wi : (Jvm.Cond.instantiable ST kI).before a0 Z = true)
    {x b : Addr} {A : Cell} {z : Int32} {v0 c0 : Value} (E : RoadKit.Exa Z h x ST) (V : RoadKit.Fld Z h x ST "value" "[B" v0) (C : RoadKit.Fld Z h x ST "coder" "B" c0) (K : RoadKit.Arr Z h b A .char) (hty : Typed .char A) (S : RoadKit.Sta Z h ST "COMPACT_STRINGS" "Z" (.int z)) (hz : ¬ z = 0)
    (l0 : 0 < A.slots.size) (l2 : A.slots.size ≤ 536870912) (hp : ∀ i, i < A.slots.size → ¬ 255 < cv A i) (hfr : 4 ≤ R.frames) (hlo : W + 65 ≤ R.locals) :
    Back l R p e below s args New1.yN len W (fun P a => a = #[.ref x, .ref b] ∧ P.U.heap = h ∧ P.cells + 1 ≤ R.cells ∧ P.slots + A.slots.size ≤ R.slots)
      (fun P _ v B => ∃ L, Q Z x A h v B.U.heap L ∧ B.locs = P.locs ++ L ∧ B.cells = P.cells + 1 ∧ B.slots = P.slots + A.slots.size) := by
  intro m meth c P g ig mk a X hg hsize hdg hW hn hp'
  obtain ⟨rfl, rfl, r1, r2⟩ := hp'
  have al : Z.vm.Alike P.U.vm := hZ.alike.trans X.warmed.alike
  obtain ⟨D, cfV, kV, iV, fV, hD, gV, stV, knV, obV, asV, slV⟩ := id V
  obtain ⟨D', cfC, kC, iC, fC, hD', gC, stC, -, -, asC, slC⟩ := id C
  cases hD.symm.trans hD'
  obtain ⟨D2, kD, e1, e2, e3, e4, e5⟩ := id E
  cases hD.symm.trans e1
  obtain ⟨c2, k2, i1, i2, i3, -⟩ := Cond.instantiable_spec wi
  cases e2.symm.trans i1
  cases e3.symm.trans i2
  obtain ⟨kU, u1, u2⟩ := al.2.2 _ _ e3
  have hB : Blank ST x D P.U := ⟨hD, ⟨knV, fun q hq => by rw [hq] at obV; cases obV⟩, by rw [al.findClass]; exact e2, kU, u1, by rw [u2]; exact i3, by rw [u2]; exact e5 i3⟩
  have F1 : Found ST "value" "[B" fV P.U := ⟨SBG.found_only al ⟨cfV, kV, iV, gV⟩, stV⟩
  have F2 : Found ST "coder" "B" fC P.U := ⟨SBG.found_only al ⟨cfC, kC, iC, gC⟩, stC⟩
  have hA : Ch b A P.U := ⟨⟨K.1, State.isArrayOf_alike al K.2.1, K.2.2, by omega⟩, hty⟩
  have hS : StaticIs P.U ST "COMPACT_STRINGS" "Z" (.int z) := by
    obtain ⟨cfS, iS, kS, fS, st, cS, t1, t2, t3, t4, t5, t6, t7⟩ := S
    exact StaticIs.there (s := { Z with heap := P.U.heap }) ⟨cfS, iS, kS, fS, st, cS, t1, t2, t3, t4, t5, (fun q => by rw [q] at t6; cases t6), t7⟩ al rfl
  obtain ⟨v, B, X', ⟨⟨hv, E', V', q1, q2, q3, q4, q5, q6, q7, q8, q9, q10, q11⟩, hl, hc, hs⟩, st⟩ := New1.pays x D fV fC b A z (tab_of (moved hZ hw)) hfr hlo m meth c P g ig mk _ X hg hsize hdg hW hn ⟨r1, r2, rfl, hB, F1, F2, hA, hS, hz, l0, l2, hp⟩
  have al' : Z.vm.Alike B.U.vm := hZ.alike.trans X'.warmed.alike
  have hsz : E'.slots.size = D.slots.size := by
    obtain ⟨-, -, -, kB, w1, w2, w3⟩ := q1
    obtain ⟨kB', y1, y2⟩ := al'.2.2 _ _ e3
    rw [q2.2.1] at w1
    cases w1.symm.trans y1
    rw [w3, e5 i3, y2]
  refine ⟨v, B, X', ⟨_, ⟨hv, ?_, ⟨by omega, fun y cy hy hn' => q10 y cy (by simpa using hn') hy, fun y cy hy => ?_⟩, q11, ⟨E', _, q1.1, by rw [q2.2.1]; exact e2, by rw [q2.2.1]; exact e3, by rw [q2.1]; exact obV, fun _ => by rw [hsz]; exact e5 i3⟩,
    ⟨E', cfV, kV, iV, fV, q1.1, gV, stV, by rw [q2.1]; exact knV, by rw [q2.1]; exact obV, by rw [q2.2.1]; exact asV, q3⟩, ⟨E', cfC, kC, iC, fC, q1.1, gC, stC, by rw [q2.1]; exact knV, by rw [q2.1]; exact obV, by rw [q2.2.1]; exact asC, q4⟩,
    ⟨V', ⟨q5.1, State.isArrayOf_alike al'.symm q5.2.1, q5.2.2.1⟩, q6, by rw [← al'.findClass]; exact q7, q8, fun j hj => by have := q9 j hj; rwa [Nat.zero_add] at this⟩, fun O n d w F n1 n2 => ?_⟩, hl, hc, hs⟩, st⟩
  · intro y hy
    simp only [List.mem_cons, List.not_mem_nil, or_false] at hy
    rcases hy with rfl | rfl <;> rfl
  · by_cases q : y = x
    · subst q
      cases hD.symm.trans hy
      exact ⟨E', q1.1, q2.2.1, q2.1, hsz⟩
    · exact ⟨cy, q10 y cy q hy, rfl, rfl, rfl⟩
  · obtain ⟨D3, cf, k, i, f, g1, g2, g3, g4, g5, g6, g7⟩ := F
    cases hD.symm.trans g1
    simp only [RoadKit.slotOf, g2, gV, gC, Option.map_some, Option.getD_some] at n1 n2
    exact ⟨E', cf, k, i, f, q1.1, g2, g3, by rw [q2.1]; exact g4, by rw [q2.1]; exact g5, by rw [q2.2.1]; exact g6, by rw [q2.2.2 f.slot (by simp [n1, n2])]; exact g7⟩
end StrChars.Road
namespace StrChars.Road
open Jvm Sem ClassFile Op Lib Jvm.Stand Jvm.Free Jvm.Free.XT
/-- WHAT COMES BACK, the byte[] as a list of values -/
def QA (Z : State) (x : Addr) (zn : Int32) (cs : List Int32) (h : Heap) (v : Option Value) (h' : Heap) (L : List Loc) : Prop := v = none ∧ (∀ y ∈ L, y.base = x) ∧ RoadKit.Keep h h' [x] ∧ h'.size = h.size + 1 ∧ RoadKit.Exa Z h' x ST ∧ RoadKit.Fld Z h' x ST "value" "[B" (.ref h.size) ∧ RoadKit.Fld Z h' x ST "coder" "B" (.int 0) ∧
  (∃ kb, Z.vm.findClass "[B" = some kb ∧ RoadKit.Arv Z h' h.size kb .byte zn (cs.map fun c => .int (lo8 c)) (.int 0)) ∧
  ∀ (O n d : String) (w : Value), RoadKit.Fld Z h x O n d w → RoadKit.slotOf Z O n d ≠ RoadKit.slotOf Z ST "value" "[B" → RoadKit.slotOf Z O n d ≠ RoadKit.slotOf Z ST "coder" "B" → RoadKit.Fld Z h' x O n d w
/-- **new String(chars) AT A CALL, THE ARRAYS AS LISTS**: the char[] at b holds cs, not empty, no char above 255 -/
theorem backArv {p : Program} {l : Launch} {e : Env} {R : Room} {s : State} {args : Array Value} {below : List Frame} {len W : Nat} {Z : State} {a0 : Array Value} {h : Heap} (hZ : Z.Warmed39 s.vm) (hw : ∀ d ∈ words, d.before a0 Z = true) {kI : Nat} (wi : (Jvm.Cond.instantiable ST kI).before a0 Z = true)
    {x b : Addr} {k : ClassId} {zn z : Int32} {cs : List Int32} {dv v0 c0 : Value} (E : RoadKit.Exa Z h x ST) (V : RoadKit.Fld Z h x ST "value" "[B" v0) (C : RoadKit.Fld Z h x ST "coder" "B" c0) (K : RoadKit.Arv Z h b k .char zn (cs.map Value.int) dv) (S : RoadKit.Sta Z h ST "COMPACT_STRINGS" "Z" (.int z)) (hz : ¬ z = 0)
    (hlen : zn.toNatClampNeg = cs.length) (h0 : 0 < cs.length) (hbig : cs.length ≤ 536870912) (hall : ∀ c ∈ cs, ¬ 255 < c) (hfr : 4 ≤ R.frames) (hlo : W + 65 ≤ R.locals) :
    Back l R p e below s args New1.yN len W (fun P a => a = #[.ref x, .ref b] ∧ P.U.heap = h ∧ P.cells + 1 ≤ R.cells ∧ P.slots + cs.length ≤ R.slots)
      (fun P _ v B => ∃ L, QA Z x zn cs h v B.U.heap L ∧ B.locs = P.locs ++ L ∧ B.cells = P.cells + 1 ∧ B.slots = P.slots + cs.length) := by
  obtain ⟨A, K1, K2, K3, K4, K5, K6⟩ := K
  have e : A.slots.size = cs.length := K3.trans hlen
  have hat : ∀ (i : Nat) (hi : i < cs.length), A.slots[i]? = some (.int cs[i]) := fun i hi => by rw [K5 i (by omega)]; simp [List.getD_eq_getElem?_getD, hi]
  have hcv : ∀ (i : Nat) (hi : i < cs.length), cv A i = cs[i] := fun i hi => by unfold cv; rw [hat i hi]
  have hty : Typed .char A := fun i v hv => by
    have hi : i < A.slots.size := (Array.getElem?_eq_some_iff.mp hv).1
    have q := K5 i hi
    rw [hv] at q
    rw [Option.some.inj q]
    exact K6 i hi
  refine Back.mono (back hZ hw wi E V C K1 hty S hz (by omega) (by omega) (fun i hi => by rw [hcv i (by omega)]; exact hall _ (List.getElem_mem _)) hfr hlo) (fun P a hp => ⟨hp.1, hp.2.1, hp.2.2.1, by rw [e]; exact hp.2.2.2⟩) (fun P a v B hp hq => ?_)
  obtain ⟨L, ⟨q1, q2, q3, q4, q5, q6, q7, ⟨V', v1, v2, v3, v4, v5⟩, q9⟩, hl, hc, hs⟩ := hq
  refine ⟨L, ⟨q1, q2, q3, q4, q5, q6, q7, ⟨V'.cls, v3, V', v1, rfl, by rw [v4, e, hlen], K4, fun i hi => ?_, fun i hi => ?_⟩, q9⟩, hl, hc, by rw [hs, e]⟩
  · have hi' : i < cs.length := by omega
    rw [v5 i (by omega), hcv i hi']; simp [List.getD_eq_getElem?_getD, hi']
  · have hi' : i < cs.length := by omega
    simp only [List.getD_eq_getElem?_getD, List.getElem?_map, List.getElem?_eq_getElem hi', Option.map_some, Option.getD_some]
    exact fits_lo8 _
end StrChars.Road
namespace StrChars.Road
open Jvm Sem ClassFile Op Lib Jvm.Stand Jvm.Free Jvm.Free.XT
/-- WHAT COMES BACK, in the writer's own shape -/
def QV (Z : State) (x : Addr) (N : Int32) (bs : List Int32) (h : Heap) (n0 : Nat) (v : Option Value) (h' : Heap) (L : List Loc) : Prop := v = none ∧ RoadKit.Fr n0 L ∧ RoadKit.Keep h h' [x] ∧ RoadKit.Exa Z h' x ST ∧ RoadKit.Fld Z h' x ST "coder" "B" (.int 0) ∧
  ∃ (t : Addr) (kb : ClassId), n0 ≤ t ∧ h.size ≤ t ∧ ¬ t = x ∧ RoadKit.Fld Z h' x ST "value" "[B" (.ref t) ∧ RoadKit.Arv Z h' t kb .byte N (bs.map Value.int) (.int 0)
/-- **new String(chars) AT A CALL, FOR THE WRITER**: a char[] of n known ints, each 0 to 255 -/
theorem backV {p : Program} {l : Launch} {e : Env} {R : Room} {s : State} {args : Array Value} {below : List Frame} {len W : Nat} {Z : State} {a0 : Array Value} {h : Heap} (hZ : Z.Warmed39 s.vm) (hw : ∀ d ∈ words, d.before a0 Z = true) {kI : Nat} (wi : (Jvm.Cond.instantiable ST kI).before a0 Z = true)
    {x b : Addr} {kC : ClassId} {cs bs : List Int32} {d v0 c0 : Value} {z N : Int32} {n n0 : Nat} (hx0 : n0 ≤ x) (hh0 : n0 ≤ h.size) (E : RoadKit.Exa Z h x ST) (V : RoadKit.Fld Z h x ST "value" "[B" v0) (C : RoadKit.Fld Z h x ST "coder" "B" c0) (K : RoadKit.Arv Z h b kC .char N (cs.map Value.int) d) (S : RoadKit.Sta Z h ST "COMPACT_STRINGS" "Z" (.int z)) (hz : ¬ z = 0)
    (hn : cs.length = n) (hN : N = Int32.ofNat n) (l0 : 0 < n) (l2 : n ≤ 4000) (hp : ∀ c ∈ cs, ¬ c < 0 ∧ ¬ (255 : Int32) < c) (hb : bs = cs.map (fun c => c.toInt8.toInt32)) (hfr : 4 ≤ R.frames) (hlo : W + 65 ≤ R.locals) :
    Back l R p e below s args (⟨"java/lang/String", "<init>", "([C)V"⟩ : MethodName) len W (fun P a => a = #[.ref x, .ref b] ∧ P.U.heap = h ∧ P.cells + 1 ≤ R.cells ∧ P.slots + n ≤ R.slots)
      (fun P _ v B => ∃ L, QV Z x N bs h n0 v B.U.heap L ∧ B.locs = P.locs ++ L ∧ B.cells = P.cells + 1 ∧ B.slots = P.slots + n) := by
  subst hn hN hb
  refine Back.mono (backArv hZ hw wi E V C K S hz (n32 (by omega)) l0 (by omega) (fun c hc => (hp c hc).2) hfr hlo) (fun P a hp => hp) (fun P a v B hp hq => ?_)
  obtain ⟨L, ⟨q1, q2, q3, q4, q5, q6, q7, ⟨kb, v1, v2⟩, q9⟩, hl, hc, hs⟩ := hq
  exact ⟨L, ⟨q1, fun y hy => by rw [q2 y hy]; exact hx0, q3, q5, q7, h.size, kb, hh0, Nat.le_refl _, Nat.ne_of_gt E.lt, q6, by rw [List.map_map]; exact v2⟩, hl, hc, hs⟩
end StrChars.Road
end Jvm.Pilot.@@N@@
namespace Jvm.Pilot.@@N@@
open Jvm Jvm.ClassFile Sem Op Lib Jvm.Free Jvm.Stand Jvm.LawKit Jvm.RoadKit Bundle Jvm.Pilot.@@N@@.Jvm.D
/-! own small kit: the goal of a walk, backward; the leaves -/
def Gl (tb : Tables) (e : Env) (below : List Frame) (QQ : Outcome → State → Prop) (st : State) : Prop := ∃ s₂ o, Steps tb e below st s₂ ∧ s₂.status = .running ∧ Ended s₂ below o ∧ QQ o s₂
theorem Gl.go {tb : Tables} {e : Env} {below : List Frame} {QQ : Outcome → State → Prop} {st st' : State} (h : ∀ t, Steps tb e below st' t → Steps tb e below st t) (g : Gl tb e below QQ st') : Gl tb e below QQ st := by
  obtain ⟨s2, o, h1, h2⟩ := g
  exact ⟨s2, o, h _ h1, h2⟩
def QQof (s : State) (Q : Option Value → Heap → List Loc → Prop) (k n : Nat) : Outcome → State → Prop := fun o U => ∃ v L, o = .returned v ∧ Q v U.heap L ∧ FrameEnd s o U L k n
section Leaf
variable {p : Program} {l : Launch} {e : Env} {R : Room} {s : State} {m : MethodId} {args : Array Value} {below : List Frame} {meth : Method} {c : Code} {T : State} {locs : List Loc} {cells slots : Nat} {pc : Nat} {Ls : Array Slot} {rest : List Value} {Q : Option Value → Heap → List Loc → Prop} {k n : Nat}
theorem leafN (X : Stand p l e R s m args below meth c T locs cells slots) (hx : p.tables.exec = Jvm.exec) (hlk : meth.locks = false) {z : Int32} {t : FieldType} (hret : meth.sig.returnType = some t) (ht : t = .boolean ∨ t = .byte ∨ t = .char ∨ t = .short) (hd : decode c.code pc = .ok (.ireturn, 1))
    (hq : Q (some (.int (nar t z))) T.heap locs) (hk : cells ≤ k) (hn : slots ≤ n) : Gl p.tables e below (QQof s Q k n) (T.setTop (mkF m pc Ls (.int z :: rest))) := by
  obtain ⟨fs, hr, hrun, hended, hW, hsame⟩ := X.leave (v := some (.int (nar t z))) (fun h => by rw [hret] at h; cases h) hlk
  exact ⟨_, _, retN X hx hret ht hd hr, hrun, hended, _, _, rfl, hq, ⟨_, rfl⟩, hW, hsame.mono hk hn⟩
theorem leafI (X : Stand p l e R s m args below meth c T locs cells slots) (hx : p.tables.exec = Jvm.exec) (hlk : meth.locks = false) {z : Int32} (hret : meth.sig.returnType = some .int) (hd : decode c.code pc = .ok (.ireturn, 1))
    (hq : Q (some (.int z)) T.heap locs) (hk : cells ≤ k) (hn : slots ≤ n) : Gl p.tables e below (QQof s Q k n) (T.setTop (mkF m pc Ls (.int z :: rest))) := by
  obtain ⟨fs, hr, hrun, hended, hW, hsame⟩ := X.leave (v := some (.int z)) (fun h => by rw [hret] at h; cases h) hlk
  exact ⟨_, _, retOut X hx hret rfl (Or.inl ⟨rfl, Or.inl rfl, _, rfl⟩) hd hr, hrun, hended, _, _, rfl, hq, ⟨_, rfl⟩, hW, hsame.mono hk hn⟩
theorem leafL (X : Stand p l e R s m args below meth c T locs cells slots) (hx : p.tables.exec = Jvm.exec) (hlk : meth.locks = false) {z : Int64} (hret : meth.sig.returnType = some .long) (hd : decode c.code pc = .ok (.lreturn, 1))
    (hq : Q (some (.long z)) T.heap locs) (hk : cells ≤ k) (hn : slots ≤ n) : Gl p.tables e below (QQof s Q k n) (T.setTop (mkF m pc Ls (.long z :: rest))) := by
  obtain ⟨fs, hr, hrun, hended, hW, hsame⟩ := X.leave (v := some (.long z)) (fun h => by rw [hret] at h; cases h) hlk
  exact ⟨_, _, retOut X hx hret rfl (Or.inr (Or.inl ⟨rfl, rfl, _, rfl⟩)) hd hr, hrun, hended, _, _, rfl, hq, ⟨_, rfl⟩, hW, hsame.mono hk hn⟩
theorem leafD (X : Stand p l e R s m args below meth c T locs cells slots) (hx : p.tables.exec = Jvm.exec) (hlk : meth.locks = false) {z : UInt64} (hret : meth.sig.returnType = some .double) (hd : decode c.code pc = .ok (.dreturn, 1))
    (hq : Q (some (.double z)) T.heap locs) (hk : cells ≤ k) (hn : slots ≤ n) : Gl p.tables e below (QQof s Q k n) (T.setTop (mkF m pc Ls (.double z :: rest))) := by
  obtain ⟨fs, hr, hrun, hended, hW, hsame⟩ := X.leave (v := some (.double z)) (fun h => by rw [hret] at h; cases h) hlk
  exact ⟨_, _, retOut X hx hret rfl (Or.inr (Or.inr (Or.inl ⟨rfl, rfl, _, rfl⟩))) hd hr, hrun, hended, _, _, rfl, hq, ⟨_, rfl⟩, hW, hsame.mono hk hn⟩
theorem narrowR {t : FieldType} {w : Value} (ht : t.isReference = true) (hw : w.isRef = true) : narrow t w = w := by
  cases w <;> simp [Value.isRef] at hw <;> cases t <;> simp [FieldType.isReference] at ht <;> rfl
theorem leafA (X : Stand p l e R s m args below meth c T locs cells slots) (hx : p.tables.exec = Jvm.exec) (hlk : meth.locks = false) {w : Value} {t : FieldType} (hret : meth.sig.returnType = some t) (ht : t.isReference = true) (hw : w.isRef = true) (hd : decode c.code pc = .ok (.areturn, 1))
    (hq : Q (some w) T.heap locs) (hk : cells ≤ k) (hn : slots ≤ n) : Gl p.tables e below (QQof s Q k n) (T.setTop (mkF m pc Ls (w :: rest))) := by
  obtain ⟨fs, hr, hrun, hended, hW, hsame⟩ := X.leave (v := some w) (fun h => by rw [hret] at h; cases h) hlk
  exact ⟨_, _, retOut X hx hret (narrowR ht hw) (Or.inr (Or.inr (Or.inr (Or.inr ⟨rfl, ht, hw⟩)))) hd hr, hrun, hended, _, _, rfl, hq, ⟨_, rfl⟩, hW, hsame.mono hk hn⟩
theorem leafV (X : Stand p l e R s m args below meth c T locs cells slots) (hx : p.tables.exec = Jvm.exec) (hlk : meth.locks = false) (hret : meth.sig.returnType = none) (hd : decode c.code pc = .ok (.return_, 1))
    (hq : Q none T.heap locs) (hk : cells ≤ k) (hn : slots ≤ n) : Gl p.tables e below (QQof s Q k n) (T.setTop (mkF m pc Ls [])) := by
  obtain ⟨fs, hr, hrun, hended, hW, hsame⟩ := X.leave (v := none) (fun _ => rfl) hlk
  exact ⟨_, _, X.returnOut hx hret hd hr, hrun, hended, _, _, rfl, hq, ⟨_, rfl⟩, hW, hsame.mono hk hn⟩
end Leaf
theorem fitsR {t : FieldType} {w : Value} (ht : t.isReference = true) (hw : w.isRef = true) : fits t w = true := by
  cases w <;> simp [Value.isRef] at hw <;> cases t <;> simp [FieldType.isReference] at ht <;> rfl
theorem nar1 : nar .boolean (1 : Int32) = 1 := by decide
theorem nar0 : nar .boolean (0 : Int32) = 0 := by decide
theorem int_at {args : Array Value} {s : State} {t : Term} {k : Int32} (h : (Jvm.Cond.eq t (.int k)).value args s none s [] = some true) : t.eval args s none [] s = some (.int k) := by
  obtain ⟨x, y, hx, hy, kx, ky⟩ := cmp_v (Or.inl h)
  have hk : y = .int k := Option.some.inj (hy.symm.trans (Term.int_eval k))
  subst hk
  obtain ⟨z, rfl⟩ := ky
  have hz := gotT (Cond.eq_ints hx (Term.int_eval k)) h
  rw [hx, hz]
theorem fld_int {args : Array Value} {s : State} {t : Term} {C n d : String} {k : Int32} {x : Addr} (ht : t.eval args s none [] s = some (.ref x)) (h : (Jvm.Cond.eq (.field t C n d) (.int k)).value args s none s [] = some true) : Fld s s.heap x C n d (.int k) := Fld.start ((fld_at ht).symm.trans (int_at h))
theorem ref_at {args : Array Value} {s : State} {a b : Term} {x : Addr} (hb : b.eval args s none [] s = some (.ref x)) (h : (Jvm.Cond.eq a b).value args s none s [] = some true) : a.eval args s none [] s = some (.ref x) := by
  obtain ⟨y, z, hy, hz, ky, kz⟩ := cmp_v (Or.inl h)
  have hk : z = .ref x := Option.some.inj (hz.symm.trans hb)
  subst hk
  have hr : y.isRef = true := kz.2
  have he := gotT (eq_R hy hb hr rfl) h
  rw [hy, he]
theorem ext_of_keep {h h' : Heap} (K : Keep h h' []) : Ext h h' := ⟨K.1, fun a c q => K.2.1 a c q nin0⟩
theorem arr_len {args : Array Value} {s : State} {t : Term} {a : Addr} {cl : Cell} {ty : FieldType} {k : Int32} (ev : t.eval args s none [] s = some (.ref a)) (A : Arr s s.heap a cl ty) (h : (Jvm.Cond.eq (.length t) (.int k)).value args s none s [] = some true) : cl.slots.size < 2 ^ 31 ∧ cl.slots.size.toInt32 = k := by
  obtain ⟨b, cell, e1, e2, e3, e4⟩ := Jvm.Lib.length_spec (int_at h)
  have hb : a = b := Value.ref.inj (Option.some.inj (ev.symm.trans e1))
  subst hb
  have hc : cl = cell := Option.some.inj ((A.fin (Vm.Alike.refl _)).symm.trans e2)
  subst hc
  exact ⟨e3, (Value.int.inj e4).symm⟩
theorem arr_elem {args : Array Value} {s : State} {t : Term} {a : Addr} {cl : Cell} {ty : FieldType} {j : Int32} {v : Value} (ev : t.eval args s none [] s = some (.ref a)) (A : Arr s s.heap a cl ty) (h : (Term.elem t (.int j)).eval args s none [] s = some v) : cl.slots[j.toNatClampNeg]? = some v := (elem_in h ev (Term.int_eval j) A.1).2
/-! own kit, the wide family: bodies that may intern -/
def QQofW (Z : State) (EL : List (String × Nat)) (s : State) (Q : Option Value → Heap → List Loc → Prop) (k n : Nat) : Outcome → State → Prop := fun o U => ∃ v L, o = .returned v ∧ Q v U.heap L ∧ CHr Z EL s.vm s.heap U.vm U.heap ∧ ReturnedEndW s o U L k n
section LeafW
variable {p : Program} {l : Launch} {e : Env} {R : Room} {s : State} {m : MethodId} {args : Array Value} {below : List Frame} {meth : Method} {c : Code} {T : State} {locs : List Loc} {cells slots : Nat} {pc : Nat} {Ls : Array Slot} {rest : List Value} {Q : Option Value → Heap → List Loc → Prop} {k n : Nat} {vm0 : Vm} {k0 : Nat} {Z : State} {EL : List (String × Nat)} {h0 : Heap}
theorem leafWN (X : Stand p l e R (s.setVm vm0) m args below meth c T locs cells slots) (hS : s.Since vm0 k0) (hk0 : k0 ≤ T.heap.size) (hx : p.tables.exec = Jvm.exec) (hlk : meth.locks = false) {z : Int32} {t : FieldType} (hret : meth.sig.returnType = some t) (ht : t = .boolean ∨ t = .byte ∨ t = .char ∨ t = .short) (hd : decode c.code pc = .ok (.ireturn, 1))
    (hC : CHr Z EL s.vm h0 T.vm T.heap) (hh : s.heap = h0) (hq : Q (some (.int (nar t z))) T.heap locs) (hk : cells ≤ k) (hn : slots ≤ n) : Gl p.tables e below (QQofW Z EL s Q k n) (T.setTop (mkF m pc Ls (.int z :: rest))) := by
  subst hh
  obtain ⟨fs, hr, hrun, hended, q1, q2, q3, q4⟩ := X.leaveW hS hk0 (v := some (.int (nar t z))) (fun h => by rw [hret] at h; cases h) hlk
  exact ⟨_, _, retN X hx hret ht hd hr, hrun, hended, _, _, rfl, hq, hC, q1, q2, q3, q4.mono hk hn⟩
theorem leafWA (X : Stand p l e R (s.setVm vm0) m args below meth c T locs cells slots) (hS : s.Since vm0 k0) (hk0 : k0 ≤ T.heap.size) (hx : p.tables.exec = Jvm.exec) (hlk : meth.locks = false) {w : Value} {t : FieldType} (hret : meth.sig.returnType = some t) (ht : t.isReference = true) (hw : w.isRef = true) (hd : decode c.code pc = .ok (.areturn, 1))
    (hC : CHr Z EL s.vm h0 T.vm T.heap) (hh : s.heap = h0) (hq : Q (some w) T.heap locs) (hk : cells ≤ k) (hn : slots ≤ n) : Gl p.tables e below (QQofW Z EL s Q k n) (T.setTop (mkF m pc Ls (w :: rest))) := by
  subst hh
  obtain ⟨fs, hr, hrun, hended, q1, q2, q3, q4⟩ := X.leaveW hS hk0 (v := some w) (fun h => by rw [hret] at h; cases h) hlk
  exact ⟨_, _, retOut X hx hret (narrowR ht hw) (Or.inr (Or.inr (Or.inr (Or.inr ⟨rfl, ht, hw⟩)))) hd hr, hrun, hended, _, _, rfl, hq, hC, q1, q2, q3, q4.mono hk hn⟩
end LeafW

theorem nfOf {args : Array Value} {s : State} {C : String} {y y' : MethodName} (h : y.cls = y'.cls) (hsel : (Jvm.Cond.selects C y' y').before args s = true) : NotFace s y := fun r0 h0 => by
  obtain ⟨c2, r2, m2, q1, q2, q3, q4, kP, hkP, hkPi⟩ := Cond.selects_spec hsel
  have e1 := findClass_of_methodNamed h0
  have e2 := findClass_of_methodNamed q3
  rw [h] at e1
  have e : r0.cls = m2.cls := Option.some.inj (e1.symm.trans e2)
  exact ⟨kP, by rw [e]; exact hkP, hkPi⟩
theorem sameOf {args : Array Value} {s : State} {C : String} {y y' : MethodName} (h : y.cls = y'.cls) (hmh : y.cls ≠ "java/lang/invoke/MethodHandle" ∧ y.cls ≠ "java/lang/invoke/VarHandle") (wi : (Jvm.Cond.instanceMethod y).before args s = true) (hsel : (Jvm.Cond.selects C y' y').before args s = true) : (Jvm.Cond.sameMethod y.cls y.cls y.name y.desc).before args s = true := by
  obtain ⟨mk, meth, hn, -⟩ := Cond.instanceMethod_spec wi
  obtain ⟨k, hk, hi⟩ := nfOf h hsel mk hn
  have hc := findClass_of_methodNamed hn
  have hf := State.methodFound?_of_named hn hmh
  have hn' : s.methodNamed? ⟨y.cls, y.name, y.desc⟩ = some mk := hn
  simp [Cond.before, Cond.holds, Cond.value, hc, hf, hn', hk, hi]
theorem declOf {args : Array Value} {s : State} {y : MethodName} {bytes : ByteArray} {maxL : Nat} {ret : Option FieldType} (wi : (Jvm.Cond.instanceMethod y).before args s = true) (wc : (Jvm.Cond.code y bytes maxL ret).before args s = true) : (Jvm.Cond.declares y).before args s = true := by
  obtain ⟨mk, meth, hn, hm, hs, -⟩ := Cond.instanceMethod_spec wi
  obtain ⟨m2, c, q1, -, -, -, -, -, -, hsig⟩ := Cond.code_spec hn wc
  cases hm.symm.trans q1
  simp [Cond.before, Cond.holds, Cond.value, hn, hm, hs, hsig]
def elL : List (String × Nat) := []
/-- the Class object of C, whatever cell it is -/
def Mr (Z : State) (C : String) (mm : Addr) : Prop := ∃ (cc : ClassId) (k : Class), Z.vm.findClass C = some cc ∧ Z.vm.classes[cc]? = some k ∧ k.mirror = some mm
theorem own_exa_ne {Z : State} {h : Heap} {a b : Addr} {C D : String} (E : Exa Z h a C) (F : Exa Z h b D) (hn : C ≠ D) : a ≠ b := fun q => by
  subst q
  obtain ⟨cell, k, e1, e2, -⟩ := E
  obtain ⟨cell', k', f1, f2, -⟩ := F
  have hc : cell = cell' := Option.some.inj (e1.symm.trans f1)
  subst hc
  exact ids_ne e2 f2 hn rfl
theorem sub_succ (vm : Vm) (f : Nat) (x t : ClassId) : vm.isSubclassAux (f + 1) x t = (x == t || match vm.classes[x]? with
      | some k => (match k.super with
        | some q => vm.isSubclassAux f q t
        | none => false)
      | none => false) := rfl
theorem own_nsr {Z : State} {a0 : Array Value} {O K : String} {t : ClassId} (w : (Jvm.Cond.noSuperclass O).before a0 Z = true) (hk : Z.vm.findClass K = some t) (hn : O ≠ K) : NS Z O K := by
  obtain ⟨co, ko, f1, f2, f3, -⟩ := Cond.noSuperclass_spec w
  refine ⟨co, t, f1, hk, fun fuel => ?_⟩
  have ne := ids_ne f1 hk hn
  cases fuel with
  | zero => rfl
  | succ f => rw [sub_succ, f2]; simp [f3, ne]
theorem own_no {Z : State} {a0 : Array Value} {C S1 S2 S3 K : String} {n : Nat} (w1 : (Jvm.Cond.superclass C S1).before a0 Z = true) (w2 : (Jvm.Cond.superclass S1 S2).before a0 Z = true) (w3 : (Jvm.Cond.superclass S2 S3).before a0 Z = true) (w4 : (Jvm.Cond.noSuperclass S3).before a0 Z = true) (wi : (Jvm.Cond.instantiable K n).before a0 Z = true) (h1 : C ≠ K) (h2 : S1 ≠ K) (h3 : S2 ≠ K) (h4 : S3 ≠ K) :
    ∃ c t, Z.vm.findClass C = some c ∧ Z.vm.findClass K = some t ∧ Z.vm.assignable c t = false := by
  obtain ⟨t, kt, g1, g2, g3, g4, -⟩ := Cond.instantiable_spec wi
  obtain ⟨cc, t', f1, f2, f3⟩ := NS.step w1 (NS.step w2 (NS.step w3 (own_nsr w4 g1 h4) h3) h2) h1
  have ht : t' = t := Option.some.inj (f2.symm.trans g1)
  subst ht
  obtain ⟨pp, k, kp, -, q2, -, -, q5, -⟩ := Cond.superclass_spec f1 w1
  have hi : kt.isInterface = false := (Bool.or_eq_false_iff.mp g4).1
  have ne := ids_ne f1 g1 h1
  refine ⟨cc, t', f1, g1, ?_⟩
  show Z.vm.assignableAux (255 + 1) cc t' = false
  simp [Vm.assignableAux, ne, q2, g2, q5, g3, hi, Vm.isSubclass, f3]
section Mirrors
variable {p : Program} {l : Launch} {e : Env} {R : Room} {s : State} {m : MethodId} {args : Array Value} {below : List Frame} {meth : Method} {c : Code} {T : State} {locs : List Loc} {cells slots : Nat} {Z : State} {h : Heap} {a : Addr} {C : String} {a0 : Array Value} {own : String} {index : Nat}
theorem own_mir (hZ : Z.Warmed39 s.vm) {mr : Addr} (M : Mr Z C mr) : ∃ (cc : ClassId) (k : Class), s.vm.findClass C = some cc ∧ s.vm.classes[cc]? = some k ∧ k.mirror = some mr := by
  obtain ⟨cc, kc, m1, m2, m3⟩ := M
  obtain ⟨k', q, ek⟩ := hZ.alike.2.2 _ _ m2
  exact ⟨cc, k', by rw [hZ.alike.findClass]; exact m1, q, by rw [ek]; exact m3⟩
theorem ldcM (X : Stand p l e R s m args below meth c T locs cells slots) (hx : p.tables.exec = Jvm.exec) (hZ : Z.Warmed39 s.vm) (hown : s.vm.findClass own = some m.cls) (w : (Jvm.Cond.classLink own index C).before a0 Z = true) (eT : T.heap = h) {mr : Addr} (M : Mr Z C mr)
    {g : JFrame} (hg : g.method = m) (hd : decode c.code g.pc = .ok (.ldc index, 2)) : ∃ T', Stand p l e R s m args below meth c T' locs cells slots ∧ T'.heap = h ∧ ∀ target, Steps p.tables e below (T'.setTop { g with pc := g.pc + 2, stack := .ref mr :: g.stack }) target → Steps p.tables e below (T.setTop g) target := by
  obtain ⟨cc, k, f1, f2, f3⟩ := own_mir hZ M
  have hev : (Term.mirror C).eval args s none [] s = some (.ref mr) := by simp [Term.eval, f1, f2, f3]
  obtain ⟨vm', X', st⟩ := X.ldcMirror hx hown (mv hZ w) hev hg hd
  exact ⟨_, X', eT, st⟩
theorem gclsM (X : Stand p l e R s m args below meth c T locs cells slots) (hx : p.tables.exec = Jvm.exec) (hZ : Z.Warmed39 s.vm) (hown : s.vm.findClass own = some m.cls)
    (w1 : (Jvm.Cond.methodLink own index ⟨"java/lang/Object", "getClass", "()Ljava/lang/Class;"⟩).before a0 Z = true) (w2 : (Jvm.Cond.declares ⟨"java/lang/Object", "getClass", "()Ljava/lang/Class;"⟩).before a0 Z = true) (w3 : (Jvm.Cond.noSuperclass "java/lang/Object").before a0 Z = true) (w4 : (Jvm.Cond.selects C ⟨"java/lang/Object", "getClass", "()Ljava/lang/Class;"⟩ ⟨"java/lang/Object", "getClass", "()Ljava/lang/Class;"⟩).before a0 Z = true)
    (w5 : (Jvm.Cond.instanceMethod ⟨"java/lang/Object", "getClass", "()Ljava/lang/Class;"⟩).before a0 Z = true) (w6 : (Jvm.Cond.native ⟨"java/lang/Object", "getClass", "()Ljava/lang/Class;"⟩).before a0 Z = true) (eT : T.heap = h) (E : Exa Z h a C) {mr : Addr} (M : Mr Z C mr)
    {g : JFrame} (hg : g.method = m) (hsize : g.locals.size = c.maxLocals) {rest : List Value} (hs : g.stack = .ref a :: rest) (hd : decode c.code g.pc = .ok (.invokevirtual index, 3)) (hf : 1 ≤ R.frames) {W : Nat} (hW : 2 * g.monitorRoom + (rest.map fun v => v.category).sum ≤ W) (hl : W + (nativeFrameWords "java/lang/Object" "getClass" 1 + 11) ≤ R.locals) :
    ∃ T', Stand p l e R s m args below meth c T' locs cells slots ∧ T'.heap = h ∧ ∀ target, Steps p.tables e below (T'.setTop { g with pc := g.pc + 3, stack := .ref mr :: rest }) target → Steps p.tables e below (T.setTop g) target := by
  obtain ⟨cB, kB, i1, i2, i3⟩ := isOf hZ eT E
  obtain ⟨cc, k, f1, f2, f3⟩ := own_mir hZ M
  have hc : cB = cc := Option.some.inj (i1.symm.trans f1)
  subst hc
  obtain ⟨vm', X', st⟩ := X.getClassOf hx hown (mvT hZ w1) (mvT hZ w2) (nf_top (args := #[]) (mvT hZ w3)) (mvT hZ w4) (mvT hZ w5) (mvT hZ w6) i1 i3 f2 f3 hg hsize hs hd hf (by omega)
  exact ⟨_, X', eT, st⟩
theorem gclsF (X : Stand p l e R s m args below meth c T locs cells slots) (hx : p.tables.exec = Jvm.exec) (hZ : Z.Warmed39 s.vm) {J : String} {count : Nat} (hown : s.vm.findClass own = some m.cls)
    (w1 : (Jvm.Cond.methodLink own index ⟨J, "getClass", "()Ljava/lang/Class;"⟩).before args s = true) (w2 : (Jvm.Cond.declares ⟨"java/lang/Object", "getClass", "()Ljava/lang/Class;"⟩).before args s = true) (w3 : (Jvm.Cond.interfaceMethod J "java/lang/Object" "getClass" "()Ljava/lang/Class;").before args s = true) (w4 : (Jvm.Cond.selects C ⟨J, "getClass", "()Ljava/lang/Class;"⟩ ⟨"java/lang/Object", "getClass", "()Ljava/lang/Class;"⟩).before args s = true)
    (w5 : (Jvm.Cond.instanceMethod ⟨"java/lang/Object", "getClass", "()Ljava/lang/Class;"⟩).before args s = true) (w6 : (Jvm.Cond.publicMethod ⟨"java/lang/Object", "getClass", "()Ljava/lang/Class;"⟩).before args s = true) (w7 : (Jvm.Cond.unhidden C "getClass" "()Ljava/lang/Class;").before args s = true) (w8 : (Jvm.Cond.castable C J).before args s = true) (w9 : (Jvm.Cond.native ⟨"java/lang/Object", "getClass", "()Ljava/lang/Class;"⟩).before args s = true)
    (hj : J ≠ "java/lang/invoke/MethodHandle" ∧ J ≠ "java/lang/invoke/VarHandle") (hjo : J ≠ "java/lang/Object") (eT : T.heap = h) (E : Exa Z h a C) {mr : Addr} (M : Mr Z C mr)
    {g : JFrame} (hg : g.method = m) (hsize : g.locals.size = c.maxLocals) {rest : List Value} (hs : g.stack = .ref a :: rest) (hd : decode c.code g.pc = .ok (.invokeinterface index count, 5)) (hf : 1 ≤ R.frames) {W : Nat} (hW : 2 * g.monitorRoom + (rest.map fun v => v.category).sum ≤ W) (hl : W + (nativeFrameWords "java/lang/Object" "getClass" 1 + 11) ≤ R.locals) :
    ∃ T', Stand p l e R s m args below meth c T' locs cells slots ∧ T'.heap = h ∧ ∀ target, Steps p.tables e below (T'.setTop { g with pc := g.pc + 5, stack := .ref mr :: rest }) target → Steps p.tables e below (T.setTop g) target := by
  obtain ⟨cB, kB, i1, i2, i3⟩ := isOf hZ eT E
  obtain ⟨cc, k, f1, f2, f3⟩ := own_mir hZ M
  have hc : cB = cc := Option.some.inj (i1.symm.trans f1)
  subst hc
  obtain ⟨vm', X', st⟩ := X.getClassOfI hx (xi := ⟨J, "getClass", "()Ljava/lang/Class;"⟩) hown w1 w2 w3 w4 w5 w6 w7 w8 w9 hj hjo rfl rfl f1 f2 i3 f3 hg hsize hs hd hf (by omega)
  exact ⟨_, X', eT, st⟩
end Mirrors
def chr8 (x : Int32) : Int32 := nar .char ((x &&& (255 : Int32)).toUInt32.toUInt16.toUInt32.toInt32)
theorem own_chr (x : Int32) : ¬ chr8 x < 0 ∧ ¬ (255 : Int32) < chr8 x := by
  have t : ∀ k : Fin 256, ¬ nar .char ((Int32.ofNat k.val).toUInt32.toUInt16.toUInt32.toInt32) < 0 ∧ ¬ (255 : Int32) < nar .char ((Int32.ofNat k.val).toUInt32.toUInt16.toUInt32.toInt32) := by decide +kernel
  have h : (x &&& 255).toBitVec.toNat < 256 := by
    simp only [Int32.toBitVec_and, BitVec.toNat_and]
    exact Nat.lt_succ_of_le Nat.and_le_right
  have e : (x &&& 255) = Int32.ofNat (x &&& 255).toBitVec.toNat := by
    apply Int32.toBitVec_inj.mp
    show _ = BitVec.ofNat 32 _
    rw [BitVec.ofNat_toNat]; simp
  unfold chr8
  rw [e]
  exact t ⟨_, h⟩
theorem own_n (n : Int32) : (((n &&& (3 : Int32)) % (3 : Int32)) + (1 : Int32)) = (1 : Int32) ∨ (((n &&& (3 : Int32)) % (3 : Int32)) + (1 : Int32)) = (2 : Int32) ∨ (((n &&& (3 : Int32)) % (3 : Int32)) + (1 : Int32)) = (3 : Int32) := by
  have h : (n &&& (3 : Int32)).toBitVec.toNat ≤ 3 := by
    simp only [Int32.toBitVec_and, BitVec.toNat_and]
    exact Nat.and_le_right
  have e : (n &&& (3 : Int32)) = Int32.ofBitVec (BitVec.ofNat 32 (n &&& (3 : Int32)).toBitVec.toNat) := by
    apply Int32.toBitVec_inj.mp
    simp
  generalize (n &&& (3 : Int32)).toBitVec.toNat = k at h e
  rw [e]
  have : k = 0 ∨ k = 1 ∨ k = 2 ∨ k = 3 := by omega
  rcases this with rfl | rfl | rfl | rfl <;> decide
theorem own_pos (x : Int32) : 0 ≤ (x &&& (2147483647 : Int32)).toInt := (c_and x (2147483647 : Int32) (by decide)).1
theorem own_mod (y k : Int32) (h : 0 ≤ y.toInt) : (y % k).toInt = y.toInt % k.toInt := by
  rw [Int32.toInt_mod, Int.tmod_eq_emod_of_nonneg h]
theorem own_m1 (x : Int32) : ((x &&& (2147483647 : Int32)) % (1 : Int32)) = (0 : Int32) := by
  have q := own_mod (x &&& (2147483647 : Int32)) 1 (own_pos x)
  have e1 : (1 : Int32).toInt = 1 := by decide
  have e0 : (0 : Int32).toInt = 0 := by decide
  rw [e1] at q
  exact Int32.toInt_inj.mp (by rw [q, e0]; omega)
theorem own_m2 (x : Int32) : ((x &&& (2147483647 : Int32)) % (2 : Int32)) = (0 : Int32) ∨ ((x &&& (2147483647 : Int32)) % (2 : Int32)) = (1 : Int32) := by
  have q := own_mod (x &&& (2147483647 : Int32)) 2 (own_pos x)
  have e2 : (2 : Int32).toInt = 2 := by decide
  have e1 : (1 : Int32).toInt = 1 := by decide
  have e0 : (0 : Int32).toInt = 0 := by decide
  rw [e2] at q
  have : (x &&& (2147483647 : Int32)).toInt % 2 = 0 ∨ (x &&& (2147483647 : Int32)).toInt % 2 = 1 := by omega
  rcases this with h | h
  · exact Or.inl (Int32.toInt_inj.mp (by rw [q, e0]; exact h))
  · exact Or.inr (Int32.toInt_inj.mp (by rw [q, e1]; exact h))
theorem own_m3 (x : Int32) : ((x &&& (2147483647 : Int32)) % (3 : Int32)) = (0 : Int32) ∨ ((x &&& (2147483647 : Int32)) % (3 : Int32)) = (1 : Int32) ∨ ((x &&& (2147483647 : Int32)) % (3 : Int32)) = (2 : Int32) := by
  have q := own_mod (x &&& (2147483647 : Int32)) 3 (own_pos x)
  have e3 : (3 : Int32).toInt = 3 := by decide
  have e2 : (2 : Int32).toInt = 2 := by decide
  have e1 : (1 : Int32).toInt = 1 := by decide
  have e0 : (0 : Int32).toInt = 0 := by decide
  rw [e3] at q
  have : (x &&& (2147483647 : Int32)).toInt % 3 = 0 ∨ (x &&& (2147483647 : Int32)).toInt % 3 = 1 ∨ (x &&& (2147483647 : Int32)).toInt % 3 = 2 := by omega
  rcases this with h | h | h
  · exact Or.inl (Int32.toInt_inj.mp (by rw [q, e0]; exact h))
  · exact Or.inr (Or.inl (Int32.toInt_inj.mp (by rw [q, e1]; exact h)))
  · exact Or.inr (Or.inr (Int32.toInt_inj.mp (by rw [q, e2]; exact h)))
theorem own_sel {Z : State} {h : Heap} {C : String} {a b d : Addr} {i : Int32} (A : Exa Z h a C) (B : Exa Z h b C) (D : Exa Z h d C) (_ : i = (0 : Int32) ∨ i = (1 : Int32) ∨ i = (2 : Int32)) : Exa Z h (if i = (0 : Int32) then a else (if i = (1 : Int32) then b else d)) C := by
  by_cases q : i = (0 : Int32)
  · rw [if_pos q]; exact A
  · rw [if_neg q]
    by_cases r : i = (1 : Int32)
    · rw [if_pos r]; exact B
    · rw [if_neg r]; exact D
theorem own_sel2 {Z : State} {h : Heap} {C : String} {a b d : Addr} {i : Int32} (A : Exa Z h a C) (B : Exa Z h b C) (hi : i = (0 : Int32) ∨ i = (1 : Int32)) : Exa Z h (if i = (0 : Int32) then a else (if i = (1 : Int32) then b else d)) C := by
  rcases hi with q | q
  · rw [if_pos q]; exact A
  · rw [if_neg (by rw [q]; decide), if_pos q]; exact B
theorem own_sel1 {Z : State} {h : Heap} {C : String} {a b d : Addr} {i : Int32} (A : Exa Z h a C) (hi : i = (0 : Int32)) : Exa Z h (if i = (0 : Int32) then a else (if i = (1 : Int32) then b else d)) C := by
  rw [if_pos hi]; exact A
theorem pn_0 : plainName "java/util/AbstractCollection" = true := by first | (simp [plainName, overriddenIn]; done) | decide +kernel
theorem ef_abc (m : MethodId) (x0 : Addr) : entryFrame m #[(.ref x0)] 1 = mkF m 0 #[.val (.ref x0)] [] := by first | (simp [entryFrame, mkF, argsToLocals, Value.category]; done) | rfl
theorem d10_0 : decode jdk_22_method_1_code 0 = .ok (.aload_n 0, 1) := by decide +kernel
theorem d10_1 : decode jdk_22_method_1_code 1 = .ok (.invokespecial 1, 3) := by decide +kernel
theorem d10_4 : decode jdk_22_method_1_code 4 = .ok (.return_, 1) := by decide +kernel
theorem pn_1 : plainName "java/util/ImmutableCollections$AbstractImmutableCollection" = true := by first | (simp [plainName, overriddenIn]; done) | decide +kernel
theorem ef_aic (m : MethodId) (x0 : Addr) : entryFrame m #[(.ref x0)] 1 = mkF m 0 #[.val (.ref x0)] [] := by first | (simp [entryFrame, mkF, argsToLocals, Value.category]; done) | rfl
theorem d27_0 : decode jdk_47_method_1_code 0 = .ok (.aload_n 0, 1) := by decide +kernel
theorem pd_0 : parseMethodDescriptor "()V" = some ⟨[], none⟩ := by decide +kernel
theorem d27_1 : decode jdk_47_method_1_code 1 = .ok (.invokespecial 1, 3) := by decide +kernel
theorem d27_4 : decode jdk_47_method_1_code 4 = .ok (.return_, 1) := by decide +kernel
theorem pn_2 : plainName "java/util/ImmutableCollections$AbstractImmutableList" = true := by first | (simp [plainName, overriddenIn]; done) | decide +kernel
theorem ef_ail (m : MethodId) (x0 : Addr) : entryFrame m #[(.ref x0)] 1 = mkF m 0 #[.val (.ref x0)] [] := by first | (simp [entryFrame, mkF, argsToLocals, Value.category]; done) | rfl
theorem d26_0 : decode jdk_46_method_1_code 0 = .ok (.aload_n 0, 1) := by decide +kernel
theorem d26_1 : decode jdk_46_method_1_code 1 = .ok (.invokespecial 1, 3) := by decide +kernel
theorem d26_4 : decode jdk_46_method_1_code 4 = .ok (.return_, 1) := by decide +kernel
theorem pn_3 : plainName "java/util/AbstractList" = true := by first | (simp [plainName, overriddenIn]; done) | decide +kernel
theorem ef_abl (m : MethodId) (x0 : Addr) : entryFrame m #[(.ref x0)] 1 = mkF m 0 #[.val (.ref x0)] [] := by first | (simp [entryFrame, mkF, argsToLocals, Value.category]; done) | rfl
theorem d9_0 : decode jdk_39_method_1_code 0 = .ok (.aload_n 0, 1) := by decide +kernel
theorem d9_1 : decode jdk_39_method_1_code 1 = .ok (.invokespecial 1, 3) := by decide +kernel
theorem d9_4 : decode jdk_39_method_1_code 4 = .ok (.aload_n 0, 1) := by decide +kernel
theorem d9_5 : decode jdk_39_method_1_code 5 = .ok (.iconst 0, 1) := by decide +kernel
theorem d9_6 : decode jdk_39_method_1_code 6 = .ok (.putfield 7, 3) := by decide +kernel
theorem d9_9 : decode jdk_39_method_1_code 9 = .ok (.return_, 1) := by decide +kernel
theorem pn_4 : plainName "java/util/ArrayList" = true := by first | (simp [plainName, overriddenIn]; done) | decide +kernel
theorem ef_ali (m : MethodId) (x0 : Addr) : entryFrame m #[(.ref x0)] 1 = mkF m 0 #[.val (.ref x0)] [] := by first | (simp [entryFrame, mkF, argsToLocals, Value.category]; done) | rfl
theorem d8_0 : decode jdk_38_method_2_code 0 = .ok (.aload_n 0, 1) := by decide +kernel
theorem d8_1 : decode jdk_38_method_2_code 1 = .ok (.invokespecial 1, 3) := by decide +kernel
theorem d8_4 : decode jdk_38_method_2_code 4 = .ok (.aload_n 0, 1) := by decide +kernel
theorem d8_5 : decode jdk_38_method_2_code 5 = .ok (.getstatic 39, 3) := by decide +kernel
theorem d8_8 : decode jdk_38_method_2_code 8 = .ok (.putfield 9, 3) := by decide +kernel
theorem d8_11 : decode jdk_38_method_2_code 11 = .ok (.return_, 1) := by decide +kernel
theorem ef_mx (m : MethodId) (x0 : Int32) (x1 : Int32) : entryFrame m #[(.int x0), (.int x1)] 2 = mkF m 0 #[.val (.int x0), .val (.int x1)] [] := by first | (simp [entryFrame, mkF, argsToLocals, Value.category]; done) | rfl
theorem d15_0 : decode jdk_29_method_65_code 0 = .ok (.iload_n 0, 1) := by decide +kernel
theorem d15_1 : decode jdk_29_method_65_code 1 = .ok (.iload_n 1, 1) := by decide +kernel
theorem d15_2 : decode jdk_29_method_65_code 2 = .ok (.if_icmp .lt 7, 3) := by decide +kernel
theorem d15_5 : decode jdk_29_method_65_code 5 = .ok (.iload_n 0, 1) := by decide +kernel
theorem d15_6 : decode jdk_29_method_65_code 6 = .ok (.goto 4, 3) := by decide +kernel
theorem d15_10 : decode jdk_29_method_65_code 10 = .ok (.ireturn, 1) := by decide +kernel
theorem ef_mn1 (m : MethodId) (x0 : Int32) (x1 : Int32) : entryFrame m #[(.int x0), (.int x1)] 2 = mkF m 0 #[.val (.int x0), .val (.int x1)] [] := by first | (simp [entryFrame, mkF, argsToLocals, Value.category]; done) | rfl
theorem d23_0 : decode jdk_29_method_69_code 0 = .ok (.iload_n 0, 1) := by decide +kernel
theorem d23_1 : decode jdk_29_method_69_code 1 = .ok (.iload_n 1, 1) := by decide +kernel
theorem d23_2 : decode jdk_29_method_69_code 2 = .ok (.if_icmp .gt 7, 3) := by decide +kernel
theorem d23_9 : decode jdk_29_method_69_code 9 = .ok (.iload_n 1, 1) := by decide +kernel
theorem d23_10 : decode jdk_29_method_69_code 10 = .ok (.ireturn, 1) := by decide +kernel
theorem ef_mn2 (m : MethodId) (x0 : Int32) (x1 : Int32) : entryFrame m #[(.int x0), (.int x1)] 2 = mkF m 0 #[.val (.int x0), .val (.int x1)] [] := by first | (simp [entryFrame, mkF, argsToLocals, Value.category]; done) | rfl
theorem ef_mn3 (m : MethodId) (x0 : Int32) (x1 : Int32) : entryFrame m #[(.int x0), (.int x1)] 2 = mkF m 0 #[.val (.int x0), .val (.int x1)] [] := by first | (simp [entryFrame, mkF, argsToLocals, Value.category]; done) | rfl
theorem ef_gr1 (m : MethodId) (x0 : Addr) (x1 : Int32) : entryFrame m #[(.ref x0), (.int x1)] 4 = mkF m 0 #[.val (.ref x0), .val (.int x1), .unset, .unset] [] := by first | (simp [entryFrame, mkF, argsToLocals, Value.category]; done) | rfl
theorem d14_0 : decode jdk_38_method_6_code 0 = .ok (.aload_n 0, 1) := by decide +kernel
theorem d14_1 : decode jdk_38_method_6_code 1 = .ok (.getfield 9, 3) := by decide +kernel
theorem d14_4 : decode jdk_38_method_6_code 4 = .ok (.arraylength, 1) := by decide +kernel
theorem d14_5 : decode jdk_38_method_6_code 5 = .ok (.istore_n 2, 1) := by decide +kernel
theorem d14_6 : decode jdk_38_method_6_code 6 = .ok (.iload_n 2, 1) := by decide +kernel
theorem d14_7 : decode jdk_38_method_6_code 7 = .ok (.ifCond .gt 13, 3) := by decide +kernel
theorem d14_10 : decode jdk_38_method_6_code 10 = .ok (.aload_n 0, 1) := by decide +kernel
theorem d14_11 : decode jdk_38_method_6_code 11 = .ok (.getfield 9, 3) := by decide +kernel
theorem d14_14 : decode jdk_38_method_6_code 14 = .ok (.getstatic 39, 3) := by decide +kernel
theorem d14_17 : decode jdk_38_method_6_code 17 = .ok (.if_acmp .eq 28, 3) := by decide +kernel
theorem d14_45 : decode jdk_38_method_6_code 45 = .ok (.aload_n 0, 1) := by decide +kernel
theorem d14_46 : decode jdk_38_method_6_code 46 = .ok (.bipush 10, 2) := by decide +kernel
theorem d14_48 : decode jdk_38_method_6_code 48 = .ok (.iload_n 1, 1) := by decide +kernel
theorem pd_1 : parseMethodDescriptor "(II)I" = some ⟨[.int, .int], some .int⟩ := by decide +kernel
theorem d14_49 : decode jdk_38_method_6_code 49 = .ok (.invokestatic 79, 3) := by decide +kernel
theorem d14_52 : decode jdk_38_method_6_code 52 = .ok (.anewarray 7, 3) := by decide +kernel
theorem d14_55 : decode jdk_38_method_6_code 55 = .ok (.dup_x1, 1) := by decide +kernel
theorem d14_56 : decode jdk_38_method_6_code 56 = .ok (.putfield 9, 3) := by decide +kernel
theorem d14_59 : decode jdk_38_method_6_code 59 = .ok (.areturn, 1) := by decide +kernel
theorem ef_gr0 (m : MethodId) (x0 : Addr) : entryFrame m #[(.ref x0)] 1 = mkF m 0 #[.val (.ref x0)] [] := by first | (simp [entryFrame, mkF, argsToLocals, Value.category]; done) | rfl
theorem d13_0 : decode jdk_38_method_7_code 0 = .ok (.aload_n 0, 1) := by decide +kernel
theorem d13_1 : decode jdk_38_method_7_code 1 = .ok (.aload_n 0, 1) := by decide +kernel
theorem d13_2 : decode jdk_38_method_7_code 2 = .ok (.getfield 48, 3) := by decide +kernel
theorem d13_5 : decode jdk_38_method_7_code 5 = .ok (.iconst 1, 1) := by decide +kernel
theorem d13_6 : decode jdk_38_method_7_code 6 = .ok (.iadd, 1) := by decide +kernel
theorem pd_2 : parseMethodDescriptor "(I)[Ljava/lang/Object;" = some ⟨[.int], some (.array (.object "java/lang/Object"))⟩ := by decide +kernel
theorem d13_7 : decode jdk_38_method_7_code 7 = .ok (.invokevirtual 69, 3) := by decide +kernel
theorem d13_10 : decode jdk_38_method_7_code 10 = .ok (.areturn, 1) := by decide +kernel
theorem ef_ap1 (m : MethodId) (x0 : Addr) (x1 : Addr) (x2 : Addr) (x3 : Int32) : entryFrame m #[(.ref x0), (.ref x1), (.ref x2), (.int x3)] 4 = mkF m 0 #[.val (.ref x0), .val (.ref x1), .val (.ref x2), .val (.int x3)] [] := by first | (simp [entryFrame, mkF, argsToLocals, Value.category]; done) | rfl
theorem d12_0 : decode jdk_38_method_24_code 0 = .ok (.iload_n 3, 1) := by decide +kernel
theorem d12_1 : decode jdk_38_method_24_code 1 = .ok (.aload_n 2, 1) := by decide +kernel
theorem d12_2 : decode jdk_38_method_24_code 2 = .ok (.arraylength, 1) := by decide +kernel
theorem d12_3 : decode jdk_38_method_24_code 3 = .ok (.if_icmp .ne 8, 3) := by decide +kernel
theorem d12_6 : decode jdk_38_method_24_code 6 = .ok (.aload_n 0, 1) := by decide +kernel
theorem pd_3 : parseMethodDescriptor "()[Ljava/lang/Object;" = some ⟨[], some (.array (.object "java/lang/Object"))⟩ := by decide +kernel
theorem d12_7 : decode jdk_38_method_24_code 7 = .ok (.invokevirtual 129, 3) := by decide +kernel
theorem d12_10 : decode jdk_38_method_24_code 10 = .ok (.astore_n 2, 1) := by decide +kernel
theorem d12_11 : decode jdk_38_method_24_code 11 = .ok (.aload_n 2, 1) := by decide +kernel
theorem d12_12 : decode jdk_38_method_24_code 12 = .ok (.iload_n 3, 1) := by decide +kernel
theorem d12_13 : decode jdk_38_method_24_code 13 = .ok (.aload_n 1, 1) := by decide +kernel
theorem d12_14 : decode jdk_38_method_24_code 14 = .ok (.aastore, 1) := by decide +kernel
theorem d12_15 : decode jdk_38_method_24_code 15 = .ok (.aload_n 0, 1) := by decide +kernel
theorem d12_16 : decode jdk_38_method_24_code 16 = .ok (.iload_n 3, 1) := by decide +kernel
theorem d12_17 : decode jdk_38_method_24_code 17 = .ok (.iconst 1, 1) := by decide +kernel
theorem d12_18 : decode jdk_38_method_24_code 18 = .ok (.iadd, 1) := by decide +kernel
theorem d12_19 : decode jdk_38_method_24_code 19 = .ok (.putfield 48, 3) := by decide +kernel
theorem d12_22 : decode jdk_38_method_24_code 22 = .ok (.return_, 1) := by decide +kernel
theorem ef_ad1 (m : MethodId) (x0 : Addr) (x1 : Addr) : entryFrame m #[(.ref x0), (.ref x1)] 2 = mkF m 0 #[.val (.ref x0), .val (.ref x1)] [] := by first | (simp [entryFrame, mkF, argsToLocals, Value.category]; done) | rfl
theorem d11_0 : decode jdk_38_method_25_code 0 = .ok (.aload_n 0, 1) := by decide +kernel
theorem d11_1 : decode jdk_38_method_25_code 1 = .ok (.dup, 1) := by decide +kernel
theorem d11_2 : decode jdk_38_method_25_code 2 = .ok (.getfield 63, 3) := by decide +kernel
theorem d11_5 : decode jdk_38_method_25_code 5 = .ok (.iconst 1, 1) := by decide +kernel
theorem d11_6 : decode jdk_38_method_25_code 6 = .ok (.iadd, 1) := by decide +kernel
theorem d11_7 : decode jdk_38_method_25_code 7 = .ok (.putfield 63, 3) := by decide +kernel
theorem d11_10 : decode jdk_38_method_25_code 10 = .ok (.aload_n 0, 1) := by decide +kernel
theorem d11_11 : decode jdk_38_method_25_code 11 = .ok (.aload_n 1, 1) := by decide +kernel
theorem d11_12 : decode jdk_38_method_25_code 12 = .ok (.aload_n 0, 1) := by decide +kernel
theorem d11_13 : decode jdk_38_method_25_code 13 = .ok (.getfield 9, 3) := by decide +kernel
theorem d11_16 : decode jdk_38_method_25_code 16 = .ok (.aload_n 0, 1) := by decide +kernel
theorem d11_17 : decode jdk_38_method_25_code 17 = .ok (.getfield 48, 3) := by decide +kernel
theorem pd_4 : parseMethodDescriptor "(Ljava/lang/Object;[Ljava/lang/Object;I)V" = some ⟨[(.object "java/lang/Object"), (.array (.object "java/lang/Object")), .int], none⟩ := by decide +kernel
theorem d11_20 : decode jdk_38_method_25_code 20 = .ok (.invokevirtual 131, 3) := by decide +kernel
theorem d11_23 : decode jdk_38_method_25_code 23 = .ok (.iconst 1, 1) := by decide +kernel
theorem d11_24 : decode jdk_38_method_25_code 24 = .ok (.ireturn, 1) := by decide +kernel
theorem ef_ap2_1 (m : MethodId) (x0 : Addr) (x1 : Addr) (x2 : Addr) (x3 : Int32) : entryFrame m #[(.ref x0), (.ref x1), (.ref x2), (.int x3)] 4 = mkF m 0 #[.val (.ref x0), .val (.ref x1), .val (.ref x2), .val (.int x3)] [] := by first | (simp [entryFrame, mkF, argsToLocals, Value.category]; done) | rfl
theorem ef_ad2_1 (m : MethodId) (x0 : Addr) (x1 : Addr) : entryFrame m #[(.ref x0), (.ref x1)] 2 = mkF m 0 #[.val (.ref x0), .val (.ref x1)] [] := by first | (simp [entryFrame, mkF, argsToLocals, Value.category]; done) | rfl
theorem ef_ap2_2 (m : MethodId) (x0 : Addr) (x1 : Addr) (x2 : Addr) (x3 : Int32) : entryFrame m #[(.ref x0), (.ref x1), (.ref x2), (.int x3)] 4 = mkF m 0 #[.val (.ref x0), .val (.ref x1), .val (.ref x2), .val (.int x3)] [] := by first | (simp [entryFrame, mkF, argsToLocals, Value.category]; done) | rfl
theorem ef_ad2_2 (m : MethodId) (x0 : Addr) (x1 : Addr) : entryFrame m #[(.ref x0), (.ref x1)] 2 = mkF m 0 #[.val (.ref x0), .val (.ref x1)] [] := by first | (simp [entryFrame, mkF, argsToLocals, Value.category]; done) | rfl
theorem pn_5 : plainName "java/util/Objects" = true := by first | (simp [plainName, overriddenIn]; done) | decide +kernel
theorem ef_rnn (m : MethodId) (x0 : Addr) : entryFrame m #[(.ref x0)] 1 = mkF m 0 #[.val (.ref x0)] [] := by first | (simp [entryFrame, mkF, argsToLocals, Value.category]; done) | rfl
theorem d28_0 : decode jdk_31_method_10_code 0 = .ok (.aload_n 0, 1) := by decide +kernel
theorem d28_1 : decode jdk_31_method_10_code 1 = .ok (.ifnonnull 11, 3) := by decide +kernel
theorem d28_12 : decode jdk_31_method_10_code 12 = .ok (.aload_n 0, 1) := by decide +kernel
theorem d28_13 : decode jdk_31_method_10_code 13 = .ok (.areturn, 1) := by decide +kernel
theorem pn_6 : plainName "java/util/ImmutableCollections$List12" = true := by first | (simp [plainName, overriddenIn]; done) | decide +kernel
theorem ef_i12_1 (m : MethodId) (x0 : Addr) (x1 : Addr) : entryFrame m #[(.ref x0), (.ref x1)] 2 = mkF m 0 #[.val (.ref x0), .val (.ref x1)] [] := by first | (simp [entryFrame, mkF, argsToLocals, Value.category]; done) | rfl
theorem d36_0 : decode jdk_44_method_1_code 0 = .ok (.aload_n 0, 1) := by decide +kernel
theorem d36_1 : decode jdk_44_method_1_code 1 = .ok (.invokespecial 1, 3) := by decide +kernel
theorem d36_4 : decode jdk_44_method_1_code 4 = .ok (.aload_n 0, 1) := by decide +kernel
theorem d36_5 : decode jdk_44_method_1_code 5 = .ok (.aload_n 1, 1) := by decide +kernel
theorem pd_5 : parseMethodDescriptor "(Ljava/lang/Object;)Ljava/lang/Object;" = some ⟨[(.object "java/lang/Object")], some (.object "java/lang/Object")⟩ := by decide +kernel
theorem d36_6 : decode jdk_44_method_1_code 6 = .ok (.invokestatic 7, 3) := by decide +kernel
theorem d36_9 : decode jdk_44_method_1_code 9 = .ok (.putfield 13, 3) := by decide +kernel
theorem d36_12 : decode jdk_44_method_1_code 12 = .ok (.aload_n 0, 1) := by decide +kernel
theorem d36_13 : decode jdk_44_method_1_code 13 = .ok (.getstatic 19, 3) := by decide +kernel
theorem d36_16 : decode jdk_44_method_1_code 16 = .ok (.putfield 24, 3) := by decide +kernel
theorem d36_19 : decode jdk_44_method_1_code 19 = .ok (.return_, 1) := by decide +kernel
theorem ef_i12_2 (m : MethodId) (x0 : Addr) (x1 : Addr) (x2 : Addr) : entryFrame m #[(.ref x0), (.ref x1), (.ref x2)] 3 = mkF m 0 #[.val (.ref x0), .val (.ref x1), .val (.ref x2)] [] := by first | (simp [entryFrame, mkF, argsToLocals, Value.category]; done) | rfl
theorem d25_0 : decode jdk_44_method_2_code 0 = .ok (.aload_n 0, 1) := by decide +kernel
theorem d25_1 : decode jdk_44_method_2_code 1 = .ok (.invokespecial 1, 3) := by decide +kernel
theorem d25_4 : decode jdk_44_method_2_code 4 = .ok (.aload_n 0, 1) := by decide +kernel
theorem d25_5 : decode jdk_44_method_2_code 5 = .ok (.aload_n 1, 1) := by decide +kernel
theorem d25_6 : decode jdk_44_method_2_code 6 = .ok (.invokestatic 7, 3) := by decide +kernel
theorem d25_9 : decode jdk_44_method_2_code 9 = .ok (.putfield 13, 3) := by decide +kernel
theorem d25_12 : decode jdk_44_method_2_code 12 = .ok (.aload_n 0, 1) := by decide +kernel
theorem d25_13 : decode jdk_44_method_2_code 13 = .ok (.aload_n 2, 1) := by decide +kernel
theorem d25_14 : decode jdk_44_method_2_code 14 = .ok (.invokestatic 7, 3) := by decide +kernel
theorem d25_17 : decode jdk_44_method_2_code 17 = .ok (.putfield 24, 3) := by decide +kernel
theorem d25_20 : decode jdk_44_method_2_code 20 = .ok (.return_, 1) := by decide +kernel
theorem pn_7 : plainName "java/util/ImmutableCollections$ListN" = true := by first | (simp [plainName, overriddenIn]; done) | decide +kernel
theorem ef_lni (m : MethodId) (x0 : Addr) (x1 : Addr) (x2 : Int32) : entryFrame m #[(.ref x0), (.ref x1), (.int x2)] 3 = mkF m 0 #[.val (.ref x0), .val (.ref x1), .val (.int x2)] [] := by first | (simp [entryFrame, mkF, argsToLocals, Value.category]; done) | rfl
theorem d38_0 : decode jdk_45_method_1_code 0 = .ok (.aload_n 0, 1) := by decide +kernel
theorem d38_1 : decode jdk_45_method_1_code 1 = .ok (.invokespecial 1, 3) := by decide +kernel
theorem d38_4 : decode jdk_45_method_1_code 4 = .ok (.aload_n 0, 1) := by decide +kernel
theorem d38_5 : decode jdk_45_method_1_code 5 = .ok (.aload_n 1, 1) := by decide +kernel
theorem d38_6 : decode jdk_45_method_1_code 6 = .ok (.putfield 7, 3) := by decide +kernel
theorem d38_9 : decode jdk_45_method_1_code 9 = .ok (.aload_n 0, 1) := by decide +kernel
theorem d38_10 : decode jdk_45_method_1_code 10 = .ok (.iload_n 2, 1) := by decide +kernel
theorem d38_11 : decode jdk_45_method_1_code 11 = .ok (.putfield 13, 3) := by decide +kernel
theorem d38_14 : decode jdk_45_method_1_code 14 = .ok (.return_, 1) := by decide +kernel
theorem pn_8 : plainName "java/util/ImmutableCollections" = true := by first | (simp [plainName, overriddenIn]; done) | decide +kernel
theorem ef_lfa (m : MethodId) (x0 : Addr) : entryFrame m #[(.ref x0)] 3 = mkF m 0 #[.val (.ref x0), .unset, .unset] [] := by first | (simp [entryFrame, mkF, argsToLocals, Value.category]; done) | rfl
theorem d37_0 : decode jdk_56_method_4_code 0 = .ok (.aload_n 0, 1) := by decide +kernel
theorem d37_1 : decode jdk_56_method_4_code 1 = .ok (.arraylength, 1) := by decide +kernel
theorem d37_2 : decode jdk_56_method_4_code 2 = .ok (.anewarray 2, 3) := by decide +kernel
theorem d37_5 : decode jdk_56_method_4_code 5 = .ok (.astore_n 1, 1) := by decide +kernel
theorem d37_6 : decode jdk_56_method_4_code 6 = .ok (.iconst 0, 1) := by decide +kernel
theorem d37_7 : decode jdk_56_method_4_code 7 = .ok (.istore_n 2, 1) := by decide +kernel
theorem d37_8 : decode jdk_56_method_4_code 8 = .ok (.iload_n 2, 1) := by decide +kernel
theorem d37_9 : decode jdk_56_method_4_code 9 = .ok (.aload_n 0, 1) := by decide +kernel
theorem d37_10 : decode jdk_56_method_4_code 10 = .ok (.arraylength, 1) := by decide +kernel
theorem d37_11 : decode jdk_56_method_4_code 11 = .ok (.if_icmp .ge 18, 3) := by decide +kernel
theorem d37_14 : decode jdk_56_method_4_code 14 = .ok (.aload_n 1, 1) := by decide +kernel
theorem d37_15 : decode jdk_56_method_4_code 15 = .ok (.iload_n 2, 1) := by decide +kernel
theorem d37_16 : decode jdk_56_method_4_code 16 = .ok (.aload_n 0, 1) := by decide +kernel
theorem d37_17 : decode jdk_56_method_4_code 17 = .ok (.iload_n 2, 1) := by decide +kernel
theorem d37_18 : decode jdk_56_method_4_code 18 = .ok (.aaload, 1) := by decide +kernel
theorem d37_19 : decode jdk_56_method_4_code 19 = .ok (.invokestatic 37, 3) := by decide +kernel
theorem d37_22 : decode jdk_56_method_4_code 22 = .ok (.aastore, 1) := by decide +kernel
theorem d37_23 : decode jdk_56_method_4_code 23 = .ok (.iinc 2 1, 3) := by decide +kernel
theorem d37_26 : decode jdk_56_method_4_code 26 = .ok (.goto (-18), 3) := by decide +kernel
theorem d37_29 : decode jdk_56_method_4_code 29 = .ok (.new 12, 3) := by decide +kernel
theorem d37_32 : decode jdk_56_method_4_code 32 = .ok (.dup, 1) := by decide +kernel
theorem d37_33 : decode jdk_56_method_4_code 33 = .ok (.aload_n 1, 1) := by decide +kernel
theorem d37_34 : decode jdk_56_method_4_code 34 = .ok (.iconst 0, 1) := by decide +kernel
theorem pd_6 : parseMethodDescriptor "([Ljava/lang/Object;Z)V" = some ⟨[(.array (.object "java/lang/Object")), .boolean], none⟩ := by decide +kernel
theorem d37_35 : decode jdk_56_method_4_code 35 = .ok (.invokespecial 43, 3) := by decide +kernel
theorem d37_38 : decode jdk_56_method_4_code 38 = .ok (.areturn, 1) := by decide +kernel
theorem pn_9 : plainName "java/util/Arrays" = true := by first | (simp [plainName, overriddenIn]; done) | decide +kernel
theorem ef_cp3_1 (m : MethodId) (x0 : Addr) (x1 : Int32) (x2 : Addr) : entryFrame m #[(.ref x0), (.int x1), (.ref x2)] 4 = mkF m 0 #[.val (.ref x0), .val (.int x1), .val (.ref x2), .unset] [] := by first | (simp [entryFrame, mkF, argsToLocals, Value.category]; done) | rfl
theorem d22_0 : decode jdk_65_method_120_code 0 = .ok (.aload_n 2, 1) := by decide +kernel
theorem d22_1 : decode jdk_65_method_120_code 1 = .ok (.ldc 110, 2) := by decide +kernel
theorem d22_3 : decode jdk_65_method_120_code 3 = .ok (.if_acmp .ne 10, 3) := by decide +kernel
theorem d22_6 : decode jdk_65_method_120_code 6 = .ok (.iload_n 1, 1) := by decide +kernel
theorem d22_7 : decode jdk_65_method_120_code 7 = .ok (.anewarray 2, 3) := by decide +kernel
theorem d22_10 : decode jdk_65_method_120_code 10 = .ok (.goto 14, 3) := by decide +kernel
theorem d22_24 : decode jdk_65_method_120_code 24 = .ok (.astore_n 3, 1) := by decide +kernel
theorem d22_25 : decode jdk_65_method_120_code 25 = .ok (.aload_n 0, 1) := by decide +kernel
theorem d22_26 : decode jdk_65_method_120_code 26 = .ok (.iconst 0, 1) := by decide +kernel
theorem d22_27 : decode jdk_65_method_120_code 27 = .ok (.aload_n 3, 1) := by decide +kernel
theorem d22_28 : decode jdk_65_method_120_code 28 = .ok (.iconst 0, 1) := by decide +kernel
theorem d22_29 : decode jdk_65_method_120_code 29 = .ok (.aload_n 0, 1) := by decide +kernel
theorem d22_30 : decode jdk_65_method_120_code 30 = .ok (.arraylength, 1) := by decide +kernel
theorem d22_31 : decode jdk_65_method_120_code 31 = .ok (.iload_n 1, 1) := by decide +kernel
theorem d22_32 : decode jdk_65_method_120_code 32 = .ok (.invokestatic 304, 3) := by decide +kernel
theorem d22_35 : decode jdk_65_method_120_code 35 = .ok (.invokestatic 150, 3) := by decide +kernel
theorem d22_38 : decode jdk_65_method_120_code 38 = .ok (.aload_n 3, 1) := by decide +kernel
theorem d22_39 : decode jdk_65_method_120_code 39 = .ok (.areturn, 1) := by decide +kernel
theorem ef_cp2_1 (m : MethodId) (x0 : Addr) (x1 : Int32) : entryFrame m #[(.ref x0), (.int x1)] 2 = mkF m 0 #[.val (.ref x0), .val (.int x1)] [] := by first | (simp [entryFrame, mkF, argsToLocals, Value.category]; done) | rfl
theorem d21_0 : decode jdk_65_method_119_code 0 = .ok (.aload_n 0, 1) := by decide +kernel
theorem d21_1 : decode jdk_65_method_119_code 1 = .ok (.iload_n 1, 1) := by decide +kernel
theorem d21_2 : decode jdk_65_method_119_code 2 = .ok (.aload_n 0, 1) := by decide +kernel
theorem d21_3 : decode jdk_65_method_119_code 3 = .ok (.invokevirtual 86, 3) := by decide +kernel
theorem pd_7 : parseMethodDescriptor "([Ljava/lang/Object;ILjava/lang/Class;)[Ljava/lang/Object;" = some ⟨[(.array (.object "java/lang/Object")), .int, (.object "java/lang/Class")], some (.array (.object "java/lang/Object"))⟩ := by decide +kernel
theorem d21_6 : decode jdk_65_method_119_code 6 = .ok (.invokestatic 300, 3) := by decide +kernel
theorem d21_9 : decode jdk_65_method_119_code 9 = .ok (.areturn, 1) := by decide +kernel
theorem ef_toa_1 (m : MethodId) (x0 : Addr) : entryFrame m #[(.ref x0)] 1 = mkF m 0 #[.val (.ref x0)] [] := by first | (simp [entryFrame, mkF, argsToLocals, Value.category]; done) | rfl
theorem d20_0 : decode jdk_38_method_16_code 0 = .ok (.aload_n 0, 1) := by decide +kernel
theorem d20_1 : decode jdk_38_method_16_code 1 = .ok (.getfield 9, 3) := by decide +kernel
theorem d20_4 : decode jdk_38_method_16_code 4 = .ok (.aload_n 0, 1) := by decide +kernel
theorem d20_5 : decode jdk_38_method_16_code 5 = .ok (.getfield 48, 3) := by decide +kernel
theorem pd_8 : parseMethodDescriptor "([Ljava/lang/Object;I)[Ljava/lang/Object;" = some ⟨[(.array (.object "java/lang/Object")), .int], some (.array (.object "java/lang/Object"))⟩ := by decide +kernel
theorem d20_8 : decode jdk_38_method_16_code 8 = .ok (.invokestatic 66, 3) := by decide +kernel
theorem d20_11 : decode jdk_38_method_16_code 11 = .ok (.areturn, 1) := by decide +kernel
theorem ef_ise_1 (m : MethodId) (x0 : Addr) : entryFrame m #[(.ref x0)] 1 = mkF m 0 #[.val (.ref x0)] [] := by first | (simp [entryFrame, mkF, argsToLocals, Value.category]; done) | rfl
theorem d19_0 : decode jdk_38_method_9_code 0 = .ok (.aload_n 0, 1) := by decide +kernel
theorem d19_1 : decode jdk_38_method_9_code 1 = .ok (.getfield 48, 3) := by decide +kernel
theorem d19_4 : decode jdk_38_method_9_code 4 = .ok (.ifCond .ne 7, 3) := by decide +kernel
theorem d19_11 : decode jdk_38_method_9_code 11 = .ok (.iconst 0, 1) := by decide +kernel
theorem d19_12 : decode jdk_38_method_9_code 12 = .ok (.ireturn, 1) := by decide +kernel
theorem pn_10 : plainName "java/util/List" = true := by first | (simp [plainName, overriddenIn]; done) | decide +kernel
theorem ef_lof_1 (m : MethodId) (x0 : Addr) : entryFrame m #[(.ref x0)] 2 = mkF m 0 #[.val (.ref x0), .unset] [] := by first | (simp [entryFrame, mkF, argsToLocals, Value.category]; done) | rfl
theorem d24_0 : decode jdk_40_method_47_code 0 = .ok (.aload_n 0, 1) := by decide +kernel
theorem d24_1 : decode jdk_40_method_47_code 1 = .ok (.arraylength, 1) := by decide +kernel
theorem d24_2 : decode jdk_40_method_47_code 2 = .ok (.tableswitch 57 0 2 #[26, 32, 43], 26) := by decide +kernel
theorem d24_34 : decode jdk_40_method_47_code 34 = .ok (.new 96, 3) := by decide +kernel
theorem d24_37 : decode jdk_40_method_47_code 37 = .ok (.dup, 1) := by decide +kernel
theorem d24_38 : decode jdk_40_method_47_code 38 = .ok (.aload_n 0, 1) := by decide +kernel
theorem d24_39 : decode jdk_40_method_47_code 39 = .ok (.iconst 0, 1) := by decide +kernel
theorem d24_40 : decode jdk_40_method_47_code 40 = .ok (.aaload, 1) := by decide +kernel
theorem pd_9 : parseMethodDescriptor "(Ljava/lang/Object;)V" = some ⟨[(.object "java/lang/Object")], none⟩ := by decide +kernel
theorem d24_41 : decode jdk_40_method_47_code 41 = .ok (.invokespecial 98, 3) := by decide +kernel
theorem d24_44 : decode jdk_40_method_47_code 44 = .ok (.areturn, 1) := by decide +kernel
theorem ef_lcp_1 (m : MethodId) (x0 : Addr) : entryFrame m #[(.ref x0)] 2 = mkF m 0 #[.val (.ref x0), .unset] [] := by first | (simp [entryFrame, mkF, argsToLocals, Value.category]; done) | rfl
theorem d18_0 : decode jdk_56_method_3_code 0 = .ok (.aload_n 0, 1) := by decide +kernel
theorem d18_1 : decode jdk_56_method_3_code 1 = .ok (.instanceof 10, 3) := by decide +kernel
theorem d18_4 : decode jdk_56_method_3_code 4 = .ok (.ifCond .ne 22, 3) := by decide +kernel
theorem d18_7 : decode jdk_56_method_3_code 7 = .ok (.aload_n 0, 1) := by decide +kernel
theorem d18_8 : decode jdk_56_method_3_code 8 = .ok (.instanceof 12, 3) := by decide +kernel
theorem d18_11 : decode jdk_56_method_3_code 11 = .ok (.ifCond .eq 20, 3) := by decide +kernel
theorem d18_31 : decode jdk_56_method_3_code 31 = .ok (.aload_n 0, 1) := by decide +kernel
theorem pd_10 : parseMethodDescriptor "()Z" = some ⟨[], some .boolean⟩ := by decide +kernel
theorem d18_32 : decode jdk_56_method_3_code 32 = .ok (.invokeinterface 20 1, 5) := by decide +kernel
theorem d18_37 : decode jdk_56_method_3_code 37 = .ok (.ifCond .eq 7, 3) := by decide +kernel
theorem d18_44 : decode jdk_56_method_3_code 44 = .ok (.aload_n 0, 1) := by decide +kernel
theorem d18_45 : decode jdk_56_method_3_code 45 = .ok (.invokeinterface 30 1, 5) := by decide +kernel
theorem pd_11 : parseMethodDescriptor "([Ljava/lang/Object;)Ljava/util/List;" = some ⟨[(.array (.object "java/lang/Object"))], some (.object "java/util/List")⟩ := by decide +kernel
theorem d18_50 : decode jdk_56_method_3_code 50 = .ok (.invokestatic 34, 3) := by decide +kernel
theorem d18_53 : decode jdk_56_method_3_code 53 = .ok (.areturn, 1) := by decide +kernel
theorem ef_lco_1 (m : MethodId) (x0 : Addr) : entryFrame m #[(.ref x0)] 1 = mkF m 0 #[.val (.ref x0)] [] := by first | (simp [entryFrame, mkF, argsToLocals, Value.category]; done) | rfl
theorem d17_0 : decode jdk_40_method_48_code 0 = .ok (.aload_n 0, 1) := by decide +kernel
theorem pd_12 : parseMethodDescriptor "(Ljava/util/Collection;)Ljava/util/List;" = some ⟨[(.object "java/util/Collection")], some (.object "java/util/List")⟩ := by decide +kernel
theorem d17_1 : decode jdk_40_method_48_code 1 = .ok (.invokestatic 112, 3) := by decide +kernel
theorem d17_4 : decode jdk_40_method_48_code 4 = .ok (.areturn, 1) := by decide +kernel
theorem ef_cp3_2 (m : MethodId) (x0 : Addr) (x1 : Int32) (x2 : Addr) : entryFrame m #[(.ref x0), (.int x1), (.ref x2)] 4 = mkF m 0 #[.val (.ref x0), .val (.int x1), .val (.ref x2), .unset] [] := by first | (simp [entryFrame, mkF, argsToLocals, Value.category]; done) | rfl
theorem ef_cp2_2 (m : MethodId) (x0 : Addr) (x1 : Int32) : entryFrame m #[(.ref x0), (.int x1)] 2 = mkF m 0 #[.val (.ref x0), .val (.int x1)] [] := by first | (simp [entryFrame, mkF, argsToLocals, Value.category]; done) | rfl
theorem ef_toa_2 (m : MethodId) (x0 : Addr) : entryFrame m #[(.ref x0)] 1 = mkF m 0 #[.val (.ref x0)] [] := by first | (simp [entryFrame, mkF, argsToLocals, Value.category]; done) | rfl
theorem ef_ise_2 (m : MethodId) (x0 : Addr) : entryFrame m #[(.ref x0)] 1 = mkF m 0 #[.val (.ref x0)] [] := by first | (simp [entryFrame, mkF, argsToLocals, Value.category]; done) | rfl
theorem ef_lof_2 (m : MethodId) (x0 : Addr) : entryFrame m #[(.ref x0)] 2 = mkF m 0 #[.val (.ref x0), .unset] [] := by first | (simp [entryFrame, mkF, argsToLocals, Value.category]; done) | rfl
theorem d24_45 : decode jdk_40_method_47_code 45 = .ok (.new 96, 3) := by decide +kernel
theorem d24_48 : decode jdk_40_method_47_code 48 = .ok (.dup, 1) := by decide +kernel
theorem d24_49 : decode jdk_40_method_47_code 49 = .ok (.aload_n 0, 1) := by decide +kernel
theorem d24_50 : decode jdk_40_method_47_code 50 = .ok (.iconst 0, 1) := by decide +kernel
theorem d24_51 : decode jdk_40_method_47_code 51 = .ok (.aaload, 1) := by decide +kernel
theorem d24_52 : decode jdk_40_method_47_code 52 = .ok (.aload_n 0, 1) := by decide +kernel
theorem d24_53 : decode jdk_40_method_47_code 53 = .ok (.iconst 1, 1) := by decide +kernel
theorem d24_54 : decode jdk_40_method_47_code 54 = .ok (.aaload, 1) := by decide +kernel
theorem pd_13 : parseMethodDescriptor "(Ljava/lang/Object;Ljava/lang/Object;)V" = some ⟨[(.object "java/lang/Object"), (.object "java/lang/Object")], none⟩ := by decide +kernel
theorem d24_55 : decode jdk_40_method_47_code 55 = .ok (.invokespecial 100, 3) := by decide +kernel
theorem d24_58 : decode jdk_40_method_47_code 58 = .ok (.areturn, 1) := by decide +kernel
theorem ef_lcp_2 (m : MethodId) (x0 : Addr) : entryFrame m #[(.ref x0)] 2 = mkF m 0 #[.val (.ref x0), .unset] [] := by first | (simp [entryFrame, mkF, argsToLocals, Value.category]; done) | rfl
theorem ef_lco_2 (m : MethodId) (x0 : Addr) : entryFrame m #[(.ref x0)] 1 = mkF m 0 #[.val (.ref x0)] [] := by first | (simp [entryFrame, mkF, argsToLocals, Value.category]; done) | rfl
theorem ef_cp3_3 (m : MethodId) (x0 : Addr) (x1 : Int32) (x2 : Addr) : entryFrame m #[(.ref x0), (.int x1), (.ref x2)] 4 = mkF m 0 #[.val (.ref x0), .val (.int x1), .val (.ref x2), .unset] [] := by first | (simp [entryFrame, mkF, argsToLocals, Value.category]; done) | rfl
theorem ef_cp2_3 (m : MethodId) (x0 : Addr) (x1 : Int32) : entryFrame m #[(.ref x0), (.int x1)] 2 = mkF m 0 #[.val (.ref x0), .val (.int x1)] [] := by first | (simp [entryFrame, mkF, argsToLocals, Value.category]; done) | rfl
theorem ef_toa_3 (m : MethodId) (x0 : Addr) : entryFrame m #[(.ref x0)] 1 = mkF m 0 #[.val (.ref x0)] [] := by first | (simp [entryFrame, mkF, argsToLocals, Value.category]; done) | rfl
theorem ef_ise_3 (m : MethodId) (x0 : Addr) : entryFrame m #[(.ref x0)] 1 = mkF m 0 #[.val (.ref x0)] [] := by first | (simp [entryFrame, mkF, argsToLocals, Value.category]; done) | rfl
theorem ef_lof_3 (m : MethodId) (x0 : Addr) : entryFrame m #[(.ref x0)] 2 = mkF m 0 #[.val (.ref x0), .unset] [] := by first | (simp [entryFrame, mkF, argsToLocals, Value.category]; done) | rfl
theorem d24_59 : decode jdk_40_method_47_code 59 = .ok (.aload_n 0, 1) := by decide +kernel
theorem d24_60 : decode jdk_40_method_47_code 60 = .ok (.invokestatic 109, 3) := by decide +kernel
theorem d24_63 : decode jdk_40_method_47_code 63 = .ok (.areturn, 1) := by decide +kernel
theorem ef_lcp_3 (m : MethodId) (x0 : Addr) : entryFrame m #[(.ref x0)] 2 = mkF m 0 #[.val (.ref x0), .unset] [] := by first | (simp [entryFrame, mkF, argsToLocals, Value.category]; done) | rfl
theorem ef_lco_3 (m : MethodId) (x0 : Addr) : entryFrame m #[(.ref x0)] 1 = mkF m 0 #[.val (.ref x0)] [] := by first | (simp [entryFrame, mkF, argsToLocals, Value.category]; done) | rfl
theorem pn_11 : plainName "java/util/Collections$UnmodifiableCollection" = true := by first | (simp [plainName, overriddenIn]; done) | decide +kernel
theorem ef_uc (m : MethodId) (x0 : Addr) (x1 : Addr) : entryFrame m #[(.ref x0), (.ref x1)] 2 = mkF m 0 #[.val (.ref x0), .val (.ref x1)] [] := by first | (simp [entryFrame, mkF, argsToLocals, Value.category]; done) | rfl
theorem d32_0 : decode jdk_119_method_1_code 0 = .ok (.aload_n 0, 1) := by decide +kernel
theorem d32_1 : decode jdk_119_method_1_code 1 = .ok (.invokespecial 1, 3) := by decide +kernel
theorem d32_4 : decode jdk_119_method_1_code 4 = .ok (.aload_n 1, 1) := by decide +kernel
theorem d32_5 : decode jdk_119_method_1_code 5 = .ok (.ifnonnull 11, 3) := by decide +kernel
theorem d32_16 : decode jdk_119_method_1_code 16 = .ok (.aload_n 0, 1) := by decide +kernel
theorem d32_17 : decode jdk_119_method_1_code 17 = .ok (.aload_n 1, 1) := by decide +kernel
theorem d32_18 : decode jdk_119_method_1_code 18 = .ok (.putfield 10, 3) := by decide +kernel
theorem d32_21 : decode jdk_119_method_1_code 21 = .ok (.return_, 1) := by decide +kernel
theorem pn_12 : plainName "java/util/Collections$UnmodifiableList" = true := by first | (simp [plainName, overriddenIn]; done) | decide +kernel
theorem ef_ul (m : MethodId) (x0 : Addr) (x1 : Addr) : entryFrame m #[(.ref x0), (.ref x1)] 2 = mkF m 0 #[.val (.ref x0), .val (.ref x1)] [] := by first | (simp [entryFrame, mkF, argsToLocals, Value.category]; done) | rfl
theorem d31_0 : decode jdk_120_method_1_code 0 = .ok (.aload_n 0, 1) := by decide +kernel
theorem d31_1 : decode jdk_120_method_1_code 1 = .ok (.aload_n 1, 1) := by decide +kernel
theorem pd_14 : parseMethodDescriptor "(Ljava/util/Collection;)V" = some ⟨[(.object "java/util/Collection")], none⟩ := by decide +kernel
theorem d31_2 : decode jdk_120_method_1_code 2 = .ok (.invokespecial 1, 3) := by decide +kernel
theorem d31_5 : decode jdk_120_method_1_code 5 = .ok (.aload_n 0, 1) := by decide +kernel
theorem d31_6 : decode jdk_120_method_1_code 6 = .ok (.aload_n 1, 1) := by decide +kernel
theorem d31_7 : decode jdk_120_method_1_code 7 = .ok (.putfield 7, 3) := by decide +kernel
theorem d31_10 : decode jdk_120_method_1_code 10 = .ok (.return_, 1) := by decide +kernel
theorem pn_13 : plainName "java/util/Collections$UnmodifiableRandomAccessList" = true := by first | (simp [plainName, overriddenIn]; done) | decide +kernel
theorem ef_ur (m : MethodId) (x0 : Addr) (x1 : Addr) : entryFrame m #[(.ref x0), (.ref x1)] 2 = mkF m 0 #[.val (.ref x0), .val (.ref x1)] [] := by first | (simp [entryFrame, mkF, argsToLocals, Value.category]; done) | rfl
theorem d30_0 : decode jdk_121_method_1_code 0 = .ok (.aload_n 0, 1) := by decide +kernel
theorem d30_1 : decode jdk_121_method_1_code 1 = .ok (.aload_n 1, 1) := by decide +kernel
theorem pd_15 : parseMethodDescriptor "(Ljava/util/List;)V" = some ⟨[(.object "java/util/List")], none⟩ := by decide +kernel
theorem d30_2 : decode jdk_121_method_1_code 2 = .ok (.invokespecial 1, 3) := by decide +kernel
theorem d30_5 : decode jdk_121_method_1_code 5 = .ok (.return_, 1) := by decide +kernel
theorem pn_14 : plainName "java/util/Collections" = true := by first | (simp [plainName, overriddenIn]; done) | decide +kernel
theorem ef_unm (m : MethodId) (x0 : Addr) : entryFrame m #[(.ref x0)] 1 = mkF m 0 #[.val (.ref x0)] [] := by first | (simp [entryFrame, mkF, argsToLocals, Value.category]; done) | rfl
theorem d29_0 : decode jdk_79_method_35_code 0 = .ok (.aload_n 0, 1) := by decide +kernel
theorem d29_1 : decode jdk_79_method_35_code 1 = .ok (.invokeinterface 211 1, 5) := by decide +kernel
theorem d29_6 : decode jdk_79_method_35_code 6 = .ok (.ldc 212, 2) := by decide +kernel
theorem d29_8 : decode jdk_79_method_35_code 8 = .ok (.if_acmp .eq 14, 3) := by decide +kernel
theorem d29_22 : decode jdk_79_method_35_code 22 = .ok (.aload_n 0, 1) := by decide +kernel
theorem d29_23 : decode jdk_79_method_35_code 23 = .ok (.areturn, 1) := by decide +kernel
theorem d29_11 : decode jdk_79_method_35_code 11 = .ok (.aload_n 0, 1) := by decide +kernel
theorem d29_12 : decode jdk_79_method_35_code 12 = .ok (.invokeinterface 214 1, 5) := by decide +kernel
theorem d29_17 : decode jdk_79_method_35_code 17 = .ok (.ldc 215, 2) := by decide +kernel
theorem d29_19 : decode jdk_79_method_35_code 19 = .ok (.if_acmp .ne 5, 3) := by decide +kernel
theorem d29_24 : decode jdk_79_method_35_code 24 = .ok (.aload_n 0, 1) := by decide +kernel
theorem d29_25 : decode jdk_79_method_35_code 25 = .ok (.instanceof 13, 3) := by decide +kernel
theorem d29_28 : decode jdk_79_method_35_code 28 = .ok (.ifCond .eq 14, 3) := by decide +kernel
theorem d29_31 : decode jdk_79_method_35_code 31 = .ok (.new 215, 3) := by decide +kernel
theorem d29_34 : decode jdk_79_method_35_code 34 = .ok (.dup, 1) := by decide +kernel
theorem d29_35 : decode jdk_79_method_35_code 35 = .ok (.aload_n 0, 1) := by decide +kernel
theorem d29_36 : decode jdk_79_method_35_code 36 = .ok (.invokespecial 217, 3) := by decide +kernel
theorem d29_39 : decode jdk_79_method_35_code 39 = .ok (.goto 11, 3) := by decide +kernel
theorem d29_50 : decode jdk_79_method_35_code 50 = .ok (.areturn, 1) := by decide +kernel
theorem pn_15 : plainName "com/example/frosted_rows/frostedrows/release/PublishedGroup" = true := by first | (simp [plainName, overriddenIn]; done) | decide +kernel
theorem ef_pgi_1 (m : MethodId) (x0 : Addr) (x1 : Addr) (x2 : Addr) (x3 : Addr) (x4 : Addr) : entryFrame m #[(.ref x0), (.ref x1), (.ref x2), (.ref x3), (.ref x4)] 5 = mkF m 0 #[.val (.ref x0), .val (.ref x1), .val (.ref x2), .val (.ref x3), .val (.ref x4)] [] := by first | (simp [entryFrame, mkF, argsToLocals, Value.category]; done) | rfl
theorem d16_0 : decode prog_13_method_1_code 0 = .ok (.aload_n 0, 1) := by decide +kernel
theorem d16_1 : decode prog_13_method_1_code 1 = .ok (.invokespecial 1, 3) := by decide +kernel
theorem d16_4 : decode prog_13_method_1_code 4 = .ok (.aload_n 0, 1) := by decide +kernel
theorem d16_5 : decode prog_13_method_1_code 5 = .ok (.aload_n 1, 1) := by decide +kernel
theorem d16_6 : decode prog_13_method_1_code 6 = .ok (.putfield 7, 3) := by decide +kernel
theorem d16_9 : decode prog_13_method_1_code 9 = .ok (.aload_n 0, 1) := by decide +kernel
theorem d16_10 : decode prog_13_method_1_code 10 = .ok (.aload_n 2, 1) := by decide +kernel
theorem d16_11 : decode prog_13_method_1_code 11 = .ok (.invokestatic 13, 3) := by decide +kernel
theorem d16_14 : decode prog_13_method_1_code 14 = .ok (.putfield 19, 3) := by decide +kernel
theorem d16_17 : decode prog_13_method_1_code 17 = .ok (.aload_n 0, 1) := by decide +kernel
theorem d16_18 : decode prog_13_method_1_code 18 = .ok (.aload_n 3, 1) := by decide +kernel
theorem d16_19 : decode prog_13_method_1_code 19 = .ok (.putfield 23, 3) := by decide +kernel
theorem d16_22 : decode prog_13_method_1_code 22 = .ok (.aload_n 0, 1) := by decide +kernel
theorem d16_23 : decode prog_13_method_1_code 23 = .ok (.aload 4, 2) := by decide +kernel
theorem pd_16 : parseMethodDescriptor "(Ljava/util/List;)Ljava/util/List;" = some ⟨[(.object "java/util/List")], some (.object "java/util/List")⟩ := by decide +kernel
theorem d16_25 : decode prog_13_method_1_code 25 = .ok (.invokestatic 27, 3) := by decide +kernel
theorem d16_28 : decode prog_13_method_1_code 28 = .ok (.putfield 33, 3) := by decide +kernel
theorem d16_31 : decode prog_13_method_1_code 31 = .ok (.return_, 1) := by decide +kernel
theorem ef_pgi_2 (m : MethodId) (x0 : Addr) (x1 : Addr) (x2 : Addr) (x3 : Addr) (x4 : Addr) : entryFrame m #[(.ref x0), (.ref x1), (.ref x2), (.ref x3), (.ref x4)] 5 = mkF m 0 #[.val (.ref x0), .val (.ref x1), .val (.ref x2), .val (.ref x3), .val (.ref x4)] [] := by first | (simp [entryFrame, mkF, argsToLocals, Value.category]; done) | rfl
theorem ef_pgi_3 (m : MethodId) (x0 : Addr) (x1 : Addr) (x2 : Addr) (x3 : Addr) (x4 : Addr) : entryFrame m #[(.ref x0), (.ref x1), (.ref x2), (.ref x3), (.ref x4)] 5 = mkF m 0 #[.val (.ref x0), .val (.ref x1), .val (.ref x2), .val (.ref x3), .val (.ref x4)] [] := by first | (simp [entryFrame, mkF, argsToLocals, Value.category]; done) | rfl
theorem ef_get_1_0 (m : MethodId) (x0 : Addr) (x1 : Int32) : entryFrame m #[(.ref x0), (.int x1)] 2 = mkF m 0 #[.val (.ref x0), .val (.int x1)] [] := by first | (simp [entryFrame, mkF, argsToLocals, Value.category]; done) | rfl
theorem d34_0 : decode jdk_44_method_5_code 0 = .ok (.iload_n 1, 1) := by decide +kernel
theorem d34_1 : decode jdk_44_method_5_code 1 = .ok (.ifCond .ne 8, 3) := by decide +kernel
theorem d34_4 : decode jdk_44_method_5_code 4 = .ok (.aload_n 0, 1) := by decide +kernel
theorem d34_5 : decode jdk_44_method_5_code 5 = .ok (.getfield 13, 3) := by decide +kernel
theorem d34_8 : decode jdk_44_method_5_code 8 = .ok (.areturn, 1) := by decide +kernel
theorem ef_get_2_0 (m : MethodId) (x0 : Addr) (x1 : Int32) : entryFrame m #[(.ref x0), (.int x1)] 2 = mkF m 0 #[.val (.ref x0), .val (.int x1)] [] := by first | (simp [entryFrame, mkF, argsToLocals, Value.category]; done) | rfl
theorem ef_get_2_1 (m : MethodId) (x0 : Addr) (x1 : Int32) : entryFrame m #[(.ref x0), (.int x1)] 2 = mkF m 0 #[.val (.ref x0), .val (.int x1)] [] := by first | (simp [entryFrame, mkF, argsToLocals, Value.category]; done) | rfl
theorem d34_9 : decode jdk_44_method_5_code 9 = .ok (.iload_n 1, 1) := by decide +kernel
theorem d34_10 : decode jdk_44_method_5_code 10 = .ok (.iconst 1, 1) := by decide +kernel
theorem d34_11 : decode jdk_44_method_5_code 11 = .ok (.if_icmp .ne 18, 3) := by decide +kernel
theorem d34_14 : decode jdk_44_method_5_code 14 = .ok (.aload_n 0, 1) := by decide +kernel
theorem d34_15 : decode jdk_44_method_5_code 15 = .ok (.getfield 24, 3) := by decide +kernel
theorem d34_18 : decode jdk_44_method_5_code 18 = .ok (.getstatic 19, 3) := by decide +kernel
theorem d34_21 : decode jdk_44_method_5_code 21 = .ok (.if_acmp .eq 8, 3) := by decide +kernel
theorem d34_24 : decode jdk_44_method_5_code 24 = .ok (.aload_n 0, 1) := by decide +kernel
theorem d34_25 : decode jdk_44_method_5_code 25 = .ok (.getfield 24, 3) := by decide +kernel
theorem d34_28 : decode jdk_44_method_5_code 28 = .ok (.areturn, 1) := by decide +kernel
theorem ef_get_3_0 (m : MethodId) (x0 : Addr) (x1 : Int32) : entryFrame m #[(.ref x0), (.int x1)] 2 = mkF m 0 #[.val (.ref x0), .val (.int x1)] [] := by first | (simp [entryFrame, mkF, argsToLocals, Value.category]; done) | rfl
theorem d39_0 : decode jdk_45_method_4_code 0 = .ok (.aload_n 0, 1) := by decide +kernel
theorem d39_1 : decode jdk_45_method_4_code 1 = .ok (.getfield 7, 3) := by decide +kernel
theorem d39_4 : decode jdk_45_method_4_code 4 = .ok (.iload_n 1, 1) := by decide +kernel
theorem d39_5 : decode jdk_45_method_4_code 5 = .ok (.aaload, 1) := by decide +kernel
theorem d39_6 : decode jdk_45_method_4_code 6 = .ok (.areturn, 1) := by decide +kernel
theorem ef_get_3_1 (m : MethodId) (x0 : Addr) (x1 : Int32) : entryFrame m #[(.ref x0), (.int x1)] 2 = mkF m 0 #[.val (.ref x0), .val (.int x1)] [] := by first | (simp [entryFrame, mkF, argsToLocals, Value.category]; done) | rfl
theorem ef_get_3_2 (m : MethodId) (x0 : Addr) (x1 : Int32) : entryFrame m #[(.ref x0), (.int x1)] 2 = mkF m 0 #[.val (.ref x0), .val (.int x1)] [] := by first | (simp [entryFrame, mkF, argsToLocals, Value.category]; done) | rfl
theorem ef_cell_1 (m : MethodId) (x0 : Addr) (x1 : Int32) : entryFrame m #[(.ref x0), (.int x1)] 2 = mkF m 0 #[.val (.ref x0), .val (.int x1)] [] := by first | (simp [entryFrame, mkF, argsToLocals, Value.category]; done) | rfl
theorem d33_0 : decode prog_13_method_3_code 0 = .ok (.aload_n 0, 1) := by decide +kernel
theorem d33_1 : decode prog_13_method_3_code 1 = .ok (.getfield 19, 3) := by decide +kernel
theorem d33_4 : decode prog_13_method_3_code 4 = .ok (.iload_n 1, 1) := by decide +kernel
theorem pd_17 : parseMethodDescriptor "(I)Ljava/lang/Object;" = some ⟨[.int], some (.object "java/lang/Object")⟩ := by decide +kernel
theorem d33_5 : decode prog_13_method_3_code 5 = .ok (.invokeinterface 36 2, 5) := by decide +kernel
theorem d33_10 : decode prog_13_method_3_code 10 = .ok (.checkcast 40, 3) := by decide +kernel
theorem d33_13 : decode prog_13_method_3_code 13 = .ok (.areturn, 1) := by decide +kernel
theorem ef_cell_2 (m : MethodId) (x0 : Addr) (x1 : Int32) : entryFrame m #[(.ref x0), (.int x1)] 2 = mkF m 0 #[.val (.ref x0), .val (.int x1)] [] := by first | (simp [entryFrame, mkF, argsToLocals, Value.category]; done) | rfl
theorem ef_cell_3 (m : MethodId) (x0 : Addr) (x1 : Int32) : entryFrame m #[(.ref x0), (.int x1)] 2 = mkF m 0 #[.val (.ref x0), .val (.int x1)] [] := by first | (simp [entryFrame, mkF, argsToLocals, Value.category]; done) | rfl
theorem pn_16 : plainName "java/lang/String" = true := by first | (simp [plainName, overriddenIn]; done) | decide +kernel
theorem ef_eqs (m : MethodId) (x0 : Addr) (x1 : Addr) : entryFrame m #[(.ref x0), (.ref x1)] 3 = mkF m 0 #[.val (.ref x0), .val (.ref x1), .unset] [] := by first | (simp [entryFrame, mkF, argsToLocals, Value.category]; done) | rfl
theorem d35_0 : decode jdk_42_method_66_code 0 = .ok (.aload_n 0, 1) := by decide +kernel
theorem d35_1 : decode jdk_42_method_66_code 1 = .ok (.aload_n 1, 1) := by decide +kernel
theorem d35_2 : decode jdk_42_method_66_code 2 = .ok (.if_acmp .ne 5, 3) := by decide +kernel
theorem d35_5 : decode jdk_42_method_66_code 5 = .ok (.iconst 1, 1) := by decide +kernel
theorem d35_6 : decode jdk_42_method_66_code 6 = .ok (.ireturn, 1) := by decide +kernel
theorem pn_17 : plainName "com/example/frosted_rows/frostedrows/release/PublishedGroupCellPinLaw" = true := by first | (simp [plainName, overriddenIn]; done) | decide +kernel
theorem ef_str (m : MethodId) (x0 : Int32) : entryFrame m #[(.int x0)] 3 = mkF m 0 #[.val (.int x0), .unset, .unset] [] := by first | (simp [entryFrame, mkF, argsToLocals, Value.category]; done) | rfl
theorem d1_0 : decode method_2_code 0 = .ok (.iload_n 0, 1) := by decide +kernel
theorem d1_1 : decode method_2_code 1 = .ok (.sipush 255, 3) := by decide +kernel
theorem d1_4 : decode method_2_code 4 = .ok (.iand, 1) := by decide +kernel
theorem d1_5 : decode method_2_code 5 = .ok (.i2c, 1) := by decide +kernel
theorem d1_6 : decode method_2_code 6 = .ok (.istore_n 1, 1) := by decide +kernel
theorem d1_7 : decode method_2_code 7 = .ok (.iload_n 0, 1) := by decide +kernel
theorem d1_8 : decode method_2_code 8 = .ok (.bipush 8, 2) := by decide +kernel
theorem d1_10 : decode method_2_code 10 = .ok (.iushr, 1) := by decide +kernel
theorem d1_11 : decode method_2_code 11 = .ok (.sipush 255, 3) := by decide +kernel
theorem d1_14 : decode method_2_code 14 = .ok (.iand, 1) := by decide +kernel
theorem d1_15 : decode method_2_code 15 = .ok (.i2c, 1) := by decide +kernel
theorem d1_16 : decode method_2_code 16 = .ok (.istore_n 2, 1) := by decide +kernel
theorem d1_17 : decode method_2_code 17 = .ok (.iload_n 0, 1) := by decide +kernel
theorem d1_18 : decode method_2_code 18 = .ok (.bipush 16, 2) := by decide +kernel
theorem d1_20 : decode method_2_code 20 = .ok (.iushr, 1) := by decide +kernel
theorem d1_21 : decode method_2_code 21 = .ok (.iconst 1, 1) := by decide +kernel
theorem d1_22 : decode method_2_code 22 = .ok (.iand, 1) := by decide +kernel
theorem d1_23 : decode method_2_code 23 = .ok (.ifCond .ne 18, 3) := by decide +kernel
theorem d1_26 : decode method_2_code 26 = .ok (.new 7, 3) := by decide +kernel
theorem d1_29 : decode method_2_code 29 = .ok (.dup, 1) := by decide +kernel
theorem d1_30 : decode method_2_code 30 = .ok (.iconst 1, 1) := by decide +kernel
theorem d1_31 : decode method_2_code 31 = .ok (.newarray .char, 2) := by decide +kernel
theorem d1_33 : decode method_2_code 33 = .ok (.dup, 1) := by decide +kernel
theorem d1_34 : decode method_2_code 34 = .ok (.iconst 0, 1) := by decide +kernel
theorem d1_35 : decode method_2_code 35 = .ok (.iload_n 1, 1) := by decide +kernel
theorem d1_36 : decode method_2_code 36 = .ok (.castore, 1) := by decide +kernel
theorem pd_18 : parseMethodDescriptor "([C)V" = some ⟨[(.array .char)], none⟩ := by decide +kernel
theorem d1_37 : decode method_2_code 37 = .ok (.invokespecial 9, 3) := by decide +kernel
theorem d1_40 : decode method_2_code 40 = .ok (.areturn, 1) := by decide +kernel
theorem d1_41 : decode method_2_code 41 = .ok (.new 7, 3) := by decide +kernel
theorem d1_44 : decode method_2_code 44 = .ok (.dup, 1) := by decide +kernel
theorem d1_45 : decode method_2_code 45 = .ok (.iconst 2, 1) := by decide +kernel
theorem d1_46 : decode method_2_code 46 = .ok (.newarray .char, 2) := by decide +kernel
theorem d1_48 : decode method_2_code 48 = .ok (.dup, 1) := by decide +kernel
theorem d1_49 : decode method_2_code 49 = .ok (.iconst 0, 1) := by decide +kernel
theorem d1_50 : decode method_2_code 50 = .ok (.iload_n 1, 1) := by decide +kernel
theorem d1_51 : decode method_2_code 51 = .ok (.castore, 1) := by decide +kernel
theorem d1_52 : decode method_2_code 52 = .ok (.dup, 1) := by decide +kernel
theorem d1_53 : decode method_2_code 53 = .ok (.iconst 1, 1) := by decide +kernel
theorem d1_54 : decode method_2_code 54 = .ok (.iload_n 2, 1) := by decide +kernel
theorem d1_55 : decode method_2_code 55 = .ok (.castore, 1) := by decide +kernel
theorem d1_56 : decode method_2_code 56 = .ok (.invokespecial 9, 3) := by decide +kernel
theorem d1_59 : decode method_2_code 59 = .ok (.areturn, 1) := by decide +kernel
theorem ef_law (m : MethodId) (x0 : Int32) (x1 : Int32) (x2 : Int32) (x3 : Int32) (x4 : Int32) (x5 : Int32) : entryFrame m #[(.int x0), (.int x1), (.int x2), (.int x3), (.int x4), (.int x5)] maxLocals = mkF m 0 #[.val (.int x0), .val (.int x1), .val (.int x2), .val (.int x3), .val (.int x4), .val (.int x5), .unset, .unset, .unset, .unset, .unset, .unset, .unset, .unset, .unset, .unset, .unset, .unset, .unset, .unset] [] := by first | (simp [entryFrame, mkF, argsToLocals, Value.category, maxLocals]; done) | rfl
theorem pd_19 : parseMethodDescriptor "(I)Ljava/lang/String;" = some ⟨[.int], some (.object "java/lang/String")⟩ := by decide +kernel
theorem pd_20 : parseMethodDescriptor "(Ljava/lang/Object;)Z" = some ⟨[(.object "java/lang/Object")], some .boolean⟩ := by decide +kernel
theorem pd_21 : parseMethodDescriptor "(Ljava/lang/String;Ljava/util/List;[ILjava/util/List;)V" = some ⟨[(.object "java/lang/String"), (.object "java/util/List"), (.array .int), (.object "java/util/List")], none⟩ := by decide +kernel
def Q_abc (Z : State) (a1 : Addr) (h0 : Heap) (n0 : Nat) (v : Option Value) (h : Heap) (L : List Loc) : Prop := v = none ∧ Fr n0 L ∧ h = h0
set_option maxRecDepth 65536 in
set_option maxHeartbeats 40000000 in
theorem rm_abc (l : Launch) (Z : State) (a0 : Array Value) (hw : ∀ d ∈ tables_1, d.before a0 Z = true) (ws : List Jvm.Cond) (a1 : Addr) (h0 : Heap) (n0 : Nat) (Z0 : n0 ≤ h0.size)  :
    MetFree l (⟨"java/util/AbstractCollection", "<init>", "()V"⟩ : MethodName) (head1 (Jvm.Cond.code (⟨"java/util/AbstractCollection", "<init>", "()V"⟩ : MethodName) jdk_22_method_1_code 1 none :: ws) ({ frames := 1, cells := 0, slots := 0, locals := 12 } : Room)) (fun aa U => aa = #[(.ref a1)] ∧ Z.Warmed39 U.vm ∧ U.heap = h0) (fun _ _ _ _ _ => True) (fun _ U o U' => ∃ v L, o = .returned v ∧ Q_abc Z a1 h0 n0 v U'.heap L ∧ FrameEnd U o U' L ({ frames := 1, cells := 0, slots := 0, locals := 12 } : Room).cells ({ frames := 1, cells := 0, slots := 0, locals := 12 } : Room).slots) := by
  refine MetFree.of_bodySF (plainFor_of_name pn_0) hisR ?_
  intro p e s m args below meth c s₁ Bd hml0 hP hK
  obtain ⟨rfl, hZ, hh⟩ := hP
  have hx := Bd.exec
  have hby := Bd.bytes
  have hml : c.maxLocals = 1 := hml0
  have hown : s.vm.findClass "java/util/AbstractCollection" = some m.cls := findClass_of_methodNamed Bd.named
  have hnm := (name_of_methodNamed Bd.named Bd.method).1
  have hlk : meth.locks = false := BodyLoose.notSynchronized Bd
  have X0 : Stand p l e ({ frames := 1, cells := 0, slots := 0, locals := 12 } : Room) s m #[(.ref a1)] below meth c s₁ [] 0 0 := Stand.of_body Bd
  have e0 : s₁.heap = h0 := by rw [← hh, Bd.state]; rfl
  have N0 := Fr.nil n0
  have K0 : Keep h0 h0 [] := Keep.refl _ _
  show Gl p.tables e below (QQof s (Q_abc Z a1 h0 n0) 0 0) (s₁.setTop (entryFrame m #[(.ref a1)] 1))
  refine Gl.go (fun t k => castTop (ef_abc m a1) k) ?_
  show Gl _ _ _ _ (s₁.setTop (mkF m 0 #[.val (.ref a1)] []))
  refine Gl.go (fun _ k => XS.aloadN X0.here hx rfl (hb hby d10_0) rfl rfl  k) ?_
  obtain ⟨T1, X1, e1, st1⟩ := initO X0 hx hZ hown (hw _ (List.mem_of_getElem? (i := 52) rfl)) (hw _ (List.mem_of_getElem? (i := 16) rfl)) (hw _ (List.mem_of_getElem? (i := 17) rfl)) e0 (g := (mkF m 1 #[.val (.ref a1)] [(.ref a1)])) rfl (by rw [hml]; rfl) rfl (hb hby d10_1) (by decide) (W := 0) (by show 2 * 0 + _ ≤ _; exact Nat.le_of_eq rfl) (by decide)
  refine Gl.go (fun _ k => st1 _ k) ?_
  show Gl _ _ _ _ (T1.setTop (mkF m 4 #[.val (.ref a1)] []))
  refine leafV X1 hx hlk Bd.returns (hb hby d10_4) ?_ (by decide) (by decide)
  exact ⟨rfl, N0, e1⟩
def Q_aic (Z : State) (a1 : Addr) (h0 : Heap) (n0 : Nat) (v : Option Value) (h : Heap) (L : List Loc) : Prop := v = none ∧ Fr n0 L ∧ h = h0
set_option maxRecDepth 65536 in
set_option maxHeartbeats 40000000 in
theorem rm_aic (l : Launch) (Z : State) (a0 : Array Value) (hw : ∀ d ∈ tables_1, d.before a0 Z = true) (ws : List Jvm.Cond) (a1 : Addr) (h0 : Heap) (n0 : Nat) (Z0 : n0 ≤ h0.size)  :
    MetFree l (⟨"java/util/ImmutableCollections$AbstractImmutableCollection", "<init>", "()V"⟩ : MethodName) (head1 (Jvm.Cond.code (⟨"java/util/ImmutableCollections$AbstractImmutableCollection", "<init>", "()V"⟩ : MethodName) jdk_47_method_1_code 1 none :: ws) ({ frames := 2, cells := 0, slots := 0, locals := 24 } : Room)) (fun aa U => aa = #[(.ref a1)] ∧ Z.Warmed39 U.vm ∧ U.heap = h0) (fun _ _ _ _ _ => True) (fun _ U o U' => ∃ v L, o = .returned v ∧ Q_aic Z a1 h0 n0 v U'.heap L ∧ FrameEnd U o U' L ({ frames := 2, cells := 0, slots := 0, locals := 24 } : Room).cells ({ frames := 2, cells := 0, slots := 0, locals := 24 } : Room).slots) := by
  refine MetFree.of_bodySF (plainFor_of_name pn_1) hisR ?_
  intro p e s m args below meth c s₁ Bd hml0 hP hK
  obtain ⟨rfl, hZ, hh⟩ := hP
  have hx := Bd.exec
  have hby := Bd.bytes
  have hml : c.maxLocals = 1 := hml0
  have hown : s.vm.findClass "java/util/ImmutableCollections$AbstractImmutableCollection" = some m.cls := findClass_of_methodNamed Bd.named
  have hnm := (name_of_methodNamed Bd.named Bd.method).1
  have hlk : meth.locks = false := BodyLoose.notSynchronized Bd
  have X0 : Stand p l e ({ frames := 2, cells := 0, slots := 0, locals := 24 } : Room) s m #[(.ref a1)] below meth c s₁ [] 0 0 := Stand.of_body Bd
  have e0 : s₁.heap = h0 := by rw [← hh, Bd.state]; rfl
  have N0 := Fr.nil n0
  have K0 : Keep h0 h0 [] := Keep.refl _ _
  show Gl p.tables e below (QQof s (Q_aic Z a1 h0 n0) 0 0) (s₁.setTop (entryFrame m #[(.ref a1)] 1))
  refine Gl.go (fun t k => castTop (ef_aic m a1) k) ?_
  show Gl _ _ _ _ (s₁.setTop (mkF m 0 #[.val (.ref a1)] []))
  refine Gl.go (fun _ k => XS.aloadN X0.here hx rfl (hb hby d27_0) rfl rfl  k) ?_
  obtain ⟨_, _, ⟨T1, L1, k1, n1⟩, -, X1, ⟨Lc1, hQ1, l1, y1, z1⟩, st1⟩ := X0.specialBack hx (y := (⟨"java/util/AbstractCollection", "<init>", "()V"⟩ : MethodName)) rfl hown (mvT hZ (hw _ (List.mem_of_getElem? (i := 177) rfl))) (mvT hZ (hw _ (List.mem_of_getElem? (i := 47) rfl))) (mvT hZ (hw _ (List.mem_of_getElem? (i := 51) rfl))) (by decide) (backOf (W := 0) (rm_abc l Z a0 hw [] a1 h0 n0 Z0 ) hZ (hw _ (List.mem_of_getElem? (i := 51) rfl)) (hw _ (List.mem_of_getElem? (i := 50) rfl)) (by decide) (by decide)) (g := (mkF m 1 #[.val (.ref a1)] [(.ref a1)])) rfl (by rw [hml]; rfl) (Steps.refl _) (a := a1) (argsL := []) (rest := []) (lenOf pd_0 rfl) rfl (by show 2 * 0 + _ ≤ _; exact Nat.le_of_eq rfl) (hb hby d27_1) (fun _ _ => ⟨rfl, e0, (by decide : 0 + 0 ≤ _), (by decide : 0 + 0 ≤ _)⟩)
  dsimp only [Pt.U, Pt.locs, Pt.cells, Pt.slots] at X1 l1 y1 z1 st1 hQ1
  subst y1 z1
  obtain ⟨rfl, Nq1, e1⟩ := hQ1
  have N1 : Fr n0 L1 := by rw [l1]; exact Fr.app N0 Nq1
  refine Gl.go (fun _ k => st1.trans k) ?_
  show Gl _ _ _ _ (T1.setTop (mkF m 4 #[.val (.ref a1)] []))
  refine leafV X1 hx hlk Bd.returns (hb hby d27_4) ?_ (by decide) (by decide)
  exact ⟨rfl, N1, e1⟩
def Q_ail (Z : State) (a1 : Addr) (h0 : Heap) (n0 : Nat) (v : Option Value) (h : Heap) (L : List Loc) : Prop := v = none ∧ Fr n0 L ∧ h = h0
set_option maxRecDepth 65536 in
set_option maxHeartbeats 40000000 in
theorem rm_ail (l : Launch) (Z : State) (a0 : Array Value) (hw : ∀ d ∈ tables_1, d.before a0 Z = true) (ws : List Jvm.Cond) (a1 : Addr) (h0 : Heap) (n0 : Nat) (Z0 : n0 ≤ h0.size)  :
    MetFree l (⟨"java/util/ImmutableCollections$AbstractImmutableList", "<init>", "()V"⟩ : MethodName) (head1 (Jvm.Cond.code (⟨"java/util/ImmutableCollections$AbstractImmutableList", "<init>", "()V"⟩ : MethodName) jdk_46_method_1_code 1 none :: ws) ({ frames := 3, cells := 0, slots := 0, locals := 36 } : Room)) (fun aa U => aa = #[(.ref a1)] ∧ Z.Warmed39 U.vm ∧ U.heap = h0) (fun _ _ _ _ _ => True) (fun _ U o U' => ∃ v L, o = .returned v ∧ Q_ail Z a1 h0 n0 v U'.heap L ∧ FrameEnd U o U' L ({ frames := 3, cells := 0, slots := 0, locals := 36 } : Room).cells ({ frames := 3, cells := 0, slots := 0, locals := 36 } : Room).slots) := by
  refine MetFree.of_bodySF (plainFor_of_name pn_2) hisR ?_
  intro p e s m args below meth c s₁ Bd hml0 hP hK
  obtain ⟨rfl, hZ, hh⟩ := hP
  have hx := Bd.exec
  have hby := Bd.bytes
  have hml : c.maxLocals = 1 := hml0
  have hown : s.vm.findClass "java/util/ImmutableCollections$AbstractImmutableList" = some m.cls := findClass_of_methodNamed Bd.named
  have hnm := (name_of_methodNamed Bd.named Bd.method).1
  have hlk : meth.locks = false := BodyLoose.notSynchronized Bd
  have X0 : Stand p l e ({ frames := 3, cells := 0, slots := 0, locals := 36 } : Room) s m #[(.ref a1)] below meth c s₁ [] 0 0 := Stand.of_body Bd
  have e0 : s₁.heap = h0 := by rw [← hh, Bd.state]; rfl
  have N0 := Fr.nil n0
  have K0 : Keep h0 h0 [] := Keep.refl _ _
  show Gl p.tables e below (QQof s (Q_ail Z a1 h0 n0) 0 0) (s₁.setTop (entryFrame m #[(.ref a1)] 1))
  refine Gl.go (fun t k => castTop (ef_ail m a1) k) ?_
  show Gl _ _ _ _ (s₁.setTop (mkF m 0 #[.val (.ref a1)] []))
  refine Gl.go (fun _ k => XS.aloadN X0.here hx rfl (hb hby d26_0) rfl rfl  k) ?_
  obtain ⟨_, _, ⟨T1, L1, k1, n1⟩, -, X1, ⟨Lc1, hQ1, l1, y1, z1⟩, st1⟩ := X0.specialBack hx (y := (⟨"java/util/ImmutableCollections$AbstractImmutableCollection", "<init>", "()V"⟩ : MethodName)) rfl hown (mvT hZ (hw _ (List.mem_of_getElem? (i := 171) rfl))) (mvT hZ (hw _ (List.mem_of_getElem? (i := 172) rfl))) (mvT hZ (hw _ (List.mem_of_getElem? (i := 176) rfl))) (by decide) (backOf (W := 0) (rm_aic l Z a0 hw [] a1 h0 n0 Z0 ) hZ (hw _ (List.mem_of_getElem? (i := 176) rfl)) (hw _ (List.mem_of_getElem? (i := 175) rfl)) (by decide) (by decide)) (g := (mkF m 1 #[.val (.ref a1)] [(.ref a1)])) rfl (by rw [hml]; rfl) (Steps.refl _) (a := a1) (argsL := []) (rest := []) (lenOf pd_0 rfl) rfl (by show 2 * 0 + _ ≤ _; exact Nat.le_of_eq rfl) (hb hby d26_1) (fun _ _ => ⟨rfl, e0, (by decide : 0 + 0 ≤ _), (by decide : 0 + 0 ≤ _)⟩)
  dsimp only [Pt.U, Pt.locs, Pt.cells, Pt.slots] at X1 l1 y1 z1 st1 hQ1
  subst y1 z1
  obtain ⟨rfl, Nq1, e1⟩ := hQ1
  have N1 : Fr n0 L1 := by rw [l1]; exact Fr.app N0 Nq1
  refine Gl.go (fun _ k => st1.trans k) ?_
  show Gl _ _ _ _ (T1.setTop (mkF m 4 #[.val (.ref a1)] []))
  refine leafV X1 hx hlk Bd.returns (hb hby d26_4) ?_ (by decide) (by decide)
  exact ⟨rfl, N1, e1⟩
def Q_abl (Z : State) (a1 : Addr) (h0 : Heap) (n0 : Nat) (v : Option Value) (h : Heap) (L : List Loc) : Prop := v = none ∧ Fr n0 L ∧ Keep h0 h [a1] ∧ (Exa Z h a1 "java/util/ArrayList") ∧ (Fld Z h a1 "java/util/AbstractList" "modCount" "I" (.int (0 : Int32))) ∧ (Fld Z h a1 "java/util/ArrayList" "elementData" "[Ljava/lang/Object;" .null) ∧ (Fld Z h a1 "java/util/ArrayList" "size" "I" (.int (0 : Int32)))
set_option maxRecDepth 65536 in
set_option maxHeartbeats 40000000 in
theorem rm_abl (l : Launch) (Z : State) (a0 : Array Value) (hw : ∀ d ∈ tables_1, d.before a0 Z = true) (ws : List Jvm.Cond) (a1 : Addr) (h0 : Heap) (n0 : Nat) (Z0 : n0 ≤ h0.size) (E_a1 : (Exa Z h0 a1 "java/util/ArrayList")) (M_a1 : (Fld Z h0 a1 "java/util/AbstractList" "modCount" "I" (.int (0 : Int32)))) (D_a1 : (Fld Z h0 a1 "java/util/ArrayList" "elementData" "[Ljava/lang/Object;" .null)) (S_a1 : (Fld Z h0 a1 "java/util/ArrayList" "size" "I" (.int (0 : Int32)))) (g_a1 : n0 ≤ a1) :
    MetFree l (⟨"java/util/AbstractList", "<init>", "()V"⟩ : MethodName) (head1 (Jvm.Cond.code (⟨"java/util/AbstractList", "<init>", "()V"⟩ : MethodName) jdk_39_method_1_code 1 none :: ws) ({ frames := 2, cells := 0, slots := 0, locals := 24 } : Room)) (fun aa U => aa = #[(.ref a1)] ∧ Z.Warmed39 U.vm ∧ U.heap = h0) (fun _ _ _ _ _ => True) (fun _ U o U' => ∃ v L, o = .returned v ∧ Q_abl Z a1 h0 n0 v U'.heap L ∧ FrameEnd U o U' L ({ frames := 2, cells := 0, slots := 0, locals := 24 } : Room).cells ({ frames := 2, cells := 0, slots := 0, locals := 24 } : Room).slots) := by
  refine MetFree.of_bodySF (plainFor_of_name pn_3) hisR ?_
  intro p e s m args below meth c s₁ Bd hml0 hP hK
  obtain ⟨rfl, hZ, hh⟩ := hP
  have hx := Bd.exec
  have hby := Bd.bytes
  have hml : c.maxLocals = 1 := hml0
  have hown : s.vm.findClass "java/util/AbstractList" = some m.cls := findClass_of_methodNamed Bd.named
  have hnm := (name_of_methodNamed Bd.named Bd.method).1
  have hlk : meth.locks = false := BodyLoose.notSynchronized Bd
  have X0 : Stand p l e ({ frames := 2, cells := 0, slots := 0, locals := 24 } : Room) s m #[(.ref a1)] below meth c s₁ [] 0 0 := Stand.of_body Bd
  have e0 : s₁.heap = h0 := by rw [← hh, Bd.state]; rfl
  have N0 := Fr.nil n0
  have K0 : Keep h0 h0 [a1] := Keep.refl _ _
  show Gl p.tables e below (QQof s (Q_abl Z a1 h0 n0) 0 0) (s₁.setTop (entryFrame m #[(.ref a1)] 1))
  refine Gl.go (fun t k => castTop (ef_abl m a1) k) ?_
  show Gl _ _ _ _ (s₁.setTop (mkF m 0 #[.val (.ref a1)] []))
  refine Gl.go (fun _ k => XS.aloadN X0.here hx rfl (hb hby d9_0) rfl rfl  k) ?_
  obtain ⟨_, _, ⟨T1, L1, k1, n1⟩, -, X1, ⟨Lc1, hQ1, l1, y1, z1⟩, st1⟩ := X0.specialBack hx (y := (⟨"java/util/AbstractCollection", "<init>", "()V"⟩ : MethodName)) rfl hown (mvT hZ (hw _ (List.mem_of_getElem? (i := 46) rfl))) (mvT hZ (hw _ (List.mem_of_getElem? (i := 47) rfl))) (mvT hZ (hw _ (List.mem_of_getElem? (i := 51) rfl))) (by decide) (backOf (W := 0) (rm_abc l Z a0 hw [] a1 h0 n0 Z0 ) hZ (hw _ (List.mem_of_getElem? (i := 51) rfl)) (hw _ (List.mem_of_getElem? (i := 50) rfl)) (by decide) (by decide)) (g := (mkF m 1 #[.val (.ref a1)] [(.ref a1)])) rfl (by rw [hml]; rfl) (Steps.refl _) (a := a1) (argsL := []) (rest := []) (lenOf pd_0 rfl) rfl (by show 2 * 0 + _ ≤ _; exact Nat.le_of_eq rfl) (hb hby d9_1) (fun _ _ => ⟨rfl, e0, (by decide : 0 + 0 ≤ _), (by decide : 0 + 0 ≤ _)⟩)
  dsimp only [Pt.U, Pt.locs, Pt.cells, Pt.slots] at X1 l1 y1 z1 st1 hQ1
  subst y1 z1
  obtain ⟨rfl, Nq1, e1⟩ := hQ1
  have N1 : Fr n0 L1 := by rw [l1]; exact Fr.app N0 Nq1
  refine Gl.go (fun _ k => st1.trans k) ?_
  show Gl _ _ _ _ (T1.setTop (mkF m 4 #[.val (.ref a1)] []))
  refine Gl.go (fun _ k => XS.aloadN X1.here hx rfl (hb hby d9_4) rfl rfl  k) ?_
  refine Gl.go (fun _ k => XS.iconst X1.here hx rfl (hb hby d9_5) k) ?_
  obtain ⟨T2, h2, X2, e2, W2, st2⟩ := putF X1 hx hZ hown (host := "") (Or.inl (hw _ (List.mem_of_getElem? (i := 53) rfl))) Via.refl e1 M_a1 E_a1 (Or.inl (hw _ (List.mem_of_getElem? (i := 54) rfl))) (hw _ (List.mem_of_getElem? (i := 35) rfl)) (ty := .int) (by decide) rfl rfl (g := (mkF m 6 #[.val (.ref a1)] [(.int (0 : Int32)), (.ref a1)])) rfl rfl (hb hby d9_6)
  have E_a1_2 := E_a1.wr W2
  have F_a1_modCount_2 := M_a1.same W2
  have F_a1_elementData_2 := D_a1.other W2 (Or.inr (slot_ne (t := (.array (.object "java/lang/Object"))) (t' := .int) (Or.inl (hw _ (List.mem_of_getElem? (i := 57) rfl))) (Or.inl (hw _ (List.mem_of_getElem? (i := 54) rfl))) (by decide) (by decide) (by decide)))
  have F_a1_size_2 := S_a1.other W2 (Or.inr (slot_ne (t := .int) (t' := .int) (Or.inl (hw _ (List.mem_of_getElem? (i := 66) rfl))) (Or.inl (hw _ (List.mem_of_getElem? (i := 54) rfl))) (by decide) (by decide) (by decide)))
  have SZ2 : n0 ≤ h2.size := by rw [Wr.size W2]; exact Z0
  have K2 : Keep h0 h2 [a1] := K0.wr W2 (Or.inl (List.mem_of_getElem? (i := 0) rfl))
  have N2 := Fr.snoc X2 N1 g_a1
  refine Gl.go (fun _ k => st2 _ k) ?_
  show Gl _ _ _ _ (T2.setTop (mkF m 9 #[.val (.ref a1)] []))
  refine leafV X2 hx hlk Bd.returns (hb hby d9_9) ?_ (by decide) (by decide)
  rw [e2]
  exact ⟨rfl, N2, K2, E_a1_2, F_a1_modCount_2, F_a1_elementData_2, F_a1_size_2⟩
def Q_ali (Z : State) (a1 dE : Addr) (h0 : Heap) (n0 : Nat) (v : Option Value) (h : Heap) (L : List Loc) : Prop := v = none ∧ Fr n0 L ∧ Keep h0 h [a1] ∧ (Exa Z h a1 "java/util/ArrayList") ∧ (Fld Z h a1 "java/util/AbstractList" "modCount" "I" (.int (0 : Int32))) ∧ (Fld Z h a1 "java/util/ArrayList" "elementData" "[Ljava/lang/Object;" (.ref dE)) ∧ (Fld Z h a1 "java/util/ArrayList" "size" "I" (.int (0 : Int32)))
set_option maxRecDepth 65536 in
set_option maxHeartbeats 40000000 in
theorem rm_ali (l : Launch) (Z : State) (a0 : Array Value) (hw : ∀ d ∈ tables_1, d.before a0 Z = true) (ws : List Jvm.Cond) (a1 dE : Addr) (h0 : Heap) (n0 : Nat) (Z0 : n0 ≤ h0.size) (E_a1 : (Exa Z h0 a1 "java/util/ArrayList")) (M_a1 : (Fld Z h0 a1 "java/util/AbstractList" "modCount" "I" (.int (0 : Int32)))) (D_a1 : (Fld Z h0 a1 "java/util/ArrayList" "elementData" "[Ljava/lang/Object;" .null)) (S_a1 : (Fld Z h0 a1 "java/util/ArrayList" "size" "I" (.int (0 : Int32)))) (g_a1 : n0 ≤ a1) (SD : Sta Z Z.heap "java/util/ArrayList" "DEFAULTCAPACITY_EMPTY_ELEMENTDATA" "[Ljava/lang/Object;" (.ref dE)) (O0 : Old Z n0 h0) :
    MetFree l (⟨"java/util/ArrayList", "<init>", "()V"⟩ : MethodName) (head1 (Jvm.Cond.code (⟨"java/util/ArrayList", "<init>", "()V"⟩ : MethodName) jdk_38_method_2_code 1 none :: ws) ({ frames := 3, cells := 0, slots := 0, locals := 36 } : Room)) (fun aa U => aa = #[(.ref a1)] ∧ Z.Warmed39 U.vm ∧ U.heap = h0) (fun _ _ _ _ _ => True) (fun _ U o U' => ∃ v L, o = .returned v ∧ Q_ali Z a1 dE h0 n0 v U'.heap L ∧ FrameEnd U o U' L ({ frames := 3, cells := 0, slots := 0, locals := 36 } : Room).cells ({ frames := 3, cells := 0, slots := 0, locals := 36 } : Room).slots) := by
  refine MetFree.of_bodySF (plainFor_of_name pn_4) hisR ?_
  intro p e s m args below meth c s₁ Bd hml0 hP hK
  obtain ⟨rfl, hZ, hh⟩ := hP
  have hx := Bd.exec
  have hby := Bd.bytes
  have hml : c.maxLocals = 1 := hml0
  have hown : s.vm.findClass "java/util/ArrayList" = some m.cls := findClass_of_methodNamed Bd.named
  have hnm := (name_of_methodNamed Bd.named Bd.method).1
  have hlk : meth.locks = false := BodyLoose.notSynchronized Bd
  have X0 : Stand p l e ({ frames := 3, cells := 0, slots := 0, locals := 36 } : Room) s m #[(.ref a1)] below meth c s₁ [] 0 0 := Stand.of_body Bd
  have e0 : s₁.heap = h0 := by rw [← hh, Bd.state]; rfl
  have N0 := Fr.nil n0
  have K0 : Keep h0 h0 [a1] := Keep.refl _ _
  show Gl p.tables e below (QQof s (Q_ali Z a1 dE h0 n0) 0 0) (s₁.setTop (entryFrame m #[(.ref a1)] 1))
  refine Gl.go (fun t k => castTop (ef_ali m a1) k) ?_
  show Gl _ _ _ _ (s₁.setTop (mkF m 0 #[.val (.ref a1)] []))
  refine Gl.go (fun _ k => XS.aloadN X0.here hx rfl (hb hby d8_0) rfl rfl  k) ?_
  obtain ⟨_, _, ⟨T1, L1, k1, n1⟩, -, X1, ⟨Lc1, hQ1, l1, y1, z1⟩, st1⟩ := X0.specialBack hx (y := (⟨"java/util/AbstractList", "<init>", "()V"⟩ : MethodName)) rfl hown (mvT hZ (hw _ (List.mem_of_getElem? (i := 40) rfl))) (mvT hZ (hw _ (List.mem_of_getElem? (i := 41) rfl))) (mvT hZ (hw _ (List.mem_of_getElem? (i := 45) rfl))) (by decide) (backOf (W := 0) (rm_abl l Z a0 hw [] a1 h0 n0 Z0 E_a1 M_a1 D_a1 S_a1 g_a1) hZ (hw _ (List.mem_of_getElem? (i := 45) rfl)) (hw _ (List.mem_of_getElem? (i := 44) rfl)) (by decide) (by decide)) (g := (mkF m 1 #[.val (.ref a1)] [(.ref a1)])) rfl (by rw [hml]; rfl) (Steps.refl _) (a := a1) (argsL := []) (rest := []) (lenOf pd_0 rfl) rfl (by show 2 * 0 + _ ≤ _; exact Nat.le_of_eq rfl) (hb hby d8_1) (fun _ _ => ⟨rfl, e0, (by decide : 0 + 0 ≤ _), (by decide : 0 + 0 ≤ _)⟩)
  dsimp only [Pt.U, Pt.locs, Pt.cells, Pt.slots] at X1 l1 y1 z1 st1 hQ1
  subst y1 z1
  obtain ⟨rfl, Nq1, Kc1, Ea1, Ma1, Da1, Sa1⟩ := hQ1
  have N1 : Fr n0 L1 := by rw [l1]; exact Fr.app N0 Nq1
  refine Gl.go (fun _ k => st1.trans k) ?_
  have E_a1_1 := E_a1.keep Kc1
  have O__1 := O0.keep Kc1 (allS g_a1 all0)
  have SZ1 : n0 ≤ T1.heap.size := Nat.le_trans Z0 Kc1.1
  have K1 : Keep h0 T1.heap [a1] := K0.trans Kc1 (allS (Or.inl (List.mem_of_getElem? (i := 0) rfl)) all0)
  show Gl _ _ _ _ (T1.setTop (mkF m 4 #[.val (.ref a1)] []))
  refine Gl.go (fun _ k => XS.aloadN X1.here hx rfl (hb hby d8_4) rfl rfl  k) ?_
  obtain ⟨T2, X2, e2, st2⟩ := getS2 X1 hx hZ hown (host := "") (Or.inl (hw _ (List.mem_of_getElem? (i := 55) rfl))) Via.refl rfl (SD.ext O__1.2) (g := (mkF m 5 #[.val (.ref a1)] [(.ref a1)])) rfl (hb hby d8_5)
  refine Gl.go (fun _ k => st2 _ k) ?_
  show Gl _ _ _ _ (T2.setTop (mkF m 8 #[.val (.ref a1)] [(.ref dE), (.ref a1)]))
  obtain ⟨T3, h3, X3, e3, W3, st3⟩ := putF X2 hx hZ hown (host := "") (Or.inl (hw _ (List.mem_of_getElem? (i := 56) rfl))) Via.refl e2 Da1 Ea1 (Or.inl (hw _ (List.mem_of_getElem? (i := 57) rfl))) (hw _ (List.mem_of_getElem? (i := 35) rfl)) (ty := (.array (.object "java/lang/Object"))) (by decide) rfl rfl (g := (mkF m 8 #[.val (.ref a1)] [(.ref dE), (.ref a1)])) rfl rfl (hb hby d8_8)
  have O__3 := O__1.wr W3 g_a1
  have E_a1_3 := Ea1.wr W3
  have F_a1_modCount_3 := Ma1.other W3 (Or.inr (slot_ne (t := .int) (t' := (.array (.object "java/lang/Object"))) (Or.inl (hw _ (List.mem_of_getElem? (i := 54) rfl))) (Or.inl (hw _ (List.mem_of_getElem? (i := 57) rfl))) (by decide) (by decide) (by decide)))
  have F_a1_elementData_3 := Da1.same W3
  have F_a1_size_3 := Sa1.other W3 (Or.inr (slot_ne (t := .int) (t' := (.array (.object "java/lang/Object"))) (Or.inl (hw _ (List.mem_of_getElem? (i := 66) rfl))) (Or.inl (hw _ (List.mem_of_getElem? (i := 57) rfl))) (by decide) (by decide) (by decide)))
  have SZ3 : n0 ≤ h3.size := by rw [Wr.size W3]; exact SZ1
  have K3 : Keep h0 h3 [a1] := K1.wr W3 (Or.inl (List.mem_of_getElem? (i := 0) rfl))
  have N3 := Fr.snoc X3 N1 g_a1
  refine Gl.go (fun _ k => st3 _ k) ?_
  show Gl _ _ _ _ (T3.setTop (mkF m 11 #[.val (.ref a1)] []))
  refine leafV X3 hx hlk Bd.returns (hb hby d8_11) ?_ (by decide) (by decide)
  rw [e3]
  exact ⟨rfl, N3, K3, E_a1_3, F_a1_modCount_3, F_a1_elementData_3, F_a1_size_3⟩
def Q_mx (Z : State)  (h0 : Heap) (n0 : Nat) (v : Option Value) (h : Heap) (L : List Loc) : Prop := v = some (.int (10 : Int32)) ∧ Fr n0 L ∧ h = h0
set_option maxRecDepth 65536 in
set_option maxHeartbeats 40000000 in
theorem rm_mx (l : Launch) (Z : State) (a0 : Array Value) (hw : ∀ d ∈ tables_1, d.before a0 Z = true) (ws : List Jvm.Cond)  (h0 : Heap) (n0 : Nat) (Z0 : n0 ≤ h0.size)  :
    MetFree l (⟨"java/lang/Math", "max", "(II)I"⟩ : MethodName) (head1 (Jvm.Cond.code (⟨"java/lang/Math", "max", "(II)I"⟩ : MethodName) jdk_29_method_65_code 2 (some .int) :: ws) ({ frames := 0, cells := 0, slots := 0, locals := 0 } : Room)) (fun aa U => aa = #[(.int (10 : Int32)), (.int (1 : Int32))] ∧ Z.Warmed39 U.vm ∧ U.heap = h0) (fun _ _ _ _ _ => True) (fun _ U o U' => ∃ v L, o = .returned v ∧ Q_mx Z  h0 n0 v U'.heap L ∧ FrameEnd U o U' L ({ frames := 0, cells := 0, slots := 0, locals := 0 } : Room).cells ({ frames := 0, cells := 0, slots := 0, locals := 0 } : Room).slots) := by
  refine MetFree.of_bodySF (by decide +kernel) hisR ?_
  intro p e s m args below meth c s₁ Bd hml0 hP hK
  obtain ⟨rfl, hZ, hh⟩ := hP
  have hx := Bd.exec
  have hby := Bd.bytes
  have hml : c.maxLocals = 2 := hml0
  have hown : s.vm.findClass "java/lang/Math" = some m.cls := findClass_of_methodNamed Bd.named
  have hnm := (name_of_methodNamed Bd.named Bd.method).1
  have hlk : meth.locks = false := BodyLoose.notSynchronized Bd
  have X0 : Stand p l e ({ frames := 0, cells := 0, slots := 0, locals := 0 } : Room) s m #[(.int (10 : Int32)), (.int (1 : Int32))] below meth c s₁ [] 0 0 := Stand.of_body Bd
  have e0 : s₁.heap = h0 := by rw [← hh, Bd.state]; rfl
  have N0 := Fr.nil n0
  have K0 : Keep h0 h0 [] := Keep.refl _ _
  show Gl p.tables e below (QQof s (Q_mx Z  h0 n0) 0 0) (s₁.setTop (entryFrame m #[(.int (10 : Int32)), (.int (1 : Int32))] 2))
  refine Gl.go (fun t k => castTop (ef_mx m (10 : Int32) (1 : Int32)) k) ?_
  show Gl _ _ _ _ (s₁.setTop (mkF m 0 #[.val (.int (10 : Int32)), .val (.int (1 : Int32))] []))
  refine Gl.go (fun _ k => XS.iloadN X0.here hx rfl (hb hby d15_0) rfl  k) ?_
  refine Gl.go (fun _ k => XS.iloadN X0.here hx rfl (hb hby d15_1) rfl  k) ?_
  refine Gl.go (fun _ k => XS.icmpNo X0.here hx rfl (hb hby d15_2) rfl (flt (by decide)).1 k) ?_
  show Gl _ _ _ _ (s₁.setTop (mkF m 5 #[.val (.int (10 : Int32)), .val (.int (1 : Int32))] []))
  refine Gl.go (fun _ k => XS.iloadN X0.here hx rfl (hb hby d15_5) rfl  k) ?_
  refine Gl.go (fun _ k => XS.goto X0.here hx rfl (pc0 := 6) (pc' := 10) rfl (hb hby d15_6) (by decide) (by decide) k) ?_
  refine leafI X0 hx hlk Bd.returns (hb hby d15_10) ?_ (by decide) (by decide)
  exact ⟨rfl, N0, e0⟩
def Q_mn1 (Z : State)  (h0 : Heap) (n0 : Nat) (v : Option Value) (h : Heap) (L : List Loc) : Prop := v = some (.int (1 : Int32)) ∧ Fr n0 L ∧ h = h0
set_option maxRecDepth 65536 in
set_option maxHeartbeats 40000000 in
theorem rm_mn1 (l : Launch) (Z : State) (a0 : Array Value) (hw : ∀ d ∈ tables_1, d.before a0 Z = true) (ws : List Jvm.Cond)  (h0 : Heap) (n0 : Nat) (Z0 : n0 ≤ h0.size)  :
    MetFree l (⟨"java/lang/Math", "min", "(II)I"⟩ : MethodName) (head1 (Jvm.Cond.code (⟨"java/lang/Math", "min", "(II)I"⟩ : MethodName) jdk_29_method_69_code 2 (some .int) :: ws) ({ frames := 0, cells := 0, slots := 0, locals := 0 } : Room)) (fun aa U => aa = #[(.int (10 : Int32)), (.int (1 : Int32))] ∧ Z.Warmed39 U.vm ∧ U.heap = h0) (fun _ _ _ _ _ => True) (fun _ U o U' => ∃ v L, o = .returned v ∧ Q_mn1 Z  h0 n0 v U'.heap L ∧ FrameEnd U o U' L ({ frames := 0, cells := 0, slots := 0, locals := 0 } : Room).cells ({ frames := 0, cells := 0, slots := 0, locals := 0 } : Room).slots) := by
  refine MetFree.of_bodySF (by decide +kernel) hisR ?_
  intro p e s m args below meth c s₁ Bd hml0 hP hK
  obtain ⟨rfl, hZ, hh⟩ := hP
  have hx := Bd.exec
  have hby := Bd.bytes
  have hml : c.maxLocals = 2 := hml0
  have hown : s.vm.findClass "java/lang/Math" = some m.cls := findClass_of_methodNamed Bd.named
  have hnm := (name_of_methodNamed Bd.named Bd.method).1
  have hlk : meth.locks = false := BodyLoose.notSynchronized Bd
  have X0 : Stand p l e ({ frames := 0, cells := 0, slots := 0, locals := 0 } : Room) s m #[(.int (10 : Int32)), (.int (1 : Int32))] below meth c s₁ [] 0 0 := Stand.of_body Bd
  have e0 : s₁.heap = h0 := by rw [← hh, Bd.state]; rfl
  have N0 := Fr.nil n0
  have K0 : Keep h0 h0 [] := Keep.refl _ _
  show Gl p.tables e below (QQof s (Q_mn1 Z  h0 n0) 0 0) (s₁.setTop (entryFrame m #[(.int (10 : Int32)), (.int (1 : Int32))] 2))
  refine Gl.go (fun t k => castTop (ef_mn1 m (10 : Int32) (1 : Int32)) k) ?_
  show Gl _ _ _ _ (s₁.setTop (mkF m 0 #[.val (.int (10 : Int32)), .val (.int (1 : Int32))] []))
  refine Gl.go (fun _ k => XS.iloadN X0.here hx rfl (hb hby d23_0) rfl  k) ?_
  refine Gl.go (fun _ k => XS.iloadN X0.here hx rfl (hb hby d23_1) rfl  k) ?_
  refine Gl.go (fun _ k => XS.icmpYes X0.here hx rfl (pc0 := 2) (pc' := 9) rfl (hb hby d23_2) rfl (tlt (by decide)).2.2.1 (by decide) (by decide) k) ?_
  show Gl _ _ _ _ (s₁.setTop (mkF m 9 #[.val (.int (10 : Int32)), .val (.int (1 : Int32))] []))
  refine Gl.go (fun _ k => XS.iloadN X0.here hx rfl (hb hby d23_9) rfl  k) ?_
  refine leafI X0 hx hlk Bd.returns (hb hby d23_10) ?_ (by decide) (by decide)
  exact ⟨rfl, N0, e0⟩
def Q_mn2 (Z : State)  (h0 : Heap) (n0 : Nat) (v : Option Value) (h : Heap) (L : List Loc) : Prop := v = some (.int (2 : Int32)) ∧ Fr n0 L ∧ h = h0
set_option maxRecDepth 65536 in
set_option maxHeartbeats 40000000 in
theorem rm_mn2 (l : Launch) (Z : State) (a0 : Array Value) (hw : ∀ d ∈ tables_1, d.before a0 Z = true) (ws : List Jvm.Cond)  (h0 : Heap) (n0 : Nat) (Z0 : n0 ≤ h0.size)  :
    MetFree l (⟨"java/lang/Math", "min", "(II)I"⟩ : MethodName) (head1 (Jvm.Cond.code (⟨"java/lang/Math", "min", "(II)I"⟩ : MethodName) jdk_29_method_69_code 2 (some .int) :: ws) ({ frames := 0, cells := 0, slots := 0, locals := 0 } : Room)) (fun aa U => aa = #[(.int (10 : Int32)), (.int (2 : Int32))] ∧ Z.Warmed39 U.vm ∧ U.heap = h0) (fun _ _ _ _ _ => True) (fun _ U o U' => ∃ v L, o = .returned v ∧ Q_mn2 Z  h0 n0 v U'.heap L ∧ FrameEnd U o U' L ({ frames := 0, cells := 0, slots := 0, locals := 0 } : Room).cells ({ frames := 0, cells := 0, slots := 0, locals := 0 } : Room).slots) := by
  refine MetFree.of_bodySF (by decide +kernel) hisR ?_
  intro p e s m args below meth c s₁ Bd hml0 hP hK
  obtain ⟨rfl, hZ, hh⟩ := hP
  have hx := Bd.exec
  have hby := Bd.bytes
  have hml : c.maxLocals = 2 := hml0
  have hown : s.vm.findClass "java/lang/Math" = some m.cls := findClass_of_methodNamed Bd.named
  have hnm := (name_of_methodNamed Bd.named Bd.method).1
  have hlk : meth.locks = false := BodyLoose.notSynchronized Bd
  have X0 : Stand p l e ({ frames := 0, cells := 0, slots := 0, locals := 0 } : Room) s m #[(.int (10 : Int32)), (.int (2 : Int32))] below meth c s₁ [] 0 0 := Stand.of_body Bd
  have e0 : s₁.heap = h0 := by rw [← hh, Bd.state]; rfl
  have N0 := Fr.nil n0
  have K0 : Keep h0 h0 [] := Keep.refl _ _
  show Gl p.tables e below (QQof s (Q_mn2 Z  h0 n0) 0 0) (s₁.setTop (entryFrame m #[(.int (10 : Int32)), (.int (2 : Int32))] 2))
  refine Gl.go (fun t k => castTop (ef_mn2 m (10 : Int32) (2 : Int32)) k) ?_
  show Gl _ _ _ _ (s₁.setTop (mkF m 0 #[.val (.int (10 : Int32)), .val (.int (2 : Int32))] []))
  refine Gl.go (fun _ k => XS.iloadN X0.here hx rfl (hb hby d23_0) rfl  k) ?_
  refine Gl.go (fun _ k => XS.iloadN X0.here hx rfl (hb hby d23_1) rfl  k) ?_
  refine Gl.go (fun _ k => XS.icmpYes X0.here hx rfl (pc0 := 2) (pc' := 9) rfl (hb hby d23_2) rfl (tlt (by decide)).2.2.1 (by decide) (by decide) k) ?_
  show Gl _ _ _ _ (s₁.setTop (mkF m 9 #[.val (.int (10 : Int32)), .val (.int (2 : Int32))] []))
  refine Gl.go (fun _ k => XS.iloadN X0.here hx rfl (hb hby d23_9) rfl  k) ?_
  refine leafI X0 hx hlk Bd.returns (hb hby d23_10) ?_ (by decide) (by decide)
  exact ⟨rfl, N0, e0⟩
def Q_mn3 (Z : State)  (h0 : Heap) (n0 : Nat) (v : Option Value) (h : Heap) (L : List Loc) : Prop := v = some (.int (3 : Int32)) ∧ Fr n0 L ∧ h = h0
set_option maxRecDepth 65536 in
set_option maxHeartbeats 40000000 in
theorem rm_mn3 (l : Launch) (Z : State) (a0 : Array Value) (hw : ∀ d ∈ tables_1, d.before a0 Z = true) (ws : List Jvm.Cond)  (h0 : Heap) (n0 : Nat) (Z0 : n0 ≤ h0.size)  :
    MetFree l (⟨"java/lang/Math", "min", "(II)I"⟩ : MethodName) (head1 (Jvm.Cond.code (⟨"java/lang/Math", "min", "(II)I"⟩ : MethodName) jdk_29_method_69_code 2 (some .int) :: ws) ({ frames := 0, cells := 0, slots := 0, locals := 0 } : Room)) (fun aa U => aa = #[(.int (10 : Int32)), (.int (3 : Int32))] ∧ Z.Warmed39 U.vm ∧ U.heap = h0) (fun _ _ _ _ _ => True) (fun _ U o U' => ∃ v L, o = .returned v ∧ Q_mn3 Z  h0 n0 v U'.heap L ∧ FrameEnd U o U' L ({ frames := 0, cells := 0, slots := 0, locals := 0 } : Room).cells ({ frames := 0, cells := 0, slots := 0, locals := 0 } : Room).slots) := by
  refine MetFree.of_bodySF (by decide +kernel) hisR ?_
  intro p e s m args below meth c s₁ Bd hml0 hP hK
  obtain ⟨rfl, hZ, hh⟩ := hP
  have hx := Bd.exec
  have hby := Bd.bytes
  have hml : c.maxLocals = 2 := hml0
  have hown : s.vm.findClass "java/lang/Math" = some m.cls := findClass_of_methodNamed Bd.named
  have hnm := (name_of_methodNamed Bd.named Bd.method).1
  have hlk : meth.locks = false := BodyLoose.notSynchronized Bd
  have X0 : Stand p l e ({ frames := 0, cells := 0, slots := 0, locals := 0 } : Room) s m #[(.int (10 : Int32)), (.int (3 : Int32))] below meth c s₁ [] 0 0 := Stand.of_body Bd
  have e0 : s₁.heap = h0 := by rw [← hh, Bd.state]; rfl
  have N0 := Fr.nil n0
  have K0 : Keep h0 h0 [] := Keep.refl _ _
  show Gl p.tables e below (QQof s (Q_mn3 Z  h0 n0) 0 0) (s₁.setTop (entryFrame m #[(.int (10 : Int32)), (.int (3 : Int32))] 2))
  refine Gl.go (fun t k => castTop (ef_mn3 m (10 : Int32) (3 : Int32)) k) ?_
  show Gl _ _ _ _ (s₁.setTop (mkF m 0 #[.val (.int (10 : Int32)), .val (.int (3 : Int32))] []))
  refine Gl.go (fun _ k => XS.iloadN X0.here hx rfl (hb hby d23_0) rfl  k) ?_
  refine Gl.go (fun _ k => XS.iloadN X0.here hx rfl (hb hby d23_1) rfl  k) ?_
  refine Gl.go (fun _ k => XS.icmpYes X0.here hx rfl (pc0 := 2) (pc' := 9) rfl (hb hby d23_2) rfl (tlt (by decide)).2.2.1 (by decide) (by decide) k) ?_
  show Gl _ _ _ _ (s₁.setTop (mkF m 9 #[.val (.int (10 : Int32)), .val (.int (3 : Int32))] []))
  refine Gl.go (fun _ k => XS.iloadN X0.here hx rfl (hb hby d23_9) rfl  k) ?_
  refine leafI X0 hx hlk Bd.returns (hb hby d23_10) ?_ (by decide) (by decide)
  exact ⟨rfl, N0, e0⟩
def Q_gr1 (Z : State) (a1 : Addr) (mc : Int32) (dE : Addr) (kD : ClassId) (h0 : Heap) (n0 : Nat) (v : Option Value) (h : Heap) (L : List Loc) : Prop := ∃ b kA, v = some (.ref b) ∧ Fr n0 L ∧ Keep h0 h [a1] ∧ h0.size ≤ b ∧ (Exa Z h a1 "java/util/ArrayList") ∧ (Fld Z h a1 "java/util/AbstractList" "modCount" "I" (.int mc)) ∧ (Fld Z h a1 "java/util/ArrayList" "elementData" "[Ljava/lang/Object;" (.ref b)) ∧ (Fld Z h a1 "java/util/ArrayList" "size" "I" (.int (0 : Int32))) ∧ (Arv Z h b kA (.object "java/lang/Object") (10 : Int32) [.null, .null, .null, .null, .null, .null, .null, .null, .null, .null] .null) ∧ (Ovr Z kA "java/lang/Object") ∧ (Exa Z h b "[Ljava/lang/Object;")
set_option maxRecDepth 65536 in
set_option maxHeartbeats 40000000 in
theorem rm_gr1 (l : Launch) (Z : State) (a0 : Array Value) (hw : ∀ d ∈ tables_1, d.before a0 Z = true) (ws : List Jvm.Cond) (a1 : Addr) (mc : Int32) (dE : Addr) (kD : ClassId) (h0 : Heap) (n0 : Nat) (Z0 : n0 ≤ h0.size) (E_a1 : (Exa Z h0 a1 "java/util/ArrayList")) (M_a1 : (Fld Z h0 a1 "java/util/AbstractList" "modCount" "I" (.int mc))) (D_a1 : (Fld Z h0 a1 "java/util/ArrayList" "elementData" "[Ljava/lang/Object;" (.ref dE))) (S_a1 : (Fld Z h0 a1 "java/util/ArrayList" "size" "I" (.int (0 : Int32)))) (g_a1 : n0 ≤ a1) (SD : Sta Z Z.heap "java/util/ArrayList" "DEFAULTCAPACITY_EMPTY_ELEMENTDATA" "[Ljava/lang/Object;" (.ref dE)) (VD : Arv Z Z.heap dE kD (.object "java/lang/Object") (0 : Int32) [] .null) (O0 : Old Z n0 h0) :
    MetFree l (⟨"java/util/ArrayList", "grow", "(I)[Ljava/lang/Object;"⟩ : MethodName) (head1 (Jvm.Cond.code (⟨"java/util/ArrayList", "grow", "(I)[Ljava/lang/Object;"⟩ : MethodName) jdk_38_method_6_code 4 (some (.array (.object "java/lang/Object"))) :: ws) ({ frames := 1, cells := 1, slots := 10, locals := 14 } : Room)) (fun aa U => aa = #[(.ref a1), (.int (1 : Int32))] ∧ Z.Warmed39 U.vm ∧ U.heap = h0) (fun _ _ _ _ _ => True) (fun _ U o U' => ∃ v L, o = .returned v ∧ Q_gr1 Z a1 mc dE kD h0 n0 v U'.heap L ∧ FrameEnd U o U' L ({ frames := 1, cells := 1, slots := 10, locals := 14 } : Room).cells ({ frames := 1, cells := 1, slots := 10, locals := 14 } : Room).slots) := by
  refine MetFree.of_bodySF (plainFor_of_name pn_4) hisR ?_
  intro p e s m args below meth c s₁ Bd hml0 hP hK
  obtain ⟨rfl, hZ, hh⟩ := hP
  have hx := Bd.exec
  have hby := Bd.bytes
  have hml : c.maxLocals = 4 := hml0
  have hown : s.vm.findClass "java/util/ArrayList" = some m.cls := findClass_of_methodNamed Bd.named
  have hnm := (name_of_methodNamed Bd.named Bd.method).1
  have hlk : meth.locks = false := BodyLoose.notSynchronized Bd
  have X0 : Stand p l e ({ frames := 1, cells := 1, slots := 10, locals := 14 } : Room) s m #[(.ref a1), (.int (1 : Int32))] below meth c s₁ [] 0 0 := Stand.of_body Bd
  have e0 : s₁.heap = h0 := by rw [← hh, Bd.state]; rfl
  have N0 := Fr.nil n0
  have K0 : Keep h0 h0 [a1] := Keep.refl _ _
  show Gl p.tables e below (QQof s (Q_gr1 Z a1 mc dE kD h0 n0) 1 10) (s₁.setTop (entryFrame m #[(.ref a1), (.int (1 : Int32))] 4))
  refine Gl.go (fun t k => castTop (ef_gr1 m a1 (1 : Int32)) k) ?_
  show Gl _ _ _ _ (s₁.setTop (mkF m 0 #[.val (.ref a1), .val (.int (1 : Int32)), .unset, .unset] []))
  refine Gl.go (fun _ k => XS.aloadN X0.here hx rfl (hb hby d14_0) rfl rfl  k) ?_
  obtain ⟨T1, X1, e1, st1⟩ := getF X0 hx hZ hown (host := "") (Or.inl (hw _ (List.mem_of_getElem? (i := 56) rfl))) Via.refl e0 D_a1 (g := (mkF m 1 #[.val (.ref a1), .val (.int (1 : Int32)), .unset, .unset] [(.ref a1)])) rfl rfl (hb hby d14_1)
  refine Gl.go (fun _ k => st1 _ k) ?_
  show Gl _ _ _ _ (T1.setTop (mkF m 4 #[.val (.ref a1), .val (.int (1 : Int32)), .unset, .unset] [(.ref dE)]))
  obtain ⟨cl2, Ar2, qA2, SA2, NA2, HA2, GA2⟩ := id (VD.ext O0.2)
  refine Gl.go (fun _ k => X1.arraylength hx (by rw [e1]; exact Ar2.1) (State.isArrayOf_alike hZ.alike Ar2.2.1) (g := (mkF m 4 #[.val (.ref a1), .val (.int (1 : Int32)), .unset, .unset] [(.ref dE)])) rfl rfl (hb hby d14_4) _ k) ?_
  rw [len_of SA2 NA2]
  show Gl _ _ _ _ (T1.setTop (mkF m 5 #[.val (.ref a1), .val (.int (1 : Int32)), .unset, .unset] [(.int (0 : Int32))]))
  refine Gl.go (fun _ k => XS.istoreN X1.here hx rfl (hb hby d14_5) rfl (l' := #[.val (.ref a1), .val (.int (1 : Int32)), .val (.int (0 : Int32)), .unset]) rfl k) ?_
  refine Gl.go (fun _ k => XS.iloadN X1.here hx rfl (hb hby d14_6) rfl  k) ?_
  refine Gl.go (fun _ k => XS.ifNo X1.here hx rfl (hb hby d14_7) rfl ((if0 _ _).trans (flt (by decide)).2.2.1) k) ?_
  show Gl _ _ _ _ (T1.setTop (mkF m 10 #[.val (.ref a1), .val (.int (1 : Int32)), .val (.int (0 : Int32)), .unset] []))
  refine Gl.go (fun _ k => XS.aloadN X1.here hx rfl (hb hby d14_10) rfl rfl  k) ?_
  obtain ⟨T3, X3, e3, st3⟩ := getF X1 hx hZ hown (host := "") (Or.inl (hw _ (List.mem_of_getElem? (i := 56) rfl))) Via.refl e1 D_a1 (g := (mkF m 11 #[.val (.ref a1), .val (.int (1 : Int32)), .val (.int (0 : Int32)), .unset] [(.ref a1)])) rfl rfl (hb hby d14_11)
  refine Gl.go (fun _ k => st3 _ k) ?_
  show Gl _ _ _ _ (T3.setTop (mkF m 14 #[.val (.ref a1), .val (.int (1 : Int32)), .val (.int (0 : Int32)), .unset] [(.ref dE)]))
  obtain ⟨T4, X4, e4, st4⟩ := getS2 X3 hx hZ hown (host := "") (Or.inl (hw _ (List.mem_of_getElem? (i := 55) rfl))) Via.refl e3 (SD.ext O0.2) (g := (mkF m 14 #[.val (.ref a1), .val (.int (1 : Int32)), .val (.int (0 : Int32)), .unset] [(.ref dE)])) rfl (hb hby d14_14)
  refine Gl.go (fun _ k => st4 _ k) ?_
  show Gl _ _ _ _ (T4.setTop (mkF m 17 #[.val (.ref a1), .val (.int (1 : Int32)), .val (.int (0 : Int32)), .unset] [(.ref dE), (.ref dE)]))
  refine Gl.go (fun _ k => Jvm.RoadKit.acmp (g := (mkF m 17 #[.val (.ref a1), .val (.int (1 : Int32)), .val (.int (0 : Int32)), .unset] [(.ref dE), (.ref dE)])) X4 hx rfl rfl rfl (pc0 := 17) (pc' := 45) (same := true) rfl (hb hby d14_17) rfl (decide_eq_true (congrArg Value.ref (rfl : dE = dE))) (by decide) (by decide) k) ?_
  show Gl _ _ _ _ (T4.setTop (mkF m 45 #[.val (.ref a1), .val (.int (1 : Int32)), .val (.int (0 : Int32)), .unset] []))
  refine Gl.go (fun _ k => XS.aloadN X4.here hx rfl (hb hby d14_45) rfl rfl  k) ?_
  refine Gl.go (fun _ k => XS.bipush X4.here hx rfl (hb hby d14_46) k) ?_
  refine Gl.go (fun _ k => XS.iloadN X4.here hx rfl (hb hby d14_48) rfl  k) ?_
  obtain ⟨_, _, ⟨T5, L5, k5, n5⟩, -, X5, ⟨Lc5, hQ5, l5, y5, z5⟩, st5⟩ := Jvm.LawKit.callS X4 hx (y := (⟨"java/lang/Math", "max", "(II)I"⟩ : MethodName)) hown (mvT hZ (hw _ (List.mem_of_getElem? (i := 82) rfl))) (mvT hZ (hw _ (List.mem_of_getElem? (i := 83) rfl))) (mvT hZ (hw _ (List.mem_of_getElem? (i := 84) rfl))) (mvT hZ (hw _ (List.mem_of_getElem? (i := 85) rfl))) (by decide) (backOf (W := 1) (rm_mx l Z a0 hw []  h0 n0 Z0 ) hZ (hw _ (List.mem_of_getElem? (i := 85) rfl)) (hw _ (List.mem_of_getElem? (i := 84) rfl)) (by decide) (by decide)) (g := (mkF m 49 #[.val (.ref a1), .val (.int (1 : Int32)), .val (.int (0 : Int32)), .unset] [(.int (1 : Int32)), (.int (10 : Int32)), (.ref a1)])) rfl (by rw [hml]; rfl) (argsL := [(.int (10 : Int32)), (.int (1 : Int32))]) (rest := [(.ref a1)]) (lenOf pd_1 rfl) rfl (by show 2 * 0 + _ ≤ _; exact Nat.le_of_eq rfl) (hb hby d14_49) (fun _ _ => ⟨rfl, e4, (by decide : 0 + 0 ≤ _), (by decide : 0 + 0 ≤ _)⟩)
  dsimp only [Pt.U, Pt.locs, Pt.cells, Pt.slots] at X5 l5 y5 z5 st5 hQ5
  subst y5 z5
  obtain ⟨rfl, Nq5, e5⟩ := hQ5
  have N5 : Fr n0 L5 := by rw [l5]; exact Fr.app N0 Nq5
  refine Gl.go (fun _ k => st5 _ k) ?_
  show Gl _ _ _ _ (T5.setTop (mkF m 52 #[.val (.ref a1), .val (.int (1 : Int32)), .val (.int (0 : Int32)), .unset] [(.int (10 : Int32)), (.ref a1)]))
  obtain ⟨T6, h6, cA6, X6, e6, E6, A6, Y6, O6, st6⟩ := newRE X5 hx hZ hown (hw _ (List.mem_of_getElem? (i := 86) rfl)) (hw _ (List.mem_of_getElem? (i := 87) rfl)) e5 (g := (mkF m 52 #[.val (.ref a1), .val (.int (1 : Int32)), .val (.int (0 : Int32)), .unset] [(.int (10 : Int32)), (.ref a1)])) rfl (hb hby d14_52) rfl (by decide) (cap := 10) (by decide) (by decide) (by decide) (by decide) (ad := "[Ljava/lang/Object;") (by decide)
  obtain ⟨b6, g6⟩ : ∃ z, z = h0.size := ⟨_, rfl⟩
  rw [← g6] at A6 Y6 st6
  have g_b6 : n0 ≤ b6 := Nat.le_trans Z0 (Nat.le_of_eq g6.symm)
  have sz_b6 : h0.size ≤ b6 := Nat.le_trans K0.1 (Nat.le_of_eq g6.symm)
  have ne_a1_b6 : a1 ≠ b6 := Nat.ne_of_lt (Nat.lt_of_lt_of_le E_a1.lt (Nat.le_of_eq g6.symm))
  have E_a1_6 := E_a1.ext E6
  have F_a1_modCount_6 := M_a1.ext E6
  have F_a1_elementData_6 := D_a1.ext E6
  have F_a1_size_6 := S_a1.ext E6
  have O__6 := O0.ext E6
  have SZ6 : n0 ≤ h6.size := Nat.le_trans Z0 E6.1
  have K6 : Keep h0 h6 [a1] := K0.ext E6
  have V_b6_6 : Arv Z h6 b6 cA6 (.object "java/lang/Object") (10 : Int32) [.null, .null, .null, .null, .null, .null, .null, .null, .null, .null] .null := (Arv.new A6 (by decide)).pad (pad_rep [] _ 10)
  refine Gl.go (fun _ k => st6 _ k) ?_
  show Gl _ _ _ _ (T6.setTop (mkF m 55 #[.val (.ref a1), .val (.int (1 : Int32)), .val (.int (0 : Int32)), .unset] [(.ref b6), (.ref a1)]))
  refine Gl.go (fun _ k => XS.dupX1 X6.here hx rfl (hb hby d14_55) rfl rfl rfl k) ?_
  show Gl _ _ _ _ (T6.setTop (mkF m 56 #[.val (.ref a1), .val (.int (1 : Int32)), .val (.int (0 : Int32)), .unset] [(.ref b6), (.ref a1), (.ref b6)]))
  obtain ⟨T7, h7, X7, e7, W7, st7⟩ := putF X6 hx hZ hown (host := "") (Or.inl (hw _ (List.mem_of_getElem? (i := 56) rfl))) Via.refl e6 F_a1_elementData_6 E_a1_6 (Or.inl (hw _ (List.mem_of_getElem? (i := 57) rfl))) (hw _ (List.mem_of_getElem? (i := 35) rfl)) (ty := (.array (.object "java/lang/Object"))) (by decide) rfl rfl (g := (mkF m 56 #[.val (.ref a1), .val (.int (1 : Int32)), .val (.int (0 : Int32)), .unset] [(.ref b6), (.ref a1), (.ref b6)])) rfl rfl (hb hby d14_56)
  have E_a1_7 := E_a1_6.wr W7
  have F_a1_modCount_7 := F_a1_modCount_6.other W7 (Or.inr (slot_ne (t := .int) (t' := (.array (.object "java/lang/Object"))) (Or.inl (hw _ (List.mem_of_getElem? (i := 54) rfl))) (Or.inl (hw _ (List.mem_of_getElem? (i := 57) rfl))) (by decide) (by decide) (by decide)))
  have F_a1_elementData_7 := F_a1_elementData_6.same W7
  have F_a1_size_7 := F_a1_size_6.other W7 (Or.inr (slot_ne (t := .int) (t' := (.array (.object "java/lang/Object"))) (Or.inl (hw _ (List.mem_of_getElem? (i := 66) rfl))) (Or.inl (hw _ (List.mem_of_getElem? (i := 57) rfl))) (by decide) (by decide) (by decide)))
  have O__7 := O__6.wr W7 g_a1
  have E_b6_7 := Y6.wr W7
  have V_b6_7 := V_b6_6.other W7 (Ne.symm ne_a1_b6)
  have SZ7 : n0 ≤ h7.size := by rw [Wr.size W7]; exact SZ6
  have K7 : Keep h0 h7 [a1] := K6.wr W7 (Or.inl (List.mem_of_getElem? (i := 0) rfl))
  have N7 := Fr.snoc X7 N5 g_a1
  refine Gl.go (fun _ k => st7 _ k) ?_
  show Gl _ _ _ _ (T7.setTop (mkF m 59 #[.val (.ref a1), .val (.int (1 : Int32)), .val (.int (0 : Int32)), .unset] [(.ref b6)]))
  refine leafA X7 hx hlk Bd.returns rfl rfl (hb hby d14_59) ?_ (by decide) (by decide)
  rw [e7]
  exact ⟨b6, cA6, rfl, N7, K7, sz_b6, E_a1_7, F_a1_modCount_7, F_a1_elementData_7, F_a1_size_7, V_b6_7, O6, E_b6_7⟩
def Q_gr0 (Z : State) (a1 : Addr) (mc : Int32) (dE : Addr) (kD : ClassId) (h0 : Heap) (n0 : Nat) (v : Option Value) (h : Heap) (L : List Loc) : Prop := ∃ b kA, v = some (.ref b) ∧ Fr n0 L ∧ Keep h0 h [a1] ∧ h0.size ≤ b ∧ (Exa Z h a1 "java/util/ArrayList") ∧ (Fld Z h a1 "java/util/AbstractList" "modCount" "I" (.int mc)) ∧ (Fld Z h a1 "java/util/ArrayList" "elementData" "[Ljava/lang/Object;" (.ref b)) ∧ (Fld Z h a1 "java/util/ArrayList" "size" "I" (.int (0 : Int32))) ∧ (Arv Z h b kA (.object "java/lang/Object") (10 : Int32) [.null, .null, .null, .null, .null, .null, .null, .null, .null, .null] .null) ∧ (Ovr Z kA "java/lang/Object") ∧ (Exa Z h b "[Ljava/lang/Object;")
set_option maxRecDepth 65536 in
set_option maxHeartbeats 40000000 in
theorem rm_gr0 (l : Launch) (Z : State) (a0 : Array Value) (hw : ∀ d ∈ tables_1, d.before a0 Z = true) (ws : List Jvm.Cond) (a1 : Addr) (mc : Int32) (dE : Addr) (kD : ClassId) (h0 : Heap) (n0 : Nat) (Z0 : n0 ≤ h0.size) (E_a1 : (Exa Z h0 a1 "java/util/ArrayList")) (M_a1 : (Fld Z h0 a1 "java/util/AbstractList" "modCount" "I" (.int mc))) (D_a1 : (Fld Z h0 a1 "java/util/ArrayList" "elementData" "[Ljava/lang/Object;" (.ref dE))) (S_a1 : (Fld Z h0 a1 "java/util/ArrayList" "size" "I" (.int (0 : Int32)))) (g_a1 : n0 ≤ a1) (SD : Sta Z Z.heap "java/util/ArrayList" "DEFAULTCAPACITY_EMPTY_ELEMENTDATA" "[Ljava/lang/Object;" (.ref dE)) (VD : Arv Z Z.heap dE kD (.object "java/lang/Object") (0 : Int32) [] .null) (O0 : Old Z n0 h0) :
    MetFree l (⟨"java/util/ArrayList", "grow", "()[Ljava/lang/Object;"⟩ : MethodName) (head1 (Jvm.Cond.code (⟨"java/util/ArrayList", "grow", "()[Ljava/lang/Object;"⟩ : MethodName) jdk_38_method_7_code 1 (some (.array (.object "java/lang/Object"))) :: ws) ({ frames := 2, cells := 1, slots := 10, locals := 29 } : Room)) (fun aa U => aa = #[(.ref a1)] ∧ Z.Warmed39 U.vm ∧ U.heap = h0) (fun _ _ _ _ _ => True) (fun _ U o U' => ∃ v L, o = .returned v ∧ Q_gr0 Z a1 mc dE kD h0 n0 v U'.heap L ∧ FrameEnd U o U' L ({ frames := 2, cells := 1, slots := 10, locals := 29 } : Room).cells ({ frames := 2, cells := 1, slots := 10, locals := 29 } : Room).slots) := by
  refine MetFree.of_bodySF (plainFor_of_name pn_4) hisR ?_
  intro p e s m args below meth c s₁ Bd hml0 hP hK
  obtain ⟨rfl, hZ, hh⟩ := hP
  have hx := Bd.exec
  have hby := Bd.bytes
  have hml : c.maxLocals = 1 := hml0
  have hown : s.vm.findClass "java/util/ArrayList" = some m.cls := findClass_of_methodNamed Bd.named
  have hnm := (name_of_methodNamed Bd.named Bd.method).1
  have hlk : meth.locks = false := BodyLoose.notSynchronized Bd
  have X0 : Stand p l e ({ frames := 2, cells := 1, slots := 10, locals := 29 } : Room) s m #[(.ref a1)] below meth c s₁ [] 0 0 := Stand.of_body Bd
  have e0 : s₁.heap = h0 := by rw [← hh, Bd.state]; rfl
  have N0 := Fr.nil n0
  have K0 : Keep h0 h0 [a1] := Keep.refl _ _
  show Gl p.tables e below (QQof s (Q_gr0 Z a1 mc dE kD h0 n0) 1 10) (s₁.setTop (entryFrame m #[(.ref a1)] 1))
  refine Gl.go (fun t k => castTop (ef_gr0 m a1) k) ?_
  show Gl _ _ _ _ (s₁.setTop (mkF m 0 #[.val (.ref a1)] []))
  refine Gl.go (fun _ k => XS.aloadN X0.here hx rfl (hb hby d13_0) rfl rfl  k) ?_
  refine Gl.go (fun _ k => XS.aloadN X0.here hx rfl (hb hby d13_1) rfl rfl  k) ?_
  obtain ⟨T1, X1, e1, st1⟩ := getF X0 hx hZ hown (host := "") (Or.inl (hw _ (List.mem_of_getElem? (i := 65) rfl))) Via.refl e0 S_a1 (g := (mkF m 2 #[.val (.ref a1)] [(.ref a1), (.ref a1)])) rfl rfl (hb hby d13_2)
  refine Gl.go (fun _ k => st1 _ k) ?_
  show Gl _ _ _ _ (T1.setTop (mkF m 5 #[.val (.ref a1)] [(.int (0 : Int32)), (.ref a1)]))
  refine Gl.go (fun _ k => XS.iconst X1.here hx rfl (hb hby d13_5) k) ?_
  refine Gl.go (fun _ k => XS.iadd X1.here hx rfl (hb hby d13_6) rfl k) ?_
  show Gl _ _ _ _ (T1.setTop (mkF m 7 #[.val (.ref a1)] [(.int ((0 : Int32) + (1 : Int32))), (.ref a1)]))
  rw [(by decide : ((0 : Int32) + (1 : Int32)) = (1 : Int32))]
  show Gl _ _ _ _ (T1.setTop (mkF m 7 #[.val (.ref a1)] [(.int (1 : Int32)), (.ref a1)]))
  obtain ⟨cq2, kq2, q2a, q2b, q2c⟩ := isOf hZ e1 E_a1
  obtain ⟨_, _, ⟨T2, L2, k2, n2⟩, -, X2, ⟨Lc2, hQ2, l2, y2, z2⟩, st2⟩ := X1.virtualBack hx (y := (⟨"java/util/ArrayList", "grow", "(I)[Ljava/lang/Object;"⟩ : MethodName)) (z := (⟨"java/util/ArrayList", "grow", "(I)[Ljava/lang/Object;"⟩ : MethodName)) hown (mvT hZ (hw _ (List.mem_of_getElem? (i := 77) rfl))) (mvT hZ (declOf (hw _ (List.mem_of_getElem? (i := 78) rfl)) (hw _ (List.mem_of_getElem? (i := 81) rfl)))) (notFace_of_selects (args := #[]) (mvT hZ (hw _ (List.mem_of_getElem? (i := 80) rfl)))) (mvT hZ (hw _ (List.mem_of_getElem? (i := 80) rfl))) (mvT hZ (hw _ (List.mem_of_getElem? (i := 78) rfl))) (by decide) (backOf (W := 0) (rm_gr1 l Z a0 hw [] a1 mc dE kD h0 n0 Z0 E_a1 M_a1 D_a1 S_a1 g_a1 SD VD O0) hZ (hw _ (List.mem_of_getElem? (i := 81) rfl)) (hw _ (List.mem_of_getElem? (i := 36) rfl)) (by decide) (by decide)) q2a q2c (g := (mkF m 7 #[.val (.ref a1)] [(.int (1 : Int32)), (.ref a1)])) rfl (by rw [hml]; rfl) (Steps.refl _) (argsL := [(.int (1 : Int32))]) (rest := []) (lenOf pd_2 rfl) rfl (by show 2 * 0 + _ ≤ _; exact Nat.le_of_eq rfl) (hb hby d13_7) (fun _ _ => ⟨rfl, e1, (by decide : 0 + 1 ≤ _), (by decide : 0 + 10 ≤ _)⟩)
  dsimp only [Pt.U, Pt.locs, Pt.cells, Pt.slots] at X2 l2 y2 z2 st2 hQ2
  subst y2 z2
  obtain ⟨b2, kc2, rfl, Nq2, Kc2, gz2, Ea2, Ma2, Da2, Sa2, Vc2, Oc2, Xc2⟩ := hQ2
  have N2 : Fr n0 L2 := by rw [l2]; exact Fr.app N0 Nq2
  refine Gl.go (fun _ k => st2.trans k) ?_
  have E_a1_2 := E_a1.keep Kc2
  have O__2 := O0.keep Kc2 (allS g_a1 all0)
  have SZ2 : n0 ≤ T2.heap.size := Nat.le_trans Z0 Kc2.1
  have K2 : Keep h0 T2.heap [a1] := K0.trans Kc2 (allS (Or.inl (List.mem_of_getElem? (i := 0) rfl)) all0)
  show Gl _ _ _ _ (T2.setTop (mkF m 10 #[.val (.ref a1)] [(.ref b2)]))
  have g_b2 : n0 ≤ b2 := Nat.le_trans Z0 gz2
  have sz_b2 : h0.size ≤ b2 := Nat.le_trans K0.1 gz2
  have ne_a1_b2 : a1 ≠ b2 := Nat.ne_of_lt (Nat.lt_of_lt_of_le E_a1.lt gz2)
  refine leafA X2 hx hlk Bd.returns rfl rfl (hb hby d13_10) ?_ (by decide) (by decide)
  exact ⟨b2, kc2, rfl, N2, K2, sz_b2, Ea2, Ma2, Da2, Sa2, Vc2, Oc2, Xc2⟩
def Q_ap1 (Z : State) (a1 : Addr) (mc : Int32) (dE : Addr) (kD : ClassId) (x1 : Addr) (h0 : Heap) (n0 : Nat) (v : Option Value) (h : Heap) (L : List Loc) : Prop := ∃ b kA, v = none ∧ Fr n0 L ∧ Keep h0 h [a1] ∧ h0.size ≤ b ∧ (Exa Z h a1 "java/util/ArrayList") ∧ (Fld Z h a1 "java/util/AbstractList" "modCount" "I" (.int mc)) ∧ (Fld Z h a1 "java/util/ArrayList" "elementData" "[Ljava/lang/Object;" (.ref b)) ∧ (Fld Z h a1 "java/util/ArrayList" "size" "I" (.int (1 : Int32))) ∧ (Arv Z h b kA (.object "java/lang/Object") (10 : Int32) [(.ref x1), .null, .null, .null, .null, .null, .null, .null, .null, .null] .null) ∧ (Ovr Z kA "java/lang/Object") ∧ (Exa Z h b "[Ljava/lang/Object;")
set_option maxRecDepth 65536 in
set_option maxHeartbeats 40000000 in
theorem rm_ap1 (l : Launch) (Z : State) (a0 : Array Value) (hw : ∀ d ∈ tables_1, d.before a0 Z = true) (ws : List Jvm.Cond) (a1 : Addr) (mc : Int32) (dE : Addr) (kD : ClassId) (x1 : Addr) (h0 : Heap) (n0 : Nat) (Z0 : n0 ≤ h0.size) (E_a1 : (Exa Z h0 a1 "java/util/ArrayList")) (M_a1 : (Fld Z h0 a1 "java/util/AbstractList" "modCount" "I" (.int mc))) (D_a1 : (Fld Z h0 a1 "java/util/ArrayList" "elementData" "[Ljava/lang/Object;" (.ref dE))) (S_a1 : (Fld Z h0 a1 "java/util/ArrayList" "size" "I" (.int (0 : Int32)))) (g_a1 : n0 ≤ a1) (SD : Sta Z Z.heap "java/util/ArrayList" "DEFAULTCAPACITY_EMPTY_ELEMENTDATA" "[Ljava/lang/Object;" (.ref dE)) (VD : Arv Z Z.heap dE kD (.object "java/lang/Object") (0 : Int32) [] .null) (O0 : Old Z n0 h0) (X_x1 : (Exa Z h0 x1 "java/lang/String")) :
    MetFree l (⟨"java/util/ArrayList", "add", "(Ljava/lang/Object;[Ljava/lang/Object;I)V"⟩ : MethodName) (head1 (Jvm.Cond.code (⟨"java/util/ArrayList", "add", "(Ljava/lang/Object;[Ljava/lang/Object;I)V"⟩ : MethodName) jdk_38_method_24_code 4 none :: ws) ({ frames := 3, cells := 1, slots := 10, locals := 41 } : Room)) (fun aa U => aa = #[(.ref a1), (.ref x1), (.ref dE), (.int (0 : Int32))] ∧ Z.Warmed39 U.vm ∧ U.heap = h0) (fun _ _ _ _ _ => True) (fun _ U o U' => ∃ v L, o = .returned v ∧ Q_ap1 Z a1 mc dE kD x1 h0 n0 v U'.heap L ∧ FrameEnd U o U' L ({ frames := 3, cells := 1, slots := 10, locals := 41 } : Room).cells ({ frames := 3, cells := 1, slots := 10, locals := 41 } : Room).slots) := by
  refine MetFree.of_bodySF (plainFor_of_name pn_4) hisR ?_
  intro p e s m args below meth c s₁ Bd hml0 hP hK
  obtain ⟨rfl, hZ, hh⟩ := hP
  have hx := Bd.exec
  have hby := Bd.bytes
  have hml : c.maxLocals = 4 := hml0
  have hown : s.vm.findClass "java/util/ArrayList" = some m.cls := findClass_of_methodNamed Bd.named
  have hnm := (name_of_methodNamed Bd.named Bd.method).1
  have hlk : meth.locks = false := BodyLoose.notSynchronized Bd
  have X0 : Stand p l e ({ frames := 3, cells := 1, slots := 10, locals := 41 } : Room) s m #[(.ref a1), (.ref x1), (.ref dE), (.int (0 : Int32))] below meth c s₁ [] 0 0 := Stand.of_body Bd
  have e0 : s₁.heap = h0 := by rw [← hh, Bd.state]; rfl
  have N0 := Fr.nil n0
  have K0 : Keep h0 h0 [a1] := Keep.refl _ _
  show Gl p.tables e below (QQof s (Q_ap1 Z a1 mc dE kD x1 h0 n0) 1 10) (s₁.setTop (entryFrame m #[(.ref a1), (.ref x1), (.ref dE), (.int (0 : Int32))] 4))
  refine Gl.go (fun t k => castTop (ef_ap1 m a1 x1 dE (0 : Int32)) k) ?_
  show Gl _ _ _ _ (s₁.setTop (mkF m 0 #[.val (.ref a1), .val (.ref x1), .val (.ref dE), .val (.int (0 : Int32))] []))
  refine Gl.go (fun _ k => XS.iloadN X0.here hx rfl (hb hby d12_0) rfl  k) ?_
  refine Gl.go (fun _ k => XS.aloadN X0.here hx rfl (hb hby d12_1) rfl rfl  k) ?_
  obtain ⟨cl1, Ar1, qA1, SA1, NA1, HA1, GA1⟩ := id (VD.ext O0.2)
  refine Gl.go (fun _ k => X0.arraylength hx (by rw [e0]; exact Ar1.1) (State.isArrayOf_alike hZ.alike Ar1.2.1) (g := (mkF m 2 #[.val (.ref a1), .val (.ref x1), .val (.ref dE), .val (.int (0 : Int32))] [(.ref dE), (.int (0 : Int32))])) rfl rfl (hb hby d12_2) _ k) ?_
  rw [len_of SA1 NA1]
  show Gl _ _ _ _ (s₁.setTop (mkF m 3 #[.val (.ref a1), .val (.ref x1), .val (.ref dE), .val (.int (0 : Int32))] [(.int (0 : Int32)), (.int (0 : Int32))]))
  refine Gl.go (fun _ k => XS.icmpNo X0.here hx rfl (hb hby d12_3) rfl (teq rfl).2 k) ?_
  show Gl _ _ _ _ (s₁.setTop (mkF m 6 #[.val (.ref a1), .val (.ref x1), .val (.ref dE), .val (.int (0 : Int32))] []))
  refine Gl.go (fun _ k => XS.aloadN X0.here hx rfl (hb hby d12_6) rfl rfl  k) ?_
  obtain ⟨cq2, kq2, q2a, q2b, q2c⟩ := isOf hZ e0 E_a1
  obtain ⟨_, _, ⟨T2, L2, k2, n2⟩, -, X2, ⟨Lc2, hQ2, l2, y2, z2⟩, st2⟩ := X0.virtualBack hx (y := (⟨"java/util/ArrayList", "grow", "()[Ljava/lang/Object;"⟩ : MethodName)) (z := (⟨"java/util/ArrayList", "grow", "()[Ljava/lang/Object;"⟩ : MethodName)) hown (mvT hZ (hw _ (List.mem_of_getElem? (i := 72) rfl))) (mvT hZ (declOf (hw _ (List.mem_of_getElem? (i := 73) rfl)) (hw _ (List.mem_of_getElem? (i := 76) rfl)))) (notFace_of_selects (args := #[]) (mvT hZ (hw _ (List.mem_of_getElem? (i := 75) rfl)))) (mvT hZ (hw _ (List.mem_of_getElem? (i := 75) rfl))) (mvT hZ (hw _ (List.mem_of_getElem? (i := 73) rfl))) (by decide) (backOf (W := 0) (rm_gr0 l Z a0 hw [] a1 mc dE kD h0 n0 Z0 E_a1 M_a1 D_a1 S_a1 g_a1 SD VD O0) hZ (hw _ (List.mem_of_getElem? (i := 76) rfl)) (hw _ (List.mem_of_getElem? (i := 36) rfl)) (by decide) (by decide)) q2a q2c (g := (mkF m 7 #[.val (.ref a1), .val (.ref x1), .val (.ref dE), .val (.int (0 : Int32))] [(.ref a1)])) rfl (by rw [hml]; rfl) (Steps.refl _) (argsL := []) (rest := []) (lenOf pd_3 rfl) rfl (by show 2 * 0 + _ ≤ _; exact Nat.le_of_eq rfl) (hb hby d12_7) (fun _ _ => ⟨rfl, e0, (by decide : 0 + 1 ≤ _), (by decide : 0 + 10 ≤ _)⟩)
  dsimp only [Pt.U, Pt.locs, Pt.cells, Pt.slots] at X2 l2 y2 z2 st2 hQ2
  subst y2 z2
  obtain ⟨b2, kc2, rfl, Nq2, Kc2, gz2, Ea2, Ma2, Da2, Sa2, Vc2, Oc2, Xc2⟩ := hQ2
  have N2 : Fr n0 L2 := by rw [l2]; exact Fr.app N0 Nq2
  refine Gl.go (fun _ k => st2.trans k) ?_
  have E_a1_2 := E_a1.keep Kc2
  have O__2 := O0.keep Kc2 (allS g_a1 all0)
  have E_x1_2 := X_x1.keep Kc2
  have SZ2 : n0 ≤ T2.heap.size := Nat.le_trans Z0 Kc2.1
  have K2 : Keep h0 T2.heap [a1] := K0.trans Kc2 (allS (Or.inl (List.mem_of_getElem? (i := 0) rfl)) all0)
  show Gl _ _ _ _ (T2.setTop (mkF m 10 #[.val (.ref a1), .val (.ref x1), .val (.ref dE), .val (.int (0 : Int32))] [(.ref b2)]))
  have g_b2 : n0 ≤ b2 := Nat.le_trans Z0 gz2
  have sz_b2 : h0.size ≤ b2 := Nat.le_trans K0.1 gz2
  have ne_a1_b2 : a1 ≠ b2 := Nat.ne_of_lt (Nat.lt_of_lt_of_le E_a1.lt gz2)
  have ne_x1_b2 : x1 ≠ b2 := Nat.ne_of_lt (Nat.lt_of_lt_of_le X_x1.lt gz2)
  refine Gl.go (fun _ k => XS.astoreN X2.here hx rfl (hb hby d12_10) rfl rfl (l' := #[.val (.ref a1), .val (.ref x1), .val (.ref b2), .val (.int (0 : Int32))]) rfl k) ?_
  refine Gl.go (fun _ k => XS.aloadN X2.here hx rfl (hb hby d12_11) rfl rfl  k) ?_
  refine Gl.go (fun _ k => XS.iloadN X2.here hx rfl (hb hby d12_12) rfl  k) ?_
  refine Gl.go (fun _ k => XS.aloadN X2.here hx rfl (hb hby d12_13) rfl rfl  k) ?_
  show Gl _ _ _ _ (T2.setTop (mkF m 14 #[.val (.ref a1), .val (.ref x1), .val (.ref b2), .val (.int (0 : Int32))] [(.ref x1), (.int (0 : Int32)), (.ref b2)]))
  obtain ⟨cl3, Ar3, qA3, SA3, NA3, HA3, GA3⟩ := id Vc2
  obtain ⟨T3, h3, X3, e3, W3, st3⟩ := stR X2 hx hZ rfl Ar3 (j := (0 : Int32)) (inb_of SA3 ⟨by decide, by decide⟩) rfl (Sto.ofV Ar3 qA3 Oc2 (Ins.of_exa E_x1_2 (hw _ (List.mem_of_getElem? (i := 88) rfl)))) (g := (mkF m 14 #[.val (.ref a1), .val (.ref x1), .val (.ref b2), .val (.int (0 : Int32))] [(.ref x1), (.int (0 : Int32)), (.ref b2)])) rfl rfl (hb hby d12_14)
  have O__3 := O__2.wr W3 g_b2
  have E_x1_3 := E_x1_2.wr W3
  have E_a1_3 := Ea2.wr W3
  have F_a1_modCount_3 := Ma2.other W3 (Or.inl ne_a1_b2)
  have F_a1_elementData_3 := Da2.other W3 (Or.inl ne_a1_b2)
  have F_a1_size_3 := Sa2.other W3 (Or.inl ne_a1_b2)
  have E_b2_3 := Xc2.wr W3
  have SZ3 : n0 ≤ h3.size := by rw [Wr.size W3]; exact SZ2
  have K3 : Keep h0 h3 [a1] := K2.wr W3 (Or.inr sz_b2)
  have N3 := Fr.snoc X3 N2 g_b2
  have V_b2_3 : Arv Z h3 b2 kc2 (.object "java/lang/Object") (10 : Int32) [(.ref x1), .null, .null, .null, .null, .null, .null, .null, .null, .null] .null := Arv.set Ar3 qA3 SA3 NA3 HA3 GA3 rfl W3 0 rfl (Nat.le_of_ble_eq_true rfl)
  refine Gl.go (fun _ k => st3 _ k) ?_
  show Gl _ _ _ _ (T3.setTop (mkF m 15 #[.val (.ref a1), .val (.ref x1), .val (.ref b2), .val (.int (0 : Int32))] []))
  refine Gl.go (fun _ k => XS.aloadN X3.here hx rfl (hb hby d12_15) rfl rfl  k) ?_
  refine Gl.go (fun _ k => XS.iloadN X3.here hx rfl (hb hby d12_16) rfl  k) ?_
  refine Gl.go (fun _ k => XS.iconst X3.here hx rfl (hb hby d12_17) k) ?_
  refine Gl.go (fun _ k => XS.iadd X3.here hx rfl (hb hby d12_18) rfl k) ?_
  show Gl _ _ _ _ (T3.setTop (mkF m 19 #[.val (.ref a1), .val (.ref x1), .val (.ref b2), .val (.int (0 : Int32))] [(.int ((0 : Int32) + (1 : Int32))), (.ref a1)]))
  rw [(by decide : ((0 : Int32) + (1 : Int32)) = (1 : Int32))]
  show Gl _ _ _ _ (T3.setTop (mkF m 19 #[.val (.ref a1), .val (.ref x1), .val (.ref b2), .val (.int (0 : Int32))] [(.int (1 : Int32)), (.ref a1)]))
  obtain ⟨T4, h4, X4, e4, W4, st4⟩ := putF X3 hx hZ hown (host := "") (Or.inl (hw _ (List.mem_of_getElem? (i := 65) rfl))) Via.refl e3 F_a1_size_3 E_a1_3 (Or.inl (hw _ (List.mem_of_getElem? (i := 66) rfl))) (hw _ (List.mem_of_getElem? (i := 35) rfl)) (ty := .int) (by decide) rfl rfl (g := (mkF m 19 #[.val (.ref a1), .val (.ref x1), .val (.ref b2), .val (.int (0 : Int32))] [(.int (1 : Int32)), (.ref a1)])) rfl rfl (hb hby d12_19)
  have O__4 := O__3.wr W4 g_a1
  have E_x1_4 := E_x1_3.wr W4
  have E_a1_4 := E_a1_3.wr W4
  have F_a1_modCount_4 := F_a1_modCount_3.other W4 (Or.inr (slot_ne (t := .int) (t' := .int) (Or.inl (hw _ (List.mem_of_getElem? (i := 54) rfl))) (Or.inl (hw _ (List.mem_of_getElem? (i := 66) rfl))) (by decide) (by decide) (by decide)))
  have F_a1_elementData_4 := F_a1_elementData_3.other W4 (Or.inr (slot_ne (t := (.array (.object "java/lang/Object"))) (t' := .int) (Or.inl (hw _ (List.mem_of_getElem? (i := 57) rfl))) (Or.inl (hw _ (List.mem_of_getElem? (i := 66) rfl))) (by decide) (by decide) (by decide)))
  have F_a1_size_4 := F_a1_size_3.same W4
  have E_b2_4 := E_b2_3.wr W4
  have V_b2_4 := V_b2_3.other W4 (Ne.symm ne_a1_b2)
  have SZ4 : n0 ≤ h4.size := by rw [Wr.size W4]; exact SZ3
  have K4 : Keep h0 h4 [a1] := K3.wr W4 (Or.inl (List.mem_of_getElem? (i := 0) rfl))
  have N4 := Fr.snoc X4 N3 g_a1
  refine Gl.go (fun _ k => st4 _ k) ?_
  show Gl _ _ _ _ (T4.setTop (mkF m 22 #[.val (.ref a1), .val (.ref x1), .val (.ref b2), .val (.int (0 : Int32))] []))
  refine leafV X4 hx hlk Bd.returns (hb hby d12_22) ?_ (by decide) (by decide)
  rw [e4]
  exact ⟨b2, kc2, rfl, N4, K4, sz_b2, E_a1_4, F_a1_modCount_4, F_a1_elementData_4, F_a1_size_4, V_b2_4, Oc2, E_b2_4⟩
def Q_ad1 (Z : State) (a1 : Addr) (mc : Int32) (dE : Addr) (kD : ClassId) (x1 : Addr) (h0 : Heap) (n0 : Nat) (v : Option Value) (h : Heap) (L : List Loc) : Prop := ∃ b kA, v = some (.int (1 : Int32)) ∧ Fr n0 L ∧ Keep h0 h [a1] ∧ h0.size ≤ b ∧ (Exa Z h a1 "java/util/ArrayList") ∧ (Fld Z h a1 "java/util/AbstractList" "modCount" "I" (.int (mc + (1 : Int32)))) ∧ (Fld Z h a1 "java/util/ArrayList" "elementData" "[Ljava/lang/Object;" (.ref b)) ∧ (Fld Z h a1 "java/util/ArrayList" "size" "I" (.int (1 : Int32))) ∧ (Arv Z h b kA (.object "java/lang/Object") (10 : Int32) [(.ref x1), .null, .null, .null, .null, .null, .null, .null, .null, .null] .null) ∧ (Ovr Z kA "java/lang/Object") ∧ (Exa Z h b "[Ljava/lang/Object;")
set_option maxRecDepth 65536 in
set_option maxHeartbeats 40000000 in
theorem rm_ad1 (l : Launch) (Z : State) (a0 : Array Value) (hw : ∀ d ∈ tables_1, d.before a0 Z = true) (ws : List Jvm.Cond) (a1 : Addr) (mc : Int32) (dE : Addr) (kD : ClassId) (x1 : Addr) (h0 : Heap) (n0 : Nat) (Z0 : n0 ≤ h0.size) (E_a1 : (Exa Z h0 a1 "java/util/ArrayList")) (M_a1 : (Fld Z h0 a1 "java/util/AbstractList" "modCount" "I" (.int mc))) (D_a1 : (Fld Z h0 a1 "java/util/ArrayList" "elementData" "[Ljava/lang/Object;" (.ref dE))) (S_a1 : (Fld Z h0 a1 "java/util/ArrayList" "size" "I" (.int (0 : Int32)))) (g_a1 : n0 ≤ a1) (SD : Sta Z Z.heap "java/util/ArrayList" "DEFAULTCAPACITY_EMPTY_ELEMENTDATA" "[Ljava/lang/Object;" (.ref dE)) (VD : Arv Z Z.heap dE kD (.object "java/lang/Object") (0 : Int32) [] .null) (O0 : Old Z n0 h0) (X_x1 : (Exa Z h0 x1 "java/lang/String")) :
    MetFree l (⟨"java/util/ArrayList", "add", "(Ljava/lang/Object;)Z"⟩ : MethodName) (head1 (Jvm.Cond.code (⟨"java/util/ArrayList", "add", "(Ljava/lang/Object;)Z"⟩ : MethodName) jdk_38_method_25_code 2 (some .boolean) :: ws) ({ frames := 4, cells := 1, slots := 10, locals := 56 } : Room)) (fun aa U => aa = #[(.ref a1), (.ref x1)] ∧ Z.Warmed39 U.vm ∧ U.heap = h0) (fun _ _ _ _ _ => True) (fun _ U o U' => ∃ v L, o = .returned v ∧ Q_ad1 Z a1 mc dE kD x1 h0 n0 v U'.heap L ∧ FrameEnd U o U' L ({ frames := 4, cells := 1, slots := 10, locals := 56 } : Room).cells ({ frames := 4, cells := 1, slots := 10, locals := 56 } : Room).slots) := by
  refine MetFree.of_bodySF (plainFor_of_name pn_4) hisR ?_
  intro p e s m args below meth c s₁ Bd hml0 hP hK
  obtain ⟨rfl, hZ, hh⟩ := hP
  have hx := Bd.exec
  have hby := Bd.bytes
  have hml : c.maxLocals = 2 := hml0
  have hown : s.vm.findClass "java/util/ArrayList" = some m.cls := findClass_of_methodNamed Bd.named
  have hnm := (name_of_methodNamed Bd.named Bd.method).1
  have hlk : meth.locks = false := BodyLoose.notSynchronized Bd
  have X0 : Stand p l e ({ frames := 4, cells := 1, slots := 10, locals := 56 } : Room) s m #[(.ref a1), (.ref x1)] below meth c s₁ [] 0 0 := Stand.of_body Bd
  have e0 : s₁.heap = h0 := by rw [← hh, Bd.state]; rfl
  have N0 := Fr.nil n0
  have K0 : Keep h0 h0 [a1] := Keep.refl _ _
  show Gl p.tables e below (QQof s (Q_ad1 Z a1 mc dE kD x1 h0 n0) 1 10) (s₁.setTop (entryFrame m #[(.ref a1), (.ref x1)] 2))
  refine Gl.go (fun t k => castTop (ef_ad1 m a1 x1) k) ?_
  show Gl _ _ _ _ (s₁.setTop (mkF m 0 #[.val (.ref a1), .val (.ref x1)] []))
  refine Gl.go (fun _ k => XS.aloadN X0.here hx rfl (hb hby d11_0) rfl rfl  k) ?_
  refine Gl.go (fun _ k => XS.dup X0.here hx rfl (hb hby d11_1) rfl rfl k) ?_
  obtain ⟨T1, X1, e1, st1⟩ := getF X0 hx hZ hown (host := "") (Or.inl (hw _ (List.mem_of_getElem? (i := 63) rfl))) (Via.of (hw _ (List.mem_of_getElem? (i := 64) rfl))) e0 M_a1 (g := (mkF m 2 #[.val (.ref a1), .val (.ref x1)] [(.ref a1), (.ref a1)])) rfl rfl (hb hby d11_2)
  refine Gl.go (fun _ k => st1 _ k) ?_
  show Gl _ _ _ _ (T1.setTop (mkF m 5 #[.val (.ref a1), .val (.ref x1)] [(.int mc), (.ref a1)]))
  refine Gl.go (fun _ k => XS.iconst X1.here hx rfl (hb hby d11_5) k) ?_
  refine Gl.go (fun _ k => XS.iadd X1.here hx rfl (hb hby d11_6) rfl k) ?_
  obtain ⟨T2, h2, X2, e2, W2, st2⟩ := putF X1 hx hZ hown (host := "") (Or.inl (hw _ (List.mem_of_getElem? (i := 63) rfl))) (Via.of (hw _ (List.mem_of_getElem? (i := 64) rfl))) e1 M_a1 E_a1 (Or.inl (hw _ (List.mem_of_getElem? (i := 54) rfl))) (hw _ (List.mem_of_getElem? (i := 35) rfl)) (ty := .int) (by decide) rfl rfl (g := (mkF m 7 #[.val (.ref a1), .val (.ref x1)] [(.int (mc + (1 : Int32))), (.ref a1)])) rfl rfl (hb hby d11_7)
  have E_a1_2 := E_a1.wr W2
  have F_a1_modCount_2 := M_a1.same W2
  have F_a1_elementData_2 := D_a1.other W2 (Or.inr (slot_ne (t := (.array (.object "java/lang/Object"))) (t' := .int) (Or.inl (hw _ (List.mem_of_getElem? (i := 57) rfl))) (Or.inl (hw _ (List.mem_of_getElem? (i := 54) rfl))) (by decide) (by decide) (by decide)))
  have F_a1_size_2 := S_a1.other W2 (Or.inr (slot_ne (t := .int) (t' := .int) (Or.inl (hw _ (List.mem_of_getElem? (i := 66) rfl))) (Or.inl (hw _ (List.mem_of_getElem? (i := 54) rfl))) (by decide) (by decide) (by decide)))
  have O__2 := O0.wr W2 g_a1
  have E_x1_2 := X_x1.wr W2
  have SZ2 : n0 ≤ h2.size := by rw [Wr.size W2]; exact Z0
  have K2 : Keep h0 h2 [a1] := K0.wr W2 (Or.inl (List.mem_of_getElem? (i := 0) rfl))
  have N2 := Fr.snoc X2 N0 g_a1
  refine Gl.go (fun _ k => st2 _ k) ?_
  show Gl _ _ _ _ (T2.setTop (mkF m 10 #[.val (.ref a1), .val (.ref x1)] []))
  refine Gl.go (fun _ k => XS.aloadN X2.here hx rfl (hb hby d11_10) rfl rfl  k) ?_
  refine Gl.go (fun _ k => XS.aloadN X2.here hx rfl (hb hby d11_11) rfl rfl  k) ?_
  refine Gl.go (fun _ k => XS.aloadN X2.here hx rfl (hb hby d11_12) rfl rfl  k) ?_
  obtain ⟨T3, X3, e3, st3⟩ := getF X2 hx hZ hown (host := "") (Or.inl (hw _ (List.mem_of_getElem? (i := 56) rfl))) Via.refl e2 F_a1_elementData_2 (g := (mkF m 13 #[.val (.ref a1), .val (.ref x1)] [(.ref a1), (.ref x1), (.ref a1)])) rfl rfl (hb hby d11_13)
  refine Gl.go (fun _ k => st3 _ k) ?_
  show Gl _ _ _ _ (T3.setTop (mkF m 16 #[.val (.ref a1), .val (.ref x1)] [(.ref dE), (.ref x1), (.ref a1)]))
  refine Gl.go (fun _ k => XS.aloadN X3.here hx rfl (hb hby d11_16) rfl rfl  k) ?_
  obtain ⟨T4, X4, e4, st4⟩ := getF X3 hx hZ hown (host := "") (Or.inl (hw _ (List.mem_of_getElem? (i := 65) rfl))) Via.refl e3 F_a1_size_2 (g := (mkF m 17 #[.val (.ref a1), .val (.ref x1)] [(.ref a1), (.ref dE), (.ref x1), (.ref a1)])) rfl rfl (hb hby d11_17)
  refine Gl.go (fun _ k => st4 _ k) ?_
  show Gl _ _ _ _ (T4.setTop (mkF m 20 #[.val (.ref a1), .val (.ref x1)] [(.int (0 : Int32)), (.ref dE), (.ref x1), (.ref a1)]))
  obtain ⟨cq5, kq5, q5a, q5b, q5c⟩ := isOf hZ e4 E_a1_2
  obtain ⟨_, _, ⟨T5, L5, k5, n5⟩, -, X5, ⟨Lc5, hQ5, l5, y5, z5⟩, st5⟩ := X4.virtualBack hx (y := (⟨"java/util/ArrayList", "add", "(Ljava/lang/Object;[Ljava/lang/Object;I)V"⟩ : MethodName)) (z := (⟨"java/util/ArrayList", "add", "(Ljava/lang/Object;[Ljava/lang/Object;I)V"⟩ : MethodName)) hown (mvT hZ (hw _ (List.mem_of_getElem? (i := 67) rfl))) (mvT hZ (declOf (hw _ (List.mem_of_getElem? (i := 68) rfl)) (hw _ (List.mem_of_getElem? (i := 71) rfl)))) (notFace_of_selects (args := #[]) (mvT hZ (hw _ (List.mem_of_getElem? (i := 70) rfl)))) (mvT hZ (hw _ (List.mem_of_getElem? (i := 70) rfl))) (mvT hZ (hw _ (List.mem_of_getElem? (i := 68) rfl))) (by decide) (backOf (W := 0) (rm_ap1 l Z a0 hw [] a1 (mc + (1 : Int32)) dE kD x1 h2 n0 SZ2 E_a1_2 F_a1_modCount_2 F_a1_elementData_2 F_a1_size_2 g_a1 SD VD O__2 E_x1_2) hZ (hw _ (List.mem_of_getElem? (i := 71) rfl)) (hw _ (List.mem_of_getElem? (i := 36) rfl)) (by decide) (by decide)) q5a q5c (g := (mkF m 20 #[.val (.ref a1), .val (.ref x1)] [(.int (0 : Int32)), (.ref dE), (.ref x1), (.ref a1)])) rfl (by rw [hml]; rfl) (Steps.refl _) (argsL := [(.ref x1), (.ref dE), (.int (0 : Int32))]) (rest := []) (lenOf pd_4 rfl) rfl (by show 2 * 0 + _ ≤ _; exact Nat.le_of_eq rfl) (hb hby d11_20) (fun _ _ => ⟨rfl, e4, (by decide : 0 + 1 ≤ _), (by decide : 0 + 10 ≤ _)⟩)
  dsimp only [Pt.U, Pt.locs, Pt.cells, Pt.slots] at X5 l5 y5 z5 st5 hQ5
  subst y5 z5
  obtain ⟨b5, kc5, rfl, Nq5, Kc5, gz5, Ea5, Ma5, Da5, Sa5, Vc5, Oc5, Xc5⟩ := hQ5
  have N5 : Fr n0 L5 := by rw [l5]; exact Fr.app N2 Nq5
  refine Gl.go (fun _ k => st5.trans k) ?_
  have E_a1_5 := E_a1_2.keep Kc5
  have O__5 := O__2.keep Kc5 (allS g_a1 all0)
  have E_x1_5 := E_x1_2.keep Kc5
  have SZ5 : n0 ≤ T5.heap.size := Nat.le_trans SZ2 Kc5.1
  have K5 : Keep h0 T5.heap [a1] := K2.trans Kc5 (allS (Or.inl (List.mem_of_getElem? (i := 0) rfl)) all0)
  show Gl _ _ _ _ (T5.setTop (mkF m 23 #[.val (.ref a1), .val (.ref x1)] []))
  have g_b5 : n0 ≤ b5 := Nat.le_trans SZ2 gz5
  have sz_b5 : h0.size ≤ b5 := Nat.le_trans K2.1 gz5
  have ne_a1_b5 : a1 ≠ b5 := Nat.ne_of_lt (Nat.lt_of_lt_of_le E_a1_2.lt gz5)
  have ne_x1_b5 : x1 ≠ b5 := Nat.ne_of_lt (Nat.lt_of_lt_of_le E_x1_2.lt gz5)
  refine Gl.go (fun _ k => XS.iconst X5.here hx rfl (hb hby d11_23) k) ?_
  refine leafN X5 hx hlk (t := .boolean) Bd.returns (by simp) (hb hby d11_24) ?_ (by decide) (by decide)
  exact ⟨b5, kc5, rfl, N5, K5, sz_b5, Ea5, Ma5, Da5, Sa5, Vc5, Oc5, Xc5⟩
def Q_ap2_1 (Z : State) (a1 : Addr) (mc : Int32) (ar : Addr) (kA : ClassId) (x1 : Addr) (y0 : Addr) (h0 : Heap) (n0 : Nat) (v : Option Value) (h : Heap) (L : List Loc) : Prop := v = none ∧ Fr n0 L ∧ Keep h0 h [a1, ar] ∧ (Exa Z h a1 "java/util/ArrayList") ∧ (Fld Z h a1 "java/util/AbstractList" "modCount" "I" (.int mc)) ∧ (Fld Z h a1 "java/util/ArrayList" "elementData" "[Ljava/lang/Object;" (.ref ar)) ∧ (Fld Z h a1 "java/util/ArrayList" "size" "I" (.int (2 : Int32))) ∧ (Arv Z h ar kA (.object "java/lang/Object") (10 : Int32) [(.ref y0), (.ref x1), .null, .null, .null, .null, .null, .null, .null, .null] .null)
set_option maxRecDepth 65536 in
set_option maxHeartbeats 40000000 in
theorem rm_ap2_1 (l : Launch) (Z : State) (a0 : Array Value) (hw : ∀ d ∈ tables_1, d.before a0 Z = true) (ws : List Jvm.Cond) (a1 : Addr) (mc : Int32) (ar : Addr) (kA : ClassId) (x1 : Addr) (y0 : Addr) (h0 : Heap) (n0 : Nat) (Z0 : n0 ≤ h0.size) (E_a1 : (Exa Z h0 a1 "java/util/ArrayList")) (M_a1 : (Fld Z h0 a1 "java/util/AbstractList" "modCount" "I" (.int mc))) (D_a1 : (Fld Z h0 a1 "java/util/ArrayList" "elementData" "[Ljava/lang/Object;" (.ref ar))) (S_a1 : (Fld Z h0 a1 "java/util/ArrayList" "size" "I" (.int (1 : Int32)))) (g_a1 : n0 ≤ a1) (V1 : (Arv Z h0 ar kA (.object "java/lang/Object") (10 : Int32) [(.ref y0), .null, .null, .null, .null, .null, .null, .null, .null, .null] .null)) (O1 : (Ovr Z kA "java/lang/Object")) (g_ar : n0 ≤ ar) (hne : a1 ≠ ar) (X_x1 : (Exa Z h0 x1 "java/lang/String")) :
    MetFree l (⟨"java/util/ArrayList", "add", "(Ljava/lang/Object;[Ljava/lang/Object;I)V"⟩ : MethodName) (head1 (Jvm.Cond.code (⟨"java/util/ArrayList", "add", "(Ljava/lang/Object;[Ljava/lang/Object;I)V"⟩ : MethodName) jdk_38_method_24_code 4 none :: ws) ({ frames := 0, cells := 0, slots := 0, locals := 0 } : Room)) (fun aa U => aa = #[(.ref a1), (.ref x1), (.ref ar), (.int (1 : Int32))] ∧ Z.Warmed39 U.vm ∧ U.heap = h0) (fun _ _ _ _ _ => True) (fun _ U o U' => ∃ v L, o = .returned v ∧ Q_ap2_1 Z a1 mc ar kA x1 y0 h0 n0 v U'.heap L ∧ FrameEnd U o U' L ({ frames := 0, cells := 0, slots := 0, locals := 0 } : Room).cells ({ frames := 0, cells := 0, slots := 0, locals := 0 } : Room).slots) := by
  refine MetFree.of_bodySF (plainFor_of_name pn_4) hisR ?_
  intro p e s m args below meth c s₁ Bd hml0 hP hK
  obtain ⟨rfl, hZ, hh⟩ := hP
  have hx := Bd.exec
  have hby := Bd.bytes
  have hml : c.maxLocals = 4 := hml0
  have hown : s.vm.findClass "java/util/ArrayList" = some m.cls := findClass_of_methodNamed Bd.named
  have hnm := (name_of_methodNamed Bd.named Bd.method).1
  have hlk : meth.locks = false := BodyLoose.notSynchronized Bd
  have X0 : Stand p l e ({ frames := 0, cells := 0, slots := 0, locals := 0 } : Room) s m #[(.ref a1), (.ref x1), (.ref ar), (.int (1 : Int32))] below meth c s₁ [] 0 0 := Stand.of_body Bd
  have e0 : s₁.heap = h0 := by rw [← hh, Bd.state]; rfl
  have N0 := Fr.nil n0
  have K0 : Keep h0 h0 [a1, ar] := Keep.refl _ _
  show Gl p.tables e below (QQof s (Q_ap2_1 Z a1 mc ar kA x1 y0 h0 n0) 0 0) (s₁.setTop (entryFrame m #[(.ref a1), (.ref x1), (.ref ar), (.int (1 : Int32))] 4))
  refine Gl.go (fun t k => castTop (ef_ap2_1 m a1 x1 ar (1 : Int32)) k) ?_
  show Gl _ _ _ _ (s₁.setTop (mkF m 0 #[.val (.ref a1), .val (.ref x1), .val (.ref ar), .val (.int (1 : Int32))] []))
  refine Gl.go (fun _ k => XS.iloadN X0.here hx rfl (hb hby d12_0) rfl  k) ?_
  refine Gl.go (fun _ k => XS.aloadN X0.here hx rfl (hb hby d12_1) rfl rfl  k) ?_
  obtain ⟨cl1, Ar1, qA1, SA1, NA1, HA1, GA1⟩ := id V1
  refine Gl.go (fun _ k => X0.arraylength hx (by rw [e0]; exact Ar1.1) (State.isArrayOf_alike hZ.alike Ar1.2.1) (g := (mkF m 2 #[.val (.ref a1), .val (.ref x1), .val (.ref ar), .val (.int (1 : Int32))] [(.ref ar), (.int (1 : Int32))])) rfl rfl (hb hby d12_2) _ k) ?_
  rw [len_of SA1 NA1]
  show Gl _ _ _ _ (s₁.setTop (mkF m 3 #[.val (.ref a1), .val (.ref x1), .val (.ref ar), .val (.int (1 : Int32))] [(.int (10 : Int32)), (.int (1 : Int32))]))
  refine Gl.go (fun _ k => XS.icmpYes X0.here hx rfl (pc0 := 3) (pc' := 11) rfl (hb hby d12_3) rfl (feq (by decide)).2 (by decide) (by decide) k) ?_
  show Gl _ _ _ _ (s₁.setTop (mkF m 11 #[.val (.ref a1), .val (.ref x1), .val (.ref ar), .val (.int (1 : Int32))] []))
  refine Gl.go (fun _ k => XS.aloadN X0.here hx rfl (hb hby d12_11) rfl rfl  k) ?_
  refine Gl.go (fun _ k => XS.iloadN X0.here hx rfl (hb hby d12_12) rfl  k) ?_
  refine Gl.go (fun _ k => XS.aloadN X0.here hx rfl (hb hby d12_13) rfl rfl  k) ?_
  obtain ⟨cl2, Ar2, qA2, SA2, NA2, HA2, GA2⟩ := id V1
  obtain ⟨T2, h2, X2, e2, W2, st2⟩ := stR X0 hx hZ e0 Ar2 (j := (1 : Int32)) (inb_of SA2 ⟨by decide, by decide⟩) rfl (Sto.ofV Ar2 qA2 O1 (Ins.of_exa X_x1 (hw _ (List.mem_of_getElem? (i := 88) rfl)))) (g := (mkF m 14 #[.val (.ref a1), .val (.ref x1), .val (.ref ar), .val (.int (1 : Int32))] [(.ref x1), (.int (1 : Int32)), (.ref ar)])) rfl rfl (hb hby d12_14)
  have E_a1_2 := E_a1.wr W2
  have F_a1_modCount_2 := M_a1.other W2 (Or.inl hne)
  have F_a1_elementData_2 := D_a1.other W2 (Or.inl hne)
  have F_a1_size_2 := S_a1.other W2 (Or.inl hne)
  have E_x1_2 := X_x1.wr W2
  have SZ2 : n0 ≤ h2.size := by rw [Wr.size W2]; exact Z0
  have K2 : Keep h0 h2 [a1, ar] := K0.wr W2 (Or.inl (List.mem_of_getElem? (i := 1) rfl))
  have N2 := Fr.snoc X2 N0 g_ar
  have V_ar_2 : Arv Z h2 ar kA (.object "java/lang/Object") (10 : Int32) [(.ref y0), (.ref x1), .null, .null, .null, .null, .null, .null, .null, .null] .null := Arv.set Ar2 qA2 SA2 NA2 HA2 GA2 rfl W2 1 rfl (Nat.le_of_ble_eq_true rfl)
  refine Gl.go (fun _ k => st2 _ k) ?_
  show Gl _ _ _ _ (T2.setTop (mkF m 15 #[.val (.ref a1), .val (.ref x1), .val (.ref ar), .val (.int (1 : Int32))] []))
  refine Gl.go (fun _ k => XS.aloadN X2.here hx rfl (hb hby d12_15) rfl rfl  k) ?_
  refine Gl.go (fun _ k => XS.iloadN X2.here hx rfl (hb hby d12_16) rfl  k) ?_
  refine Gl.go (fun _ k => XS.iconst X2.here hx rfl (hb hby d12_17) k) ?_
  refine Gl.go (fun _ k => XS.iadd X2.here hx rfl (hb hby d12_18) rfl k) ?_
  show Gl _ _ _ _ (T2.setTop (mkF m 19 #[.val (.ref a1), .val (.ref x1), .val (.ref ar), .val (.int (1 : Int32))] [(.int ((1 : Int32) + (1 : Int32))), (.ref a1)]))
  rw [(by decide : ((1 : Int32) + (1 : Int32)) = (2 : Int32))]
  show Gl _ _ _ _ (T2.setTop (mkF m 19 #[.val (.ref a1), .val (.ref x1), .val (.ref ar), .val (.int (1 : Int32))] [(.int (2 : Int32)), (.ref a1)]))
  obtain ⟨T3, h3, X3, e3, W3, st3⟩ := putF X2 hx hZ hown (host := "") (Or.inl (hw _ (List.mem_of_getElem? (i := 65) rfl))) Via.refl e2 F_a1_size_2 E_a1_2 (Or.inl (hw _ (List.mem_of_getElem? (i := 66) rfl))) (hw _ (List.mem_of_getElem? (i := 35) rfl)) (ty := .int) (by decide) rfl rfl (g := (mkF m 19 #[.val (.ref a1), .val (.ref x1), .val (.ref ar), .val (.int (1 : Int32))] [(.int (2 : Int32)), (.ref a1)])) rfl rfl (hb hby d12_19)
  have E_a1_3 := E_a1_2.wr W3
  have F_a1_modCount_3 := F_a1_modCount_2.other W3 (Or.inr (slot_ne (t := .int) (t' := .int) (Or.inl (hw _ (List.mem_of_getElem? (i := 54) rfl))) (Or.inl (hw _ (List.mem_of_getElem? (i := 66) rfl))) (by decide) (by decide) (by decide)))
  have F_a1_elementData_3 := F_a1_elementData_2.other W3 (Or.inr (slot_ne (t := (.array (.object "java/lang/Object"))) (t' := .int) (Or.inl (hw _ (List.mem_of_getElem? (i := 57) rfl))) (Or.inl (hw _ (List.mem_of_getElem? (i := 66) rfl))) (by decide) (by decide) (by decide)))
  have F_a1_size_3 := F_a1_size_2.same W3
  have E_x1_3 := E_x1_2.wr W3
  have V_ar_3 := V_ar_2.other W3 (Ne.symm hne)
  have SZ3 : n0 ≤ h3.size := by rw [Wr.size W3]; exact SZ2
  have K3 : Keep h0 h3 [a1, ar] := K2.wr W3 (Or.inl (List.mem_of_getElem? (i := 0) rfl))
  have N3 := Fr.snoc X3 N2 g_a1
  refine Gl.go (fun _ k => st3 _ k) ?_
  show Gl _ _ _ _ (T3.setTop (mkF m 22 #[.val (.ref a1), .val (.ref x1), .val (.ref ar), .val (.int (1 : Int32))] []))
  refine leafV X3 hx hlk Bd.returns (hb hby d12_22) ?_ (by decide) (by decide)
  rw [e3]
  exact ⟨rfl, N3, K3, E_a1_3, F_a1_modCount_3, F_a1_elementData_3, F_a1_size_3, V_ar_3⟩
def Q_ad2_1 (Z : State) (a1 : Addr) (mc : Int32) (ar : Addr) (kA : ClassId) (x1 : Addr) (y0 : Addr) (h0 : Heap) (n0 : Nat) (v : Option Value) (h : Heap) (L : List Loc) : Prop := v = some (.int (1 : Int32)) ∧ Fr n0 L ∧ Keep h0 h [a1, ar] ∧ (Exa Z h a1 "java/util/ArrayList") ∧ (Fld Z h a1 "java/util/AbstractList" "modCount" "I" (.int (mc + (1 : Int32)))) ∧ (Fld Z h a1 "java/util/ArrayList" "elementData" "[Ljava/lang/Object;" (.ref ar)) ∧ (Fld Z h a1 "java/util/ArrayList" "size" "I" (.int (2 : Int32))) ∧ (Arv Z h ar kA (.object "java/lang/Object") (10 : Int32) [(.ref y0), (.ref x1), .null, .null, .null, .null, .null, .null, .null, .null] .null)
set_option maxRecDepth 65536 in
set_option maxHeartbeats 40000000 in
theorem rm_ad2_1 (l : Launch) (Z : State) (a0 : Array Value) (hw : ∀ d ∈ tables_1, d.before a0 Z = true) (ws : List Jvm.Cond) (a1 : Addr) (mc : Int32) (ar : Addr) (kA : ClassId) (x1 : Addr) (y0 : Addr) (h0 : Heap) (n0 : Nat) (Z0 : n0 ≤ h0.size) (E_a1 : (Exa Z h0 a1 "java/util/ArrayList")) (M_a1 : (Fld Z h0 a1 "java/util/AbstractList" "modCount" "I" (.int mc))) (D_a1 : (Fld Z h0 a1 "java/util/ArrayList" "elementData" "[Ljava/lang/Object;" (.ref ar))) (S_a1 : (Fld Z h0 a1 "java/util/ArrayList" "size" "I" (.int (1 : Int32)))) (g_a1 : n0 ≤ a1) (V1 : (Arv Z h0 ar kA (.object "java/lang/Object") (10 : Int32) [(.ref y0), .null, .null, .null, .null, .null, .null, .null, .null, .null] .null)) (O1 : (Ovr Z kA "java/lang/Object")) (g_ar : n0 ≤ ar) (hne : a1 ≠ ar) (X_x1 : (Exa Z h0 x1 "java/lang/String")) :
    MetFree l (⟨"java/util/ArrayList", "add", "(Ljava/lang/Object;)Z"⟩ : MethodName) (head1 (Jvm.Cond.code (⟨"java/util/ArrayList", "add", "(Ljava/lang/Object;)Z"⟩ : MethodName) jdk_38_method_25_code 2 (some .boolean) :: ws) ({ frames := 1, cells := 0, slots := 0, locals := 15 } : Room)) (fun aa U => aa = #[(.ref a1), (.ref x1)] ∧ Z.Warmed39 U.vm ∧ U.heap = h0) (fun _ _ _ _ _ => True) (fun _ U o U' => ∃ v L, o = .returned v ∧ Q_ad2_1 Z a1 mc ar kA x1 y0 h0 n0 v U'.heap L ∧ FrameEnd U o U' L ({ frames := 1, cells := 0, slots := 0, locals := 15 } : Room).cells ({ frames := 1, cells := 0, slots := 0, locals := 15 } : Room).slots) := by
  refine MetFree.of_bodySF (plainFor_of_name pn_4) hisR ?_
  intro p e s m args below meth c s₁ Bd hml0 hP hK
  obtain ⟨rfl, hZ, hh⟩ := hP
  have hx := Bd.exec
  have hby := Bd.bytes
  have hml : c.maxLocals = 2 := hml0
  have hown : s.vm.findClass "java/util/ArrayList" = some m.cls := findClass_of_methodNamed Bd.named
  have hnm := (name_of_methodNamed Bd.named Bd.method).1
  have hlk : meth.locks = false := BodyLoose.notSynchronized Bd
  have X0 : Stand p l e ({ frames := 1, cells := 0, slots := 0, locals := 15 } : Room) s m #[(.ref a1), (.ref x1)] below meth c s₁ [] 0 0 := Stand.of_body Bd
  have e0 : s₁.heap = h0 := by rw [← hh, Bd.state]; rfl
  have N0 := Fr.nil n0
  have K0 : Keep h0 h0 [a1, ar] := Keep.refl _ _
  show Gl p.tables e below (QQof s (Q_ad2_1 Z a1 mc ar kA x1 y0 h0 n0) 0 0) (s₁.setTop (entryFrame m #[(.ref a1), (.ref x1)] 2))
  refine Gl.go (fun t k => castTop (ef_ad2_1 m a1 x1) k) ?_
  show Gl _ _ _ _ (s₁.setTop (mkF m 0 #[.val (.ref a1), .val (.ref x1)] []))
  refine Gl.go (fun _ k => XS.aloadN X0.here hx rfl (hb hby d11_0) rfl rfl  k) ?_
  refine Gl.go (fun _ k => XS.dup X0.here hx rfl (hb hby d11_1) rfl rfl k) ?_
  obtain ⟨T1, X1, e1, st1⟩ := getF X0 hx hZ hown (host := "") (Or.inl (hw _ (List.mem_of_getElem? (i := 63) rfl))) (Via.of (hw _ (List.mem_of_getElem? (i := 64) rfl))) e0 M_a1 (g := (mkF m 2 #[.val (.ref a1), .val (.ref x1)] [(.ref a1), (.ref a1)])) rfl rfl (hb hby d11_2)
  refine Gl.go (fun _ k => st1 _ k) ?_
  show Gl _ _ _ _ (T1.setTop (mkF m 5 #[.val (.ref a1), .val (.ref x1)] [(.int mc), (.ref a1)]))
  refine Gl.go (fun _ k => XS.iconst X1.here hx rfl (hb hby d11_5) k) ?_
  refine Gl.go (fun _ k => XS.iadd X1.here hx rfl (hb hby d11_6) rfl k) ?_
  obtain ⟨T2, h2, X2, e2, W2, st2⟩ := putF X1 hx hZ hown (host := "") (Or.inl (hw _ (List.mem_of_getElem? (i := 63) rfl))) (Via.of (hw _ (List.mem_of_getElem? (i := 64) rfl))) e1 M_a1 E_a1 (Or.inl (hw _ (List.mem_of_getElem? (i := 54) rfl))) (hw _ (List.mem_of_getElem? (i := 35) rfl)) (ty := .int) (by decide) rfl rfl (g := (mkF m 7 #[.val (.ref a1), .val (.ref x1)] [(.int (mc + (1 : Int32))), (.ref a1)])) rfl rfl (hb hby d11_7)
  have E_a1_2 := E_a1.wr W2
  have F_a1_modCount_2 := M_a1.same W2
  have F_a1_elementData_2 := D_a1.other W2 (Or.inr (slot_ne (t := (.array (.object "java/lang/Object"))) (t' := .int) (Or.inl (hw _ (List.mem_of_getElem? (i := 57) rfl))) (Or.inl (hw _ (List.mem_of_getElem? (i := 54) rfl))) (by decide) (by decide) (by decide)))
  have F_a1_size_2 := S_a1.other W2 (Or.inr (slot_ne (t := .int) (t' := .int) (Or.inl (hw _ (List.mem_of_getElem? (i := 66) rfl))) (Or.inl (hw _ (List.mem_of_getElem? (i := 54) rfl))) (by decide) (by decide) (by decide)))
  have V_ar_2 := V1.other W2 (Ne.symm hne)
  have E_x1_2 := X_x1.wr W2
  have SZ2 : n0 ≤ h2.size := by rw [Wr.size W2]; exact Z0
  have K2 : Keep h0 h2 [a1, ar] := K0.wr W2 (Or.inl (List.mem_of_getElem? (i := 0) rfl))
  have N2 := Fr.snoc X2 N0 g_a1
  refine Gl.go (fun _ k => st2 _ k) ?_
  show Gl _ _ _ _ (T2.setTop (mkF m 10 #[.val (.ref a1), .val (.ref x1)] []))
  refine Gl.go (fun _ k => XS.aloadN X2.here hx rfl (hb hby d11_10) rfl rfl  k) ?_
  refine Gl.go (fun _ k => XS.aloadN X2.here hx rfl (hb hby d11_11) rfl rfl  k) ?_
  refine Gl.go (fun _ k => XS.aloadN X2.here hx rfl (hb hby d11_12) rfl rfl  k) ?_
  obtain ⟨T3, X3, e3, st3⟩ := getF X2 hx hZ hown (host := "") (Or.inl (hw _ (List.mem_of_getElem? (i := 56) rfl))) Via.refl e2 F_a1_elementData_2 (g := (mkF m 13 #[.val (.ref a1), .val (.ref x1)] [(.ref a1), (.ref x1), (.ref a1)])) rfl rfl (hb hby d11_13)
  refine Gl.go (fun _ k => st3 _ k) ?_
  show Gl _ _ _ _ (T3.setTop (mkF m 16 #[.val (.ref a1), .val (.ref x1)] [(.ref ar), (.ref x1), (.ref a1)]))
  refine Gl.go (fun _ k => XS.aloadN X3.here hx rfl (hb hby d11_16) rfl rfl  k) ?_
  obtain ⟨T4, X4, e4, st4⟩ := getF X3 hx hZ hown (host := "") (Or.inl (hw _ (List.mem_of_getElem? (i := 65) rfl))) Via.refl e3 F_a1_size_2 (g := (mkF m 17 #[.val (.ref a1), .val (.ref x1)] [(.ref a1), (.ref ar), (.ref x1), (.ref a1)])) rfl rfl (hb hby d11_17)
  refine Gl.go (fun _ k => st4 _ k) ?_
  show Gl _ _ _ _ (T4.setTop (mkF m 20 #[.val (.ref a1), .val (.ref x1)] [(.int (1 : Int32)), (.ref ar), (.ref x1), (.ref a1)]))
  obtain ⟨cq5, kq5, q5a, q5b, q5c⟩ := isOf hZ e4 E_a1_2
  obtain ⟨_, _, ⟨T5, L5, k5, n5⟩, -, X5, ⟨Lc5, hQ5, l5, y5, z5⟩, st5⟩ := X4.virtualBack hx (y := (⟨"java/util/ArrayList", "add", "(Ljava/lang/Object;[Ljava/lang/Object;I)V"⟩ : MethodName)) (z := (⟨"java/util/ArrayList", "add", "(Ljava/lang/Object;[Ljava/lang/Object;I)V"⟩ : MethodName)) hown (mvT hZ (hw _ (List.mem_of_getElem? (i := 67) rfl))) (mvT hZ (declOf (hw _ (List.mem_of_getElem? (i := 68) rfl)) (hw _ (List.mem_of_getElem? (i := 71) rfl)))) (notFace_of_selects (args := #[]) (mvT hZ (hw _ (List.mem_of_getElem? (i := 70) rfl)))) (mvT hZ (hw _ (List.mem_of_getElem? (i := 70) rfl))) (mvT hZ (hw _ (List.mem_of_getElem? (i := 68) rfl))) (by decide) (backOf (W := 0) (rm_ap2_1 l Z a0 hw [] a1 (mc + (1 : Int32)) ar kA x1 y0 h2 n0 SZ2 E_a1_2 F_a1_modCount_2 F_a1_elementData_2 F_a1_size_2 g_a1 V_ar_2 O1 g_ar hne E_x1_2) hZ (hw _ (List.mem_of_getElem? (i := 71) rfl)) (hw _ (List.mem_of_getElem? (i := 36) rfl)) (by decide) (by decide)) q5a q5c (g := (mkF m 20 #[.val (.ref a1), .val (.ref x1)] [(.int (1 : Int32)), (.ref ar), (.ref x1), (.ref a1)])) rfl (by rw [hml]; rfl) (Steps.refl _) (argsL := [(.ref x1), (.ref ar), (.int (1 : Int32))]) (rest := []) (lenOf pd_4 rfl) rfl (by show 2 * 0 + _ ≤ _; exact Nat.le_of_eq rfl) (hb hby d11_20) (fun _ _ => ⟨rfl, e4, (by decide : 0 + 0 ≤ _), (by decide : 0 + 0 ≤ _)⟩)
  dsimp only [Pt.U, Pt.locs, Pt.cells, Pt.slots] at X5 l5 y5 z5 st5 hQ5
  subst y5 z5
  obtain ⟨rfl, Nq5, Kc5, Ea5, Ma5, Da5, Sa5, Vc5⟩ := hQ5
  have N5 : Fr n0 L5 := by rw [l5]; exact Fr.app N2 Nq5
  refine Gl.go (fun _ k => st5.trans k) ?_
  have E_a1_5 := E_a1_2.keep Kc5
  have E_x1_5 := E_x1_2.keep Kc5
  have SZ5 : n0 ≤ T5.heap.size := Nat.le_trans SZ2 Kc5.1
  have K5 : Keep h0 T5.heap [a1, ar] := K2.trans Kc5 (allS (Or.inl (List.mem_of_getElem? (i := 0) rfl)) (allS (Or.inl (List.mem_of_getElem? (i := 1) rfl)) all0))
  show Gl _ _ _ _ (T5.setTop (mkF m 23 #[.val (.ref a1), .val (.ref x1)] []))
  refine Gl.go (fun _ k => XS.iconst X5.here hx rfl (hb hby d11_23) k) ?_
  refine leafN X5 hx hlk (t := .boolean) Bd.returns (by simp) (hb hby d11_24) ?_ (by decide) (by decide)
  exact ⟨rfl, N5, K5, Ea5, Ma5, Da5, Sa5, Vc5⟩
def Q_ap2_2 (Z : State) (a1 : Addr) (mc : Int32) (ar : Addr) (kA : ClassId) (x1 : Addr) (y0 : Addr) (y1 : Addr) (h0 : Heap) (n0 : Nat) (v : Option Value) (h : Heap) (L : List Loc) : Prop := v = none ∧ Fr n0 L ∧ Keep h0 h [a1, ar] ∧ (Exa Z h a1 "java/util/ArrayList") ∧ (Fld Z h a1 "java/util/AbstractList" "modCount" "I" (.int mc)) ∧ (Fld Z h a1 "java/util/ArrayList" "elementData" "[Ljava/lang/Object;" (.ref ar)) ∧ (Fld Z h a1 "java/util/ArrayList" "size" "I" (.int (3 : Int32))) ∧ (Arv Z h ar kA (.object "java/lang/Object") (10 : Int32) [(.ref y0), (.ref y1), (.ref x1), .null, .null, .null, .null, .null, .null, .null] .null)
set_option maxRecDepth 65536 in
set_option maxHeartbeats 40000000 in
theorem rm_ap2_2 (l : Launch) (Z : State) (a0 : Array Value) (hw : ∀ d ∈ tables_1, d.before a0 Z = true) (ws : List Jvm.Cond) (a1 : Addr) (mc : Int32) (ar : Addr) (kA : ClassId) (x1 : Addr) (y0 : Addr) (y1 : Addr) (h0 : Heap) (n0 : Nat) (Z0 : n0 ≤ h0.size) (E_a1 : (Exa Z h0 a1 "java/util/ArrayList")) (M_a1 : (Fld Z h0 a1 "java/util/AbstractList" "modCount" "I" (.int mc))) (D_a1 : (Fld Z h0 a1 "java/util/ArrayList" "elementData" "[Ljava/lang/Object;" (.ref ar))) (S_a1 : (Fld Z h0 a1 "java/util/ArrayList" "size" "I" (.int (2 : Int32)))) (g_a1 : n0 ≤ a1) (V1 : (Arv Z h0 ar kA (.object "java/lang/Object") (10 : Int32) [(.ref y0), (.ref y1), .null, .null, .null, .null, .null, .null, .null, .null] .null)) (O1 : (Ovr Z kA "java/lang/Object")) (g_ar : n0 ≤ ar) (hne : a1 ≠ ar) (X_x1 : (Exa Z h0 x1 "java/lang/String")) :
    MetFree l (⟨"java/util/ArrayList", "add", "(Ljava/lang/Object;[Ljava/lang/Object;I)V"⟩ : MethodName) (head1 (Jvm.Cond.code (⟨"java/util/ArrayList", "add", "(Ljava/lang/Object;[Ljava/lang/Object;I)V"⟩ : MethodName) jdk_38_method_24_code 4 none :: ws) ({ frames := 0, cells := 0, slots := 0, locals := 0 } : Room)) (fun aa U => aa = #[(.ref a1), (.ref x1), (.ref ar), (.int (2 : Int32))] ∧ Z.Warmed39 U.vm ∧ U.heap = h0) (fun _ _ _ _ _ => True) (fun _ U o U' => ∃ v L, o = .returned v ∧ Q_ap2_2 Z a1 mc ar kA x1 y0 y1 h0 n0 v U'.heap L ∧ FrameEnd U o U' L ({ frames := 0, cells := 0, slots := 0, locals := 0 } : Room).cells ({ frames := 0, cells := 0, slots := 0, locals := 0 } : Room).slots) := by
  refine MetFree.of_bodySF (plainFor_of_name pn_4) hisR ?_
  intro p e s m args below meth c s₁ Bd hml0 hP hK
  obtain ⟨rfl, hZ, hh⟩ := hP
  have hx := Bd.exec
  have hby := Bd.bytes
  have hml : c.maxLocals = 4 := hml0
  have hown : s.vm.findClass "java/util/ArrayList" = some m.cls := findClass_of_methodNamed Bd.named
  have hnm := (name_of_methodNamed Bd.named Bd.method).1
  have hlk : meth.locks = false := BodyLoose.notSynchronized Bd
  have X0 : Stand p l e ({ frames := 0, cells := 0, slots := 0, locals := 0 } : Room) s m #[(.ref a1), (.ref x1), (.ref ar), (.int (2 : Int32))] below meth c s₁ [] 0 0 := Stand.of_body Bd
  have e0 : s₁.heap = h0 := by rw [← hh, Bd.state]; rfl
  have N0 := Fr.nil n0
  have K0 : Keep h0 h0 [a1, ar] := Keep.refl _ _
  show Gl p.tables e below (QQof s (Q_ap2_2 Z a1 mc ar kA x1 y0 y1 h0 n0) 0 0) (s₁.setTop (entryFrame m #[(.ref a1), (.ref x1), (.ref ar), (.int (2 : Int32))] 4))
  refine Gl.go (fun t k => castTop (ef_ap2_2 m a1 x1 ar (2 : Int32)) k) ?_
  show Gl _ _ _ _ (s₁.setTop (mkF m 0 #[.val (.ref a1), .val (.ref x1), .val (.ref ar), .val (.int (2 : Int32))] []))
  refine Gl.go (fun _ k => XS.iloadN X0.here hx rfl (hb hby d12_0) rfl  k) ?_
  refine Gl.go (fun _ k => XS.aloadN X0.here hx rfl (hb hby d12_1) rfl rfl  k) ?_
  obtain ⟨cl1, Ar1, qA1, SA1, NA1, HA1, GA1⟩ := id V1
  refine Gl.go (fun _ k => X0.arraylength hx (by rw [e0]; exact Ar1.1) (State.isArrayOf_alike hZ.alike Ar1.2.1) (g := (mkF m 2 #[.val (.ref a1), .val (.ref x1), .val (.ref ar), .val (.int (2 : Int32))] [(.ref ar), (.int (2 : Int32))])) rfl rfl (hb hby d12_2) _ k) ?_
  rw [len_of SA1 NA1]
  show Gl _ _ _ _ (s₁.setTop (mkF m 3 #[.val (.ref a1), .val (.ref x1), .val (.ref ar), .val (.int (2 : Int32))] [(.int (10 : Int32)), (.int (2 : Int32))]))
  refine Gl.go (fun _ k => XS.icmpYes X0.here hx rfl (pc0 := 3) (pc' := 11) rfl (hb hby d12_3) rfl (feq (by decide)).2 (by decide) (by decide) k) ?_
  show Gl _ _ _ _ (s₁.setTop (mkF m 11 #[.val (.ref a1), .val (.ref x1), .val (.ref ar), .val (.int (2 : Int32))] []))
  refine Gl.go (fun _ k => XS.aloadN X0.here hx rfl (hb hby d12_11) rfl rfl  k) ?_
  refine Gl.go (fun _ k => XS.iloadN X0.here hx rfl (hb hby d12_12) rfl  k) ?_
  refine Gl.go (fun _ k => XS.aloadN X0.here hx rfl (hb hby d12_13) rfl rfl  k) ?_
  obtain ⟨cl2, Ar2, qA2, SA2, NA2, HA2, GA2⟩ := id V1
  obtain ⟨T2, h2, X2, e2, W2, st2⟩ := stR X0 hx hZ e0 Ar2 (j := (2 : Int32)) (inb_of SA2 ⟨by decide, by decide⟩) rfl (Sto.ofV Ar2 qA2 O1 (Ins.of_exa X_x1 (hw _ (List.mem_of_getElem? (i := 88) rfl)))) (g := (mkF m 14 #[.val (.ref a1), .val (.ref x1), .val (.ref ar), .val (.int (2 : Int32))] [(.ref x1), (.int (2 : Int32)), (.ref ar)])) rfl rfl (hb hby d12_14)
  have E_a1_2 := E_a1.wr W2
  have F_a1_modCount_2 := M_a1.other W2 (Or.inl hne)
  have F_a1_elementData_2 := D_a1.other W2 (Or.inl hne)
  have F_a1_size_2 := S_a1.other W2 (Or.inl hne)
  have E_x1_2 := X_x1.wr W2
  have SZ2 : n0 ≤ h2.size := by rw [Wr.size W2]; exact Z0
  have K2 : Keep h0 h2 [a1, ar] := K0.wr W2 (Or.inl (List.mem_of_getElem? (i := 1) rfl))
  have N2 := Fr.snoc X2 N0 g_ar
  have V_ar_2 : Arv Z h2 ar kA (.object "java/lang/Object") (10 : Int32) [(.ref y0), (.ref y1), (.ref x1), .null, .null, .null, .null, .null, .null, .null] .null := Arv.set Ar2 qA2 SA2 NA2 HA2 GA2 rfl W2 2 rfl (Nat.le_of_ble_eq_true rfl)
  refine Gl.go (fun _ k => st2 _ k) ?_
  show Gl _ _ _ _ (T2.setTop (mkF m 15 #[.val (.ref a1), .val (.ref x1), .val (.ref ar), .val (.int (2 : Int32))] []))
  refine Gl.go (fun _ k => XS.aloadN X2.here hx rfl (hb hby d12_15) rfl rfl  k) ?_
  refine Gl.go (fun _ k => XS.iloadN X2.here hx rfl (hb hby d12_16) rfl  k) ?_
  refine Gl.go (fun _ k => XS.iconst X2.here hx rfl (hb hby d12_17) k) ?_
  refine Gl.go (fun _ k => XS.iadd X2.here hx rfl (hb hby d12_18) rfl k) ?_
  show Gl _ _ _ _ (T2.setTop (mkF m 19 #[.val (.ref a1), .val (.ref x1), .val (.ref ar), .val (.int (2 : Int32))] [(.int ((2 : Int32) + (1 : Int32))), (.ref a1)]))
  rw [(by decide : ((2 : Int32) + (1 : Int32)) = (3 : Int32))]
  show Gl _ _ _ _ (T2.setTop (mkF m 19 #[.val (.ref a1), .val (.ref x1), .val (.ref ar), .val (.int (2 : Int32))] [(.int (3 : Int32)), (.ref a1)]))
  obtain ⟨T3, h3, X3, e3, W3, st3⟩ := putF X2 hx hZ hown (host := "") (Or.inl (hw _ (List.mem_of_getElem? (i := 65) rfl))) Via.refl e2 F_a1_size_2 E_a1_2 (Or.inl (hw _ (List.mem_of_getElem? (i := 66) rfl))) (hw _ (List.mem_of_getElem? (i := 35) rfl)) (ty := .int) (by decide) rfl rfl (g := (mkF m 19 #[.val (.ref a1), .val (.ref x1), .val (.ref ar), .val (.int (2 : Int32))] [(.int (3 : Int32)), (.ref a1)])) rfl rfl (hb hby d12_19)
  have E_a1_3 := E_a1_2.wr W3
  have F_a1_modCount_3 := F_a1_modCount_2.other W3 (Or.inr (slot_ne (t := .int) (t' := .int) (Or.inl (hw _ (List.mem_of_getElem? (i := 54) rfl))) (Or.inl (hw _ (List.mem_of_getElem? (i := 66) rfl))) (by decide) (by decide) (by decide)))
  have F_a1_elementData_3 := F_a1_elementData_2.other W3 (Or.inr (slot_ne (t := (.array (.object "java/lang/Object"))) (t' := .int) (Or.inl (hw _ (List.mem_of_getElem? (i := 57) rfl))) (Or.inl (hw _ (List.mem_of_getElem? (i := 66) rfl))) (by decide) (by decide) (by decide)))
  have F_a1_size_3 := F_a1_size_2.same W3
  have E_x1_3 := E_x1_2.wr W3
  have V_ar_3 := V_ar_2.other W3 (Ne.symm hne)
  have SZ3 : n0 ≤ h3.size := by rw [Wr.size W3]; exact SZ2
  have K3 : Keep h0 h3 [a1, ar] := K2.wr W3 (Or.inl (List.mem_of_getElem? (i := 0) rfl))
  have N3 := Fr.snoc X3 N2 g_a1
  refine Gl.go (fun _ k => st3 _ k) ?_
  show Gl _ _ _ _ (T3.setTop (mkF m 22 #[.val (.ref a1), .val (.ref x1), .val (.ref ar), .val (.int (2 : Int32))] []))
  refine leafV X3 hx hlk Bd.returns (hb hby d12_22) ?_ (by decide) (by decide)
  rw [e3]
  exact ⟨rfl, N3, K3, E_a1_3, F_a1_modCount_3, F_a1_elementData_3, F_a1_size_3, V_ar_3⟩
def Q_ad2_2 (Z : State) (a1 : Addr) (mc : Int32) (ar : Addr) (kA : ClassId) (x1 : Addr) (y0 : Addr) (y1 : Addr) (h0 : Heap) (n0 : Nat) (v : Option Value) (h : Heap) (L : List Loc) : Prop := v = some (.int (1 : Int32)) ∧ Fr n0 L ∧ Keep h0 h [a1, ar] ∧ (Exa Z h a1 "java/util/ArrayList") ∧ (Fld Z h a1 "java/util/AbstractList" "modCount" "I" (.int (mc + (1 : Int32)))) ∧ (Fld Z h a1 "java/util/ArrayList" "elementData" "[Ljava/lang/Object;" (.ref ar)) ∧ (Fld Z h a1 "java/util/ArrayList" "size" "I" (.int (3 : Int32))) ∧ (Arv Z h ar kA (.object "java/lang/Object") (10 : Int32) [(.ref y0), (.ref y1), (.ref x1), .null, .null, .null, .null, .null, .null, .null] .null)
set_option maxRecDepth 65536 in
set_option maxHeartbeats 40000000 in
theorem rm_ad2_2 (l : Launch) (Z : State) (a0 : Array Value) (hw : ∀ d ∈ tables_1, d.before a0 Z = true) (ws : List Jvm.Cond) (a1 : Addr) (mc : Int32) (ar : Addr) (kA : ClassId) (x1 : Addr) (y0 : Addr) (y1 : Addr) (h0 : Heap) (n0 : Nat) (Z0 : n0 ≤ h0.size) (E_a1 : (Exa Z h0 a1 "java/util/ArrayList")) (M_a1 : (Fld Z h0 a1 "java/util/AbstractList" "modCount" "I" (.int mc))) (D_a1 : (Fld Z h0 a1 "java/util/ArrayList" "elementData" "[Ljava/lang/Object;" (.ref ar))) (S_a1 : (Fld Z h0 a1 "java/util/ArrayList" "size" "I" (.int (2 : Int32)))) (g_a1 : n0 ≤ a1) (V1 : (Arv Z h0 ar kA (.object "java/lang/Object") (10 : Int32) [(.ref y0), (.ref y1), .null, .null, .null, .null, .null, .null, .null, .null] .null)) (O1 : (Ovr Z kA "java/lang/Object")) (g_ar : n0 ≤ ar) (hne : a1 ≠ ar) (X_x1 : (Exa Z h0 x1 "java/lang/String")) :
    MetFree l (⟨"java/util/ArrayList", "add", "(Ljava/lang/Object;)Z"⟩ : MethodName) (head1 (Jvm.Cond.code (⟨"java/util/ArrayList", "add", "(Ljava/lang/Object;)Z"⟩ : MethodName) jdk_38_method_25_code 2 (some .boolean) :: ws) ({ frames := 1, cells := 0, slots := 0, locals := 15 } : Room)) (fun aa U => aa = #[(.ref a1), (.ref x1)] ∧ Z.Warmed39 U.vm ∧ U.heap = h0) (fun _ _ _ _ _ => True) (fun _ U o U' => ∃ v L, o = .returned v ∧ Q_ad2_2 Z a1 mc ar kA x1 y0 y1 h0 n0 v U'.heap L ∧ FrameEnd U o U' L ({ frames := 1, cells := 0, slots := 0, locals := 15 } : Room).cells ({ frames := 1, cells := 0, slots := 0, locals := 15 } : Room).slots) := by
  refine MetFree.of_bodySF (plainFor_of_name pn_4) hisR ?_
  intro p e s m args below meth c s₁ Bd hml0 hP hK
  obtain ⟨rfl, hZ, hh⟩ := hP
  have hx := Bd.exec
  have hby := Bd.bytes
  have hml : c.maxLocals = 2 := hml0
  have hown : s.vm.findClass "java/util/ArrayList" = some m.cls := findClass_of_methodNamed Bd.named
  have hnm := (name_of_methodNamed Bd.named Bd.method).1
  have hlk : meth.locks = false := BodyLoose.notSynchronized Bd
  have X0 : Stand p l e ({ frames := 1, cells := 0, slots := 0, locals := 15 } : Room) s m #[(.ref a1), (.ref x1)] below meth c s₁ [] 0 0 := Stand.of_body Bd
  have e0 : s₁.heap = h0 := by rw [← hh, Bd.state]; rfl
  have N0 := Fr.nil n0
  have K0 : Keep h0 h0 [a1, ar] := Keep.refl _ _
  show Gl p.tables e below (QQof s (Q_ad2_2 Z a1 mc ar kA x1 y0 y1 h0 n0) 0 0) (s₁.setTop (entryFrame m #[(.ref a1), (.ref x1)] 2))
  refine Gl.go (fun t k => castTop (ef_ad2_2 m a1 x1) k) ?_
  show Gl _ _ _ _ (s₁.setTop (mkF m 0 #[.val (.ref a1), .val (.ref x1)] []))
  refine Gl.go (fun _ k => XS.aloadN X0.here hx rfl (hb hby d11_0) rfl rfl  k) ?_
  refine Gl.go (fun _ k => XS.dup X0.here hx rfl (hb hby d11_1) rfl rfl k) ?_
  obtain ⟨T1, X1, e1, st1⟩ := getF X0 hx hZ hown (host := "") (Or.inl (hw _ (List.mem_of_getElem? (i := 63) rfl))) (Via.of (hw _ (List.mem_of_getElem? (i := 64) rfl))) e0 M_a1 (g := (mkF m 2 #[.val (.ref a1), .val (.ref x1)] [(.ref a1), (.ref a1)])) rfl rfl (hb hby d11_2)
  refine Gl.go (fun _ k => st1 _ k) ?_
  show Gl _ _ _ _ (T1.setTop (mkF m 5 #[.val (.ref a1), .val (.ref x1)] [(.int mc), (.ref a1)]))
  refine Gl.go (fun _ k => XS.iconst X1.here hx rfl (hb hby d11_5) k) ?_
  refine Gl.go (fun _ k => XS.iadd X1.here hx rfl (hb hby d11_6) rfl k) ?_
  obtain ⟨T2, h2, X2, e2, W2, st2⟩ := putF X1 hx hZ hown (host := "") (Or.inl (hw _ (List.mem_of_getElem? (i := 63) rfl))) (Via.of (hw _ (List.mem_of_getElem? (i := 64) rfl))) e1 M_a1 E_a1 (Or.inl (hw _ (List.mem_of_getElem? (i := 54) rfl))) (hw _ (List.mem_of_getElem? (i := 35) rfl)) (ty := .int) (by decide) rfl rfl (g := (mkF m 7 #[.val (.ref a1), .val (.ref x1)] [(.int (mc + (1 : Int32))), (.ref a1)])) rfl rfl (hb hby d11_7)
  have E_a1_2 := E_a1.wr W2
  have F_a1_modCount_2 := M_a1.same W2
  have F_a1_elementData_2 := D_a1.other W2 (Or.inr (slot_ne (t := (.array (.object "java/lang/Object"))) (t' := .int) (Or.inl (hw _ (List.mem_of_getElem? (i := 57) rfl))) (Or.inl (hw _ (List.mem_of_getElem? (i := 54) rfl))) (by decide) (by decide) (by decide)))
  have F_a1_size_2 := S_a1.other W2 (Or.inr (slot_ne (t := .int) (t' := .int) (Or.inl (hw _ (List.mem_of_getElem? (i := 66) rfl))) (Or.inl (hw _ (List.mem_of_getElem? (i := 54) rfl))) (by decide) (by decide) (by decide)))
  have V_ar_2 := V1.other W2 (Ne.symm hne)
  have E_x1_2 := X_x1.wr W2
  have SZ2 : n0 ≤ h2.size := by rw [Wr.size W2]; exact Z0
  have K2 : Keep h0 h2 [a1, ar] := K0.wr W2 (Or.inl (List.mem_of_getElem? (i := 0) rfl))
  have N2 := Fr.snoc X2 N0 g_a1
  refine Gl.go (fun _ k => st2 _ k) ?_
  show Gl _ _ _ _ (T2.setTop (mkF m 10 #[.val (.ref a1), .val (.ref x1)] []))
  refine Gl.go (fun _ k => XS.aloadN X2.here hx rfl (hb hby d11_10) rfl rfl  k) ?_
  refine Gl.go (fun _ k => XS.aloadN X2.here hx rfl (hb hby d11_11) rfl rfl  k) ?_
  refine Gl.go (fun _ k => XS.aloadN X2.here hx rfl (hb hby d11_12) rfl rfl  k) ?_
  obtain ⟨T3, X3, e3, st3⟩ := getF X2 hx hZ hown (host := "") (Or.inl (hw _ (List.mem_of_getElem? (i := 56) rfl))) Via.refl e2 F_a1_elementData_2 (g := (mkF m 13 #[.val (.ref a1), .val (.ref x1)] [(.ref a1), (.ref x1), (.ref a1)])) rfl rfl (hb hby d11_13)
  refine Gl.go (fun _ k => st3 _ k) ?_
  show Gl _ _ _ _ (T3.setTop (mkF m 16 #[.val (.ref a1), .val (.ref x1)] [(.ref ar), (.ref x1), (.ref a1)]))
  refine Gl.go (fun _ k => XS.aloadN X3.here hx rfl (hb hby d11_16) rfl rfl  k) ?_
  obtain ⟨T4, X4, e4, st4⟩ := getF X3 hx hZ hown (host := "") (Or.inl (hw _ (List.mem_of_getElem? (i := 65) rfl))) Via.refl e3 F_a1_size_2 (g := (mkF m 17 #[.val (.ref a1), .val (.ref x1)] [(.ref a1), (.ref ar), (.ref x1), (.ref a1)])) rfl rfl (hb hby d11_17)
  refine Gl.go (fun _ k => st4 _ k) ?_
  show Gl _ _ _ _ (T4.setTop (mkF m 20 #[.val (.ref a1), .val (.ref x1)] [(.int (2 : Int32)), (.ref ar), (.ref x1), (.ref a1)]))
  obtain ⟨cq5, kq5, q5a, q5b, q5c⟩ := isOf hZ e4 E_a1_2
  obtain ⟨_, _, ⟨T5, L5, k5, n5⟩, -, X5, ⟨Lc5, hQ5, l5, y5, z5⟩, st5⟩ := X4.virtualBack hx (y := (⟨"java/util/ArrayList", "add", "(Ljava/lang/Object;[Ljava/lang/Object;I)V"⟩ : MethodName)) (z := (⟨"java/util/ArrayList", "add", "(Ljava/lang/Object;[Ljava/lang/Object;I)V"⟩ : MethodName)) hown (mvT hZ (hw _ (List.mem_of_getElem? (i := 67) rfl))) (mvT hZ (declOf (hw _ (List.mem_of_getElem? (i := 68) rfl)) (hw _ (List.mem_of_getElem? (i := 71) rfl)))) (notFace_of_selects (args := #[]) (mvT hZ (hw _ (List.mem_of_getElem? (i := 70) rfl)))) (mvT hZ (hw _ (List.mem_of_getElem? (i := 70) rfl))) (mvT hZ (hw _ (List.mem_of_getElem? (i := 68) rfl))) (by decide) (backOf (W := 0) (rm_ap2_2 l Z a0 hw [] a1 (mc + (1 : Int32)) ar kA x1 y0 y1 h2 n0 SZ2 E_a1_2 F_a1_modCount_2 F_a1_elementData_2 F_a1_size_2 g_a1 V_ar_2 O1 g_ar hne E_x1_2) hZ (hw _ (List.mem_of_getElem? (i := 71) rfl)) (hw _ (List.mem_of_getElem? (i := 36) rfl)) (by decide) (by decide)) q5a q5c (g := (mkF m 20 #[.val (.ref a1), .val (.ref x1)] [(.int (2 : Int32)), (.ref ar), (.ref x1), (.ref a1)])) rfl (by rw [hml]; rfl) (Steps.refl _) (argsL := [(.ref x1), (.ref ar), (.int (2 : Int32))]) (rest := []) (lenOf pd_4 rfl) rfl (by show 2 * 0 + _ ≤ _; exact Nat.le_of_eq rfl) (hb hby d11_20) (fun _ _ => ⟨rfl, e4, (by decide : 0 + 0 ≤ _), (by decide : 0 + 0 ≤ _)⟩)
  dsimp only [Pt.U, Pt.locs, Pt.cells, Pt.slots] at X5 l5 y5 z5 st5 hQ5
  subst y5 z5
  obtain ⟨rfl, Nq5, Kc5, Ea5, Ma5, Da5, Sa5, Vc5⟩ := hQ5
  have N5 : Fr n0 L5 := by rw [l5]; exact Fr.app N2 Nq5
  refine Gl.go (fun _ k => st5.trans k) ?_
  have E_a1_5 := E_a1_2.keep Kc5
  have E_x1_5 := E_x1_2.keep Kc5
  have SZ5 : n0 ≤ T5.heap.size := Nat.le_trans SZ2 Kc5.1
  have K5 : Keep h0 T5.heap [a1, ar] := K2.trans Kc5 (allS (Or.inl (List.mem_of_getElem? (i := 0) rfl)) (allS (Or.inl (List.mem_of_getElem? (i := 1) rfl)) all0))
  show Gl _ _ _ _ (T5.setTop (mkF m 23 #[.val (.ref a1), .val (.ref x1)] []))
  refine Gl.go (fun _ k => XS.iconst X5.here hx rfl (hb hby d11_23) k) ?_
  refine leafN X5 hx hlk (t := .boolean) Bd.returns (by simp) (hb hby d11_24) ?_ (by decide) (by decide)
  exact ⟨rfl, N5, K5, Ea5, Ma5, Da5, Sa5, Vc5⟩
def Q_rnn (Z : State) (x1 : Addr) (h0 : Heap) (n0 : Nat) (v : Option Value) (h : Heap) (L : List Loc) : Prop := v = some (.ref x1) ∧ Fr n0 L ∧ h = h0
set_option maxRecDepth 65536 in
set_option maxHeartbeats 40000000 in
theorem rm_rnn (l : Launch) (Z : State) (a0 : Array Value) (hw : ∀ d ∈ tables_1, d.before a0 Z = true) (ws : List Jvm.Cond) (x1 : Addr) (h0 : Heap) (n0 : Nat) (Z0 : n0 ≤ h0.size)  :
    MetFree l (⟨"java/util/Objects", "requireNonNull", "(Ljava/lang/Object;)Ljava/lang/Object;"⟩ : MethodName) (head1 (Jvm.Cond.code (⟨"java/util/Objects", "requireNonNull", "(Ljava/lang/Object;)Ljava/lang/Object;"⟩ : MethodName) jdk_31_method_10_code 1 (some (.object "java/lang/Object")) :: ws) ({ frames := 0, cells := 0, slots := 0, locals := 0 } : Room)) (fun aa U => aa = #[(.ref x1)] ∧ Z.Warmed39 U.vm ∧ U.heap = h0) (fun _ _ _ _ _ => True) (fun _ U o U' => ∃ v L, o = .returned v ∧ Q_rnn Z x1 h0 n0 v U'.heap L ∧ FrameEnd U o U' L ({ frames := 0, cells := 0, slots := 0, locals := 0 } : Room).cells ({ frames := 0, cells := 0, slots := 0, locals := 0 } : Room).slots) := by
  refine MetFree.of_bodySF (plainFor_of_name pn_5) hisR ?_
  intro p e s m args below meth c s₁ Bd hml0 hP hK
  obtain ⟨rfl, hZ, hh⟩ := hP
  have hx := Bd.exec
  have hby := Bd.bytes
  have hml : c.maxLocals = 1 := hml0
  have hown : s.vm.findClass "java/util/Objects" = some m.cls := findClass_of_methodNamed Bd.named
  have hnm := (name_of_methodNamed Bd.named Bd.method).1
  have hlk : meth.locks = false := BodyLoose.notSynchronized Bd
  have X0 : Stand p l e ({ frames := 0, cells := 0, slots := 0, locals := 0 } : Room) s m #[(.ref x1)] below meth c s₁ [] 0 0 := Stand.of_body Bd
  have e0 : s₁.heap = h0 := by rw [← hh, Bd.state]; rfl
  have N0 := Fr.nil n0
  have K0 : Keep h0 h0 [] := Keep.refl _ _
  show Gl p.tables e below (QQof s (Q_rnn Z x1 h0 n0) 0 0) (s₁.setTop (entryFrame m #[(.ref x1)] 1))
  refine Gl.go (fun t k => castTop (ef_rnn m x1) k) ?_
  show Gl _ _ _ _ (s₁.setTop (mkF m 0 #[.val (.ref x1)] []))
  refine Gl.go (fun _ k => XS.aloadN X0.here hx rfl (hb hby d28_0) rfl rfl  k) ?_
  refine Gl.go (fun _ k => XS.ifnonnullYes X0.here hx rfl (pc0 := 1) (pc' := 12) rfl (hb hby d28_1) rfl (by decide) (by decide) k) ?_
  show Gl _ _ _ _ (s₁.setTop (mkF m 12 #[.val (.ref x1)] []))
  refine Gl.go (fun _ k => XS.aloadN X0.here hx rfl (hb hby d28_12) rfl rfl  k) ?_
  refine leafA X0 hx hlk Bd.returns rfl rfl (hb hby d28_13) ?_ (by decide) (by decide)
  exact ⟨rfl, N0, e0⟩
def Q_i12_1 (Z : State) (a1 eM : Addr) (y0 : Addr) (h0 : Heap) (n0 : Nat) (v : Option Value) (h : Heap) (L : List Loc) : Prop := v = none ∧ Fr n0 L ∧ Keep h0 h [a1] ∧ (Exa Z h a1 "java/util/ImmutableCollections$List12") ∧ (Fld Z h a1 "java/util/ImmutableCollections$List12" "e0" "Ljava/lang/Object;" (.ref y0)) ∧ (Fld Z h a1 "java/util/ImmutableCollections$List12" "e1" "Ljava/lang/Object;" (.ref eM))
set_option maxRecDepth 65536 in
set_option maxHeartbeats 40000000 in
theorem rm_i12_1 (l : Launch) (Z : State) (a0 : Array Value) (hw : ∀ d ∈ tables_1, d.before a0 Z = true) (ws : List Jvm.Cond) (a1 eM : Addr) (y0 : Addr) (h0 : Heap) (n0 : Nat) (Z0 : n0 ≤ h0.size) (E_a1 : (Exa Z h0 a1 "java/util/ImmutableCollections$List12")) (F0 : (Fld Z h0 a1 "java/util/ImmutableCollections$List12" "e0" "Ljava/lang/Object;" .null)) (F1 : (Fld Z h0 a1 "java/util/ImmutableCollections$List12" "e1" "Ljava/lang/Object;" .null)) (g_a1 : n0 ≤ a1) (SE : Sta Z Z.heap "java/util/ImmutableCollections" "EMPTY" "Ljava/lang/Object;" (.ref eM)) (O0 : Old Z n0 h0) :
    MetFree l (⟨"java/util/ImmutableCollections$List12", "<init>", "(Ljava/lang/Object;)V"⟩ : MethodName) (head1 (Jvm.Cond.code (⟨"java/util/ImmutableCollections$List12", "<init>", "(Ljava/lang/Object;)V"⟩ : MethodName) jdk_44_method_1_code 2 none :: ws) ({ frames := 4, cells := 0, slots := 0, locals := 48 } : Room)) (fun aa U => aa = #[(.ref a1), (.ref y0)] ∧ Z.Warmed39 U.vm ∧ U.heap = h0) (fun _ _ _ _ _ => True) (fun _ U o U' => ∃ v L, o = .returned v ∧ Q_i12_1 Z a1 eM y0 h0 n0 v U'.heap L ∧ FrameEnd U o U' L ({ frames := 4, cells := 0, slots := 0, locals := 48 } : Room).cells ({ frames := 4, cells := 0, slots := 0, locals := 48 } : Room).slots) := by
  refine MetFree.of_bodySF (plainFor_of_name pn_6) hisR ?_
  intro p e s m args below meth c s₁ Bd hml0 hP hK
  obtain ⟨rfl, hZ, hh⟩ := hP
  have hx := Bd.exec
  have hby := Bd.bytes
  have hml : c.maxLocals = 2 := hml0
  have hown : s.vm.findClass "java/util/ImmutableCollections$List12" = some m.cls := findClass_of_methodNamed Bd.named
  have hnm := (name_of_methodNamed Bd.named Bd.method).1
  have hlk : meth.locks = false := BodyLoose.notSynchronized Bd
  have X0 : Stand p l e ({ frames := 4, cells := 0, slots := 0, locals := 48 } : Room) s m #[(.ref a1), (.ref y0)] below meth c s₁ [] 0 0 := Stand.of_body Bd
  have e0 : s₁.heap = h0 := by rw [← hh, Bd.state]; rfl
  have N0 := Fr.nil n0
  have K0 : Keep h0 h0 [a1] := Keep.refl _ _
  show Gl p.tables e below (QQof s (Q_i12_1 Z a1 eM y0 h0 n0) 0 0) (s₁.setTop (entryFrame m #[(.ref a1), (.ref y0)] 2))
  refine Gl.go (fun t k => castTop (ef_i12_1 m a1 y0) k) ?_
  show Gl _ _ _ _ (s₁.setTop (mkF m 0 #[.val (.ref a1), .val (.ref y0)] []))
  refine Gl.go (fun _ k => XS.aloadN X0.here hx rfl (hb hby d36_0) rfl rfl  k) ?_
  obtain ⟨_, _, ⟨T1, L1, k1, n1⟩, -, X1, ⟨Lc1, hQ1, l1, y1, z1⟩, st1⟩ := X0.specialBack hx (y := (⟨"java/util/ImmutableCollections$AbstractImmutableList", "<init>", "()V"⟩ : MethodName)) rfl hown (mvT hZ (hw _ (List.mem_of_getElem? (i := 165) rfl))) (mvT hZ (hw _ (List.mem_of_getElem? (i := 166) rfl))) (mvT hZ (hw _ (List.mem_of_getElem? (i := 170) rfl))) (by decide) (backOf (W := 0) (rm_ail l Z a0 hw [] a1 h0 n0 Z0 ) hZ (hw _ (List.mem_of_getElem? (i := 170) rfl)) (hw _ (List.mem_of_getElem? (i := 169) rfl)) (by decide) (by decide)) (g := (mkF m 1 #[.val (.ref a1), .val (.ref y0)] [(.ref a1)])) rfl (by rw [hml]; rfl) (Steps.refl _) (a := a1) (argsL := []) (rest := []) (lenOf pd_0 rfl) rfl (by show 2 * 0 + _ ≤ _; exact Nat.le_of_eq rfl) (hb hby d36_1) (fun _ _ => ⟨rfl, e0, (by decide : 0 + 0 ≤ _), (by decide : 0 + 0 ≤ _)⟩)
  dsimp only [Pt.U, Pt.locs, Pt.cells, Pt.slots] at X1 l1 y1 z1 st1 hQ1
  subst y1 z1
  obtain ⟨rfl, Nq1, e1⟩ := hQ1
  have N1 : Fr n0 L1 := by rw [l1]; exact Fr.app N0 Nq1
  refine Gl.go (fun _ k => st1.trans k) ?_
  show Gl _ _ _ _ (T1.setTop (mkF m 4 #[.val (.ref a1), .val (.ref y0)] []))
  refine Gl.go (fun _ k => XS.aloadN X1.here hx rfl (hb hby d36_4) rfl rfl  k) ?_
  refine Gl.go (fun _ k => XS.aloadN X1.here hx rfl (hb hby d36_5) rfl rfl  k) ?_
  obtain ⟨_, _, ⟨T2, L2, k2, n2⟩, -, X2, ⟨Lc2, hQ2, l2, y2, z2⟩, st2⟩ := Jvm.LawKit.callS X1 hx (y := (⟨"java/util/Objects", "requireNonNull", "(Ljava/lang/Object;)Ljava/lang/Object;"⟩ : MethodName)) hown (mvT hZ (hw _ (List.mem_of_getElem? (i := 179) rfl))) (mvT hZ (hw _ (List.mem_of_getElem? (i := 180) rfl))) (mvT hZ (hw _ (List.mem_of_getElem? (i := 181) rfl))) (mvT hZ (hw _ (List.mem_of_getElem? (i := 182) rfl))) (by decide) (backOf (W := 1) (rm_rnn l Z a0 hw [] y0 h0 n0 Z0 ) hZ (hw _ (List.mem_of_getElem? (i := 182) rfl)) (hw _ (List.mem_of_getElem? (i := 181) rfl)) (by decide) (by decide)) (g := (mkF m 6 #[.val (.ref a1), .val (.ref y0)] [(.ref y0), (.ref a1)])) rfl (by rw [hml]; rfl) (argsL := [(.ref y0)]) (rest := [(.ref a1)]) (lenOf pd_5 rfl) rfl (by show 2 * 0 + _ ≤ _; exact Nat.le_of_eq rfl) (hb hby d36_6) (fun _ _ => ⟨rfl, e1, (by decide : 0 + 0 ≤ _), (by decide : 0 + 0 ≤ _)⟩)
  dsimp only [Pt.U, Pt.locs, Pt.cells, Pt.slots] at X2 l2 y2 z2 st2 hQ2
  subst y2 z2
  obtain ⟨rfl, Nq2, e2⟩ := hQ2
  have N2 : Fr n0 L2 := by rw [l2]; exact Fr.app N1 Nq2
  refine Gl.go (fun _ k => st2 _ k) ?_
  show Gl _ _ _ _ (T2.setTop (mkF m 9 #[.val (.ref a1), .val (.ref y0)] [(.ref y0), (.ref a1)]))
  obtain ⟨T3, h3, X3, e3, W3, st3⟩ := putF X2 hx hZ hown (host := "") (Or.inl (hw _ (List.mem_of_getElem? (i := 183) rfl))) Via.refl e2 F0 E_a1 (Or.inr ⟨(hw _ (List.mem_of_getElem? (i := 184) rfl)), rfl, hnm⟩) (hw _ (List.mem_of_getElem? (i := 159) rfl)) (ty := (.object "java/lang/Object")) (by decide) rfl rfl (g := (mkF m 9 #[.val (.ref a1), .val (.ref y0)] [(.ref y0), (.ref a1)])) rfl rfl (hb hby d36_9)
  have E_a1_3 := E_a1.wr W3
  have F_a1_e0_3 := F0.same W3
  have F_a1_e1_3 := F1.other W3 (Or.inr (slot_ne (t := (.object "java/lang/Object")) (t' := (.object "java/lang/Object")) (Or.inr (hw _ (List.mem_of_getElem? (i := 186) rfl))) (Or.inr (hw _ (List.mem_of_getElem? (i := 184) rfl))) (by decide) (by decide) (by decide)))
  have O__3 := O0.wr W3 g_a1
  have SZ3 : n0 ≤ h3.size := by rw [Wr.size W3]; exact Z0
  have K3 : Keep h0 h3 [a1] := K0.wr W3 (Or.inl (List.mem_of_getElem? (i := 0) rfl))
  have N3 := Fr.snoc X3 N2 g_a1
  refine Gl.go (fun _ k => st3 _ k) ?_
  show Gl _ _ _ _ (T3.setTop (mkF m 12 #[.val (.ref a1), .val (.ref y0)] []))
  refine Gl.go (fun _ k => XS.aloadN X3.here hx rfl (hb hby d36_12) rfl rfl  k) ?_
  obtain ⟨T4, X4, e4, st4⟩ := getS2 X3 hx hZ hown (Or.inr (hw _ (List.mem_of_getElem? (i := 254) rfl))) Via.refl e3 (SE.ext O__3.2) (g := (mkF m 13 #[.val (.ref a1), .val (.ref y0)] [(.ref a1)])) rfl (hb hby d36_13)
  refine Gl.go (fun _ k => st4 _ k) ?_
  show Gl _ _ _ _ (T4.setTop (mkF m 16 #[.val (.ref a1), .val (.ref y0)] [(.ref eM), (.ref a1)]))
  obtain ⟨T5, h5, X5, e5, W5, st5⟩ := putF X4 hx hZ hown (host := "") (Or.inl (hw _ (List.mem_of_getElem? (i := 185) rfl))) Via.refl e4 F_a1_e1_3 E_a1_3 (Or.inr ⟨(hw _ (List.mem_of_getElem? (i := 186) rfl)), rfl, hnm⟩) (hw _ (List.mem_of_getElem? (i := 159) rfl)) (ty := (.object "java/lang/Object")) (by decide) rfl rfl (g := (mkF m 16 #[.val (.ref a1), .val (.ref y0)] [(.ref eM), (.ref a1)])) rfl rfl (hb hby d36_16)
  have E_a1_5 := E_a1_3.wr W5
  have F_a1_e0_5 := F_a1_e0_3.other W5 (Or.inr (slot_ne (t := (.object "java/lang/Object")) (t' := (.object "java/lang/Object")) (Or.inr (hw _ (List.mem_of_getElem? (i := 184) rfl))) (Or.inr (hw _ (List.mem_of_getElem? (i := 186) rfl))) (by decide) (by decide) (by decide)))
  have F_a1_e1_5 := F_a1_e1_3.same W5
  have O__5 := O__3.wr W5 g_a1
  have SZ5 : n0 ≤ h5.size := by rw [Wr.size W5]; exact SZ3
  have K5 : Keep h0 h5 [a1] := K3.wr W5 (Or.inl (List.mem_of_getElem? (i := 0) rfl))
  have N5 := Fr.snoc X5 N3 g_a1
  refine Gl.go (fun _ k => st5 _ k) ?_
  show Gl _ _ _ _ (T5.setTop (mkF m 19 #[.val (.ref a1), .val (.ref y0)] []))
  refine leafV X5 hx hlk Bd.returns (hb hby d36_19) ?_ (by decide) (by decide)
  rw [e5]
  exact ⟨rfl, N5, K5, E_a1_5, F_a1_e0_5, F_a1_e1_5⟩
def Q_i12_2 (Z : State) (a1 eM : Addr) (y0 : Addr) (y1 : Addr) (h0 : Heap) (n0 : Nat) (v : Option Value) (h : Heap) (L : List Loc) : Prop := v = none ∧ Fr n0 L ∧ Keep h0 h [a1] ∧ (Exa Z h a1 "java/util/ImmutableCollections$List12") ∧ (Fld Z h a1 "java/util/ImmutableCollections$List12" "e0" "Ljava/lang/Object;" (.ref y0)) ∧ (Fld Z h a1 "java/util/ImmutableCollections$List12" "e1" "Ljava/lang/Object;" (.ref y1))
set_option maxRecDepth 65536 in
set_option maxHeartbeats 40000000 in
theorem rm_i12_2 (l : Launch) (Z : State) (a0 : Array Value) (hw : ∀ d ∈ tables_1, d.before a0 Z = true) (ws : List Jvm.Cond) (a1 eM : Addr) (y0 : Addr) (y1 : Addr) (h0 : Heap) (n0 : Nat) (Z0 : n0 ≤ h0.size) (E_a1 : (Exa Z h0 a1 "java/util/ImmutableCollections$List12")) (F0 : (Fld Z h0 a1 "java/util/ImmutableCollections$List12" "e0" "Ljava/lang/Object;" .null)) (F1 : (Fld Z h0 a1 "java/util/ImmutableCollections$List12" "e1" "Ljava/lang/Object;" .null)) (g_a1 : n0 ≤ a1) (SE : Sta Z Z.heap "java/util/ImmutableCollections" "EMPTY" "Ljava/lang/Object;" (.ref eM)) (O0 : Old Z n0 h0) :
    MetFree l (⟨"java/util/ImmutableCollections$List12", "<init>", "(Ljava/lang/Object;Ljava/lang/Object;)V"⟩ : MethodName) (head1 (Jvm.Cond.code (⟨"java/util/ImmutableCollections$List12", "<init>", "(Ljava/lang/Object;Ljava/lang/Object;)V"⟩ : MethodName) jdk_44_method_2_code 3 none :: ws) ({ frames := 4, cells := 0, slots := 0, locals := 48 } : Room)) (fun aa U => aa = #[(.ref a1), (.ref y0), (.ref y1)] ∧ Z.Warmed39 U.vm ∧ U.heap = h0) (fun _ _ _ _ _ => True) (fun _ U o U' => ∃ v L, o = .returned v ∧ Q_i12_2 Z a1 eM y0 y1 h0 n0 v U'.heap L ∧ FrameEnd U o U' L ({ frames := 4, cells := 0, slots := 0, locals := 48 } : Room).cells ({ frames := 4, cells := 0, slots := 0, locals := 48 } : Room).slots) := by
  refine MetFree.of_bodySF (plainFor_of_name pn_6) hisR ?_
  intro p e s m args below meth c s₁ Bd hml0 hP hK
  obtain ⟨rfl, hZ, hh⟩ := hP
  have hx := Bd.exec
  have hby := Bd.bytes
  have hml : c.maxLocals = 3 := hml0
  have hown : s.vm.findClass "java/util/ImmutableCollections$List12" = some m.cls := findClass_of_methodNamed Bd.named
  have hnm := (name_of_methodNamed Bd.named Bd.method).1
  have hlk : meth.locks = false := BodyLoose.notSynchronized Bd
  have X0 : Stand p l e ({ frames := 4, cells := 0, slots := 0, locals := 48 } : Room) s m #[(.ref a1), (.ref y0), (.ref y1)] below meth c s₁ [] 0 0 := Stand.of_body Bd
  have e0 : s₁.heap = h0 := by rw [← hh, Bd.state]; rfl
  have N0 := Fr.nil n0
  have K0 : Keep h0 h0 [a1] := Keep.refl _ _
  show Gl p.tables e below (QQof s (Q_i12_2 Z a1 eM y0 y1 h0 n0) 0 0) (s₁.setTop (entryFrame m #[(.ref a1), (.ref y0), (.ref y1)] 3))
  refine Gl.go (fun t k => castTop (ef_i12_2 m a1 y0 y1) k) ?_
  show Gl _ _ _ _ (s₁.setTop (mkF m 0 #[.val (.ref a1), .val (.ref y0), .val (.ref y1)] []))
  refine Gl.go (fun _ k => XS.aloadN X0.here hx rfl (hb hby d25_0) rfl rfl  k) ?_
  obtain ⟨_, _, ⟨T1, L1, k1, n1⟩, -, X1, ⟨Lc1, hQ1, l1, y1, z1⟩, st1⟩ := X0.specialBack hx (y := (⟨"java/util/ImmutableCollections$AbstractImmutableList", "<init>", "()V"⟩ : MethodName)) rfl hown (mvT hZ (hw _ (List.mem_of_getElem? (i := 165) rfl))) (mvT hZ (hw _ (List.mem_of_getElem? (i := 166) rfl))) (mvT hZ (hw _ (List.mem_of_getElem? (i := 170) rfl))) (by decide) (backOf (W := 0) (rm_ail l Z a0 hw [] a1 h0 n0 Z0 ) hZ (hw _ (List.mem_of_getElem? (i := 170) rfl)) (hw _ (List.mem_of_getElem? (i := 169) rfl)) (by decide) (by decide)) (g := (mkF m 1 #[.val (.ref a1), .val (.ref y0), .val (.ref y1)] [(.ref a1)])) rfl (by rw [hml]; rfl) (Steps.refl _) (a := a1) (argsL := []) (rest := []) (lenOf pd_0 rfl) rfl (by show 2 * 0 + _ ≤ _; exact Nat.le_of_eq rfl) (hb hby d25_1) (fun _ _ => ⟨rfl, e0, (by decide : 0 + 0 ≤ _), (by decide : 0 + 0 ≤ _)⟩)
  dsimp only [Pt.U, Pt.locs, Pt.cells, Pt.slots] at X1 l1 y1 z1 st1 hQ1
  subst y1 z1
  obtain ⟨rfl, Nq1, e1⟩ := hQ1
  have N1 : Fr n0 L1 := by rw [l1]; exact Fr.app N0 Nq1
  refine Gl.go (fun _ k => st1.trans k) ?_
  show Gl _ _ _ _ (T1.setTop (mkF m 4 #[.val (.ref a1), .val (.ref y0), .val (.ref y1)] []))
  refine Gl.go (fun _ k => XS.aloadN X1.here hx rfl (hb hby d25_4) rfl rfl  k) ?_
  refine Gl.go (fun _ k => XS.aloadN X1.here hx rfl (hb hby d25_5) rfl rfl  k) ?_
  obtain ⟨_, _, ⟨T2, L2, k2, n2⟩, -, X2, ⟨Lc2, hQ2, l2, y2, z2⟩, st2⟩ := Jvm.LawKit.callS X1 hx (y := (⟨"java/util/Objects", "requireNonNull", "(Ljava/lang/Object;)Ljava/lang/Object;"⟩ : MethodName)) hown (mvT hZ (hw _ (List.mem_of_getElem? (i := 179) rfl))) (mvT hZ (hw _ (List.mem_of_getElem? (i := 180) rfl))) (mvT hZ (hw _ (List.mem_of_getElem? (i := 181) rfl))) (mvT hZ (hw _ (List.mem_of_getElem? (i := 182) rfl))) (by decide) (backOf (W := 1) (rm_rnn l Z a0 hw [] y0 h0 n0 Z0 ) hZ (hw _ (List.mem_of_getElem? (i := 182) rfl)) (hw _ (List.mem_of_getElem? (i := 181) rfl)) (by decide) (by decide)) (g := (mkF m 6 #[.val (.ref a1), .val (.ref y0), .val (.ref y1)] [(.ref y0), (.ref a1)])) rfl (by rw [hml]; rfl) (argsL := [(.ref y0)]) (rest := [(.ref a1)]) (lenOf pd_5 rfl) rfl (by show 2 * 0 + _ ≤ _; exact Nat.le_of_eq rfl) (hb hby d25_6) (fun _ _ => ⟨rfl, e1, (by decide : 0 + 0 ≤ _), (by decide : 0 + 0 ≤ _)⟩)
  dsimp only [Pt.U, Pt.locs, Pt.cells, Pt.slots] at X2 l2 y2 z2 st2 hQ2
  subst y2 z2
  obtain ⟨rfl, Nq2, e2⟩ := hQ2
  have N2 : Fr n0 L2 := by rw [l2]; exact Fr.app N1 Nq2
  refine Gl.go (fun _ k => st2 _ k) ?_
  show Gl _ _ _ _ (T2.setTop (mkF m 9 #[.val (.ref a1), .val (.ref y0), .val (.ref y1)] [(.ref y0), (.ref a1)]))
  obtain ⟨T3, h3, X3, e3, W3, st3⟩ := putF X2 hx hZ hown (host := "") (Or.inl (hw _ (List.mem_of_getElem? (i := 183) rfl))) Via.refl e2 F0 E_a1 (Or.inr ⟨(hw _ (List.mem_of_getElem? (i := 184) rfl)), rfl, hnm⟩) (hw _ (List.mem_of_getElem? (i := 159) rfl)) (ty := (.object "java/lang/Object")) (by decide) rfl rfl (g := (mkF m 9 #[.val (.ref a1), .val (.ref y0), .val (.ref y1)] [(.ref y0), (.ref a1)])) rfl rfl (hb hby d25_9)
  have E_a1_3 := E_a1.wr W3
  have F_a1_e0_3 := F0.same W3
  have F_a1_e1_3 := F1.other W3 (Or.inr (slot_ne (t := (.object "java/lang/Object")) (t' := (.object "java/lang/Object")) (Or.inr (hw _ (List.mem_of_getElem? (i := 186) rfl))) (Or.inr (hw _ (List.mem_of_getElem? (i := 184) rfl))) (by decide) (by decide) (by decide)))
  have O__3 := O0.wr W3 g_a1
  have SZ3 : n0 ≤ h3.size := by rw [Wr.size W3]; exact Z0
  have K3 : Keep h0 h3 [a1] := K0.wr W3 (Or.inl (List.mem_of_getElem? (i := 0) rfl))
  have N3 := Fr.snoc X3 N2 g_a1
  refine Gl.go (fun _ k => st3 _ k) ?_
  show Gl _ _ _ _ (T3.setTop (mkF m 12 #[.val (.ref a1), .val (.ref y0), .val (.ref y1)] []))
  refine Gl.go (fun _ k => XS.aloadN X3.here hx rfl (hb hby d25_12) rfl rfl  k) ?_
  refine Gl.go (fun _ k => XS.aloadN X3.here hx rfl (hb hby d25_13) rfl rfl  k) ?_
  obtain ⟨_, _, ⟨T4, L4, k4, n4⟩, -, X4, ⟨Lc4, hQ4, l4, y4, z4⟩, st4⟩ := Jvm.LawKit.callS X3 hx (y := (⟨"java/util/Objects", "requireNonNull", "(Ljava/lang/Object;)Ljava/lang/Object;"⟩ : MethodName)) hown (mvT hZ (hw _ (List.mem_of_getElem? (i := 179) rfl))) (mvT hZ (hw _ (List.mem_of_getElem? (i := 180) rfl))) (mvT hZ (hw _ (List.mem_of_getElem? (i := 181) rfl))) (mvT hZ (hw _ (List.mem_of_getElem? (i := 182) rfl))) (by decide) (backOf (W := 1) (rm_rnn l Z a0 hw [] y1 h3 n0 SZ3 ) hZ (hw _ (List.mem_of_getElem? (i := 182) rfl)) (hw _ (List.mem_of_getElem? (i := 181) rfl)) (by decide) (by decide)) (g := (mkF m 14 #[.val (.ref a1), .val (.ref y0), .val (.ref y1)] [(.ref y1), (.ref a1)])) rfl (by rw [hml]; rfl) (argsL := [(.ref y1)]) (rest := [(.ref a1)]) (lenOf pd_5 rfl) rfl (by show 2 * 0 + _ ≤ _; exact Nat.le_of_eq rfl) (hb hby d25_14) (fun _ _ => ⟨rfl, e3, (by decide : 0 + 0 ≤ _), (by decide : 0 + 0 ≤ _)⟩)
  dsimp only [Pt.U, Pt.locs, Pt.cells, Pt.slots] at X4 l4 y4 z4 st4 hQ4
  subst y4 z4
  obtain ⟨rfl, Nq4, e4⟩ := hQ4
  have N4 : Fr n0 L4 := by rw [l4]; exact Fr.app N3 Nq4
  refine Gl.go (fun _ k => st4 _ k) ?_
  show Gl _ _ _ _ (T4.setTop (mkF m 17 #[.val (.ref a1), .val (.ref y0), .val (.ref y1)] [(.ref y1), (.ref a1)]))
  obtain ⟨T5, h5, X5, e5, W5, st5⟩ := putF X4 hx hZ hown (host := "") (Or.inl (hw _ (List.mem_of_getElem? (i := 185) rfl))) Via.refl e4 F_a1_e1_3 E_a1_3 (Or.inr ⟨(hw _ (List.mem_of_getElem? (i := 186) rfl)), rfl, hnm⟩) (hw _ (List.mem_of_getElem? (i := 159) rfl)) (ty := (.object "java/lang/Object")) (by decide) rfl rfl (g := (mkF m 17 #[.val (.ref a1), .val (.ref y0), .val (.ref y1)] [(.ref y1), (.ref a1)])) rfl rfl (hb hby d25_17)
  have E_a1_5 := E_a1_3.wr W5
  have F_a1_e0_5 := F_a1_e0_3.other W5 (Or.inr (slot_ne (t := (.object "java/lang/Object")) (t' := (.object "java/lang/Object")) (Or.inr (hw _ (List.mem_of_getElem? (i := 184) rfl))) (Or.inr (hw _ (List.mem_of_getElem? (i := 186) rfl))) (by decide) (by decide) (by decide)))
  have F_a1_e1_5 := F_a1_e1_3.same W5
  have O__5 := O__3.wr W5 g_a1
  have SZ5 : n0 ≤ h5.size := by rw [Wr.size W5]; exact SZ3
  have K5 : Keep h0 h5 [a1] := K3.wr W5 (Or.inl (List.mem_of_getElem? (i := 0) rfl))
  have N5 := Fr.snoc X5 N4 g_a1
  refine Gl.go (fun _ k => st5 _ k) ?_
  show Gl _ _ _ _ (T5.setTop (mkF m 20 #[.val (.ref a1), .val (.ref y0), .val (.ref y1)] []))
  refine leafV X5 hx hlk Bd.returns (hb hby d25_20) ?_ (by decide) (by decide)
  rw [e5]
  exact ⟨rfl, N5, K5, E_a1_5, F_a1_e0_5, F_a1_e1_5⟩
def Q_lni (Z : State) (a1 ar : Addr) (h0 : Heap) (n0 : Nat) (v : Option Value) (h : Heap) (L : List Loc) : Prop := v = none ∧ Fr n0 L ∧ Keep h0 h [a1] ∧ (Exa Z h a1 "java/util/ImmutableCollections$ListN") ∧ (Fld Z h a1 "java/util/ImmutableCollections$ListN" "elements" "[Ljava/lang/Object;" (.ref ar))
set_option maxRecDepth 65536 in
set_option maxHeartbeats 40000000 in
theorem rm_lni (l : Launch) (Z : State) (a0 : Array Value) (hw : ∀ d ∈ tables_1, d.before a0 Z = true) (ws : List Jvm.Cond) (a1 ar : Addr) (h0 : Heap) (n0 : Nat) (Z0 : n0 ≤ h0.size) (E_a1 : (Exa Z h0 a1 "java/util/ImmutableCollections$ListN")) (F0 : (Fld Z h0 a1 "java/util/ImmutableCollections$ListN" "elements" "[Ljava/lang/Object;" .null)) (F1 : (Fld Z h0 a1 "java/util/ImmutableCollections$ListN" "allowNulls" "Z" (.int (0 : Int32)))) (g_a1 : n0 ≤ a1) :
    MetFree l (⟨"java/util/ImmutableCollections$ListN", "<init>", "([Ljava/lang/Object;Z)V"⟩ : MethodName) (head1 (Jvm.Cond.code (⟨"java/util/ImmutableCollections$ListN", "<init>", "([Ljava/lang/Object;Z)V"⟩ : MethodName) jdk_45_method_1_code 3 none :: ws) ({ frames := 4, cells := 0, slots := 0, locals := 48 } : Room)) (fun aa U => aa = #[(.ref a1), (.ref ar), (.int (0 : Int32))] ∧ Z.Warmed39 U.vm ∧ U.heap = h0) (fun _ _ _ _ _ => True) (fun _ U o U' => ∃ v L, o = .returned v ∧ Q_lni Z a1 ar h0 n0 v U'.heap L ∧ FrameEnd U o U' L ({ frames := 4, cells := 0, slots := 0, locals := 48 } : Room).cells ({ frames := 4, cells := 0, slots := 0, locals := 48 } : Room).slots) := by
  refine MetFree.of_bodySF (plainFor_of_name pn_7) hisR ?_
  intro p e s m args below meth c s₁ Bd hml0 hP hK
  obtain ⟨rfl, hZ, hh⟩ := hP
  have hx := Bd.exec
  have hby := Bd.bytes
  have hml : c.maxLocals = 3 := hml0
  have hown : s.vm.findClass "java/util/ImmutableCollections$ListN" = some m.cls := findClass_of_methodNamed Bd.named
  have hnm := (name_of_methodNamed Bd.named Bd.method).1
  have hlk : meth.locks = false := BodyLoose.notSynchronized Bd
  have X0 : Stand p l e ({ frames := 4, cells := 0, slots := 0, locals := 48 } : Room) s m #[(.ref a1), (.ref ar), (.int (0 : Int32))] below meth c s₁ [] 0 0 := Stand.of_body Bd
  have e0 : s₁.heap = h0 := by rw [← hh, Bd.state]; rfl
  have N0 := Fr.nil n0
  have K0 : Keep h0 h0 [a1] := Keep.refl _ _
  show Gl p.tables e below (QQof s (Q_lni Z a1 ar h0 n0) 0 0) (s₁.setTop (entryFrame m #[(.ref a1), (.ref ar), (.int (0 : Int32))] 3))
  refine Gl.go (fun t k => castTop (ef_lni m a1 ar (0 : Int32)) k) ?_
  show Gl _ _ _ _ (s₁.setTop (mkF m 0 #[.val (.ref a1), .val (.ref ar), .val (.int (0 : Int32))] []))
  refine Gl.go (fun _ k => XS.aloadN X0.here hx rfl (hb hby d38_0) rfl rfl  k) ?_
  obtain ⟨_, _, ⟨T1, L1, k1, n1⟩, -, X1, ⟨Lc1, hQ1, l1, y1, z1⟩, st1⟩ := X0.specialBack hx (y := (⟨"java/util/ImmutableCollections$AbstractImmutableList", "<init>", "()V"⟩ : MethodName)) rfl hown (mvT hZ (hw _ (List.mem_of_getElem? (i := 269) rfl))) (mvT hZ (hw _ (List.mem_of_getElem? (i := 166) rfl))) (mvT hZ (hw _ (List.mem_of_getElem? (i := 170) rfl))) (by decide) (backOf (W := 0) (rm_ail l Z a0 hw [] a1 h0 n0 Z0 ) hZ (hw _ (List.mem_of_getElem? (i := 170) rfl)) (hw _ (List.mem_of_getElem? (i := 169) rfl)) (by decide) (by decide)) (g := (mkF m 1 #[.val (.ref a1), .val (.ref ar), .val (.int (0 : Int32))] [(.ref a1)])) rfl (by rw [hml]; rfl) (Steps.refl _) (a := a1) (argsL := []) (rest := []) (lenOf pd_0 rfl) rfl (by show 2 * 0 + _ ≤ _; exact Nat.le_of_eq rfl) (hb hby d38_1) (fun _ _ => ⟨rfl, e0, (by decide : 0 + 0 ≤ _), (by decide : 0 + 0 ≤ _)⟩)
  dsimp only [Pt.U, Pt.locs, Pt.cells, Pt.slots] at X1 l1 y1 z1 st1 hQ1
  subst y1 z1
  obtain ⟨rfl, Nq1, e1⟩ := hQ1
  have N1 : Fr n0 L1 := by rw [l1]; exact Fr.app N0 Nq1
  refine Gl.go (fun _ k => st1.trans k) ?_
  show Gl _ _ _ _ (T1.setTop (mkF m 4 #[.val (.ref a1), .val (.ref ar), .val (.int (0 : Int32))] []))
  refine Gl.go (fun _ k => XS.aloadN X1.here hx rfl (hb hby d38_4) rfl rfl  k) ?_
  refine Gl.go (fun _ k => XS.aloadN X1.here hx rfl (hb hby d38_5) rfl rfl  k) ?_
  obtain ⟨T2, h2, X2, e2, W2, st2⟩ := putF X1 hx hZ hown (host := "") (Or.inl (hw _ (List.mem_of_getElem? (i := 273) rfl))) Via.refl e1 F0 E_a1 (Or.inr ⟨(hw _ (List.mem_of_getElem? (i := 274) rfl)), rfl, hnm⟩) (hw _ (List.mem_of_getElem? (i := 263) rfl)) (ty := (.array (.object "java/lang/Object"))) (by decide) rfl rfl (g := (mkF m 6 #[.val (.ref a1), .val (.ref ar), .val (.int (0 : Int32))] [(.ref ar), (.ref a1)])) rfl rfl (hb hby d38_6)
  have E_a1_2 := E_a1.wr W2
  have F_a1_elements_2 := F0.same W2
  have F_a1_allowNulls_2 := F1.other W2 (Or.inr (slot_ne (t := .boolean) (t' := (.array (.object "java/lang/Object"))) (Or.inr (hw _ (List.mem_of_getElem? (i := 276) rfl))) (Or.inr (hw _ (List.mem_of_getElem? (i := 274) rfl))) (by decide) (by decide) (by decide)))
  have SZ2 : n0 ≤ h2.size := by rw [Wr.size W2]; exact Z0
  have K2 : Keep h0 h2 [a1] := K0.wr W2 (Or.inl (List.mem_of_getElem? (i := 0) rfl))
  have N2 := Fr.snoc X2 N1 g_a1
  refine Gl.go (fun _ k => st2 _ k) ?_
  show Gl _ _ _ _ (T2.setTop (mkF m 9 #[.val (.ref a1), .val (.ref ar), .val (.int (0 : Int32))] []))
  refine Gl.go (fun _ k => XS.aloadN X2.here hx rfl (hb hby d38_9) rfl rfl  k) ?_
  refine Gl.go (fun _ k => XS.iloadN X2.here hx rfl (hb hby d38_10) rfl  k) ?_
  obtain ⟨T3, h3, X3, e3, W3, st3⟩ := putFN X2 hx hZ hown (hw _ (List.mem_of_getElem? (i := 275) rfl)) Via.refl e2 F_a1_allowNulls_2 E_a1_2 (Or.inr ⟨(hw _ (List.mem_of_getElem? (i := 276) rfl)), rfl, hnm⟩) (hw _ (List.mem_of_getElem? (i := 263) rfl)) (ty := .boolean) (v' := (.int (nar .boolean (0 : Int32)))) (by decide) rfl (fits_nar_bool _) (g := (mkF m 11 #[.val (.ref a1), .val (.ref ar), .val (.int (0 : Int32))] [(.int (0 : Int32)), (.ref a1)])) rfl rfl (hb hby d38_11)
  have E_a1_3 := E_a1_2.wr W3
  have F_a1_elements_3 := F_a1_elements_2.other W3 (Or.inr (slot_ne (t := (.array (.object "java/lang/Object"))) (t' := .boolean) (Or.inr (hw _ (List.mem_of_getElem? (i := 274) rfl))) (Or.inr (hw _ (List.mem_of_getElem? (i := 276) rfl))) (by decide) (by decide) (by decide)))
  have F_a1_allowNulls_3 := F_a1_allowNulls_2.same W3
  have SZ3 : n0 ≤ h3.size := by rw [Wr.size W3]; exact SZ2
  have K3 : Keep h0 h3 [a1] := K2.wr W3 (Or.inl (List.mem_of_getElem? (i := 0) rfl))
  have N3 := Fr.snoc X3 N2 g_a1
  refine Gl.go (fun _ k => st3 _ k) ?_
  show Gl _ _ _ _ (T3.setTop (mkF m 14 #[.val (.ref a1), .val (.ref ar), .val (.int (0 : Int32))] []))
  refine leafV X3 hx hlk Bd.returns (hb hby d38_14) ?_ (by decide) (by decide)
  rw [e3]
  exact ⟨rfl, N3, K3, E_a1_3, F_a1_elements_3⟩
def Q_lfa (Z : State) (ar : Addr) (kA : ClassId) (y0 : Addr) (y1 : Addr) (y2 : Addr) (h0 : Heap) (n0 : Nat) (v : Option Value) (h : Heap) (L : List Loc) : Prop := ∃ o, v = some (.ref o) ∧ Fr n0 L ∧ Keep h0 h [] ∧ h0.size ≤ o ∧ ∃ br kB, h0.size ≤ br ∧ (Exa Z h o "java/util/ImmutableCollections$ListN") ∧ (Fld Z h o "java/util/ImmutableCollections$ListN" "elements" "[Ljava/lang/Object;" (.ref br)) ∧ (Arv Z h br kB (.object "java/lang/Object") (3 : Int32) [(.ref y0), (.ref y1), (.ref y2)] .null)
set_option maxRecDepth 65536 in
set_option maxHeartbeats 40000000 in
theorem rm_lfa (l : Launch) (Z : State) (a0 : Array Value) (hw : ∀ d ∈ tables_1, d.before a0 Z = true) (ws : List Jvm.Cond) (ar : Addr) (kA : ClassId) (y0 : Addr) (y1 : Addr) (y2 : Addr) (h0 : Heap) (n0 : Nat) (Z0 : n0 ≤ h0.size) (V1 : (Arv Z h0 ar kA (.object "java/lang/Object") (3 : Int32) [(.ref y0), (.ref y1), (.ref y2)] .null)) (X_y0 : (Exa Z h0 y0 "java/lang/String")) (X_y1 : (Exa Z h0 y1 "java/lang/String")) (X_y2 : (Exa Z h0 y2 "java/lang/String")) :
    MetFree l (⟨"java/util/ImmutableCollections", "listFromArray", "([Ljava/lang/Object;)Ljava/util/List;"⟩ : MethodName) (head1 (Jvm.Cond.code (⟨"java/util/ImmutableCollections", "listFromArray", "([Ljava/lang/Object;)Ljava/util/List;"⟩ : MethodName) jdk_56_method_4_code 3 (some (.object "java/util/List")) :: ws) ({ frames := 5, cells := 2, slots := 5, locals := 63 } : Room)) (fun aa U => aa = #[(.ref ar)] ∧ Z.Warmed39 U.vm ∧ U.heap = h0) (fun _ _ _ _ _ => True) (fun _ U o U' => ∃ v L, o = .returned v ∧ Q_lfa Z ar kA y0 y1 y2 h0 n0 v U'.heap L ∧ FrameEnd U o U' L ({ frames := 5, cells := 2, slots := 5, locals := 63 } : Room).cells ({ frames := 5, cells := 2, slots := 5, locals := 63 } : Room).slots) := by
  refine MetFree.of_bodySF (plainFor_of_name pn_8) hisR ?_
  intro p e s m args below meth c s₁ Bd hml0 hP hK
  obtain ⟨rfl, hZ, hh⟩ := hP
  have hx := Bd.exec
  have hby := Bd.bytes
  have hml : c.maxLocals = 3 := hml0
  have hown : s.vm.findClass "java/util/ImmutableCollections" = some m.cls := findClass_of_methodNamed Bd.named
  have hnm := (name_of_methodNamed Bd.named Bd.method).1
  have hlk : meth.locks = false := BodyLoose.notSynchronized Bd
  have X0 : Stand p l e ({ frames := 5, cells := 2, slots := 5, locals := 63 } : Room) s m #[(.ref ar)] below meth c s₁ [] 0 0 := Stand.of_body Bd
  have e0 : s₁.heap = h0 := by rw [← hh, Bd.state]; rfl
  have N0 := Fr.nil n0
  have K0 : Keep h0 h0 [] := Keep.refl _ _
  show Gl p.tables e below (QQof s (Q_lfa Z ar kA y0 y1 y2 h0 n0) 2 5) (s₁.setTop (entryFrame m #[(.ref ar)] 3))
  refine Gl.go (fun t k => castTop (ef_lfa m ar) k) ?_
  show Gl _ _ _ _ (s₁.setTop (mkF m 0 #[.val (.ref ar), .unset, .unset] []))
  refine Gl.go (fun _ k => XS.aloadN X0.here hx rfl (hb hby d37_0) rfl rfl  k) ?_
  obtain ⟨cl1, Ar1, qA1, SA1, NA1, HA1, GA1⟩ := id V1
  refine Gl.go (fun _ k => X0.arraylength hx (by rw [e0]; exact Ar1.1) (State.isArrayOf_alike hZ.alike Ar1.2.1) (g := (mkF m 1 #[.val (.ref ar), .unset, .unset] [(.ref ar)])) rfl rfl (hb hby d37_1) _ k) ?_
  rw [len_of SA1 NA1]
  show Gl _ _ _ _ (s₁.setTop (mkF m 2 #[.val (.ref ar), .unset, .unset] [(.int (3 : Int32))]))
  obtain ⟨T2, h2, cA2, X2, e2, E2, A2, O2, st2⟩ := newR X0 hx hZ hown (hw _ (List.mem_of_getElem? (i := 261) rfl)) (hw _ (List.mem_of_getElem? (i := 87) rfl)) e0 (g := (mkF m 2 #[.val (.ref ar), .unset, .unset] [(.int (3 : Int32))])) rfl (hb hby d37_2) rfl (by decide) (cap := 3) (by decide) (by decide) (by decide) (by decide)
  obtain ⟨b2, g2⟩ : ∃ z, z = h0.size := ⟨_, rfl⟩
  rw [← g2] at A2 st2
  have g_b2 : n0 ≤ b2 := Nat.le_trans Z0 (Nat.le_of_eq g2.symm)
  have sz_b2 : h0.size ≤ b2 := Nat.le_trans K0.1 (Nat.le_of_eq g2.symm)
  have ne_ar_b2 : ar ≠ b2 := Nat.ne_of_lt (Nat.lt_of_lt_of_le V1.lt (Nat.le_of_eq g2.symm))
  have ne_y0_b2 : y0 ≠ b2 := Nat.ne_of_lt (Nat.lt_of_lt_of_le X_y0.lt (Nat.le_of_eq g2.symm))
  have ne_y1_b2 : y1 ≠ b2 := Nat.ne_of_lt (Nat.lt_of_lt_of_le X_y1.lt (Nat.le_of_eq g2.symm))
  have ne_y2_b2 : y2 ≠ b2 := Nat.ne_of_lt (Nat.lt_of_lt_of_le X_y2.lt (Nat.le_of_eq g2.symm))
  have V_ar_2 := V1.ext E2
  have E_y0_2 := X_y0.ext E2
  have E_y1_2 := X_y1.ext E2
  have E_y2_2 := X_y2.ext E2
  have SZ2 : n0 ≤ h2.size := Nat.le_trans Z0 E2.1
  have K2 : Keep h0 h2 [] := K0.ext E2
  have V_b2_2 : Arv Z h2 b2 cA2 (.object "java/lang/Object") (3 : Int32) [.null, .null, .null] .null := (Arv.new A2 (by decide)).pad (pad_rep [] _ 3)
  refine Gl.go (fun _ k => st2 _ k) ?_
  show Gl _ _ _ _ (T2.setTop (mkF m 5 #[.val (.ref ar), .unset, .unset] [(.ref b2)]))
  refine Gl.go (fun _ k => XS.astoreN X2.here hx rfl (hb hby d37_5) rfl rfl (l' := #[.val (.ref ar), .val (.ref b2), .unset]) rfl k) ?_
  refine Gl.go (fun _ k => XS.iconst X2.here hx rfl (hb hby d37_6) k) ?_
  refine Gl.go (fun _ k => XS.istoreN X2.here hx rfl (hb hby d37_7) rfl (l' := #[.val (.ref ar), .val (.ref b2), .val (.int (0 : Int32))]) rfl k) ?_
  refine Gl.go (fun _ k => XS.iloadN X2.here hx rfl (hb hby d37_8) rfl  k) ?_
  show Gl _ _ _ _ (T2.setTop (mkF m 9 #[.val (.ref ar), .val (.ref b2), .val (.int (0 : Int32))] [(.int (0 : Int32))]))
  refine Gl.go (fun _ k => XS.aloadN X2.here hx rfl (hb hby d37_9) rfl rfl  k) ?_
  obtain ⟨cl3, Ar3, qA3, SA3, NA3, HA3, GA3⟩ := id V_ar_2
  refine Gl.go (fun _ k => X2.arraylength hx (by rw [e2]; exact Ar3.1) (State.isArrayOf_alike hZ.alike Ar3.2.1) (g := (mkF m 10 #[.val (.ref ar), .val (.ref b2), .val (.int (0 : Int32))] [(.ref ar), (.int (0 : Int32))])) rfl rfl (hb hby d37_10) _ k) ?_
  rw [len_of SA3 NA3]
  show Gl _ _ _ _ (T2.setTop (mkF m 11 #[.val (.ref ar), .val (.ref b2), .val (.int (0 : Int32))] [(.int (3 : Int32)), (.int (0 : Int32))]))
  refine Gl.go (fun _ k => XS.icmpNo X2.here hx rfl (hb hby d37_11) rfl (tlt (by decide)).2.1 k) ?_
  show Gl _ _ _ _ (T2.setTop (mkF m 14 #[.val (.ref ar), .val (.ref b2), .val (.int (0 : Int32))] []))
  refine Gl.go (fun _ k => XS.aloadN X2.here hx rfl (hb hby d37_14) rfl rfl  k) ?_
  refine Gl.go (fun _ k => XS.iloadN X2.here hx rfl (hb hby d37_15) rfl  k) ?_
  refine Gl.go (fun _ k => XS.aloadN X2.here hx rfl (hb hby d37_16) rfl rfl  k) ?_
  refine Gl.go (fun _ k => XS.iloadN X2.here hx rfl (hb hby d37_17) rfl  k) ?_
  show Gl _ _ _ _ (T2.setTop (mkF m 18 #[.val (.ref ar), .val (.ref b2), .val (.int (0 : Int32))] [(.int (0 : Int32)), (.ref ar), (.int (0 : Int32)), (.ref b2)]))
  obtain ⟨cl4, Ar4, qA4, SA4, NA4, HA4, GA4⟩ := id V_ar_2
  have hin4 := inb_of (j := (0 : Int32)) SA4 ⟨by decide, by decide⟩
  have hat4 : cl4.slots[((0 : Int32)).toNatClampNeg]? = some (.ref y0) := HA4.at hin4 rfl
  refine Gl.go (fun _ k => X2.aaload hx (j := (0 : Int32)) (v := (.ref y0)) (by rw [e2]; exact Ar4.1) (State.isArrayOf_alike hZ.alike Ar4.2.1) rfl Ar4.2.2 hin4 hat4 (g := (mkF m 18 #[.val (.ref ar), .val (.ref b2), .val (.int (0 : Int32))] [(.int (0 : Int32)), (.ref ar), (.int (0 : Int32)), (.ref b2)])) rfl rfl (hb hby d37_18) _ k) ?_
  show Gl _ _ _ _ (T2.setTop (mkF m 19 #[.val (.ref ar), .val (.ref b2), .val (.int (0 : Int32))] [(.ref y0), (.int (0 : Int32)), (.ref b2)]))
  obtain ⟨_, _, ⟨T5, L5, k5, n5⟩, -, X5, ⟨Lc5, hQ5, l5, y5, z5⟩, st5⟩ := Jvm.LawKit.callS X2 hx (y := (⟨"java/util/Objects", "requireNonNull", "(Ljava/lang/Object;)Ljava/lang/Object;"⟩ : MethodName)) hown (mvT hZ (hw _ (List.mem_of_getElem? (i := 262) rfl))) (mvT hZ (hw _ (List.mem_of_getElem? (i := 180) rfl))) (mvT hZ (hw _ (List.mem_of_getElem? (i := 181) rfl))) (mvT hZ (hw _ (List.mem_of_getElem? (i := 182) rfl))) (by decide) (backOf (W := 2) (rm_rnn l Z a0 hw [] y0 h2 n0 SZ2 ) hZ (hw _ (List.mem_of_getElem? (i := 182) rfl)) (hw _ (List.mem_of_getElem? (i := 181) rfl)) (by decide) (by decide)) (g := (mkF m 19 #[.val (.ref ar), .val (.ref b2), .val (.int (0 : Int32))] [(.ref y0), (.int (0 : Int32)), (.ref b2)])) rfl (by rw [hml]; rfl) (argsL := [(.ref y0)]) (rest := [(.int (0 : Int32)), (.ref b2)]) (lenOf pd_5 rfl) rfl (by show 2 * 0 + _ ≤ _; exact Nat.le_of_eq rfl) (hb hby d37_19) (fun _ _ => ⟨rfl, e2, (by decide : 1 + 0 ≤ _), (by decide : 3 + 0 ≤ _)⟩)
  dsimp only [Pt.U, Pt.locs, Pt.cells, Pt.slots] at X5 l5 y5 z5 st5 hQ5
  subst y5 z5
  obtain ⟨rfl, Nq5, e5⟩ := hQ5
  have N5 : Fr n0 L5 := by rw [l5]; exact Fr.app N0 Nq5
  refine Gl.go (fun _ k => st5 _ k) ?_
  show Gl _ _ _ _ (T5.setTop (mkF m 22 #[.val (.ref ar), .val (.ref b2), .val (.int (0 : Int32))] [(.ref y0), (.int (0 : Int32)), (.ref b2)]))
  obtain ⟨cl6, Ar6, qA6, SA6, NA6, HA6, GA6⟩ := id V_b2_2
  obtain ⟨T6, h6, X6, e6, W6, st6⟩ := stR X5 hx hZ e5 Ar6 (j := (0 : Int32)) (inb_of SA6 ⟨by decide, by decide⟩) rfl (Sto.ofV Ar6 qA6 O2 (Ins.of_exa E_y0_2 (hw _ (List.mem_of_getElem? (i := 88) rfl)))) (g := (mkF m 22 #[.val (.ref ar), .val (.ref b2), .val (.int (0 : Int32))] [(.ref y0), (.int (0 : Int32)), (.ref b2)])) rfl rfl (hb hby d37_22)
  have V_ar_6 := V_ar_2.other W6 ne_ar_b2
  have E_y0_6 := E_y0_2.wr W6
  have E_y1_6 := E_y1_2.wr W6
  have E_y2_6 := E_y2_2.wr W6
  have SZ6 : n0 ≤ h6.size := by rw [Wr.size W6]; exact SZ2
  have K6 : Keep h0 h6 [] := K2.wr W6 (Or.inr sz_b2)
  have N6 := Fr.snoc X6 N5 g_b2
  have V_b2_6 : Arv Z h6 b2 cA2 (.object "java/lang/Object") (3 : Int32) [(.ref y0), .null, .null] .null := Arv.set Ar6 qA6 SA6 NA6 HA6 GA6 rfl W6 0 rfl (Nat.le_of_ble_eq_true rfl)
  refine Gl.go (fun _ k => st6 _ k) ?_
  show Gl _ _ _ _ (T6.setTop (mkF m 23 #[.val (.ref ar), .val (.ref b2), .val (.int (0 : Int32))] []))
  refine Gl.go (fun _ k => XS.iinc X6.here hx rfl (hb hby d37_23) rfl (l' := #[.val (.ref ar), .val (.ref b2), .val (.int ((0 : Int32) + (1 : Int32)))]) rfl k) ?_
  show Gl _ _ _ _ (T6.setTop (mkF m 26 #[.val (.ref ar), .val (.ref b2), .val (.int ((0 : Int32) + (1 : Int32)))] []))
  rw [(by decide : ((0 : Int32) + (1 : Int32)) = (1 : Int32))]
  show Gl _ _ _ _ (T6.setTop (mkF m 26 #[.val (.ref ar), .val (.ref b2), .val (.int (1 : Int32))] []))
  refine Gl.go (fun _ k => XS.goto X6.here hx rfl (pc0 := 26) (pc' := 8) rfl (hb hby d37_26) (by decide) (by decide) k) ?_
  refine Gl.go (fun _ k => XS.iloadN X6.here hx rfl (hb hby d37_8) rfl  k) ?_
  refine Gl.go (fun _ k => XS.aloadN X6.here hx rfl (hb hby d37_9) rfl rfl  k) ?_
  obtain ⟨cl7, Ar7, qA7, SA7, NA7, HA7, GA7⟩ := id V_ar_6
  refine Gl.go (fun _ k => X6.arraylength hx (by rw [e6]; exact Ar7.1) (State.isArrayOf_alike hZ.alike Ar7.2.1) (g := (mkF m 10 #[.val (.ref ar), .val (.ref b2), .val (.int (1 : Int32))] [(.ref ar), (.int (1 : Int32))])) rfl rfl (hb hby d37_10) _ k) ?_
  rw [len_of SA7 NA7]
  show Gl _ _ _ _ (T6.setTop (mkF m 11 #[.val (.ref ar), .val (.ref b2), .val (.int (1 : Int32))] [(.int (3 : Int32)), (.int (1 : Int32))]))
  refine Gl.go (fun _ k => XS.icmpNo X6.here hx rfl (hb hby d37_11) rfl (tlt (by decide)).2.1 k) ?_
  show Gl _ _ _ _ (T6.setTop (mkF m 14 #[.val (.ref ar), .val (.ref b2), .val (.int (1 : Int32))] []))
  refine Gl.go (fun _ k => XS.aloadN X6.here hx rfl (hb hby d37_14) rfl rfl  k) ?_
  refine Gl.go (fun _ k => XS.iloadN X6.here hx rfl (hb hby d37_15) rfl  k) ?_
  refine Gl.go (fun _ k => XS.aloadN X6.here hx rfl (hb hby d37_16) rfl rfl  k) ?_
  refine Gl.go (fun _ k => XS.iloadN X6.here hx rfl (hb hby d37_17) rfl  k) ?_
  show Gl _ _ _ _ (T6.setTop (mkF m 18 #[.val (.ref ar), .val (.ref b2), .val (.int (1 : Int32))] [(.int (1 : Int32)), (.ref ar), (.int (1 : Int32)), (.ref b2)]))
  obtain ⟨cl8, Ar8, qA8, SA8, NA8, HA8, GA8⟩ := id V_ar_6
  have hin8 := inb_of (j := (1 : Int32)) SA8 ⟨by decide, by decide⟩
  have hat8 : cl8.slots[((1 : Int32)).toNatClampNeg]? = some (.ref y1) := HA8.at hin8 rfl
  refine Gl.go (fun _ k => X6.aaload hx (j := (1 : Int32)) (v := (.ref y1)) (by rw [e6]; exact Ar8.1) (State.isArrayOf_alike hZ.alike Ar8.2.1) rfl Ar8.2.2 hin8 hat8 (g := (mkF m 18 #[.val (.ref ar), .val (.ref b2), .val (.int (1 : Int32))] [(.int (1 : Int32)), (.ref ar), (.int (1 : Int32)), (.ref b2)])) rfl rfl (hb hby d37_18) _ k) ?_
  show Gl _ _ _ _ (T6.setTop (mkF m 19 #[.val (.ref ar), .val (.ref b2), .val (.int (1 : Int32))] [(.ref y1), (.int (1 : Int32)), (.ref b2)]))
  obtain ⟨_, _, ⟨T9, L9, k9, n9⟩, -, X9, ⟨Lc9, hQ9, l9, y9, z9⟩, st9⟩ := Jvm.LawKit.callS X6 hx (y := (⟨"java/util/Objects", "requireNonNull", "(Ljava/lang/Object;)Ljava/lang/Object;"⟩ : MethodName)) hown (mvT hZ (hw _ (List.mem_of_getElem? (i := 262) rfl))) (mvT hZ (hw _ (List.mem_of_getElem? (i := 180) rfl))) (mvT hZ (hw _ (List.mem_of_getElem? (i := 181) rfl))) (mvT hZ (hw _ (List.mem_of_getElem? (i := 182) rfl))) (by decide) (backOf (W := 2) (rm_rnn l Z a0 hw [] y1 h6 n0 SZ6 ) hZ (hw _ (List.mem_of_getElem? (i := 182) rfl)) (hw _ (List.mem_of_getElem? (i := 181) rfl)) (by decide) (by decide)) (g := (mkF m 19 #[.val (.ref ar), .val (.ref b2), .val (.int (1 : Int32))] [(.ref y1), (.int (1 : Int32)), (.ref b2)])) rfl (by rw [hml]; rfl) (argsL := [(.ref y1)]) (rest := [(.int (1 : Int32)), (.ref b2)]) (lenOf pd_5 rfl) rfl (by show 2 * 0 + _ ≤ _; exact Nat.le_of_eq rfl) (hb hby d37_19) (fun _ _ => ⟨rfl, e6, (by decide : 1 + 0 ≤ _), (by decide : 3 + 0 ≤ _)⟩)
  dsimp only [Pt.U, Pt.locs, Pt.cells, Pt.slots] at X9 l9 y9 z9 st9 hQ9
  subst y9 z9
  obtain ⟨rfl, Nq9, e9⟩ := hQ9
  have N9 : Fr n0 L9 := by rw [l9]; exact Fr.app N6 Nq9
  refine Gl.go (fun _ k => st9 _ k) ?_
  show Gl _ _ _ _ (T9.setTop (mkF m 22 #[.val (.ref ar), .val (.ref b2), .val (.int (1 : Int32))] [(.ref y1), (.int (1 : Int32)), (.ref b2)]))
  obtain ⟨cl10, Ar10, qA10, SA10, NA10, HA10, GA10⟩ := id V_b2_6
  obtain ⟨T10, h10, X10, e10, W10, st10⟩ := stR X9 hx hZ e9 Ar10 (j := (1 : Int32)) (inb_of SA10 ⟨by decide, by decide⟩) rfl (Sto.ofV Ar10 qA10 O2 (Ins.of_exa E_y1_6 (hw _ (List.mem_of_getElem? (i := 88) rfl)))) (g := (mkF m 22 #[.val (.ref ar), .val (.ref b2), .val (.int (1 : Int32))] [(.ref y1), (.int (1 : Int32)), (.ref b2)])) rfl rfl (hb hby d37_22)
  have V_ar_10 := V_ar_6.other W10 ne_ar_b2
  have E_y0_10 := E_y0_6.wr W10
  have E_y1_10 := E_y1_6.wr W10
  have E_y2_10 := E_y2_6.wr W10
  have SZ10 : n0 ≤ h10.size := by rw [Wr.size W10]; exact SZ6
  have K10 : Keep h0 h10 [] := K6.wr W10 (Or.inr sz_b2)
  have N10 := Fr.snoc X10 N9 g_b2
  have V_b2_10 : Arv Z h10 b2 cA2 (.object "java/lang/Object") (3 : Int32) [(.ref y0), (.ref y1), .null] .null := Arv.set Ar10 qA10 SA10 NA10 HA10 GA10 rfl W10 1 rfl (Nat.le_of_ble_eq_true rfl)
  refine Gl.go (fun _ k => st10 _ k) ?_
  show Gl _ _ _ _ (T10.setTop (mkF m 23 #[.val (.ref ar), .val (.ref b2), .val (.int (1 : Int32))] []))
  refine Gl.go (fun _ k => XS.iinc X10.here hx rfl (hb hby d37_23) rfl (l' := #[.val (.ref ar), .val (.ref b2), .val (.int ((1 : Int32) + (1 : Int32)))]) rfl k) ?_
  show Gl _ _ _ _ (T10.setTop (mkF m 26 #[.val (.ref ar), .val (.ref b2), .val (.int ((1 : Int32) + (1 : Int32)))] []))
  rw [(by decide : ((1 : Int32) + (1 : Int32)) = (2 : Int32))]
  show Gl _ _ _ _ (T10.setTop (mkF m 26 #[.val (.ref ar), .val (.ref b2), .val (.int (2 : Int32))] []))
  refine Gl.go (fun _ k => XS.goto X10.here hx rfl (pc0 := 26) (pc' := 8) rfl (hb hby d37_26) (by decide) (by decide) k) ?_
  refine Gl.go (fun _ k => XS.iloadN X10.here hx rfl (hb hby d37_8) rfl  k) ?_
  refine Gl.go (fun _ k => XS.aloadN X10.here hx rfl (hb hby d37_9) rfl rfl  k) ?_
  obtain ⟨cl11, Ar11, qA11, SA11, NA11, HA11, GA11⟩ := id V_ar_10
  refine Gl.go (fun _ k => X10.arraylength hx (by rw [e10]; exact Ar11.1) (State.isArrayOf_alike hZ.alike Ar11.2.1) (g := (mkF m 10 #[.val (.ref ar), .val (.ref b2), .val (.int (2 : Int32))] [(.ref ar), (.int (2 : Int32))])) rfl rfl (hb hby d37_10) _ k) ?_
  rw [len_of SA11 NA11]
  show Gl _ _ _ _ (T10.setTop (mkF m 11 #[.val (.ref ar), .val (.ref b2), .val (.int (2 : Int32))] [(.int (3 : Int32)), (.int (2 : Int32))]))
  refine Gl.go (fun _ k => XS.icmpNo X10.here hx rfl (hb hby d37_11) rfl (tlt (by decide)).2.1 k) ?_
  show Gl _ _ _ _ (T10.setTop (mkF m 14 #[.val (.ref ar), .val (.ref b2), .val (.int (2 : Int32))] []))
  refine Gl.go (fun _ k => XS.aloadN X10.here hx rfl (hb hby d37_14) rfl rfl  k) ?_
  refine Gl.go (fun _ k => XS.iloadN X10.here hx rfl (hb hby d37_15) rfl  k) ?_
  refine Gl.go (fun _ k => XS.aloadN X10.here hx rfl (hb hby d37_16) rfl rfl  k) ?_
  refine Gl.go (fun _ k => XS.iloadN X10.here hx rfl (hb hby d37_17) rfl  k) ?_
  show Gl _ _ _ _ (T10.setTop (mkF m 18 #[.val (.ref ar), .val (.ref b2), .val (.int (2 : Int32))] [(.int (2 : Int32)), (.ref ar), (.int (2 : Int32)), (.ref b2)]))
  obtain ⟨cl12, Ar12, qA12, SA12, NA12, HA12, GA12⟩ := id V_ar_10
  have hin12 := inb_of (j := (2 : Int32)) SA12 ⟨by decide, by decide⟩
  have hat12 : cl12.slots[((2 : Int32)).toNatClampNeg]? = some (.ref y2) := HA12.at hin12 rfl
  refine Gl.go (fun _ k => X10.aaload hx (j := (2 : Int32)) (v := (.ref y2)) (by rw [e10]; exact Ar12.1) (State.isArrayOf_alike hZ.alike Ar12.2.1) rfl Ar12.2.2 hin12 hat12 (g := (mkF m 18 #[.val (.ref ar), .val (.ref b2), .val (.int (2 : Int32))] [(.int (2 : Int32)), (.ref ar), (.int (2 : Int32)), (.ref b2)])) rfl rfl (hb hby d37_18) _ k) ?_
  show Gl _ _ _ _ (T10.setTop (mkF m 19 #[.val (.ref ar), .val (.ref b2), .val (.int (2 : Int32))] [(.ref y2), (.int (2 : Int32)), (.ref b2)]))
  obtain ⟨_, _, ⟨T13, L13, k13, n13⟩, -, X13, ⟨Lc13, hQ13, l13, y13, z13⟩, st13⟩ := Jvm.LawKit.callS X10 hx (y := (⟨"java/util/Objects", "requireNonNull", "(Ljava/lang/Object;)Ljava/lang/Object;"⟩ : MethodName)) hown (mvT hZ (hw _ (List.mem_of_getElem? (i := 262) rfl))) (mvT hZ (hw _ (List.mem_of_getElem? (i := 180) rfl))) (mvT hZ (hw _ (List.mem_of_getElem? (i := 181) rfl))) (mvT hZ (hw _ (List.mem_of_getElem? (i := 182) rfl))) (by decide) (backOf (W := 2) (rm_rnn l Z a0 hw [] y2 h10 n0 SZ10 ) hZ (hw _ (List.mem_of_getElem? (i := 182) rfl)) (hw _ (List.mem_of_getElem? (i := 181) rfl)) (by decide) (by decide)) (g := (mkF m 19 #[.val (.ref ar), .val (.ref b2), .val (.int (2 : Int32))] [(.ref y2), (.int (2 : Int32)), (.ref b2)])) rfl (by rw [hml]; rfl) (argsL := [(.ref y2)]) (rest := [(.int (2 : Int32)), (.ref b2)]) (lenOf pd_5 rfl) rfl (by show 2 * 0 + _ ≤ _; exact Nat.le_of_eq rfl) (hb hby d37_19) (fun _ _ => ⟨rfl, e10, (by decide : 1 + 0 ≤ _), (by decide : 3 + 0 ≤ _)⟩)
  dsimp only [Pt.U, Pt.locs, Pt.cells, Pt.slots] at X13 l13 y13 z13 st13 hQ13
  subst y13 z13
  obtain ⟨rfl, Nq13, e13⟩ := hQ13
  have N13 : Fr n0 L13 := by rw [l13]; exact Fr.app N10 Nq13
  refine Gl.go (fun _ k => st13 _ k) ?_
  show Gl _ _ _ _ (T13.setTop (mkF m 22 #[.val (.ref ar), .val (.ref b2), .val (.int (2 : Int32))] [(.ref y2), (.int (2 : Int32)), (.ref b2)]))
  obtain ⟨cl14, Ar14, qA14, SA14, NA14, HA14, GA14⟩ := id V_b2_10
  obtain ⟨T14, h14, X14, e14, W14, st14⟩ := stR X13 hx hZ e13 Ar14 (j := (2 : Int32)) (inb_of SA14 ⟨by decide, by decide⟩) rfl (Sto.ofV Ar14 qA14 O2 (Ins.of_exa E_y2_10 (hw _ (List.mem_of_getElem? (i := 88) rfl)))) (g := (mkF m 22 #[.val (.ref ar), .val (.ref b2), .val (.int (2 : Int32))] [(.ref y2), (.int (2 : Int32)), (.ref b2)])) rfl rfl (hb hby d37_22)
  have V_ar_14 := V_ar_10.other W14 ne_ar_b2
  have E_y0_14 := E_y0_10.wr W14
  have E_y1_14 := E_y1_10.wr W14
  have E_y2_14 := E_y2_10.wr W14
  have SZ14 : n0 ≤ h14.size := by rw [Wr.size W14]; exact SZ10
  have K14 : Keep h0 h14 [] := K10.wr W14 (Or.inr sz_b2)
  have N14 := Fr.snoc X14 N13 g_b2
  have V_b2_14 : Arv Z h14 b2 cA2 (.object "java/lang/Object") (3 : Int32) [(.ref y0), (.ref y1), (.ref y2)] .null := Arv.set Ar14 qA14 SA14 NA14 HA14 GA14 rfl W14 2 rfl (Nat.le_of_ble_eq_true rfl)
  refine Gl.go (fun _ k => st14 _ k) ?_
  show Gl _ _ _ _ (T14.setTop (mkF m 23 #[.val (.ref ar), .val (.ref b2), .val (.int (2 : Int32))] []))
  refine Gl.go (fun _ k => XS.iinc X14.here hx rfl (hb hby d37_23) rfl (l' := #[.val (.ref ar), .val (.ref b2), .val (.int ((2 : Int32) + (1 : Int32)))]) rfl k) ?_
  show Gl _ _ _ _ (T14.setTop (mkF m 26 #[.val (.ref ar), .val (.ref b2), .val (.int ((2 : Int32) + (1 : Int32)))] []))
  rw [(by decide : ((2 : Int32) + (1 : Int32)) = (3 : Int32))]
  show Gl _ _ _ _ (T14.setTop (mkF m 26 #[.val (.ref ar), .val (.ref b2), .val (.int (3 : Int32))] []))
  refine Gl.go (fun _ k => XS.goto X14.here hx rfl (pc0 := 26) (pc' := 8) rfl (hb hby d37_26) (by decide) (by decide) k) ?_
  refine Gl.go (fun _ k => XS.iloadN X14.here hx rfl (hb hby d37_8) rfl  k) ?_
  refine Gl.go (fun _ k => XS.aloadN X14.here hx rfl (hb hby d37_9) rfl rfl  k) ?_
  obtain ⟨cl15, Ar15, qA15, SA15, NA15, HA15, GA15⟩ := id V_ar_14
  refine Gl.go (fun _ k => X14.arraylength hx (by rw [e14]; exact Ar15.1) (State.isArrayOf_alike hZ.alike Ar15.2.1) (g := (mkF m 10 #[.val (.ref ar), .val (.ref b2), .val (.int (3 : Int32))] [(.ref ar), (.int (3 : Int32))])) rfl rfl (hb hby d37_10) _ k) ?_
  rw [len_of SA15 NA15]
  show Gl _ _ _ _ (T14.setTop (mkF m 11 #[.val (.ref ar), .val (.ref b2), .val (.int (3 : Int32))] [(.int (3 : Int32)), (.int (3 : Int32))]))
  refine Gl.go (fun _ k => XS.icmpYes X14.here hx rfl (pc0 := 11) (pc' := 29) rfl (hb hby d37_11) rfl (flt (by decide)).2.1 (by decide) (by decide) k) ?_
  show Gl _ _ _ _ (T14.setTop (mkF m 29 #[.val (.ref ar), .val (.ref b2), .val (.int (3 : Int32))] []))
  obtain ⟨T16, h16, X16, e16, E16, A16, D16, -, st16⟩ := newO X14 hx hZ hown (hw _ (List.mem_of_getElem? (i := 115) rfl)) (hw _ (List.mem_of_getElem? (i := 263) rfl)) (hw _ (List.mem_of_getElem? (i := 264) rfl)) e14 (g := (mkF m 29 #[.val (.ref ar), .val (.ref b2), .val (.int (3 : Int32))] [])) rfl (hb hby d37_29) (by decide) (by decide)
  obtain ⟨b16, g16⟩ : ∃ z, z = h14.size := ⟨_, rfl⟩
  rw [← g16] at A16 D16 st16
  have g_b16 : n0 ≤ b16 := Nat.le_trans SZ14 (Nat.le_of_eq g16.symm)
  have sz_b16 : h0.size ≤ b16 := Nat.le_trans K14.1 (Nat.le_of_eq g16.symm)
  have ne_ar_b16 : ar ≠ b16 := Nat.ne_of_lt (Nat.lt_of_lt_of_le V_ar_14.lt (Nat.le_of_eq g16.symm))
  have ne_b2_b16 : b2 ≠ b16 := Nat.ne_of_lt (Nat.lt_of_lt_of_le V_b2_14.lt (Nat.le_of_eq g16.symm))
  have ne_y0_b16 : y0 ≠ b16 := Nat.ne_of_lt (Nat.lt_of_lt_of_le E_y0_14.lt (Nat.le_of_eq g16.symm))
  have ne_y1_b16 : y1 ≠ b16 := Nat.ne_of_lt (Nat.lt_of_lt_of_le E_y1_14.lt (Nat.le_of_eq g16.symm))
  have ne_y2_b16 : y2 ≠ b16 := Nat.ne_of_lt (Nat.lt_of_lt_of_le E_y2_14.lt (Nat.le_of_eq g16.symm))
  have V_ar_16 := V_ar_14.ext E16
  have E_y0_16 := E_y0_14.ext E16
  have E_y1_16 := E_y1_14.ext E16
  have E_y2_16 := E_y2_14.ext E16
  have V_b2_16 := V_b2_14.ext E16
  have SZ16 : n0 ≤ h16.size := Nat.le_trans SZ14 E16.1
  have K16 : Keep h0 h16 [] := K14.ext E16
  have F_b16_elements_16 : Fld Z h16 b16 "java/util/ImmutableCollections$ListN" "elements" "[Ljava/lang/Object;" .null := D16 (Or.inr (hw _ (List.mem_of_getElem? (i := 274) rfl))) (ty := (.array (.object "java/lang/Object"))) (by decide)
  have F_b16_allowNulls_16 : Fld Z h16 b16 "java/util/ImmutableCollections$ListN" "allowNulls" "Z" (.int (0 : Int32)) := D16 (Or.inr (hw _ (List.mem_of_getElem? (i := 276) rfl))) (ty := .boolean) (by decide)
  refine Gl.go (fun _ k => st16 _ k) ?_
  show Gl _ _ _ _ (T16.setTop (mkF m 32 #[.val (.ref ar), .val (.ref b2), .val (.int (3 : Int32))] [(.ref b16)]))
  refine Gl.go (fun _ k => XS.dup X16.here hx rfl (hb hby d37_32) rfl rfl k) ?_
  refine Gl.go (fun _ k => XS.aloadN X16.here hx rfl (hb hby d37_33) rfl rfl  k) ?_
  refine Gl.go (fun _ k => XS.iconst X16.here hx rfl (hb hby d37_34) k) ?_
  obtain ⟨_, _, ⟨T17, L17, k17, n17⟩, -, X17, ⟨Lc17, hQ17, l17, y17, z17⟩, st17⟩ := X16.specialBackNest hx (y := (⟨"java/util/ImmutableCollections$ListN", "<init>", "([Ljava/lang/Object;Z)V"⟩ : MethodName)) rfl hown (Cond.methodLinkNest_wide hZ (hw _ (List.mem_of_getElem? (i := 265) rfl)) :) (mvT hZ (hw _ (List.mem_of_getElem? (i := 266) rfl))) (mvT hZ (hw _ (List.mem_of_getElem? (i := 268) rfl))) (by decide) (backOf (W := 1) (rm_lni l Z a0 hw [] b16 b2 h16 n0 SZ16 A16 F_b16_elements_16 F_b16_allowNulls_16 g_b16) hZ (hw _ (List.mem_of_getElem? (i := 268) rfl)) (hw _ (List.mem_of_getElem? (i := 264) rfl)) (by decide) (by decide)) (g := (mkF m 35 #[.val (.ref ar), .val (.ref b2), .val (.int (3 : Int32))] [(.int (0 : Int32)), (.ref b2), (.ref b16), (.ref b16)])) rfl (by rw [hml]; rfl) (Steps.refl _) (a := b16) (argsL := [(.ref b2), (.int (0 : Int32))]) (rest := [(.ref b16)]) (lenOf pd_6 rfl) rfl (by show 2 * 0 + _ ≤ _; exact Nat.le_of_eq rfl) (hb hby d37_35) (fun _ _ => ⟨rfl, e16, (by decide : 2 + 0 ≤ _), (by decide : 5 + 0 ≤ _)⟩)
  dsimp only [Pt.U, Pt.locs, Pt.cells, Pt.slots] at X17 l17 y17 z17 st17 hQ17
  subst y17 z17
  obtain ⟨rfl, Nq17, Kc17, Eo17, F017⟩ := hQ17
  have N17 : Fr n0 L17 := by rw [l17]; exact Fr.app N14 Nq17
  refine Gl.go (fun _ k => st17.trans k) ?_
  have V_ar_17 := V_ar_16.keep Kc17 (ninS ne_ar_b16 nin0)
  have E_y0_17 := E_y0_16.keep Kc17
  have E_y1_17 := E_y1_16.keep Kc17
  have E_y2_17 := E_y2_16.keep Kc17
  have V_b2_17 := V_b2_16.keep Kc17 (ninS ne_b2_b16 nin0)
  have E_b16_17 := A16.keep Kc17
  have SZ17 : n0 ≤ T17.heap.size := Nat.le_trans SZ16 Kc17.1
  have K17 : Keep h0 T17.heap [] := K16.trans Kc17 (allS (Or.inr sz_b16) all0)
  show Gl _ _ _ _ (T17.setTop (mkF m 38 #[.val (.ref ar), .val (.ref b2), .val (.int (3 : Int32))] [(.ref b16)]))
  refine leafA X17 hx hlk Bd.returns rfl rfl (hb hby d37_38) ?_ (by decide) (by decide)
  exact ⟨b16, rfl, N17, K17, sz_b16, b2, cA2, sz_b2, Eo17, F017, V_b2_17⟩
def Q_cp3_1 (Z : State) (ar : Addr) (kA : ClassId) (mO : Addr) (y0 : Addr) (h0 : Heap) (n0 : Nat) (v : Option Value) (h : Heap) (L : List Loc) : Prop := ∃ b kB, v = some (.ref b) ∧ Fr n0 L ∧ Keep h0 h [] ∧ h0.size ≤ b ∧ (Arv Z h b kB (.object "java/lang/Object") (1 : Int32) [(.ref y0)] .null)
set_option maxRecDepth 65536 in
set_option maxHeartbeats 40000000 in
theorem rm_cp3_1 (l : Launch) (Z : State) (a0 : Array Value) (hw : ∀ d ∈ tables_1, d.before a0 Z = true) (ws : List Jvm.Cond) (ar : Addr) (kA : ClassId) (mO : Addr) (y0 : Addr) (h0 : Heap) (n0 : Nat) (Z0 : n0 ≤ h0.size) (V1 : (Arv Z h0 ar kA (.object "java/lang/Object") (10 : Int32) [(.ref y0), .null, .null, .null, .null, .null, .null, .null, .null, .null] .null)) (X_y0 : (Exa Z h0 y0 "java/lang/String")) (MO : Mr Z "[Ljava/lang/Object;" mO) :
    MetFree l (⟨"java/util/Arrays", "copyOf", "([Ljava/lang/Object;ILjava/lang/Class;)[Ljava/lang/Object;"⟩ : MethodName) (head1 (Jvm.Cond.code (⟨"java/util/Arrays", "copyOf", "([Ljava/lang/Object;ILjava/lang/Class;)[Ljava/lang/Object;"⟩ : MethodName) jdk_65_method_120_code 4 (some (.array (.object "java/lang/Object"))) :: ws) ({ frames := 1, cells := 1, slots := 1, locals := 18 } : Room)) (fun aa U => aa = #[(.ref ar), (.int (1 : Int32)), (.ref mO)] ∧ Z.Warmed39 U.vm ∧ U.heap = h0) (fun _ _ _ _ _ => True) (fun _ U o U' => ∃ v L, o = .returned v ∧ Q_cp3_1 Z ar kA mO y0 h0 n0 v U'.heap L ∧ FrameEnd U o U' L ({ frames := 1, cells := 1, slots := 1, locals := 18 } : Room).cells ({ frames := 1, cells := 1, slots := 1, locals := 18 } : Room).slots) := by
  refine MetFree.of_bodySF (plainFor_of_name pn_9) hisR ?_
  intro p e s m args below meth c s₁ Bd hml0 hP hK
  obtain ⟨rfl, hZ, hh⟩ := hP
  have hx := Bd.exec
  have hby := Bd.bytes
  have hml : c.maxLocals = 4 := hml0
  have hown : s.vm.findClass "java/util/Arrays" = some m.cls := findClass_of_methodNamed Bd.named
  have hnm := (name_of_methodNamed Bd.named Bd.method).1
  have hlk : meth.locks = false := BodyLoose.notSynchronized Bd
  have X0 : Stand p l e ({ frames := 1, cells := 1, slots := 1, locals := 18 } : Room) s m #[(.ref ar), (.int (1 : Int32)), (.ref mO)] below meth c s₁ [] 0 0 := Stand.of_body Bd
  have e0 : s₁.heap = h0 := by rw [← hh, Bd.state]; rfl
  have N0 := Fr.nil n0
  have K0 : Keep h0 h0 [] := Keep.refl _ _
  show Gl p.tables e below (QQof s (Q_cp3_1 Z ar kA mO y0 h0 n0) 1 1) (s₁.setTop (entryFrame m #[(.ref ar), (.int (1 : Int32)), (.ref mO)] 4))
  refine Gl.go (fun t k => castTop (ef_cp3_1 m ar (1 : Int32) mO) k) ?_
  show Gl _ _ _ _ (s₁.setTop (mkF m 0 #[.val (.ref ar), .val (.int (1 : Int32)), .val (.ref mO), .unset] []))
  refine Gl.go (fun _ k => XS.aloadN X0.here hx rfl (hb hby d22_0) rfl rfl  k) ?_
  obtain ⟨T1, X1, e1, st1⟩ := ldcM X0 hx hZ hown (hw _ (List.mem_of_getElem? (i := 146) rfl)) e0 MO (g := (mkF m 1 #[.val (.ref ar), .val (.int (1 : Int32)), .val (.ref mO), .unset] [(.ref mO)])) rfl (hb hby d22_1)
  refine Gl.go (fun _ k => st1 _ k) ?_
  show Gl _ _ _ _ (T1.setTop (mkF m 3 #[.val (.ref ar), .val (.int (1 : Int32)), .val (.ref mO), .unset] [(.ref mO), (.ref mO)]))
  refine Gl.go (fun _ k => Jvm.RoadKit.acmp (g := (mkF m 3 #[.val (.ref ar), .val (.int (1 : Int32)), .val (.ref mO), .unset] [(.ref mO), (.ref mO)])) X1 hx rfl rfl rfl (pc0 := 3) (pc' := 6) (same := true) rfl (hb hby d22_3) rfl (decide_eq_true (congrArg Value.ref (rfl : mO = mO))) (by decide) (by decide) k) ?_
  show Gl _ _ _ _ (T1.setTop (mkF m 6 #[.val (.ref ar), .val (.int (1 : Int32)), .val (.ref mO), .unset] []))
  refine Gl.go (fun _ k => XS.iloadN X1.here hx rfl (hb hby d22_6) rfl  k) ?_
  obtain ⟨T2, h2, cA2, X2, e2, E2, A2, O2, st2⟩ := newR X1 hx hZ hown (hw _ (List.mem_of_getElem? (i := 147) rfl)) (hw _ (List.mem_of_getElem? (i := 87) rfl)) e1 (g := (mkF m 7 #[.val (.ref ar), .val (.int (1 : Int32)), .val (.ref mO), .unset] [(.int (1 : Int32))])) rfl (hb hby d22_7) rfl (by decide) (cap := 1) (by decide) (by decide) (by decide) (by decide)
  obtain ⟨b2, g2⟩ : ∃ z, z = h0.size := ⟨_, rfl⟩
  rw [← g2] at A2 st2
  have g_b2 : n0 ≤ b2 := Nat.le_trans Z0 (Nat.le_of_eq g2.symm)
  have sz_b2 : h0.size ≤ b2 := Nat.le_trans K0.1 (Nat.le_of_eq g2.symm)
  have ne_ar_b2 : ar ≠ b2 := Nat.ne_of_lt (Nat.lt_of_lt_of_le V1.lt (Nat.le_of_eq g2.symm))
  have ne_y0_b2 : y0 ≠ b2 := Nat.ne_of_lt (Nat.lt_of_lt_of_le X_y0.lt (Nat.le_of_eq g2.symm))
  have V_ar_2 := V1.ext E2
  have E_y0_2 := X_y0.ext E2
  have SZ2 : n0 ≤ h2.size := Nat.le_trans Z0 E2.1
  have K2 : Keep h0 h2 [] := K0.ext E2
  have V_b2_2 : Arv Z h2 b2 cA2 (.object "java/lang/Object") (1 : Int32) [.null] .null := (Arv.new A2 (by decide)).pad (pad_rep [] _ 1)
  refine Gl.go (fun _ k => st2 _ k) ?_
  show Gl _ _ _ _ (T2.setTop (mkF m 10 #[.val (.ref ar), .val (.int (1 : Int32)), .val (.ref mO), .unset] [(.ref b2)]))
  refine Gl.go (fun _ k => XS.goto X2.here hx rfl (pc0 := 10) (pc' := 24) rfl (hb hby d22_10) (by decide) (by decide) k) ?_
  refine Gl.go (fun _ k => XS.astoreN X2.here hx rfl (hb hby d22_24) rfl rfl (l' := #[.val (.ref ar), .val (.int (1 : Int32)), .val (.ref mO), .val (.ref b2)]) rfl k) ?_
  refine Gl.go (fun _ k => XS.aloadN X2.here hx rfl (hb hby d22_25) rfl rfl  k) ?_
  refine Gl.go (fun _ k => XS.iconst X2.here hx rfl (hb hby d22_26) k) ?_
  show Gl _ _ _ _ (T2.setTop (mkF m 27 #[.val (.ref ar), .val (.int (1 : Int32)), .val (.ref mO), .val (.ref b2)] [(.int (0 : Int32)), (.ref ar)]))
  refine Gl.go (fun _ k => XS.aloadN X2.here hx rfl (hb hby d22_27) rfl rfl  k) ?_
  refine Gl.go (fun _ k => XS.iconst X2.here hx rfl (hb hby d22_28) k) ?_
  refine Gl.go (fun _ k => XS.aloadN X2.here hx rfl (hb hby d22_29) rfl rfl  k) ?_
  obtain ⟨cl3, Ar3, qA3, SA3, NA3, HA3, GA3⟩ := id V_ar_2
  refine Gl.go (fun _ k => X2.arraylength hx (by rw [e2]; exact Ar3.1) (State.isArrayOf_alike hZ.alike Ar3.2.1) (g := (mkF m 30 #[.val (.ref ar), .val (.int (1 : Int32)), .val (.ref mO), .val (.ref b2)] [(.ref ar), (.int (0 : Int32)), (.ref b2), (.int (0 : Int32)), (.ref ar)])) rfl rfl (hb hby d22_30) _ k) ?_
  rw [len_of SA3 NA3]
  show Gl _ _ _ _ (T2.setTop (mkF m 31 #[.val (.ref ar), .val (.int (1 : Int32)), .val (.ref mO), .val (.ref b2)] [(.int (10 : Int32)), (.int (0 : Int32)), (.ref b2), (.int (0 : Int32)), (.ref ar)]))
  refine Gl.go (fun _ k => XS.iloadN X2.here hx rfl (hb hby d22_31) rfl  k) ?_
  obtain ⟨_, _, ⟨T4, L4, k4, n4⟩, -, X4, ⟨Lc4, hQ4, l4, y4, z4⟩, st4⟩ := Jvm.LawKit.callS X2 hx (y := (⟨"java/lang/Math", "min", "(II)I"⟩ : MethodName)) hown (mvT hZ (hw _ (List.mem_of_getElem? (i := 148) rfl))) (mvT hZ (hw _ (List.mem_of_getElem? (i := 149) rfl))) (mvT hZ (hw _ (List.mem_of_getElem? (i := 84) rfl))) (mvT hZ (hw _ (List.mem_of_getElem? (i := 150) rfl))) (by decide) (backOf (W := 4) (rm_mn1 l Z a0 hw []  h2 n0 SZ2 ) hZ (hw _ (List.mem_of_getElem? (i := 150) rfl)) (hw _ (List.mem_of_getElem? (i := 84) rfl)) (by decide) (by decide)) (g := (mkF m 32 #[.val (.ref ar), .val (.int (1 : Int32)), .val (.ref mO), .val (.ref b2)] [(.int (1 : Int32)), (.int (10 : Int32)), (.int (0 : Int32)), (.ref b2), (.int (0 : Int32)), (.ref ar)])) rfl (by rw [hml]; rfl) (argsL := [(.int (10 : Int32)), (.int (1 : Int32))]) (rest := [(.int (0 : Int32)), (.ref b2), (.int (0 : Int32)), (.ref ar)]) (lenOf pd_1 rfl) rfl (by show 2 * 0 + _ ≤ _; exact Nat.le_of_eq rfl) (hb hby d22_32) (fun _ _ => ⟨rfl, e2, (by decide : 1 + 0 ≤ _), (by decide : 1 + 0 ≤ _)⟩)
  dsimp only [Pt.U, Pt.locs, Pt.cells, Pt.slots] at X4 l4 y4 z4 st4 hQ4
  subst y4 z4
  obtain ⟨rfl, Nq4, e4⟩ := hQ4
  have N4 : Fr n0 L4 := by rw [l4]; exact Fr.app N0 Nq4
  refine Gl.go (fun _ k => st4 _ k) ?_
  show Gl _ _ _ _ (T4.setTop (mkF m 35 #[.val (.ref ar), .val (.int (1 : Int32)), .val (.ref mO), .val (.ref b2)] [(.int (1 : Int32)), (.int (0 : Int32)), (.ref b2), (.int (0 : Int32)), (.ref ar)]))
  obtain ⟨clb, Arb, qAb, -⟩ := id V_b2_2
  obtain ⟨T5, h5, L5, X5, e5, N5, K_5, A5, st5⟩ := cpA X4 hx hZ hown (hw _ (List.mem_of_getElem? (i := 151) rfl)) (hw _ (List.mem_of_getElem? (i := 154) rfl)) (hw _ (List.mem_of_getElem? (i := 152) rfl)) (hw _ (List.mem_of_getElem? (i := 153) rfl)) e4 (us := [(.ref y0)]) V_ar_2 V_b2_2 (Or.inr ⟨rfl, rfl, ⟨Sto.ofV Arb qAb O2 (Ins.of_exa E_y0_2 (hw _ (List.mem_of_getElem? (i := 88) rfl))), trivial⟩⟩) (by decide) (by decide) (by decide) (by decide) (by decide) rfl (by decide) N4 g_b2 (g := (mkF m 35 #[.val (.ref ar), .val (.int (1 : Int32)), .val (.ref mO), .val (.ref b2)] [(.int (1 : Int32)), (.int (0 : Int32)), (.ref b2), (.int (0 : Int32)), (.ref ar)])) rfl (by rw [hml]; rfl) (rest := []) rfl (hb hby d22_35) (by decide) (W := 0) (by show 2 * 0 + _ ≤ _; exact Nat.le_of_eq rfl) (by decide)
  refine Gl.go (fun _ k => st5 _ k) ?_
  have V_ar_5 := V_ar_2.keep K_5 (ninS ne_ar_b2 nin0)
  have E_y0_5 := E_y0_2.keep K_5
  have SZ5 : n0 ≤ h5.size := Nat.le_trans SZ2 K_5.1
  have K5 : Keep h0 h5 [] := K2.trans K_5 (allS (Or.inr sz_b2) all0)
  show Gl _ _ _ _ (T5.setTop (mkF m 38 #[.val (.ref ar), .val (.int (1 : Int32)), .val (.ref mO), .val (.ref b2)] []))
  have V2 : (Arv Z h5 b2 cA2 (.object "java/lang/Object") (1 : Int32) [(.ref y0)] .null) := A5
  refine Gl.go (fun _ k => XS.aloadN X5.here hx rfl (hb hby d22_38) rfl rfl  k) ?_
  refine leafA X5 hx hlk Bd.returns rfl rfl (hb hby d22_39) ?_ (by decide) (by decide)
  rw [e5]
  exact ⟨b2, cA2, rfl, N5, K5, sz_b2, V2⟩
def Q_cp2_1 (Z : State) (ar : Addr) (kA : ClassId) (mO : Addr) (y0 : Addr) (h0 : Heap) (n0 : Nat) (v : Option Value) (h : Heap) (L : List Loc) : Prop := ∃ b kB, v = some (.ref b) ∧ Fr n0 L ∧ Keep h0 h [] ∧ h0.size ≤ b ∧ (Arv Z h b kB (.object "java/lang/Object") (1 : Int32) [(.ref y0)] .null)
set_option maxRecDepth 65536 in
set_option maxHeartbeats 40000000 in
theorem rm_cp2_1 (l : Launch) (Z : State) (a0 : Array Value) (hw : ∀ d ∈ tables_1, d.before a0 Z = true) (ws : List Jvm.Cond) (ar : Addr) (kA : ClassId) (mO : Addr) (y0 : Addr) (h0 : Heap) (n0 : Nat) (Z0 : n0 ≤ h0.size) (V1 : (Arv Z h0 ar kA (.object "java/lang/Object") (10 : Int32) [(.ref y0), .null, .null, .null, .null, .null, .null, .null, .null, .null] .null)) (X_y0 : (Exa Z h0 y0 "java/lang/String")) (E_ar : (Exa Z h0 ar "[Ljava/lang/Object;")) (MO : Mr Z "[Ljava/lang/Object;" mO) :
    MetFree l (⟨"java/util/Arrays", "copyOf", "([Ljava/lang/Object;I)[Ljava/lang/Object;"⟩ : MethodName) (head1 (Jvm.Cond.code (⟨"java/util/Arrays", "copyOf", "([Ljava/lang/Object;I)[Ljava/lang/Object;"⟩ : MethodName) jdk_65_method_119_code 2 (some (.array (.object "java/lang/Object"))) :: ws) ({ frames := 2, cells := 1, slots := 1, locals := 33 } : Room)) (fun aa U => aa = #[(.ref ar), (.int (1 : Int32))] ∧ Z.Warmed39 U.vm ∧ U.heap = h0) (fun _ _ _ _ _ => True) (fun _ U o U' => ∃ v L, o = .returned v ∧ Q_cp2_1 Z ar kA mO y0 h0 n0 v U'.heap L ∧ FrameEnd U o U' L ({ frames := 2, cells := 1, slots := 1, locals := 33 } : Room).cells ({ frames := 2, cells := 1, slots := 1, locals := 33 } : Room).slots) := by
  refine MetFree.of_bodySF (plainFor_of_name pn_9) hisR ?_
  intro p e s m args below meth c s₁ Bd hml0 hP hK
  obtain ⟨rfl, hZ, hh⟩ := hP
  have hx := Bd.exec
  have hby := Bd.bytes
  have hml : c.maxLocals = 2 := hml0
  have hown : s.vm.findClass "java/util/Arrays" = some m.cls := findClass_of_methodNamed Bd.named
  have hnm := (name_of_methodNamed Bd.named Bd.method).1
  have hlk : meth.locks = false := BodyLoose.notSynchronized Bd
  have X0 : Stand p l e ({ frames := 2, cells := 1, slots := 1, locals := 33 } : Room) s m #[(.ref ar), (.int (1 : Int32))] below meth c s₁ [] 0 0 := Stand.of_body Bd
  have e0 : s₁.heap = h0 := by rw [← hh, Bd.state]; rfl
  have N0 := Fr.nil n0
  have K0 : Keep h0 h0 [] := Keep.refl _ _
  show Gl p.tables e below (QQof s (Q_cp2_1 Z ar kA mO y0 h0 n0) 1 1) (s₁.setTop (entryFrame m #[(.ref ar), (.int (1 : Int32))] 2))
  refine Gl.go (fun t k => castTop (ef_cp2_1 m ar (1 : Int32)) k) ?_
  show Gl _ _ _ _ (s₁.setTop (mkF m 0 #[.val (.ref ar), .val (.int (1 : Int32))] []))
  refine Gl.go (fun _ k => XS.aloadN X0.here hx rfl (hb hby d21_0) rfl rfl  k) ?_
  refine Gl.go (fun _ k => XS.iloadN X0.here hx rfl (hb hby d21_1) rfl  k) ?_
  refine Gl.go (fun _ k => XS.aloadN X0.here hx rfl (hb hby d21_2) rfl rfl  k) ?_
  obtain ⟨T1, X1, e1, st1⟩ := gclsM X0 hx hZ hown (hw _ (List.mem_of_getElem? (i := 137) rfl)) (hw _ (List.mem_of_getElem? (i := 138) rfl)) (hw _ (List.mem_of_getElem? (i := 114) rfl)) (hw _ (List.mem_of_getElem? (i := 140) rfl)) (hw _ (List.mem_of_getElem? (i := 139) rfl)) (hw _ (List.mem_of_getElem? (i := 141) rfl)) e0 E_ar MO (g := (mkF m 3 #[.val (.ref ar), .val (.int (1 : Int32))] [(.ref ar), (.int (1 : Int32)), (.ref ar)])) rfl (by rw [hml]; rfl) rfl (hb hby d21_3) (by decide) (W := 2) (by show 2 * 0 + _ ≤ _; exact Nat.le_of_eq rfl) (by decide)
  refine Gl.go (fun _ k => st1 _ k) ?_
  show Gl _ _ _ _ (T1.setTop (mkF m 6 #[.val (.ref ar), .val (.int (1 : Int32))] [(.ref mO), (.int (1 : Int32)), (.ref ar)]))
  obtain ⟨_, _, ⟨T2, L2, k2, n2⟩, -, X2, ⟨Lc2, hQ2, l2, y2, z2⟩, st2⟩ := Jvm.LawKit.callS X1 hx (y := (⟨"java/util/Arrays", "copyOf", "([Ljava/lang/Object;ILjava/lang/Class;)[Ljava/lang/Object;"⟩ : MethodName)) hown (mvT hZ (hw _ (List.mem_of_getElem? (i := 143) rfl))) (mvT hZ (hw _ (List.mem_of_getElem? (i := 144) rfl))) (mvT hZ (hw _ (List.mem_of_getElem? (i := 135) rfl))) (mvT hZ (hw _ (List.mem_of_getElem? (i := 145) rfl))) (by decide) (backOf (W := 0) (rm_cp3_1 l Z a0 hw [] ar kA mO y0 h0 n0 Z0 V1 X_y0 MO) hZ (hw _ (List.mem_of_getElem? (i := 145) rfl)) (hw _ (List.mem_of_getElem? (i := 135) rfl)) (by decide) (by decide)) (g := (mkF m 6 #[.val (.ref ar), .val (.int (1 : Int32))] [(.ref mO), (.int (1 : Int32)), (.ref ar)])) rfl (by rw [hml]; rfl) (argsL := [(.ref ar), (.int (1 : Int32)), (.ref mO)]) (rest := []) (lenOf pd_7 rfl) rfl (by show 2 * 0 + _ ≤ _; exact Nat.le_of_eq rfl) (hb hby d21_6) (fun _ _ => ⟨rfl, e1, (by decide : 0 + 1 ≤ _), (by decide : 0 + 1 ≤ _)⟩)
  dsimp only [Pt.U, Pt.locs, Pt.cells, Pt.slots] at X2 l2 y2 z2 st2 hQ2
  subst y2 z2
  obtain ⟨b2, kc2, rfl, Nq2, Kc2, gz2, Vc2⟩ := hQ2
  have N2 : Fr n0 L2 := by rw [l2]; exact Fr.app N0 Nq2
  refine Gl.go (fun _ k => st2 _ k) ?_
  have Ex2 := ext_of_keep Kc2
  have V_ar_2 := V1.ext Ex2
  have E_ar_2 := E_ar.ext Ex2
  have E_y0_2 := X_y0.ext Ex2
  have SZ2 : n0 ≤ T2.heap.size := Nat.le_trans Z0 Ex2.1
  have K2 : Keep h0 T2.heap [] := K0.ext Ex2
  show Gl _ _ _ _ (T2.setTop (mkF m 9 #[.val (.ref ar), .val (.int (1 : Int32))] [(.ref b2)]))
  have g_b2 : n0 ≤ b2 := Nat.le_trans Z0 gz2
  have sz_b2 : h0.size ≤ b2 := Nat.le_trans K0.1 gz2
  have ne_ar_b2 : ar ≠ b2 := Nat.ne_of_lt (Nat.lt_of_lt_of_le V1.lt gz2)
  have ne_y0_b2 : y0 ≠ b2 := Nat.ne_of_lt (Nat.lt_of_lt_of_le X_y0.lt gz2)
  refine leafA X2 hx hlk Bd.returns rfl rfl (hb hby d21_9) ?_ (by decide) (by decide)
  exact ⟨b2, kc2, rfl, N2, K2, sz_b2, Vc2⟩
def Q_toa_1 (Z : State) (a1 : Addr) (mc : Int32) (ar : Addr) (kA : ClassId) (mO : Addr) (y0 : Addr) (h0 : Heap) (n0 : Nat) (v : Option Value) (h : Heap) (L : List Loc) : Prop := ∃ b kB, v = some (.ref b) ∧ Fr n0 L ∧ Keep h0 h [] ∧ h0.size ≤ b ∧ (Arv Z h b kB (.object "java/lang/Object") (1 : Int32) [(.ref y0)] .null)
set_option maxRecDepth 65536 in
set_option maxHeartbeats 40000000 in
theorem rm_toa_1 (l : Launch) (Z : State) (a0 : Array Value) (hw : ∀ d ∈ tables_1, d.before a0 Z = true) (ws : List Jvm.Cond) (a1 : Addr) (mc : Int32) (ar : Addr) (kA : ClassId) (mO : Addr) (y0 : Addr) (h0 : Heap) (n0 : Nat) (Z0 : n0 ≤ h0.size) (E_a1 : (Exa Z h0 a1 "java/util/ArrayList")) (M_a1 : (Fld Z h0 a1 "java/util/AbstractList" "modCount" "I" (.int mc))) (D_a1 : (Fld Z h0 a1 "java/util/ArrayList" "elementData" "[Ljava/lang/Object;" (.ref ar))) (S_a1 : (Fld Z h0 a1 "java/util/ArrayList" "size" "I" (.int (1 : Int32)))) (V1 : (Arv Z h0 ar kA (.object "java/lang/Object") (10 : Int32) [(.ref y0), .null, .null, .null, .null, .null, .null, .null, .null, .null] .null)) (X_y0 : (Exa Z h0 y0 "java/lang/String")) (E_ar : (Exa Z h0 ar "[Ljava/lang/Object;")) (MO : Mr Z "[Ljava/lang/Object;" mO) :
    MetFree l (⟨"java/util/ArrayList", "toArray", "()[Ljava/lang/Object;"⟩ : MethodName) (head1 (Jvm.Cond.code (⟨"java/util/ArrayList", "toArray", "()[Ljava/lang/Object;"⟩ : MethodName) jdk_38_method_16_code 1 (some (.array (.object "java/lang/Object"))) :: ws) ({ frames := 3, cells := 1, slots := 1, locals := 46 } : Room)) (fun aa U => aa = #[(.ref a1)] ∧ Z.Warmed39 U.vm ∧ U.heap = h0) (fun _ _ _ _ _ => True) (fun _ U o U' => ∃ v L, o = .returned v ∧ Q_toa_1 Z a1 mc ar kA mO y0 h0 n0 v U'.heap L ∧ FrameEnd U o U' L ({ frames := 3, cells := 1, slots := 1, locals := 46 } : Room).cells ({ frames := 3, cells := 1, slots := 1, locals := 46 } : Room).slots) := by
  refine MetFree.of_bodySF (plainFor_of_name pn_4) hisR ?_
  intro p e s m args below meth c s₁ Bd hml0 hP hK
  obtain ⟨rfl, hZ, hh⟩ := hP
  have hx := Bd.exec
  have hby := Bd.bytes
  have hml : c.maxLocals = 1 := hml0
  have hown : s.vm.findClass "java/util/ArrayList" = some m.cls := findClass_of_methodNamed Bd.named
  have hnm := (name_of_methodNamed Bd.named Bd.method).1
  have hlk : meth.locks = false := BodyLoose.notSynchronized Bd
  have X0 : Stand p l e ({ frames := 3, cells := 1, slots := 1, locals := 46 } : Room) s m #[(.ref a1)] below meth c s₁ [] 0 0 := Stand.of_body Bd
  have e0 : s₁.heap = h0 := by rw [← hh, Bd.state]; rfl
  have N0 := Fr.nil n0
  have K0 : Keep h0 h0 [] := Keep.refl _ _
  show Gl p.tables e below (QQof s (Q_toa_1 Z a1 mc ar kA mO y0 h0 n0) 1 1) (s₁.setTop (entryFrame m #[(.ref a1)] 1))
  refine Gl.go (fun t k => castTop (ef_toa_1 m a1) k) ?_
  show Gl _ _ _ _ (s₁.setTop (mkF m 0 #[.val (.ref a1)] []))
  refine Gl.go (fun _ k => XS.aloadN X0.here hx rfl (hb hby d20_0) rfl rfl  k) ?_
  obtain ⟨T1, X1, e1, st1⟩ := getF X0 hx hZ hown (host := "") (Or.inl (hw _ (List.mem_of_getElem? (i := 56) rfl))) Via.refl e0 D_a1 (g := (mkF m 1 #[.val (.ref a1)] [(.ref a1)])) rfl rfl (hb hby d20_1)
  refine Gl.go (fun _ k => st1 _ k) ?_
  show Gl _ _ _ _ (T1.setTop (mkF m 4 #[.val (.ref a1)] [(.ref ar)]))
  refine Gl.go (fun _ k => XS.aloadN X1.here hx rfl (hb hby d20_4) rfl rfl  k) ?_
  obtain ⟨T2, X2, e2, st2⟩ := getF X1 hx hZ hown (host := "") (Or.inl (hw _ (List.mem_of_getElem? (i := 65) rfl))) Via.refl e1 S_a1 (g := (mkF m 5 #[.val (.ref a1)] [(.ref a1), (.ref ar)])) rfl rfl (hb hby d20_5)
  refine Gl.go (fun _ k => st2 _ k) ?_
  show Gl _ _ _ _ (T2.setTop (mkF m 8 #[.val (.ref a1)] [(.int (1 : Int32)), (.ref ar)]))
  obtain ⟨_, _, ⟨T3, L3, k3, n3⟩, -, X3, ⟨Lc3, hQ3, l3, y3, z3⟩, st3⟩ := Jvm.LawKit.callS X2 hx (y := (⟨"java/util/Arrays", "copyOf", "([Ljava/lang/Object;I)[Ljava/lang/Object;"⟩ : MethodName)) hown (mvT hZ (hw _ (List.mem_of_getElem? (i := 133) rfl))) (mvT hZ (hw _ (List.mem_of_getElem? (i := 134) rfl))) (mvT hZ (hw _ (List.mem_of_getElem? (i := 135) rfl))) (mvT hZ (hw _ (List.mem_of_getElem? (i := 136) rfl))) (by decide) (backOf (W := 0) (rm_cp2_1 l Z a0 hw [] ar kA mO y0 h0 n0 Z0 V1 X_y0 E_ar MO) hZ (hw _ (List.mem_of_getElem? (i := 136) rfl)) (hw _ (List.mem_of_getElem? (i := 135) rfl)) (by decide) (by decide)) (g := (mkF m 8 #[.val (.ref a1)] [(.int (1 : Int32)), (.ref ar)])) rfl (by rw [hml]; rfl) (argsL := [(.ref ar), (.int (1 : Int32))]) (rest := []) (lenOf pd_8 rfl) rfl (by show 2 * 0 + _ ≤ _; exact Nat.le_of_eq rfl) (hb hby d20_8) (fun _ _ => ⟨rfl, e2, (by decide : 0 + 1 ≤ _), (by decide : 0 + 1 ≤ _)⟩)
  dsimp only [Pt.U, Pt.locs, Pt.cells, Pt.slots] at X3 l3 y3 z3 st3 hQ3
  subst y3 z3
  obtain ⟨b3, kc3, rfl, Nq3, Kc3, gz3, Vc3⟩ := hQ3
  have N3 : Fr n0 L3 := by rw [l3]; exact Fr.app N0 Nq3
  refine Gl.go (fun _ k => st3 _ k) ?_
  have Ex3 := ext_of_keep Kc3
  have E_a1_3 := E_a1.ext Ex3
  have F_a1_modCount_3 := M_a1.ext Ex3
  have F_a1_elementData_3 := D_a1.ext Ex3
  have F_a1_size_3 := S_a1.ext Ex3
  have V_ar_3 := V1.ext Ex3
  have E_ar_3 := E_ar.ext Ex3
  have E_y0_3 := X_y0.ext Ex3
  have SZ3 : n0 ≤ T3.heap.size := Nat.le_trans Z0 Ex3.1
  have K3 : Keep h0 T3.heap [] := K0.ext Ex3
  show Gl _ _ _ _ (T3.setTop (mkF m 11 #[.val (.ref a1)] [(.ref b3)]))
  have g_b3 : n0 ≤ b3 := Nat.le_trans Z0 gz3
  have sz_b3 : h0.size ≤ b3 := Nat.le_trans K0.1 gz3
  have ne_a1_b3 : a1 ≠ b3 := Nat.ne_of_lt (Nat.lt_of_lt_of_le E_a1.lt gz3)
  have ne_ar_b3 : ar ≠ b3 := Nat.ne_of_lt (Nat.lt_of_lt_of_le V1.lt gz3)
  have ne_y0_b3 : y0 ≠ b3 := Nat.ne_of_lt (Nat.lt_of_lt_of_le X_y0.lt gz3)
  refine leafA X3 hx hlk Bd.returns rfl rfl (hb hby d20_11) ?_ (by decide) (by decide)
  exact ⟨b3, kc3, rfl, N3, K3, sz_b3, Vc3⟩
def Q_ise_1 (Z : State) (a1 : Addr) (h0 : Heap) (n0 : Nat) (v : Option Value) (h : Heap) (L : List Loc) : Prop := v = some (.int (0 : Int32)) ∧ Fr n0 L ∧ h = h0
set_option maxRecDepth 65536 in
set_option maxHeartbeats 40000000 in
theorem rm_ise_1 (l : Launch) (Z : State) (a0 : Array Value) (hw : ∀ d ∈ tables_1, d.before a0 Z = true) (ws : List Jvm.Cond) (a1 : Addr) (h0 : Heap) (n0 : Nat) (Z0 : n0 ≤ h0.size) (S_a1 : (Fld Z h0 a1 "java/util/ArrayList" "size" "I" (.int (1 : Int32)))) :
    MetFree l (⟨"java/util/ArrayList", "isEmpty", "()Z"⟩ : MethodName) (head1 (Jvm.Cond.code (⟨"java/util/ArrayList", "isEmpty", "()Z"⟩ : MethodName) jdk_38_method_9_code 1 (some .boolean) :: ws) ({ frames := 0, cells := 0, slots := 0, locals := 0 } : Room)) (fun aa U => aa = #[(.ref a1)] ∧ Z.Warmed39 U.vm ∧ U.heap = h0) (fun _ _ _ _ _ => True) (fun _ U o U' => ∃ v L, o = .returned v ∧ Q_ise_1 Z a1 h0 n0 v U'.heap L ∧ FrameEnd U o U' L ({ frames := 0, cells := 0, slots := 0, locals := 0 } : Room).cells ({ frames := 0, cells := 0, slots := 0, locals := 0 } : Room).slots) := by
  refine MetFree.of_bodySF (plainFor_of_name pn_4) hisR ?_
  intro p e s m args below meth c s₁ Bd hml0 hP hK
  obtain ⟨rfl, hZ, hh⟩ := hP
  have hx := Bd.exec
  have hby := Bd.bytes
  have hml : c.maxLocals = 1 := hml0
  have hown : s.vm.findClass "java/util/ArrayList" = some m.cls := findClass_of_methodNamed Bd.named
  have hnm := (name_of_methodNamed Bd.named Bd.method).1
  have hlk : meth.locks = false := BodyLoose.notSynchronized Bd
  have X0 : Stand p l e ({ frames := 0, cells := 0, slots := 0, locals := 0 } : Room) s m #[(.ref a1)] below meth c s₁ [] 0 0 := Stand.of_body Bd
  have e0 : s₁.heap = h0 := by rw [← hh, Bd.state]; rfl
  have N0 := Fr.nil n0
  have K0 : Keep h0 h0 [] := Keep.refl _ _
  show Gl p.tables e below (QQof s (Q_ise_1 Z a1 h0 n0) 0 0) (s₁.setTop (entryFrame m #[(.ref a1)] 1))
  refine Gl.go (fun t k => castTop (ef_ise_1 m a1) k) ?_
  show Gl _ _ _ _ (s₁.setTop (mkF m 0 #[.val (.ref a1)] []))
  refine Gl.go (fun _ k => XS.aloadN X0.here hx rfl (hb hby d19_0) rfl rfl  k) ?_
  obtain ⟨T1, X1, e1, st1⟩ := getF X0 hx hZ hown (host := "") (Or.inl (hw _ (List.mem_of_getElem? (i := 65) rfl))) Via.refl e0 S_a1 (g := (mkF m 1 #[.val (.ref a1)] [(.ref a1)])) rfl rfl (hb hby d19_1)
  refine Gl.go (fun _ k => st1 _ k) ?_
  show Gl _ _ _ _ (T1.setTop (mkF m 4 #[.val (.ref a1)] [(.int (1 : Int32))]))
  refine Gl.go (fun _ k => XS.ifYes X1.here hx rfl (pc0 := 4) (pc' := 11) rfl (hb hby d19_4) rfl ((if0 _ _).trans (feq (by decide)).2) (by decide) (by decide) k) ?_
  show Gl _ _ _ _ (T1.setTop (mkF m 11 #[.val (.ref a1)] []))
  refine Gl.go (fun _ k => XS.iconst X1.here hx rfl (hb hby d19_11) k) ?_
  refine leafN X1 hx hlk (t := .boolean) Bd.returns (by simp) (hb hby d19_12) ?_ (by decide) (by decide)
  exact ⟨rfl, N0, e1⟩
def Q_lof_1 (Z : State) (ar eM : Addr) (kA : ClassId) (y0 : Addr) (h0 : Heap) (n0 : Nat) (v : Option Value) (h : Heap) (L : List Loc) : Prop := ∃ o, v = some (.ref o) ∧ Fr n0 L ∧ Keep h0 h [] ∧ h0.size ≤ o ∧ (Exa Z h o "java/util/ImmutableCollections$List12") ∧ (Fld Z h o "java/util/ImmutableCollections$List12" "e0" "Ljava/lang/Object;" (.ref y0)) ∧ (Fld Z h o "java/util/ImmutableCollections$List12" "e1" "Ljava/lang/Object;" (.ref eM))
set_option maxRecDepth 65536 in
set_option maxHeartbeats 40000000 in
theorem rm_lof_1 (l : Launch) (Z : State) (a0 : Array Value) (hw : ∀ d ∈ tables_1, d.before a0 Z = true) (ws : List Jvm.Cond) (ar eM : Addr) (kA : ClassId) (y0 : Addr) (h0 : Heap) (n0 : Nat) (Z0 : n0 ≤ h0.size) (V1 : (Arv Z h0 ar kA (.object "java/lang/Object") (1 : Int32) [(.ref y0)] .null)) (X_y0 : (Exa Z h0 y0 "java/lang/String")) (SE : Sta Z Z.heap "java/util/ImmutableCollections" "EMPTY" "Ljava/lang/Object;" (.ref eM)) (O0 : Old Z n0 h0) :
    MetFree l (⟨"java/util/List", "of", "([Ljava/lang/Object;)Ljava/util/List;"⟩ : MethodName) (head1 (Jvm.Cond.code (⟨"java/util/List", "of", "([Ljava/lang/Object;)Ljava/util/List;"⟩ : MethodName) jdk_40_method_47_code 2 (some (.object "java/util/List")) :: ws) ({ frames := 5, cells := 1, slots := 2, locals := 62 } : Room)) (fun aa U => aa = #[(.ref ar)] ∧ Z.Warmed39 U.vm ∧ U.heap = h0) (fun _ _ _ _ _ => True) (fun _ U o U' => ∃ v L, o = .returned v ∧ Q_lof_1 Z ar eM kA y0 h0 n0 v U'.heap L ∧ FrameEnd U o U' L ({ frames := 5, cells := 1, slots := 2, locals := 62 } : Room).cells ({ frames := 5, cells := 1, slots := 2, locals := 62 } : Room).slots) := by
  refine MetFree.of_bodySF (plainFor_of_name pn_10) hisR ?_
  intro p e s m args below meth c s₁ Bd hml0 hP hK
  obtain ⟨rfl, hZ, hh⟩ := hP
  have hx := Bd.exec
  have hby := Bd.bytes
  have hml : c.maxLocals = 2 := hml0
  have hown : s.vm.findClass "java/util/List" = some m.cls := findClass_of_methodNamed Bd.named
  have hnm := (name_of_methodNamed Bd.named Bd.method).1
  have hlk : meth.locks = false := BodyLoose.notSynchronized Bd
  have X0 : Stand p l e ({ frames := 5, cells := 1, slots := 2, locals := 62 } : Room) s m #[(.ref ar)] below meth c s₁ [] 0 0 := Stand.of_body Bd
  have e0 : s₁.heap = h0 := by rw [← hh, Bd.state]; rfl
  have N0 := Fr.nil n0
  have K0 : Keep h0 h0 [] := Keep.refl _ _
  show Gl p.tables e below (QQof s (Q_lof_1 Z ar eM kA y0 h0 n0) 1 2) (s₁.setTop (entryFrame m #[(.ref ar)] 2))
  refine Gl.go (fun t k => castTop (ef_lof_1 m ar) k) ?_
  show Gl _ _ _ _ (s₁.setTop (mkF m 0 #[.val (.ref ar), .unset] []))
  refine Gl.go (fun _ k => XS.aloadN X0.here hx rfl (hb hby d24_0) rfl rfl  k) ?_
  obtain ⟨cl1, Ar1, qA1, SA1, NA1, HA1, GA1⟩ := id V1
  refine Gl.go (fun _ k => X0.arraylength hx (by rw [e0]; exact Ar1.1) (State.isArrayOf_alike hZ.alike Ar1.2.1) (g := (mkF m 1 #[.val (.ref ar), .unset] [(.ref ar)])) rfl rfl (hb hby d24_1) _ k) ?_
  rw [len_of SA1 NA1]
  show Gl _ _ _ _ (s₁.setTop (mkF m 2 #[.val (.ref ar), .unset] [(.int (1 : Int32))]))
  refine Gl.go (fun _ k => XS.tswIn X0.here hx rfl (pc0 := 2) (pc' := 34) (o := 32) rfl (hb hby d24_2) rfl (by decide) rfl (by decide) (by decide) k) ?_
  show Gl _ _ _ _ (s₁.setTop (mkF m 34 #[.val (.ref ar), .unset] []))
  obtain ⟨T2, h2, X2, e2, E2, A2, D2, -, st2⟩ := newO X0 hx hZ hown (hw _ (List.mem_of_getElem? (i := 158) rfl)) (hw _ (List.mem_of_getElem? (i := 159) rfl)) (hw _ (List.mem_of_getElem? (i := 160) rfl)) e0 (g := (mkF m 34 #[.val (.ref ar), .unset] [])) rfl (hb hby d24_34) (by decide) (by decide)
  obtain ⟨b2, g2⟩ : ∃ z, z = h0.size := ⟨_, rfl⟩
  rw [← g2] at A2 D2 st2
  have g_b2 : n0 ≤ b2 := Nat.le_trans Z0 (Nat.le_of_eq g2.symm)
  have sz_b2 : h0.size ≤ b2 := Nat.le_trans K0.1 (Nat.le_of_eq g2.symm)
  have ne_ar_b2 : ar ≠ b2 := Nat.ne_of_lt (Nat.lt_of_lt_of_le V1.lt (Nat.le_of_eq g2.symm))
  have ne_y0_b2 : y0 ≠ b2 := Nat.ne_of_lt (Nat.lt_of_lt_of_le X_y0.lt (Nat.le_of_eq g2.symm))
  have V_ar_2 := V1.ext E2
  have E_y0_2 := X_y0.ext E2
  have O__2 := O0.ext E2
  have SZ2 : n0 ≤ h2.size := Nat.le_trans Z0 E2.1
  have K2 : Keep h0 h2 [] := K0.ext E2
  have F_b2_e0_2 : Fld Z h2 b2 "java/util/ImmutableCollections$List12" "e0" "Ljava/lang/Object;" .null := D2 (Or.inr (hw _ (List.mem_of_getElem? (i := 184) rfl))) (ty := (.object "java/lang/Object")) (by decide)
  have F_b2_e1_2 : Fld Z h2 b2 "java/util/ImmutableCollections$List12" "e1" "Ljava/lang/Object;" .null := D2 (Or.inr (hw _ (List.mem_of_getElem? (i := 186) rfl))) (ty := (.object "java/lang/Object")) (by decide)
  refine Gl.go (fun _ k => st2 _ k) ?_
  show Gl _ _ _ _ (T2.setTop (mkF m 37 #[.val (.ref ar), .unset] [(.ref b2)]))
  refine Gl.go (fun _ k => XS.dup X2.here hx rfl (hb hby d24_37) rfl rfl k) ?_
  refine Gl.go (fun _ k => XS.aloadN X2.here hx rfl (hb hby d24_38) rfl rfl  k) ?_
  refine Gl.go (fun _ k => XS.iconst X2.here hx rfl (hb hby d24_39) k) ?_
  obtain ⟨cl3, Ar3, qA3, SA3, NA3, HA3, GA3⟩ := id V_ar_2
  have hin3 := inb_of (j := (0 : Int32)) SA3 ⟨by decide, by decide⟩
  have hat3 : cl3.slots[((0 : Int32)).toNatClampNeg]? = some (.ref y0) := HA3.at hin3 rfl
  refine Gl.go (fun _ k => X2.aaload hx (j := (0 : Int32)) (v := (.ref y0)) (by rw [e2]; exact Ar3.1) (State.isArrayOf_alike hZ.alike Ar3.2.1) rfl Ar3.2.2 hin3 hat3 (g := (mkF m 40 #[.val (.ref ar), .unset] [(.int (0 : Int32)), (.ref ar), (.ref b2), (.ref b2)])) rfl rfl (hb hby d24_40) _ k) ?_
  show Gl _ _ _ _ (T2.setTop (mkF m 41 #[.val (.ref ar), .unset] [(.ref y0), (.ref b2), (.ref b2)]))
  obtain ⟨_, _, ⟨T4, L4, k4, n4⟩, -, X4, ⟨Lc4, hQ4, l4, y4, z4⟩, st4⟩ := X2.specialBack hx (y := (⟨"java/util/ImmutableCollections$List12", "<init>", "(Ljava/lang/Object;)V"⟩ : MethodName)) rfl hown (mvT hZ (hw _ (List.mem_of_getElem? (i := 255) rfl))) (mvT hZ (hw _ (List.mem_of_getElem? (i := 256) rfl))) (mvT hZ (hw _ (List.mem_of_getElem? (i := 257) rfl))) (by decide) (backOf (W := 1) (rm_i12_1 l Z a0 hw [] b2 eM y0 h2 n0 SZ2 A2 F_b2_e0_2 F_b2_e1_2 g_b2 SE O__2) hZ (hw _ (List.mem_of_getElem? (i := 257) rfl)) (hw _ (List.mem_of_getElem? (i := 160) rfl)) (by decide) (by decide)) (g := (mkF m 41 #[.val (.ref ar), .unset] [(.ref y0), (.ref b2), (.ref b2)])) rfl (by rw [hml]; rfl) (Steps.refl _) (a := b2) (argsL := [(.ref y0)]) (rest := [(.ref b2)]) (lenOf pd_9 rfl) rfl (by show 2 * 0 + _ ≤ _; exact Nat.le_of_eq rfl) (hb hby d24_41) (fun _ _ => ⟨rfl, e2, (by decide : 1 + 0 ≤ _), (by decide : 2 + 0 ≤ _)⟩)
  dsimp only [Pt.U, Pt.locs, Pt.cells, Pt.slots] at X4 l4 y4 z4 st4 hQ4
  subst y4 z4
  obtain ⟨rfl, Nq4, Kc4, Eo4, F04, F14⟩ := hQ4
  have N4 : Fr n0 L4 := by rw [l4]; exact Fr.app N0 Nq4
  refine Gl.go (fun _ k => st4.trans k) ?_
  have V_ar_4 := V_ar_2.keep Kc4 (ninS ne_ar_b2 nin0)
  have E_y0_4 := E_y0_2.keep Kc4
  have O__4 := O__2.keep Kc4 (allS g_b2 all0)
  have E_b2_4 := A2.keep Kc4
  have SZ4 : n0 ≤ T4.heap.size := Nat.le_trans SZ2 Kc4.1
  have K4 : Keep h0 T4.heap [] := K2.trans Kc4 (allS (Or.inr sz_b2) all0)
  show Gl _ _ _ _ (T4.setTop (mkF m 44 #[.val (.ref ar), .unset] [(.ref b2)]))
  refine leafA X4 hx hlk Bd.returns rfl rfl (hb hby d24_44) ?_ (by decide) (by decide)
  exact ⟨b2, rfl, N4, K4, sz_b2, Eo4, F04, F14⟩
def Q_lcp_1 (Z : State) (a1 : Addr) (mc : Int32) (ar : Addr) (kA : ClassId) (mO : Addr) (y0 : Addr) (eM : Addr) (h0 : Heap) (n0 : Nat) (v : Option Value) (h : Heap) (L : List Loc) : Prop := ∃ o, v = some (.ref o) ∧ Fr n0 L ∧ Keep h0 h [] ∧ h0.size ≤ o ∧ (Exa Z h o "java/util/ImmutableCollections$List12") ∧ (Fld Z h o "java/util/ImmutableCollections$List12" "e0" "Ljava/lang/Object;" (.ref y0)) ∧ (Fld Z h o "java/util/ImmutableCollections$List12" "e1" "Ljava/lang/Object;" (.ref eM))
set_option maxRecDepth 65536 in
set_option maxHeartbeats 40000000 in
theorem rm_lcp_1 (l : Launch) (Z : State) (a0 : Array Value) (hw : ∀ d ∈ tables_1, d.before a0 Z = true) (ws : List Jvm.Cond) (a1 : Addr) (mc : Int32) (ar : Addr) (kA : ClassId) (mO : Addr) (y0 : Addr) (eM : Addr) (h0 : Heap) (n0 : Nat) (Z0 : n0 ≤ h0.size) (E_a1 : (Exa Z h0 a1 "java/util/ArrayList")) (M_a1 : (Fld Z h0 a1 "java/util/AbstractList" "modCount" "I" (.int mc))) (D_a1 : (Fld Z h0 a1 "java/util/ArrayList" "elementData" "[Ljava/lang/Object;" (.ref ar))) (S_a1 : (Fld Z h0 a1 "java/util/ArrayList" "size" "I" (.int (1 : Int32)))) (V1 : (Arv Z h0 ar kA (.object "java/lang/Object") (10 : Int32) [(.ref y0), .null, .null, .null, .null, .null, .null, .null, .null, .null] .null)) (X_y0 : (Exa Z h0 y0 "java/lang/String")) (E_ar : (Exa Z h0 ar "[Ljava/lang/Object;")) (MO : Mr Z "[Ljava/lang/Object;" mO) (SE : Sta Z Z.heap "java/util/ImmutableCollections" "EMPTY" "Ljava/lang/Object;" (.ref eM)) (O0 : Old Z n0 h0) :
    MetFree l (⟨"java/util/ImmutableCollections", "listCopy", "(Ljava/util/Collection;)Ljava/util/List;"⟩ : MethodName) (head1 (Jvm.Cond.code (⟨"java/util/ImmutableCollections", "listCopy", "(Ljava/util/Collection;)Ljava/util/List;"⟩ : MethodName) jdk_56_method_3_code 2 (some (.object "java/util/List")) :: ws) ({ frames := 6, cells := 2, slots := 3, locals := 75 } : Room)) (fun aa U => aa = #[(.ref a1)] ∧ Z.Warmed39 U.vm ∧ U.heap = h0) (fun _ _ _ _ _ => True) (fun _ U o U' => ∃ v L, o = .returned v ∧ Q_lcp_1 Z a1 mc ar kA mO y0 eM h0 n0 v U'.heap L ∧ FrameEnd U o U' L ({ frames := 6, cells := 2, slots := 3, locals := 75 } : Room).cells ({ frames := 6, cells := 2, slots := 3, locals := 75 } : Room).slots) := by
  refine MetFree.of_bodySF (plainFor_of_name pn_8) hisR ?_
  intro p e s m args below meth c s₁ Bd hml0 hP hK
  obtain ⟨rfl, hZ, hh⟩ := hP
  have hx := Bd.exec
  have hby := Bd.bytes
  have hml : c.maxLocals = 2 := hml0
  have hown : s.vm.findClass "java/util/ImmutableCollections" = some m.cls := findClass_of_methodNamed Bd.named
  have hnm := (name_of_methodNamed Bd.named Bd.method).1
  have hlk : meth.locks = false := BodyLoose.notSynchronized Bd
  have X0 : Stand p l e ({ frames := 6, cells := 2, slots := 3, locals := 75 } : Room) s m #[(.ref a1)] below meth c s₁ [] 0 0 := Stand.of_body Bd
  have e0 : s₁.heap = h0 := by rw [← hh, Bd.state]; rfl
  have N0 := Fr.nil n0
  have K0 : Keep h0 h0 [] := Keep.refl _ _
  show Gl p.tables e below (QQof s (Q_lcp_1 Z a1 mc ar kA mO y0 eM h0 n0) 2 3) (s₁.setTop (entryFrame m #[(.ref a1)] 2))
  refine Gl.go (fun t k => castTop (ef_lcp_1 m a1) k) ?_
  show Gl _ _ _ _ (s₁.setTop (mkF m 0 #[.val (.ref a1), .unset] []))
  refine Gl.go (fun _ k => XS.aloadN X0.here hx rfl (hb hby d18_0) rfl rfl  k) ?_
  obtain ⟨T1, X1, e1, st1⟩ := instNo X0 hx hZ hown (hw _ (List.mem_of_getElem? (i := 110) rfl)) e0 E_a1 (own_no (C := "java/util/ArrayList") (hw _ (List.mem_of_getElem? (i := 111) rfl)) (hw _ (List.mem_of_getElem? (i := 112) rfl)) (hw _ (List.mem_of_getElem? (i := 113) rfl)) (hw _ (List.mem_of_getElem? (i := 114) rfl)) (hw _ (List.mem_of_getElem? (i := 159) rfl)) (by decide) (by decide) (by decide) (by decide)) (g := (mkF m 1 #[.val (.ref a1), .unset] [(.ref a1)])) rfl rfl (hb hby d18_1)
  refine Gl.go (fun _ k => st1 _ k) ?_
  show Gl _ _ _ _ (T1.setTop (mkF m 4 #[.val (.ref a1), .unset] [(.int (0 : Int32))]))
  refine Gl.go (fun _ k => XS.ifNo X1.here hx rfl (hb hby d18_4) rfl ((if0 _ _).trans (teq rfl).2) k) ?_
  show Gl _ _ _ _ (T1.setTop (mkF m 7 #[.val (.ref a1), .unset] []))
  refine Gl.go (fun _ k => XS.aloadN X1.here hx rfl (hb hby d18_7) rfl rfl  k) ?_
  obtain ⟨T2, X2, e2, st2⟩ := instNo X1 hx hZ hown (hw _ (List.mem_of_getElem? (i := 115) rfl)) e1 E_a1 (own_no (C := "java/util/ArrayList") (hw _ (List.mem_of_getElem? (i := 111) rfl)) (hw _ (List.mem_of_getElem? (i := 112) rfl)) (hw _ (List.mem_of_getElem? (i := 113) rfl)) (hw _ (List.mem_of_getElem? (i := 114) rfl)) (hw _ (List.mem_of_getElem? (i := 263) rfl)) (by decide) (by decide) (by decide) (by decide)) (g := (mkF m 8 #[.val (.ref a1), .unset] [(.ref a1)])) rfl rfl (hb hby d18_8)
  refine Gl.go (fun _ k => st2 _ k) ?_
  show Gl _ _ _ _ (T2.setTop (mkF m 11 #[.val (.ref a1), .unset] [(.int (0 : Int32))]))
  refine Gl.go (fun _ k => XS.ifYes X2.here hx rfl (pc0 := 11) (pc' := 31) rfl (hb hby d18_11) rfl ((if0 _ _).trans (teq rfl).1) (by decide) (by decide) k) ?_
  show Gl _ _ _ _ (T2.setTop (mkF m 31 #[.val (.ref a1), .unset] []))
  refine Gl.go (fun _ k => XS.aloadN X2.here hx rfl (hb hby d18_31) rfl rfl  k) ?_
  obtain ⟨cq3, kq3, q3a, q3b, q3c⟩ := isOf hZ e2 E_a1
  obtain ⟨_, _, ⟨T3, L3, k3, n3⟩, -, X3, ⟨Lc3, hQ3, l3, y3, z3⟩, st3⟩ := X2.interfaceBack hx (xi := (⟨"java/util/Collection", "isEmpty", "()Z"⟩ : MethodName)) (y := (⟨"java/util/ArrayList", "isEmpty", "()Z"⟩ : MethodName)) hown (mvT hZ (hw _ (List.mem_of_getElem? (i := 116) rfl))) (mvT hZ (hw _ (List.mem_of_getElem? (i := 117) rfl))) (mvT hZ (hw _ (List.mem_of_getElem? (i := 118) rfl))) (mvT hZ (hw _ (List.mem_of_getElem? (i := 119) rfl))) (mvT hZ (hw _ (List.mem_of_getElem? (i := 120) rfl))) (mvT hZ (hw _ (List.mem_of_getElem? (i := 121) rfl))) (mvT hZ (hw _ (List.mem_of_getElem? (i := 122) rfl))) (mvT hZ (hw _ (List.mem_of_getElem? (i := 123) rfl))) (by decide) (backOf (W := 0) (rm_ise_1 l Z a0 hw [] a1 h0 n0 Z0 S_a1) hZ (hw _ (List.mem_of_getElem? (i := 124) rfl)) (hw _ (List.mem_of_getElem? (i := 36) rfl)) (by decide) (by decide)) q3a q3b q3c (g := (mkF m 32 #[.val (.ref a1), .unset] [(.ref a1)])) rfl (by rw [hml]; rfl) (Steps.refl _) (argsL := []) (rest := []) (lenOf pd_10 rfl) rfl (by show 2 * 0 + _ ≤ _; exact Nat.le_of_eq rfl) (hb hby d18_32) (fun _ _ => ⟨rfl, e2, (by decide : 0 + 0 ≤ _), (by decide : 0 + 0 ≤ _)⟩)
  dsimp only [Pt.U, Pt.locs, Pt.cells, Pt.slots] at X3 l3 y3 z3 st3 hQ3
  subst y3 z3
  obtain ⟨rfl, Nq3, e3⟩ := hQ3
  have N3 : Fr n0 L3 := by rw [l3]; exact Fr.app N0 Nq3
  refine Gl.go (fun _ k => st3.trans k) ?_
  show Gl _ _ _ _ (T3.setTop (mkF m 37 #[.val (.ref a1), .unset] [(.int (0 : Int32))]))
  refine Gl.go (fun _ k => XS.ifYes X3.here hx rfl (pc0 := 37) (pc' := 44) rfl (hb hby d18_37) rfl ((if0 _ _).trans (teq rfl).1) (by decide) (by decide) k) ?_
  show Gl _ _ _ _ (T3.setTop (mkF m 44 #[.val (.ref a1), .unset] []))
  refine Gl.go (fun _ k => XS.aloadN X3.here hx rfl (hb hby d18_44) rfl rfl  k) ?_
  obtain ⟨cq4, kq4, q4a, q4b, q4c⟩ := isOf hZ e3 E_a1
  obtain ⟨_, _, ⟨T4, L4, k4, n4⟩, -, X4, ⟨Lc4, hQ4, l4, y4, z4⟩, st4⟩ := X3.interfaceBack hx (xi := (⟨"java/util/Collection", "toArray", "()[Ljava/lang/Object;"⟩ : MethodName)) (y := (⟨"java/util/ArrayList", "toArray", "()[Ljava/lang/Object;"⟩ : MethodName)) hown (mvT hZ (hw _ (List.mem_of_getElem? (i := 125) rfl))) (mvT hZ (hw _ (List.mem_of_getElem? (i := 126) rfl))) (mvT hZ (hw _ (List.mem_of_getElem? (i := 127) rfl))) (mvT hZ (hw _ (List.mem_of_getElem? (i := 128) rfl))) (mvT hZ (hw _ (List.mem_of_getElem? (i := 129) rfl))) (mvT hZ (hw _ (List.mem_of_getElem? (i := 130) rfl))) (mvT hZ (hw _ (List.mem_of_getElem? (i := 131) rfl))) (mvT hZ (hw _ (List.mem_of_getElem? (i := 123) rfl))) (by decide) (backOf (W := 0) (rm_toa_1 l Z a0 hw [] a1 mc ar kA mO y0 h0 n0 Z0 E_a1 M_a1 D_a1 S_a1 V1 X_y0 E_ar MO) hZ (hw _ (List.mem_of_getElem? (i := 132) rfl)) (hw _ (List.mem_of_getElem? (i := 36) rfl)) (by decide) (by decide)) q4a q4b q4c (g := (mkF m 45 #[.val (.ref a1), .unset] [(.ref a1)])) rfl (by rw [hml]; rfl) (Steps.refl _) (argsL := []) (rest := []) (lenOf pd_3 rfl) rfl (by show 2 * 0 + _ ≤ _; exact Nat.le_of_eq rfl) (hb hby d18_45) (fun _ _ => ⟨rfl, e3, (by decide : 0 + 1 ≤ _), (by decide : 0 + 1 ≤ _)⟩)
  dsimp only [Pt.U, Pt.locs, Pt.cells, Pt.slots] at X4 l4 y4 z4 st4 hQ4
  subst y4 z4
  obtain ⟨b4, kc4, rfl, Nq4, Kc4, gz4, Vc4⟩ := hQ4
  have N4 : Fr n0 L4 := by rw [l4]; exact Fr.app N3 Nq4
  refine Gl.go (fun _ k => st4.trans k) ?_
  have Ex4 := ext_of_keep Kc4
  have E_a1_4 := E_a1.ext Ex4
  have F_a1_modCount_4 := M_a1.ext Ex4
  have F_a1_elementData_4 := D_a1.ext Ex4
  have F_a1_size_4 := S_a1.ext Ex4
  have V_ar_4 := V1.ext Ex4
  have E_ar_4 := E_ar.ext Ex4
  have E_y0_4 := X_y0.ext Ex4
  have O__4 := O0.ext Ex4
  have SZ4 : n0 ≤ T4.heap.size := Nat.le_trans Z0 Ex4.1
  have K4 : Keep h0 T4.heap [] := K0.ext Ex4
  show Gl _ _ _ _ (T4.setTop (mkF m 50 #[.val (.ref a1), .unset] [(.ref b4)]))
  have g_b4 : n0 ≤ b4 := Nat.le_trans Z0 gz4
  have sz_b4 : h0.size ≤ b4 := Nat.le_trans K0.1 gz4
  have ne_a1_b4 : a1 ≠ b4 := Nat.ne_of_lt (Nat.lt_of_lt_of_le E_a1.lt gz4)
  have ne_ar_b4 : ar ≠ b4 := Nat.ne_of_lt (Nat.lt_of_lt_of_le V1.lt gz4)
  have ne_y0_b4 : y0 ≠ b4 := Nat.ne_of_lt (Nat.lt_of_lt_of_le X_y0.lt gz4)
  obtain ⟨_, _, ⟨T5, L5, k5, n5⟩, -, X5, ⟨Lc5, hQ5, l5, y5, z5⟩, st5⟩ := Jvm.LawKit.callS X4 hx (y := (⟨"java/util/List", "of", "([Ljava/lang/Object;)Ljava/util/List;"⟩ : MethodName)) hown (mvT hZ (hw _ (List.mem_of_getElem? (i := 155) rfl))) (mvT hZ (hw _ (List.mem_of_getElem? (i := 156) rfl))) (mvT hZ (hw _ (List.mem_of_getElem? (i := 104) rfl))) (mvT hZ (hw _ (List.mem_of_getElem? (i := 157) rfl))) (by decide) (backOf (W := 0) (rm_lof_1 l Z a0 hw [] b4 eM kc4 y0 T4.heap n0 SZ4 Vc4 E_y0_4 SE O__4) hZ (hw _ (List.mem_of_getElem? (i := 157) rfl)) (hw _ (List.mem_of_getElem? (i := 104) rfl)) (by decide) (by decide)) (g := (mkF m 50 #[.val (.ref a1), .unset] [(.ref b4)])) rfl (by rw [hml]; rfl) (argsL := [(.ref b4)]) (rest := []) (lenOf pd_11 rfl) rfl (by show 2 * 0 + _ ≤ _; exact Nat.le_of_eq rfl) (hb hby d18_50) (fun _ _ => ⟨rfl, rfl, (by decide : 1 + 1 ≤ _), (by decide : 1 + 2 ≤ _)⟩)
  dsimp only [Pt.U, Pt.locs, Pt.cells, Pt.slots] at X5 l5 y5 z5 st5 hQ5
  subst y5 z5
  obtain ⟨o5, rfl, Nq5, Kc5, gz5, Eo5, F05, F15⟩ := hQ5
  have N5 : Fr n0 L5 := by rw [l5]; exact Fr.app N4 Nq5
  refine Gl.go (fun _ k => st5 _ k) ?_
  have Ex5 := ext_of_keep Kc5
  have E_a1_5 := E_a1_4.ext Ex5
  have F_a1_modCount_5 := F_a1_modCount_4.ext Ex5
  have F_a1_elementData_5 := F_a1_elementData_4.ext Ex5
  have F_a1_size_5 := F_a1_size_4.ext Ex5
  have V_ar_5 := V_ar_4.ext Ex5
  have E_ar_5 := E_ar_4.ext Ex5
  have E_y0_5 := E_y0_4.ext Ex5
  have O__5 := O__4.ext Ex5
  have V_b4_5 := Vc4.ext Ex5
  have SZ5 : n0 ≤ T5.heap.size := Nat.le_trans SZ4 Ex5.1
  have K5 : Keep h0 T5.heap [] := K4.ext Ex5
  show Gl _ _ _ _ (T5.setTop (mkF m 53 #[.val (.ref a1), .unset] [(.ref o5)]))
  have g_o5 : n0 ≤ o5 := Nat.le_trans SZ4 gz5
  have sz_o5 : h0.size ≤ o5 := Nat.le_trans K4.1 gz5
  have ne_a1_o5 : a1 ≠ o5 := Nat.ne_of_lt (Nat.lt_of_lt_of_le E_a1_4.lt gz5)
  have ne_ar_o5 : ar ≠ o5 := Nat.ne_of_lt (Nat.lt_of_lt_of_le V_ar_4.lt gz5)
  have ne_b4_o5 : b4 ≠ o5 := Nat.ne_of_lt (Nat.lt_of_lt_of_le Vc4.lt gz5)
  have ne_y0_o5 : y0 ≠ o5 := Nat.ne_of_lt (Nat.lt_of_lt_of_le E_y0_4.lt gz5)
  refine leafA X5 hx hlk Bd.returns rfl rfl (hb hby d18_53) ?_ (by decide) (by decide)
  exact ⟨o5, rfl, N5, K5, sz_o5, Eo5, F05, F15⟩
def Q_lco_1 (Z : State) (a1 : Addr) (mc : Int32) (ar : Addr) (kA : ClassId) (mO : Addr) (y0 : Addr) (eM : Addr) (h0 : Heap) (n0 : Nat) (v : Option Value) (h : Heap) (L : List Loc) : Prop := ∃ o, v = some (.ref o) ∧ Fr n0 L ∧ Keep h0 h [] ∧ h0.size ≤ o ∧ (Exa Z h o "java/util/ImmutableCollections$List12") ∧ (Fld Z h o "java/util/ImmutableCollections$List12" "e0" "Ljava/lang/Object;" (.ref y0)) ∧ (Fld Z h o "java/util/ImmutableCollections$List12" "e1" "Ljava/lang/Object;" (.ref eM))
set_option maxRecDepth 65536 in
set_option maxHeartbeats 40000000 in
theorem rm_lco_1 (l : Launch) (Z : State) (a0 : Array Value) (hw : ∀ d ∈ tables_1, d.before a0 Z = true) (ws : List Jvm.Cond) (a1 : Addr) (mc : Int32) (ar : Addr) (kA : ClassId) (mO : Addr) (y0 : Addr) (eM : Addr) (h0 : Heap) (n0 : Nat) (Z0 : n0 ≤ h0.size) (E_a1 : (Exa Z h0 a1 "java/util/ArrayList")) (M_a1 : (Fld Z h0 a1 "java/util/AbstractList" "modCount" "I" (.int mc))) (D_a1 : (Fld Z h0 a1 "java/util/ArrayList" "elementData" "[Ljava/lang/Object;" (.ref ar))) (S_a1 : (Fld Z h0 a1 "java/util/ArrayList" "size" "I" (.int (1 : Int32)))) (V1 : (Arv Z h0 ar kA (.object "java/lang/Object") (10 : Int32) [(.ref y0), .null, .null, .null, .null, .null, .null, .null, .null, .null] .null)) (X_y0 : (Exa Z h0 y0 "java/lang/String")) (E_ar : (Exa Z h0 ar "[Ljava/lang/Object;")) (MO : Mr Z "[Ljava/lang/Object;" mO) (SE : Sta Z Z.heap "java/util/ImmutableCollections" "EMPTY" "Ljava/lang/Object;" (.ref eM)) (O0 : Old Z n0 h0) :
    MetFree l (⟨"java/util/List", "copyOf", "(Ljava/util/Collection;)Ljava/util/List;"⟩ : MethodName) (head1 (Jvm.Cond.code (⟨"java/util/List", "copyOf", "(Ljava/util/Collection;)Ljava/util/List;"⟩ : MethodName) jdk_40_method_48_code 1 (some (.object "java/util/List")) :: ws) ({ frames := 7, cells := 2, slots := 3, locals := 88 } : Room)) (fun aa U => aa = #[(.ref a1)] ∧ Z.Warmed39 U.vm ∧ U.heap = h0) (fun _ _ _ _ _ => True) (fun _ U o U' => ∃ v L, o = .returned v ∧ Q_lco_1 Z a1 mc ar kA mO y0 eM h0 n0 v U'.heap L ∧ FrameEnd U o U' L ({ frames := 7, cells := 2, slots := 3, locals := 88 } : Room).cells ({ frames := 7, cells := 2, slots := 3, locals := 88 } : Room).slots) := by
  refine MetFree.of_bodySF (plainFor_of_name pn_10) hisR ?_
  intro p e s m args below meth c s₁ Bd hml0 hP hK
  obtain ⟨rfl, hZ, hh⟩ := hP
  have hx := Bd.exec
  have hby := Bd.bytes
  have hml : c.maxLocals = 1 := hml0
  have hown : s.vm.findClass "java/util/List" = some m.cls := findClass_of_methodNamed Bd.named
  have hnm := (name_of_methodNamed Bd.named Bd.method).1
  have hlk : meth.locks = false := BodyLoose.notSynchronized Bd
  have X0 : Stand p l e ({ frames := 7, cells := 2, slots := 3, locals := 88 } : Room) s m #[(.ref a1)] below meth c s₁ [] 0 0 := Stand.of_body Bd
  have e0 : s₁.heap = h0 := by rw [← hh, Bd.state]; rfl
  have N0 := Fr.nil n0
  have K0 : Keep h0 h0 [] := Keep.refl _ _
  show Gl p.tables e below (QQof s (Q_lco_1 Z a1 mc ar kA mO y0 eM h0 n0) 2 3) (s₁.setTop (entryFrame m #[(.ref a1)] 1))
  refine Gl.go (fun t k => castTop (ef_lco_1 m a1) k) ?_
  show Gl _ _ _ _ (s₁.setTop (mkF m 0 #[.val (.ref a1)] []))
  refine Gl.go (fun _ k => XS.aloadN X0.here hx rfl (hb hby d17_0) rfl rfl  k) ?_
  obtain ⟨_, _, ⟨T1, L1, k1, n1⟩, -, X1, ⟨Lc1, hQ1, l1, y1, z1⟩, st1⟩ := Jvm.LawKit.callS X0 hx (y := (⟨"java/util/ImmutableCollections", "listCopy", "(Ljava/util/Collection;)Ljava/util/List;"⟩ : MethodName)) hown (mvT hZ (hw _ (List.mem_of_getElem? (i := 106) rfl))) (mvT hZ (hw _ (List.mem_of_getElem? (i := 107) rfl))) (mvT hZ (hw _ (List.mem_of_getElem? (i := 108) rfl))) (mvT hZ (hw _ (List.mem_of_getElem? (i := 109) rfl))) (by decide) (backOf (W := 0) (rm_lcp_1 l Z a0 hw [] a1 mc ar kA mO y0 eM h0 n0 Z0 E_a1 M_a1 D_a1 S_a1 V1 X_y0 E_ar MO SE O0) hZ (hw _ (List.mem_of_getElem? (i := 109) rfl)) (hw _ (List.mem_of_getElem? (i := 108) rfl)) (by decide) (by decide)) (g := (mkF m 1 #[.val (.ref a1)] [(.ref a1)])) rfl (by rw [hml]; rfl) (argsL := [(.ref a1)]) (rest := []) (lenOf pd_12 rfl) rfl (by show 2 * 0 + _ ≤ _; exact Nat.le_of_eq rfl) (hb hby d17_1) (fun _ _ => ⟨rfl, e0, (by decide : 0 + 2 ≤ _), (by decide : 0 + 3 ≤ _)⟩)
  dsimp only [Pt.U, Pt.locs, Pt.cells, Pt.slots] at X1 l1 y1 z1 st1 hQ1
  subst y1 z1
  obtain ⟨o1, rfl, Nq1, Kc1, gz1, Eo1, F01, F11⟩ := hQ1
  have N1 : Fr n0 L1 := by rw [l1]; exact Fr.app N0 Nq1
  refine Gl.go (fun _ k => st1 _ k) ?_
  have Ex1 := ext_of_keep Kc1
  have E_a1_1 := E_a1.ext Ex1
  have F_a1_modCount_1 := M_a1.ext Ex1
  have F_a1_elementData_1 := D_a1.ext Ex1
  have F_a1_size_1 := S_a1.ext Ex1
  have V_ar_1 := V1.ext Ex1
  have E_ar_1 := E_ar.ext Ex1
  have E_y0_1 := X_y0.ext Ex1
  have O__1 := O0.ext Ex1
  have SZ1 : n0 ≤ T1.heap.size := Nat.le_trans Z0 Ex1.1
  have K1 : Keep h0 T1.heap [] := K0.ext Ex1
  show Gl _ _ _ _ (T1.setTop (mkF m 4 #[.val (.ref a1)] [(.ref o1)]))
  have g_o1 : n0 ≤ o1 := Nat.le_trans Z0 gz1
  have sz_o1 : h0.size ≤ o1 := Nat.le_trans K0.1 gz1
  have ne_a1_o1 : a1 ≠ o1 := Nat.ne_of_lt (Nat.lt_of_lt_of_le E_a1.lt gz1)
  have ne_ar_o1 : ar ≠ o1 := Nat.ne_of_lt (Nat.lt_of_lt_of_le V1.lt gz1)
  have ne_y0_o1 : y0 ≠ o1 := Nat.ne_of_lt (Nat.lt_of_lt_of_le X_y0.lt gz1)
  refine leafA X1 hx hlk Bd.returns rfl rfl (hb hby d17_4) ?_ (by decide) (by decide)
  exact ⟨o1, rfl, N1, K1, sz_o1, Eo1, F01, F11⟩
def Q_cp3_2 (Z : State) (ar : Addr) (kA : ClassId) (mO : Addr) (y0 : Addr) (y1 : Addr) (h0 : Heap) (n0 : Nat) (v : Option Value) (h : Heap) (L : List Loc) : Prop := ∃ b kB, v = some (.ref b) ∧ Fr n0 L ∧ Keep h0 h [] ∧ h0.size ≤ b ∧ (Arv Z h b kB (.object "java/lang/Object") (2 : Int32) [(.ref y0), (.ref y1)] .null)
set_option maxRecDepth 65536 in
set_option maxHeartbeats 40000000 in
theorem rm_cp3_2 (l : Launch) (Z : State) (a0 : Array Value) (hw : ∀ d ∈ tables_1, d.before a0 Z = true) (ws : List Jvm.Cond) (ar : Addr) (kA : ClassId) (mO : Addr) (y0 : Addr) (y1 : Addr) (h0 : Heap) (n0 : Nat) (Z0 : n0 ≤ h0.size) (V1 : (Arv Z h0 ar kA (.object "java/lang/Object") (10 : Int32) [(.ref y0), (.ref y1), .null, .null, .null, .null, .null, .null, .null, .null] .null)) (X_y0 : (Exa Z h0 y0 "java/lang/String")) (X_y1 : (Exa Z h0 y1 "java/lang/String")) (MO : Mr Z "[Ljava/lang/Object;" mO) :
    MetFree l (⟨"java/util/Arrays", "copyOf", "([Ljava/lang/Object;ILjava/lang/Class;)[Ljava/lang/Object;"⟩ : MethodName) (head1 (Jvm.Cond.code (⟨"java/util/Arrays", "copyOf", "([Ljava/lang/Object;ILjava/lang/Class;)[Ljava/lang/Object;"⟩ : MethodName) jdk_65_method_120_code 4 (some (.array (.object "java/lang/Object"))) :: ws) ({ frames := 1, cells := 1, slots := 2, locals := 18 } : Room)) (fun aa U => aa = #[(.ref ar), (.int (2 : Int32)), (.ref mO)] ∧ Z.Warmed39 U.vm ∧ U.heap = h0) (fun _ _ _ _ _ => True) (fun _ U o U' => ∃ v L, o = .returned v ∧ Q_cp3_2 Z ar kA mO y0 y1 h0 n0 v U'.heap L ∧ FrameEnd U o U' L ({ frames := 1, cells := 1, slots := 2, locals := 18 } : Room).cells ({ frames := 1, cells := 1, slots := 2, locals := 18 } : Room).slots) := by
  refine MetFree.of_bodySF (plainFor_of_name pn_9) hisR ?_
  intro p e s m args below meth c s₁ Bd hml0 hP hK
  obtain ⟨rfl, hZ, hh⟩ := hP
  have hx := Bd.exec
  have hby := Bd.bytes
  have hml : c.maxLocals = 4 := hml0
  have hown : s.vm.findClass "java/util/Arrays" = some m.cls := findClass_of_methodNamed Bd.named
  have hnm := (name_of_methodNamed Bd.named Bd.method).1
  have hlk : meth.locks = false := BodyLoose.notSynchronized Bd
  have X0 : Stand p l e ({ frames := 1, cells := 1, slots := 2, locals := 18 } : Room) s m #[(.ref ar), (.int (2 : Int32)), (.ref mO)] below meth c s₁ [] 0 0 := Stand.of_body Bd
  have e0 : s₁.heap = h0 := by rw [← hh, Bd.state]; rfl
  have N0 := Fr.nil n0
  have K0 : Keep h0 h0 [] := Keep.refl _ _
  show Gl p.tables e below (QQof s (Q_cp3_2 Z ar kA mO y0 y1 h0 n0) 1 2) (s₁.setTop (entryFrame m #[(.ref ar), (.int (2 : Int32)), (.ref mO)] 4))
  refine Gl.go (fun t k => castTop (ef_cp3_2 m ar (2 : Int32) mO) k) ?_
  show Gl _ _ _ _ (s₁.setTop (mkF m 0 #[.val (.ref ar), .val (.int (2 : Int32)), .val (.ref mO), .unset] []))
  refine Gl.go (fun _ k => XS.aloadN X0.here hx rfl (hb hby d22_0) rfl rfl  k) ?_
  obtain ⟨T1, X1, e1, st1⟩ := ldcM X0 hx hZ hown (hw _ (List.mem_of_getElem? (i := 146) rfl)) e0 MO (g := (mkF m 1 #[.val (.ref ar), .val (.int (2 : Int32)), .val (.ref mO), .unset] [(.ref mO)])) rfl (hb hby d22_1)
  refine Gl.go (fun _ k => st1 _ k) ?_
  show Gl _ _ _ _ (T1.setTop (mkF m 3 #[.val (.ref ar), .val (.int (2 : Int32)), .val (.ref mO), .unset] [(.ref mO), (.ref mO)]))
  refine Gl.go (fun _ k => Jvm.RoadKit.acmp (g := (mkF m 3 #[.val (.ref ar), .val (.int (2 : Int32)), .val (.ref mO), .unset] [(.ref mO), (.ref mO)])) X1 hx rfl rfl rfl (pc0 := 3) (pc' := 6) (same := true) rfl (hb hby d22_3) rfl (decide_eq_true (congrArg Value.ref (rfl : mO = mO))) (by decide) (by decide) k) ?_
  show Gl _ _ _ _ (T1.setTop (mkF m 6 #[.val (.ref ar), .val (.int (2 : Int32)), .val (.ref mO), .unset] []))
  refine Gl.go (fun _ k => XS.iloadN X1.here hx rfl (hb hby d22_6) rfl  k) ?_
  obtain ⟨T2, h2, cA2, X2, e2, E2, A2, O2, st2⟩ := newR X1 hx hZ hown (hw _ (List.mem_of_getElem? (i := 147) rfl)) (hw _ (List.mem_of_getElem? (i := 87) rfl)) e1 (g := (mkF m 7 #[.val (.ref ar), .val (.int (2 : Int32)), .val (.ref mO), .unset] [(.int (2 : Int32))])) rfl (hb hby d22_7) rfl (by decide) (cap := 2) (by decide) (by decide) (by decide) (by decide)
  obtain ⟨b2, g2⟩ : ∃ z, z = h0.size := ⟨_, rfl⟩
  rw [← g2] at A2 st2
  have g_b2 : n0 ≤ b2 := Nat.le_trans Z0 (Nat.le_of_eq g2.symm)
  have sz_b2 : h0.size ≤ b2 := Nat.le_trans K0.1 (Nat.le_of_eq g2.symm)
  have ne_ar_b2 : ar ≠ b2 := Nat.ne_of_lt (Nat.lt_of_lt_of_le V1.lt (Nat.le_of_eq g2.symm))
  have ne_y0_b2 : y0 ≠ b2 := Nat.ne_of_lt (Nat.lt_of_lt_of_le X_y0.lt (Nat.le_of_eq g2.symm))
  have ne_y1_b2 : y1 ≠ b2 := Nat.ne_of_lt (Nat.lt_of_lt_of_le X_y1.lt (Nat.le_of_eq g2.symm))
  have V_ar_2 := V1.ext E2
  have E_y0_2 := X_y0.ext E2
  have E_y1_2 := X_y1.ext E2
  have SZ2 : n0 ≤ h2.size := Nat.le_trans Z0 E2.1
  have K2 : Keep h0 h2 [] := K0.ext E2
  have V_b2_2 : Arv Z h2 b2 cA2 (.object "java/lang/Object") (2 : Int32) [.null, .null] .null := (Arv.new A2 (by decide)).pad (pad_rep [] _ 2)
  refine Gl.go (fun _ k => st2 _ k) ?_
  show Gl _ _ _ _ (T2.setTop (mkF m 10 #[.val (.ref ar), .val (.int (2 : Int32)), .val (.ref mO), .unset] [(.ref b2)]))
  refine Gl.go (fun _ k => XS.goto X2.here hx rfl (pc0 := 10) (pc' := 24) rfl (hb hby d22_10) (by decide) (by decide) k) ?_
  refine Gl.go (fun _ k => XS.astoreN X2.here hx rfl (hb hby d22_24) rfl rfl (l' := #[.val (.ref ar), .val (.int (2 : Int32)), .val (.ref mO), .val (.ref b2)]) rfl k) ?_
  refine Gl.go (fun _ k => XS.aloadN X2.here hx rfl (hb hby d22_25) rfl rfl  k) ?_
  refine Gl.go (fun _ k => XS.iconst X2.here hx rfl (hb hby d22_26) k) ?_
  show Gl _ _ _ _ (T2.setTop (mkF m 27 #[.val (.ref ar), .val (.int (2 : Int32)), .val (.ref mO), .val (.ref b2)] [(.int (0 : Int32)), (.ref ar)]))
  refine Gl.go (fun _ k => XS.aloadN X2.here hx rfl (hb hby d22_27) rfl rfl  k) ?_
  refine Gl.go (fun _ k => XS.iconst X2.here hx rfl (hb hby d22_28) k) ?_
  refine Gl.go (fun _ k => XS.aloadN X2.here hx rfl (hb hby d22_29) rfl rfl  k) ?_
  obtain ⟨cl3, Ar3, qA3, SA3, NA3, HA3, GA3⟩ := id V_ar_2
  refine Gl.go (fun _ k => X2.arraylength hx (by rw [e2]; exact Ar3.1) (State.isArrayOf_alike hZ.alike Ar3.2.1) (g := (mkF m 30 #[.val (.ref ar), .val (.int (2 : Int32)), .val (.ref mO), .val (.ref b2)] [(.ref ar), (.int (0 : Int32)), (.ref b2), (.int (0 : Int32)), (.ref ar)])) rfl rfl (hb hby d22_30) _ k) ?_
  rw [len_of SA3 NA3]
  show Gl _ _ _ _ (T2.setTop (mkF m 31 #[.val (.ref ar), .val (.int (2 : Int32)), .val (.ref mO), .val (.ref b2)] [(.int (10 : Int32)), (.int (0 : Int32)), (.ref b2), (.int (0 : Int32)), (.ref ar)]))
  refine Gl.go (fun _ k => XS.iloadN X2.here hx rfl (hb hby d22_31) rfl  k) ?_
  obtain ⟨_, _, ⟨T4, L4, k4, n4⟩, -, X4, ⟨Lc4, hQ4, l4, y4, z4⟩, st4⟩ := Jvm.LawKit.callS X2 hx (y := (⟨"java/lang/Math", "min", "(II)I"⟩ : MethodName)) hown (mvT hZ (hw _ (List.mem_of_getElem? (i := 148) rfl))) (mvT hZ (hw _ (List.mem_of_getElem? (i := 149) rfl))) (mvT hZ (hw _ (List.mem_of_getElem? (i := 84) rfl))) (mvT hZ (hw _ (List.mem_of_getElem? (i := 150) rfl))) (by decide) (backOf (W := 4) (rm_mn2 l Z a0 hw []  h2 n0 SZ2 ) hZ (hw _ (List.mem_of_getElem? (i := 150) rfl)) (hw _ (List.mem_of_getElem? (i := 84) rfl)) (by decide) (by decide)) (g := (mkF m 32 #[.val (.ref ar), .val (.int (2 : Int32)), .val (.ref mO), .val (.ref b2)] [(.int (2 : Int32)), (.int (10 : Int32)), (.int (0 : Int32)), (.ref b2), (.int (0 : Int32)), (.ref ar)])) rfl (by rw [hml]; rfl) (argsL := [(.int (10 : Int32)), (.int (2 : Int32))]) (rest := [(.int (0 : Int32)), (.ref b2), (.int (0 : Int32)), (.ref ar)]) (lenOf pd_1 rfl) rfl (by show 2 * 0 + _ ≤ _; exact Nat.le_of_eq rfl) (hb hby d22_32) (fun _ _ => ⟨rfl, e2, (by decide : 1 + 0 ≤ _), (by decide : 2 + 0 ≤ _)⟩)
  dsimp only [Pt.U, Pt.locs, Pt.cells, Pt.slots] at X4 l4 y4 z4 st4 hQ4
  subst y4 z4
  obtain ⟨rfl, Nq4, e4⟩ := hQ4
  have N4 : Fr n0 L4 := by rw [l4]; exact Fr.app N0 Nq4
  refine Gl.go (fun _ k => st4 _ k) ?_
  show Gl _ _ _ _ (T4.setTop (mkF m 35 #[.val (.ref ar), .val (.int (2 : Int32)), .val (.ref mO), .val (.ref b2)] [(.int (2 : Int32)), (.int (0 : Int32)), (.ref b2), (.int (0 : Int32)), (.ref ar)]))
  obtain ⟨clb, Arb, qAb, -⟩ := id V_b2_2
  obtain ⟨T5, h5, L5, X5, e5, N5, K_5, A5, st5⟩ := cpA X4 hx hZ hown (hw _ (List.mem_of_getElem? (i := 151) rfl)) (hw _ (List.mem_of_getElem? (i := 154) rfl)) (hw _ (List.mem_of_getElem? (i := 152) rfl)) (hw _ (List.mem_of_getElem? (i := 153) rfl)) e4 (us := [(.ref y0), (.ref y1)]) V_ar_2 V_b2_2 (Or.inr ⟨rfl, rfl, ⟨Sto.ofV Arb qAb O2 (Ins.of_exa E_y0_2 (hw _ (List.mem_of_getElem? (i := 88) rfl))), ⟨Sto.ofV Arb qAb O2 (Ins.of_exa E_y1_2 (hw _ (List.mem_of_getElem? (i := 88) rfl))), trivial⟩⟩⟩) (by decide) (by decide) (by decide) (by decide) (by decide) rfl (by decide) N4 g_b2 (g := (mkF m 35 #[.val (.ref ar), .val (.int (2 : Int32)), .val (.ref mO), .val (.ref b2)] [(.int (2 : Int32)), (.int (0 : Int32)), (.ref b2), (.int (0 : Int32)), (.ref ar)])) rfl (by rw [hml]; rfl) (rest := []) rfl (hb hby d22_35) (by decide) (W := 0) (by show 2 * 0 + _ ≤ _; exact Nat.le_of_eq rfl) (by decide)
  refine Gl.go (fun _ k => st5 _ k) ?_
  have V_ar_5 := V_ar_2.keep K_5 (ninS ne_ar_b2 nin0)
  have E_y0_5 := E_y0_2.keep K_5
  have E_y1_5 := E_y1_2.keep K_5
  have SZ5 : n0 ≤ h5.size := Nat.le_trans SZ2 K_5.1
  have K5 : Keep h0 h5 [] := K2.trans K_5 (allS (Or.inr sz_b2) all0)
  show Gl _ _ _ _ (T5.setTop (mkF m 38 #[.val (.ref ar), .val (.int (2 : Int32)), .val (.ref mO), .val (.ref b2)] []))
  have V2 : (Arv Z h5 b2 cA2 (.object "java/lang/Object") (2 : Int32) [(.ref y0), (.ref y1)] .null) := A5
  refine Gl.go (fun _ k => XS.aloadN X5.here hx rfl (hb hby d22_38) rfl rfl  k) ?_
  refine leafA X5 hx hlk Bd.returns rfl rfl (hb hby d22_39) ?_ (by decide) (by decide)
  rw [e5]
  exact ⟨b2, cA2, rfl, N5, K5, sz_b2, V2⟩
def Q_cp2_2 (Z : State) (ar : Addr) (kA : ClassId) (mO : Addr) (y0 : Addr) (y1 : Addr) (h0 : Heap) (n0 : Nat) (v : Option Value) (h : Heap) (L : List Loc) : Prop := ∃ b kB, v = some (.ref b) ∧ Fr n0 L ∧ Keep h0 h [] ∧ h0.size ≤ b ∧ (Arv Z h b kB (.object "java/lang/Object") (2 : Int32) [(.ref y0), (.ref y1)] .null)
set_option maxRecDepth 65536 in
set_option maxHeartbeats 40000000 in
theorem rm_cp2_2 (l : Launch) (Z : State) (a0 : Array Value) (hw : ∀ d ∈ tables_1, d.before a0 Z = true) (ws : List Jvm.Cond) (ar : Addr) (kA : ClassId) (mO : Addr) (y0 : Addr) (y1 : Addr) (h0 : Heap) (n0 : Nat) (Z0 : n0 ≤ h0.size) (V1 : (Arv Z h0 ar kA (.object "java/lang/Object") (10 : Int32) [(.ref y0), (.ref y1), .null, .null, .null, .null, .null, .null, .null, .null] .null)) (X_y0 : (Exa Z h0 y0 "java/lang/String")) (X_y1 : (Exa Z h0 y1 "java/lang/String")) (E_ar : (Exa Z h0 ar "[Ljava/lang/Object;")) (MO : Mr Z "[Ljava/lang/Object;" mO) :
    MetFree l (⟨"java/util/Arrays", "copyOf", "([Ljava/lang/Object;I)[Ljava/lang/Object;"⟩ : MethodName) (head1 (Jvm.Cond.code (⟨"java/util/Arrays", "copyOf", "([Ljava/lang/Object;I)[Ljava/lang/Object;"⟩ : MethodName) jdk_65_method_119_code 2 (some (.array (.object "java/lang/Object"))) :: ws) ({ frames := 2, cells := 1, slots := 2, locals := 33 } : Room)) (fun aa U => aa = #[(.ref ar), (.int (2 : Int32))] ∧ Z.Warmed39 U.vm ∧ U.heap = h0) (fun _ _ _ _ _ => True) (fun _ U o U' => ∃ v L, o = .returned v ∧ Q_cp2_2 Z ar kA mO y0 y1 h0 n0 v U'.heap L ∧ FrameEnd U o U' L ({ frames := 2, cells := 1, slots := 2, locals := 33 } : Room).cells ({ frames := 2, cells := 1, slots := 2, locals := 33 } : Room).slots) := by
  refine MetFree.of_bodySF (plainFor_of_name pn_9) hisR ?_
  intro p e s m args below meth c s₁ Bd hml0 hP hK
  obtain ⟨rfl, hZ, hh⟩ := hP
  have hx := Bd.exec
  have hby := Bd.bytes
  have hml : c.maxLocals = 2 := hml0
  have hown : s.vm.findClass "java/util/Arrays" = some m.cls := findClass_of_methodNamed Bd.named
  have hnm := (name_of_methodNamed Bd.named Bd.method).1
  have hlk : meth.locks = false := BodyLoose.notSynchronized Bd
  have X0 : Stand p l e ({ frames := 2, cells := 1, slots := 2, locals := 33 } : Room) s m #[(.ref ar), (.int (2 : Int32))] below meth c s₁ [] 0 0 := Stand.of_body Bd
  have e0 : s₁.heap = h0 := by rw [← hh, Bd.state]; rfl
  have N0 := Fr.nil n0
  have K0 : Keep h0 h0 [] := Keep.refl _ _
  show Gl p.tables e below (QQof s (Q_cp2_2 Z ar kA mO y0 y1 h0 n0) 1 2) (s₁.setTop (entryFrame m #[(.ref ar), (.int (2 : Int32))] 2))
  refine Gl.go (fun t k => castTop (ef_cp2_2 m ar (2 : Int32)) k) ?_
  show Gl _ _ _ _ (s₁.setTop (mkF m 0 #[.val (.ref ar), .val (.int (2 : Int32))] []))
  refine Gl.go (fun _ k => XS.aloadN X0.here hx rfl (hb hby d21_0) rfl rfl  k) ?_
  refine Gl.go (fun _ k => XS.iloadN X0.here hx rfl (hb hby d21_1) rfl  k) ?_
  refine Gl.go (fun _ k => XS.aloadN X0.here hx rfl (hb hby d21_2) rfl rfl  k) ?_
  obtain ⟨T1, X1, e1, st1⟩ := gclsM X0 hx hZ hown (hw _ (List.mem_of_getElem? (i := 137) rfl)) (hw _ (List.mem_of_getElem? (i := 138) rfl)) (hw _ (List.mem_of_getElem? (i := 114) rfl)) (hw _ (List.mem_of_getElem? (i := 140) rfl)) (hw _ (List.mem_of_getElem? (i := 139) rfl)) (hw _ (List.mem_of_getElem? (i := 141) rfl)) e0 E_ar MO (g := (mkF m 3 #[.val (.ref ar), .val (.int (2 : Int32))] [(.ref ar), (.int (2 : Int32)), (.ref ar)])) rfl (by rw [hml]; rfl) rfl (hb hby d21_3) (by decide) (W := 2) (by show 2 * 0 + _ ≤ _; exact Nat.le_of_eq rfl) (by decide)
  refine Gl.go (fun _ k => st1 _ k) ?_
  show Gl _ _ _ _ (T1.setTop (mkF m 6 #[.val (.ref ar), .val (.int (2 : Int32))] [(.ref mO), (.int (2 : Int32)), (.ref ar)]))
  obtain ⟨_, _, ⟨T2, L2, k2, n2⟩, -, X2, ⟨Lc2, hQ2, l2, y2, z2⟩, st2⟩ := Jvm.LawKit.callS X1 hx (y := (⟨"java/util/Arrays", "copyOf", "([Ljava/lang/Object;ILjava/lang/Class;)[Ljava/lang/Object;"⟩ : MethodName)) hown (mvT hZ (hw _ (List.mem_of_getElem? (i := 143) rfl))) (mvT hZ (hw _ (List.mem_of_getElem? (i := 144) rfl))) (mvT hZ (hw _ (List.mem_of_getElem? (i := 135) rfl))) (mvT hZ (hw _ (List.mem_of_getElem? (i := 145) rfl))) (by decide) (backOf (W := 0) (rm_cp3_2 l Z a0 hw [] ar kA mO y0 y1 h0 n0 Z0 V1 X_y0 X_y1 MO) hZ (hw _ (List.mem_of_getElem? (i := 145) rfl)) (hw _ (List.mem_of_getElem? (i := 135) rfl)) (by decide) (by decide)) (g := (mkF m 6 #[.val (.ref ar), .val (.int (2 : Int32))] [(.ref mO), (.int (2 : Int32)), (.ref ar)])) rfl (by rw [hml]; rfl) (argsL := [(.ref ar), (.int (2 : Int32)), (.ref mO)]) (rest := []) (lenOf pd_7 rfl) rfl (by show 2 * 0 + _ ≤ _; exact Nat.le_of_eq rfl) (hb hby d21_6) (fun _ _ => ⟨rfl, e1, (by decide : 0 + 1 ≤ _), (by decide : 0 + 2 ≤ _)⟩)
  dsimp only [Pt.U, Pt.locs, Pt.cells, Pt.slots] at X2 l2 y2 z2 st2 hQ2
  subst y2 z2
  obtain ⟨b2, kc2, rfl, Nq2, Kc2, gz2, Vc2⟩ := hQ2
  have N2 : Fr n0 L2 := by rw [l2]; exact Fr.app N0 Nq2
  refine Gl.go (fun _ k => st2 _ k) ?_
  have Ex2 := ext_of_keep Kc2
  have V_ar_2 := V1.ext Ex2
  have E_ar_2 := E_ar.ext Ex2
  have E_y0_2 := X_y0.ext Ex2
  have E_y1_2 := X_y1.ext Ex2
  have SZ2 : n0 ≤ T2.heap.size := Nat.le_trans Z0 Ex2.1
  have K2 : Keep h0 T2.heap [] := K0.ext Ex2
  show Gl _ _ _ _ (T2.setTop (mkF m 9 #[.val (.ref ar), .val (.int (2 : Int32))] [(.ref b2)]))
  have g_b2 : n0 ≤ b2 := Nat.le_trans Z0 gz2
  have sz_b2 : h0.size ≤ b2 := Nat.le_trans K0.1 gz2
  have ne_ar_b2 : ar ≠ b2 := Nat.ne_of_lt (Nat.lt_of_lt_of_le V1.lt gz2)
  have ne_y0_b2 : y0 ≠ b2 := Nat.ne_of_lt (Nat.lt_of_lt_of_le X_y0.lt gz2)
  have ne_y1_b2 : y1 ≠ b2 := Nat.ne_of_lt (Nat.lt_of_lt_of_le X_y1.lt gz2)
  refine leafA X2 hx hlk Bd.returns rfl rfl (hb hby d21_9) ?_ (by decide) (by decide)
  exact ⟨b2, kc2, rfl, N2, K2, sz_b2, Vc2⟩
def Q_toa_2 (Z : State) (a1 : Addr) (mc : Int32) (ar : Addr) (kA : ClassId) (mO : Addr) (y0 : Addr) (y1 : Addr) (h0 : Heap) (n0 : Nat) (v : Option Value) (h : Heap) (L : List Loc) : Prop := ∃ b kB, v = some (.ref b) ∧ Fr n0 L ∧ Keep h0 h [] ∧ h0.size ≤ b ∧ (Arv Z h b kB (.object "java/lang/Object") (2 : Int32) [(.ref y0), (.ref y1)] .null)
set_option maxRecDepth 65536 in
set_option maxHeartbeats 40000000 in
theorem rm_toa_2 (l : Launch) (Z : State) (a0 : Array Value) (hw : ∀ d ∈ tables_1, d.before a0 Z = true) (ws : List Jvm.Cond) (a1 : Addr) (mc : Int32) (ar : Addr) (kA : ClassId) (mO : Addr) (y0 : Addr) (y1 : Addr) (h0 : Heap) (n0 : Nat) (Z0 : n0 ≤ h0.size) (E_a1 : (Exa Z h0 a1 "java/util/ArrayList")) (M_a1 : (Fld Z h0 a1 "java/util/AbstractList" "modCount" "I" (.int mc))) (D_a1 : (Fld Z h0 a1 "java/util/ArrayList" "elementData" "[Ljava/lang/Object;" (.ref ar))) (S_a1 : (Fld Z h0 a1 "java/util/ArrayList" "size" "I" (.int (2 : Int32)))) (V1 : (Arv Z h0 ar kA (.object "java/lang/Object") (10 : Int32) [(.ref y0), (.ref y1), .null, .null, .null, .null, .null, .null, .null, .null] .null)) (X_y0 : (Exa Z h0 y0 "java/lang/String")) (X_y1 : (Exa Z h0 y1 "java/lang/String")) (E_ar : (Exa Z h0 ar "[Ljava/lang/Object;")) (MO : Mr Z "[Ljava/lang/Object;" mO) :
    MetFree l (⟨"java/util/ArrayList", "toArray", "()[Ljava/lang/Object;"⟩ : MethodName) (head1 (Jvm.Cond.code (⟨"java/util/ArrayList", "toArray", "()[Ljava/lang/Object;"⟩ : MethodName) jdk_38_method_16_code 1 (some (.array (.object "java/lang/Object"))) :: ws) ({ frames := 3, cells := 1, slots := 2, locals := 46 } : Room)) (fun aa U => aa = #[(.ref a1)] ∧ Z.Warmed39 U.vm ∧ U.heap = h0) (fun _ _ _ _ _ => True) (fun _ U o U' => ∃ v L, o = .returned v ∧ Q_toa_2 Z a1 mc ar kA mO y0 y1 h0 n0 v U'.heap L ∧ FrameEnd U o U' L ({ frames := 3, cells := 1, slots := 2, locals := 46 } : Room).cells ({ frames := 3, cells := 1, slots := 2, locals := 46 } : Room).slots) := by
  refine MetFree.of_bodySF (plainFor_of_name pn_4) hisR ?_
  intro p e s m args below meth c s₁ Bd hml0 hP hK
  obtain ⟨rfl, hZ, hh⟩ := hP
  have hx := Bd.exec
  have hby := Bd.bytes
  have hml : c.maxLocals = 1 := hml0
  have hown : s.vm.findClass "java/util/ArrayList" = some m.cls := findClass_of_methodNamed Bd.named
  have hnm := (name_of_methodNamed Bd.named Bd.method).1
  have hlk : meth.locks = false := BodyLoose.notSynchronized Bd
  have X0 : Stand p l e ({ frames := 3, cells := 1, slots := 2, locals := 46 } : Room) s m #[(.ref a1)] below meth c s₁ [] 0 0 := Stand.of_body Bd
  have e0 : s₁.heap = h0 := by rw [← hh, Bd.state]; rfl
  have N0 := Fr.nil n0
  have K0 : Keep h0 h0 [] := Keep.refl _ _
  show Gl p.tables e below (QQof s (Q_toa_2 Z a1 mc ar kA mO y0 y1 h0 n0) 1 2) (s₁.setTop (entryFrame m #[(.ref a1)] 1))
  refine Gl.go (fun t k => castTop (ef_toa_2 m a1) k) ?_
  show Gl _ _ _ _ (s₁.setTop (mkF m 0 #[.val (.ref a1)] []))
  refine Gl.go (fun _ k => XS.aloadN X0.here hx rfl (hb hby d20_0) rfl rfl  k) ?_
  obtain ⟨T1, X1, e1, st1⟩ := getF X0 hx hZ hown (host := "") (Or.inl (hw _ (List.mem_of_getElem? (i := 56) rfl))) Via.refl e0 D_a1 (g := (mkF m 1 #[.val (.ref a1)] [(.ref a1)])) rfl rfl (hb hby d20_1)
  refine Gl.go (fun _ k => st1 _ k) ?_
  show Gl _ _ _ _ (T1.setTop (mkF m 4 #[.val (.ref a1)] [(.ref ar)]))
  refine Gl.go (fun _ k => XS.aloadN X1.here hx rfl (hb hby d20_4) rfl rfl  k) ?_
  obtain ⟨T2, X2, e2, st2⟩ := getF X1 hx hZ hown (host := "") (Or.inl (hw _ (List.mem_of_getElem? (i := 65) rfl))) Via.refl e1 S_a1 (g := (mkF m 5 #[.val (.ref a1)] [(.ref a1), (.ref ar)])) rfl rfl (hb hby d20_5)
  refine Gl.go (fun _ k => st2 _ k) ?_
  show Gl _ _ _ _ (T2.setTop (mkF m 8 #[.val (.ref a1)] [(.int (2 : Int32)), (.ref ar)]))
  obtain ⟨_, _, ⟨T3, L3, k3, n3⟩, -, X3, ⟨Lc3, hQ3, l3, y3, z3⟩, st3⟩ := Jvm.LawKit.callS X2 hx (y := (⟨"java/util/Arrays", "copyOf", "([Ljava/lang/Object;I)[Ljava/lang/Object;"⟩ : MethodName)) hown (mvT hZ (hw _ (List.mem_of_getElem? (i := 133) rfl))) (mvT hZ (hw _ (List.mem_of_getElem? (i := 134) rfl))) (mvT hZ (hw _ (List.mem_of_getElem? (i := 135) rfl))) (mvT hZ (hw _ (List.mem_of_getElem? (i := 136) rfl))) (by decide) (backOf (W := 0) (rm_cp2_2 l Z a0 hw [] ar kA mO y0 y1 h0 n0 Z0 V1 X_y0 X_y1 E_ar MO) hZ (hw _ (List.mem_of_getElem? (i := 136) rfl)) (hw _ (List.mem_of_getElem? (i := 135) rfl)) (by decide) (by decide)) (g := (mkF m 8 #[.val (.ref a1)] [(.int (2 : Int32)), (.ref ar)])) rfl (by rw [hml]; rfl) (argsL := [(.ref ar), (.int (2 : Int32))]) (rest := []) (lenOf pd_8 rfl) rfl (by show 2 * 0 + _ ≤ _; exact Nat.le_of_eq rfl) (hb hby d20_8) (fun _ _ => ⟨rfl, e2, (by decide : 0 + 1 ≤ _), (by decide : 0 + 2 ≤ _)⟩)
  dsimp only [Pt.U, Pt.locs, Pt.cells, Pt.slots] at X3 l3 y3 z3 st3 hQ3
  subst y3 z3
  obtain ⟨b3, kc3, rfl, Nq3, Kc3, gz3, Vc3⟩ := hQ3
  have N3 : Fr n0 L3 := by rw [l3]; exact Fr.app N0 Nq3
  refine Gl.go (fun _ k => st3 _ k) ?_
  have Ex3 := ext_of_keep Kc3
  have E_a1_3 := E_a1.ext Ex3
  have F_a1_modCount_3 := M_a1.ext Ex3
  have F_a1_elementData_3 := D_a1.ext Ex3
  have F_a1_size_3 := S_a1.ext Ex3
  have V_ar_3 := V1.ext Ex3
  have E_ar_3 := E_ar.ext Ex3
  have E_y0_3 := X_y0.ext Ex3
  have E_y1_3 := X_y1.ext Ex3
  have SZ3 : n0 ≤ T3.heap.size := Nat.le_trans Z0 Ex3.1
  have K3 : Keep h0 T3.heap [] := K0.ext Ex3
  show Gl _ _ _ _ (T3.setTop (mkF m 11 #[.val (.ref a1)] [(.ref b3)]))
  have g_b3 : n0 ≤ b3 := Nat.le_trans Z0 gz3
  have sz_b3 : h0.size ≤ b3 := Nat.le_trans K0.1 gz3
  have ne_a1_b3 : a1 ≠ b3 := Nat.ne_of_lt (Nat.lt_of_lt_of_le E_a1.lt gz3)
  have ne_ar_b3 : ar ≠ b3 := Nat.ne_of_lt (Nat.lt_of_lt_of_le V1.lt gz3)
  have ne_y0_b3 : y0 ≠ b3 := Nat.ne_of_lt (Nat.lt_of_lt_of_le X_y0.lt gz3)
  have ne_y1_b3 : y1 ≠ b3 := Nat.ne_of_lt (Nat.lt_of_lt_of_le X_y1.lt gz3)
  refine leafA X3 hx hlk Bd.returns rfl rfl (hb hby d20_11) ?_ (by decide) (by decide)
  exact ⟨b3, kc3, rfl, N3, K3, sz_b3, Vc3⟩
def Q_ise_2 (Z : State) (a1 : Addr) (h0 : Heap) (n0 : Nat) (v : Option Value) (h : Heap) (L : List Loc) : Prop := v = some (.int (0 : Int32)) ∧ Fr n0 L ∧ h = h0
set_option maxRecDepth 65536 in
set_option maxHeartbeats 40000000 in
theorem rm_ise_2 (l : Launch) (Z : State) (a0 : Array Value) (hw : ∀ d ∈ tables_1, d.before a0 Z = true) (ws : List Jvm.Cond) (a1 : Addr) (h0 : Heap) (n0 : Nat) (Z0 : n0 ≤ h0.size) (S_a1 : (Fld Z h0 a1 "java/util/ArrayList" "size" "I" (.int (2 : Int32)))) :
    MetFree l (⟨"java/util/ArrayList", "isEmpty", "()Z"⟩ : MethodName) (head1 (Jvm.Cond.code (⟨"java/util/ArrayList", "isEmpty", "()Z"⟩ : MethodName) jdk_38_method_9_code 1 (some .boolean) :: ws) ({ frames := 0, cells := 0, slots := 0, locals := 0 } : Room)) (fun aa U => aa = #[(.ref a1)] ∧ Z.Warmed39 U.vm ∧ U.heap = h0) (fun _ _ _ _ _ => True) (fun _ U o U' => ∃ v L, o = .returned v ∧ Q_ise_2 Z a1 h0 n0 v U'.heap L ∧ FrameEnd U o U' L ({ frames := 0, cells := 0, slots := 0, locals := 0 } : Room).cells ({ frames := 0, cells := 0, slots := 0, locals := 0 } : Room).slots) := by
  refine MetFree.of_bodySF (plainFor_of_name pn_4) hisR ?_
  intro p e s m args below meth c s₁ Bd hml0 hP hK
  obtain ⟨rfl, hZ, hh⟩ := hP
  have hx := Bd.exec
  have hby := Bd.bytes
  have hml : c.maxLocals = 1 := hml0
  have hown : s.vm.findClass "java/util/ArrayList" = some m.cls := findClass_of_methodNamed Bd.named
  have hnm := (name_of_methodNamed Bd.named Bd.method).1
  have hlk : meth.locks = false := BodyLoose.notSynchronized Bd
  have X0 : Stand p l e ({ frames := 0, cells := 0, slots := 0, locals := 0 } : Room) s m #[(.ref a1)] below meth c s₁ [] 0 0 := Stand.of_body Bd
  have e0 : s₁.heap = h0 := by rw [← hh, Bd.state]; rfl
  have N0 := Fr.nil n0
  have K0 : Keep h0 h0 [] := Keep.refl _ _
  show Gl p.tables e below (QQof s (Q_ise_2 Z a1 h0 n0) 0 0) (s₁.setTop (entryFrame m #[(.ref a1)] 1))
  refine Gl.go (fun t k => castTop (ef_ise_2 m a1) k) ?_
  show Gl _ _ _ _ (s₁.setTop (mkF m 0 #[.val (.ref a1)] []))
  refine Gl.go (fun _ k => XS.aloadN X0.here hx rfl (hb hby d19_0) rfl rfl  k) ?_
  obtain ⟨T1, X1, e1, st1⟩ := getF X0 hx hZ hown (host := "") (Or.inl (hw _ (List.mem_of_getElem? (i := 65) rfl))) Via.refl e0 S_a1 (g := (mkF m 1 #[.val (.ref a1)] [(.ref a1)])) rfl rfl (hb hby d19_1)
  refine Gl.go (fun _ k => st1 _ k) ?_
  show Gl _ _ _ _ (T1.setTop (mkF m 4 #[.val (.ref a1)] [(.int (2 : Int32))]))
  refine Gl.go (fun _ k => XS.ifYes X1.here hx rfl (pc0 := 4) (pc' := 11) rfl (hb hby d19_4) rfl ((if0 _ _).trans (feq (by decide)).2) (by decide) (by decide) k) ?_
  show Gl _ _ _ _ (T1.setTop (mkF m 11 #[.val (.ref a1)] []))
  refine Gl.go (fun _ k => XS.iconst X1.here hx rfl (hb hby d19_11) k) ?_
  refine leafN X1 hx hlk (t := .boolean) Bd.returns (by simp) (hb hby d19_12) ?_ (by decide) (by decide)
  exact ⟨rfl, N0, e1⟩
def Q_lof_2 (Z : State) (ar eM : Addr) (kA : ClassId) (y0 : Addr) (y1 : Addr) (h0 : Heap) (n0 : Nat) (v : Option Value) (h : Heap) (L : List Loc) : Prop := ∃ o, v = some (.ref o) ∧ Fr n0 L ∧ Keep h0 h [] ∧ h0.size ≤ o ∧ (Exa Z h o "java/util/ImmutableCollections$List12") ∧ (Fld Z h o "java/util/ImmutableCollections$List12" "e0" "Ljava/lang/Object;" (.ref y0)) ∧ (Fld Z h o "java/util/ImmutableCollections$List12" "e1" "Ljava/lang/Object;" (.ref y1))
set_option maxRecDepth 65536 in
set_option maxHeartbeats 40000000 in
theorem rm_lof_2 (l : Launch) (Z : State) (a0 : Array Value) (hw : ∀ d ∈ tables_1, d.before a0 Z = true) (ws : List Jvm.Cond) (ar eM : Addr) (kA : ClassId) (y0 : Addr) (y1 : Addr) (h0 : Heap) (n0 : Nat) (Z0 : n0 ≤ h0.size) (V1 : (Arv Z h0 ar kA (.object "java/lang/Object") (2 : Int32) [(.ref y0), (.ref y1)] .null)) (X_y0 : (Exa Z h0 y0 "java/lang/String")) (X_y1 : (Exa Z h0 y1 "java/lang/String")) (SE : Sta Z Z.heap "java/util/ImmutableCollections" "EMPTY" "Ljava/lang/Object;" (.ref eM)) (O0 : Old Z n0 h0) :
    MetFree l (⟨"java/util/List", "of", "([Ljava/lang/Object;)Ljava/util/List;"⟩ : MethodName) (head1 (Jvm.Cond.code (⟨"java/util/List", "of", "([Ljava/lang/Object;)Ljava/util/List;"⟩ : MethodName) jdk_40_method_47_code 2 (some (.object "java/util/List")) :: ws) ({ frames := 5, cells := 1, slots := 2, locals := 63 } : Room)) (fun aa U => aa = #[(.ref ar)] ∧ Z.Warmed39 U.vm ∧ U.heap = h0) (fun _ _ _ _ _ => True) (fun _ U o U' => ∃ v L, o = .returned v ∧ Q_lof_2 Z ar eM kA y0 y1 h0 n0 v U'.heap L ∧ FrameEnd U o U' L ({ frames := 5, cells := 1, slots := 2, locals := 63 } : Room).cells ({ frames := 5, cells := 1, slots := 2, locals := 63 } : Room).slots) := by
  refine MetFree.of_bodySF (plainFor_of_name pn_10) hisR ?_
  intro p e s m args below meth c s₁ Bd hml0 hP hK
  obtain ⟨rfl, hZ, hh⟩ := hP
  have hx := Bd.exec
  have hby := Bd.bytes
  have hml : c.maxLocals = 2 := hml0
  have hown : s.vm.findClass "java/util/List" = some m.cls := findClass_of_methodNamed Bd.named
  have hnm := (name_of_methodNamed Bd.named Bd.method).1
  have hlk : meth.locks = false := BodyLoose.notSynchronized Bd
  have X0 : Stand p l e ({ frames := 5, cells := 1, slots := 2, locals := 63 } : Room) s m #[(.ref ar)] below meth c s₁ [] 0 0 := Stand.of_body Bd
  have e0 : s₁.heap = h0 := by rw [← hh, Bd.state]; rfl
  have N0 := Fr.nil n0
  have K0 : Keep h0 h0 [] := Keep.refl _ _
  show Gl p.tables e below (QQof s (Q_lof_2 Z ar eM kA y0 y1 h0 n0) 1 2) (s₁.setTop (entryFrame m #[(.ref ar)] 2))
  refine Gl.go (fun t k => castTop (ef_lof_2 m ar) k) ?_
  show Gl _ _ _ _ (s₁.setTop (mkF m 0 #[.val (.ref ar), .unset] []))
  refine Gl.go (fun _ k => XS.aloadN X0.here hx rfl (hb hby d24_0) rfl rfl  k) ?_
  obtain ⟨cl1, Ar1, qA1, SA1, NA1, HA1, GA1⟩ := id V1
  refine Gl.go (fun _ k => X0.arraylength hx (by rw [e0]; exact Ar1.1) (State.isArrayOf_alike hZ.alike Ar1.2.1) (g := (mkF m 1 #[.val (.ref ar), .unset] [(.ref ar)])) rfl rfl (hb hby d24_1) _ k) ?_
  rw [len_of SA1 NA1]
  show Gl _ _ _ _ (s₁.setTop (mkF m 2 #[.val (.ref ar), .unset] [(.int (2 : Int32))]))
  refine Gl.go (fun _ k => XS.tswIn X0.here hx rfl (pc0 := 2) (pc' := 45) (o := 43) rfl (hb hby d24_2) rfl (by decide) rfl (by decide) (by decide) k) ?_
  show Gl _ _ _ _ (s₁.setTop (mkF m 45 #[.val (.ref ar), .unset] []))
  obtain ⟨T2, h2, X2, e2, E2, A2, D2, -, st2⟩ := newO X0 hx hZ hown (hw _ (List.mem_of_getElem? (i := 158) rfl)) (hw _ (List.mem_of_getElem? (i := 159) rfl)) (hw _ (List.mem_of_getElem? (i := 160) rfl)) e0 (g := (mkF m 45 #[.val (.ref ar), .unset] [])) rfl (hb hby d24_45) (by decide) (by decide)
  obtain ⟨b2, g2⟩ : ∃ z, z = h0.size := ⟨_, rfl⟩
  rw [← g2] at A2 D2 st2
  have g_b2 : n0 ≤ b2 := Nat.le_trans Z0 (Nat.le_of_eq g2.symm)
  have sz_b2 : h0.size ≤ b2 := Nat.le_trans K0.1 (Nat.le_of_eq g2.symm)
  have ne_ar_b2 : ar ≠ b2 := Nat.ne_of_lt (Nat.lt_of_lt_of_le V1.lt (Nat.le_of_eq g2.symm))
  have ne_y0_b2 : y0 ≠ b2 := Nat.ne_of_lt (Nat.lt_of_lt_of_le X_y0.lt (Nat.le_of_eq g2.symm))
  have ne_y1_b2 : y1 ≠ b2 := Nat.ne_of_lt (Nat.lt_of_lt_of_le X_y1.lt (Nat.le_of_eq g2.symm))
  have V_ar_2 := V1.ext E2
  have E_y0_2 := X_y0.ext E2
  have E_y1_2 := X_y1.ext E2
  have O__2 := O0.ext E2
  have SZ2 : n0 ≤ h2.size := Nat.le_trans Z0 E2.1
  have K2 : Keep h0 h2 [] := K0.ext E2
  have F_b2_e0_2 : Fld Z h2 b2 "java/util/ImmutableCollections$List12" "e0" "Ljava/lang/Object;" .null := D2 (Or.inr (hw _ (List.mem_of_getElem? (i := 184) rfl))) (ty := (.object "java/lang/Object")) (by decide)
  have F_b2_e1_2 : Fld Z h2 b2 "java/util/ImmutableCollections$List12" "e1" "Ljava/lang/Object;" .null := D2 (Or.inr (hw _ (List.mem_of_getElem? (i := 186) rfl))) (ty := (.object "java/lang/Object")) (by decide)
  refine Gl.go (fun _ k => st2 _ k) ?_
  show Gl _ _ _ _ (T2.setTop (mkF m 48 #[.val (.ref ar), .unset] [(.ref b2)]))
  refine Gl.go (fun _ k => XS.dup X2.here hx rfl (hb hby d24_48) rfl rfl k) ?_
  refine Gl.go (fun _ k => XS.aloadN X2.here hx rfl (hb hby d24_49) rfl rfl  k) ?_
  refine Gl.go (fun _ k => XS.iconst X2.here hx rfl (hb hby d24_50) k) ?_
  obtain ⟨cl3, Ar3, qA3, SA3, NA3, HA3, GA3⟩ := id V_ar_2
  have hin3 := inb_of (j := (0 : Int32)) SA3 ⟨by decide, by decide⟩
  have hat3 : cl3.slots[((0 : Int32)).toNatClampNeg]? = some (.ref y0) := HA3.at hin3 rfl
  refine Gl.go (fun _ k => X2.aaload hx (j := (0 : Int32)) (v := (.ref y0)) (by rw [e2]; exact Ar3.1) (State.isArrayOf_alike hZ.alike Ar3.2.1) rfl Ar3.2.2 hin3 hat3 (g := (mkF m 51 #[.val (.ref ar), .unset] [(.int (0 : Int32)), (.ref ar), (.ref b2), (.ref b2)])) rfl rfl (hb hby d24_51) _ k) ?_
  show Gl _ _ _ _ (T2.setTop (mkF m 52 #[.val (.ref ar), .unset] [(.ref y0), (.ref b2), (.ref b2)]))
  refine Gl.go (fun _ k => XS.aloadN X2.here hx rfl (hb hby d24_52) rfl rfl  k) ?_
  refine Gl.go (fun _ k => XS.iconst X2.here hx rfl (hb hby d24_53) k) ?_
  obtain ⟨cl4, Ar4, qA4, SA4, NA4, HA4, GA4⟩ := id V_ar_2
  have hin4 := inb_of (j := (1 : Int32)) SA4 ⟨by decide, by decide⟩
  have hat4 : cl4.slots[((1 : Int32)).toNatClampNeg]? = some (.ref y1) := HA4.at hin4 rfl
  refine Gl.go (fun _ k => X2.aaload hx (j := (1 : Int32)) (v := (.ref y1)) (by rw [e2]; exact Ar4.1) (State.isArrayOf_alike hZ.alike Ar4.2.1) rfl Ar4.2.2 hin4 hat4 (g := (mkF m 54 #[.val (.ref ar), .unset] [(.int (1 : Int32)), (.ref ar), (.ref y0), (.ref b2), (.ref b2)])) rfl rfl (hb hby d24_54) _ k) ?_
  show Gl _ _ _ _ (T2.setTop (mkF m 55 #[.val (.ref ar), .unset] [(.ref y1), (.ref y0), (.ref b2), (.ref b2)]))
  obtain ⟨_, _, ⟨T5, L5, k5, n5⟩, -, X5, ⟨Lc5, hQ5, l5, y5, z5⟩, st5⟩ := X2.specialBack hx (y := (⟨"java/util/ImmutableCollections$List12", "<init>", "(Ljava/lang/Object;Ljava/lang/Object;)V"⟩ : MethodName)) rfl hown (mvT hZ (hw _ (List.mem_of_getElem? (i := 161) rfl))) (mvT hZ (hw _ (List.mem_of_getElem? (i := 162) rfl))) (mvT hZ (hw _ (List.mem_of_getElem? (i := 164) rfl))) (by decide) (backOf (W := 1) (rm_i12_2 l Z a0 hw [] b2 eM y0 y1 h2 n0 SZ2 A2 F_b2_e0_2 F_b2_e1_2 g_b2 SE O__2) hZ (hw _ (List.mem_of_getElem? (i := 164) rfl)) (hw _ (List.mem_of_getElem? (i := 160) rfl)) (by decide) (by decide)) (g := (mkF m 55 #[.val (.ref ar), .unset] [(.ref y1), (.ref y0), (.ref b2), (.ref b2)])) rfl (by rw [hml]; rfl) (Steps.refl _) (a := b2) (argsL := [(.ref y0), (.ref y1)]) (rest := [(.ref b2)]) (lenOf pd_13 rfl) rfl (by show 2 * 0 + _ ≤ _; exact Nat.le_of_eq rfl) (hb hby d24_55) (fun _ _ => ⟨rfl, e2, (by decide : 1 + 0 ≤ _), (by decide : 2 + 0 ≤ _)⟩)
  dsimp only [Pt.U, Pt.locs, Pt.cells, Pt.slots] at X5 l5 y5 z5 st5 hQ5
  subst y5 z5
  obtain ⟨rfl, Nq5, Kc5, Eo5, F05, F15⟩ := hQ5
  have N5 : Fr n0 L5 := by rw [l5]; exact Fr.app N0 Nq5
  refine Gl.go (fun _ k => st5.trans k) ?_
  have V_ar_5 := V_ar_2.keep Kc5 (ninS ne_ar_b2 nin0)
  have E_y0_5 := E_y0_2.keep Kc5
  have E_y1_5 := E_y1_2.keep Kc5
  have O__5 := O__2.keep Kc5 (allS g_b2 all0)
  have E_b2_5 := A2.keep Kc5
  have SZ5 : n0 ≤ T5.heap.size := Nat.le_trans SZ2 Kc5.1
  have K5 : Keep h0 T5.heap [] := K2.trans Kc5 (allS (Or.inr sz_b2) all0)
  show Gl _ _ _ _ (T5.setTop (mkF m 58 #[.val (.ref ar), .unset] [(.ref b2)]))
  refine leafA X5 hx hlk Bd.returns rfl rfl (hb hby d24_58) ?_ (by decide) (by decide)
  exact ⟨b2, rfl, N5, K5, sz_b2, Eo5, F05, F15⟩
def Q_lcp_2 (Z : State) (a1 : Addr) (mc : Int32) (ar : Addr) (kA : ClassId) (mO : Addr) (y0 : Addr) (y1 : Addr) (eM : Addr) (h0 : Heap) (n0 : Nat) (v : Option Value) (h : Heap) (L : List Loc) : Prop := ∃ o, v = some (.ref o) ∧ Fr n0 L ∧ Keep h0 h [] ∧ h0.size ≤ o ∧ (Exa Z h o "java/util/ImmutableCollections$List12") ∧ (Fld Z h o "java/util/ImmutableCollections$List12" "e0" "Ljava/lang/Object;" (.ref y0)) ∧ (Fld Z h o "java/util/ImmutableCollections$List12" "e1" "Ljava/lang/Object;" (.ref y1))
set_option maxRecDepth 65536 in
set_option maxHeartbeats 40000000 in
theorem rm_lcp_2 (l : Launch) (Z : State) (a0 : Array Value) (hw : ∀ d ∈ tables_1, d.before a0 Z = true) (ws : List Jvm.Cond) (a1 : Addr) (mc : Int32) (ar : Addr) (kA : ClassId) (mO : Addr) (y0 : Addr) (y1 : Addr) (eM : Addr) (h0 : Heap) (n0 : Nat) (Z0 : n0 ≤ h0.size) (E_a1 : (Exa Z h0 a1 "java/util/ArrayList")) (M_a1 : (Fld Z h0 a1 "java/util/AbstractList" "modCount" "I" (.int mc))) (D_a1 : (Fld Z h0 a1 "java/util/ArrayList" "elementData" "[Ljava/lang/Object;" (.ref ar))) (S_a1 : (Fld Z h0 a1 "java/util/ArrayList" "size" "I" (.int (2 : Int32)))) (V1 : (Arv Z h0 ar kA (.object "java/lang/Object") (10 : Int32) [(.ref y0), (.ref y1), .null, .null, .null, .null, .null, .null, .null, .null] .null)) (X_y0 : (Exa Z h0 y0 "java/lang/String")) (X_y1 : (Exa Z h0 y1 "java/lang/String")) (E_ar : (Exa Z h0 ar "[Ljava/lang/Object;")) (MO : Mr Z "[Ljava/lang/Object;" mO) (SE : Sta Z Z.heap "java/util/ImmutableCollections" "EMPTY" "Ljava/lang/Object;" (.ref eM)) (O0 : Old Z n0 h0) :
    MetFree l (⟨"java/util/ImmutableCollections", "listCopy", "(Ljava/util/Collection;)Ljava/util/List;"⟩ : MethodName) (head1 (Jvm.Cond.code (⟨"java/util/ImmutableCollections", "listCopy", "(Ljava/util/Collection;)Ljava/util/List;"⟩ : MethodName) jdk_56_method_3_code 2 (some (.object "java/util/List")) :: ws) ({ frames := 6, cells := 2, slots := 4, locals := 76 } : Room)) (fun aa U => aa = #[(.ref a1)] ∧ Z.Warmed39 U.vm ∧ U.heap = h0) (fun _ _ _ _ _ => True) (fun _ U o U' => ∃ v L, o = .returned v ∧ Q_lcp_2 Z a1 mc ar kA mO y0 y1 eM h0 n0 v U'.heap L ∧ FrameEnd U o U' L ({ frames := 6, cells := 2, slots := 4, locals := 76 } : Room).cells ({ frames := 6, cells := 2, slots := 4, locals := 76 } : Room).slots) := by
  refine MetFree.of_bodySF (plainFor_of_name pn_8) hisR ?_
  intro p e s m args below meth c s₁ Bd hml0 hP hK
  obtain ⟨rfl, hZ, hh⟩ := hP
  have hx := Bd.exec
  have hby := Bd.bytes
  have hml : c.maxLocals = 2 := hml0
  have hown : s.vm.findClass "java/util/ImmutableCollections" = some m.cls := findClass_of_methodNamed Bd.named
  have hnm := (name_of_methodNamed Bd.named Bd.method).1
  have hlk : meth.locks = false := BodyLoose.notSynchronized Bd
  have X0 : Stand p l e ({ frames := 6, cells := 2, slots := 4, locals := 76 } : Room) s m #[(.ref a1)] below meth c s₁ [] 0 0 := Stand.of_body Bd
  have e0 : s₁.heap = h0 := by rw [← hh, Bd.state]; rfl
  have N0 := Fr.nil n0
  have K0 : Keep h0 h0 [] := Keep.refl _ _
  show Gl p.tables e below (QQof s (Q_lcp_2 Z a1 mc ar kA mO y0 y1 eM h0 n0) 2 4) (s₁.setTop (entryFrame m #[(.ref a1)] 2))
  refine Gl.go (fun t k => castTop (ef_lcp_2 m a1) k) ?_
  show Gl _ _ _ _ (s₁.setTop (mkF m 0 #[.val (.ref a1), .unset] []))
  refine Gl.go (fun _ k => XS.aloadN X0.here hx rfl (hb hby d18_0) rfl rfl  k) ?_
  obtain ⟨T1, X1, e1, st1⟩ := instNo X0 hx hZ hown (hw _ (List.mem_of_getElem? (i := 110) rfl)) e0 E_a1 (own_no (C := "java/util/ArrayList") (hw _ (List.mem_of_getElem? (i := 111) rfl)) (hw _ (List.mem_of_getElem? (i := 112) rfl)) (hw _ (List.mem_of_getElem? (i := 113) rfl)) (hw _ (List.mem_of_getElem? (i := 114) rfl)) (hw _ (List.mem_of_getElem? (i := 159) rfl)) (by decide) (by decide) (by decide) (by decide)) (g := (mkF m 1 #[.val (.ref a1), .unset] [(.ref a1)])) rfl rfl (hb hby d18_1)
  refine Gl.go (fun _ k => st1 _ k) ?_
  show Gl _ _ _ _ (T1.setTop (mkF m 4 #[.val (.ref a1), .unset] [(.int (0 : Int32))]))
  refine Gl.go (fun _ k => XS.ifNo X1.here hx rfl (hb hby d18_4) rfl ((if0 _ _).trans (teq rfl).2) k) ?_
  show Gl _ _ _ _ (T1.setTop (mkF m 7 #[.val (.ref a1), .unset] []))
  refine Gl.go (fun _ k => XS.aloadN X1.here hx rfl (hb hby d18_7) rfl rfl  k) ?_
  obtain ⟨T2, X2, e2, st2⟩ := instNo X1 hx hZ hown (hw _ (List.mem_of_getElem? (i := 115) rfl)) e1 E_a1 (own_no (C := "java/util/ArrayList") (hw _ (List.mem_of_getElem? (i := 111) rfl)) (hw _ (List.mem_of_getElem? (i := 112) rfl)) (hw _ (List.mem_of_getElem? (i := 113) rfl)) (hw _ (List.mem_of_getElem? (i := 114) rfl)) (hw _ (List.mem_of_getElem? (i := 263) rfl)) (by decide) (by decide) (by decide) (by decide)) (g := (mkF m 8 #[.val (.ref a1), .unset] [(.ref a1)])) rfl rfl (hb hby d18_8)
  refine Gl.go (fun _ k => st2 _ k) ?_
  show Gl _ _ _ _ (T2.setTop (mkF m 11 #[.val (.ref a1), .unset] [(.int (0 : Int32))]))
  refine Gl.go (fun _ k => XS.ifYes X2.here hx rfl (pc0 := 11) (pc' := 31) rfl (hb hby d18_11) rfl ((if0 _ _).trans (teq rfl).1) (by decide) (by decide) k) ?_
  show Gl _ _ _ _ (T2.setTop (mkF m 31 #[.val (.ref a1), .unset] []))
  refine Gl.go (fun _ k => XS.aloadN X2.here hx rfl (hb hby d18_31) rfl rfl  k) ?_
  obtain ⟨cq3, kq3, q3a, q3b, q3c⟩ := isOf hZ e2 E_a1
  obtain ⟨_, _, ⟨T3, L3, k3, n3⟩, -, X3, ⟨Lc3, hQ3, l3, y3, z3⟩, st3⟩ := X2.interfaceBack hx (xi := (⟨"java/util/Collection", "isEmpty", "()Z"⟩ : MethodName)) (y := (⟨"java/util/ArrayList", "isEmpty", "()Z"⟩ : MethodName)) hown (mvT hZ (hw _ (List.mem_of_getElem? (i := 116) rfl))) (mvT hZ (hw _ (List.mem_of_getElem? (i := 117) rfl))) (mvT hZ (hw _ (List.mem_of_getElem? (i := 118) rfl))) (mvT hZ (hw _ (List.mem_of_getElem? (i := 119) rfl))) (mvT hZ (hw _ (List.mem_of_getElem? (i := 120) rfl))) (mvT hZ (hw _ (List.mem_of_getElem? (i := 121) rfl))) (mvT hZ (hw _ (List.mem_of_getElem? (i := 122) rfl))) (mvT hZ (hw _ (List.mem_of_getElem? (i := 123) rfl))) (by decide) (backOf (W := 0) (rm_ise_2 l Z a0 hw [] a1 h0 n0 Z0 S_a1) hZ (hw _ (List.mem_of_getElem? (i := 124) rfl)) (hw _ (List.mem_of_getElem? (i := 36) rfl)) (by decide) (by decide)) q3a q3b q3c (g := (mkF m 32 #[.val (.ref a1), .unset] [(.ref a1)])) rfl (by rw [hml]; rfl) (Steps.refl _) (argsL := []) (rest := []) (lenOf pd_10 rfl) rfl (by show 2 * 0 + _ ≤ _; exact Nat.le_of_eq rfl) (hb hby d18_32) (fun _ _ => ⟨rfl, e2, (by decide : 0 + 0 ≤ _), (by decide : 0 + 0 ≤ _)⟩)
  dsimp only [Pt.U, Pt.locs, Pt.cells, Pt.slots] at X3 l3 y3 z3 st3 hQ3
  subst y3 z3
  obtain ⟨rfl, Nq3, e3⟩ := hQ3
  have N3 : Fr n0 L3 := by rw [l3]; exact Fr.app N0 Nq3
  refine Gl.go (fun _ k => st3.trans k) ?_
  show Gl _ _ _ _ (T3.setTop (mkF m 37 #[.val (.ref a1), .unset] [(.int (0 : Int32))]))
  refine Gl.go (fun _ k => XS.ifYes X3.here hx rfl (pc0 := 37) (pc' := 44) rfl (hb hby d18_37) rfl ((if0 _ _).trans (teq rfl).1) (by decide) (by decide) k) ?_
  show Gl _ _ _ _ (T3.setTop (mkF m 44 #[.val (.ref a1), .unset] []))
  refine Gl.go (fun _ k => XS.aloadN X3.here hx rfl (hb hby d18_44) rfl rfl  k) ?_
  obtain ⟨cq4, kq4, q4a, q4b, q4c⟩ := isOf hZ e3 E_a1
  obtain ⟨_, _, ⟨T4, L4, k4, n4⟩, -, X4, ⟨Lc4, hQ4, l4, y4, z4⟩, st4⟩ := X3.interfaceBack hx (xi := (⟨"java/util/Collection", "toArray", "()[Ljava/lang/Object;"⟩ : MethodName)) (y := (⟨"java/util/ArrayList", "toArray", "()[Ljava/lang/Object;"⟩ : MethodName)) hown (mvT hZ (hw _ (List.mem_of_getElem? (i := 125) rfl))) (mvT hZ (hw _ (List.mem_of_getElem? (i := 126) rfl))) (mvT hZ (hw _ (List.mem_of_getElem? (i := 127) rfl))) (mvT hZ (hw _ (List.mem_of_getElem? (i := 128) rfl))) (mvT hZ (hw _ (List.mem_of_getElem? (i := 129) rfl))) (mvT hZ (hw _ (List.mem_of_getElem? (i := 130) rfl))) (mvT hZ (hw _ (List.mem_of_getElem? (i := 131) rfl))) (mvT hZ (hw _ (List.mem_of_getElem? (i := 123) rfl))) (by decide) (backOf (W := 0) (rm_toa_2 l Z a0 hw [] a1 mc ar kA mO y0 y1 h0 n0 Z0 E_a1 M_a1 D_a1 S_a1 V1 X_y0 X_y1 E_ar MO) hZ (hw _ (List.mem_of_getElem? (i := 132) rfl)) (hw _ (List.mem_of_getElem? (i := 36) rfl)) (by decide) (by decide)) q4a q4b q4c (g := (mkF m 45 #[.val (.ref a1), .unset] [(.ref a1)])) rfl (by rw [hml]; rfl) (Steps.refl _) (argsL := []) (rest := []) (lenOf pd_3 rfl) rfl (by show 2 * 0 + _ ≤ _; exact Nat.le_of_eq rfl) (hb hby d18_45) (fun _ _ => ⟨rfl, e3, (by decide : 0 + 1 ≤ _), (by decide : 0 + 2 ≤ _)⟩)
  dsimp only [Pt.U, Pt.locs, Pt.cells, Pt.slots] at X4 l4 y4 z4 st4 hQ4
  subst y4 z4
  obtain ⟨b4, kc4, rfl, Nq4, Kc4, gz4, Vc4⟩ := hQ4
  have N4 : Fr n0 L4 := by rw [l4]; exact Fr.app N3 Nq4
  refine Gl.go (fun _ k => st4.trans k) ?_
  have Ex4 := ext_of_keep Kc4
  have E_a1_4 := E_a1.ext Ex4
  have F_a1_modCount_4 := M_a1.ext Ex4
  have F_a1_elementData_4 := D_a1.ext Ex4
  have F_a1_size_4 := S_a1.ext Ex4
  have V_ar_4 := V1.ext Ex4
  have E_ar_4 := E_ar.ext Ex4
  have E_y0_4 := X_y0.ext Ex4
  have E_y1_4 := X_y1.ext Ex4
  have O__4 := O0.ext Ex4
  have SZ4 : n0 ≤ T4.heap.size := Nat.le_trans Z0 Ex4.1
  have K4 : Keep h0 T4.heap [] := K0.ext Ex4
  show Gl _ _ _ _ (T4.setTop (mkF m 50 #[.val (.ref a1), .unset] [(.ref b4)]))
  have g_b4 : n0 ≤ b4 := Nat.le_trans Z0 gz4
  have sz_b4 : h0.size ≤ b4 := Nat.le_trans K0.1 gz4
  have ne_a1_b4 : a1 ≠ b4 := Nat.ne_of_lt (Nat.lt_of_lt_of_le E_a1.lt gz4)
  have ne_ar_b4 : ar ≠ b4 := Nat.ne_of_lt (Nat.lt_of_lt_of_le V1.lt gz4)
  have ne_y0_b4 : y0 ≠ b4 := Nat.ne_of_lt (Nat.lt_of_lt_of_le X_y0.lt gz4)
  have ne_y1_b4 : y1 ≠ b4 := Nat.ne_of_lt (Nat.lt_of_lt_of_le X_y1.lt gz4)
  obtain ⟨_, _, ⟨T5, L5, k5, n5⟩, -, X5, ⟨Lc5, hQ5, l5, y5, z5⟩, st5⟩ := Jvm.LawKit.callS X4 hx (y := (⟨"java/util/List", "of", "([Ljava/lang/Object;)Ljava/util/List;"⟩ : MethodName)) hown (mvT hZ (hw _ (List.mem_of_getElem? (i := 155) rfl))) (mvT hZ (hw _ (List.mem_of_getElem? (i := 156) rfl))) (mvT hZ (hw _ (List.mem_of_getElem? (i := 104) rfl))) (mvT hZ (hw _ (List.mem_of_getElem? (i := 157) rfl))) (by decide) (backOf (W := 0) (rm_lof_2 l Z a0 hw [] b4 eM kc4 y0 y1 T4.heap n0 SZ4 Vc4 E_y0_4 E_y1_4 SE O__4) hZ (hw _ (List.mem_of_getElem? (i := 157) rfl)) (hw _ (List.mem_of_getElem? (i := 104) rfl)) (by decide) (by decide)) (g := (mkF m 50 #[.val (.ref a1), .unset] [(.ref b4)])) rfl (by rw [hml]; rfl) (argsL := [(.ref b4)]) (rest := []) (lenOf pd_11 rfl) rfl (by show 2 * 0 + _ ≤ _; exact Nat.le_of_eq rfl) (hb hby d18_50) (fun _ _ => ⟨rfl, rfl, (by decide : 1 + 1 ≤ _), (by decide : 2 + 2 ≤ _)⟩)
  dsimp only [Pt.U, Pt.locs, Pt.cells, Pt.slots] at X5 l5 y5 z5 st5 hQ5
  subst y5 z5
  obtain ⟨o5, rfl, Nq5, Kc5, gz5, Eo5, F05, F15⟩ := hQ5
  have N5 : Fr n0 L5 := by rw [l5]; exact Fr.app N4 Nq5
  refine Gl.go (fun _ k => st5 _ k) ?_
  have Ex5 := ext_of_keep Kc5
  have E_a1_5 := E_a1_4.ext Ex5
  have F_a1_modCount_5 := F_a1_modCount_4.ext Ex5
  have F_a1_elementData_5 := F_a1_elementData_4.ext Ex5
  have F_a1_size_5 := F_a1_size_4.ext Ex5
  have V_ar_5 := V_ar_4.ext Ex5
  have E_ar_5 := E_ar_4.ext Ex5
  have E_y0_5 := E_y0_4.ext Ex5
  have E_y1_5 := E_y1_4.ext Ex5
  have O__5 := O__4.ext Ex5
  have V_b4_5 := Vc4.ext Ex5
  have SZ5 : n0 ≤ T5.heap.size := Nat.le_trans SZ4 Ex5.1
  have K5 : Keep h0 T5.heap [] := K4.ext Ex5
  show Gl _ _ _ _ (T5.setTop (mkF m 53 #[.val (.ref a1), .unset] [(.ref o5)]))
  have g_o5 : n0 ≤ o5 := Nat.le_trans SZ4 gz5
  have sz_o5 : h0.size ≤ o5 := Nat.le_trans K4.1 gz5
  have ne_a1_o5 : a1 ≠ o5 := Nat.ne_of_lt (Nat.lt_of_lt_of_le E_a1_4.lt gz5)
  have ne_ar_o5 : ar ≠ o5 := Nat.ne_of_lt (Nat.lt_of_lt_of_le V_ar_4.lt gz5)
  have ne_b4_o5 : b4 ≠ o5 := Nat.ne_of_lt (Nat.lt_of_lt_of_le Vc4.lt gz5)
  have ne_y0_o5 : y0 ≠ o5 := Nat.ne_of_lt (Nat.lt_of_lt_of_le E_y0_4.lt gz5)
  have ne_y1_o5 : y1 ≠ o5 := Nat.ne_of_lt (Nat.lt_of_lt_of_le E_y1_4.lt gz5)
  refine leafA X5 hx hlk Bd.returns rfl rfl (hb hby d18_53) ?_ (by decide) (by decide)
  exact ⟨o5, rfl, N5, K5, sz_o5, Eo5, F05, F15⟩
def Q_lco_2 (Z : State) (a1 : Addr) (mc : Int32) (ar : Addr) (kA : ClassId) (mO : Addr) (y0 : Addr) (y1 : Addr) (eM : Addr) (h0 : Heap) (n0 : Nat) (v : Option Value) (h : Heap) (L : List Loc) : Prop := ∃ o, v = some (.ref o) ∧ Fr n0 L ∧ Keep h0 h [] ∧ h0.size ≤ o ∧ (Exa Z h o "java/util/ImmutableCollections$List12") ∧ (Fld Z h o "java/util/ImmutableCollections$List12" "e0" "Ljava/lang/Object;" (.ref y0)) ∧ (Fld Z h o "java/util/ImmutableCollections$List12" "e1" "Ljava/lang/Object;" (.ref y1))
set_option maxRecDepth 65536 in
set_option maxHeartbeats 40000000 in
theorem rm_lco_2 (l : Launch) (Z : State) (a0 : Array Value) (hw : ∀ d ∈ tables_1, d.before a0 Z = true) (ws : List Jvm.Cond) (a1 : Addr) (mc : Int32) (ar : Addr) (kA : ClassId) (mO : Addr) (y0 : Addr) (y1 : Addr) (eM : Addr) (h0 : Heap) (n0 : Nat) (Z0 : n0 ≤ h0.size) (E_a1 : (Exa Z h0 a1 "java/util/ArrayList")) (M_a1 : (Fld Z h0 a1 "java/util/AbstractList" "modCount" "I" (.int mc))) (D_a1 : (Fld Z h0 a1 "java/util/ArrayList" "elementData" "[Ljava/lang/Object;" (.ref ar))) (S_a1 : (Fld Z h0 a1 "java/util/ArrayList" "size" "I" (.int (2 : Int32)))) (V1 : (Arv Z h0 ar kA (.object "java/lang/Object") (10 : Int32) [(.ref y0), (.ref y1), .null, .null, .null, .null, .null, .null, .null, .null] .null)) (X_y0 : (Exa Z h0 y0 "java/lang/String")) (X_y1 : (Exa Z h0 y1 "java/lang/String")) (E_ar : (Exa Z h0 ar "[Ljava/lang/Object;")) (MO : Mr Z "[Ljava/lang/Object;" mO) (SE : Sta Z Z.heap "java/util/ImmutableCollections" "EMPTY" "Ljava/lang/Object;" (.ref eM)) (O0 : Old Z n0 h0) :
    MetFree l (⟨"java/util/List", "copyOf", "(Ljava/util/Collection;)Ljava/util/List;"⟩ : MethodName) (head1 (Jvm.Cond.code (⟨"java/util/List", "copyOf", "(Ljava/util/Collection;)Ljava/util/List;"⟩ : MethodName) jdk_40_method_48_code 1 (some (.object "java/util/List")) :: ws) ({ frames := 7, cells := 2, slots := 4, locals := 89 } : Room)) (fun aa U => aa = #[(.ref a1)] ∧ Z.Warmed39 U.vm ∧ U.heap = h0) (fun _ _ _ _ _ => True) (fun _ U o U' => ∃ v L, o = .returned v ∧ Q_lco_2 Z a1 mc ar kA mO y0 y1 eM h0 n0 v U'.heap L ∧ FrameEnd U o U' L ({ frames := 7, cells := 2, slots := 4, locals := 89 } : Room).cells ({ frames := 7, cells := 2, slots := 4, locals := 89 } : Room).slots) := by
  refine MetFree.of_bodySF (plainFor_of_name pn_10) hisR ?_
  intro p e s m args below meth c s₁ Bd hml0 hP hK
  obtain ⟨rfl, hZ, hh⟩ := hP
  have hx := Bd.exec
  have hby := Bd.bytes
  have hml : c.maxLocals = 1 := hml0
  have hown : s.vm.findClass "java/util/List" = some m.cls := findClass_of_methodNamed Bd.named
  have hnm := (name_of_methodNamed Bd.named Bd.method).1
  have hlk : meth.locks = false := BodyLoose.notSynchronized Bd
  have X0 : Stand p l e ({ frames := 7, cells := 2, slots := 4, locals := 89 } : Room) s m #[(.ref a1)] below meth c s₁ [] 0 0 := Stand.of_body Bd
  have e0 : s₁.heap = h0 := by rw [← hh, Bd.state]; rfl
  have N0 := Fr.nil n0
  have K0 : Keep h0 h0 [] := Keep.refl _ _
  show Gl p.tables e below (QQof s (Q_lco_2 Z a1 mc ar kA mO y0 y1 eM h0 n0) 2 4) (s₁.setTop (entryFrame m #[(.ref a1)] 1))
  refine Gl.go (fun t k => castTop (ef_lco_2 m a1) k) ?_
  show Gl _ _ _ _ (s₁.setTop (mkF m 0 #[.val (.ref a1)] []))
  refine Gl.go (fun _ k => XS.aloadN X0.here hx rfl (hb hby d17_0) rfl rfl  k) ?_
  obtain ⟨_, _, ⟨T1, L1, k1, n1⟩, -, X1, ⟨Lc1, hQ1, l1, y1, z1⟩, st1⟩ := Jvm.LawKit.callS X0 hx (y := (⟨"java/util/ImmutableCollections", "listCopy", "(Ljava/util/Collection;)Ljava/util/List;"⟩ : MethodName)) hown (mvT hZ (hw _ (List.mem_of_getElem? (i := 106) rfl))) (mvT hZ (hw _ (List.mem_of_getElem? (i := 107) rfl))) (mvT hZ (hw _ (List.mem_of_getElem? (i := 108) rfl))) (mvT hZ (hw _ (List.mem_of_getElem? (i := 109) rfl))) (by decide) (backOf (W := 0) (rm_lcp_2 l Z a0 hw [] a1 mc ar kA mO y0 y1 eM h0 n0 Z0 E_a1 M_a1 D_a1 S_a1 V1 X_y0 X_y1 E_ar MO SE O0) hZ (hw _ (List.mem_of_getElem? (i := 109) rfl)) (hw _ (List.mem_of_getElem? (i := 108) rfl)) (by decide) (by decide)) (g := (mkF m 1 #[.val (.ref a1)] [(.ref a1)])) rfl (by rw [hml]; rfl) (argsL := [(.ref a1)]) (rest := []) (lenOf pd_12 rfl) rfl (by show 2 * 0 + _ ≤ _; exact Nat.le_of_eq rfl) (hb hby d17_1) (fun _ _ => ⟨rfl, e0, (by decide : 0 + 2 ≤ _), (by decide : 0 + 4 ≤ _)⟩)
  dsimp only [Pt.U, Pt.locs, Pt.cells, Pt.slots] at X1 l1 y1 z1 st1 hQ1
  subst y1 z1
  obtain ⟨o1, rfl, Nq1, Kc1, gz1, Eo1, F01, F11⟩ := hQ1
  have N1 : Fr n0 L1 := by rw [l1]; exact Fr.app N0 Nq1
  refine Gl.go (fun _ k => st1 _ k) ?_
  have Ex1 := ext_of_keep Kc1
  have E_a1_1 := E_a1.ext Ex1
  have F_a1_modCount_1 := M_a1.ext Ex1
  have F_a1_elementData_1 := D_a1.ext Ex1
  have F_a1_size_1 := S_a1.ext Ex1
  have V_ar_1 := V1.ext Ex1
  have E_ar_1 := E_ar.ext Ex1
  have E_y0_1 := X_y0.ext Ex1
  have E_y1_1 := X_y1.ext Ex1
  have O__1 := O0.ext Ex1
  have SZ1 : n0 ≤ T1.heap.size := Nat.le_trans Z0 Ex1.1
  have K1 : Keep h0 T1.heap [] := K0.ext Ex1
  show Gl _ _ _ _ (T1.setTop (mkF m 4 #[.val (.ref a1)] [(.ref o1)]))
  have g_o1 : n0 ≤ o1 := Nat.le_trans Z0 gz1
  have sz_o1 : h0.size ≤ o1 := Nat.le_trans K0.1 gz1
  have ne_a1_o1 : a1 ≠ o1 := Nat.ne_of_lt (Nat.lt_of_lt_of_le E_a1.lt gz1)
  have ne_ar_o1 : ar ≠ o1 := Nat.ne_of_lt (Nat.lt_of_lt_of_le V1.lt gz1)
  have ne_y0_o1 : y0 ≠ o1 := Nat.ne_of_lt (Nat.lt_of_lt_of_le X_y0.lt gz1)
  have ne_y1_o1 : y1 ≠ o1 := Nat.ne_of_lt (Nat.lt_of_lt_of_le X_y1.lt gz1)
  refine leafA X1 hx hlk Bd.returns rfl rfl (hb hby d17_4) ?_ (by decide) (by decide)
  exact ⟨o1, rfl, N1, K1, sz_o1, Eo1, F01, F11⟩
def Q_cp3_3 (Z : State) (ar : Addr) (kA : ClassId) (mO : Addr) (y0 : Addr) (y1 : Addr) (y2 : Addr) (h0 : Heap) (n0 : Nat) (v : Option Value) (h : Heap) (L : List Loc) : Prop := ∃ b kB, v = some (.ref b) ∧ Fr n0 L ∧ Keep h0 h [] ∧ h0.size ≤ b ∧ (Arv Z h b kB (.object "java/lang/Object") (3 : Int32) [(.ref y0), (.ref y1), (.ref y2)] .null)
set_option maxRecDepth 65536 in
set_option maxHeartbeats 40000000 in
theorem rm_cp3_3 (l : Launch) (Z : State) (a0 : Array Value) (hw : ∀ d ∈ tables_1, d.before a0 Z = true) (ws : List Jvm.Cond) (ar : Addr) (kA : ClassId) (mO : Addr) (y0 : Addr) (y1 : Addr) (y2 : Addr) (h0 : Heap) (n0 : Nat) (Z0 : n0 ≤ h0.size) (V1 : (Arv Z h0 ar kA (.object "java/lang/Object") (10 : Int32) [(.ref y0), (.ref y1), (.ref y2), .null, .null, .null, .null, .null, .null, .null] .null)) (X_y0 : (Exa Z h0 y0 "java/lang/String")) (X_y1 : (Exa Z h0 y1 "java/lang/String")) (X_y2 : (Exa Z h0 y2 "java/lang/String")) (MO : Mr Z "[Ljava/lang/Object;" mO) :
    MetFree l (⟨"java/util/Arrays", "copyOf", "([Ljava/lang/Object;ILjava/lang/Class;)[Ljava/lang/Object;"⟩ : MethodName) (head1 (Jvm.Cond.code (⟨"java/util/Arrays", "copyOf", "([Ljava/lang/Object;ILjava/lang/Class;)[Ljava/lang/Object;"⟩ : MethodName) jdk_65_method_120_code 4 (some (.array (.object "java/lang/Object"))) :: ws) ({ frames := 1, cells := 1, slots := 3, locals := 18 } : Room)) (fun aa U => aa = #[(.ref ar), (.int (3 : Int32)), (.ref mO)] ∧ Z.Warmed39 U.vm ∧ U.heap = h0) (fun _ _ _ _ _ => True) (fun _ U o U' => ∃ v L, o = .returned v ∧ Q_cp3_3 Z ar kA mO y0 y1 y2 h0 n0 v U'.heap L ∧ FrameEnd U o U' L ({ frames := 1, cells := 1, slots := 3, locals := 18 } : Room).cells ({ frames := 1, cells := 1, slots := 3, locals := 18 } : Room).slots) := by
  refine MetFree.of_bodySF (plainFor_of_name pn_9) hisR ?_
  intro p e s m args below meth c s₁ Bd hml0 hP hK
  obtain ⟨rfl, hZ, hh⟩ := hP
  have hx := Bd.exec
  have hby := Bd.bytes
  have hml : c.maxLocals = 4 := hml0
  have hown : s.vm.findClass "java/util/Arrays" = some m.cls := findClass_of_methodNamed Bd.named
  have hnm := (name_of_methodNamed Bd.named Bd.method).1
  have hlk : meth.locks = false := BodyLoose.notSynchronized Bd
  have X0 : Stand p l e ({ frames := 1, cells := 1, slots := 3, locals := 18 } : Room) s m #[(.ref ar), (.int (3 : Int32)), (.ref mO)] below meth c s₁ [] 0 0 := Stand.of_body Bd
  have e0 : s₁.heap = h0 := by rw [← hh, Bd.state]; rfl
  have N0 := Fr.nil n0
  have K0 : Keep h0 h0 [] := Keep.refl _ _
  show Gl p.tables e below (QQof s (Q_cp3_3 Z ar kA mO y0 y1 y2 h0 n0) 1 3) (s₁.setTop (entryFrame m #[(.ref ar), (.int (3 : Int32)), (.ref mO)] 4))
  refine Gl.go (fun t k => castTop (ef_cp3_3 m ar (3 : Int32) mO) k) ?_
  show Gl _ _ _ _ (s₁.setTop (mkF m 0 #[.val (.ref ar), .val (.int (3 : Int32)), .val (.ref mO), .unset] []))
  refine Gl.go (fun _ k => XS.aloadN X0.here hx rfl (hb hby d22_0) rfl rfl  k) ?_
  obtain ⟨T1, X1, e1, st1⟩ := ldcM X0 hx hZ hown (hw _ (List.mem_of_getElem? (i := 146) rfl)) e0 MO (g := (mkF m 1 #[.val (.ref ar), .val (.int (3 : Int32)), .val (.ref mO), .unset] [(.ref mO)])) rfl (hb hby d22_1)
  refine Gl.go (fun _ k => st1 _ k) ?_
  show Gl _ _ _ _ (T1.setTop (mkF m 3 #[.val (.ref ar), .val (.int (3 : Int32)), .val (.ref mO), .unset] [(.ref mO), (.ref mO)]))
  refine Gl.go (fun _ k => Jvm.RoadKit.acmp (g := (mkF m 3 #[.val (.ref ar), .val (.int (3 : Int32)), .val (.ref mO), .unset] [(.ref mO), (.ref mO)])) X1 hx rfl rfl rfl (pc0 := 3) (pc' := 6) (same := true) rfl (hb hby d22_3) rfl (decide_eq_true (congrArg Value.ref (rfl : mO = mO))) (by decide) (by decide) k) ?_
  show Gl _ _ _ _ (T1.setTop (mkF m 6 #[.val (.ref ar), .val (.int (3 : Int32)), .val (.ref mO), .unset] []))
  refine Gl.go (fun _ k => XS.iloadN X1.here hx rfl (hb hby d22_6) rfl  k) ?_
  obtain ⟨T2, h2, cA2, X2, e2, E2, A2, O2, st2⟩ := newR X1 hx hZ hown (hw _ (List.mem_of_getElem? (i := 147) rfl)) (hw _ (List.mem_of_getElem? (i := 87) rfl)) e1 (g := (mkF m 7 #[.val (.ref ar), .val (.int (3 : Int32)), .val (.ref mO), .unset] [(.int (3 : Int32))])) rfl (hb hby d22_7) rfl (by decide) (cap := 3) (by decide) (by decide) (by decide) (by decide)
  obtain ⟨b2, g2⟩ : ∃ z, z = h0.size := ⟨_, rfl⟩
  rw [← g2] at A2 st2
  have g_b2 : n0 ≤ b2 := Nat.le_trans Z0 (Nat.le_of_eq g2.symm)
  have sz_b2 : h0.size ≤ b2 := Nat.le_trans K0.1 (Nat.le_of_eq g2.symm)
  have ne_ar_b2 : ar ≠ b2 := Nat.ne_of_lt (Nat.lt_of_lt_of_le V1.lt (Nat.le_of_eq g2.symm))
  have ne_y0_b2 : y0 ≠ b2 := Nat.ne_of_lt (Nat.lt_of_lt_of_le X_y0.lt (Nat.le_of_eq g2.symm))
  have ne_y1_b2 : y1 ≠ b2 := Nat.ne_of_lt (Nat.lt_of_lt_of_le X_y1.lt (Nat.le_of_eq g2.symm))
  have ne_y2_b2 : y2 ≠ b2 := Nat.ne_of_lt (Nat.lt_of_lt_of_le X_y2.lt (Nat.le_of_eq g2.symm))
  have V_ar_2 := V1.ext E2
  have E_y0_2 := X_y0.ext E2
  have E_y1_2 := X_y1.ext E2
  have E_y2_2 := X_y2.ext E2
  have SZ2 : n0 ≤ h2.size := Nat.le_trans Z0 E2.1
  have K2 : Keep h0 h2 [] := K0.ext E2
  have V_b2_2 : Arv Z h2 b2 cA2 (.object "java/lang/Object") (3 : Int32) [.null, .null, .null] .null := (Arv.new A2 (by decide)).pad (pad_rep [] _ 3)
  refine Gl.go (fun _ k => st2 _ k) ?_
  show Gl _ _ _ _ (T2.setTop (mkF m 10 #[.val (.ref ar), .val (.int (3 : Int32)), .val (.ref mO), .unset] [(.ref b2)]))
  refine Gl.go (fun _ k => XS.goto X2.here hx rfl (pc0 := 10) (pc' := 24) rfl (hb hby d22_10) (by decide) (by decide) k) ?_
  refine Gl.go (fun _ k => XS.astoreN X2.here hx rfl (hb hby d22_24) rfl rfl (l' := #[.val (.ref ar), .val (.int (3 : Int32)), .val (.ref mO), .val (.ref b2)]) rfl k) ?_
  refine Gl.go (fun _ k => XS.aloadN X2.here hx rfl (hb hby d22_25) rfl rfl  k) ?_
  refine Gl.go (fun _ k => XS.iconst X2.here hx rfl (hb hby d22_26) k) ?_
  show Gl _ _ _ _ (T2.setTop (mkF m 27 #[.val (.ref ar), .val (.int (3 : Int32)), .val (.ref mO), .val (.ref b2)] [(.int (0 : Int32)), (.ref ar)]))
  refine Gl.go (fun _ k => XS.aloadN X2.here hx rfl (hb hby d22_27) rfl rfl  k) ?_
  refine Gl.go (fun _ k => XS.iconst X2.here hx rfl (hb hby d22_28) k) ?_
  refine Gl.go (fun _ k => XS.aloadN X2.here hx rfl (hb hby d22_29) rfl rfl  k) ?_
  obtain ⟨cl3, Ar3, qA3, SA3, NA3, HA3, GA3⟩ := id V_ar_2
  refine Gl.go (fun _ k => X2.arraylength hx (by rw [e2]; exact Ar3.1) (State.isArrayOf_alike hZ.alike Ar3.2.1) (g := (mkF m 30 #[.val (.ref ar), .val (.int (3 : Int32)), .val (.ref mO), .val (.ref b2)] [(.ref ar), (.int (0 : Int32)), (.ref b2), (.int (0 : Int32)), (.ref ar)])) rfl rfl (hb hby d22_30) _ k) ?_
  rw [len_of SA3 NA3]
  show Gl _ _ _ _ (T2.setTop (mkF m 31 #[.val (.ref ar), .val (.int (3 : Int32)), .val (.ref mO), .val (.ref b2)] [(.int (10 : Int32)), (.int (0 : Int32)), (.ref b2), (.int (0 : Int32)), (.ref ar)]))
  refine Gl.go (fun _ k => XS.iloadN X2.here hx rfl (hb hby d22_31) rfl  k) ?_
  obtain ⟨_, _, ⟨T4, L4, k4, n4⟩, -, X4, ⟨Lc4, hQ4, l4, y4, z4⟩, st4⟩ := Jvm.LawKit.callS X2 hx (y := (⟨"java/lang/Math", "min", "(II)I"⟩ : MethodName)) hown (mvT hZ (hw _ (List.mem_of_getElem? (i := 148) rfl))) (mvT hZ (hw _ (List.mem_of_getElem? (i := 149) rfl))) (mvT hZ (hw _ (List.mem_of_getElem? (i := 84) rfl))) (mvT hZ (hw _ (List.mem_of_getElem? (i := 150) rfl))) (by decide) (backOf (W := 4) (rm_mn3 l Z a0 hw []  h2 n0 SZ2 ) hZ (hw _ (List.mem_of_getElem? (i := 150) rfl)) (hw _ (List.mem_of_getElem? (i := 84) rfl)) (by decide) (by decide)) (g := (mkF m 32 #[.val (.ref ar), .val (.int (3 : Int32)), .val (.ref mO), .val (.ref b2)] [(.int (3 : Int32)), (.int (10 : Int32)), (.int (0 : Int32)), (.ref b2), (.int (0 : Int32)), (.ref ar)])) rfl (by rw [hml]; rfl) (argsL := [(.int (10 : Int32)), (.int (3 : Int32))]) (rest := [(.int (0 : Int32)), (.ref b2), (.int (0 : Int32)), (.ref ar)]) (lenOf pd_1 rfl) rfl (by show 2 * 0 + _ ≤ _; exact Nat.le_of_eq rfl) (hb hby d22_32) (fun _ _ => ⟨rfl, e2, (by decide : 1 + 0 ≤ _), (by decide : 3 + 0 ≤ _)⟩)
  dsimp only [Pt.U, Pt.locs, Pt.cells, Pt.slots] at X4 l4 y4 z4 st4 hQ4
  subst y4 z4
  obtain ⟨rfl, Nq4, e4⟩ := hQ4
  have N4 : Fr n0 L4 := by rw [l4]; exact Fr.app N0 Nq4
  refine Gl.go (fun _ k => st4 _ k) ?_
  show Gl _ _ _ _ (T4.setTop (mkF m 35 #[.val (.ref ar), .val (.int (3 : Int32)), .val (.ref mO), .val (.ref b2)] [(.int (3 : Int32)), (.int (0 : Int32)), (.ref b2), (.int (0 : Int32)), (.ref ar)]))
  obtain ⟨clb, Arb, qAb, -⟩ := id V_b2_2
  obtain ⟨T5, h5, L5, X5, e5, N5, K_5, A5, st5⟩ := cpA X4 hx hZ hown (hw _ (List.mem_of_getElem? (i := 151) rfl)) (hw _ (List.mem_of_getElem? (i := 154) rfl)) (hw _ (List.mem_of_getElem? (i := 152) rfl)) (hw _ (List.mem_of_getElem? (i := 153) rfl)) e4 (us := [(.ref y0), (.ref y1), (.ref y2)]) V_ar_2 V_b2_2 (Or.inr ⟨rfl, rfl, ⟨Sto.ofV Arb qAb O2 (Ins.of_exa E_y0_2 (hw _ (List.mem_of_getElem? (i := 88) rfl))), ⟨Sto.ofV Arb qAb O2 (Ins.of_exa E_y1_2 (hw _ (List.mem_of_getElem? (i := 88) rfl))), ⟨Sto.ofV Arb qAb O2 (Ins.of_exa E_y2_2 (hw _ (List.mem_of_getElem? (i := 88) rfl))), trivial⟩⟩⟩⟩) (by decide) (by decide) (by decide) (by decide) (by decide) rfl (by decide) N4 g_b2 (g := (mkF m 35 #[.val (.ref ar), .val (.int (3 : Int32)), .val (.ref mO), .val (.ref b2)] [(.int (3 : Int32)), (.int (0 : Int32)), (.ref b2), (.int (0 : Int32)), (.ref ar)])) rfl (by rw [hml]; rfl) (rest := []) rfl (hb hby d22_35) (by decide) (W := 0) (by show 2 * 0 + _ ≤ _; exact Nat.le_of_eq rfl) (by decide)
  refine Gl.go (fun _ k => st5 _ k) ?_
  have V_ar_5 := V_ar_2.keep K_5 (ninS ne_ar_b2 nin0)
  have E_y0_5 := E_y0_2.keep K_5
  have E_y1_5 := E_y1_2.keep K_5
  have E_y2_5 := E_y2_2.keep K_5
  have SZ5 : n0 ≤ h5.size := Nat.le_trans SZ2 K_5.1
  have K5 : Keep h0 h5 [] := K2.trans K_5 (allS (Or.inr sz_b2) all0)
  show Gl _ _ _ _ (T5.setTop (mkF m 38 #[.val (.ref ar), .val (.int (3 : Int32)), .val (.ref mO), .val (.ref b2)] []))
  have V2 : (Arv Z h5 b2 cA2 (.object "java/lang/Object") (3 : Int32) [(.ref y0), (.ref y1), (.ref y2)] .null) := A5
  refine Gl.go (fun _ k => XS.aloadN X5.here hx rfl (hb hby d22_38) rfl rfl  k) ?_
  refine leafA X5 hx hlk Bd.returns rfl rfl (hb hby d22_39) ?_ (by decide) (by decide)
  rw [e5]
  exact ⟨b2, cA2, rfl, N5, K5, sz_b2, V2⟩
def Q_cp2_3 (Z : State) (ar : Addr) (kA : ClassId) (mO : Addr) (y0 : Addr) (y1 : Addr) (y2 : Addr) (h0 : Heap) (n0 : Nat) (v : Option Value) (h : Heap) (L : List Loc) : Prop := ∃ b kB, v = some (.ref b) ∧ Fr n0 L ∧ Keep h0 h [] ∧ h0.size ≤ b ∧ (Arv Z h b kB (.object "java/lang/Object") (3 : Int32) [(.ref y0), (.ref y1), (.ref y2)] .null)
set_option maxRecDepth 65536 in
set_option maxHeartbeats 40000000 in
theorem rm_cp2_3 (l : Launch) (Z : State) (a0 : Array Value) (hw : ∀ d ∈ tables_1, d.before a0 Z = true) (ws : List Jvm.Cond) (ar : Addr) (kA : ClassId) (mO : Addr) (y0 : Addr) (y1 : Addr) (y2 : Addr) (h0 : Heap) (n0 : Nat) (Z0 : n0 ≤ h0.size) (V1 : (Arv Z h0 ar kA (.object "java/lang/Object") (10 : Int32) [(.ref y0), (.ref y1), (.ref y2), .null, .null, .null, .null, .null, .null, .null] .null)) (X_y0 : (Exa Z h0 y0 "java/lang/String")) (X_y1 : (Exa Z h0 y1 "java/lang/String")) (X_y2 : (Exa Z h0 y2 "java/lang/String")) (E_ar : (Exa Z h0 ar "[Ljava/lang/Object;")) (MO : Mr Z "[Ljava/lang/Object;" mO) :
    MetFree l (⟨"java/util/Arrays", "copyOf", "([Ljava/lang/Object;I)[Ljava/lang/Object;"⟩ : MethodName) (head1 (Jvm.Cond.code (⟨"java/util/Arrays", "copyOf", "([Ljava/lang/Object;I)[Ljava/lang/Object;"⟩ : MethodName) jdk_65_method_119_code 2 (some (.array (.object "java/lang/Object"))) :: ws) ({ frames := 2, cells := 1, slots := 3, locals := 33 } : Room)) (fun aa U => aa = #[(.ref ar), (.int (3 : Int32))] ∧ Z.Warmed39 U.vm ∧ U.heap = h0) (fun _ _ _ _ _ => True) (fun _ U o U' => ∃ v L, o = .returned v ∧ Q_cp2_3 Z ar kA mO y0 y1 y2 h0 n0 v U'.heap L ∧ FrameEnd U o U' L ({ frames := 2, cells := 1, slots := 3, locals := 33 } : Room).cells ({ frames := 2, cells := 1, slots := 3, locals := 33 } : Room).slots) := by
  refine MetFree.of_bodySF (plainFor_of_name pn_9) hisR ?_
  intro p e s m args below meth c s₁ Bd hml0 hP hK
  obtain ⟨rfl, hZ, hh⟩ := hP
  have hx := Bd.exec
  have hby := Bd.bytes
  have hml : c.maxLocals = 2 := hml0
  have hown : s.vm.findClass "java/util/Arrays" = some m.cls := findClass_of_methodNamed Bd.named
  have hnm := (name_of_methodNamed Bd.named Bd.method).1
  have hlk : meth.locks = false := BodyLoose.notSynchronized Bd
  have X0 : Stand p l e ({ frames := 2, cells := 1, slots := 3, locals := 33 } : Room) s m #[(.ref ar), (.int (3 : Int32))] below meth c s₁ [] 0 0 := Stand.of_body Bd
  have e0 : s₁.heap = h0 := by rw [← hh, Bd.state]; rfl
  have N0 := Fr.nil n0
  have K0 : Keep h0 h0 [] := Keep.refl _ _
  show Gl p.tables e below (QQof s (Q_cp2_3 Z ar kA mO y0 y1 y2 h0 n0) 1 3) (s₁.setTop (entryFrame m #[(.ref ar), (.int (3 : Int32))] 2))
  refine Gl.go (fun t k => castTop (ef_cp2_3 m ar (3 : Int32)) k) ?_
  show Gl _ _ _ _ (s₁.setTop (mkF m 0 #[.val (.ref ar), .val (.int (3 : Int32))] []))
  refine Gl.go (fun _ k => XS.aloadN X0.here hx rfl (hb hby d21_0) rfl rfl  k) ?_
  refine Gl.go (fun _ k => XS.iloadN X0.here hx rfl (hb hby d21_1) rfl  k) ?_
  refine Gl.go (fun _ k => XS.aloadN X0.here hx rfl (hb hby d21_2) rfl rfl  k) ?_
  obtain ⟨T1, X1, e1, st1⟩ := gclsM X0 hx hZ hown (hw _ (List.mem_of_getElem? (i := 137) rfl)) (hw _ (List.mem_of_getElem? (i := 138) rfl)) (hw _ (List.mem_of_getElem? (i := 114) rfl)) (hw _ (List.mem_of_getElem? (i := 140) rfl)) (hw _ (List.mem_of_getElem? (i := 139) rfl)) (hw _ (List.mem_of_getElem? (i := 141) rfl)) e0 E_ar MO (g := (mkF m 3 #[.val (.ref ar), .val (.int (3 : Int32))] [(.ref ar), (.int (3 : Int32)), (.ref ar)])) rfl (by rw [hml]; rfl) rfl (hb hby d21_3) (by decide) (W := 2) (by show 2 * 0 + _ ≤ _; exact Nat.le_of_eq rfl) (by decide)
  refine Gl.go (fun _ k => st1 _ k) ?_
  show Gl _ _ _ _ (T1.setTop (mkF m 6 #[.val (.ref ar), .val (.int (3 : Int32))] [(.ref mO), (.int (3 : Int32)), (.ref ar)]))
  obtain ⟨_, _, ⟨T2, L2, k2, n2⟩, -, X2, ⟨Lc2, hQ2, l2, y2, z2⟩, st2⟩ := Jvm.LawKit.callS X1 hx (y := (⟨"java/util/Arrays", "copyOf", "([Ljava/lang/Object;ILjava/lang/Class;)[Ljava/lang/Object;"⟩ : MethodName)) hown (mvT hZ (hw _ (List.mem_of_getElem? (i := 143) rfl))) (mvT hZ (hw _ (List.mem_of_getElem? (i := 144) rfl))) (mvT hZ (hw _ (List.mem_of_getElem? (i := 135) rfl))) (mvT hZ (hw _ (List.mem_of_getElem? (i := 145) rfl))) (by decide) (backOf (W := 0) (rm_cp3_3 l Z a0 hw [] ar kA mO y0 y1 y2 h0 n0 Z0 V1 X_y0 X_y1 X_y2 MO) hZ (hw _ (List.mem_of_getElem? (i := 145) rfl)) (hw _ (List.mem_of_getElem? (i := 135) rfl)) (by decide) (by decide)) (g := (mkF m 6 #[.val (.ref ar), .val (.int (3 : Int32))] [(.ref mO), (.int (3 : Int32)), (.ref ar)])) rfl (by rw [hml]; rfl) (argsL := [(.ref ar), (.int (3 : Int32)), (.ref mO)]) (rest := []) (lenOf pd_7 rfl) rfl (by show 2 * 0 + _ ≤ _; exact Nat.le_of_eq rfl) (hb hby d21_6) (fun _ _ => ⟨rfl, e1, (by decide : 0 + 1 ≤ _), (by decide : 0 + 3 ≤ _)⟩)
  dsimp only [Pt.U, Pt.locs, Pt.cells, Pt.slots] at X2 l2 y2 z2 st2 hQ2
  subst y2 z2
  obtain ⟨b2, kc2, rfl, Nq2, Kc2, gz2, Vc2⟩ := hQ2
  have N2 : Fr n0 L2 := by rw [l2]; exact Fr.app N0 Nq2
  refine Gl.go (fun _ k => st2 _ k) ?_
  have Ex2 := ext_of_keep Kc2
  have V_ar_2 := V1.ext Ex2
  have E_ar_2 := E_ar.ext Ex2
  have E_y0_2 := X_y0.ext Ex2
  have E_y1_2 := X_y1.ext Ex2
  have E_y2_2 := X_y2.ext Ex2
  have SZ2 : n0 ≤ T2.heap.size := Nat.le_trans Z0 Ex2.1
  have K2 : Keep h0 T2.heap [] := K0.ext Ex2
  show Gl _ _ _ _ (T2.setTop (mkF m 9 #[.val (.ref ar), .val (.int (3 : Int32))] [(.ref b2)]))
  have g_b2 : n0 ≤ b2 := Nat.le_trans Z0 gz2
  have sz_b2 : h0.size ≤ b2 := Nat.le_trans K0.1 gz2
  have ne_ar_b2 : ar ≠ b2 := Nat.ne_of_lt (Nat.lt_of_lt_of_le V1.lt gz2)
  have ne_y0_b2 : y0 ≠ b2 := Nat.ne_of_lt (Nat.lt_of_lt_of_le X_y0.lt gz2)
  have ne_y1_b2 : y1 ≠ b2 := Nat.ne_of_lt (Nat.lt_of_lt_of_le X_y1.lt gz2)
  have ne_y2_b2 : y2 ≠ b2 := Nat.ne_of_lt (Nat.lt_of_lt_of_le X_y2.lt gz2)
  refine leafA X2 hx hlk Bd.returns rfl rfl (hb hby d21_9) ?_ (by decide) (by decide)
  exact ⟨b2, kc2, rfl, N2, K2, sz_b2, Vc2⟩
def Q_toa_3 (Z : State) (a1 : Addr) (mc : Int32) (ar : Addr) (kA : ClassId) (mO : Addr) (y0 : Addr) (y1 : Addr) (y2 : Addr) (h0 : Heap) (n0 : Nat) (v : Option Value) (h : Heap) (L : List Loc) : Prop := ∃ b kB, v = some (.ref b) ∧ Fr n0 L ∧ Keep h0 h [] ∧ h0.size ≤ b ∧ (Arv Z h b kB (.object "java/lang/Object") (3 : Int32) [(.ref y0), (.ref y1), (.ref y2)] .null)
set_option maxRecDepth 65536 in
set_option maxHeartbeats 40000000 in
theorem rm_toa_3 (l : Launch) (Z : State) (a0 : Array Value) (hw : ∀ d ∈ tables_1, d.before a0 Z = true) (ws : List Jvm.Cond) (a1 : Addr) (mc : Int32) (ar : Addr) (kA : ClassId) (mO : Addr) (y0 : Addr) (y1 : Addr) (y2 : Addr) (h0 : Heap) (n0 : Nat) (Z0 : n0 ≤ h0.size) (E_a1 : (Exa Z h0 a1 "java/util/ArrayList")) (M_a1 : (Fld Z h0 a1 "java/util/AbstractList" "modCount" "I" (.int mc))) (D_a1 : (Fld Z h0 a1 "java/util/ArrayList" "elementData" "[Ljava/lang/Object;" (.ref ar))) (S_a1 : (Fld Z h0 a1 "java/util/ArrayList" "size" "I" (.int (3 : Int32)))) (V1 : (Arv Z h0 ar kA (.object "java/lang/Object") (10 : Int32) [(.ref y0), (.ref y1), (.ref y2), .null, .null, .null, .null, .null, .null, .null] .null)) (X_y0 : (Exa Z h0 y0 "java/lang/String")) (X_y1 : (Exa Z h0 y1 "java/lang/String")) (X_y2 : (Exa Z h0 y2 "java/lang/String")) (E_ar : (Exa Z h0 ar "[Ljava/lang/Object;")) (MO : Mr Z "[Ljava/lang/Object;" mO) :
    MetFree l (⟨"java/util/ArrayList", "toArray", "()[Ljava/lang/Object;"⟩ : MethodName) (head1 (Jvm.Cond.code (⟨"java/util/ArrayList", "toArray", "()[Ljava/lang/Object;"⟩ : MethodName) jdk_38_method_16_code 1 (some (.array (.object "java/lang/Object"))) :: ws) ({ frames := 3, cells := 1, slots := 3, locals := 46 } : Room)) (fun aa U => aa = #[(.ref a1)] ∧ Z.Warmed39 U.vm ∧ U.heap = h0) (fun _ _ _ _ _ => True) (fun _ U o U' => ∃ v L, o = .returned v ∧ Q_toa_3 Z a1 mc ar kA mO y0 y1 y2 h0 n0 v U'.heap L ∧ FrameEnd U o U' L ({ frames := 3, cells := 1, slots := 3, locals := 46 } : Room).cells ({ frames := 3, cells := 1, slots := 3, locals := 46 } : Room).slots) := by
  refine MetFree.of_bodySF (plainFor_of_name pn_4) hisR ?_
  intro p e s m args below meth c s₁ Bd hml0 hP hK
  obtain ⟨rfl, hZ, hh⟩ := hP
  have hx := Bd.exec
  have hby := Bd.bytes
  have hml : c.maxLocals = 1 := hml0
  have hown : s.vm.findClass "java/util/ArrayList" = some m.cls := findClass_of_methodNamed Bd.named
  have hnm := (name_of_methodNamed Bd.named Bd.method).1
  have hlk : meth.locks = false := BodyLoose.notSynchronized Bd
  have X0 : Stand p l e ({ frames := 3, cells := 1, slots := 3, locals := 46 } : Room) s m #[(.ref a1)] below meth c s₁ [] 0 0 := Stand.of_body Bd
  have e0 : s₁.heap = h0 := by rw [← hh, Bd.state]; rfl
  have N0 := Fr.nil n0
  have K0 : Keep h0 h0 [] := Keep.refl _ _
  show Gl p.tables e below (QQof s (Q_toa_3 Z a1 mc ar kA mO y0 y1 y2 h0 n0) 1 3) (s₁.setTop (entryFrame m #[(.ref a1)] 1))
  refine Gl.go (fun t k => castTop (ef_toa_3 m a1) k) ?_
  show Gl _ _ _ _ (s₁.setTop (mkF m 0 #[.val (.ref a1)] []))
  refine Gl.go (fun _ k => XS.aloadN X0.here hx rfl (hb hby d20_0) rfl rfl  k) ?_
  obtain ⟨T1, X1, e1, st1⟩ := getF X0 hx hZ hown (host := "") (Or.inl (hw _ (List.mem_of_getElem? (i := 56) rfl))) Via.refl e0 D_a1 (g := (mkF m 1 #[.val (.ref a1)] [(.ref a1)])) rfl rfl (hb hby d20_1)
  refine Gl.go (fun _ k => st1 _ k) ?_
  show Gl _ _ _ _ (T1.setTop (mkF m 4 #[.val (.ref a1)] [(.ref ar)]))
  refine Gl.go (fun _ k => XS.aloadN X1.here hx rfl (hb hby d20_4) rfl rfl  k) ?_
  obtain ⟨T2, X2, e2, st2⟩ := getF X1 hx hZ hown (host := "") (Or.inl (hw _ (List.mem_of_getElem? (i := 65) rfl))) Via.refl e1 S_a1 (g := (mkF m 5 #[.val (.ref a1)] [(.ref a1), (.ref ar)])) rfl rfl (hb hby d20_5)
  refine Gl.go (fun _ k => st2 _ k) ?_
  show Gl _ _ _ _ (T2.setTop (mkF m 8 #[.val (.ref a1)] [(.int (3 : Int32)), (.ref ar)]))
  obtain ⟨_, _, ⟨T3, L3, k3, n3⟩, -, X3, ⟨Lc3, hQ3, l3, y3, z3⟩, st3⟩ := Jvm.LawKit.callS X2 hx (y := (⟨"java/util/Arrays", "copyOf", "([Ljava/lang/Object;I)[Ljava/lang/Object;"⟩ : MethodName)) hown (mvT hZ (hw _ (List.mem_of_getElem? (i := 133) rfl))) (mvT hZ (hw _ (List.mem_of_getElem? (i := 134) rfl))) (mvT hZ (hw _ (List.mem_of_getElem? (i := 135) rfl))) (mvT hZ (hw _ (List.mem_of_getElem? (i := 136) rfl))) (by decide) (backOf (W := 0) (rm_cp2_3 l Z a0 hw [] ar kA mO y0 y1 y2 h0 n0 Z0 V1 X_y0 X_y1 X_y2 E_ar MO) hZ (hw _ (List.mem_of_getElem? (i := 136) rfl)) (hw _ (List.mem_of_getElem? (i := 135) rfl)) (by decide) (by decide)) (g := (mkF m 8 #[.val (.ref a1)] [(.int (3 : Int32)), (.ref ar)])) rfl (by rw [hml]; rfl) (argsL := [(.ref ar), (.int (3 : Int32))]) (rest := []) (lenOf pd_8 rfl) rfl (by show 2 * 0 + _ ≤ _; exact Nat.le_of_eq rfl) (hb hby d20_8) (fun _ _ => ⟨rfl, e2, (by decide : 0 + 1 ≤ _), (by decide : 0 + 3 ≤ _)⟩)
  dsimp only [Pt.U, Pt.locs, Pt.cells, Pt.slots] at X3 l3 y3 z3 st3 hQ3
  subst y3 z3
  obtain ⟨b3, kc3, rfl, Nq3, Kc3, gz3, Vc3⟩ := hQ3
  have N3 : Fr n0 L3 := by rw [l3]; exact Fr.app N0 Nq3
  refine Gl.go (fun _ k => st3 _ k) ?_
  have Ex3 := ext_of_keep Kc3
  have E_a1_3 := E_a1.ext Ex3
  have F_a1_modCount_3 := M_a1.ext Ex3
  have F_a1_elementData_3 := D_a1.ext Ex3
  have F_a1_size_3 := S_a1.ext Ex3
  have V_ar_3 := V1.ext Ex3
  have E_ar_3 := E_ar.ext Ex3
  have E_y0_3 := X_y0.ext Ex3
  have E_y1_3 := X_y1.ext Ex3
  have E_y2_3 := X_y2.ext Ex3
  have SZ3 : n0 ≤ T3.heap.size := Nat.le_trans Z0 Ex3.1
  have K3 : Keep h0 T3.heap [] := K0.ext Ex3
  show Gl _ _ _ _ (T3.setTop (mkF m 11 #[.val (.ref a1)] [(.ref b3)]))
  have g_b3 : n0 ≤ b3 := Nat.le_trans Z0 gz3
  have sz_b3 : h0.size ≤ b3 := Nat.le_trans K0.1 gz3
  have ne_a1_b3 : a1 ≠ b3 := Nat.ne_of_lt (Nat.lt_of_lt_of_le E_a1.lt gz3)
  have ne_ar_b3 : ar ≠ b3 := Nat.ne_of_lt (Nat.lt_of_lt_of_le V1.lt gz3)
  have ne_y0_b3 : y0 ≠ b3 := Nat.ne_of_lt (Nat.lt_of_lt_of_le X_y0.lt gz3)
  have ne_y1_b3 : y1 ≠ b3 := Nat.ne_of_lt (Nat.lt_of_lt_of_le X_y1.lt gz3)
  have ne_y2_b3 : y2 ≠ b3 := Nat.ne_of_lt (Nat.lt_of_lt_of_le X_y2.lt gz3)
  refine leafA X3 hx hlk Bd.returns rfl rfl (hb hby d20_11) ?_ (by decide) (by decide)
  exact ⟨b3, kc3, rfl, N3, K3, sz_b3, Vc3⟩
def Q_ise_3 (Z : State) (a1 : Addr) (h0 : Heap) (n0 : Nat) (v : Option Value) (h : Heap) (L : List Loc) : Prop := v = some (.int (0 : Int32)) ∧ Fr n0 L ∧ h = h0
set_option maxRecDepth 65536 in
set_option maxHeartbeats 40000000 in
theorem rm_ise_3 (l : Launch) (Z : State) (a0 : Array Value) (hw : ∀ d ∈ tables_1, d.before a0 Z = true) (ws : List Jvm.Cond) (a1 : Addr) (h0 : Heap) (n0 : Nat) (Z0 : n0 ≤ h0.size) (S_a1 : (Fld Z h0 a1 "java/util/ArrayList" "size" "I" (.int (3 : Int32)))) :
    MetFree l (⟨"java/util/ArrayList", "isEmpty", "()Z"⟩ : MethodName) (head1 (Jvm.Cond.code (⟨"java/util/ArrayList", "isEmpty", "()Z"⟩ : MethodName) jdk_38_method_9_code 1 (some .boolean) :: ws) ({ frames := 0, cells := 0, slots := 0, locals := 0 } : Room)) (fun aa U => aa = #[(.ref a1)] ∧ Z.Warmed39 U.vm ∧ U.heap = h0) (fun _ _ _ _ _ => True) (fun _ U o U' => ∃ v L, o = .returned v ∧ Q_ise_3 Z a1 h0 n0 v U'.heap L ∧ FrameEnd U o U' L ({ frames := 0, cells := 0, slots := 0, locals := 0 } : Room).cells ({ frames := 0, cells := 0, slots := 0, locals := 0 } : Room).slots) := by
  refine MetFree.of_bodySF (plainFor_of_name pn_4) hisR ?_
  intro p e s m args below meth c s₁ Bd hml0 hP hK
  obtain ⟨rfl, hZ, hh⟩ := hP
  have hx := Bd.exec
  have hby := Bd.bytes
  have hml : c.maxLocals = 1 := hml0
  have hown : s.vm.findClass "java/util/ArrayList" = some m.cls := findClass_of_methodNamed Bd.named
  have hnm := (name_of_methodNamed Bd.named Bd.method).1
  have hlk : meth.locks = false := BodyLoose.notSynchronized Bd
  have X0 : Stand p l e ({ frames := 0, cells := 0, slots := 0, locals := 0 } : Room) s m #[(.ref a1)] below meth c s₁ [] 0 0 := Stand.of_body Bd
  have e0 : s₁.heap = h0 := by rw [← hh, Bd.state]; rfl
  have N0 := Fr.nil n0
  have K0 : Keep h0 h0 [] := Keep.refl _ _
  show Gl p.tables e below (QQof s (Q_ise_3 Z a1 h0 n0) 0 0) (s₁.setTop (entryFrame m #[(.ref a1)] 1))
  refine Gl.go (fun t k => castTop (ef_ise_3 m a1) k) ?_
  show Gl _ _ _ _ (s₁.setTop (mkF m 0 #[.val (.ref a1)] []))
  refine Gl.go (fun _ k => XS.aloadN X0.here hx rfl (hb hby d19_0) rfl rfl  k) ?_
  obtain ⟨T1, X1, e1, st1⟩ := getF X0 hx hZ hown (host := "") (Or.inl (hw _ (List.mem_of_getElem? (i := 65) rfl))) Via.refl e0 S_a1 (g := (mkF m 1 #[.val (.ref a1)] [(.ref a1)])) rfl rfl (hb hby d19_1)
  refine Gl.go (fun _ k => st1 _ k) ?_
  show Gl _ _ _ _ (T1.setTop (mkF m 4 #[.val (.ref a1)] [(.int (3 : Int32))]))
  refine Gl.go (fun _ k => XS.ifYes X1.here hx rfl (pc0 := 4) (pc' := 11) rfl (hb hby d19_4) rfl ((if0 _ _).trans (feq (by decide)).2) (by decide) (by decide) k) ?_
  show Gl _ _ _ _ (T1.setTop (mkF m 11 #[.val (.ref a1)] []))
  refine Gl.go (fun _ k => XS.iconst X1.here hx rfl (hb hby d19_11) k) ?_
  refine leafN X1 hx hlk (t := .boolean) Bd.returns (by simp) (hb hby d19_12) ?_ (by decide) (by decide)
  exact ⟨rfl, N0, e1⟩
def Q_lof_3 (Z : State) (ar eM : Addr) (kA : ClassId) (y0 : Addr) (y1 : Addr) (y2 : Addr) (h0 : Heap) (n0 : Nat) (v : Option Value) (h : Heap) (L : List Loc) : Prop := ∃ o, v = some (.ref o) ∧ Fr n0 L ∧ Keep h0 h [] ∧ h0.size ≤ o ∧ ∃ br kB, h0.size ≤ br ∧ (Exa Z h o "java/util/ImmutableCollections$ListN") ∧ (Fld Z h o "java/util/ImmutableCollections$ListN" "elements" "[Ljava/lang/Object;" (.ref br)) ∧ (Arv Z h br kB (.object "java/lang/Object") (3 : Int32) [(.ref y0), (.ref y1), (.ref y2)] .null)
set_option maxRecDepth 65536 in
set_option maxHeartbeats 40000000 in
theorem rm_lof_3 (l : Launch) (Z : State) (a0 : Array Value) (hw : ∀ d ∈ tables_1, d.before a0 Z = true) (ws : List Jvm.Cond) (ar eM : Addr) (kA : ClassId) (y0 : Addr) (y1 : Addr) (y2 : Addr) (h0 : Heap) (n0 : Nat) (Z0 : n0 ≤ h0.size) (V1 : (Arv Z h0 ar kA (.object "java/lang/Object") (3 : Int32) [(.ref y0), (.ref y1), (.ref y2)] .null)) (X_y0 : (Exa Z h0 y0 "java/lang/String")) (X_y1 : (Exa Z h0 y1 "java/lang/String")) (X_y2 : (Exa Z h0 y2 "java/lang/String")) (SE : Sta Z Z.heap "java/util/ImmutableCollections" "EMPTY" "Ljava/lang/Object;" (.ref eM)) (O0 : Old Z n0 h0) :
    MetFree l (⟨"java/util/List", "of", "([Ljava/lang/Object;)Ljava/util/List;"⟩ : MethodName) (head1 (Jvm.Cond.code (⟨"java/util/List", "of", "([Ljava/lang/Object;)Ljava/util/List;"⟩ : MethodName) jdk_40_method_47_code 2 (some (.object "java/util/List")) :: ws) ({ frames := 6, cells := 2, slots := 5, locals := 77 } : Room)) (fun aa U => aa = #[(.ref ar)] ∧ Z.Warmed39 U.vm ∧ U.heap = h0) (fun _ _ _ _ _ => True) (fun _ U o U' => ∃ v L, o = .returned v ∧ Q_lof_3 Z ar eM kA y0 y1 y2 h0 n0 v U'.heap L ∧ FrameEnd U o U' L ({ frames := 6, cells := 2, slots := 5, locals := 77 } : Room).cells ({ frames := 6, cells := 2, slots := 5, locals := 77 } : Room).slots) := by
  refine MetFree.of_bodySF (plainFor_of_name pn_10) hisR ?_
  intro p e s m args below meth c s₁ Bd hml0 hP hK
  obtain ⟨rfl, hZ, hh⟩ := hP
  have hx := Bd.exec
  have hby := Bd.bytes
  have hml : c.maxLocals = 2 := hml0
  have hown : s.vm.findClass "java/util/List" = some m.cls := findClass_of_methodNamed Bd.named
  have hnm := (name_of_methodNamed Bd.named Bd.method).1
  have hlk : meth.locks = false := BodyLoose.notSynchronized Bd
  have X0 : Stand p l e ({ frames := 6, cells := 2, slots := 5, locals := 77 } : Room) s m #[(.ref ar)] below meth c s₁ [] 0 0 := Stand.of_body Bd
  have e0 : s₁.heap = h0 := by rw [← hh, Bd.state]; rfl
  have N0 := Fr.nil n0
  have K0 : Keep h0 h0 [] := Keep.refl _ _
  show Gl p.tables e below (QQof s (Q_lof_3 Z ar eM kA y0 y1 y2 h0 n0) 2 5) (s₁.setTop (entryFrame m #[(.ref ar)] 2))
  refine Gl.go (fun t k => castTop (ef_lof_3 m ar) k) ?_
  show Gl _ _ _ _ (s₁.setTop (mkF m 0 #[.val (.ref ar), .unset] []))
  refine Gl.go (fun _ k => XS.aloadN X0.here hx rfl (hb hby d24_0) rfl rfl  k) ?_
  obtain ⟨cl1, Ar1, qA1, SA1, NA1, HA1, GA1⟩ := id V1
  refine Gl.go (fun _ k => X0.arraylength hx (by rw [e0]; exact Ar1.1) (State.isArrayOf_alike hZ.alike Ar1.2.1) (g := (mkF m 1 #[.val (.ref ar), .unset] [(.ref ar)])) rfl rfl (hb hby d24_1) _ k) ?_
  rw [len_of SA1 NA1]
  show Gl _ _ _ _ (s₁.setTop (mkF m 2 #[.val (.ref ar), .unset] [(.int (3 : Int32))]))
  refine Gl.go (fun _ k => XS.tswOut X0.here hx rfl (pc0 := 2) (pc' := 59) rfl (hb hby d24_2) rfl (by decide) (by decide) (by decide) k) ?_
  show Gl _ _ _ _ (s₁.setTop (mkF m 59 #[.val (.ref ar), .unset] []))
  refine Gl.go (fun _ k => XS.aloadN X0.here hx rfl (hb hby d24_59) rfl rfl  k) ?_
  obtain ⟨_, _, ⟨T2, L2, k2, n2⟩, -, X2, ⟨Lc2, hQ2, l2, y2, z2⟩, st2⟩ := Jvm.LawKit.callS X0 hx (y := (⟨"java/util/ImmutableCollections", "listFromArray", "([Ljava/lang/Object;)Ljava/util/List;"⟩ : MethodName)) hown (mvT hZ (hw _ (List.mem_of_getElem? (i := 258) rfl))) (mvT hZ (hw _ (List.mem_of_getElem? (i := 259) rfl))) (mvT hZ (hw _ (List.mem_of_getElem? (i := 108) rfl))) (mvT hZ (hw _ (List.mem_of_getElem? (i := 260) rfl))) (by decide) (backOf (W := 0) (rm_lfa l Z a0 hw [] ar kA y0 y1 y2 h0 n0 Z0 V1 X_y0 X_y1 X_y2) hZ (hw _ (List.mem_of_getElem? (i := 260) rfl)) (hw _ (List.mem_of_getElem? (i := 108) rfl)) (by decide) (by decide)) (g := (mkF m 60 #[.val (.ref ar), .unset] [(.ref ar)])) rfl (by rw [hml]; rfl) (argsL := [(.ref ar)]) (rest := []) (lenOf pd_11 rfl) rfl (by show 2 * 0 + _ ≤ _; exact Nat.le_of_eq rfl) (hb hby d24_60) (fun _ _ => ⟨rfl, e0, (by decide : 0 + 2 ≤ _), (by decide : 0 + 5 ≤ _)⟩)
  dsimp only [Pt.U, Pt.locs, Pt.cells, Pt.slots] at X2 l2 y2 z2 st2 hQ2
  subst y2 z2
  obtain ⟨o2, rfl, Nq2, Kc2, gz2, br2, kb2, gb2, Eo2, F02, Vo2⟩ := hQ2
  have N2 : Fr n0 L2 := by rw [l2]; exact Fr.app N0 Nq2
  refine Gl.go (fun _ k => st2 _ k) ?_
  have Ex2 := ext_of_keep Kc2
  have V_ar_2 := V1.ext Ex2
  have E_y0_2 := X_y0.ext Ex2
  have E_y1_2 := X_y1.ext Ex2
  have E_y2_2 := X_y2.ext Ex2
  have O__2 := O0.ext Ex2
  have SZ2 : n0 ≤ T2.heap.size := Nat.le_trans Z0 Ex2.1
  have K2 : Keep h0 T2.heap [] := K0.ext Ex2
  show Gl _ _ _ _ (T2.setTop (mkF m 63 #[.val (.ref ar), .unset] [(.ref o2)]))
  have g_o2 : n0 ≤ o2 := Nat.le_trans Z0 gz2
  have sz_o2 : h0.size ≤ o2 := Nat.le_trans K0.1 gz2
  have ne_ar_o2 : ar ≠ o2 := Nat.ne_of_lt (Nat.lt_of_lt_of_le V1.lt gz2)
  have ne_y0_o2 : y0 ≠ o2 := Nat.ne_of_lt (Nat.lt_of_lt_of_le X_y0.lt gz2)
  have ne_y1_o2 : y1 ≠ o2 := Nat.ne_of_lt (Nat.lt_of_lt_of_le X_y1.lt gz2)
  have ne_y2_o2 : y2 ≠ o2 := Nat.ne_of_lt (Nat.lt_of_lt_of_le X_y2.lt gz2)
  have g_br2 : n0 ≤ br2 := Nat.le_trans Z0 gb2
  have sz_br2 : h0.size ≤ br2 := Nat.le_trans K0.1 gb2
  have ne_ar_br2 : ar ≠ br2 := Nat.ne_of_lt (Nat.lt_of_lt_of_le V1.lt gb2)
  have ne_y0_br2 : y0 ≠ br2 := Nat.ne_of_lt (Nat.lt_of_lt_of_le X_y0.lt gb2)
  have ne_y1_br2 : y1 ≠ br2 := Nat.ne_of_lt (Nat.lt_of_lt_of_le X_y1.lt gb2)
  have ne_y2_br2 : y2 ≠ br2 := Nat.ne_of_lt (Nat.lt_of_lt_of_le X_y2.lt gb2)
  refine leafA X2 hx hlk Bd.returns rfl rfl (hb hby d24_63) ?_ (by decide) (by decide)
  exact ⟨o2, rfl, N2, K2, sz_o2, br2, kb2, sz_br2, Eo2, F02, Vo2⟩
def Q_lcp_3 (Z : State) (a1 : Addr) (mc : Int32) (ar : Addr) (kA : ClassId) (mO : Addr) (y0 : Addr) (y1 : Addr) (y2 : Addr) (eM : Addr) (h0 : Heap) (n0 : Nat) (v : Option Value) (h : Heap) (L : List Loc) : Prop := ∃ o, v = some (.ref o) ∧ Fr n0 L ∧ Keep h0 h [] ∧ h0.size ≤ o ∧ ∃ br kB, h0.size ≤ br ∧ (Exa Z h o "java/util/ImmutableCollections$ListN") ∧ (Fld Z h o "java/util/ImmutableCollections$ListN" "elements" "[Ljava/lang/Object;" (.ref br)) ∧ (Arv Z h br kB (.object "java/lang/Object") (3 : Int32) [(.ref y0), (.ref y1), (.ref y2)] .null)
set_option maxRecDepth 65536 in
set_option maxHeartbeats 40000000 in
theorem rm_lcp_3 (l : Launch) (Z : State) (a0 : Array Value) (hw : ∀ d ∈ tables_1, d.before a0 Z = true) (ws : List Jvm.Cond) (a1 : Addr) (mc : Int32) (ar : Addr) (kA : ClassId) (mO : Addr) (y0 : Addr) (y1 : Addr) (y2 : Addr) (eM : Addr) (h0 : Heap) (n0 : Nat) (Z0 : n0 ≤ h0.size) (E_a1 : (Exa Z h0 a1 "java/util/ArrayList")) (M_a1 : (Fld Z h0 a1 "java/util/AbstractList" "modCount" "I" (.int mc))) (D_a1 : (Fld Z h0 a1 "java/util/ArrayList" "elementData" "[Ljava/lang/Object;" (.ref ar))) (S_a1 : (Fld Z h0 a1 "java/util/ArrayList" "size" "I" (.int (3 : Int32)))) (V1 : (Arv Z h0 ar kA (.object "java/lang/Object") (10 : Int32) [(.ref y0), (.ref y1), (.ref y2), .null, .null, .null, .null, .null, .null, .null] .null)) (X_y0 : (Exa Z h0 y0 "java/lang/String")) (X_y1 : (Exa Z h0 y1 "java/lang/String")) (X_y2 : (Exa Z h0 y2 "java/lang/String")) (E_ar : (Exa Z h0 ar "[Ljava/lang/Object;")) (MO : Mr Z "[Ljava/lang/Object;" mO) (SE : Sta Z Z.heap "java/util/ImmutableCollections" "EMPTY" "Ljava/lang/Object;" (.ref eM)) (O0 : Old Z n0 h0) :
    MetFree l (⟨"java/util/ImmutableCollections", "listCopy", "(Ljava/util/Collection;)Ljava/util/List;"⟩ : MethodName) (head1 (Jvm.Cond.code (⟨"java/util/ImmutableCollections", "listCopy", "(Ljava/util/Collection;)Ljava/util/List;"⟩ : MethodName) jdk_56_method_3_code 2 (some (.object "java/util/List")) :: ws) ({ frames := 7, cells := 3, slots := 8, locals := 90 } : Room)) (fun aa U => aa = #[(.ref a1)] ∧ Z.Warmed39 U.vm ∧ U.heap = h0) (fun _ _ _ _ _ => True) (fun _ U o U' => ∃ v L, o = .returned v ∧ Q_lcp_3 Z a1 mc ar kA mO y0 y1 y2 eM h0 n0 v U'.heap L ∧ FrameEnd U o U' L ({ frames := 7, cells := 3, slots := 8, locals := 90 } : Room).cells ({ frames := 7, cells := 3, slots := 8, locals := 90 } : Room).slots) := by
  refine MetFree.of_bodySF (plainFor_of_name pn_8) hisR ?_
  intro p e s m args below meth c s₁ Bd hml0 hP hK
  obtain ⟨rfl, hZ, hh⟩ := hP
  have hx := Bd.exec
  have hby := Bd.bytes
  have hml : c.maxLocals = 2 := hml0
  have hown : s.vm.findClass "java/util/ImmutableCollections" = some m.cls := findClass_of_methodNamed Bd.named
  have hnm := (name_of_methodNamed Bd.named Bd.method).1
  have hlk : meth.locks = false := BodyLoose.notSynchronized Bd
  have X0 : Stand p l e ({ frames := 7, cells := 3, slots := 8, locals := 90 } : Room) s m #[(.ref a1)] below meth c s₁ [] 0 0 := Stand.of_body Bd
  have e0 : s₁.heap = h0 := by rw [← hh, Bd.state]; rfl
  have N0 := Fr.nil n0
  have K0 : Keep h0 h0 [] := Keep.refl _ _
  show Gl p.tables e below (QQof s (Q_lcp_3 Z a1 mc ar kA mO y0 y1 y2 eM h0 n0) 3 8) (s₁.setTop (entryFrame m #[(.ref a1)] 2))
  refine Gl.go (fun t k => castTop (ef_lcp_3 m a1) k) ?_
  show Gl _ _ _ _ (s₁.setTop (mkF m 0 #[.val (.ref a1), .unset] []))
  refine Gl.go (fun _ k => XS.aloadN X0.here hx rfl (hb hby d18_0) rfl rfl  k) ?_
  obtain ⟨T1, X1, e1, st1⟩ := instNo X0 hx hZ hown (hw _ (List.mem_of_getElem? (i := 110) rfl)) e0 E_a1 (own_no (C := "java/util/ArrayList") (hw _ (List.mem_of_getElem? (i := 111) rfl)) (hw _ (List.mem_of_getElem? (i := 112) rfl)) (hw _ (List.mem_of_getElem? (i := 113) rfl)) (hw _ (List.mem_of_getElem? (i := 114) rfl)) (hw _ (List.mem_of_getElem? (i := 159) rfl)) (by decide) (by decide) (by decide) (by decide)) (g := (mkF m 1 #[.val (.ref a1), .unset] [(.ref a1)])) rfl rfl (hb hby d18_1)
  refine Gl.go (fun _ k => st1 _ k) ?_
  show Gl _ _ _ _ (T1.setTop (mkF m 4 #[.val (.ref a1), .unset] [(.int (0 : Int32))]))
  refine Gl.go (fun _ k => XS.ifNo X1.here hx rfl (hb hby d18_4) rfl ((if0 _ _).trans (teq rfl).2) k) ?_
  show Gl _ _ _ _ (T1.setTop (mkF m 7 #[.val (.ref a1), .unset] []))
  refine Gl.go (fun _ k => XS.aloadN X1.here hx rfl (hb hby d18_7) rfl rfl  k) ?_
  obtain ⟨T2, X2, e2, st2⟩ := instNo X1 hx hZ hown (hw _ (List.mem_of_getElem? (i := 115) rfl)) e1 E_a1 (own_no (C := "java/util/ArrayList") (hw _ (List.mem_of_getElem? (i := 111) rfl)) (hw _ (List.mem_of_getElem? (i := 112) rfl)) (hw _ (List.mem_of_getElem? (i := 113) rfl)) (hw _ (List.mem_of_getElem? (i := 114) rfl)) (hw _ (List.mem_of_getElem? (i := 263) rfl)) (by decide) (by decide) (by decide) (by decide)) (g := (mkF m 8 #[.val (.ref a1), .unset] [(.ref a1)])) rfl rfl (hb hby d18_8)
  refine Gl.go (fun _ k => st2 _ k) ?_
  show Gl _ _ _ _ (T2.setTop (mkF m 11 #[.val (.ref a1), .unset] [(.int (0 : Int32))]))
  refine Gl.go (fun _ k => XS.ifYes X2.here hx rfl (pc0 := 11) (pc' := 31) rfl (hb hby d18_11) rfl ((if0 _ _).trans (teq rfl).1) (by decide) (by decide) k) ?_
  show Gl _ _ _ _ (T2.setTop (mkF m 31 #[.val (.ref a1), .unset] []))
  refine Gl.go (fun _ k => XS.aloadN X2.here hx rfl (hb hby d18_31) rfl rfl  k) ?_
  obtain ⟨cq3, kq3, q3a, q3b, q3c⟩ := isOf hZ e2 E_a1
  obtain ⟨_, _, ⟨T3, L3, k3, n3⟩, -, X3, ⟨Lc3, hQ3, l3, y3, z3⟩, st3⟩ := X2.interfaceBack hx (xi := (⟨"java/util/Collection", "isEmpty", "()Z"⟩ : MethodName)) (y := (⟨"java/util/ArrayList", "isEmpty", "()Z"⟩ : MethodName)) hown (mvT hZ (hw _ (List.mem_of_getElem? (i := 116) rfl))) (mvT hZ (hw _ (List.mem_of_getElem? (i := 117) rfl))) (mvT hZ (hw _ (List.mem_of_getElem? (i := 118) rfl))) (mvT hZ (hw _ (List.mem_of_getElem? (i := 119) rfl))) (mvT hZ (hw _ (List.mem_of_getElem? (i := 120) rfl))) (mvT hZ (hw _ (List.mem_of_getElem? (i := 121) rfl))) (mvT hZ (hw _ (List.mem_of_getElem? (i := 122) rfl))) (mvT hZ (hw _ (List.mem_of_getElem? (i := 123) rfl))) (by decide) (backOf (W := 0) (rm_ise_3 l Z a0 hw [] a1 h0 n0 Z0 S_a1) hZ (hw _ (List.mem_of_getElem? (i := 124) rfl)) (hw _ (List.mem_of_getElem? (i := 36) rfl)) (by decide) (by decide)) q3a q3b q3c (g := (mkF m 32 #[.val (.ref a1), .unset] [(.ref a1)])) rfl (by rw [hml]; rfl) (Steps.refl _) (argsL := []) (rest := []) (lenOf pd_10 rfl) rfl (by show 2 * 0 + _ ≤ _; exact Nat.le_of_eq rfl) (hb hby d18_32) (fun _ _ => ⟨rfl, e2, (by decide : 0 + 0 ≤ _), (by decide : 0 + 0 ≤ _)⟩)
  dsimp only [Pt.U, Pt.locs, Pt.cells, Pt.slots] at X3 l3 y3 z3 st3 hQ3
  subst y3 z3
  obtain ⟨rfl, Nq3, e3⟩ := hQ3
  have N3 : Fr n0 L3 := by rw [l3]; exact Fr.app N0 Nq3
  refine Gl.go (fun _ k => st3.trans k) ?_
  show Gl _ _ _ _ (T3.setTop (mkF m 37 #[.val (.ref a1), .unset] [(.int (0 : Int32))]))
  refine Gl.go (fun _ k => XS.ifYes X3.here hx rfl (pc0 := 37) (pc' := 44) rfl (hb hby d18_37) rfl ((if0 _ _).trans (teq rfl).1) (by decide) (by decide) k) ?_
  show Gl _ _ _ _ (T3.setTop (mkF m 44 #[.val (.ref a1), .unset] []))
  refine Gl.go (fun _ k => XS.aloadN X3.here hx rfl (hb hby d18_44) rfl rfl  k) ?_
  obtain ⟨cq4, kq4, q4a, q4b, q4c⟩ := isOf hZ e3 E_a1
  obtain ⟨_, _, ⟨T4, L4, k4, n4⟩, -, X4, ⟨Lc4, hQ4, l4, y4, z4⟩, st4⟩ := X3.interfaceBack hx (xi := (⟨"java/util/Collection", "toArray", "()[Ljava/lang/Object;"⟩ : MethodName)) (y := (⟨"java/util/ArrayList", "toArray", "()[Ljava/lang/Object;"⟩ : MethodName)) hown (mvT hZ (hw _ (List.mem_of_getElem? (i := 125) rfl))) (mvT hZ (hw _ (List.mem_of_getElem? (i := 126) rfl))) (mvT hZ (hw _ (List.mem_of_getElem? (i := 127) rfl))) (mvT hZ (hw _ (List.mem_of_getElem? (i := 128) rfl))) (mvT hZ (hw _ (List.mem_of_getElem? (i := 129) rfl))) (mvT hZ (hw _ (List.mem_of_getElem? (i := 130) rfl))) (mvT hZ (hw _ (List.mem_of_getElem? (i := 131) rfl))) (mvT hZ (hw _ (List.mem_of_getElem? (i := 123) rfl))) (by decide) (backOf (W := 0) (rm_toa_3 l Z a0 hw [] a1 mc ar kA mO y0 y1 y2 h0 n0 Z0 E_a1 M_a1 D_a1 S_a1 V1 X_y0 X_y1 X_y2 E_ar MO) hZ (hw _ (List.mem_of_getElem? (i := 132) rfl)) (hw _ (List.mem_of_getElem? (i := 36) rfl)) (by decide) (by decide)) q4a q4b q4c (g := (mkF m 45 #[.val (.ref a1), .unset] [(.ref a1)])) rfl (by rw [hml]; rfl) (Steps.refl _) (argsL := []) (rest := []) (lenOf pd_3 rfl) rfl (by show 2 * 0 + _ ≤ _; exact Nat.le_of_eq rfl) (hb hby d18_45) (fun _ _ => ⟨rfl, e3, (by decide : 0 + 1 ≤ _), (by decide : 0 + 3 ≤ _)⟩)
  dsimp only [Pt.U, Pt.locs, Pt.cells, Pt.slots] at X4 l4 y4 z4 st4 hQ4
  subst y4 z4
  obtain ⟨b4, kc4, rfl, Nq4, Kc4, gz4, Vc4⟩ := hQ4
  have N4 : Fr n0 L4 := by rw [l4]; exact Fr.app N3 Nq4
  refine Gl.go (fun _ k => st4.trans k) ?_
  have Ex4 := ext_of_keep Kc4
  have E_a1_4 := E_a1.ext Ex4
  have F_a1_modCount_4 := M_a1.ext Ex4
  have F_a1_elementData_4 := D_a1.ext Ex4
  have F_a1_size_4 := S_a1.ext Ex4
  have V_ar_4 := V1.ext Ex4
  have E_ar_4 := E_ar.ext Ex4
  have E_y0_4 := X_y0.ext Ex4
  have E_y1_4 := X_y1.ext Ex4
  have E_y2_4 := X_y2.ext Ex4
  have O__4 := O0.ext Ex4
  have SZ4 : n0 ≤ T4.heap.size := Nat.le_trans Z0 Ex4.1
  have K4 : Keep h0 T4.heap [] := K0.ext Ex4
  show Gl _ _ _ _ (T4.setTop (mkF m 50 #[.val (.ref a1), .unset] [(.ref b4)]))
  have g_b4 : n0 ≤ b4 := Nat.le_trans Z0 gz4
  have sz_b4 : h0.size ≤ b4 := Nat.le_trans K0.1 gz4
  have ne_a1_b4 : a1 ≠ b4 := Nat.ne_of_lt (Nat.lt_of_lt_of_le E_a1.lt gz4)
  have ne_ar_b4 : ar ≠ b4 := Nat.ne_of_lt (Nat.lt_of_lt_of_le V1.lt gz4)
  have ne_y0_b4 : y0 ≠ b4 := Nat.ne_of_lt (Nat.lt_of_lt_of_le X_y0.lt gz4)
  have ne_y1_b4 : y1 ≠ b4 := Nat.ne_of_lt (Nat.lt_of_lt_of_le X_y1.lt gz4)
  have ne_y2_b4 : y2 ≠ b4 := Nat.ne_of_lt (Nat.lt_of_lt_of_le X_y2.lt gz4)
  obtain ⟨_, _, ⟨T5, L5, k5, n5⟩, -, X5, ⟨Lc5, hQ5, l5, y5, z5⟩, st5⟩ := Jvm.LawKit.callS X4 hx (y := (⟨"java/util/List", "of", "([Ljava/lang/Object;)Ljava/util/List;"⟩ : MethodName)) hown (mvT hZ (hw _ (List.mem_of_getElem? (i := 155) rfl))) (mvT hZ (hw _ (List.mem_of_getElem? (i := 156) rfl))) (mvT hZ (hw _ (List.mem_of_getElem? (i := 104) rfl))) (mvT hZ (hw _ (List.mem_of_getElem? (i := 157) rfl))) (by decide) (backOf (W := 0) (rm_lof_3 l Z a0 hw [] b4 eM kc4 y0 y1 y2 T4.heap n0 SZ4 Vc4 E_y0_4 E_y1_4 E_y2_4 SE O__4) hZ (hw _ (List.mem_of_getElem? (i := 157) rfl)) (hw _ (List.mem_of_getElem? (i := 104) rfl)) (by decide) (by decide)) (g := (mkF m 50 #[.val (.ref a1), .unset] [(.ref b4)])) rfl (by rw [hml]; rfl) (argsL := [(.ref b4)]) (rest := []) (lenOf pd_11 rfl) rfl (by show 2 * 0 + _ ≤ _; exact Nat.le_of_eq rfl) (hb hby d18_50) (fun _ _ => ⟨rfl, rfl, (by decide : 1 + 2 ≤ _), (by decide : 3 + 5 ≤ _)⟩)
  dsimp only [Pt.U, Pt.locs, Pt.cells, Pt.slots] at X5 l5 y5 z5 st5 hQ5
  subst y5 z5
  obtain ⟨o5, rfl, Nq5, Kc5, gz5, br5, kb5, gb5, Eo5, F05, Vo5⟩ := hQ5
  have N5 : Fr n0 L5 := by rw [l5]; exact Fr.app N4 Nq5
  refine Gl.go (fun _ k => st5 _ k) ?_
  have Ex5 := ext_of_keep Kc5
  have E_a1_5 := E_a1_4.ext Ex5
  have F_a1_modCount_5 := F_a1_modCount_4.ext Ex5
  have F_a1_elementData_5 := F_a1_elementData_4.ext Ex5
  have F_a1_size_5 := F_a1_size_4.ext Ex5
  have V_ar_5 := V_ar_4.ext Ex5
  have E_ar_5 := E_ar_4.ext Ex5
  have E_y0_5 := E_y0_4.ext Ex5
  have E_y1_5 := E_y1_4.ext Ex5
  have E_y2_5 := E_y2_4.ext Ex5
  have O__5 := O__4.ext Ex5
  have V_b4_5 := Vc4.ext Ex5
  have SZ5 : n0 ≤ T5.heap.size := Nat.le_trans SZ4 Ex5.1
  have K5 : Keep h0 T5.heap [] := K4.ext Ex5
  show Gl _ _ _ _ (T5.setTop (mkF m 53 #[.val (.ref a1), .unset] [(.ref o5)]))
  have g_o5 : n0 ≤ o5 := Nat.le_trans SZ4 gz5
  have sz_o5 : h0.size ≤ o5 := Nat.le_trans K4.1 gz5
  have ne_a1_o5 : a1 ≠ o5 := Nat.ne_of_lt (Nat.lt_of_lt_of_le E_a1_4.lt gz5)
  have ne_ar_o5 : ar ≠ o5 := Nat.ne_of_lt (Nat.lt_of_lt_of_le V_ar_4.lt gz5)
  have ne_b4_o5 : b4 ≠ o5 := Nat.ne_of_lt (Nat.lt_of_lt_of_le Vc4.lt gz5)
  have ne_y0_o5 : y0 ≠ o5 := Nat.ne_of_lt (Nat.lt_of_lt_of_le E_y0_4.lt gz5)
  have ne_y1_o5 : y1 ≠ o5 := Nat.ne_of_lt (Nat.lt_of_lt_of_le E_y1_4.lt gz5)
  have ne_y2_o5 : y2 ≠ o5 := Nat.ne_of_lt (Nat.lt_of_lt_of_le E_y2_4.lt gz5)
  have g_br5 : n0 ≤ br5 := Nat.le_trans SZ4 gb5
  have sz_br5 : h0.size ≤ br5 := Nat.le_trans K4.1 gb5
  have ne_a1_br5 : a1 ≠ br5 := Nat.ne_of_lt (Nat.lt_of_lt_of_le E_a1_4.lt gb5)
  have ne_ar_br5 : ar ≠ br5 := Nat.ne_of_lt (Nat.lt_of_lt_of_le V_ar_4.lt gb5)
  have ne_b4_br5 : b4 ≠ br5 := Nat.ne_of_lt (Nat.lt_of_lt_of_le Vc4.lt gb5)
  have ne_y0_br5 : y0 ≠ br5 := Nat.ne_of_lt (Nat.lt_of_lt_of_le E_y0_4.lt gb5)
  have ne_y1_br5 : y1 ≠ br5 := Nat.ne_of_lt (Nat.lt_of_lt_of_le E_y1_4.lt gb5)
  have ne_y2_br5 : y2 ≠ br5 := Nat.ne_of_lt (Nat.lt_of_lt_of_le E_y2_4.lt gb5)
  refine leafA X5 hx hlk Bd.returns rfl rfl (hb hby d18_53) ?_ (by decide) (by decide)
  exact ⟨o5, rfl, N5, K5, sz_o5, br5, kb5, sz_br5, Eo5, F05, Vo5⟩
def Q_lco_3 (Z : State) (a1 : Addr) (mc : Int32) (ar : Addr) (kA : ClassId) (mO : Addr) (y0 : Addr) (y1 : Addr) (y2 : Addr) (eM : Addr) (h0 : Heap) (n0 : Nat) (v : Option Value) (h : Heap) (L : List Loc) : Prop := ∃ o, v = some (.ref o) ∧ Fr n0 L ∧ Keep h0 h [] ∧ h0.size ≤ o ∧ ∃ br kB, h0.size ≤ br ∧ (Exa Z h o "java/util/ImmutableCollections$ListN") ∧ (Fld Z h o "java/util/ImmutableCollections$ListN" "elements" "[Ljava/lang/Object;" (.ref br)) ∧ (Arv Z h br kB (.object "java/lang/Object") (3 : Int32) [(.ref y0), (.ref y1), (.ref y2)] .null)
set_option maxRecDepth 65536 in
set_option maxHeartbeats 40000000 in
theorem rm_lco_3 (l : Launch) (Z : State) (a0 : Array Value) (hw : ∀ d ∈ tables_1, d.before a0 Z = true) (ws : List Jvm.Cond) (a1 : Addr) (mc : Int32) (ar : Addr) (kA : ClassId) (mO : Addr) (y0 : Addr) (y1 : Addr) (y2 : Addr) (eM : Addr) (h0 : Heap) (n0 : Nat) (Z0 : n0 ≤ h0.size) (E_a1 : (Exa Z h0 a1 "java/util/ArrayList")) (M_a1 : (Fld Z h0 a1 "java/util/AbstractList" "modCount" "I" (.int mc))) (D_a1 : (Fld Z h0 a1 "java/util/ArrayList" "elementData" "[Ljava/lang/Object;" (.ref ar))) (S_a1 : (Fld Z h0 a1 "java/util/ArrayList" "size" "I" (.int (3 : Int32)))) (V1 : (Arv Z h0 ar kA (.object "java/lang/Object") (10 : Int32) [(.ref y0), (.ref y1), (.ref y2), .null, .null, .null, .null, .null, .null, .null] .null)) (X_y0 : (Exa Z h0 y0 "java/lang/String")) (X_y1 : (Exa Z h0 y1 "java/lang/String")) (X_y2 : (Exa Z h0 y2 "java/lang/String")) (E_ar : (Exa Z h0 ar "[Ljava/lang/Object;")) (MO : Mr Z "[Ljava/lang/Object;" mO) (SE : Sta Z Z.heap "java/util/ImmutableCollections" "EMPTY" "Ljava/lang/Object;" (.ref eM)) (O0 : Old Z n0 h0) :
    MetFree l (⟨"java/util/List", "copyOf", "(Ljava/util/Collection;)Ljava/util/List;"⟩ : MethodName) (head1 (Jvm.Cond.code (⟨"java/util/List", "copyOf", "(Ljava/util/Collection;)Ljava/util/List;"⟩ : MethodName) jdk_40_method_48_code 1 (some (.object "java/util/List")) :: ws) ({ frames := 8, cells := 3, slots := 8, locals := 103 } : Room)) (fun aa U => aa = #[(.ref a1)] ∧ Z.Warmed39 U.vm ∧ U.heap = h0) (fun _ _ _ _ _ => True) (fun _ U o U' => ∃ v L, o = .returned v ∧ Q_lco_3 Z a1 mc ar kA mO y0 y1 y2 eM h0 n0 v U'.heap L ∧ FrameEnd U o U' L ({ frames := 8, cells := 3, slots := 8, locals := 103 } : Room).cells ({ frames := 8, cells := 3, slots := 8, locals := 103 } : Room).slots) := by
  refine MetFree.of_bodySF (plainFor_of_name pn_10) hisR ?_
  intro p e s m args below meth c s₁ Bd hml0 hP hK
  obtain ⟨rfl, hZ, hh⟩ := hP
  have hx := Bd.exec
  have hby := Bd.bytes
  have hml : c.maxLocals = 1 := hml0
  have hown : s.vm.findClass "java/util/List" = some m.cls := findClass_of_methodNamed Bd.named
  have hnm := (name_of_methodNamed Bd.named Bd.method).1
  have hlk : meth.locks = false := BodyLoose.notSynchronized Bd
  have X0 : Stand p l e ({ frames := 8, cells := 3, slots := 8, locals := 103 } : Room) s m #[(.ref a1)] below meth c s₁ [] 0 0 := Stand.of_body Bd
  have e0 : s₁.heap = h0 := by rw [← hh, Bd.state]; rfl
  have N0 := Fr.nil n0
  have K0 : Keep h0 h0 [] := Keep.refl _ _
  show Gl p.tables e below (QQof s (Q_lco_3 Z a1 mc ar kA mO y0 y1 y2 eM h0 n0) 3 8) (s₁.setTop (entryFrame m #[(.ref a1)] 1))
  refine Gl.go (fun t k => castTop (ef_lco_3 m a1) k) ?_
  show Gl _ _ _ _ (s₁.setTop (mkF m 0 #[.val (.ref a1)] []))
  refine Gl.go (fun _ k => XS.aloadN X0.here hx rfl (hb hby d17_0) rfl rfl  k) ?_
  obtain ⟨_, _, ⟨T1, L1, k1, n1⟩, -, X1, ⟨Lc1, hQ1, l1, y1, z1⟩, st1⟩ := Jvm.LawKit.callS X0 hx (y := (⟨"java/util/ImmutableCollections", "listCopy", "(Ljava/util/Collection;)Ljava/util/List;"⟩ : MethodName)) hown (mvT hZ (hw _ (List.mem_of_getElem? (i := 106) rfl))) (mvT hZ (hw _ (List.mem_of_getElem? (i := 107) rfl))) (mvT hZ (hw _ (List.mem_of_getElem? (i := 108) rfl))) (mvT hZ (hw _ (List.mem_of_getElem? (i := 109) rfl))) (by decide) (backOf (W := 0) (rm_lcp_3 l Z a0 hw [] a1 mc ar kA mO y0 y1 y2 eM h0 n0 Z0 E_a1 M_a1 D_a1 S_a1 V1 X_y0 X_y1 X_y2 E_ar MO SE O0) hZ (hw _ (List.mem_of_getElem? (i := 109) rfl)) (hw _ (List.mem_of_getElem? (i := 108) rfl)) (by decide) (by decide)) (g := (mkF m 1 #[.val (.ref a1)] [(.ref a1)])) rfl (by rw [hml]; rfl) (argsL := [(.ref a1)]) (rest := []) (lenOf pd_12 rfl) rfl (by show 2 * 0 + _ ≤ _; exact Nat.le_of_eq rfl) (hb hby d17_1) (fun _ _ => ⟨rfl, e0, (by decide : 0 + 3 ≤ _), (by decide : 0 + 8 ≤ _)⟩)
  dsimp only [Pt.U, Pt.locs, Pt.cells, Pt.slots] at X1 l1 y1 z1 st1 hQ1
  subst y1 z1
  obtain ⟨o1, rfl, Nq1, Kc1, gz1, br1, kb1, gb1, Eo1, F01, Vo1⟩ := hQ1
  have N1 : Fr n0 L1 := by rw [l1]; exact Fr.app N0 Nq1
  refine Gl.go (fun _ k => st1 _ k) ?_
  have Ex1 := ext_of_keep Kc1
  have E_a1_1 := E_a1.ext Ex1
  have F_a1_modCount_1 := M_a1.ext Ex1
  have F_a1_elementData_1 := D_a1.ext Ex1
  have F_a1_size_1 := S_a1.ext Ex1
  have V_ar_1 := V1.ext Ex1
  have E_ar_1 := E_ar.ext Ex1
  have E_y0_1 := X_y0.ext Ex1
  have E_y1_1 := X_y1.ext Ex1
  have E_y2_1 := X_y2.ext Ex1
  have O__1 := O0.ext Ex1
  have SZ1 : n0 ≤ T1.heap.size := Nat.le_trans Z0 Ex1.1
  have K1 : Keep h0 T1.heap [] := K0.ext Ex1
  show Gl _ _ _ _ (T1.setTop (mkF m 4 #[.val (.ref a1)] [(.ref o1)]))
  have g_o1 : n0 ≤ o1 := Nat.le_trans Z0 gz1
  have sz_o1 : h0.size ≤ o1 := Nat.le_trans K0.1 gz1
  have ne_a1_o1 : a1 ≠ o1 := Nat.ne_of_lt (Nat.lt_of_lt_of_le E_a1.lt gz1)
  have ne_ar_o1 : ar ≠ o1 := Nat.ne_of_lt (Nat.lt_of_lt_of_le V1.lt gz1)
  have ne_y0_o1 : y0 ≠ o1 := Nat.ne_of_lt (Nat.lt_of_lt_of_le X_y0.lt gz1)
  have ne_y1_o1 : y1 ≠ o1 := Nat.ne_of_lt (Nat.lt_of_lt_of_le X_y1.lt gz1)
  have ne_y2_o1 : y2 ≠ o1 := Nat.ne_of_lt (Nat.lt_of_lt_of_le X_y2.lt gz1)
  have g_br1 : n0 ≤ br1 := Nat.le_trans Z0 gb1
  have sz_br1 : h0.size ≤ br1 := Nat.le_trans K0.1 gb1
  have ne_a1_br1 : a1 ≠ br1 := Nat.ne_of_lt (Nat.lt_of_lt_of_le E_a1.lt gb1)
  have ne_ar_br1 : ar ≠ br1 := Nat.ne_of_lt (Nat.lt_of_lt_of_le V1.lt gb1)
  have ne_y0_br1 : y0 ≠ br1 := Nat.ne_of_lt (Nat.lt_of_lt_of_le X_y0.lt gb1)
  have ne_y1_br1 : y1 ≠ br1 := Nat.ne_of_lt (Nat.lt_of_lt_of_le X_y1.lt gb1)
  have ne_y2_br1 : y2 ≠ br1 := Nat.ne_of_lt (Nat.lt_of_lt_of_le X_y2.lt gb1)
  refine leafA X1 hx hlk Bd.returns rfl rfl (hb hby d17_4) ?_ (by decide) (by decide)
  exact ⟨o1, rfl, N1, K1, sz_o1, br1, kb1, sz_br1, Eo1, F01, Vo1⟩
def Q_uc (Z : State) (a1 x1 : Addr) (h0 : Heap) (n0 : Nat) (v : Option Value) (h : Heap) (L : List Loc) : Prop := v = none ∧ Fr n0 L ∧ Keep h0 h [a1] ∧ (Exa Z h a1 "java/util/Collections$UnmodifiableRandomAccessList") ∧ (Fld Z h a1 "java/util/Collections$UnmodifiableCollection" "c" "Ljava/util/Collection;" (.ref x1)) ∧ (Fld Z h a1 "java/util/Collections$UnmodifiableList" "list" "Ljava/util/List;" .null)
set_option maxRecDepth 65536 in
set_option maxHeartbeats 40000000 in
theorem rm_uc (l : Launch) (Z : State) (a0 : Array Value) (hw : ∀ d ∈ tables_1, d.before a0 Z = true) (ws : List Jvm.Cond) (a1 x1 : Addr) (h0 : Heap) (n0 : Nat) (Z0 : n0 ≤ h0.size) (E_a1 : (Exa Z h0 a1 "java/util/Collections$UnmodifiableRandomAccessList")) (F0 : (Fld Z h0 a1 "java/util/Collections$UnmodifiableCollection" "c" "Ljava/util/Collection;" .null)) (F1 : (Fld Z h0 a1 "java/util/Collections$UnmodifiableList" "list" "Ljava/util/List;" .null)) (g_a1 : n0 ≤ a1) :
    MetFree l (⟨"java/util/Collections$UnmodifiableCollection", "<init>", "(Ljava/util/Collection;)V"⟩ : MethodName) (head1 (Jvm.Cond.code (⟨"java/util/Collections$UnmodifiableCollection", "<init>", "(Ljava/util/Collection;)V"⟩ : MethodName) jdk_119_method_1_code 2 none :: ws) ({ frames := 1, cells := 0, slots := 0, locals := 12 } : Room)) (fun aa U => aa = #[(.ref a1), (.ref x1)] ∧ Z.Warmed39 U.vm ∧ U.heap = h0) (fun _ _ _ _ _ => True) (fun _ U o U' => ∃ v L, o = .returned v ∧ Q_uc Z a1 x1 h0 n0 v U'.heap L ∧ FrameEnd U o U' L ({ frames := 1, cells := 0, slots := 0, locals := 12 } : Room).cells ({ frames := 1, cells := 0, slots := 0, locals := 12 } : Room).slots) := by
  refine MetFree.of_bodySF (plainFor_of_name pn_11) hisR ?_
  intro p e s m args below meth c s₁ Bd hml0 hP hK
  obtain ⟨rfl, hZ, hh⟩ := hP
  have hx := Bd.exec
  have hby := Bd.bytes
  have hml : c.maxLocals = 2 := hml0
  have hown : s.vm.findClass "java/util/Collections$UnmodifiableCollection" = some m.cls := findClass_of_methodNamed Bd.named
  have hnm := (name_of_methodNamed Bd.named Bd.method).1
  have hlk : meth.locks = false := BodyLoose.notSynchronized Bd
  have X0 : Stand p l e ({ frames := 1, cells := 0, slots := 0, locals := 12 } : Room) s m #[(.ref a1), (.ref x1)] below meth c s₁ [] 0 0 := Stand.of_body Bd
  have e0 : s₁.heap = h0 := by rw [← hh, Bd.state]; rfl
  have N0 := Fr.nil n0
  have K0 : Keep h0 h0 [a1] := Keep.refl _ _
  show Gl p.tables e below (QQof s (Q_uc Z a1 x1 h0 n0) 0 0) (s₁.setTop (entryFrame m #[(.ref a1), (.ref x1)] 2))
  refine Gl.go (fun t k => castTop (ef_uc m a1 x1) k) ?_
  show Gl _ _ _ _ (s₁.setTop (mkF m 0 #[.val (.ref a1), .val (.ref x1)] []))
  refine Gl.go (fun _ k => XS.aloadN X0.here hx rfl (hb hby d32_0) rfl rfl  k) ?_
  obtain ⟨T1, X1, e1, st1⟩ := initO X0 hx hZ hown (hw _ (List.mem_of_getElem? (i := 226) rfl)) (hw _ (List.mem_of_getElem? (i := 16) rfl)) (hw _ (List.mem_of_getElem? (i := 17) rfl)) e0 (g := (mkF m 1 #[.val (.ref a1), .val (.ref x1)] [(.ref a1)])) rfl (by rw [hml]; rfl) rfl (hb hby d32_1) (by decide) (W := 0) (by show 2 * 0 + _ ≤ _; exact Nat.le_of_eq rfl) (by decide)
  refine Gl.go (fun _ k => st1 _ k) ?_
  show Gl _ _ _ _ (T1.setTop (mkF m 4 #[.val (.ref a1), .val (.ref x1)] []))
  refine Gl.go (fun _ k => XS.aloadN X1.here hx rfl (hb hby d32_4) rfl rfl  k) ?_
  refine Gl.go (fun _ k => XS.ifnonnullYes X1.here hx rfl (pc0 := 5) (pc' := 16) rfl (hb hby d32_5) rfl (by decide) (by decide) k) ?_
  show Gl _ _ _ _ (T1.setTop (mkF m 16 #[.val (.ref a1), .val (.ref x1)] []))
  refine Gl.go (fun _ k => XS.aloadN X1.here hx rfl (hb hby d32_16) rfl rfl  k) ?_
  refine Gl.go (fun _ k => XS.aloadN X1.here hx rfl (hb hby d32_17) rfl rfl  k) ?_
  obtain ⟨T2, h2, X2, e2, W2, st2⟩ := putF X1 hx hZ hown (host := "") (Or.inl (hw _ (List.mem_of_getElem? (i := 227) rfl))) Via.refl e1 F0 E_a1 (Or.inr ⟨(hw _ (List.mem_of_getElem? (i := 228) rfl)), rfl, hnm⟩) (hw _ (List.mem_of_getElem? (i := 209) rfl)) (ty := (.object "java/util/Collection")) (by decide) rfl rfl (g := (mkF m 18 #[.val (.ref a1), .val (.ref x1)] [(.ref x1), (.ref a1)])) rfl rfl (hb hby d32_18)
  have E_a1_2 := E_a1.wr W2
  have F_a1_c_2 := F0.same W2
  have F_a1_list_2 := F1.other W2 (Or.inr (slot_ne (t := (.object "java/util/List")) (t' := (.object "java/util/Collection")) (Or.inr (hw _ (List.mem_of_getElem? (i := 230) rfl))) (Or.inr (hw _ (List.mem_of_getElem? (i := 228) rfl))) (by decide) (by decide) (by decide)))
  have SZ2 : n0 ≤ h2.size := by rw [Wr.size W2]; exact Z0
  have K2 : Keep h0 h2 [a1] := K0.wr W2 (Or.inl (List.mem_of_getElem? (i := 0) rfl))
  have N2 := Fr.snoc X2 N0 g_a1
  refine Gl.go (fun _ k => st2 _ k) ?_
  show Gl _ _ _ _ (T2.setTop (mkF m 21 #[.val (.ref a1), .val (.ref x1)] []))
  refine leafV X2 hx hlk Bd.returns (hb hby d32_21) ?_ (by decide) (by decide)
  rw [e2]
  exact ⟨rfl, N2, K2, E_a1_2, F_a1_c_2, F_a1_list_2⟩
def Q_ul (Z : State) (a1 x1 : Addr) (h0 : Heap) (n0 : Nat) (v : Option Value) (h : Heap) (L : List Loc) : Prop := v = none ∧ Fr n0 L ∧ Keep h0 h [a1]
set_option maxRecDepth 65536 in
set_option maxHeartbeats 40000000 in
theorem rm_ul (l : Launch) (Z : State) (a0 : Array Value) (hw : ∀ d ∈ tables_1, d.before a0 Z = true) (ws : List Jvm.Cond) (a1 x1 : Addr) (h0 : Heap) (n0 : Nat) (Z0 : n0 ≤ h0.size) (E_a1 : (Exa Z h0 a1 "java/util/Collections$UnmodifiableRandomAccessList")) (F0 : (Fld Z h0 a1 "java/util/Collections$UnmodifiableCollection" "c" "Ljava/util/Collection;" .null)) (F1 : (Fld Z h0 a1 "java/util/Collections$UnmodifiableList" "list" "Ljava/util/List;" .null)) (g_a1 : n0 ≤ a1) :
    MetFree l (⟨"java/util/Collections$UnmodifiableList", "<init>", "(Ljava/util/List;)V"⟩ : MethodName) (head1 (Jvm.Cond.code (⟨"java/util/Collections$UnmodifiableList", "<init>", "(Ljava/util/List;)V"⟩ : MethodName) jdk_120_method_1_code 2 none :: ws) ({ frames := 2, cells := 0, slots := 0, locals := 25 } : Room)) (fun aa U => aa = #[(.ref a1), (.ref x1)] ∧ Z.Warmed39 U.vm ∧ U.heap = h0) (fun _ _ _ _ _ => True) (fun _ U o U' => ∃ v L, o = .returned v ∧ Q_ul Z a1 x1 h0 n0 v U'.heap L ∧ FrameEnd U o U' L ({ frames := 2, cells := 0, slots := 0, locals := 25 } : Room).cells ({ frames := 2, cells := 0, slots := 0, locals := 25 } : Room).slots) := by
  refine MetFree.of_bodySF (plainFor_of_name pn_12) hisR ?_
  intro p e s m args below meth c s₁ Bd hml0 hP hK
  obtain ⟨rfl, hZ, hh⟩ := hP
  have hx := Bd.exec
  have hby := Bd.bytes
  have hml : c.maxLocals = 2 := hml0
  have hown : s.vm.findClass "java/util/Collections$UnmodifiableList" = some m.cls := findClass_of_methodNamed Bd.named
  have hnm := (name_of_methodNamed Bd.named Bd.method).1
  have hlk : meth.locks = false := BodyLoose.notSynchronized Bd
  have X0 : Stand p l e ({ frames := 2, cells := 0, slots := 0, locals := 25 } : Room) s m #[(.ref a1), (.ref x1)] below meth c s₁ [] 0 0 := Stand.of_body Bd
  have e0 : s₁.heap = h0 := by rw [← hh, Bd.state]; rfl
  have N0 := Fr.nil n0
  have K0 : Keep h0 h0 [a1] := Keep.refl _ _
  show Gl p.tables e below (QQof s (Q_ul Z a1 x1 h0 n0) 0 0) (s₁.setTop (entryFrame m #[(.ref a1), (.ref x1)] 2))
  refine Gl.go (fun t k => castTop (ef_ul m a1 x1) k) ?_
  show Gl _ _ _ _ (s₁.setTop (mkF m 0 #[.val (.ref a1), .val (.ref x1)] []))
  refine Gl.go (fun _ k => XS.aloadN X0.here hx rfl (hb hby d31_0) rfl rfl  k) ?_
  refine Gl.go (fun _ k => XS.aloadN X0.here hx rfl (hb hby d31_1) rfl rfl  k) ?_
  obtain ⟨_, _, ⟨T1, L1, k1, n1⟩, -, X1, ⟨Lc1, hQ1, l1, y1, z1⟩, st1⟩ := X0.specialBack hx (y := (⟨"java/util/Collections$UnmodifiableCollection", "<init>", "(Ljava/util/Collection;)V"⟩ : MethodName)) rfl hown (mvT hZ (hw _ (List.mem_of_getElem? (i := 220) rfl))) (mvT hZ (hw _ (List.mem_of_getElem? (i := 221) rfl))) (mvT hZ (hw _ (List.mem_of_getElem? (i := 225) rfl))) (by decide) (backOf (W := 0) (rm_uc l Z a0 hw [] a1 x1 h0 n0 Z0 E_a1 F0 F1 g_a1) hZ (hw _ (List.mem_of_getElem? (i := 225) rfl)) (hw _ (List.mem_of_getElem? (i := 224) rfl)) (by decide) (by decide)) (g := (mkF m 2 #[.val (.ref a1), .val (.ref x1)] [(.ref x1), (.ref a1)])) rfl (by rw [hml]; rfl) (Steps.refl _) (a := a1) (argsL := [(.ref x1)]) (rest := []) (lenOf pd_14 rfl) rfl (by show 2 * 0 + _ ≤ _; exact Nat.le_of_eq rfl) (hb hby d31_2) (fun _ _ => ⟨rfl, e0, (by decide : 0 + 0 ≤ _), (by decide : 0 + 0 ≤ _)⟩)
  dsimp only [Pt.U, Pt.locs, Pt.cells, Pt.slots] at X1 l1 y1 z1 st1 hQ1
  subst y1 z1
  obtain ⟨rfl, Nq1, Kc1, Ec1, F01, F11⟩ := hQ1
  have N1 : Fr n0 L1 := by rw [l1]; exact Fr.app N0 Nq1
  refine Gl.go (fun _ k => st1.trans k) ?_
  have E_a1_1 := E_a1.keep Kc1
  have SZ1 : n0 ≤ T1.heap.size := Nat.le_trans Z0 Kc1.1
  have K1 : Keep h0 T1.heap [a1] := K0.trans Kc1 (allS (Or.inl (List.mem_of_getElem? (i := 0) rfl)) all0)
  show Gl _ _ _ _ (T1.setTop (mkF m 5 #[.val (.ref a1), .val (.ref x1)] []))
  refine Gl.go (fun _ k => XS.aloadN X1.here hx rfl (hb hby d31_5) rfl rfl  k) ?_
  refine Gl.go (fun _ k => XS.aloadN X1.here hx rfl (hb hby d31_6) rfl rfl  k) ?_
  obtain ⟨T2, h2, X2, e2, W2, st2⟩ := putF X1 hx hZ hown (host := "") (Or.inl (hw _ (List.mem_of_getElem? (i := 229) rfl))) Via.refl rfl F11 Ec1 (Or.inr ⟨(hw _ (List.mem_of_getElem? (i := 230) rfl)), rfl, hnm⟩) (hw _ (List.mem_of_getElem? (i := 209) rfl)) (ty := (.object "java/util/List")) (by decide) rfl rfl (g := (mkF m 7 #[.val (.ref a1), .val (.ref x1)] [(.ref x1), (.ref a1)])) rfl rfl (hb hby d31_7)
  have E_a1_2 := Ec1.wr W2
  have F_a1_c_2 := F01.other W2 (Or.inr (slot_ne (t := (.object "java/util/Collection")) (t' := (.object "java/util/List")) (Or.inr (hw _ (List.mem_of_getElem? (i := 228) rfl))) (Or.inr (hw _ (List.mem_of_getElem? (i := 230) rfl))) (by decide) (by decide) (by decide)))
  have F_a1_list_2 := F11.same W2
  have SZ2 : n0 ≤ h2.size := by rw [Wr.size W2]; exact SZ1
  have K2 : Keep h0 h2 [a1] := K1.wr W2 (Or.inl (List.mem_of_getElem? (i := 0) rfl))
  have N2 := Fr.snoc X2 N1 g_a1
  refine Gl.go (fun _ k => st2 _ k) ?_
  show Gl _ _ _ _ (T2.setTop (mkF m 10 #[.val (.ref a1), .val (.ref x1)] []))
  refine leafV X2 hx hlk Bd.returns (hb hby d31_10) ?_ (by decide) (by decide)
  rw [e2]
  exact ⟨rfl, N2, K2⟩
def Q_ur (Z : State) (a1 x1 : Addr) (h0 : Heap) (n0 : Nat) (v : Option Value) (h : Heap) (L : List Loc) : Prop := v = none ∧ Fr n0 L ∧ Keep h0 h [a1]
set_option maxRecDepth 65536 in
set_option maxHeartbeats 40000000 in
theorem rm_ur (l : Launch) (Z : State) (a0 : Array Value) (hw : ∀ d ∈ tables_1, d.before a0 Z = true) (ws : List Jvm.Cond) (a1 x1 : Addr) (h0 : Heap) (n0 : Nat) (Z0 : n0 ≤ h0.size) (E_a1 : (Exa Z h0 a1 "java/util/Collections$UnmodifiableRandomAccessList")) (F0 : (Fld Z h0 a1 "java/util/Collections$UnmodifiableCollection" "c" "Ljava/util/Collection;" .null)) (F1 : (Fld Z h0 a1 "java/util/Collections$UnmodifiableList" "list" "Ljava/util/List;" .null)) (g_a1 : n0 ≤ a1) :
    MetFree l (⟨"java/util/Collections$UnmodifiableRandomAccessList", "<init>", "(Ljava/util/List;)V"⟩ : MethodName) (head1 (Jvm.Cond.code (⟨"java/util/Collections$UnmodifiableRandomAccessList", "<init>", "(Ljava/util/List;)V"⟩ : MethodName) jdk_121_method_1_code 2 none :: ws) ({ frames := 3, cells := 0, slots := 0, locals := 38 } : Room)) (fun aa U => aa = #[(.ref a1), (.ref x1)] ∧ Z.Warmed39 U.vm ∧ U.heap = h0) (fun _ _ _ _ _ => True) (fun _ U o U' => ∃ v L, o = .returned v ∧ Q_ur Z a1 x1 h0 n0 v U'.heap L ∧ FrameEnd U o U' L ({ frames := 3, cells := 0, slots := 0, locals := 38 } : Room).cells ({ frames := 3, cells := 0, slots := 0, locals := 38 } : Room).slots) := by
  refine MetFree.of_bodySF (plainFor_of_name pn_13) hisR ?_
  intro p e s m args below meth c s₁ Bd hml0 hP hK
  obtain ⟨rfl, hZ, hh⟩ := hP
  have hx := Bd.exec
  have hby := Bd.bytes
  have hml : c.maxLocals = 2 := hml0
  have hown : s.vm.findClass "java/util/Collections$UnmodifiableRandomAccessList" = some m.cls := findClass_of_methodNamed Bd.named
  have hnm := (name_of_methodNamed Bd.named Bd.method).1
  have hlk : meth.locks = false := BodyLoose.notSynchronized Bd
  have X0 : Stand p l e ({ frames := 3, cells := 0, slots := 0, locals := 38 } : Room) s m #[(.ref a1), (.ref x1)] below meth c s₁ [] 0 0 := Stand.of_body Bd
  have e0 : s₁.heap = h0 := by rw [← hh, Bd.state]; rfl
  have N0 := Fr.nil n0
  have K0 : Keep h0 h0 [a1] := Keep.refl _ _
  show Gl p.tables e below (QQof s (Q_ur Z a1 x1 h0 n0) 0 0) (s₁.setTop (entryFrame m #[(.ref a1), (.ref x1)] 2))
  refine Gl.go (fun t k => castTop (ef_ur m a1 x1) k) ?_
  show Gl _ _ _ _ (s₁.setTop (mkF m 0 #[.val (.ref a1), .val (.ref x1)] []))
  refine Gl.go (fun _ k => XS.aloadN X0.here hx rfl (hb hby d30_0) rfl rfl  k) ?_
  refine Gl.go (fun _ k => XS.aloadN X0.here hx rfl (hb hby d30_1) rfl rfl  k) ?_
  obtain ⟨_, _, ⟨T1, L1, k1, n1⟩, -, X1, ⟨Lc1, hQ1, l1, y1, z1⟩, st1⟩ := X0.specialBack hx (y := (⟨"java/util/Collections$UnmodifiableList", "<init>", "(Ljava/util/List;)V"⟩ : MethodName)) rfl hown (mvT hZ (hw _ (List.mem_of_getElem? (i := 214) rfl))) (mvT hZ (hw _ (List.mem_of_getElem? (i := 215) rfl))) (mvT hZ (hw _ (List.mem_of_getElem? (i := 219) rfl))) (by decide) (backOf (W := 0) (rm_ul l Z a0 hw [] a1 x1 h0 n0 Z0 E_a1 F0 F1 g_a1) hZ (hw _ (List.mem_of_getElem? (i := 219) rfl)) (hw _ (List.mem_of_getElem? (i := 218) rfl)) (by decide) (by decide)) (g := (mkF m 2 #[.val (.ref a1), .val (.ref x1)] [(.ref x1), (.ref a1)])) rfl (by rw [hml]; rfl) (Steps.refl _) (a := a1) (argsL := [(.ref x1)]) (rest := []) (lenOf pd_15 rfl) rfl (by show 2 * 0 + _ ≤ _; exact Nat.le_of_eq rfl) (hb hby d30_2) (fun _ _ => ⟨rfl, e0, (by decide : 0 + 0 ≤ _), (by decide : 0 + 0 ≤ _)⟩)
  dsimp only [Pt.U, Pt.locs, Pt.cells, Pt.slots] at X1 l1 y1 z1 st1 hQ1
  subst y1 z1
  obtain ⟨rfl, Nq1, Kc1⟩ := hQ1
  have N1 : Fr n0 L1 := by rw [l1]; exact Fr.app N0 Nq1
  refine Gl.go (fun _ k => st1.trans k) ?_
  have E_a1_1 := E_a1.keep Kc1
  have SZ1 : n0 ≤ T1.heap.size := Nat.le_trans Z0 Kc1.1
  have K1 : Keep h0 T1.heap [a1] := K0.trans Kc1 (allS (Or.inl (List.mem_of_getElem? (i := 0) rfl)) all0)
  show Gl _ _ _ _ (T1.setTop (mkF m 5 #[.val (.ref a1), .val (.ref x1)] []))
  refine leafV X1 hx hlk Bd.returns (hb hby d30_5) ?_ (by decide) (by decide)
  exact ⟨rfl, N1, K1⟩
def Q_unm (Z : State) (x1 mA mL mR : Addr) (h0 : Heap) (n0 : Nat) (v : Option Value) (h : Heap) (L : List Loc) : Prop := ∃ o, v = some (.ref o) ∧ Fr n0 L ∧ Keep h0 h []
set_option maxRecDepth 65536 in
set_option maxHeartbeats 40000000 in
theorem rm_unm (l : Launch) (Z : State) (a0 : Array Value) (hw : ∀ d ∈ tables_1, d.before a0 Z = true) (ws : List Jvm.Cond) (x1 mA mL mR : Addr) (h0 : Heap) (n0 : Nat) (Z0 : n0 ≤ h0.size) (E_x1 : (Exa Z h0 x1 "java/util/ArrayList")) (MA : Mr Z "java/util/ArrayList" mA) (ML : Mr Z "java/util/Collections$UnmodifiableList" mL) (MR : Mr Z "java/util/Collections$UnmodifiableRandomAccessList" mR) :
    MetFree l (⟨"java/util/Collections", "unmodifiableList", "(Ljava/util/List;)Ljava/util/List;"⟩ : MethodName) (head1 (Jvm.Cond.code (⟨"java/util/Collections", "unmodifiableList", "(Ljava/util/List;)Ljava/util/List;"⟩ : MethodName) jdk_79_method_35_code 1 (some (.object "java/util/List")) :: ws) ({ frames := 4, cells := 1, slots := 2, locals := 52 } : Room)) (fun aa U => aa = #[(.ref x1)] ∧ Z.Warmed39 U.vm ∧ U.heap = h0) (fun _ _ _ _ _ => True) (fun _ U o U' => ∃ v L, o = .returned v ∧ Q_unm Z x1 mA mL mR h0 n0 v U'.heap L ∧ FrameEnd U o U' L ({ frames := 4, cells := 1, slots := 2, locals := 52 } : Room).cells ({ frames := 4, cells := 1, slots := 2, locals := 52 } : Room).slots) := by
  refine MetFree.of_bodySF (plainFor_of_name pn_14) hisR ?_
  intro p e s m args below meth c s₁ Bd hml0 hP hK
  obtain ⟨rfl, hZ, hh⟩ := hP
  have hx := Bd.exec
  have hby := Bd.bytes
  have hml : c.maxLocals = 1 := hml0
  have hown : s.vm.findClass "java/util/Collections" = some m.cls := findClass_of_methodNamed Bd.named
  have hnm := (name_of_methodNamed Bd.named Bd.method).1
  have hlk : meth.locks = false := BodyLoose.notSynchronized Bd
  have X0 : Stand p l e ({ frames := 4, cells := 1, slots := 2, locals := 52 } : Room) s m #[(.ref x1)] below meth c s₁ [] 0 0 := Stand.of_body Bd
  have e0 : s₁.heap = h0 := by rw [← hh, Bd.state]; rfl
  have N0 := Fr.nil n0
  have K0 : Keep h0 h0 [] := Keep.refl _ _
  show Gl p.tables e below (QQof s (Q_unm Z x1 mA mL mR h0 n0) 1 2) (s₁.setTop (entryFrame m #[(.ref x1)] 1))
  refine Gl.go (fun t k => castTop (ef_unm m x1) k) ?_
  show Gl _ _ _ _ (s₁.setTop (mkF m 0 #[.val (.ref x1)] []))
  refine Gl.go (fun _ k => XS.aloadN X0.here hx rfl (hb hby d29_0) rfl rfl  k) ?_
  obtain ⟨T1, X1, e1, st1⟩ := gclsF X0 hx hZ (J := "java/util/List") hown (mvT hZ (hw _ (List.mem_of_getElem? (i := 195) rfl))) (mvT hZ (hw _ (List.mem_of_getElem? (i := 138) rfl))) (Jvm.Free.ULB.iface_rides hZ.alike (hw _ (List.mem_of_getElem? (i := 196) rfl))) (mvT hZ (hw _ (List.mem_of_getElem? (i := 197) rfl))) (mvT hZ (hw _ (List.mem_of_getElem? (i := 139) rfl))) (mvT hZ (hw _ (List.mem_of_getElem? (i := 198) rfl))) (mvT hZ (hw _ (List.mem_of_getElem? (i := 199) rfl))) (mvT hZ (hw _ (List.mem_of_getElem? (i := 200) rfl))) (mvT hZ (hw _ (List.mem_of_getElem? (i := 141) rfl))) (by decide) (by decide) e0 E_x1 MA (g := (mkF m 1 #[.val (.ref x1)] [(.ref x1)])) rfl (by rw [hml]; rfl) rfl (hb hby d29_1) (by decide) (W := 0) (by show 2 * 0 + _ ≤ _; exact Nat.le_of_eq rfl) (by decide)
  refine Gl.go (fun _ k => st1 _ k) ?_
  show Gl _ _ _ _ (T1.setTop (mkF m 6 #[.val (.ref x1)] [(.ref mA)]))
  obtain ⟨T2, X2, e2, st2⟩ := ldcM X1 hx hZ hown (hw _ (List.mem_of_getElem? (i := 202) rfl)) e1 ML (g := (mkF m 6 #[.val (.ref x1)] [(.ref mA)])) rfl (hb hby d29_6)
  refine Gl.go (fun _ k => st2 _ k) ?_
  show Gl _ _ _ _ (T2.setTop (mkF m 8 #[.val (.ref x1)] [(.ref mL), (.ref mA)]))
  by_cases hA : mA = mL
  · skip
    refine Gl.go (fun _ k => Jvm.RoadKit.acmp (g := (mkF m 8 #[.val (.ref x1)] [(.ref mL), (.ref mA)])) X2 hx rfl rfl rfl (pc0 := 8) (pc' := 22) (same := true) rfl (hb hby d29_8) rfl (decide_eq_true (congrArg Value.ref hA)) (by decide) (by decide) k) ?_
    show Gl _ _ _ _ (T2.setTop (mkF m 22 #[.val (.ref x1)] []))
    refine Gl.go (fun _ k => XS.aloadN X2.here hx rfl (hb hby d29_22) rfl rfl  k) ?_
    refine leafA X2 hx hlk Bd.returns rfl rfl (hb hby d29_23) ?_ (by decide) (by decide)
    rw [e2]
    exact ⟨x1, rfl, N0, K0⟩
  · skip
    refine Gl.go (fun _ k => Jvm.RoadKit.acmp (g := (mkF m 8 #[.val (.ref x1)] [(.ref mL), (.ref mA)])) X2 hx rfl rfl rfl (pc0 := 8) (pc' := 11) (same := false) rfl (hb hby d29_8) rfl (decide_eq_false fun q => hA (Value.ref.inj q)) (by decide) (by decide) k) ?_
    show Gl _ _ _ _ (T2.setTop (mkF m 11 #[.val (.ref x1)] []))
    refine Gl.go (fun _ k => XS.aloadN X2.here hx rfl (hb hby d29_11) rfl rfl  k) ?_
    obtain ⟨T3, X3, e3, st3⟩ := gclsF X2 hx hZ (J := "java/util/List") hown (mvT hZ (hw _ (List.mem_of_getElem? (i := 204) rfl))) (mvT hZ (hw _ (List.mem_of_getElem? (i := 138) rfl))) (Jvm.Free.ULB.iface_rides hZ.alike (hw _ (List.mem_of_getElem? (i := 196) rfl))) (mvT hZ (hw _ (List.mem_of_getElem? (i := 197) rfl))) (mvT hZ (hw _ (List.mem_of_getElem? (i := 139) rfl))) (mvT hZ (hw _ (List.mem_of_getElem? (i := 198) rfl))) (mvT hZ (hw _ (List.mem_of_getElem? (i := 199) rfl))) (mvT hZ (hw _ (List.mem_of_getElem? (i := 200) rfl))) (mvT hZ (hw _ (List.mem_of_getElem? (i := 141) rfl))) (by decide) (by decide) e2 E_x1 MA (g := (mkF m 12 #[.val (.ref x1)] [(.ref x1)])) rfl (by rw [hml]; rfl) rfl (hb hby d29_12) (by decide) (W := 0) (by show 2 * 0 + _ ≤ _; exact Nat.le_of_eq rfl) (by decide)
    refine Gl.go (fun _ k => st3 _ k) ?_
    show Gl _ _ _ _ (T3.setTop (mkF m 17 #[.val (.ref x1)] [(.ref mA)]))
    obtain ⟨T4, X4, e4, st4⟩ := ldcM X3 hx hZ hown (hw _ (List.mem_of_getElem? (i := 205) rfl)) e3 MR (g := (mkF m 17 #[.val (.ref x1)] [(.ref mA)])) rfl (hb hby d29_17)
    refine Gl.go (fun _ k => st4 _ k) ?_
    show Gl _ _ _ _ (T4.setTop (mkF m 19 #[.val (.ref x1)] [(.ref mR), (.ref mA)]))
    by_cases hB : mA = mR
    · skip
      refine Gl.go (fun _ k => Jvm.RoadKit.acmp (g := (mkF m 19 #[.val (.ref x1)] [(.ref mR), (.ref mA)])) X4 hx rfl rfl rfl (pc0 := 19) (pc' := 22) (same := true) rfl (hb hby d29_19) rfl (decide_eq_true (congrArg Value.ref hB)) (by decide) (by decide) k) ?_
      show Gl _ _ _ _ (T4.setTop (mkF m 22 #[.val (.ref x1)] []))
      refine Gl.go (fun _ k => XS.aloadN X4.here hx rfl (hb hby d29_22) rfl rfl  k) ?_
      refine leafA X4 hx hlk Bd.returns rfl rfl (hb hby d29_23) ?_ (by decide) (by decide)
      rw [e4]
      exact ⟨x1, rfl, N0, K0⟩
    · skip
      refine Gl.go (fun _ k => Jvm.RoadKit.acmp (g := (mkF m 19 #[.val (.ref x1)] [(.ref mR), (.ref mA)])) X4 hx rfl rfl rfl (pc0 := 19) (pc' := 24) (same := false) rfl (hb hby d29_19) rfl (decide_eq_false fun q => hB (Value.ref.inj q)) (by decide) (by decide) k) ?_
      show Gl _ _ _ _ (T4.setTop (mkF m 24 #[.val (.ref x1)] []))
      refine Gl.go (fun _ k => XS.aloadN X4.here hx rfl (hb hby d29_24) rfl rfl  k) ?_
      obtain ⟨T5, X5, e5, st5⟩ := instY X4 hx hZ hown (hw _ (List.mem_of_getElem? (i := 207) rfl)) e4 (Ins.of_exa E_x1 (hw _ (List.mem_of_getElem? (i := 208) rfl))) (g := (mkF m 25 #[.val (.ref x1)] [(.ref x1)])) rfl rfl (hb hby d29_25)
      refine Gl.go (fun _ k => st5 _ k) ?_
      show Gl _ _ _ _ (T5.setTop (mkF m 28 #[.val (.ref x1)] [(.int (1 : Int32))]))
      refine Gl.go (fun _ k => XS.ifNo X5.here hx rfl (hb hby d29_28) rfl ((if0 _ _).trans (feq (by decide)).1) k) ?_
      show Gl _ _ _ _ (T5.setTop (mkF m 31 #[.val (.ref x1)] []))
      obtain ⟨T6, h6, X6, e6, E6, A6, D6, -, st6⟩ := newO X5 hx hZ hown (hw _ (List.mem_of_getElem? (i := 205) rfl)) (hw _ (List.mem_of_getElem? (i := 209) rfl)) (hw _ (List.mem_of_getElem? (i := 210) rfl)) e5 (g := (mkF m 31 #[.val (.ref x1)] [])) rfl (hb hby d29_31) (by decide) (by decide)
      obtain ⟨b6, g6⟩ : ∃ z, z = h0.size := ⟨_, rfl⟩
      rw [← g6] at A6 D6 st6
      have g_b6 : n0 ≤ b6 := Nat.le_trans Z0 (Nat.le_of_eq g6.symm)
      have sz_b6 : h0.size ≤ b6 := Nat.le_trans K0.1 (Nat.le_of_eq g6.symm)
      have ne_x1_b6 : x1 ≠ b6 := Nat.ne_of_lt (Nat.lt_of_lt_of_le E_x1.lt (Nat.le_of_eq g6.symm))
      have E_x1_6 := E_x1.ext E6
      have SZ6 : n0 ≤ h6.size := Nat.le_trans Z0 E6.1
      have K6 : Keep h0 h6 [] := K0.ext E6
      have F_b6_c_6 : Fld Z h6 b6 "java/util/Collections$UnmodifiableCollection" "c" "Ljava/util/Collection;" .null := D6 (Or.inr (hw _ (List.mem_of_getElem? (i := 228) rfl))) (ty := (.object "java/util/Collection")) (by decide)
      have F_b6_list_6 : Fld Z h6 b6 "java/util/Collections$UnmodifiableList" "list" "Ljava/util/List;" .null := D6 (Or.inr (hw _ (List.mem_of_getElem? (i := 230) rfl))) (ty := (.object "java/util/List")) (by decide)
      refine Gl.go (fun _ k => st6 _ k) ?_
      show Gl _ _ _ _ (T6.setTop (mkF m 34 #[.val (.ref x1)] [(.ref b6)]))
      refine Gl.go (fun _ k => XS.dup X6.here hx rfl (hb hby d29_34) rfl rfl k) ?_
      refine Gl.go (fun _ k => XS.aloadN X6.here hx rfl (hb hby d29_35) rfl rfl  k) ?_
      obtain ⟨_, _, ⟨T7, L7, k7, n7⟩, -, X7, ⟨Lc7, hQ7, l7, y7, z7⟩, st7⟩ := X6.specialBack hx (y := (⟨"java/util/Collections$UnmodifiableRandomAccessList", "<init>", "(Ljava/util/List;)V"⟩ : MethodName)) rfl hown (mvT hZ (hw _ (List.mem_of_getElem? (i := 211) rfl))) (mvT hZ (hw _ (List.mem_of_getElem? (i := 212) rfl))) (mvT hZ (hw _ (List.mem_of_getElem? (i := 213) rfl))) (by decide) (backOf (W := 1) (rm_ur l Z a0 hw [] b6 x1 h6 n0 SZ6 A6 F_b6_c_6 F_b6_list_6 g_b6) hZ (hw _ (List.mem_of_getElem? (i := 213) rfl)) (hw _ (List.mem_of_getElem? (i := 210) rfl)) (by decide) (by decide)) (g := (mkF m 36 #[.val (.ref x1)] [(.ref x1), (.ref b6), (.ref b6)])) rfl (by rw [hml]; rfl) (Steps.refl _) (a := b6) (argsL := [(.ref x1)]) (rest := [(.ref b6)]) (lenOf pd_15 rfl) rfl (by show 2 * 0 + _ ≤ _; exact Nat.le_of_eq rfl) (hb hby d29_36) (fun _ _ => ⟨rfl, e6, (by decide : 1 + 0 ≤ _), (by decide : 2 + 0 ≤ _)⟩)
      dsimp only [Pt.U, Pt.locs, Pt.cells, Pt.slots] at X7 l7 y7 z7 st7 hQ7
      subst y7 z7
      obtain ⟨rfl, Nq7, Kc7⟩ := hQ7
      have N7 : Fr n0 L7 := by rw [l7]; exact Fr.app N0 Nq7
      refine Gl.go (fun _ k => st7.trans k) ?_
      have E_x1_7 := E_x1_6.keep Kc7
      have E_b6_7 := A6.keep Kc7
      have SZ7 : n0 ≤ T7.heap.size := Nat.le_trans SZ6 Kc7.1
      have K7 : Keep h0 T7.heap [] := K6.trans Kc7 (allS (Or.inr sz_b6) all0)
      show Gl _ _ _ _ (T7.setTop (mkF m 39 #[.val (.ref x1)] [(.ref b6)]))
      refine Gl.go (fun _ k => XS.goto X7.here hx rfl (pc0 := 39) (pc' := 50) rfl (hb hby d29_39) (by decide) (by decide) k) ?_
      refine leafA X7 hx hlk Bd.returns rfl rfl (hb hby d29_50) ?_ (by decide) (by decide)
      exact ⟨b6, rfl, N7, K7⟩
def Q_pgi_1 (Z : State) (gg nm cv sn mA mL mR : Addr) (a1 : Addr) (mc : Int32) (ar : Addr) (kA : ClassId) (mO : Addr) (y0 : Addr) (eM : Addr) (h0 : Heap) (n0 : Nat) (v : Option Value) (h : Heap) (L : List Loc) : Prop := v = none ∧ Fr n0 L ∧ Keep h0 h [gg] ∧ (Exa Z h gg "com/example/frosted_rows/frostedrows/release/PublishedGroup") ∧ ∃ o, (Fld Z h gg "com/example/frosted_rows/frostedrows/release/PublishedGroup" "cells" "Ljava/util/List;" (.ref o)) ∧ (Exa Z h o "java/util/ImmutableCollections$List12") ∧ (Fld Z h o "java/util/ImmutableCollections$List12" "e0" "Ljava/lang/Object;" (.ref y0)) ∧ (Fld Z h o "java/util/ImmutableCollections$List12" "e1" "Ljava/lang/Object;" (.ref eM))
set_option maxRecDepth 65536 in
set_option maxHeartbeats 40000000 in
theorem rm_pgi_1 (l : Launch) (Z : State) (a0 : Array Value) (hw : ∀ d ∈ tables_1, d.before a0 Z = true) (ws : List Jvm.Cond) (gg nm cv sn mA mL mR : Addr) (a1 : Addr) (mc : Int32) (ar : Addr) (kA : ClassId) (mO : Addr) (y0 : Addr) (eM : Addr) (h0 : Heap) (n0 : Nat) (Z0 : n0 ≤ h0.size) (E_gg : (Exa Z h0 gg "com/example/frosted_rows/frostedrows/release/PublishedGroup")) (P0 : (Fld Z h0 gg "com/example/frosted_rows/frostedrows/release/PublishedGroup" "number" "Ljava/lang/String;" .null)) (P1 : (Fld Z h0 gg "com/example/frosted_rows/frostedrows/release/PublishedGroup" "cells" "Ljava/util/List;" .null)) (P2 : (Fld Z h0 gg "com/example/frosted_rows/frostedrows/release/PublishedGroup" "covered" "[I" .null)) (P3 : (Fld Z h0 gg "com/example/frosted_rows/frostedrows/release/PublishedGroup" "sensitive" "Ljava/util/List;" .null)) (E_a1 : (Exa Z h0 a1 "java/util/ArrayList")) (M_a1 : (Fld Z h0 a1 "java/util/AbstractList" "modCount" "I" (.int mc))) (D_a1 : (Fld Z h0 a1 "java/util/ArrayList" "elementData" "[Ljava/lang/Object;" (.ref ar))) (S_a1 : (Fld Z h0 a1 "java/util/ArrayList" "size" "I" (.int (1 : Int32)))) (V1 : (Arv Z h0 ar kA (.object "java/lang/Object") (10 : Int32) [(.ref y0), .null, .null, .null, .null, .null, .null, .null, .null, .null] .null)) (X_y0 : (Exa Z h0 y0 "java/lang/String")) (E_ar : (Exa Z h0 ar "[Ljava/lang/Object;")) (MO : Mr Z "[Ljava/lang/Object;" mO) (SE : Sta Z Z.heap "java/util/ImmutableCollections" "EMPTY" "Ljava/lang/Object;" (.ref eM)) (O0 : Old Z n0 h0) (E_sn : (Exa Z h0 sn "java/util/ArrayList")) (MA : Mr Z "java/util/ArrayList" mA) (ML : Mr Z "java/util/Collections$UnmodifiableList" mL) (MR : Mr Z "java/util/Collections$UnmodifiableRandomAccessList" mR) (g_gg : n0 ≤ gg) (n_a1 : gg ≠ a1) (n_ar : gg ≠ ar) :
    MetFree l (⟨"com/example/frosted_rows/frostedrows/release/PublishedGroup", "<init>", "(Ljava/lang/String;Ljava/util/List;[ILjava/util/List;)V"⟩ : MethodName) (head1 (Jvm.Cond.code (⟨"com/example/frosted_rows/frostedrows/release/PublishedGroup", "<init>", "(Ljava/lang/String;Ljava/util/List;[ILjava/util/List;)V"⟩ : MethodName) prog_13_method_1_code 5 none :: ws) ({ frames := 8, cells := 3, slots := 5, locals := 101 } : Room)) (fun aa U => aa = #[(.ref gg), (.ref nm), (.ref a1), (.ref cv), (.ref sn)] ∧ Z.Warmed39 U.vm ∧ U.heap = h0) (fun _ _ _ _ _ => True) (fun _ U o U' => ∃ v L, o = .returned v ∧ Q_pgi_1 Z gg nm cv sn mA mL mR a1 mc ar kA mO y0 eM h0 n0 v U'.heap L ∧ FrameEnd U o U' L ({ frames := 8, cells := 3, slots := 5, locals := 101 } : Room).cells ({ frames := 8, cells := 3, slots := 5, locals := 101 } : Room).slots) := by
  refine MetFree.of_bodySF (plainFor_of_name pn_15) hisR ?_
  intro p e s m args below meth c s₁ Bd hml0 hP hK
  obtain ⟨rfl, hZ, hh⟩ := hP
  have hx := Bd.exec
  have hby := Bd.bytes
  have hml : c.maxLocals = 5 := hml0
  have hown : s.vm.findClass "com/example/frosted_rows/frostedrows/release/PublishedGroup" = some m.cls := findClass_of_methodNamed Bd.named
  have hnm := (name_of_methodNamed Bd.named Bd.method).1
  have hlk : meth.locks = false := BodyLoose.notSynchronized Bd
  have X0 : Stand p l e ({ frames := 8, cells := 3, slots := 5, locals := 101 } : Room) s m #[(.ref gg), (.ref nm), (.ref a1), (.ref cv), (.ref sn)] below meth c s₁ [] 0 0 := Stand.of_body Bd
  have e0 : s₁.heap = h0 := by rw [← hh, Bd.state]; rfl
  have N0 := Fr.nil n0
  have K0 : Keep h0 h0 [gg] := Keep.refl _ _
  show Gl p.tables e below (QQof s (Q_pgi_1 Z gg nm cv sn mA mL mR a1 mc ar kA mO y0 eM h0 n0) 3 5) (s₁.setTop (entryFrame m #[(.ref gg), (.ref nm), (.ref a1), (.ref cv), (.ref sn)] 5))
  refine Gl.go (fun t k => castTop (ef_pgi_1 m gg nm a1 cv sn) k) ?_
  show Gl _ _ _ _ (s₁.setTop (mkF m 0 #[.val (.ref gg), .val (.ref nm), .val (.ref a1), .val (.ref cv), .val (.ref sn)] []))
  refine Gl.go (fun _ k => XS.aloadN X0.here hx rfl (hb hby d16_0) rfl rfl  k) ?_
  obtain ⟨T1, X1, e1, st1⟩ := initO X0 hx hZ hown (hw _ (List.mem_of_getElem? (i := 99) rfl)) (hw _ (List.mem_of_getElem? (i := 16) rfl)) (hw _ (List.mem_of_getElem? (i := 17) rfl)) e0 (g := (mkF m 1 #[.val (.ref gg), .val (.ref nm), .val (.ref a1), .val (.ref cv), .val (.ref sn)] [(.ref gg)])) rfl (by rw [hml]; rfl) rfl (hb hby d16_1) (by decide) (W := 0) (by show 2 * 0 + _ ≤ _; exact Nat.le_of_eq rfl) (by decide)
  refine Gl.go (fun _ k => st1 _ k) ?_
  show Gl _ _ _ _ (T1.setTop (mkF m 4 #[.val (.ref gg), .val (.ref nm), .val (.ref a1), .val (.ref cv), .val (.ref sn)] []))
  refine Gl.go (fun _ k => XS.aloadN X1.here hx rfl (hb hby d16_4) rfl rfl  k) ?_
  refine Gl.go (fun _ k => XS.aloadN X1.here hx rfl (hb hby d16_5) rfl rfl  k) ?_
  obtain ⟨T2, h2, X2, e2, W2, st2⟩ := putF X1 hx hZ hown (host := "") (Or.inl (hw _ (List.mem_of_getElem? (i := 100) rfl))) Via.refl e1 P0 E_gg (Or.inr ⟨(hw _ (List.mem_of_getElem? (i := 101) rfl)), rfl, hnm⟩) (hw _ (List.mem_of_getElem? (i := 91) rfl)) (ty := (.object "java/lang/String")) (by decide) rfl rfl (g := (mkF m 6 #[.val (.ref gg), .val (.ref nm), .val (.ref a1), .val (.ref cv), .val (.ref sn)] [(.ref nm), (.ref gg)])) rfl rfl (hb hby d16_6)
  have E_gg_2 := E_gg.wr W2
  have F_gg_number_2 := P0.same W2
  have F_gg_cells_2 := P1.other W2 (Or.inr (slot_ne (t := (.object "java/util/List")) (t' := (.object "java/lang/String")) (Or.inr (hw _ (List.mem_of_getElem? (i := 188) rfl))) (Or.inr (hw _ (List.mem_of_getElem? (i := 101) rfl))) (by decide) (by decide) (by decide)))
  have F_gg_covered_2 := P2.other W2 (Or.inr (slot_ne (t := (.array .int)) (t' := (.object "java/lang/String")) (Or.inr (hw _ (List.mem_of_getElem? (i := 190) rfl))) (Or.inr (hw _ (List.mem_of_getElem? (i := 101) rfl))) (by decide) (by decide) (by decide)))
  have F_gg_sensitive_2 := P3.other W2 (Or.inr (slot_ne (t := (.object "java/util/List")) (t' := (.object "java/lang/String")) (Or.inr (hw _ (List.mem_of_getElem? (i := 232) rfl))) (Or.inr (hw _ (List.mem_of_getElem? (i := 101) rfl))) (by decide) (by decide) (by decide)))
  have E_a1_2 := E_a1.wr W2
  have F_a1_modCount_2 := M_a1.other W2 (Or.inl (Ne.symm n_a1))
  have F_a1_elementData_2 := D_a1.other W2 (Or.inl (Ne.symm n_a1))
  have F_a1_size_2 := S_a1.other W2 (Or.inl (Ne.symm n_a1))
  have V_ar_2 := V1.other W2 (Ne.symm n_ar)
  have E_ar_2 := E_ar.wr W2
  have E_y0_2 := X_y0.wr W2
  have E_sn_2 := E_sn.wr W2
  have O__2 := O0.wr W2 g_gg
  have SZ2 : n0 ≤ h2.size := by rw [Wr.size W2]; exact Z0
  have K2 : Keep h0 h2 [gg] := K0.wr W2 (Or.inl (List.mem_of_getElem? (i := 0) rfl))
  have N2 := Fr.snoc X2 N0 g_gg
  refine Gl.go (fun _ k => st2 _ k) ?_
  show Gl _ _ _ _ (T2.setTop (mkF m 9 #[.val (.ref gg), .val (.ref nm), .val (.ref a1), .val (.ref cv), .val (.ref sn)] []))
  refine Gl.go (fun _ k => XS.aloadN X2.here hx rfl (hb hby d16_9) rfl rfl  k) ?_
  refine Gl.go (fun _ k => XS.aloadN X2.here hx rfl (hb hby d16_10) rfl rfl  k) ?_
  obtain ⟨_, _, ⟨T3, L3, k3, n3⟩, -, X3, ⟨Lc3, hQ3, l3, y3, z3⟩, st3⟩ := Jvm.LawKit.callS X2 hx (y := (⟨"java/util/List", "copyOf", "(Ljava/util/Collection;)Ljava/util/List;"⟩ : MethodName)) hown (mvT hZ (hw _ (List.mem_of_getElem? (i := 102) rfl))) (mvT hZ (hw _ (List.mem_of_getElem? (i := 103) rfl))) (mvT hZ (hw _ (List.mem_of_getElem? (i := 104) rfl))) (mvT hZ (hw _ (List.mem_of_getElem? (i := 105) rfl))) (by decide) (backOf (W := 1) (rm_lco_1 l Z a0 hw [] a1 mc ar kA mO y0 eM h2 n0 SZ2 E_a1_2 F_a1_modCount_2 F_a1_elementData_2 F_a1_size_2 V_ar_2 E_y0_2 E_ar_2 MO SE O__2) hZ (hw _ (List.mem_of_getElem? (i := 105) rfl)) (hw _ (List.mem_of_getElem? (i := 104) rfl)) (by decide) (by decide)) (g := (mkF m 11 #[.val (.ref gg), .val (.ref nm), .val (.ref a1), .val (.ref cv), .val (.ref sn)] [(.ref a1), (.ref gg)])) rfl (by rw [hml]; rfl) (argsL := [(.ref a1)]) (rest := [(.ref gg)]) (lenOf pd_12 rfl) rfl (by show 2 * 0 + _ ≤ _; exact Nat.le_of_eq rfl) (hb hby d16_11) (fun _ _ => ⟨rfl, e2, (by decide : 0 + 2 ≤ _), (by decide : 0 + 3 ≤ _)⟩)
  dsimp only [Pt.U, Pt.locs, Pt.cells, Pt.slots] at X3 l3 y3 z3 st3 hQ3
  subst y3 z3
  obtain ⟨o3, rfl, Nq3, Kc3, gz3, Eo3, F03, F13⟩ := hQ3
  have N3 : Fr n0 L3 := by rw [l3]; exact Fr.app N2 Nq3
  refine Gl.go (fun _ k => st3 _ k) ?_
  have Ex3 := ext_of_keep Kc3
  have E_gg_3 := E_gg_2.ext Ex3
  have F_gg_number_3 := F_gg_number_2.ext Ex3
  have F_gg_cells_3 := F_gg_cells_2.ext Ex3
  have F_gg_covered_3 := F_gg_covered_2.ext Ex3
  have F_gg_sensitive_3 := F_gg_sensitive_2.ext Ex3
  have E_a1_3 := E_a1_2.ext Ex3
  have F_a1_modCount_3 := F_a1_modCount_2.ext Ex3
  have F_a1_elementData_3 := F_a1_elementData_2.ext Ex3
  have F_a1_size_3 := F_a1_size_2.ext Ex3
  have V_ar_3 := V_ar_2.ext Ex3
  have E_ar_3 := E_ar_2.ext Ex3
  have E_y0_3 := E_y0_2.ext Ex3
  have E_sn_3 := E_sn_2.ext Ex3
  have O__3 := O__2.ext Ex3
  have SZ3 : n0 ≤ T3.heap.size := Nat.le_trans SZ2 Ex3.1
  have K3 : Keep h0 T3.heap [gg] := K2.ext Ex3
  show Gl _ _ _ _ (T3.setTop (mkF m 14 #[.val (.ref gg), .val (.ref nm), .val (.ref a1), .val (.ref cv), .val (.ref sn)] [(.ref o3), (.ref gg)]))
  have g_o3 : n0 ≤ o3 := Nat.le_trans SZ2 gz3
  have sz_o3 : h0.size ≤ o3 := Nat.le_trans K2.1 gz3
  have ne_a1_o3 : a1 ≠ o3 := Nat.ne_of_lt (Nat.lt_of_lt_of_le E_a1_2.lt gz3)
  have ne_ar_o3 : ar ≠ o3 := Nat.ne_of_lt (Nat.lt_of_lt_of_le V_ar_2.lt gz3)
  have ne_gg_o3 : gg ≠ o3 := Nat.ne_of_lt (Nat.lt_of_lt_of_le E_gg_2.lt gz3)
  have ne_sn_o3 : sn ≠ o3 := Nat.ne_of_lt (Nat.lt_of_lt_of_le E_sn_2.lt gz3)
  have ne_y0_o3 : y0 ≠ o3 := Nat.ne_of_lt (Nat.lt_of_lt_of_le E_y0_2.lt gz3)
  obtain ⟨T4, h4, X4, e4, W4, st4⟩ := putF X3 hx hZ hown (host := "") (Or.inl (hw _ (List.mem_of_getElem? (i := 187) rfl))) Via.refl rfl F_gg_cells_3 E_gg_3 (Or.inr ⟨(hw _ (List.mem_of_getElem? (i := 188) rfl)), rfl, hnm⟩) (hw _ (List.mem_of_getElem? (i := 91) rfl)) (ty := (.object "java/util/List")) (by decide) rfl rfl (g := (mkF m 14 #[.val (.ref gg), .val (.ref nm), .val (.ref a1), .val (.ref cv), .val (.ref sn)] [(.ref o3), (.ref gg)])) rfl rfl (hb hby d16_14)
  have E_gg_4 := E_gg_3.wr W4
  have F_gg_number_4 := F_gg_number_3.other W4 (Or.inr (slot_ne (t := (.object "java/lang/String")) (t' := (.object "java/util/List")) (Or.inr (hw _ (List.mem_of_getElem? (i := 101) rfl))) (Or.inr (hw _ (List.mem_of_getElem? (i := 188) rfl))) (by decide) (by decide) (by decide)))
  have F_gg_cells_4 := F_gg_cells_3.same W4
  have F_gg_covered_4 := F_gg_covered_3.other W4 (Or.inr (slot_ne (t := (.array .int)) (t' := (.object "java/util/List")) (Or.inr (hw _ (List.mem_of_getElem? (i := 190) rfl))) (Or.inr (hw _ (List.mem_of_getElem? (i := 188) rfl))) (by decide) (by decide) (by decide)))
  have F_gg_sensitive_4 := F_gg_sensitive_3.other W4 (Or.inr (slot_ne (t := (.object "java/util/List")) (t' := (.object "java/util/List")) (Or.inr (hw _ (List.mem_of_getElem? (i := 232) rfl))) (Or.inr (hw _ (List.mem_of_getElem? (i := 188) rfl))) (by decide) (by decide) (by decide)))
  have E_a1_4 := E_a1_3.wr W4
  have F_a1_modCount_4 := F_a1_modCount_3.other W4 (Or.inl (Ne.symm n_a1))
  have F_a1_elementData_4 := F_a1_elementData_3.other W4 (Or.inl (Ne.symm n_a1))
  have F_a1_size_4 := F_a1_size_3.other W4 (Or.inl (Ne.symm n_a1))
  have V_ar_4 := V_ar_3.other W4 (Ne.symm n_ar)
  have E_ar_4 := E_ar_3.wr W4
  have E_y0_4 := E_y0_3.wr W4
  have E_sn_4 := E_sn_3.wr W4
  have O__4 := O__3.wr W4 g_gg
  have E_o3_4 := Eo3.wr W4
  have F_o3_e0_4 := F03.other W4 (Or.inl (Ne.symm ne_gg_o3))
  have F_o3_e1_4 := F13.other W4 (Or.inl (Ne.symm ne_gg_o3))
  have SZ4 : n0 ≤ h4.size := by rw [Wr.size W4]; exact SZ3
  have K4 : Keep h0 h4 [gg] := K3.wr W4 (Or.inl (List.mem_of_getElem? (i := 0) rfl))
  have N4 := Fr.snoc X4 N3 g_gg
  refine Gl.go (fun _ k => st4 _ k) ?_
  show Gl _ _ _ _ (T4.setTop (mkF m 17 #[.val (.ref gg), .val (.ref nm), .val (.ref a1), .val (.ref cv), .val (.ref sn)] []))
  refine Gl.go (fun _ k => XS.aloadN X4.here hx rfl (hb hby d16_17) rfl rfl  k) ?_
  refine Gl.go (fun _ k => XS.aloadN X4.here hx rfl (hb hby d16_18) rfl rfl  k) ?_
  obtain ⟨T5, h5, X5, e5, W5, st5⟩ := putF X4 hx hZ hown (host := "") (Or.inl (hw _ (List.mem_of_getElem? (i := 189) rfl))) Via.refl e4 F_gg_covered_4 E_gg_4 (Or.inr ⟨(hw _ (List.mem_of_getElem? (i := 190) rfl)), rfl, hnm⟩) (hw _ (List.mem_of_getElem? (i := 91) rfl)) (ty := (.array .int)) (by decide) rfl rfl (g := (mkF m 19 #[.val (.ref gg), .val (.ref nm), .val (.ref a1), .val (.ref cv), .val (.ref sn)] [(.ref cv), (.ref gg)])) rfl rfl (hb hby d16_19)
  have E_gg_5 := E_gg_4.wr W5
  have F_gg_number_5 := F_gg_number_4.other W5 (Or.inr (slot_ne (t := (.object "java/lang/String")) (t' := (.array .int)) (Or.inr (hw _ (List.mem_of_getElem? (i := 101) rfl))) (Or.inr (hw _ (List.mem_of_getElem? (i := 190) rfl))) (by decide) (by decide) (by decide)))
  have F_gg_cells_5 := F_gg_cells_4.other W5 (Or.inr (slot_ne (t := (.object "java/util/List")) (t' := (.array .int)) (Or.inr (hw _ (List.mem_of_getElem? (i := 188) rfl))) (Or.inr (hw _ (List.mem_of_getElem? (i := 190) rfl))) (by decide) (by decide) (by decide)))
  have F_gg_covered_5 := F_gg_covered_4.same W5
  have F_gg_sensitive_5 := F_gg_sensitive_4.other W5 (Or.inr (slot_ne (t := (.object "java/util/List")) (t' := (.array .int)) (Or.inr (hw _ (List.mem_of_getElem? (i := 232) rfl))) (Or.inr (hw _ (List.mem_of_getElem? (i := 190) rfl))) (by decide) (by decide) (by decide)))
  have E_a1_5 := E_a1_4.wr W5
  have F_a1_modCount_5 := F_a1_modCount_4.other W5 (Or.inl (Ne.symm n_a1))
  have F_a1_elementData_5 := F_a1_elementData_4.other W5 (Or.inl (Ne.symm n_a1))
  have F_a1_size_5 := F_a1_size_4.other W5 (Or.inl (Ne.symm n_a1))
  have V_ar_5 := V_ar_4.other W5 (Ne.symm n_ar)
  have E_ar_5 := E_ar_4.wr W5
  have E_y0_5 := E_y0_4.wr W5
  have E_sn_5 := E_sn_4.wr W5
  have O__5 := O__4.wr W5 g_gg
  have E_o3_5 := E_o3_4.wr W5
  have F_o3_e0_5 := F_o3_e0_4.other W5 (Or.inl (Ne.symm ne_gg_o3))
  have F_o3_e1_5 := F_o3_e1_4.other W5 (Or.inl (Ne.symm ne_gg_o3))
  have SZ5 : n0 ≤ h5.size := by rw [Wr.size W5]; exact SZ4
  have K5 : Keep h0 h5 [gg] := K4.wr W5 (Or.inl (List.mem_of_getElem? (i := 0) rfl))
  have N5 := Fr.snoc X5 N4 g_gg
  refine Gl.go (fun _ k => st5 _ k) ?_
  show Gl _ _ _ _ (T5.setTop (mkF m 22 #[.val (.ref gg), .val (.ref nm), .val (.ref a1), .val (.ref cv), .val (.ref sn)] []))
  refine Gl.go (fun _ k => XS.aloadN X5.here hx rfl (hb hby d16_22) rfl rfl  k) ?_
  refine Gl.go (fun _ k => XS.aload X5.here hx rfl (hb hby d16_23) rfl rfl  k) ?_
  obtain ⟨_, _, ⟨T6, L6, k6, n6⟩, -, X6, ⟨Lc6, hQ6, l6, y6, z6⟩, st6⟩ := Jvm.LawKit.callS X5 hx (y := (⟨"java/util/Collections", "unmodifiableList", "(Ljava/util/List;)Ljava/util/List;"⟩ : MethodName)) hown (mvT hZ (hw _ (List.mem_of_getElem? (i := 191) rfl))) (mvT hZ (hw _ (List.mem_of_getElem? (i := 192) rfl))) (mvT hZ (hw _ (List.mem_of_getElem? (i := 193) rfl))) (mvT hZ (hw _ (List.mem_of_getElem? (i := 194) rfl))) (by decide) (backOf (W := 1) (rm_unm l Z a0 hw [] sn mA mL mR h5 n0 SZ5 E_sn_5 MA ML MR) hZ (hw _ (List.mem_of_getElem? (i := 194) rfl)) (hw _ (List.mem_of_getElem? (i := 193) rfl)) (by decide) (by decide)) (g := (mkF m 25 #[.val (.ref gg), .val (.ref nm), .val (.ref a1), .val (.ref cv), .val (.ref sn)] [(.ref sn), (.ref gg)])) rfl (by rw [hml]; rfl) (argsL := [(.ref sn)]) (rest := [(.ref gg)]) (lenOf pd_16 rfl) rfl (by show 2 * 0 + _ ≤ _; exact Nat.le_of_eq rfl) (hb hby d16_25) (fun _ _ => ⟨rfl, e5, (by decide : 2 + 1 ≤ _), (by decide : 3 + 2 ≤ _)⟩)
  dsimp only [Pt.U, Pt.locs, Pt.cells, Pt.slots] at X6 l6 y6 z6 st6 hQ6
  subst y6 z6
  obtain ⟨us6, rfl, Nq6, Kc6⟩ := hQ6
  have N6 : Fr n0 L6 := by rw [l6]; exact Fr.app N5 Nq6
  refine Gl.go (fun _ k => st6 _ k) ?_
  have Ex6 := ext_of_keep Kc6
  have E_gg_6 := E_gg_5.ext Ex6
  have F_gg_number_6 := F_gg_number_5.ext Ex6
  have F_gg_cells_6 := F_gg_cells_5.ext Ex6
  have F_gg_covered_6 := F_gg_covered_5.ext Ex6
  have F_gg_sensitive_6 := F_gg_sensitive_5.ext Ex6
  have E_a1_6 := E_a1_5.ext Ex6
  have F_a1_modCount_6 := F_a1_modCount_5.ext Ex6
  have F_a1_elementData_6 := F_a1_elementData_5.ext Ex6
  have F_a1_size_6 := F_a1_size_5.ext Ex6
  have V_ar_6 := V_ar_5.ext Ex6
  have E_ar_6 := E_ar_5.ext Ex6
  have E_y0_6 := E_y0_5.ext Ex6
  have E_sn_6 := E_sn_5.ext Ex6
  have O__6 := O__5.ext Ex6
  have E_o3_6 := E_o3_5.ext Ex6
  have F_o3_e0_6 := F_o3_e0_5.ext Ex6
  have F_o3_e1_6 := F_o3_e1_5.ext Ex6
  have SZ6 : n0 ≤ T6.heap.size := Nat.le_trans SZ5 Ex6.1
  have K6 : Keep h0 T6.heap [gg] := K5.ext Ex6
  show Gl _ _ _ _ (T6.setTop (mkF m 28 #[.val (.ref gg), .val (.ref nm), .val (.ref a1), .val (.ref cv), .val (.ref sn)] [(.ref us6), (.ref gg)]))
  obtain ⟨T7, h7, X7, e7, W7, st7⟩ := putF X6 hx hZ hown (host := "") (Or.inl (hw _ (List.mem_of_getElem? (i := 231) rfl))) Via.refl rfl F_gg_sensitive_6 E_gg_6 (Or.inr ⟨(hw _ (List.mem_of_getElem? (i := 232) rfl)), rfl, hnm⟩) (hw _ (List.mem_of_getElem? (i := 91) rfl)) (ty := (.object "java/util/List")) (by decide) rfl rfl (g := (mkF m 28 #[.val (.ref gg), .val (.ref nm), .val (.ref a1), .val (.ref cv), .val (.ref sn)] [(.ref us6), (.ref gg)])) rfl rfl (hb hby d16_28)
  have E_gg_7 := E_gg_6.wr W7
  have F_gg_number_7 := F_gg_number_6.other W7 (Or.inr (slot_ne (t := (.object "java/lang/String")) (t' := (.object "java/util/List")) (Or.inr (hw _ (List.mem_of_getElem? (i := 101) rfl))) (Or.inr (hw _ (List.mem_of_getElem? (i := 232) rfl))) (by decide) (by decide) (by decide)))
  have F_gg_cells_7 := F_gg_cells_6.other W7 (Or.inr (slot_ne (t := (.object "java/util/List")) (t' := (.object "java/util/List")) (Or.inr (hw _ (List.mem_of_getElem? (i := 188) rfl))) (Or.inr (hw _ (List.mem_of_getElem? (i := 232) rfl))) (by decide) (by decide) (by decide)))
  have F_gg_covered_7 := F_gg_covered_6.other W7 (Or.inr (slot_ne (t := (.array .int)) (t' := (.object "java/util/List")) (Or.inr (hw _ (List.mem_of_getElem? (i := 190) rfl))) (Or.inr (hw _ (List.mem_of_getElem? (i := 232) rfl))) (by decide) (by decide) (by decide)))
  have F_gg_sensitive_7 := F_gg_sensitive_6.same W7
  have E_a1_7 := E_a1_6.wr W7
  have F_a1_modCount_7 := F_a1_modCount_6.other W7 (Or.inl (Ne.symm n_a1))
  have F_a1_elementData_7 := F_a1_elementData_6.other W7 (Or.inl (Ne.symm n_a1))
  have F_a1_size_7 := F_a1_size_6.other W7 (Or.inl (Ne.symm n_a1))
  have V_ar_7 := V_ar_6.other W7 (Ne.symm n_ar)
  have E_ar_7 := E_ar_6.wr W7
  have E_y0_7 := E_y0_6.wr W7
  have E_sn_7 := E_sn_6.wr W7
  have O__7 := O__6.wr W7 g_gg
  have E_o3_7 := E_o3_6.wr W7
  have F_o3_e0_7 := F_o3_e0_6.other W7 (Or.inl (Ne.symm ne_gg_o3))
  have F_o3_e1_7 := F_o3_e1_6.other W7 (Or.inl (Ne.symm ne_gg_o3))
  have SZ7 : n0 ≤ h7.size := by rw [Wr.size W7]; exact SZ6
  have K7 : Keep h0 h7 [gg] := K6.wr W7 (Or.inl (List.mem_of_getElem? (i := 0) rfl))
  have N7 := Fr.snoc X7 N6 g_gg
  refine Gl.go (fun _ k => st7 _ k) ?_
  show Gl _ _ _ _ (T7.setTop (mkF m 31 #[.val (.ref gg), .val (.ref nm), .val (.ref a1), .val (.ref cv), .val (.ref sn)] []))
  refine leafV X7 hx hlk Bd.returns (hb hby d16_31) ?_ (by decide) (by decide)
  rw [e7]
  exact ⟨rfl, N7, K7, E_gg_7, o3, F_gg_cells_7, E_o3_7, F_o3_e0_7, F_o3_e1_7⟩
def Q_pgi_2 (Z : State) (gg nm cv sn mA mL mR : Addr) (a1 : Addr) (mc : Int32) (ar : Addr) (kA : ClassId) (mO : Addr) (y0 : Addr) (y1 : Addr) (eM : Addr) (h0 : Heap) (n0 : Nat) (v : Option Value) (h : Heap) (L : List Loc) : Prop := v = none ∧ Fr n0 L ∧ Keep h0 h [gg] ∧ (Exa Z h gg "com/example/frosted_rows/frostedrows/release/PublishedGroup") ∧ ∃ o, (Fld Z h gg "com/example/frosted_rows/frostedrows/release/PublishedGroup" "cells" "Ljava/util/List;" (.ref o)) ∧ (Exa Z h o "java/util/ImmutableCollections$List12") ∧ (Fld Z h o "java/util/ImmutableCollections$List12" "e0" "Ljava/lang/Object;" (.ref y0)) ∧ (Fld Z h o "java/util/ImmutableCollections$List12" "e1" "Ljava/lang/Object;" (.ref y1))
set_option maxRecDepth 65536 in
set_option maxHeartbeats 40000000 in
theorem rm_pgi_2 (l : Launch) (Z : State) (a0 : Array Value) (hw : ∀ d ∈ tables_1, d.before a0 Z = true) (ws : List Jvm.Cond) (gg nm cv sn mA mL mR : Addr) (a1 : Addr) (mc : Int32) (ar : Addr) (kA : ClassId) (mO : Addr) (y0 : Addr) (y1 : Addr) (eM : Addr) (h0 : Heap) (n0 : Nat) (Z0 : n0 ≤ h0.size) (E_gg : (Exa Z h0 gg "com/example/frosted_rows/frostedrows/release/PublishedGroup")) (P0 : (Fld Z h0 gg "com/example/frosted_rows/frostedrows/release/PublishedGroup" "number" "Ljava/lang/String;" .null)) (P1 : (Fld Z h0 gg "com/example/frosted_rows/frostedrows/release/PublishedGroup" "cells" "Ljava/util/List;" .null)) (P2 : (Fld Z h0 gg "com/example/frosted_rows/frostedrows/release/PublishedGroup" "covered" "[I" .null)) (P3 : (Fld Z h0 gg "com/example/frosted_rows/frostedrows/release/PublishedGroup" "sensitive" "Ljava/util/List;" .null)) (E_a1 : (Exa Z h0 a1 "java/util/ArrayList")) (M_a1 : (Fld Z h0 a1 "java/util/AbstractList" "modCount" "I" (.int mc))) (D_a1 : (Fld Z h0 a1 "java/util/ArrayList" "elementData" "[Ljava/lang/Object;" (.ref ar))) (S_a1 : (Fld Z h0 a1 "java/util/ArrayList" "size" "I" (.int (2 : Int32)))) (V1 : (Arv Z h0 ar kA (.object "java/lang/Object") (10 : Int32) [(.ref y0), (.ref y1), .null, .null, .null, .null, .null, .null, .null, .null] .null)) (X_y0 : (Exa Z h0 y0 "java/lang/String")) (X_y1 : (Exa Z h0 y1 "java/lang/String")) (E_ar : (Exa Z h0 ar "[Ljava/lang/Object;")) (MO : Mr Z "[Ljava/lang/Object;" mO) (SE : Sta Z Z.heap "java/util/ImmutableCollections" "EMPTY" "Ljava/lang/Object;" (.ref eM)) (O0 : Old Z n0 h0) (E_sn : (Exa Z h0 sn "java/util/ArrayList")) (MA : Mr Z "java/util/ArrayList" mA) (ML : Mr Z "java/util/Collections$UnmodifiableList" mL) (MR : Mr Z "java/util/Collections$UnmodifiableRandomAccessList" mR) (g_gg : n0 ≤ gg) (n_a1 : gg ≠ a1) (n_ar : gg ≠ ar) :
    MetFree l (⟨"com/example/frosted_rows/frostedrows/release/PublishedGroup", "<init>", "(Ljava/lang/String;Ljava/util/List;[ILjava/util/List;)V"⟩ : MethodName) (head1 (Jvm.Cond.code (⟨"com/example/frosted_rows/frostedrows/release/PublishedGroup", "<init>", "(Ljava/lang/String;Ljava/util/List;[ILjava/util/List;)V"⟩ : MethodName) prog_13_method_1_code 5 none :: ws) ({ frames := 8, cells := 3, slots := 6, locals := 102 } : Room)) (fun aa U => aa = #[(.ref gg), (.ref nm), (.ref a1), (.ref cv), (.ref sn)] ∧ Z.Warmed39 U.vm ∧ U.heap = h0) (fun _ _ _ _ _ => True) (fun _ U o U' => ∃ v L, o = .returned v ∧ Q_pgi_2 Z gg nm cv sn mA mL mR a1 mc ar kA mO y0 y1 eM h0 n0 v U'.heap L ∧ FrameEnd U o U' L ({ frames := 8, cells := 3, slots := 6, locals := 102 } : Room).cells ({ frames := 8, cells := 3, slots := 6, locals := 102 } : Room).slots) := by
  refine MetFree.of_bodySF (plainFor_of_name pn_15) hisR ?_
  intro p e s m args below meth c s₁ Bd hml0 hP hK
  obtain ⟨rfl, hZ, hh⟩ := hP
  have hx := Bd.exec
  have hby := Bd.bytes
  have hml : c.maxLocals = 5 := hml0
  have hown : s.vm.findClass "com/example/frosted_rows/frostedrows/release/PublishedGroup" = some m.cls := findClass_of_methodNamed Bd.named
  have hnm := (name_of_methodNamed Bd.named Bd.method).1
  have hlk : meth.locks = false := BodyLoose.notSynchronized Bd
  have X0 : Stand p l e ({ frames := 8, cells := 3, slots := 6, locals := 102 } : Room) s m #[(.ref gg), (.ref nm), (.ref a1), (.ref cv), (.ref sn)] below meth c s₁ [] 0 0 := Stand.of_body Bd
  have e0 : s₁.heap = h0 := by rw [← hh, Bd.state]; rfl
  have N0 := Fr.nil n0
  have K0 : Keep h0 h0 [gg] := Keep.refl _ _
  show Gl p.tables e below (QQof s (Q_pgi_2 Z gg nm cv sn mA mL mR a1 mc ar kA mO y0 y1 eM h0 n0) 3 6) (s₁.setTop (entryFrame m #[(.ref gg), (.ref nm), (.ref a1), (.ref cv), (.ref sn)] 5))
  refine Gl.go (fun t k => castTop (ef_pgi_2 m gg nm a1 cv sn) k) ?_
  show Gl _ _ _ _ (s₁.setTop (mkF m 0 #[.val (.ref gg), .val (.ref nm), .val (.ref a1), .val (.ref cv), .val (.ref sn)] []))
  refine Gl.go (fun _ k => XS.aloadN X0.here hx rfl (hb hby d16_0) rfl rfl  k) ?_
  obtain ⟨T1, X1, e1, st1⟩ := initO X0 hx hZ hown (hw _ (List.mem_of_getElem? (i := 99) rfl)) (hw _ (List.mem_of_getElem? (i := 16) rfl)) (hw _ (List.mem_of_getElem? (i := 17) rfl)) e0 (g := (mkF m 1 #[.val (.ref gg), .val (.ref nm), .val (.ref a1), .val (.ref cv), .val (.ref sn)] [(.ref gg)])) rfl (by rw [hml]; rfl) rfl (hb hby d16_1) (by decide) (W := 0) (by show 2 * 0 + _ ≤ _; exact Nat.le_of_eq rfl) (by decide)
  refine Gl.go (fun _ k => st1 _ k) ?_
  show Gl _ _ _ _ (T1.setTop (mkF m 4 #[.val (.ref gg), .val (.ref nm), .val (.ref a1), .val (.ref cv), .val (.ref sn)] []))
  refine Gl.go (fun _ k => XS.aloadN X1.here hx rfl (hb hby d16_4) rfl rfl  k) ?_
  refine Gl.go (fun _ k => XS.aloadN X1.here hx rfl (hb hby d16_5) rfl rfl  k) ?_
  obtain ⟨T2, h2, X2, e2, W2, st2⟩ := putF X1 hx hZ hown (host := "") (Or.inl (hw _ (List.mem_of_getElem? (i := 100) rfl))) Via.refl e1 P0 E_gg (Or.inr ⟨(hw _ (List.mem_of_getElem? (i := 101) rfl)), rfl, hnm⟩) (hw _ (List.mem_of_getElem? (i := 91) rfl)) (ty := (.object "java/lang/String")) (by decide) rfl rfl (g := (mkF m 6 #[.val (.ref gg), .val (.ref nm), .val (.ref a1), .val (.ref cv), .val (.ref sn)] [(.ref nm), (.ref gg)])) rfl rfl (hb hby d16_6)
  have E_gg_2 := E_gg.wr W2
  have F_gg_number_2 := P0.same W2
  have F_gg_cells_2 := P1.other W2 (Or.inr (slot_ne (t := (.object "java/util/List")) (t' := (.object "java/lang/String")) (Or.inr (hw _ (List.mem_of_getElem? (i := 188) rfl))) (Or.inr (hw _ (List.mem_of_getElem? (i := 101) rfl))) (by decide) (by decide) (by decide)))
  have F_gg_covered_2 := P2.other W2 (Or.inr (slot_ne (t := (.array .int)) (t' := (.object "java/lang/String")) (Or.inr (hw _ (List.mem_of_getElem? (i := 190) rfl))) (Or.inr (hw _ (List.mem_of_getElem? (i := 101) rfl))) (by decide) (by decide) (by decide)))
  have F_gg_sensitive_2 := P3.other W2 (Or.inr (slot_ne (t := (.object "java/util/List")) (t' := (.object "java/lang/String")) (Or.inr (hw _ (List.mem_of_getElem? (i := 232) rfl))) (Or.inr (hw _ (List.mem_of_getElem? (i := 101) rfl))) (by decide) (by decide) (by decide)))
  have E_a1_2 := E_a1.wr W2
  have F_a1_modCount_2 := M_a1.other W2 (Or.inl (Ne.symm n_a1))
  have F_a1_elementData_2 := D_a1.other W2 (Or.inl (Ne.symm n_a1))
  have F_a1_size_2 := S_a1.other W2 (Or.inl (Ne.symm n_a1))
  have V_ar_2 := V1.other W2 (Ne.symm n_ar)
  have E_ar_2 := E_ar.wr W2
  have E_y0_2 := X_y0.wr W2
  have E_y1_2 := X_y1.wr W2
  have E_sn_2 := E_sn.wr W2
  have O__2 := O0.wr W2 g_gg
  have SZ2 : n0 ≤ h2.size := by rw [Wr.size W2]; exact Z0
  have K2 : Keep h0 h2 [gg] := K0.wr W2 (Or.inl (List.mem_of_getElem? (i := 0) rfl))
  have N2 := Fr.snoc X2 N0 g_gg
  refine Gl.go (fun _ k => st2 _ k) ?_
  show Gl _ _ _ _ (T2.setTop (mkF m 9 #[.val (.ref gg), .val (.ref nm), .val (.ref a1), .val (.ref cv), .val (.ref sn)] []))
  refine Gl.go (fun _ k => XS.aloadN X2.here hx rfl (hb hby d16_9) rfl rfl  k) ?_
  refine Gl.go (fun _ k => XS.aloadN X2.here hx rfl (hb hby d16_10) rfl rfl  k) ?_
  obtain ⟨_, _, ⟨T3, L3, k3, n3⟩, -, X3, ⟨Lc3, hQ3, l3, y3, z3⟩, st3⟩ := Jvm.LawKit.callS X2 hx (y := (⟨"java/util/List", "copyOf", "(Ljava/util/Collection;)Ljava/util/List;"⟩ : MethodName)) hown (mvT hZ (hw _ (List.mem_of_getElem? (i := 102) rfl))) (mvT hZ (hw _ (List.mem_of_getElem? (i := 103) rfl))) (mvT hZ (hw _ (List.mem_of_getElem? (i := 104) rfl))) (mvT hZ (hw _ (List.mem_of_getElem? (i := 105) rfl))) (by decide) (backOf (W := 1) (rm_lco_2 l Z a0 hw [] a1 mc ar kA mO y0 y1 eM h2 n0 SZ2 E_a1_2 F_a1_modCount_2 F_a1_elementData_2 F_a1_size_2 V_ar_2 E_y0_2 E_y1_2 E_ar_2 MO SE O__2) hZ (hw _ (List.mem_of_getElem? (i := 105) rfl)) (hw _ (List.mem_of_getElem? (i := 104) rfl)) (by decide) (by decide)) (g := (mkF m 11 #[.val (.ref gg), .val (.ref nm), .val (.ref a1), .val (.ref cv), .val (.ref sn)] [(.ref a1), (.ref gg)])) rfl (by rw [hml]; rfl) (argsL := [(.ref a1)]) (rest := [(.ref gg)]) (lenOf pd_12 rfl) rfl (by show 2 * 0 + _ ≤ _; exact Nat.le_of_eq rfl) (hb hby d16_11) (fun _ _ => ⟨rfl, e2, (by decide : 0 + 2 ≤ _), (by decide : 0 + 4 ≤ _)⟩)
  dsimp only [Pt.U, Pt.locs, Pt.cells, Pt.slots] at X3 l3 y3 z3 st3 hQ3
  subst y3 z3
  obtain ⟨o3, rfl, Nq3, Kc3, gz3, Eo3, F03, F13⟩ := hQ3
  have N3 : Fr n0 L3 := by rw [l3]; exact Fr.app N2 Nq3
  refine Gl.go (fun _ k => st3 _ k) ?_
  have Ex3 := ext_of_keep Kc3
  have E_gg_3 := E_gg_2.ext Ex3
  have F_gg_number_3 := F_gg_number_2.ext Ex3
  have F_gg_cells_3 := F_gg_cells_2.ext Ex3
  have F_gg_covered_3 := F_gg_covered_2.ext Ex3
  have F_gg_sensitive_3 := F_gg_sensitive_2.ext Ex3
  have E_a1_3 := E_a1_2.ext Ex3
  have F_a1_modCount_3 := F_a1_modCount_2.ext Ex3
  have F_a1_elementData_3 := F_a1_elementData_2.ext Ex3
  have F_a1_size_3 := F_a1_size_2.ext Ex3
  have V_ar_3 := V_ar_2.ext Ex3
  have E_ar_3 := E_ar_2.ext Ex3
  have E_y0_3 := E_y0_2.ext Ex3
  have E_y1_3 := E_y1_2.ext Ex3
  have E_sn_3 := E_sn_2.ext Ex3
  have O__3 := O__2.ext Ex3
  have SZ3 : n0 ≤ T3.heap.size := Nat.le_trans SZ2 Ex3.1
  have K3 : Keep h0 T3.heap [gg] := K2.ext Ex3
  show Gl _ _ _ _ (T3.setTop (mkF m 14 #[.val (.ref gg), .val (.ref nm), .val (.ref a1), .val (.ref cv), .val (.ref sn)] [(.ref o3), (.ref gg)]))
  have g_o3 : n0 ≤ o3 := Nat.le_trans SZ2 gz3
  have sz_o3 : h0.size ≤ o3 := Nat.le_trans K2.1 gz3
  have ne_a1_o3 : a1 ≠ o3 := Nat.ne_of_lt (Nat.lt_of_lt_of_le E_a1_2.lt gz3)
  have ne_ar_o3 : ar ≠ o3 := Nat.ne_of_lt (Nat.lt_of_lt_of_le V_ar_2.lt gz3)
  have ne_gg_o3 : gg ≠ o3 := Nat.ne_of_lt (Nat.lt_of_lt_of_le E_gg_2.lt gz3)
  have ne_sn_o3 : sn ≠ o3 := Nat.ne_of_lt (Nat.lt_of_lt_of_le E_sn_2.lt gz3)
  have ne_y0_o3 : y0 ≠ o3 := Nat.ne_of_lt (Nat.lt_of_lt_of_le E_y0_2.lt gz3)
  have ne_y1_o3 : y1 ≠ o3 := Nat.ne_of_lt (Nat.lt_of_lt_of_le E_y1_2.lt gz3)
  obtain ⟨T4, h4, X4, e4, W4, st4⟩ := putF X3 hx hZ hown (host := "") (Or.inl (hw _ (List.mem_of_getElem? (i := 187) rfl))) Via.refl rfl F_gg_cells_3 E_gg_3 (Or.inr ⟨(hw _ (List.mem_of_getElem? (i := 188) rfl)), rfl, hnm⟩) (hw _ (List.mem_of_getElem? (i := 91) rfl)) (ty := (.object "java/util/List")) (by decide) rfl rfl (g := (mkF m 14 #[.val (.ref gg), .val (.ref nm), .val (.ref a1), .val (.ref cv), .val (.ref sn)] [(.ref o3), (.ref gg)])) rfl rfl (hb hby d16_14)
  have E_gg_4 := E_gg_3.wr W4
  have F_gg_number_4 := F_gg_number_3.other W4 (Or.inr (slot_ne (t := (.object "java/lang/String")) (t' := (.object "java/util/List")) (Or.inr (hw _ (List.mem_of_getElem? (i := 101) rfl))) (Or.inr (hw _ (List.mem_of_getElem? (i := 188) rfl))) (by decide) (by decide) (by decide)))
  have F_gg_cells_4 := F_gg_cells_3.same W4
  have F_gg_covered_4 := F_gg_covered_3.other W4 (Or.inr (slot_ne (t := (.array .int)) (t' := (.object "java/util/List")) (Or.inr (hw _ (List.mem_of_getElem? (i := 190) rfl))) (Or.inr (hw _ (List.mem_of_getElem? (i := 188) rfl))) (by decide) (by decide) (by decide)))
  have F_gg_sensitive_4 := F_gg_sensitive_3.other W4 (Or.inr (slot_ne (t := (.object "java/util/List")) (t' := (.object "java/util/List")) (Or.inr (hw _ (List.mem_of_getElem? (i := 232) rfl))) (Or.inr (hw _ (List.mem_of_getElem? (i := 188) rfl))) (by decide) (by decide) (by decide)))
  have E_a1_4 := E_a1_3.wr W4
  have F_a1_modCount_4 := F_a1_modCount_3.other W4 (Or.inl (Ne.symm n_a1))
  have F_a1_elementData_4 := F_a1_elementData_3.other W4 (Or.inl (Ne.symm n_a1))
  have F_a1_size_4 := F_a1_size_3.other W4 (Or.inl (Ne.symm n_a1))
  have V_ar_4 := V_ar_3.other W4 (Ne.symm n_ar)
  have E_ar_4 := E_ar_3.wr W4
  have E_y0_4 := E_y0_3.wr W4
  have E_y1_4 := E_y1_3.wr W4
  have E_sn_4 := E_sn_3.wr W4
  have O__4 := O__3.wr W4 g_gg
  have E_o3_4 := Eo3.wr W4
  have F_o3_e0_4 := F03.other W4 (Or.inl (Ne.symm ne_gg_o3))
  have F_o3_e1_4 := F13.other W4 (Or.inl (Ne.symm ne_gg_o3))
  have SZ4 : n0 ≤ h4.size := by rw [Wr.size W4]; exact SZ3
  have K4 : Keep h0 h4 [gg] := K3.wr W4 (Or.inl (List.mem_of_getElem? (i := 0) rfl))
  have N4 := Fr.snoc X4 N3 g_gg
  refine Gl.go (fun _ k => st4 _ k) ?_
  show Gl _ _ _ _ (T4.setTop (mkF m 17 #[.val (.ref gg), .val (.ref nm), .val (.ref a1), .val (.ref cv), .val (.ref sn)] []))
  refine Gl.go (fun _ k => XS.aloadN X4.here hx rfl (hb hby d16_17) rfl rfl  k) ?_
  refine Gl.go (fun _ k => XS.aloadN X4.here hx rfl (hb hby d16_18) rfl rfl  k) ?_
  obtain ⟨T5, h5, X5, e5, W5, st5⟩ := putF X4 hx hZ hown (host := "") (Or.inl (hw _ (List.mem_of_getElem? (i := 189) rfl))) Via.refl e4 F_gg_covered_4 E_gg_4 (Or.inr ⟨(hw _ (List.mem_of_getElem? (i := 190) rfl)), rfl, hnm⟩) (hw _ (List.mem_of_getElem? (i := 91) rfl)) (ty := (.array .int)) (by decide) rfl rfl (g := (mkF m 19 #[.val (.ref gg), .val (.ref nm), .val (.ref a1), .val (.ref cv), .val (.ref sn)] [(.ref cv), (.ref gg)])) rfl rfl (hb hby d16_19)
  have E_gg_5 := E_gg_4.wr W5
  have F_gg_number_5 := F_gg_number_4.other W5 (Or.inr (slot_ne (t := (.object "java/lang/String")) (t' := (.array .int)) (Or.inr (hw _ (List.mem_of_getElem? (i := 101) rfl))) (Or.inr (hw _ (List.mem_of_getElem? (i := 190) rfl))) (by decide) (by decide) (by decide)))
  have F_gg_cells_5 := F_gg_cells_4.other W5 (Or.inr (slot_ne (t := (.object "java/util/List")) (t' := (.array .int)) (Or.inr (hw _ (List.mem_of_getElem? (i := 188) rfl))) (Or.inr (hw _ (List.mem_of_getElem? (i := 190) rfl))) (by decide) (by decide) (by decide)))
  have F_gg_covered_5 := F_gg_covered_4.same W5
  have F_gg_sensitive_5 := F_gg_sensitive_4.other W5 (Or.inr (slot_ne (t := (.object "java/util/List")) (t' := (.array .int)) (Or.inr (hw _ (List.mem_of_getElem? (i := 232) rfl))) (Or.inr (hw _ (List.mem_of_getElem? (i := 190) rfl))) (by decide) (by decide) (by decide)))
  have E_a1_5 := E_a1_4.wr W5
  have F_a1_modCount_5 := F_a1_modCount_4.other W5 (Or.inl (Ne.symm n_a1))
  have F_a1_elementData_5 := F_a1_elementData_4.other W5 (Or.inl (Ne.symm n_a1))
  have F_a1_size_5 := F_a1_size_4.other W5 (Or.inl (Ne.symm n_a1))
  have V_ar_5 := V_ar_4.other W5 (Ne.symm n_ar)
  have E_ar_5 := E_ar_4.wr W5
  have E_y0_5 := E_y0_4.wr W5
  have E_y1_5 := E_y1_4.wr W5
  have E_sn_5 := E_sn_4.wr W5
  have O__5 := O__4.wr W5 g_gg
  have E_o3_5 := E_o3_4.wr W5
  have F_o3_e0_5 := F_o3_e0_4.other W5 (Or.inl (Ne.symm ne_gg_o3))
  have F_o3_e1_5 := F_o3_e1_4.other W5 (Or.inl (Ne.symm ne_gg_o3))
  have SZ5 : n0 ≤ h5.size := by rw [Wr.size W5]; exact SZ4
  have K5 : Keep h0 h5 [gg] := K4.wr W5 (Or.inl (List.mem_of_getElem? (i := 0) rfl))
  have N5 := Fr.snoc X5 N4 g_gg
  refine Gl.go (fun _ k => st5 _ k) ?_
  show Gl _ _ _ _ (T5.setTop (mkF m 22 #[.val (.ref gg), .val (.ref nm), .val (.ref a1), .val (.ref cv), .val (.ref sn)] []))
  refine Gl.go (fun _ k => XS.aloadN X5.here hx rfl (hb hby d16_22) rfl rfl  k) ?_
  refine Gl.go (fun _ k => XS.aload X5.here hx rfl (hb hby d16_23) rfl rfl  k) ?_
  obtain ⟨_, _, ⟨T6, L6, k6, n6⟩, -, X6, ⟨Lc6, hQ6, l6, y6, z6⟩, st6⟩ := Jvm.LawKit.callS X5 hx (y := (⟨"java/util/Collections", "unmodifiableList", "(Ljava/util/List;)Ljava/util/List;"⟩ : MethodName)) hown (mvT hZ (hw _ (List.mem_of_getElem? (i := 191) rfl))) (mvT hZ (hw _ (List.mem_of_getElem? (i := 192) rfl))) (mvT hZ (hw _ (List.mem_of_getElem? (i := 193) rfl))) (mvT hZ (hw _ (List.mem_of_getElem? (i := 194) rfl))) (by decide) (backOf (W := 1) (rm_unm l Z a0 hw [] sn mA mL mR h5 n0 SZ5 E_sn_5 MA ML MR) hZ (hw _ (List.mem_of_getElem? (i := 194) rfl)) (hw _ (List.mem_of_getElem? (i := 193) rfl)) (by decide) (by decide)) (g := (mkF m 25 #[.val (.ref gg), .val (.ref nm), .val (.ref a1), .val (.ref cv), .val (.ref sn)] [(.ref sn), (.ref gg)])) rfl (by rw [hml]; rfl) (argsL := [(.ref sn)]) (rest := [(.ref gg)]) (lenOf pd_16 rfl) rfl (by show 2 * 0 + _ ≤ _; exact Nat.le_of_eq rfl) (hb hby d16_25) (fun _ _ => ⟨rfl, e5, (by decide : 2 + 1 ≤ _), (by decide : 4 + 2 ≤ _)⟩)
  dsimp only [Pt.U, Pt.locs, Pt.cells, Pt.slots] at X6 l6 y6 z6 st6 hQ6
  subst y6 z6
  obtain ⟨us6, rfl, Nq6, Kc6⟩ := hQ6
  have N6 : Fr n0 L6 := by rw [l6]; exact Fr.app N5 Nq6
  refine Gl.go (fun _ k => st6 _ k) ?_
  have Ex6 := ext_of_keep Kc6
  have E_gg_6 := E_gg_5.ext Ex6
  have F_gg_number_6 := F_gg_number_5.ext Ex6
  have F_gg_cells_6 := F_gg_cells_5.ext Ex6
  have F_gg_covered_6 := F_gg_covered_5.ext Ex6
  have F_gg_sensitive_6 := F_gg_sensitive_5.ext Ex6
  have E_a1_6 := E_a1_5.ext Ex6
  have F_a1_modCount_6 := F_a1_modCount_5.ext Ex6
  have F_a1_elementData_6 := F_a1_elementData_5.ext Ex6
  have F_a1_size_6 := F_a1_size_5.ext Ex6
  have V_ar_6 := V_ar_5.ext Ex6
  have E_ar_6 := E_ar_5.ext Ex6
  have E_y0_6 := E_y0_5.ext Ex6
  have E_y1_6 := E_y1_5.ext Ex6
  have E_sn_6 := E_sn_5.ext Ex6
  have O__6 := O__5.ext Ex6
  have E_o3_6 := E_o3_5.ext Ex6
  have F_o3_e0_6 := F_o3_e0_5.ext Ex6
  have F_o3_e1_6 := F_o3_e1_5.ext Ex6
  have SZ6 : n0 ≤ T6.heap.size := Nat.le_trans SZ5 Ex6.1
  have K6 : Keep h0 T6.heap [gg] := K5.ext Ex6
  show Gl _ _ _ _ (T6.setTop (mkF m 28 #[.val (.ref gg), .val (.ref nm), .val (.ref a1), .val (.ref cv), .val (.ref sn)] [(.ref us6), (.ref gg)]))
  obtain ⟨T7, h7, X7, e7, W7, st7⟩ := putF X6 hx hZ hown (host := "") (Or.inl (hw _ (List.mem_of_getElem? (i := 231) rfl))) Via.refl rfl F_gg_sensitive_6 E_gg_6 (Or.inr ⟨(hw _ (List.mem_of_getElem? (i := 232) rfl)), rfl, hnm⟩) (hw _ (List.mem_of_getElem? (i := 91) rfl)) (ty := (.object "java/util/List")) (by decide) rfl rfl (g := (mkF m 28 #[.val (.ref gg), .val (.ref nm), .val (.ref a1), .val (.ref cv), .val (.ref sn)] [(.ref us6), (.ref gg)])) rfl rfl (hb hby d16_28)
  have E_gg_7 := E_gg_6.wr W7
  have F_gg_number_7 := F_gg_number_6.other W7 (Or.inr (slot_ne (t := (.object "java/lang/String")) (t' := (.object "java/util/List")) (Or.inr (hw _ (List.mem_of_getElem? (i := 101) rfl))) (Or.inr (hw _ (List.mem_of_getElem? (i := 232) rfl))) (by decide) (by decide) (by decide)))
  have F_gg_cells_7 := F_gg_cells_6.other W7 (Or.inr (slot_ne (t := (.object "java/util/List")) (t' := (.object "java/util/List")) (Or.inr (hw _ (List.mem_of_getElem? (i := 188) rfl))) (Or.inr (hw _ (List.mem_of_getElem? (i := 232) rfl))) (by decide) (by decide) (by decide)))
  have F_gg_covered_7 := F_gg_covered_6.other W7 (Or.inr (slot_ne (t := (.array .int)) (t' := (.object "java/util/List")) (Or.inr (hw _ (List.mem_of_getElem? (i := 190) rfl))) (Or.inr (hw _ (List.mem_of_getElem? (i := 232) rfl))) (by decide) (by decide) (by decide)))
  have F_gg_sensitive_7 := F_gg_sensitive_6.same W7
  have E_a1_7 := E_a1_6.wr W7
  have F_a1_modCount_7 := F_a1_modCount_6.other W7 (Or.inl (Ne.symm n_a1))
  have F_a1_elementData_7 := F_a1_elementData_6.other W7 (Or.inl (Ne.symm n_a1))
  have F_a1_size_7 := F_a1_size_6.other W7 (Or.inl (Ne.symm n_a1))
  have V_ar_7 := V_ar_6.other W7 (Ne.symm n_ar)
  have E_ar_7 := E_ar_6.wr W7
  have E_y0_7 := E_y0_6.wr W7
  have E_y1_7 := E_y1_6.wr W7
  have E_sn_7 := E_sn_6.wr W7
  have O__7 := O__6.wr W7 g_gg
  have E_o3_7 := E_o3_6.wr W7
  have F_o3_e0_7 := F_o3_e0_6.other W7 (Or.inl (Ne.symm ne_gg_o3))
  have F_o3_e1_7 := F_o3_e1_6.other W7 (Or.inl (Ne.symm ne_gg_o3))
  have SZ7 : n0 ≤ h7.size := by rw [Wr.size W7]; exact SZ6
  have K7 : Keep h0 h7 [gg] := K6.wr W7 (Or.inl (List.mem_of_getElem? (i := 0) rfl))
  have N7 := Fr.snoc X7 N6 g_gg
  refine Gl.go (fun _ k => st7 _ k) ?_
  show Gl _ _ _ _ (T7.setTop (mkF m 31 #[.val (.ref gg), .val (.ref nm), .val (.ref a1), .val (.ref cv), .val (.ref sn)] []))
  refine leafV X7 hx hlk Bd.returns (hb hby d16_31) ?_ (by decide) (by decide)
  rw [e7]
  exact ⟨rfl, N7, K7, E_gg_7, o3, F_gg_cells_7, E_o3_7, F_o3_e0_7, F_o3_e1_7⟩
def Q_pgi_3 (Z : State) (gg nm cv sn mA mL mR : Addr) (a1 : Addr) (mc : Int32) (ar : Addr) (kA : ClassId) (mO : Addr) (y0 : Addr) (y1 : Addr) (y2 : Addr) (eM : Addr) (h0 : Heap) (n0 : Nat) (v : Option Value) (h : Heap) (L : List Loc) : Prop := v = none ∧ Fr n0 L ∧ Keep h0 h [gg] ∧ (Exa Z h gg "com/example/frosted_rows/frostedrows/release/PublishedGroup") ∧ ∃ o, (Fld Z h gg "com/example/frosted_rows/frostedrows/release/PublishedGroup" "cells" "Ljava/util/List;" (.ref o)) ∧ ∃ br kB, h0.size ≤ br ∧ (Exa Z h o "java/util/ImmutableCollections$ListN") ∧ (Fld Z h o "java/util/ImmutableCollections$ListN" "elements" "[Ljava/lang/Object;" (.ref br)) ∧ (Arv Z h br kB (.object "java/lang/Object") (3 : Int32) [(.ref y0), (.ref y1), (.ref y2)] .null)
set_option maxRecDepth 65536 in
set_option maxHeartbeats 40000000 in
theorem rm_pgi_3 (l : Launch) (Z : State) (a0 : Array Value) (hw : ∀ d ∈ tables_1, d.before a0 Z = true) (ws : List Jvm.Cond) (gg nm cv sn mA mL mR : Addr) (a1 : Addr) (mc : Int32) (ar : Addr) (kA : ClassId) (mO : Addr) (y0 : Addr) (y1 : Addr) (y2 : Addr) (eM : Addr) (h0 : Heap) (n0 : Nat) (Z0 : n0 ≤ h0.size) (E_gg : (Exa Z h0 gg "com/example/frosted_rows/frostedrows/release/PublishedGroup")) (P0 : (Fld Z h0 gg "com/example/frosted_rows/frostedrows/release/PublishedGroup" "number" "Ljava/lang/String;" .null)) (P1 : (Fld Z h0 gg "com/example/frosted_rows/frostedrows/release/PublishedGroup" "cells" "Ljava/util/List;" .null)) (P2 : (Fld Z h0 gg "com/example/frosted_rows/frostedrows/release/PublishedGroup" "covered" "[I" .null)) (P3 : (Fld Z h0 gg "com/example/frosted_rows/frostedrows/release/PublishedGroup" "sensitive" "Ljava/util/List;" .null)) (E_a1 : (Exa Z h0 a1 "java/util/ArrayList")) (M_a1 : (Fld Z h0 a1 "java/util/AbstractList" "modCount" "I" (.int mc))) (D_a1 : (Fld Z h0 a1 "java/util/ArrayList" "elementData" "[Ljava/lang/Object;" (.ref ar))) (S_a1 : (Fld Z h0 a1 "java/util/ArrayList" "size" "I" (.int (3 : Int32)))) (V1 : (Arv Z h0 ar kA (.object "java/lang/Object") (10 : Int32) [(.ref y0), (.ref y1), (.ref y2), .null, .null, .null, .null, .null, .null, .null] .null)) (X_y0 : (Exa Z h0 y0 "java/lang/String")) (X_y1 : (Exa Z h0 y1 "java/lang/String")) (X_y2 : (Exa Z h0 y2 "java/lang/String")) (E_ar : (Exa Z h0 ar "[Ljava/lang/Object;")) (MO : Mr Z "[Ljava/lang/Object;" mO) (SE : Sta Z Z.heap "java/util/ImmutableCollections" "EMPTY" "Ljava/lang/Object;" (.ref eM)) (O0 : Old Z n0 h0) (E_sn : (Exa Z h0 sn "java/util/ArrayList")) (MA : Mr Z "java/util/ArrayList" mA) (ML : Mr Z "java/util/Collections$UnmodifiableList" mL) (MR : Mr Z "java/util/Collections$UnmodifiableRandomAccessList" mR) (g_gg : n0 ≤ gg) (n_a1 : gg ≠ a1) (n_ar : gg ≠ ar) :
    MetFree l (⟨"com/example/frosted_rows/frostedrows/release/PublishedGroup", "<init>", "(Ljava/lang/String;Ljava/util/List;[ILjava/util/List;)V"⟩ : MethodName) (head1 (Jvm.Cond.code (⟨"com/example/frosted_rows/frostedrows/release/PublishedGroup", "<init>", "(Ljava/lang/String;Ljava/util/List;[ILjava/util/List;)V"⟩ : MethodName) prog_13_method_1_code 5 none :: ws) ({ frames := 9, cells := 4, slots := 10, locals := 116 } : Room)) (fun aa U => aa = #[(.ref gg), (.ref nm), (.ref a1), (.ref cv), (.ref sn)] ∧ Z.Warmed39 U.vm ∧ U.heap = h0) (fun _ _ _ _ _ => True) (fun _ U o U' => ∃ v L, o = .returned v ∧ Q_pgi_3 Z gg nm cv sn mA mL mR a1 mc ar kA mO y0 y1 y2 eM h0 n0 v U'.heap L ∧ FrameEnd U o U' L ({ frames := 9, cells := 4, slots := 10, locals := 116 } : Room).cells ({ frames := 9, cells := 4, slots := 10, locals := 116 } : Room).slots) := by
  refine MetFree.of_bodySF (plainFor_of_name pn_15) hisR ?_
  intro p e s m args below meth c s₁ Bd hml0 hP hK
  obtain ⟨rfl, hZ, hh⟩ := hP
  have hx := Bd.exec
  have hby := Bd.bytes
  have hml : c.maxLocals = 5 := hml0
  have hown : s.vm.findClass "com/example/frosted_rows/frostedrows/release/PublishedGroup" = some m.cls := findClass_of_methodNamed Bd.named
  have hnm := (name_of_methodNamed Bd.named Bd.method).1
  have hlk : meth.locks = false := BodyLoose.notSynchronized Bd
  have X0 : Stand p l e ({ frames := 9, cells := 4, slots := 10, locals := 116 } : Room) s m #[(.ref gg), (.ref nm), (.ref a1), (.ref cv), (.ref sn)] below meth c s₁ [] 0 0 := Stand.of_body Bd
  have e0 : s₁.heap = h0 := by rw [← hh, Bd.state]; rfl
  have N0 := Fr.nil n0
  have K0 : Keep h0 h0 [gg] := Keep.refl _ _
  show Gl p.tables e below (QQof s (Q_pgi_3 Z gg nm cv sn mA mL mR a1 mc ar kA mO y0 y1 y2 eM h0 n0) 4 10) (s₁.setTop (entryFrame m #[(.ref gg), (.ref nm), (.ref a1), (.ref cv), (.ref sn)] 5))
  refine Gl.go (fun t k => castTop (ef_pgi_3 m gg nm a1 cv sn) k) ?_
  show Gl _ _ _ _ (s₁.setTop (mkF m 0 #[.val (.ref gg), .val (.ref nm), .val (.ref a1), .val (.ref cv), .val (.ref sn)] []))
  refine Gl.go (fun _ k => XS.aloadN X0.here hx rfl (hb hby d16_0) rfl rfl  k) ?_
  obtain ⟨T1, X1, e1, st1⟩ := initO X0 hx hZ hown (hw _ (List.mem_of_getElem? (i := 99) rfl)) (hw _ (List.mem_of_getElem? (i := 16) rfl)) (hw _ (List.mem_of_getElem? (i := 17) rfl)) e0 (g := (mkF m 1 #[.val (.ref gg), .val (.ref nm), .val (.ref a1), .val (.ref cv), .val (.ref sn)] [(.ref gg)])) rfl (by rw [hml]; rfl) rfl (hb hby d16_1) (by decide) (W := 0) (by show 2 * 0 + _ ≤ _; exact Nat.le_of_eq rfl) (by decide)
  refine Gl.go (fun _ k => st1 _ k) ?_
  show Gl _ _ _ _ (T1.setTop (mkF m 4 #[.val (.ref gg), .val (.ref nm), .val (.ref a1), .val (.ref cv), .val (.ref sn)] []))
  refine Gl.go (fun _ k => XS.aloadN X1.here hx rfl (hb hby d16_4) rfl rfl  k) ?_
  refine Gl.go (fun _ k => XS.aloadN X1.here hx rfl (hb hby d16_5) rfl rfl  k) ?_
  obtain ⟨T2, h2, X2, e2, W2, st2⟩ := putF X1 hx hZ hown (host := "") (Or.inl (hw _ (List.mem_of_getElem? (i := 100) rfl))) Via.refl e1 P0 E_gg (Or.inr ⟨(hw _ (List.mem_of_getElem? (i := 101) rfl)), rfl, hnm⟩) (hw _ (List.mem_of_getElem? (i := 91) rfl)) (ty := (.object "java/lang/String")) (by decide) rfl rfl (g := (mkF m 6 #[.val (.ref gg), .val (.ref nm), .val (.ref a1), .val (.ref cv), .val (.ref sn)] [(.ref nm), (.ref gg)])) rfl rfl (hb hby d16_6)
  have E_gg_2 := E_gg.wr W2
  have F_gg_number_2 := P0.same W2
  have F_gg_cells_2 := P1.other W2 (Or.inr (slot_ne (t := (.object "java/util/List")) (t' := (.object "java/lang/String")) (Or.inr (hw _ (List.mem_of_getElem? (i := 188) rfl))) (Or.inr (hw _ (List.mem_of_getElem? (i := 101) rfl))) (by decide) (by decide) (by decide)))
  have F_gg_covered_2 := P2.other W2 (Or.inr (slot_ne (t := (.array .int)) (t' := (.object "java/lang/String")) (Or.inr (hw _ (List.mem_of_getElem? (i := 190) rfl))) (Or.inr (hw _ (List.mem_of_getElem? (i := 101) rfl))) (by decide) (by decide) (by decide)))
  have F_gg_sensitive_2 := P3.other W2 (Or.inr (slot_ne (t := (.object "java/util/List")) (t' := (.object "java/lang/String")) (Or.inr (hw _ (List.mem_of_getElem? (i := 232) rfl))) (Or.inr (hw _ (List.mem_of_getElem? (i := 101) rfl))) (by decide) (by decide) (by decide)))
  have E_a1_2 := E_a1.wr W2
  have F_a1_modCount_2 := M_a1.other W2 (Or.inl (Ne.symm n_a1))
  have F_a1_elementData_2 := D_a1.other W2 (Or.inl (Ne.symm n_a1))
  have F_a1_size_2 := S_a1.other W2 (Or.inl (Ne.symm n_a1))
  have V_ar_2 := V1.other W2 (Ne.symm n_ar)
  have E_ar_2 := E_ar.wr W2
  have E_y0_2 := X_y0.wr W2
  have E_y1_2 := X_y1.wr W2
  have E_y2_2 := X_y2.wr W2
  have E_sn_2 := E_sn.wr W2
  have O__2 := O0.wr W2 g_gg
  have SZ2 : n0 ≤ h2.size := by rw [Wr.size W2]; exact Z0
  have K2 : Keep h0 h2 [gg] := K0.wr W2 (Or.inl (List.mem_of_getElem? (i := 0) rfl))
  have N2 := Fr.snoc X2 N0 g_gg
  refine Gl.go (fun _ k => st2 _ k) ?_
  show Gl _ _ _ _ (T2.setTop (mkF m 9 #[.val (.ref gg), .val (.ref nm), .val (.ref a1), .val (.ref cv), .val (.ref sn)] []))
  refine Gl.go (fun _ k => XS.aloadN X2.here hx rfl (hb hby d16_9) rfl rfl  k) ?_
  refine Gl.go (fun _ k => XS.aloadN X2.here hx rfl (hb hby d16_10) rfl rfl  k) ?_
  obtain ⟨_, _, ⟨T3, L3, k3, n3⟩, -, X3, ⟨Lc3, hQ3, l3, y3, z3⟩, st3⟩ := Jvm.LawKit.callS X2 hx (y := (⟨"java/util/List", "copyOf", "(Ljava/util/Collection;)Ljava/util/List;"⟩ : MethodName)) hown (mvT hZ (hw _ (List.mem_of_getElem? (i := 102) rfl))) (mvT hZ (hw _ (List.mem_of_getElem? (i := 103) rfl))) (mvT hZ (hw _ (List.mem_of_getElem? (i := 104) rfl))) (mvT hZ (hw _ (List.mem_of_getElem? (i := 105) rfl))) (by decide) (backOf (W := 1) (rm_lco_3 l Z a0 hw [] a1 mc ar kA mO y0 y1 y2 eM h2 n0 SZ2 E_a1_2 F_a1_modCount_2 F_a1_elementData_2 F_a1_size_2 V_ar_2 E_y0_2 E_y1_2 E_y2_2 E_ar_2 MO SE O__2) hZ (hw _ (List.mem_of_getElem? (i := 105) rfl)) (hw _ (List.mem_of_getElem? (i := 104) rfl)) (by decide) (by decide)) (g := (mkF m 11 #[.val (.ref gg), .val (.ref nm), .val (.ref a1), .val (.ref cv), .val (.ref sn)] [(.ref a1), (.ref gg)])) rfl (by rw [hml]; rfl) (argsL := [(.ref a1)]) (rest := [(.ref gg)]) (lenOf pd_12 rfl) rfl (by show 2 * 0 + _ ≤ _; exact Nat.le_of_eq rfl) (hb hby d16_11) (fun _ _ => ⟨rfl, e2, (by decide : 0 + 3 ≤ _), (by decide : 0 + 8 ≤ _)⟩)
  dsimp only [Pt.U, Pt.locs, Pt.cells, Pt.slots] at X3 l3 y3 z3 st3 hQ3
  subst y3 z3
  obtain ⟨o3, rfl, Nq3, Kc3, gz3, br3, kb3, gb3, Eo3, F03, Vo3⟩ := hQ3
  have N3 : Fr n0 L3 := by rw [l3]; exact Fr.app N2 Nq3
  refine Gl.go (fun _ k => st3 _ k) ?_
  have Ex3 := ext_of_keep Kc3
  have E_gg_3 := E_gg_2.ext Ex3
  have F_gg_number_3 := F_gg_number_2.ext Ex3
  have F_gg_cells_3 := F_gg_cells_2.ext Ex3
  have F_gg_covered_3 := F_gg_covered_2.ext Ex3
  have F_gg_sensitive_3 := F_gg_sensitive_2.ext Ex3
  have E_a1_3 := E_a1_2.ext Ex3
  have F_a1_modCount_3 := F_a1_modCount_2.ext Ex3
  have F_a1_elementData_3 := F_a1_elementData_2.ext Ex3
  have F_a1_size_3 := F_a1_size_2.ext Ex3
  have V_ar_3 := V_ar_2.ext Ex3
  have E_ar_3 := E_ar_2.ext Ex3
  have E_y0_3 := E_y0_2.ext Ex3
  have E_y1_3 := E_y1_2.ext Ex3
  have E_y2_3 := E_y2_2.ext Ex3
  have E_sn_3 := E_sn_2.ext Ex3
  have O__3 := O__2.ext Ex3
  have SZ3 : n0 ≤ T3.heap.size := Nat.le_trans SZ2 Ex3.1
  have K3 : Keep h0 T3.heap [gg] := K2.ext Ex3
  show Gl _ _ _ _ (T3.setTop (mkF m 14 #[.val (.ref gg), .val (.ref nm), .val (.ref a1), .val (.ref cv), .val (.ref sn)] [(.ref o3), (.ref gg)]))
  have g_o3 : n0 ≤ o3 := Nat.le_trans SZ2 gz3
  have sz_o3 : h0.size ≤ o3 := Nat.le_trans K2.1 gz3
  have ne_a1_o3 : a1 ≠ o3 := Nat.ne_of_lt (Nat.lt_of_lt_of_le E_a1_2.lt gz3)
  have ne_ar_o3 : ar ≠ o3 := Nat.ne_of_lt (Nat.lt_of_lt_of_le V_ar_2.lt gz3)
  have ne_gg_o3 : gg ≠ o3 := Nat.ne_of_lt (Nat.lt_of_lt_of_le E_gg_2.lt gz3)
  have ne_sn_o3 : sn ≠ o3 := Nat.ne_of_lt (Nat.lt_of_lt_of_le E_sn_2.lt gz3)
  have ne_y0_o3 : y0 ≠ o3 := Nat.ne_of_lt (Nat.lt_of_lt_of_le E_y0_2.lt gz3)
  have ne_y1_o3 : y1 ≠ o3 := Nat.ne_of_lt (Nat.lt_of_lt_of_le E_y1_2.lt gz3)
  have ne_y2_o3 : y2 ≠ o3 := Nat.ne_of_lt (Nat.lt_of_lt_of_le E_y2_2.lt gz3)
  have g_br3 : n0 ≤ br3 := Nat.le_trans SZ2 gb3
  have sz_br3 : h0.size ≤ br3 := Nat.le_trans K2.1 gb3
  have ne_a1_br3 : a1 ≠ br3 := Nat.ne_of_lt (Nat.lt_of_lt_of_le E_a1_2.lt gb3)
  have ne_ar_br3 : ar ≠ br3 := Nat.ne_of_lt (Nat.lt_of_lt_of_le V_ar_2.lt gb3)
  have ne_gg_br3 : gg ≠ br3 := Nat.ne_of_lt (Nat.lt_of_lt_of_le E_gg_2.lt gb3)
  have ne_sn_br3 : sn ≠ br3 := Nat.ne_of_lt (Nat.lt_of_lt_of_le E_sn_2.lt gb3)
  have ne_y0_br3 : y0 ≠ br3 := Nat.ne_of_lt (Nat.lt_of_lt_of_le E_y0_2.lt gb3)
  have ne_y1_br3 : y1 ≠ br3 := Nat.ne_of_lt (Nat.lt_of_lt_of_le E_y1_2.lt gb3)
  have ne_y2_br3 : y2 ≠ br3 := Nat.ne_of_lt (Nat.lt_of_lt_of_le E_y2_2.lt gb3)
  obtain ⟨T4, h4, X4, e4, W4, st4⟩ := putF X3 hx hZ hown (host := "") (Or.inl (hw _ (List.mem_of_getElem? (i := 187) rfl))) Via.refl rfl F_gg_cells_3 E_gg_3 (Or.inr ⟨(hw _ (List.mem_of_getElem? (i := 188) rfl)), rfl, hnm⟩) (hw _ (List.mem_of_getElem? (i := 91) rfl)) (ty := (.object "java/util/List")) (by decide) rfl rfl (g := (mkF m 14 #[.val (.ref gg), .val (.ref nm), .val (.ref a1), .val (.ref cv), .val (.ref sn)] [(.ref o3), (.ref gg)])) rfl rfl (hb hby d16_14)
  have E_gg_4 := E_gg_3.wr W4
  have F_gg_number_4 := F_gg_number_3.other W4 (Or.inr (slot_ne (t := (.object "java/lang/String")) (t' := (.object "java/util/List")) (Or.inr (hw _ (List.mem_of_getElem? (i := 101) rfl))) (Or.inr (hw _ (List.mem_of_getElem? (i := 188) rfl))) (by decide) (by decide) (by decide)))
  have F_gg_cells_4 := F_gg_cells_3.same W4
  have F_gg_covered_4 := F_gg_covered_3.other W4 (Or.inr (slot_ne (t := (.array .int)) (t' := (.object "java/util/List")) (Or.inr (hw _ (List.mem_of_getElem? (i := 190) rfl))) (Or.inr (hw _ (List.mem_of_getElem? (i := 188) rfl))) (by decide) (by decide) (by decide)))
  have F_gg_sensitive_4 := F_gg_sensitive_3.other W4 (Or.inr (slot_ne (t := (.object "java/util/List")) (t' := (.object "java/util/List")) (Or.inr (hw _ (List.mem_of_getElem? (i := 232) rfl))) (Or.inr (hw _ (List.mem_of_getElem? (i := 188) rfl))) (by decide) (by decide) (by decide)))
  have E_a1_4 := E_a1_3.wr W4
  have F_a1_modCount_4 := F_a1_modCount_3.other W4 (Or.inl (Ne.symm n_a1))
  have F_a1_elementData_4 := F_a1_elementData_3.other W4 (Or.inl (Ne.symm n_a1))
  have F_a1_size_4 := F_a1_size_3.other W4 (Or.inl (Ne.symm n_a1))
  have V_ar_4 := V_ar_3.other W4 (Ne.symm n_ar)
  have E_ar_4 := E_ar_3.wr W4
  have E_y0_4 := E_y0_3.wr W4
  have E_y1_4 := E_y1_3.wr W4
  have E_y2_4 := E_y2_3.wr W4
  have E_sn_4 := E_sn_3.wr W4
  have O__4 := O__3.wr W4 g_gg
  have E_o3_4 := Eo3.wr W4
  have F_o3_elements_4 := F03.other W4 (Or.inl (Ne.symm ne_gg_o3))
  have V_br3_4 := Vo3.other W4 (Ne.symm ne_gg_br3)
  have SZ4 : n0 ≤ h4.size := by rw [Wr.size W4]; exact SZ3
  have K4 : Keep h0 h4 [gg] := K3.wr W4 (Or.inl (List.mem_of_getElem? (i := 0) rfl))
  have N4 := Fr.snoc X4 N3 g_gg
  refine Gl.go (fun _ k => st4 _ k) ?_
  show Gl _ _ _ _ (T4.setTop (mkF m 17 #[.val (.ref gg), .val (.ref nm), .val (.ref a1), .val (.ref cv), .val (.ref sn)] []))
  refine Gl.go (fun _ k => XS.aloadN X4.here hx rfl (hb hby d16_17) rfl rfl  k) ?_
  refine Gl.go (fun _ k => XS.aloadN X4.here hx rfl (hb hby d16_18) rfl rfl  k) ?_
  obtain ⟨T5, h5, X5, e5, W5, st5⟩ := putF X4 hx hZ hown (host := "") (Or.inl (hw _ (List.mem_of_getElem? (i := 189) rfl))) Via.refl e4 F_gg_covered_4 E_gg_4 (Or.inr ⟨(hw _ (List.mem_of_getElem? (i := 190) rfl)), rfl, hnm⟩) (hw _ (List.mem_of_getElem? (i := 91) rfl)) (ty := (.array .int)) (by decide) rfl rfl (g := (mkF m 19 #[.val (.ref gg), .val (.ref nm), .val (.ref a1), .val (.ref cv), .val (.ref sn)] [(.ref cv), (.ref gg)])) rfl rfl (hb hby d16_19)
  have E_gg_5 := E_gg_4.wr W5
  have F_gg_number_5 := F_gg_number_4.other W5 (Or.inr (slot_ne (t := (.object "java/lang/String")) (t' := (.array .int)) (Or.inr (hw _ (List.mem_of_getElem? (i := 101) rfl))) (Or.inr (hw _ (List.mem_of_getElem? (i := 190) rfl))) (by decide) (by decide) (by decide)))
  have F_gg_cells_5 := F_gg_cells_4.other W5 (Or.inr (slot_ne (t := (.object "java/util/List")) (t' := (.array .int)) (Or.inr (hw _ (List.mem_of_getElem? (i := 188) rfl))) (Or.inr (hw _ (List.mem_of_getElem? (i := 190) rfl))) (by decide) (by decide) (by decide)))
  have F_gg_covered_5 := F_gg_covered_4.same W5
  have F_gg_sensitive_5 := F_gg_sensitive_4.other W5 (Or.inr (slot_ne (t := (.object "java/util/List")) (t' := (.array .int)) (Or.inr (hw _ (List.mem_of_getElem? (i := 232) rfl))) (Or.inr (hw _ (List.mem_of_getElem? (i := 190) rfl))) (by decide) (by decide) (by decide)))
  have E_a1_5 := E_a1_4.wr W5
  have F_a1_modCount_5 := F_a1_modCount_4.other W5 (Or.inl (Ne.symm n_a1))
  have F_a1_elementData_5 := F_a1_elementData_4.other W5 (Or.inl (Ne.symm n_a1))
  have F_a1_size_5 := F_a1_size_4.other W5 (Or.inl (Ne.symm n_a1))
  have V_ar_5 := V_ar_4.other W5 (Ne.symm n_ar)
  have E_ar_5 := E_ar_4.wr W5
  have E_y0_5 := E_y0_4.wr W5
  have E_y1_5 := E_y1_4.wr W5
  have E_y2_5 := E_y2_4.wr W5
  have E_sn_5 := E_sn_4.wr W5
  have O__5 := O__4.wr W5 g_gg
  have E_o3_5 := E_o3_4.wr W5
  have F_o3_elements_5 := F_o3_elements_4.other W5 (Or.inl (Ne.symm ne_gg_o3))
  have V_br3_5 := V_br3_4.other W5 (Ne.symm ne_gg_br3)
  have SZ5 : n0 ≤ h5.size := by rw [Wr.size W5]; exact SZ4
  have K5 : Keep h0 h5 [gg] := K4.wr W5 (Or.inl (List.mem_of_getElem? (i := 0) rfl))
  have N5 := Fr.snoc X5 N4 g_gg
  refine Gl.go (fun _ k => st5 _ k) ?_
  show Gl _ _ _ _ (T5.setTop (mkF m 22 #[.val (.ref gg), .val (.ref nm), .val (.ref a1), .val (.ref cv), .val (.ref sn)] []))
  refine Gl.go (fun _ k => XS.aloadN X5.here hx rfl (hb hby d16_22) rfl rfl  k) ?_
  refine Gl.go (fun _ k => XS.aload X5.here hx rfl (hb hby d16_23) rfl rfl  k) ?_
  obtain ⟨_, _, ⟨T6, L6, k6, n6⟩, -, X6, ⟨Lc6, hQ6, l6, y6, z6⟩, st6⟩ := Jvm.LawKit.callS X5 hx (y := (⟨"java/util/Collections", "unmodifiableList", "(Ljava/util/List;)Ljava/util/List;"⟩ : MethodName)) hown (mvT hZ (hw _ (List.mem_of_getElem? (i := 191) rfl))) (mvT hZ (hw _ (List.mem_of_getElem? (i := 192) rfl))) (mvT hZ (hw _ (List.mem_of_getElem? (i := 193) rfl))) (mvT hZ (hw _ (List.mem_of_getElem? (i := 194) rfl))) (by decide) (backOf (W := 1) (rm_unm l Z a0 hw [] sn mA mL mR h5 n0 SZ5 E_sn_5 MA ML MR) hZ (hw _ (List.mem_of_getElem? (i := 194) rfl)) (hw _ (List.mem_of_getElem? (i := 193) rfl)) (by decide) (by decide)) (g := (mkF m 25 #[.val (.ref gg), .val (.ref nm), .val (.ref a1), .val (.ref cv), .val (.ref sn)] [(.ref sn), (.ref gg)])) rfl (by rw [hml]; rfl) (argsL := [(.ref sn)]) (rest := [(.ref gg)]) (lenOf pd_16 rfl) rfl (by show 2 * 0 + _ ≤ _; exact Nat.le_of_eq rfl) (hb hby d16_25) (fun _ _ => ⟨rfl, e5, (by decide : 3 + 1 ≤ _), (by decide : 8 + 2 ≤ _)⟩)
  dsimp only [Pt.U, Pt.locs, Pt.cells, Pt.slots] at X6 l6 y6 z6 st6 hQ6
  subst y6 z6
  obtain ⟨us6, rfl, Nq6, Kc6⟩ := hQ6
  have N6 : Fr n0 L6 := by rw [l6]; exact Fr.app N5 Nq6
  refine Gl.go (fun _ k => st6 _ k) ?_
  have Ex6 := ext_of_keep Kc6
  have E_gg_6 := E_gg_5.ext Ex6
  have F_gg_number_6 := F_gg_number_5.ext Ex6
  have F_gg_cells_6 := F_gg_cells_5.ext Ex6
  have F_gg_covered_6 := F_gg_covered_5.ext Ex6
  have F_gg_sensitive_6 := F_gg_sensitive_5.ext Ex6
  have E_a1_6 := E_a1_5.ext Ex6
  have F_a1_modCount_6 := F_a1_modCount_5.ext Ex6
  have F_a1_elementData_6 := F_a1_elementData_5.ext Ex6
  have F_a1_size_6 := F_a1_size_5.ext Ex6
  have V_ar_6 := V_ar_5.ext Ex6
  have E_ar_6 := E_ar_5.ext Ex6
  have E_y0_6 := E_y0_5.ext Ex6
  have E_y1_6 := E_y1_5.ext Ex6
  have E_y2_6 := E_y2_5.ext Ex6
  have E_sn_6 := E_sn_5.ext Ex6
  have O__6 := O__5.ext Ex6
  have E_o3_6 := E_o3_5.ext Ex6
  have F_o3_elements_6 := F_o3_elements_5.ext Ex6
  have V_br3_6 := V_br3_5.ext Ex6
  have SZ6 : n0 ≤ T6.heap.size := Nat.le_trans SZ5 Ex6.1
  have K6 : Keep h0 T6.heap [gg] := K5.ext Ex6
  show Gl _ _ _ _ (T6.setTop (mkF m 28 #[.val (.ref gg), .val (.ref nm), .val (.ref a1), .val (.ref cv), .val (.ref sn)] [(.ref us6), (.ref gg)]))
  obtain ⟨T7, h7, X7, e7, W7, st7⟩ := putF X6 hx hZ hown (host := "") (Or.inl (hw _ (List.mem_of_getElem? (i := 231) rfl))) Via.refl rfl F_gg_sensitive_6 E_gg_6 (Or.inr ⟨(hw _ (List.mem_of_getElem? (i := 232) rfl)), rfl, hnm⟩) (hw _ (List.mem_of_getElem? (i := 91) rfl)) (ty := (.object "java/util/List")) (by decide) rfl rfl (g := (mkF m 28 #[.val (.ref gg), .val (.ref nm), .val (.ref a1), .val (.ref cv), .val (.ref sn)] [(.ref us6), (.ref gg)])) rfl rfl (hb hby d16_28)
  have E_gg_7 := E_gg_6.wr W7
  have F_gg_number_7 := F_gg_number_6.other W7 (Or.inr (slot_ne (t := (.object "java/lang/String")) (t' := (.object "java/util/List")) (Or.inr (hw _ (List.mem_of_getElem? (i := 101) rfl))) (Or.inr (hw _ (List.mem_of_getElem? (i := 232) rfl))) (by decide) (by decide) (by decide)))
  have F_gg_cells_7 := F_gg_cells_6.other W7 (Or.inr (slot_ne (t := (.object "java/util/List")) (t' := (.object "java/util/List")) (Or.inr (hw _ (List.mem_of_getElem? (i := 188) rfl))) (Or.inr (hw _ (List.mem_of_getElem? (i := 232) rfl))) (by decide) (by decide) (by decide)))
  have F_gg_covered_7 := F_gg_covered_6.other W7 (Or.inr (slot_ne (t := (.array .int)) (t' := (.object "java/util/List")) (Or.inr (hw _ (List.mem_of_getElem? (i := 190) rfl))) (Or.inr (hw _ (List.mem_of_getElem? (i := 232) rfl))) (by decide) (by decide) (by decide)))
  have F_gg_sensitive_7 := F_gg_sensitive_6.same W7
  have E_a1_7 := E_a1_6.wr W7
  have F_a1_modCount_7 := F_a1_modCount_6.other W7 (Or.inl (Ne.symm n_a1))
  have F_a1_elementData_7 := F_a1_elementData_6.other W7 (Or.inl (Ne.symm n_a1))
  have F_a1_size_7 := F_a1_size_6.other W7 (Or.inl (Ne.symm n_a1))
  have V_ar_7 := V_ar_6.other W7 (Ne.symm n_ar)
  have E_ar_7 := E_ar_6.wr W7
  have E_y0_7 := E_y0_6.wr W7
  have E_y1_7 := E_y1_6.wr W7
  have E_y2_7 := E_y2_6.wr W7
  have E_sn_7 := E_sn_6.wr W7
  have O__7 := O__6.wr W7 g_gg
  have E_o3_7 := E_o3_6.wr W7
  have F_o3_elements_7 := F_o3_elements_6.other W7 (Or.inl (Ne.symm ne_gg_o3))
  have V_br3_7 := V_br3_6.other W7 (Ne.symm ne_gg_br3)
  have SZ7 : n0 ≤ h7.size := by rw [Wr.size W7]; exact SZ6
  have K7 : Keep h0 h7 [gg] := K6.wr W7 (Or.inl (List.mem_of_getElem? (i := 0) rfl))
  have N7 := Fr.snoc X7 N6 g_gg
  refine Gl.go (fun _ k => st7 _ k) ?_
  show Gl _ _ _ _ (T7.setTop (mkF m 31 #[.val (.ref gg), .val (.ref nm), .val (.ref a1), .val (.ref cv), .val (.ref sn)] []))
  refine leafV X7 hx hlk Bd.returns (hb hby d16_31) ?_ (by decide) (by decide)
  rw [e7]
  exact ⟨rfl, N7, K7, E_gg_7, o3, F_gg_cells_7, br3, kb3, sz_br3, E_o3_7, F_o3_elements_7, V_br3_7⟩
def Q_get_1_0 (Z : State) (o1 : Addr) (eM : Addr) (y0 : Addr) (h0 : Heap) (n0 : Nat) (v : Option Value) (h : Heap) (L : List Loc) : Prop := v = some (.ref y0) ∧ Fr n0 L ∧ h = h0
set_option maxRecDepth 65536 in
set_option maxHeartbeats 40000000 in
theorem rm_get_1_0 (l : Launch) (Z : State) (a0 : Array Value) (hw : ∀ d ∈ tables_1, d.before a0 Z = true) (ws : List Jvm.Cond) (o1 : Addr) (eM : Addr) (y0 : Addr) (h0 : Heap) (n0 : Nat) (Z0 : n0 ≤ h0.size) (F0 : (Fld Z h0 o1 "java/util/ImmutableCollections$List12" "e0" "Ljava/lang/Object;" (.ref y0))) (F1 : (Fld Z h0 o1 "java/util/ImmutableCollections$List12" "e1" "Ljava/lang/Object;" (.ref eM))) :
    MetFree l (⟨"java/util/ImmutableCollections$List12", "get", "(I)Ljava/lang/Object;"⟩ : MethodName) (head1 (Jvm.Cond.code (⟨"java/util/ImmutableCollections$List12", "get", "(I)Ljava/lang/Object;"⟩ : MethodName) jdk_44_method_5_code 2 (some (.object "java/lang/Object")) :: ws) ({ frames := 0, cells := 0, slots := 0, locals := 0 } : Room)) (fun aa U => aa = #[(.ref o1), (.int (0 : Int32))] ∧ Z.Warmed39 U.vm ∧ U.heap = h0) (fun _ _ _ _ _ => True) (fun _ U o U' => ∃ v L, o = .returned v ∧ Q_get_1_0 Z o1 eM y0 h0 n0 v U'.heap L ∧ FrameEnd U o U' L ({ frames := 0, cells := 0, slots := 0, locals := 0 } : Room).cells ({ frames := 0, cells := 0, slots := 0, locals := 0 } : Room).slots) := by
  refine MetFree.of_bodySF (plainFor_of_name pn_6) hisR ?_
  intro p e s m args below meth c s₁ Bd hml0 hP hK
  obtain ⟨rfl, hZ, hh⟩ := hP
  have hx := Bd.exec
  have hby := Bd.bytes
  have hml : c.maxLocals = 2 := hml0
  have hown : s.vm.findClass "java/util/ImmutableCollections$List12" = some m.cls := findClass_of_methodNamed Bd.named
  have hnm := (name_of_methodNamed Bd.named Bd.method).1
  have hlk : meth.locks = false := BodyLoose.notSynchronized Bd
  have X0 : Stand p l e ({ frames := 0, cells := 0, slots := 0, locals := 0 } : Room) s m #[(.ref o1), (.int (0 : Int32))] below meth c s₁ [] 0 0 := Stand.of_body Bd
  have e0 : s₁.heap = h0 := by rw [← hh, Bd.state]; rfl
  have N0 := Fr.nil n0
  have K0 : Keep h0 h0 [] := Keep.refl _ _
  show Gl p.tables e below (QQof s (Q_get_1_0 Z o1 eM y0 h0 n0) 0 0) (s₁.setTop (entryFrame m #[(.ref o1), (.int (0 : Int32))] 2))
  refine Gl.go (fun t k => castTop (ef_get_1_0 m o1 (0 : Int32)) k) ?_
  show Gl _ _ _ _ (s₁.setTop (mkF m 0 #[.val (.ref o1), .val (.int (0 : Int32))] []))
  refine Gl.go (fun _ k => XS.iloadN X0.here hx rfl (hb hby d34_0) rfl  k) ?_
  refine Gl.go (fun _ k => XS.ifNo X0.here hx rfl (hb hby d34_1) rfl ((if0 _ _).trans (teq rfl).2) k) ?_
  show Gl _ _ _ _ (s₁.setTop (mkF m 4 #[.val (.ref o1), .val (.int (0 : Int32))] []))
  refine Gl.go (fun _ k => XS.aloadN X0.here hx rfl (hb hby d34_4) rfl rfl  k) ?_
  obtain ⟨T1, X1, e1, st1⟩ := getF X0 hx hZ hown (host := "") (Or.inl (hw _ (List.mem_of_getElem? (i := 183) rfl))) Via.refl e0 F0 (g := (mkF m 5 #[.val (.ref o1), .val (.int (0 : Int32))] [(.ref o1)])) rfl rfl (hb hby d34_5)
  refine Gl.go (fun _ k => st1 _ k) ?_
  show Gl _ _ _ _ (T1.setTop (mkF m 8 #[.val (.ref o1), .val (.int (0 : Int32))] [(.ref y0)]))
  refine leafA X1 hx hlk Bd.returns rfl rfl (hb hby d34_8) ?_ (by decide) (by decide)
  exact ⟨rfl, N0, e1⟩
def Q_get_2_0 (Z : State) (o1 : Addr) (eM : Addr) (y0 : Addr) (y1 : Addr) (h0 : Heap) (n0 : Nat) (v : Option Value) (h : Heap) (L : List Loc) : Prop := v = some (.ref y0) ∧ Fr n0 L ∧ h = h0
set_option maxRecDepth 65536 in
set_option maxHeartbeats 40000000 in
theorem rm_get_2_0 (l : Launch) (Z : State) (a0 : Array Value) (hw : ∀ d ∈ tables_1, d.before a0 Z = true) (ws : List Jvm.Cond) (o1 : Addr) (eM : Addr) (y0 : Addr) (y1 : Addr) (h0 : Heap) (n0 : Nat) (Z0 : n0 ≤ h0.size) (F0 : (Fld Z h0 o1 "java/util/ImmutableCollections$List12" "e0" "Ljava/lang/Object;" (.ref y0))) (F1 : (Fld Z h0 o1 "java/util/ImmutableCollections$List12" "e1" "Ljava/lang/Object;" (.ref y1))) :
    MetFree l (⟨"java/util/ImmutableCollections$List12", "get", "(I)Ljava/lang/Object;"⟩ : MethodName) (head1 (Jvm.Cond.code (⟨"java/util/ImmutableCollections$List12", "get", "(I)Ljava/lang/Object;"⟩ : MethodName) jdk_44_method_5_code 2 (some (.object "java/lang/Object")) :: ws) ({ frames := 0, cells := 0, slots := 0, locals := 0 } : Room)) (fun aa U => aa = #[(.ref o1), (.int (0 : Int32))] ∧ Z.Warmed39 U.vm ∧ U.heap = h0) (fun _ _ _ _ _ => True) (fun _ U o U' => ∃ v L, o = .returned v ∧ Q_get_2_0 Z o1 eM y0 y1 h0 n0 v U'.heap L ∧ FrameEnd U o U' L ({ frames := 0, cells := 0, slots := 0, locals := 0 } : Room).cells ({ frames := 0, cells := 0, slots := 0, locals := 0 } : Room).slots) := by
  refine MetFree.of_bodySF (plainFor_of_name pn_6) hisR ?_
  intro p e s m args below meth c s₁ Bd hml0 hP hK
  obtain ⟨rfl, hZ, hh⟩ := hP
  have hx := Bd.exec
  have hby := Bd.bytes
  have hml : c.maxLocals = 2 := hml0
  have hown : s.vm.findClass "java/util/ImmutableCollections$List12" = some m.cls := findClass_of_methodNamed Bd.named
  have hnm := (name_of_methodNamed Bd.named Bd.method).1
  have hlk : meth.locks = false := BodyLoose.notSynchronized Bd
  have X0 : Stand p l e ({ frames := 0, cells := 0, slots := 0, locals := 0 } : Room) s m #[(.ref o1), (.int (0 : Int32))] below meth c s₁ [] 0 0 := Stand.of_body Bd
  have e0 : s₁.heap = h0 := by rw [← hh, Bd.state]; rfl
  have N0 := Fr.nil n0
  have K0 : Keep h0 h0 [] := Keep.refl _ _
  show Gl p.tables e below (QQof s (Q_get_2_0 Z o1 eM y0 y1 h0 n0) 0 0) (s₁.setTop (entryFrame m #[(.ref o1), (.int (0 : Int32))] 2))
  refine Gl.go (fun t k => castTop (ef_get_2_0 m o1 (0 : Int32)) k) ?_
  show Gl _ _ _ _ (s₁.setTop (mkF m 0 #[.val (.ref o1), .val (.int (0 : Int32))] []))
  refine Gl.go (fun _ k => XS.iloadN X0.here hx rfl (hb hby d34_0) rfl  k) ?_
  refine Gl.go (fun _ k => XS.ifNo X0.here hx rfl (hb hby d34_1) rfl ((if0 _ _).trans (teq rfl).2) k) ?_
  show Gl _ _ _ _ (s₁.setTop (mkF m 4 #[.val (.ref o1), .val (.int (0 : Int32))] []))
  refine Gl.go (fun _ k => XS.aloadN X0.here hx rfl (hb hby d34_4) rfl rfl  k) ?_
  obtain ⟨T1, X1, e1, st1⟩ := getF X0 hx hZ hown (host := "") (Or.inl (hw _ (List.mem_of_getElem? (i := 183) rfl))) Via.refl e0 F0 (g := (mkF m 5 #[.val (.ref o1), .val (.int (0 : Int32))] [(.ref o1)])) rfl rfl (hb hby d34_5)
  refine Gl.go (fun _ k => st1 _ k) ?_
  show Gl _ _ _ _ (T1.setTop (mkF m 8 #[.val (.ref o1), .val (.int (0 : Int32))] [(.ref y0)]))
  refine leafA X1 hx hlk Bd.returns rfl rfl (hb hby d34_8) ?_ (by decide) (by decide)
  exact ⟨rfl, N0, e1⟩
def Q_get_2_1 (Z : State) (o1 : Addr) (eM : Addr) (y0 : Addr) (y1 : Addr) (h0 : Heap) (n0 : Nat) (v : Option Value) (h : Heap) (L : List Loc) : Prop := v = some (.ref y1) ∧ Fr n0 L ∧ h = h0
set_option maxRecDepth 65536 in
set_option maxHeartbeats 40000000 in
theorem rm_get_2_1 (l : Launch) (Z : State) (a0 : Array Value) (hw : ∀ d ∈ tables_1, d.before a0 Z = true) (ws : List Jvm.Cond) (o1 : Addr) (eM : Addr) (y0 : Addr) (y1 : Addr) (h0 : Heap) (n0 : Nat) (Z0 : n0 ≤ h0.size) (F0 : (Fld Z h0 o1 "java/util/ImmutableCollections$List12" "e0" "Ljava/lang/Object;" (.ref y0))) (F1 : (Fld Z h0 o1 "java/util/ImmutableCollections$List12" "e1" "Ljava/lang/Object;" (.ref y1))) (hne : y1 ≠ eM) (SE : Sta Z Z.heap "java/util/ImmutableCollections" "EMPTY" "Ljava/lang/Object;" (.ref eM)) (O0 : Old Z n0 h0) :
    MetFree l (⟨"java/util/ImmutableCollections$List12", "get", "(I)Ljava/lang/Object;"⟩ : MethodName) (head1 (Jvm.Cond.code (⟨"java/util/ImmutableCollections$List12", "get", "(I)Ljava/lang/Object;"⟩ : MethodName) jdk_44_method_5_code 2 (some (.object "java/lang/Object")) :: ws) ({ frames := 0, cells := 0, slots := 0, locals := 0 } : Room)) (fun aa U => aa = #[(.ref o1), (.int (1 : Int32))] ∧ Z.Warmed39 U.vm ∧ U.heap = h0) (fun _ _ _ _ _ => True) (fun _ U o U' => ∃ v L, o = .returned v ∧ Q_get_2_1 Z o1 eM y0 y1 h0 n0 v U'.heap L ∧ FrameEnd U o U' L ({ frames := 0, cells := 0, slots := 0, locals := 0 } : Room).cells ({ frames := 0, cells := 0, slots := 0, locals := 0 } : Room).slots) := by
  refine MetFree.of_bodySF (plainFor_of_name pn_6) hisR ?_
  intro p e s m args below meth c s₁ Bd hml0 hP hK
  obtain ⟨rfl, hZ, hh⟩ := hP
  have hx := Bd.exec
  have hby := Bd.bytes
  have hml : c.maxLocals = 2 := hml0
  have hown : s.vm.findClass "java/util/ImmutableCollections$List12" = some m.cls := findClass_of_methodNamed Bd.named
  have hnm := (name_of_methodNamed Bd.named Bd.method).1
  have hlk : meth.locks = false := BodyLoose.notSynchronized Bd
  have X0 : Stand p l e ({ frames := 0, cells := 0, slots := 0, locals := 0 } : Room) s m #[(.ref o1), (.int (1 : Int32))] below meth c s₁ [] 0 0 := Stand.of_body Bd
  have e0 : s₁.heap = h0 := by rw [← hh, Bd.state]; rfl
  have N0 := Fr.nil n0
  have K0 : Keep h0 h0 [] := Keep.refl _ _
  show Gl p.tables e below (QQof s (Q_get_2_1 Z o1 eM y0 y1 h0 n0) 0 0) (s₁.setTop (entryFrame m #[(.ref o1), (.int (1 : Int32))] 2))
  refine Gl.go (fun t k => castTop (ef_get_2_1 m o1 (1 : Int32)) k) ?_
  show Gl _ _ _ _ (s₁.setTop (mkF m 0 #[.val (.ref o1), .val (.int (1 : Int32))] []))
  refine Gl.go (fun _ k => XS.iloadN X0.here hx rfl (hb hby d34_0) rfl  k) ?_
  refine Gl.go (fun _ k => XS.ifYes X0.here hx rfl (pc0 := 1) (pc' := 9) rfl (hb hby d34_1) rfl ((if0 _ _).trans (feq (by decide)).2) (by decide) (by decide) k) ?_
  show Gl _ _ _ _ (s₁.setTop (mkF m 9 #[.val (.ref o1), .val (.int (1 : Int32))] []))
  refine Gl.go (fun _ k => XS.iloadN X0.here hx rfl (hb hby d34_9) rfl  k) ?_
  refine Gl.go (fun _ k => XS.iconst X0.here hx rfl (hb hby d34_10) k) ?_
  refine Gl.go (fun _ k => XS.icmpNo X0.here hx rfl (hb hby d34_11) rfl (teq rfl).2 k) ?_
  show Gl _ _ _ _ (s₁.setTop (mkF m 14 #[.val (.ref o1), .val (.int (1 : Int32))] []))
  refine Gl.go (fun _ k => XS.aloadN X0.here hx rfl (hb hby d34_14) rfl rfl  k) ?_
  obtain ⟨T1, X1, e1, st1⟩ := getF X0 hx hZ hown (host := "") (Or.inl (hw _ (List.mem_of_getElem? (i := 185) rfl))) Via.refl e0 F1 (g := (mkF m 15 #[.val (.ref o1), .val (.int (1 : Int32))] [(.ref o1)])) rfl rfl (hb hby d34_15)
  refine Gl.go (fun _ k => st1 _ k) ?_
  show Gl _ _ _ _ (T1.setTop (mkF m 18 #[.val (.ref o1), .val (.int (1 : Int32))] [(.ref y1)]))
  obtain ⟨T2, X2, e2, st2⟩ := getS2 X1 hx hZ hown (Or.inr (hw _ (List.mem_of_getElem? (i := 254) rfl))) Via.refl e1 (SE.ext O0.2) (g := (mkF m 18 #[.val (.ref o1), .val (.int (1 : Int32))] [(.ref y1)])) rfl (hb hby d34_18)
  refine Gl.go (fun _ k => st2 _ k) ?_
  show Gl _ _ _ _ (T2.setTop (mkF m 21 #[.val (.ref o1), .val (.int (1 : Int32))] [(.ref eM), (.ref y1)]))
  refine Gl.go (fun _ k => Jvm.RoadKit.acmp (g := (mkF m 21 #[.val (.ref o1), .val (.int (1 : Int32))] [(.ref eM), (.ref y1)])) X2 hx rfl rfl rfl (pc0 := 21) (pc' := 24) (same := false) rfl (hb hby d34_21) rfl (decide_eq_false fun q => hne (Value.ref.inj q)) (by decide) (by decide) k) ?_
  show Gl _ _ _ _ (T2.setTop (mkF m 24 #[.val (.ref o1), .val (.int (1 : Int32))] []))
  refine Gl.go (fun _ k => XS.aloadN X2.here hx rfl (hb hby d34_24) rfl rfl  k) ?_
  obtain ⟨T3, X3, e3, st3⟩ := getF X2 hx hZ hown (host := "") (Or.inl (hw _ (List.mem_of_getElem? (i := 185) rfl))) Via.refl e2 F1 (g := (mkF m 25 #[.val (.ref o1), .val (.int (1 : Int32))] [(.ref o1)])) rfl rfl (hb hby d34_25)
  refine Gl.go (fun _ k => st3 _ k) ?_
  show Gl _ _ _ _ (T3.setTop (mkF m 28 #[.val (.ref o1), .val (.int (1 : Int32))] [(.ref y1)]))
  refine leafA X3 hx hlk Bd.returns rfl rfl (hb hby d34_28) ?_ (by decide) (by decide)
  exact ⟨rfl, N0, e3⟩
def Q_get_3_0 (Z : State) (o1 : Addr) (br : Addr) (kB : ClassId) (y0 : Addr) (y1 : Addr) (y2 : Addr) (h0 : Heap) (n0 : Nat) (v : Option Value) (h : Heap) (L : List Loc) : Prop := v = some (.ref y0) ∧ Fr n0 L ∧ h = h0
set_option maxRecDepth 65536 in
set_option maxHeartbeats 40000000 in
theorem rm_get_3_0 (l : Launch) (Z : State) (a0 : Array Value) (hw : ∀ d ∈ tables_1, d.before a0 Z = true) (ws : List Jvm.Cond) (o1 : Addr) (br : Addr) (kB : ClassId) (y0 : Addr) (y1 : Addr) (y2 : Addr) (h0 : Heap) (n0 : Nat) (Z0 : n0 ≤ h0.size) (F0 : (Fld Z h0 o1 "java/util/ImmutableCollections$ListN" "elements" "[Ljava/lang/Object;" (.ref br))) (V1 : (Arv Z h0 br kB (.object "java/lang/Object") (3 : Int32) [(.ref y0), (.ref y1), (.ref y2)] .null)) :
    MetFree l (⟨"java/util/ImmutableCollections$ListN", "get", "(I)Ljava/lang/Object;"⟩ : MethodName) (head1 (Jvm.Cond.code (⟨"java/util/ImmutableCollections$ListN", "get", "(I)Ljava/lang/Object;"⟩ : MethodName) jdk_45_method_4_code 2 (some (.object "java/lang/Object")) :: ws) ({ frames := 0, cells := 0, slots := 0, locals := 0 } : Room)) (fun aa U => aa = #[(.ref o1), (.int (0 : Int32))] ∧ Z.Warmed39 U.vm ∧ U.heap = h0) (fun _ _ _ _ _ => True) (fun _ U o U' => ∃ v L, o = .returned v ∧ Q_get_3_0 Z o1 br kB y0 y1 y2 h0 n0 v U'.heap L ∧ FrameEnd U o U' L ({ frames := 0, cells := 0, slots := 0, locals := 0 } : Room).cells ({ frames := 0, cells := 0, slots := 0, locals := 0 } : Room).slots) := by
  refine MetFree.of_bodySF (plainFor_of_name pn_7) hisR ?_
  intro p e s m args below meth c s₁ Bd hml0 hP hK
  obtain ⟨rfl, hZ, hh⟩ := hP
  have hx := Bd.exec
  have hby := Bd.bytes
  have hml : c.maxLocals = 2 := hml0
  have hown : s.vm.findClass "java/util/ImmutableCollections$ListN" = some m.cls := findClass_of_methodNamed Bd.named
  have hnm := (name_of_methodNamed Bd.named Bd.method).1
  have hlk : meth.locks = false := BodyLoose.notSynchronized Bd
  have X0 : Stand p l e ({ frames := 0, cells := 0, slots := 0, locals := 0 } : Room) s m #[(.ref o1), (.int (0 : Int32))] below meth c s₁ [] 0 0 := Stand.of_body Bd
  have e0 : s₁.heap = h0 := by rw [← hh, Bd.state]; rfl
  have N0 := Fr.nil n0
  have K0 : Keep h0 h0 [] := Keep.refl _ _
  show Gl p.tables e below (QQof s (Q_get_3_0 Z o1 br kB y0 y1 y2 h0 n0) 0 0) (s₁.setTop (entryFrame m #[(.ref o1), (.int (0 : Int32))] 2))
  refine Gl.go (fun t k => castTop (ef_get_3_0 m o1 (0 : Int32)) k) ?_
  show Gl _ _ _ _ (s₁.setTop (mkF m 0 #[.val (.ref o1), .val (.int (0 : Int32))] []))
  refine Gl.go (fun _ k => XS.aloadN X0.here hx rfl (hb hby d39_0) rfl rfl  k) ?_
  obtain ⟨T1, X1, e1, st1⟩ := getF X0 hx hZ hown (host := "") (Or.inl (hw _ (List.mem_of_getElem? (i := 273) rfl))) Via.refl e0 F0 (g := (mkF m 1 #[.val (.ref o1), .val (.int (0 : Int32))] [(.ref o1)])) rfl rfl (hb hby d39_1)
  refine Gl.go (fun _ k => st1 _ k) ?_
  show Gl _ _ _ _ (T1.setTop (mkF m 4 #[.val (.ref o1), .val (.int (0 : Int32))] [(.ref br)]))
  refine Gl.go (fun _ k => XS.iloadN X1.here hx rfl (hb hby d39_4) rfl  k) ?_
  obtain ⟨cl2, Ar2, qA2, SA2, NA2, HA2, GA2⟩ := id V1
  have hin2 := inb_of (j := (0 : Int32)) SA2 ⟨by decide, by decide⟩
  have hat2 : cl2.slots[((0 : Int32)).toNatClampNeg]? = some (.ref y0) := HA2.at hin2 rfl
  refine Gl.go (fun _ k => X1.aaload hx (j := (0 : Int32)) (v := (.ref y0)) (by rw [e1]; exact Ar2.1) (State.isArrayOf_alike hZ.alike Ar2.2.1) rfl Ar2.2.2 hin2 hat2 (g := (mkF m 5 #[.val (.ref o1), .val (.int (0 : Int32))] [(.int (0 : Int32)), (.ref br)])) rfl rfl (hb hby d39_5) _ k) ?_
  show Gl _ _ _ _ (T1.setTop (mkF m 6 #[.val (.ref o1), .val (.int (0 : Int32))] [(.ref y0)]))
  refine leafA X1 hx hlk Bd.returns rfl rfl (hb hby d39_6) ?_ (by decide) (by decide)
  exact ⟨rfl, N0, e1⟩
def Q_get_3_1 (Z : State) (o1 : Addr) (br : Addr) (kB : ClassId) (y0 : Addr) (y1 : Addr) (y2 : Addr) (h0 : Heap) (n0 : Nat) (v : Option Value) (h : Heap) (L : List Loc) : Prop := v = some (.ref y1) ∧ Fr n0 L ∧ h = h0
set_option maxRecDepth 65536 in
set_option maxHeartbeats 40000000 in
theorem rm_get_3_1 (l : Launch) (Z : State) (a0 : Array Value) (hw : ∀ d ∈ tables_1, d.before a0 Z = true) (ws : List Jvm.Cond) (o1 : Addr) (br : Addr) (kB : ClassId) (y0 : Addr) (y1 : Addr) (y2 : Addr) (h0 : Heap) (n0 : Nat) (Z0 : n0 ≤ h0.size) (F0 : (Fld Z h0 o1 "java/util/ImmutableCollections$ListN" "elements" "[Ljava/lang/Object;" (.ref br))) (V1 : (Arv Z h0 br kB (.object "java/lang/Object") (3 : Int32) [(.ref y0), (.ref y1), (.ref y2)] .null)) :
    MetFree l (⟨"java/util/ImmutableCollections$ListN", "get", "(I)Ljava/lang/Object;"⟩ : MethodName) (head1 (Jvm.Cond.code (⟨"java/util/ImmutableCollections$ListN", "get", "(I)Ljava/lang/Object;"⟩ : MethodName) jdk_45_method_4_code 2 (some (.object "java/lang/Object")) :: ws) ({ frames := 0, cells := 0, slots := 0, locals := 0 } : Room)) (fun aa U => aa = #[(.ref o1), (.int (1 : Int32))] ∧ Z.Warmed39 U.vm ∧ U.heap = h0) (fun _ _ _ _ _ => True) (fun _ U o U' => ∃ v L, o = .returned v ∧ Q_get_3_1 Z o1 br kB y0 y1 y2 h0 n0 v U'.heap L ∧ FrameEnd U o U' L ({ frames := 0, cells := 0, slots := 0, locals := 0 } : Room).cells ({ frames := 0, cells := 0, slots := 0, locals := 0 } : Room).slots) := by
  refine MetFree.of_bodySF (plainFor_of_name pn_7) hisR ?_
  intro p e s m args below meth c s₁ Bd hml0 hP hK
  obtain ⟨rfl, hZ, hh⟩ := hP
  have hx := Bd.exec
  have hby := Bd.bytes
  have hml : c.maxLocals = 2 := hml0
  have hown : s.vm.findClass "java/util/ImmutableCollections$ListN" = some m.cls := findClass_of_methodNamed Bd.named
  have hnm := (name_of_methodNamed Bd.named Bd.method).1
  have hlk : meth.locks = false := BodyLoose.notSynchronized Bd
  have X0 : Stand p l e ({ frames := 0, cells := 0, slots := 0, locals := 0 } : Room) s m #[(.ref o1), (.int (1 : Int32))] below meth c s₁ [] 0 0 := Stand.of_body Bd
  have e0 : s₁.heap = h0 := by rw [← hh, Bd.state]; rfl
  have N0 := Fr.nil n0
  have K0 : Keep h0 h0 [] := Keep.refl _ _
  show Gl p.tables e below (QQof s (Q_get_3_1 Z o1 br kB y0 y1 y2 h0 n0) 0 0) (s₁.setTop (entryFrame m #[(.ref o1), (.int (1 : Int32))] 2))
  refine Gl.go (fun t k => castTop (ef_get_3_1 m o1 (1 : Int32)) k) ?_
  show Gl _ _ _ _ (s₁.setTop (mkF m 0 #[.val (.ref o1), .val (.int (1 : Int32))] []))
  refine Gl.go (fun _ k => XS.aloadN X0.here hx rfl (hb hby d39_0) rfl rfl  k) ?_
  obtain ⟨T1, X1, e1, st1⟩ := getF X0 hx hZ hown (host := "") (Or.inl (hw _ (List.mem_of_getElem? (i := 273) rfl))) Via.refl e0 F0 (g := (mkF m 1 #[.val (.ref o1), .val (.int (1 : Int32))] [(.ref o1)])) rfl rfl (hb hby d39_1)
  refine Gl.go (fun _ k => st1 _ k) ?_
  show Gl _ _ _ _ (T1.setTop (mkF m 4 #[.val (.ref o1), .val (.int (1 : Int32))] [(.ref br)]))
  refine Gl.go (fun _ k => XS.iloadN X1.here hx rfl (hb hby d39_4) rfl  k) ?_
  obtain ⟨cl2, Ar2, qA2, SA2, NA2, HA2, GA2⟩ := id V1
  have hin2 := inb_of (j := (1 : Int32)) SA2 ⟨by decide, by decide⟩
  have hat2 : cl2.slots[((1 : Int32)).toNatClampNeg]? = some (.ref y1) := HA2.at hin2 rfl
  refine Gl.go (fun _ k => X1.aaload hx (j := (1 : Int32)) (v := (.ref y1)) (by rw [e1]; exact Ar2.1) (State.isArrayOf_alike hZ.alike Ar2.2.1) rfl Ar2.2.2 hin2 hat2 (g := (mkF m 5 #[.val (.ref o1), .val (.int (1 : Int32))] [(.int (1 : Int32)), (.ref br)])) rfl rfl (hb hby d39_5) _ k) ?_
  show Gl _ _ _ _ (T1.setTop (mkF m 6 #[.val (.ref o1), .val (.int (1 : Int32))] [(.ref y1)]))
  refine leafA X1 hx hlk Bd.returns rfl rfl (hb hby d39_6) ?_ (by decide) (by decide)
  exact ⟨rfl, N0, e1⟩
def Q_get_3_2 (Z : State) (o1 : Addr) (br : Addr) (kB : ClassId) (y0 : Addr) (y1 : Addr) (y2 : Addr) (h0 : Heap) (n0 : Nat) (v : Option Value) (h : Heap) (L : List Loc) : Prop := v = some (.ref y2) ∧ Fr n0 L ∧ h = h0
set_option maxRecDepth 65536 in
set_option maxHeartbeats 40000000 in
theorem rm_get_3_2 (l : Launch) (Z : State) (a0 : Array Value) (hw : ∀ d ∈ tables_1, d.before a0 Z = true) (ws : List Jvm.Cond) (o1 : Addr) (br : Addr) (kB : ClassId) (y0 : Addr) (y1 : Addr) (y2 : Addr) (h0 : Heap) (n0 : Nat) (Z0 : n0 ≤ h0.size) (F0 : (Fld Z h0 o1 "java/util/ImmutableCollections$ListN" "elements" "[Ljava/lang/Object;" (.ref br))) (V1 : (Arv Z h0 br kB (.object "java/lang/Object") (3 : Int32) [(.ref y0), (.ref y1), (.ref y2)] .null)) :
    MetFree l (⟨"java/util/ImmutableCollections$ListN", "get", "(I)Ljava/lang/Object;"⟩ : MethodName) (head1 (Jvm.Cond.code (⟨"java/util/ImmutableCollections$ListN", "get", "(I)Ljava/lang/Object;"⟩ : MethodName) jdk_45_method_4_code 2 (some (.object "java/lang/Object")) :: ws) ({ frames := 0, cells := 0, slots := 0, locals := 0 } : Room)) (fun aa U => aa = #[(.ref o1), (.int (2 : Int32))] ∧ Z.Warmed39 U.vm ∧ U.heap = h0) (fun _ _ _ _ _ => True) (fun _ U o U' => ∃ v L, o = .returned v ∧ Q_get_3_2 Z o1 br kB y0 y1 y2 h0 n0 v U'.heap L ∧ FrameEnd U o U' L ({ frames := 0, cells := 0, slots := 0, locals := 0 } : Room).cells ({ frames := 0, cells := 0, slots := 0, locals := 0 } : Room).slots) := by
  refine MetFree.of_bodySF (plainFor_of_name pn_7) hisR ?_
  intro p e s m args below meth c s₁ Bd hml0 hP hK
  obtain ⟨rfl, hZ, hh⟩ := hP
  have hx := Bd.exec
  have hby := Bd.bytes
  have hml : c.maxLocals = 2 := hml0
  have hown : s.vm.findClass "java/util/ImmutableCollections$ListN" = some m.cls := findClass_of_methodNamed Bd.named
  have hnm := (name_of_methodNamed Bd.named Bd.method).1
  have hlk : meth.locks = false := BodyLoose.notSynchronized Bd
  have X0 : Stand p l e ({ frames := 0, cells := 0, slots := 0, locals := 0 } : Room) s m #[(.ref o1), (.int (2 : Int32))] below meth c s₁ [] 0 0 := Stand.of_body Bd
  have e0 : s₁.heap = h0 := by rw [← hh, Bd.state]; rfl
  have N0 := Fr.nil n0
  have K0 : Keep h0 h0 [] := Keep.refl _ _
  show Gl p.tables e below (QQof s (Q_get_3_2 Z o1 br kB y0 y1 y2 h0 n0) 0 0) (s₁.setTop (entryFrame m #[(.ref o1), (.int (2 : Int32))] 2))
  refine Gl.go (fun t k => castTop (ef_get_3_2 m o1 (2 : Int32)) k) ?_
  show Gl _ _ _ _ (s₁.setTop (mkF m 0 #[.val (.ref o1), .val (.int (2 : Int32))] []))
  refine Gl.go (fun _ k => XS.aloadN X0.here hx rfl (hb hby d39_0) rfl rfl  k) ?_
  obtain ⟨T1, X1, e1, st1⟩ := getF X0 hx hZ hown (host := "") (Or.inl (hw _ (List.mem_of_getElem? (i := 273) rfl))) Via.refl e0 F0 (g := (mkF m 1 #[.val (.ref o1), .val (.int (2 : Int32))] [(.ref o1)])) rfl rfl (hb hby d39_1)
  refine Gl.go (fun _ k => st1 _ k) ?_
  show Gl _ _ _ _ (T1.setTop (mkF m 4 #[.val (.ref o1), .val (.int (2 : Int32))] [(.ref br)]))
  refine Gl.go (fun _ k => XS.iloadN X1.here hx rfl (hb hby d39_4) rfl  k) ?_
  obtain ⟨cl2, Ar2, qA2, SA2, NA2, HA2, GA2⟩ := id V1
  have hin2 := inb_of (j := (2 : Int32)) SA2 ⟨by decide, by decide⟩
  have hat2 : cl2.slots[((2 : Int32)).toNatClampNeg]? = some (.ref y2) := HA2.at hin2 rfl
  refine Gl.go (fun _ k => X1.aaload hx (j := (2 : Int32)) (v := (.ref y2)) (by rw [e1]; exact Ar2.1) (State.isArrayOf_alike hZ.alike Ar2.2.1) rfl Ar2.2.2 hin2 hat2 (g := (mkF m 5 #[.val (.ref o1), .val (.int (2 : Int32))] [(.int (2 : Int32)), (.ref br)])) rfl rfl (hb hby d39_5) _ k) ?_
  show Gl _ _ _ _ (T1.setTop (mkF m 6 #[.val (.ref o1), .val (.int (2 : Int32))] [(.ref y2)]))
  refine leafA X1 hx hlk Bd.returns rfl rfl (hb hby d39_6) ?_ (by decide) (by decide)
  exact ⟨rfl, N0, e1⟩
def Q_cell_1 (Z : State) (gg : Addr) (ii : Int32) (o1 : Addr) (eM : Addr) (y0 : Addr) (y1 : Addr) (y2 : Addr) (h0 : Heap) (n0 : Nat) (v : Option Value) (h : Heap) (L : List Loc) : Prop := v = some (.ref (if ii = (0 : Int32) then y0 else (if ii = (1 : Int32) then y1 else y2))) ∧ Fr n0 L ∧ h = h0
set_option maxRecDepth 65536 in
set_option maxHeartbeats 40000000 in
theorem rm_cell_1 (l : Launch) (Z : State) (a0 : Array Value) (hw : ∀ d ∈ tables_1, d.before a0 Z = true) (ws : List Jvm.Cond) (gg : Addr) (ii : Int32) (o1 : Addr) (eM : Addr) (y0 : Addr) (y1 : Addr) (y2 : Addr) (h0 : Heap) (n0 : Nat) (Z0 : n0 ≤ h0.size) (hi : ii = (0 : Int32)) (FC : (Fld Z h0 gg "com/example/frosted_rows/frostedrows/release/PublishedGroup" "cells" "Ljava/util/List;" (.ref o1))) (E_o1 : (Exa Z h0 o1 "java/util/ImmutableCollections$List12")) (F0 : (Fld Z h0 o1 "java/util/ImmutableCollections$List12" "e0" "Ljava/lang/Object;" (.ref y0))) (F1 : (Fld Z h0 o1 "java/util/ImmutableCollections$List12" "e1" "Ljava/lang/Object;" (.ref eM))) (X_y0 : (Exa Z h0 y0 "java/lang/String")) :
    MetFree l (⟨"com/example/frosted_rows/frostedrows/release/PublishedGroup", "cell", "(I)Ljava/lang/String;"⟩ : MethodName) (head1 (Jvm.Cond.code (⟨"com/example/frosted_rows/frostedrows/release/PublishedGroup", "cell", "(I)Ljava/lang/String;"⟩ : MethodName) prog_13_method_3_code 2 (some (.object "java/lang/String")) :: ws) ({ frames := 1, cells := 0, slots := 0, locals := 13 } : Room)) (fun aa U => aa = #[(.ref gg), (.int ii)] ∧ Z.Warmed39 U.vm ∧ U.heap = h0) (fun _ _ _ _ _ => True) (fun _ U o U' => ∃ v L, o = .returned v ∧ Q_cell_1 Z gg ii o1 eM y0 y1 y2 h0 n0 v U'.heap L ∧ FrameEnd U o U' L ({ frames := 1, cells := 0, slots := 0, locals := 13 } : Room).cells ({ frames := 1, cells := 0, slots := 0, locals := 13 } : Room).slots) := by
  refine MetFree.of_bodySF (plainFor_of_name pn_15) hisR ?_
  intro p e s m args below meth c s₁ Bd hml0 hP hK
  obtain ⟨rfl, hZ, hh⟩ := hP
  have hx := Bd.exec
  have hby := Bd.bytes
  have hml : c.maxLocals = 2 := hml0
  have hown : s.vm.findClass "com/example/frosted_rows/frostedrows/release/PublishedGroup" = some m.cls := findClass_of_methodNamed Bd.named
  have hnm := (name_of_methodNamed Bd.named Bd.method).1
  have hlk : meth.locks = false := BodyLoose.notSynchronized Bd
  have X0 : Stand p l e ({ frames := 1, cells := 0, slots := 0, locals := 13 } : Room) s m #[(.ref gg), (.int ii)] below meth c s₁ [] 0 0 := Stand.of_body Bd
  have e0 : s₁.heap = h0 := by rw [← hh, Bd.state]; rfl
  have N0 := Fr.nil n0
  have K0 : Keep h0 h0 [] := Keep.refl _ _
  show Gl p.tables e below (QQof s (Q_cell_1 Z gg ii o1 eM y0 y1 y2 h0 n0) 0 0) (s₁.setTop (entryFrame m #[(.ref gg), (.int ii)] 2))
  refine Gl.go (fun t k => castTop (ef_cell_1 m gg ii) k) ?_
  show Gl _ _ _ _ (s₁.setTop (mkF m 0 #[.val (.ref gg), .val (.int ii)] []))
  subst hi
  refine Gl.go (fun _ k => XS.aloadN X0.here hx rfl (hb hby d33_0) rfl rfl  k) ?_
  obtain ⟨T1, X1, e1, st1⟩ := getF X0 hx hZ hown (host := "") (Or.inl (hw _ (List.mem_of_getElem? (i := 187) rfl))) Via.refl e0 FC (g := (mkF m 1 #[.val (.ref gg), .val (.int (0 : Int32))] [(.ref gg)])) rfl rfl (hb hby d33_1)
  refine Gl.go (fun _ k => st1 _ k) ?_
  show Gl _ _ _ _ (T1.setTop (mkF m 4 #[.val (.ref gg), .val (.int (0 : Int32))] [(.ref o1)]))
  refine Gl.go (fun _ k => XS.iloadN X1.here hx rfl (hb hby d33_4) rfl  k) ?_
  obtain ⟨cq2, kq2, q2a, q2b, q2c⟩ := isOf hZ e1 E_o1
  obtain ⟨_, _, ⟨T2, L2, k2, n2⟩, -, X2, ⟨Lc2, hQ2, l2, y2, z2⟩, st2⟩ := X1.interfaceBack hx (xi := (⟨"java/util/List", "get", "(I)Ljava/lang/Object;"⟩ : MethodName)) (y := (⟨"java/util/ImmutableCollections$List12", "get", "(I)Ljava/lang/Object;"⟩ : MethodName)) hown (mvT hZ (hw _ (List.mem_of_getElem? (i := 239) rfl))) (mvT hZ (hw _ (List.mem_of_getElem? (i := 240) rfl))) (mvT hZ (hw _ (List.mem_of_getElem? (i := 241) rfl))) (mvT hZ (hw _ (List.mem_of_getElem? (i := 242) rfl))) (mvT hZ (hw _ (List.mem_of_getElem? (i := 243) rfl))) (mvT hZ (hw _ (List.mem_of_getElem? (i := 244) rfl))) (mvT hZ (hw _ (List.mem_of_getElem? (i := 245) rfl))) (mvT hZ (hw _ (List.mem_of_getElem? (i := 246) rfl))) (by decide) (backOf (W := 0) (rm_get_1_0 l Z a0 hw [] o1 eM y0 h0 n0 Z0 F0 F1) hZ (hw _ (List.mem_of_getElem? (i := 247) rfl)) (hw _ (List.mem_of_getElem? (i := 160) rfl)) (by decide) (by decide)) q2a q2b q2c (g := (mkF m 5 #[.val (.ref gg), .val (.int (0 : Int32))] [(.int (0 : Int32)), (.ref o1)])) rfl (by rw [hml]; rfl) (Steps.refl _) (argsL := [(.int (0 : Int32))]) (rest := []) (lenOf pd_17 rfl) rfl (by show 2 * 0 + _ ≤ _; exact Nat.le_of_eq rfl) (hb hby d33_5) (fun _ _ => ⟨rfl, e1, (by decide : 0 + 0 ≤ _), (by decide : 0 + 0 ≤ _)⟩)
  dsimp only [Pt.U, Pt.locs, Pt.cells, Pt.slots] at X2 l2 y2 z2 st2 hQ2
  subst y2 z2
  obtain ⟨rfl, Nq2, e2⟩ := hQ2
  have N2 : Fr n0 L2 := by rw [l2]; exact Fr.app N0 Nq2
  refine Gl.go (fun _ k => st2.trans k) ?_
  show Gl _ _ _ _ (T2.setTop (mkF m 10 #[.val (.ref gg), .val (.int (0 : Int32))] [(.ref y0)]))
  obtain ⟨T3, X3, e3, st3⟩ := castY X2 hx hZ hown (hw _ (List.mem_of_getElem? (i := 248) rfl)) e2 (Ins.self X_y0) (g := (mkF m 10 #[.val (.ref gg), .val (.int (0 : Int32))] [(.ref y0)])) rfl rfl (hb hby d33_10)
  refine Gl.go (fun _ k => st3 _ k) ?_
  show Gl _ _ _ _ (T3.setTop (mkF m 13 #[.val (.ref gg), .val (.int (0 : Int32))] [(.ref y0)]))
  refine leafA X3 hx hlk Bd.returns rfl rfl (hb hby d33_13) ?_ (by decide) (by decide)
  exact ⟨by rw [if_pos rfl], N2, e3⟩
def Q_cell_2 (Z : State) (gg : Addr) (ii : Int32) (o1 : Addr) (eM : Addr) (y0 : Addr) (y1 : Addr) (y2 : Addr) (h0 : Heap) (n0 : Nat) (v : Option Value) (h : Heap) (L : List Loc) : Prop := v = some (.ref (if ii = (0 : Int32) then y0 else (if ii = (1 : Int32) then y1 else y2))) ∧ Fr n0 L ∧ h = h0
set_option maxRecDepth 65536 in
set_option maxHeartbeats 40000000 in
theorem rm_cell_2 (l : Launch) (Z : State) (a0 : Array Value) (hw : ∀ d ∈ tables_1, d.before a0 Z = true) (ws : List Jvm.Cond) (gg : Addr) (ii : Int32) (o1 : Addr) (eM : Addr) (y0 : Addr) (y1 : Addr) (y2 : Addr) (h0 : Heap) (n0 : Nat) (Z0 : n0 ≤ h0.size) (hi : ii = (0 : Int32) ∨ ii = (1 : Int32)) (FC : (Fld Z h0 gg "com/example/frosted_rows/frostedrows/release/PublishedGroup" "cells" "Ljava/util/List;" (.ref o1))) (E_o1 : (Exa Z h0 o1 "java/util/ImmutableCollections$List12")) (F0 : (Fld Z h0 o1 "java/util/ImmutableCollections$List12" "e0" "Ljava/lang/Object;" (.ref y0))) (F1 : (Fld Z h0 o1 "java/util/ImmutableCollections$List12" "e1" "Ljava/lang/Object;" (.ref y1))) (hne : y1 ≠ eM) (SE : Sta Z Z.heap "java/util/ImmutableCollections" "EMPTY" "Ljava/lang/Object;" (.ref eM)) (O0 : Old Z n0 h0) (X_y0 : (Exa Z h0 y0 "java/lang/String")) (X_y1 : (Exa Z h0 y1 "java/lang/String")) :
    MetFree l (⟨"com/example/frosted_rows/frostedrows/release/PublishedGroup", "cell", "(I)Ljava/lang/String;"⟩ : MethodName) (head1 (Jvm.Cond.code (⟨"com/example/frosted_rows/frostedrows/release/PublishedGroup", "cell", "(I)Ljava/lang/String;"⟩ : MethodName) prog_13_method_3_code 2 (some (.object "java/lang/String")) :: ws) ({ frames := 1, cells := 0, slots := 0, locals := 13 } : Room)) (fun aa U => aa = #[(.ref gg), (.int ii)] ∧ Z.Warmed39 U.vm ∧ U.heap = h0) (fun _ _ _ _ _ => True) (fun _ U o U' => ∃ v L, o = .returned v ∧ Q_cell_2 Z gg ii o1 eM y0 y1 y2 h0 n0 v U'.heap L ∧ FrameEnd U o U' L ({ frames := 1, cells := 0, slots := 0, locals := 13 } : Room).cells ({ frames := 1, cells := 0, slots := 0, locals := 13 } : Room).slots) := by
  refine MetFree.of_bodySF (plainFor_of_name pn_15) hisR ?_
  intro p e s m args below meth c s₁ Bd hml0 hP hK
  obtain ⟨rfl, hZ, hh⟩ := hP
  have hx := Bd.exec
  have hby := Bd.bytes
  have hml : c.maxLocals = 2 := hml0
  have hown : s.vm.findClass "com/example/frosted_rows/frostedrows/release/PublishedGroup" = some m.cls := findClass_of_methodNamed Bd.named
  have hnm := (name_of_methodNamed Bd.named Bd.method).1
  have hlk : meth.locks = false := BodyLoose.notSynchronized Bd
  have X0 : Stand p l e ({ frames := 1, cells := 0, slots := 0, locals := 13 } : Room) s m #[(.ref gg), (.int ii)] below meth c s₁ [] 0 0 := Stand.of_body Bd
  have e0 : s₁.heap = h0 := by rw [← hh, Bd.state]; rfl
  have N0 := Fr.nil n0
  have K0 : Keep h0 h0 [] := Keep.refl _ _
  show Gl p.tables e below (QQof s (Q_cell_2 Z gg ii o1 eM y0 y1 y2 h0 n0) 0 0) (s₁.setTop (entryFrame m #[(.ref gg), (.int ii)] 2))
  refine Gl.go (fun t k => castTop (ef_cell_2 m gg ii) k) ?_
  show Gl _ _ _ _ (s₁.setTop (mkF m 0 #[.val (.ref gg), .val (.int ii)] []))
  rcases hi with rfl | rfl
  · skip
    refine Gl.go (fun _ k => XS.aloadN X0.here hx rfl (hb hby d33_0) rfl rfl  k) ?_
    obtain ⟨T1, X1, e1, st1⟩ := getF X0 hx hZ hown (host := "") (Or.inl (hw _ (List.mem_of_getElem? (i := 187) rfl))) Via.refl e0 FC (g := (mkF m 1 #[.val (.ref gg), .val (.int (0 : Int32))] [(.ref gg)])) rfl rfl (hb hby d33_1)
    refine Gl.go (fun _ k => st1 _ k) ?_
    show Gl _ _ _ _ (T1.setTop (mkF m 4 #[.val (.ref gg), .val (.int (0 : Int32))] [(.ref o1)]))
    refine Gl.go (fun _ k => XS.iloadN X1.here hx rfl (hb hby d33_4) rfl  k) ?_
    obtain ⟨cq2, kq2, q2a, q2b, q2c⟩ := isOf hZ e1 E_o1
    obtain ⟨_, _, ⟨T2, L2, k2, n2⟩, -, X2, ⟨Lc2, hQ2, l2, y2, z2⟩, st2⟩ := X1.interfaceBack hx (xi := (⟨"java/util/List", "get", "(I)Ljava/lang/Object;"⟩ : MethodName)) (y := (⟨"java/util/ImmutableCollections$List12", "get", "(I)Ljava/lang/Object;"⟩ : MethodName)) hown (mvT hZ (hw _ (List.mem_of_getElem? (i := 239) rfl))) (mvT hZ (hw _ (List.mem_of_getElem? (i := 240) rfl))) (mvT hZ (hw _ (List.mem_of_getElem? (i := 241) rfl))) (mvT hZ (hw _ (List.mem_of_getElem? (i := 242) rfl))) (mvT hZ (hw _ (List.mem_of_getElem? (i := 243) rfl))) (mvT hZ (hw _ (List.mem_of_getElem? (i := 244) rfl))) (mvT hZ (hw _ (List.mem_of_getElem? (i := 245) rfl))) (mvT hZ (hw _ (List.mem_of_getElem? (i := 246) rfl))) (by decide) (backOf (W := 0) (rm_get_2_0 l Z a0 hw [] o1 eM y0 y1 h0 n0 Z0 F0 F1) hZ (hw _ (List.mem_of_getElem? (i := 247) rfl)) (hw _ (List.mem_of_getElem? (i := 160) rfl)) (by decide) (by decide)) q2a q2b q2c (g := (mkF m 5 #[.val (.ref gg), .val (.int (0 : Int32))] [(.int (0 : Int32)), (.ref o1)])) rfl (by rw [hml]; rfl) (Steps.refl _) (argsL := [(.int (0 : Int32))]) (rest := []) (lenOf pd_17 rfl) rfl (by show 2 * 0 + _ ≤ _; exact Nat.le_of_eq rfl) (hb hby d33_5) (fun _ _ => ⟨rfl, e1, (by decide : 0 + 0 ≤ _), (by decide : 0 + 0 ≤ _)⟩)
    dsimp only [Pt.U, Pt.locs, Pt.cells, Pt.slots] at X2 l2 y2 z2 st2 hQ2
    subst y2 z2
    obtain ⟨rfl, Nq2, e2⟩ := hQ2
    have N2 : Fr n0 L2 := by rw [l2]; exact Fr.app N0 Nq2
    refine Gl.go (fun _ k => st2.trans k) ?_
    show Gl _ _ _ _ (T2.setTop (mkF m 10 #[.val (.ref gg), .val (.int (0 : Int32))] [(.ref y0)]))
    obtain ⟨T3, X3, e3, st3⟩ := castY X2 hx hZ hown (hw _ (List.mem_of_getElem? (i := 248) rfl)) e2 (Ins.self X_y0) (g := (mkF m 10 #[.val (.ref gg), .val (.int (0 : Int32))] [(.ref y0)])) rfl rfl (hb hby d33_10)
    refine Gl.go (fun _ k => st3 _ k) ?_
    show Gl _ _ _ _ (T3.setTop (mkF m 13 #[.val (.ref gg), .val (.int (0 : Int32))] [(.ref y0)]))
    refine leafA X3 hx hlk Bd.returns rfl rfl (hb hby d33_13) ?_ (by decide) (by decide)
    exact ⟨by rw [if_pos rfl], N2, e3⟩
  · skip
    refine Gl.go (fun _ k => XS.aloadN X0.here hx rfl (hb hby d33_0) rfl rfl  k) ?_
    obtain ⟨T4, X4, e4, st4⟩ := getF X0 hx hZ hown (host := "") (Or.inl (hw _ (List.mem_of_getElem? (i := 187) rfl))) Via.refl e0 FC (g := (mkF m 1 #[.val (.ref gg), .val (.int (1 : Int32))] [(.ref gg)])) rfl rfl (hb hby d33_1)
    refine Gl.go (fun _ k => st4 _ k) ?_
    show Gl _ _ _ _ (T4.setTop (mkF m 4 #[.val (.ref gg), .val (.int (1 : Int32))] [(.ref o1)]))
    refine Gl.go (fun _ k => XS.iloadN X4.here hx rfl (hb hby d33_4) rfl  k) ?_
    obtain ⟨cq5, kq5, q5a, q5b, q5c⟩ := isOf hZ e4 E_o1
    obtain ⟨_, _, ⟨T5, L5, k5, n5⟩, -, X5, ⟨Lc5, hQ5, l5, y5, z5⟩, st5⟩ := X4.interfaceBack hx (xi := (⟨"java/util/List", "get", "(I)Ljava/lang/Object;"⟩ : MethodName)) (y := (⟨"java/util/ImmutableCollections$List12", "get", "(I)Ljava/lang/Object;"⟩ : MethodName)) hown (mvT hZ (hw _ (List.mem_of_getElem? (i := 239) rfl))) (mvT hZ (hw _ (List.mem_of_getElem? (i := 240) rfl))) (mvT hZ (hw _ (List.mem_of_getElem? (i := 241) rfl))) (mvT hZ (hw _ (List.mem_of_getElem? (i := 242) rfl))) (mvT hZ (hw _ (List.mem_of_getElem? (i := 243) rfl))) (mvT hZ (hw _ (List.mem_of_getElem? (i := 244) rfl))) (mvT hZ (hw _ (List.mem_of_getElem? (i := 245) rfl))) (mvT hZ (hw _ (List.mem_of_getElem? (i := 246) rfl))) (by decide) (backOf (W := 0) (rm_get_2_1 l Z a0 hw [] o1 eM y0 y1 h0 n0 Z0 F0 F1 hne SE O0) hZ (hw _ (List.mem_of_getElem? (i := 247) rfl)) (hw _ (List.mem_of_getElem? (i := 160) rfl)) (by decide) (by decide)) q5a q5b q5c (g := (mkF m 5 #[.val (.ref gg), .val (.int (1 : Int32))] [(.int (1 : Int32)), (.ref o1)])) rfl (by rw [hml]; rfl) (Steps.refl _) (argsL := [(.int (1 : Int32))]) (rest := []) (lenOf pd_17 rfl) rfl (by show 2 * 0 + _ ≤ _; exact Nat.le_of_eq rfl) (hb hby d33_5) (fun _ _ => ⟨rfl, e4, (by decide : 0 + 0 ≤ _), (by decide : 0 + 0 ≤ _)⟩)
    dsimp only [Pt.U, Pt.locs, Pt.cells, Pt.slots] at X5 l5 y5 z5 st5 hQ5
    subst y5 z5
    obtain ⟨rfl, Nq5, e5⟩ := hQ5
    have N5 : Fr n0 L5 := by rw [l5]; exact Fr.app N0 Nq5
    refine Gl.go (fun _ k => st5.trans k) ?_
    show Gl _ _ _ _ (T5.setTop (mkF m 10 #[.val (.ref gg), .val (.int (1 : Int32))] [(.ref y1)]))
    obtain ⟨T6, X6, e6, st6⟩ := castY X5 hx hZ hown (hw _ (List.mem_of_getElem? (i := 248) rfl)) e5 (Ins.self X_y1) (g := (mkF m 10 #[.val (.ref gg), .val (.int (1 : Int32))] [(.ref y1)])) rfl rfl (hb hby d33_10)
    refine Gl.go (fun _ k => st6 _ k) ?_
    show Gl _ _ _ _ (T6.setTop (mkF m 13 #[.val (.ref gg), .val (.int (1 : Int32))] [(.ref y1)]))
    refine leafA X6 hx hlk Bd.returns rfl rfl (hb hby d33_13) ?_ (by decide) (by decide)
    exact ⟨by rw [if_neg (by decide), if_pos rfl], N5, e6⟩
def Q_cell_3 (Z : State) (gg : Addr) (ii : Int32) (o1 : Addr) (br : Addr) (kB : ClassId) (y0 : Addr) (y1 : Addr) (y2 : Addr) (h0 : Heap) (n0 : Nat) (v : Option Value) (h : Heap) (L : List Loc) : Prop := v = some (.ref (if ii = (0 : Int32) then y0 else (if ii = (1 : Int32) then y1 else y2))) ∧ Fr n0 L ∧ h = h0
set_option maxRecDepth 65536 in
set_option maxHeartbeats 40000000 in
theorem rm_cell_3 (l : Launch) (Z : State) (a0 : Array Value) (hw : ∀ d ∈ tables_1, d.before a0 Z = true) (ws : List Jvm.Cond) (gg : Addr) (ii : Int32) (o1 : Addr) (br : Addr) (kB : ClassId) (y0 : Addr) (y1 : Addr) (y2 : Addr) (h0 : Heap) (n0 : Nat) (Z0 : n0 ≤ h0.size) (hi : ii = (0 : Int32) ∨ ii = (1 : Int32) ∨ ii = (2 : Int32)) (FC : (Fld Z h0 gg "com/example/frosted_rows/frostedrows/release/PublishedGroup" "cells" "Ljava/util/List;" (.ref o1))) (E_o1 : (Exa Z h0 o1 "java/util/ImmutableCollections$ListN")) (F0 : (Fld Z h0 o1 "java/util/ImmutableCollections$ListN" "elements" "[Ljava/lang/Object;" (.ref br))) (V1 : (Arv Z h0 br kB (.object "java/lang/Object") (3 : Int32) [(.ref y0), (.ref y1), (.ref y2)] .null)) (X_y0 : (Exa Z h0 y0 "java/lang/String")) (X_y1 : (Exa Z h0 y1 "java/lang/String")) (X_y2 : (Exa Z h0 y2 "java/lang/String")) :
    MetFree l (⟨"com/example/frosted_rows/frostedrows/release/PublishedGroup", "cell", "(I)Ljava/lang/String;"⟩ : MethodName) (head1 (Jvm.Cond.code (⟨"com/example/frosted_rows/frostedrows/release/PublishedGroup", "cell", "(I)Ljava/lang/String;"⟩ : MethodName) prog_13_method_3_code 2 (some (.object "java/lang/String")) :: ws) ({ frames := 1, cells := 0, slots := 0, locals := 13 } : Room)) (fun aa U => aa = #[(.ref gg), (.int ii)] ∧ Z.Warmed39 U.vm ∧ U.heap = h0) (fun _ _ _ _ _ => True) (fun _ U o U' => ∃ v L, o = .returned v ∧ Q_cell_3 Z gg ii o1 br kB y0 y1 y2 h0 n0 v U'.heap L ∧ FrameEnd U o U' L ({ frames := 1, cells := 0, slots := 0, locals := 13 } : Room).cells ({ frames := 1, cells := 0, slots := 0, locals := 13 } : Room).slots) := by
  refine MetFree.of_bodySF (plainFor_of_name pn_15) hisR ?_
  intro p e s m args below meth c s₁ Bd hml0 hP hK
  obtain ⟨rfl, hZ, hh⟩ := hP
  have hx := Bd.exec
  have hby := Bd.bytes
  have hml : c.maxLocals = 2 := hml0
  have hown : s.vm.findClass "com/example/frosted_rows/frostedrows/release/PublishedGroup" = some m.cls := findClass_of_methodNamed Bd.named
  have hnm := (name_of_methodNamed Bd.named Bd.method).1
  have hlk : meth.locks = false := BodyLoose.notSynchronized Bd
  have X0 : Stand p l e ({ frames := 1, cells := 0, slots := 0, locals := 13 } : Room) s m #[(.ref gg), (.int ii)] below meth c s₁ [] 0 0 := Stand.of_body Bd
  have e0 : s₁.heap = h0 := by rw [← hh, Bd.state]; rfl
  have N0 := Fr.nil n0
  have K0 : Keep h0 h0 [] := Keep.refl _ _
  show Gl p.tables e below (QQof s (Q_cell_3 Z gg ii o1 br kB y0 y1 y2 h0 n0) 0 0) (s₁.setTop (entryFrame m #[(.ref gg), (.int ii)] 2))
  refine Gl.go (fun t k => castTop (ef_cell_3 m gg ii) k) ?_
  show Gl _ _ _ _ (s₁.setTop (mkF m 0 #[.val (.ref gg), .val (.int ii)] []))
  rcases hi with rfl | rfl | rfl
  · skip
    refine Gl.go (fun _ k => XS.aloadN X0.here hx rfl (hb hby d33_0) rfl rfl  k) ?_
    obtain ⟨T1, X1, e1, st1⟩ := getF X0 hx hZ hown (host := "") (Or.inl (hw _ (List.mem_of_getElem? (i := 187) rfl))) Via.refl e0 FC (g := (mkF m 1 #[.val (.ref gg), .val (.int (0 : Int32))] [(.ref gg)])) rfl rfl (hb hby d33_1)
    refine Gl.go (fun _ k => st1 _ k) ?_
    show Gl _ _ _ _ (T1.setTop (mkF m 4 #[.val (.ref gg), .val (.int (0 : Int32))] [(.ref o1)]))
    refine Gl.go (fun _ k => XS.iloadN X1.here hx rfl (hb hby d33_4) rfl  k) ?_
    obtain ⟨cq2, kq2, q2a, q2b, q2c⟩ := isOf hZ e1 E_o1
    obtain ⟨_, _, ⟨T2, L2, k2, n2⟩, -, X2, ⟨Lc2, hQ2, l2, y2, z2⟩, st2⟩ := X1.interfaceBack hx (xi := (⟨"java/util/List", "get", "(I)Ljava/lang/Object;"⟩ : MethodName)) (y := (⟨"java/util/ImmutableCollections$ListN", "get", "(I)Ljava/lang/Object;"⟩ : MethodName)) hown (mvT hZ (hw _ (List.mem_of_getElem? (i := 239) rfl))) (mvT hZ (hw _ (List.mem_of_getElem? (i := 240) rfl))) (mvT hZ (hw _ (List.mem_of_getElem? (i := 241) rfl))) (mvT hZ (hw _ (List.mem_of_getElem? (i := 277) rfl))) (mvT hZ (hw _ (List.mem_of_getElem? (i := 278) rfl))) (mvT hZ (hw _ (List.mem_of_getElem? (i := 279) rfl))) (mvT hZ (hw _ (List.mem_of_getElem? (i := 280) rfl))) (mvT hZ (hw _ (List.mem_of_getElem? (i := 281) rfl))) (by decide) (backOf (W := 0) (rm_get_3_0 l Z a0 hw [] o1 br kB y0 y1 y2 h0 n0 Z0 F0 V1) hZ (hw _ (List.mem_of_getElem? (i := 282) rfl)) (hw _ (List.mem_of_getElem? (i := 264) rfl)) (by decide) (by decide)) q2a q2b q2c (g := (mkF m 5 #[.val (.ref gg), .val (.int (0 : Int32))] [(.int (0 : Int32)), (.ref o1)])) rfl (by rw [hml]; rfl) (Steps.refl _) (argsL := [(.int (0 : Int32))]) (rest := []) (lenOf pd_17 rfl) rfl (by show 2 * 0 + _ ≤ _; exact Nat.le_of_eq rfl) (hb hby d33_5) (fun _ _ => ⟨rfl, e1, (by decide : 0 + 0 ≤ _), (by decide : 0 + 0 ≤ _)⟩)
    dsimp only [Pt.U, Pt.locs, Pt.cells, Pt.slots] at X2 l2 y2 z2 st2 hQ2
    subst y2 z2
    obtain ⟨rfl, Nq2, e2⟩ := hQ2
    have N2 : Fr n0 L2 := by rw [l2]; exact Fr.app N0 Nq2
    refine Gl.go (fun _ k => st2.trans k) ?_
    show Gl _ _ _ _ (T2.setTop (mkF m 10 #[.val (.ref gg), .val (.int (0 : Int32))] [(.ref y0)]))
    obtain ⟨T3, X3, e3, st3⟩ := castY X2 hx hZ hown (hw _ (List.mem_of_getElem? (i := 248) rfl)) e2 (Ins.self X_y0) (g := (mkF m 10 #[.val (.ref gg), .val (.int (0 : Int32))] [(.ref y0)])) rfl rfl (hb hby d33_10)
    refine Gl.go (fun _ k => st3 _ k) ?_
    show Gl _ _ _ _ (T3.setTop (mkF m 13 #[.val (.ref gg), .val (.int (0 : Int32))] [(.ref y0)]))
    refine leafA X3 hx hlk Bd.returns rfl rfl (hb hby d33_13) ?_ (by decide) (by decide)
    exact ⟨by rw [if_pos rfl], N2, e3⟩
  · skip
    refine Gl.go (fun _ k => XS.aloadN X0.here hx rfl (hb hby d33_0) rfl rfl  k) ?_
    obtain ⟨T4, X4, e4, st4⟩ := getF X0 hx hZ hown (host := "") (Or.inl (hw _ (List.mem_of_getElem? (i := 187) rfl))) Via.refl e0 FC (g := (mkF m 1 #[.val (.ref gg), .val (.int (1 : Int32))] [(.ref gg)])) rfl rfl (hb hby d33_1)
    refine Gl.go (fun _ k => st4 _ k) ?_
    show Gl _ _ _ _ (T4.setTop (mkF m 4 #[.val (.ref gg), .val (.int (1 : Int32))] [(.ref o1)]))
    refine Gl.go (fun _ k => XS.iloadN X4.here hx rfl (hb hby d33_4) rfl  k) ?_
    obtain ⟨cq5, kq5, q5a, q5b, q5c⟩ := isOf hZ e4 E_o1
    obtain ⟨_, _, ⟨T5, L5, k5, n5⟩, -, X5, ⟨Lc5, hQ5, l5, y5, z5⟩, st5⟩ := X4.interfaceBack hx (xi := (⟨"java/util/List", "get", "(I)Ljava/lang/Object;"⟩ : MethodName)) (y := (⟨"java/util/ImmutableCollections$ListN", "get", "(I)Ljava/lang/Object;"⟩ : MethodName)) hown (mvT hZ (hw _ (List.mem_of_getElem? (i := 239) rfl))) (mvT hZ (hw _ (List.mem_of_getElem? (i := 240) rfl))) (mvT hZ (hw _ (List.mem_of_getElem? (i := 241) rfl))) (mvT hZ (hw _ (List.mem_of_getElem? (i := 277) rfl))) (mvT hZ (hw _ (List.mem_of_getElem? (i := 278) rfl))) (mvT hZ (hw _ (List.mem_of_getElem? (i := 279) rfl))) (mvT hZ (hw _ (List.mem_of_getElem? (i := 280) rfl))) (mvT hZ (hw _ (List.mem_of_getElem? (i := 281) rfl))) (by decide) (backOf (W := 0) (rm_get_3_1 l Z a0 hw [] o1 br kB y0 y1 y2 h0 n0 Z0 F0 V1) hZ (hw _ (List.mem_of_getElem? (i := 282) rfl)) (hw _ (List.mem_of_getElem? (i := 264) rfl)) (by decide) (by decide)) q5a q5b q5c (g := (mkF m 5 #[.val (.ref gg), .val (.int (1 : Int32))] [(.int (1 : Int32)), (.ref o1)])) rfl (by rw [hml]; rfl) (Steps.refl _) (argsL := [(.int (1 : Int32))]) (rest := []) (lenOf pd_17 rfl) rfl (by show 2 * 0 + _ ≤ _; exact Nat.le_of_eq rfl) (hb hby d33_5) (fun _ _ => ⟨rfl, e4, (by decide : 0 + 0 ≤ _), (by decide : 0 + 0 ≤ _)⟩)
    dsimp only [Pt.U, Pt.locs, Pt.cells, Pt.slots] at X5 l5 y5 z5 st5 hQ5
    subst y5 z5
    obtain ⟨rfl, Nq5, e5⟩ := hQ5
    have N5 : Fr n0 L5 := by rw [l5]; exact Fr.app N0 Nq5
    refine Gl.go (fun _ k => st5.trans k) ?_
    show Gl _ _ _ _ (T5.setTop (mkF m 10 #[.val (.ref gg), .val (.int (1 : Int32))] [(.ref y1)]))
    obtain ⟨T6, X6, e6, st6⟩ := castY X5 hx hZ hown (hw _ (List.mem_of_getElem? (i := 248) rfl)) e5 (Ins.self X_y1) (g := (mkF m 10 #[.val (.ref gg), .val (.int (1 : Int32))] [(.ref y1)])) rfl rfl (hb hby d33_10)
    refine Gl.go (fun _ k => st6 _ k) ?_
    show Gl _ _ _ _ (T6.setTop (mkF m 13 #[.val (.ref gg), .val (.int (1 : Int32))] [(.ref y1)]))
    refine leafA X6 hx hlk Bd.returns rfl rfl (hb hby d33_13) ?_ (by decide) (by decide)
    exact ⟨by rw [if_neg (by decide), if_pos rfl], N5, e6⟩
  · skip
    refine Gl.go (fun _ k => XS.aloadN X0.here hx rfl (hb hby d33_0) rfl rfl  k) ?_
    obtain ⟨T7, X7, e7, st7⟩ := getF X0 hx hZ hown (host := "") (Or.inl (hw _ (List.mem_of_getElem? (i := 187) rfl))) Via.refl e0 FC (g := (mkF m 1 #[.val (.ref gg), .val (.int (2 : Int32))] [(.ref gg)])) rfl rfl (hb hby d33_1)
    refine Gl.go (fun _ k => st7 _ k) ?_
    show Gl _ _ _ _ (T7.setTop (mkF m 4 #[.val (.ref gg), .val (.int (2 : Int32))] [(.ref o1)]))
    refine Gl.go (fun _ k => XS.iloadN X7.here hx rfl (hb hby d33_4) rfl  k) ?_
    obtain ⟨cq8, kq8, q8a, q8b, q8c⟩ := isOf hZ e7 E_o1
    obtain ⟨_, _, ⟨T8, L8, k8, n8⟩, -, X8, ⟨Lc8, hQ8, l8, y8, z8⟩, st8⟩ := X7.interfaceBack hx (xi := (⟨"java/util/List", "get", "(I)Ljava/lang/Object;"⟩ : MethodName)) (y := (⟨"java/util/ImmutableCollections$ListN", "get", "(I)Ljava/lang/Object;"⟩ : MethodName)) hown (mvT hZ (hw _ (List.mem_of_getElem? (i := 239) rfl))) (mvT hZ (hw _ (List.mem_of_getElem? (i := 240) rfl))) (mvT hZ (hw _ (List.mem_of_getElem? (i := 241) rfl))) (mvT hZ (hw _ (List.mem_of_getElem? (i := 277) rfl))) (mvT hZ (hw _ (List.mem_of_getElem? (i := 278) rfl))) (mvT hZ (hw _ (List.mem_of_getElem? (i := 279) rfl))) (mvT hZ (hw _ (List.mem_of_getElem? (i := 280) rfl))) (mvT hZ (hw _ (List.mem_of_getElem? (i := 281) rfl))) (by decide) (backOf (W := 0) (rm_get_3_2 l Z a0 hw [] o1 br kB y0 y1 y2 h0 n0 Z0 F0 V1) hZ (hw _ (List.mem_of_getElem? (i := 282) rfl)) (hw _ (List.mem_of_getElem? (i := 264) rfl)) (by decide) (by decide)) q8a q8b q8c (g := (mkF m 5 #[.val (.ref gg), .val (.int (2 : Int32))] [(.int (2 : Int32)), (.ref o1)])) rfl (by rw [hml]; rfl) (Steps.refl _) (argsL := [(.int (2 : Int32))]) (rest := []) (lenOf pd_17 rfl) rfl (by show 2 * 0 + _ ≤ _; exact Nat.le_of_eq rfl) (hb hby d33_5) (fun _ _ => ⟨rfl, e7, (by decide : 0 + 0 ≤ _), (by decide : 0 + 0 ≤ _)⟩)
    dsimp only [Pt.U, Pt.locs, Pt.cells, Pt.slots] at X8 l8 y8 z8 st8 hQ8
    subst y8 z8
    obtain ⟨rfl, Nq8, e8⟩ := hQ8
    have N8 : Fr n0 L8 := by rw [l8]; exact Fr.app N0 Nq8
    refine Gl.go (fun _ k => st8.trans k) ?_
    show Gl _ _ _ _ (T8.setTop (mkF m 10 #[.val (.ref gg), .val (.int (2 : Int32))] [(.ref y2)]))
    obtain ⟨T9, X9, e9, st9⟩ := castY X8 hx hZ hown (hw _ (List.mem_of_getElem? (i := 248) rfl)) e8 (Ins.self X_y2) (g := (mkF m 10 #[.val (.ref gg), .val (.int (2 : Int32))] [(.ref y2)])) rfl rfl (hb hby d33_10)
    refine Gl.go (fun _ k => st9 _ k) ?_
    show Gl _ _ _ _ (T9.setTop (mkF m 13 #[.val (.ref gg), .val (.int (2 : Int32))] [(.ref y2)]))
    refine leafA X9 hx hlk Bd.returns rfl rfl (hb hby d33_13) ?_ (by decide) (by decide)
    exact ⟨by rw [if_neg (by decide), if_neg (by decide)], N8, e9⟩
def Q_eqs (Z : State) (x1 : Addr) (h0 : Heap) (n0 : Nat) (v : Option Value) (h : Heap) (L : List Loc) : Prop := v = some (.int (1 : Int32)) ∧ Fr n0 L ∧ h = h0
set_option maxRecDepth 65536 in
set_option maxHeartbeats 40000000 in
theorem rm_eqs (l : Launch) (Z : State) (a0 : Array Value) (hw : ∀ d ∈ tables_1, d.before a0 Z = true) (ws : List Jvm.Cond) (x1 : Addr) (h0 : Heap) (n0 : Nat) (Z0 : n0 ≤ h0.size)  :
    MetFree l (⟨"java/lang/String", "equals", "(Ljava/lang/Object;)Z"⟩ : MethodName) (head1 (Jvm.Cond.code (⟨"java/lang/String", "equals", "(Ljava/lang/Object;)Z"⟩ : MethodName) jdk_42_method_66_code 3 (some .boolean) :: ws) ({ frames := 0, cells := 0, slots := 0, locals := 0 } : Room)) (fun aa U => aa = #[(.ref x1), (.ref x1)] ∧ Z.Warmed39 U.vm ∧ U.heap = h0) (fun _ _ _ _ _ => True) (fun _ U o U' => ∃ v L, o = .returned v ∧ Q_eqs Z x1 h0 n0 v U'.heap L ∧ FrameEnd U o U' L ({ frames := 0, cells := 0, slots := 0, locals := 0 } : Room).cells ({ frames := 0, cells := 0, slots := 0, locals := 0 } : Room).slots) := by
  refine MetFree.of_bodySF (plainFor_of_name pn_16) hisR ?_
  intro p e s m args below meth c s₁ Bd hml0 hP hK
  obtain ⟨rfl, hZ, hh⟩ := hP
  have hx := Bd.exec
  have hby := Bd.bytes
  have hml : c.maxLocals = 3 := hml0
  have hown : s.vm.findClass "java/lang/String" = some m.cls := findClass_of_methodNamed Bd.named
  have hnm := (name_of_methodNamed Bd.named Bd.method).1
  have hlk : meth.locks = false := BodyLoose.notSynchronized Bd
  have X0 : Stand p l e ({ frames := 0, cells := 0, slots := 0, locals := 0 } : Room) s m #[(.ref x1), (.ref x1)] below meth c s₁ [] 0 0 := Stand.of_body Bd
  have e0 : s₁.heap = h0 := by rw [← hh, Bd.state]; rfl
  have N0 := Fr.nil n0
  have K0 : Keep h0 h0 [] := Keep.refl _ _
  show Gl p.tables e below (QQof s (Q_eqs Z x1 h0 n0) 0 0) (s₁.setTop (entryFrame m #[(.ref x1), (.ref x1)] 3))
  refine Gl.go (fun t k => castTop (ef_eqs m x1 x1) k) ?_
  show Gl _ _ _ _ (s₁.setTop (mkF m 0 #[.val (.ref x1), .val (.ref x1), .unset] []))
  refine Gl.go (fun _ k => XS.aloadN X0.here hx rfl (hb hby d35_0) rfl rfl  k) ?_
  refine Gl.go (fun _ k => XS.aloadN X0.here hx rfl (hb hby d35_1) rfl rfl  k) ?_
  refine Gl.go (fun _ k => Jvm.RoadKit.acmp (g := (mkF m 2 #[.val (.ref x1), .val (.ref x1), .unset] [(.ref x1), (.ref x1)])) X0 hx rfl rfl rfl (pc0 := 2) (pc' := 5) (same := true) rfl (hb hby d35_2) rfl (decide_eq_true (congrArg Value.ref (rfl : x1 = x1))) (by decide) (by decide) k) ?_
  show Gl _ _ _ _ (s₁.setTop (mkF m 5 #[.val (.ref x1), .val (.ref x1), .unset] []))
  refine Gl.go (fun _ k => XS.iconst X0.here hx rfl (hb hby d35_5) k) ?_
  refine leafN X0 hx hlk (t := .boolean) Bd.returns (by simp) (hb hby d35_6) ?_ (by decide) (by decide)
  exact ⟨rfl, N0, e0⟩
def Q_str (Z : State) (xx G1 : Int32) (h0 : Heap) (n0 : Nat) (v : Option Value) (h : Heap) (L : List Loc) : Prop := ∃ b, v = some (.ref b) ∧ Fr n0 L ∧ Keep h0 h [] ∧ h0.size ≤ b ∧ (Exa Z h b "java/lang/String")
set_option maxRecDepth 65536 in
set_option maxHeartbeats 40000000 in
theorem rm_str (l : Launch) (Z : State) (a0 : Array Value) (hw : ∀ d ∈ tables_1, d.before a0 Z = true) (ws : List Jvm.Cond) (xx G1 : Int32) (h0 : Heap) (n0 : Nat) (Z0 : n0 ≤ h0.size) (O2 : Sta Z Z.heap "java/lang/String" "COMPACT_STRINGS" "Z" (.int G1)) (P5 : ¬ (G1 = (0 : Int32))) (O0 : Old Z n0 h0) :
    MetFree l (⟨"com/example/frosted_rows/frostedrows/release/PublishedGroupCellPinLaw", "str", "(I)Ljava/lang/String;"⟩ : MethodName) (head1 (Jvm.Cond.code (⟨"com/example/frosted_rows/frostedrows/release/PublishedGroupCellPinLaw", "str", "(I)Ljava/lang/String;"⟩ : MethodName) method_2_code 3 (some (.object "java/lang/String")) :: ws) ({ frames := 4, cells := 3, slots := 8, locals := 66 } : Room)) (fun aa U => aa = #[(.int xx)] ∧ Z.Warmed39 U.vm ∧ U.heap = h0) (fun _ _ _ _ _ => True) (fun _ U o U' => ∃ v L, o = .returned v ∧ Q_str Z xx G1 h0 n0 v U'.heap L ∧ FrameEnd U o U' L ({ frames := 4, cells := 3, slots := 8, locals := 66 } : Room).cells ({ frames := 4, cells := 3, slots := 8, locals := 66 } : Room).slots) := by
  refine MetFree.of_bodySF (plainFor_of_name pn_17) hisR ?_
  intro p e s m args below meth c s₁ Bd hml0 hP hK
  obtain ⟨rfl, hZ, hh⟩ := hP
  have hx := Bd.exec
  have hby := Bd.bytes
  have hml : c.maxLocals = 3 := hml0
  have hown : s.vm.findClass "com/example/frosted_rows/frostedrows/release/PublishedGroupCellPinLaw" = some m.cls := findClass_of_methodNamed Bd.named
  have hnm := (name_of_methodNamed Bd.named Bd.method).1
  have hlk : meth.locks = false := BodyLoose.notSynchronized Bd
  have X0 : Stand p l e ({ frames := 4, cells := 3, slots := 8, locals := 66 } : Room) s m #[(.int xx)] below meth c s₁ [] 0 0 := Stand.of_body Bd
  have e0 : s₁.heap = h0 := by rw [← hh, Bd.state]; rfl
  have N0 := Fr.nil n0
  have K0 : Keep h0 h0 [] := Keep.refl _ _
  show Gl p.tables e below (QQof s (Q_str Z xx G1 h0 n0) 3 8) (s₁.setTop (entryFrame m #[(.int xx)] 3))
  refine Gl.go (fun t k => castTop (ef_str m xx) k) ?_
  show Gl _ _ _ _ (s₁.setTop (mkF m 0 #[.val (.int xx), .unset, .unset] []))
  have hws : ∀ d ∈ StrChars.Road.words, d.before a0 Z = true := fun d hd => hw d ((by decide +kernel : ∀ d ∈ StrChars.Road.words, d ∈ tables_1) d hd)
  refine Gl.go (fun _ k => XS.iloadN X0.here hx rfl (hb hby d1_0) rfl  k) ?_
  refine Gl.go (fun _ k => XS.sipush X0.here hx rfl (hb hby d1_1) k) ?_
  refine Gl.go (fun _ k => XS.iand X0.here hx rfl (hb hby d1_4) rfl k) ?_
  refine Gl.go (fun _ k => XS.i2c X0.here hx rfl (hb hby d1_5) rfl k) ?_
  show Gl _ _ _ _ (s₁.setTop (mkF m 6 #[.val (.int xx), .unset, .unset] [(.int ((xx &&& (255 : Int32)).toUInt32.toUInt16.toUInt32.toInt32))]))
  refine Gl.go (fun _ k => XS.istoreN X0.here hx rfl (hb hby d1_6) rfl (l' := #[.val (.int xx), .val (.int ((xx &&& (255 : Int32)).toUInt32.toUInt16.toUInt32.toInt32)), .unset]) rfl k) ?_
  refine Gl.go (fun _ k => XS.iloadN X0.here hx rfl (hb hby d1_7) rfl  k) ?_
  refine Gl.go (fun _ k => XS.bipush X0.here hx rfl (hb hby d1_8) k) ?_
  refine Gl.go (fun _ k => XS.iushr X0.here hx rfl (hb hby d1_10) rfl k) ?_
  show Gl _ _ _ _ (s₁.setTop (mkF m 11 #[.val (.int xx), .val (.int ((xx &&& (255 : Int32)).toUInt32.toUInt16.toUInt32.toInt32)), .unset] [(.int ((xx.toUInt32 >>> ((8 : Int32) &&& 31).toUInt32).toInt32))]))
  refine Gl.go (fun _ k => XS.sipush X0.here hx rfl (hb hby d1_11) k) ?_
  refine Gl.go (fun _ k => XS.iand X0.here hx rfl (hb hby d1_14) rfl k) ?_
  refine Gl.go (fun _ k => XS.i2c X0.here hx rfl (hb hby d1_15) rfl k) ?_
  refine Gl.go (fun _ k => XS.istoreN X0.here hx rfl (hb hby d1_16) rfl (l' := #[.val (.int xx), .val (.int ((xx &&& (255 : Int32)).toUInt32.toUInt16.toUInt32.toInt32)), .val (.int ((((xx.toUInt32 >>> ((8 : Int32) &&& 31).toUInt32).toInt32) &&& (255 : Int32)).toUInt32.toUInt16.toUInt32.toInt32))]) rfl k) ?_
  show Gl _ _ _ _ (s₁.setTop (mkF m 17 #[.val (.int xx), .val (.int ((xx &&& (255 : Int32)).toUInt32.toUInt16.toUInt32.toInt32)), .val (.int ((((xx.toUInt32 >>> ((8 : Int32) &&& 31).toUInt32).toInt32) &&& (255 : Int32)).toUInt32.toUInt16.toUInt32.toInt32))] []))
  refine Gl.go (fun _ k => XS.iloadN X0.here hx rfl (hb hby d1_17) rfl  k) ?_
  refine Gl.go (fun _ k => XS.bipush X0.here hx rfl (hb hby d1_18) k) ?_
  refine Gl.go (fun _ k => XS.iushr X0.here hx rfl (hb hby d1_20) rfl k) ?_
  refine Gl.go (fun _ k => XS.iconst X0.here hx rfl (hb hby d1_21) k) ?_
  show Gl _ _ _ _ (s₁.setTop (mkF m 22 #[.val (.int xx), .val (.int ((xx &&& (255 : Int32)).toUInt32.toUInt16.toUInt32.toInt32)), .val (.int ((((xx.toUInt32 >>> ((8 : Int32) &&& 31).toUInt32).toInt32) &&& (255 : Int32)).toUInt32.toUInt16.toUInt32.toInt32))] [(.int (1 : Int32)), (.int ((xx.toUInt32 >>> ((16 : Int32) &&& 31).toUInt32).toInt32))]))
  refine Gl.go (fun _ k => XS.iand X0.here hx rfl (hb hby d1_22) rfl k) ?_
  by_cases hA : (((xx.toUInt32 >>> ((16 : Int32) &&& 31).toUInt32).toInt32) &&& (1 : Int32)) = (0 : Int32)
  · skip
    refine Gl.go (fun _ k => XS.ifNo X0.here hx rfl (hb hby d1_23) rfl ((if0 _ _).trans (teq hA).2) k) ?_
    show Gl _ _ _ _ (s₁.setTop (mkF m 26 #[.val (.int xx), .val (.int ((xx &&& (255 : Int32)).toUInt32.toUInt16.toUInt32.toInt32)), .val (.int ((((xx.toUInt32 >>> ((8 : Int32) &&& 31).toUInt32).toInt32) &&& (255 : Int32)).toUInt32.toUInt16.toUInt32.toInt32))] []))
    obtain ⟨T1, h1, X1, e1, E1, A1, D1, -, st1⟩ := newO X0 hx hZ hown (hw _ (List.mem_of_getElem? (i := 4) rfl)) (hw _ (List.mem_of_getElem? (i := 5) rfl)) (hw _ (List.mem_of_getElem? (i := 6) rfl)) e0 (g := (mkF m 26 #[.val (.int xx), .val (.int ((xx &&& (255 : Int32)).toUInt32.toUInt16.toUInt32.toInt32)), .val (.int ((((xx.toUInt32 >>> ((8 : Int32) &&& 31).toUInt32).toInt32) &&& (255 : Int32)).toUInt32.toUInt16.toUInt32.toInt32))] [])) rfl (hb hby d1_26) (by decide) (by decide)
    obtain ⟨b1, g1⟩ : ∃ z, z = h0.size := ⟨_, rfl⟩
    rw [← g1] at A1 D1 st1
    have g_b1 : n0 ≤ b1 := Nat.le_trans Z0 (Nat.le_of_eq g1.symm)
    have sz_b1 : h0.size ≤ b1 := Nat.le_trans K0.1 (Nat.le_of_eq g1.symm)
    have O__1 := O0.ext E1
    have SZ1 : n0 ≤ h1.size := Nat.le_trans Z0 E1.1
    have K1 : Keep h0 h1 [] := K0.ext E1
    have F_b1_coder_1 : Fld Z h1 b1 "java/lang/String" "coder" "B" (.int (0 : Int32)) := D1 (Or.inr (hw _ (List.mem_of_getElem? (i := 31) rfl))) (ty := .byte) (by decide)
    have F_b1_value_1 : Fld Z h1 b1 "java/lang/String" "value" "[B" .null := D1 (Or.inr (hw _ (List.mem_of_getElem? (i := 33) rfl))) (ty := (.array .byte)) (by decide)
    refine Gl.go (fun _ k => st1 _ k) ?_
    show Gl _ _ _ _ (T1.setTop (mkF m 29 #[.val (.int xx), .val (.int ((xx &&& (255 : Int32)).toUInt32.toUInt16.toUInt32.toInt32)), .val (.int ((((xx.toUInt32 >>> ((8 : Int32) &&& 31).toUInt32).toInt32) &&& (255 : Int32)).toUInt32.toUInt16.toUInt32.toInt32))] [(.ref b1)]))
    refine Gl.go (fun _ k => XS.dup X1.here hx rfl (hb hby d1_29) rfl rfl k) ?_
    refine Gl.go (fun _ k => XS.iconst X1.here hx rfl (hb hby d1_30) k) ?_
    obtain ⟨T2, h2, cA2, X2, e2, E2, A2, st2⟩ := newP X1 hx hZ (hw _ (List.mem_of_getElem? (i := 7) rfl)) e1 (g := (mkF m 31 #[.val (.int xx), .val (.int ((xx &&& (255 : Int32)).toUInt32.toUInt16.toUInt32.toInt32)), .val (.int ((((xx.toUInt32 >>> ((8 : Int32) &&& 31).toUInt32).toInt32) &&& (255 : Int32)).toUInt32.toUInt16.toUInt32.toInt32))] [(.int (1 : Int32)), (.ref b1), (.ref b1)])) rfl (hb hby d1_31) rfl (by decide) (cap := 1) (by decide) (by decide) (by decide) (by decide)
    obtain ⟨b2, g2⟩ : ∃ z, z = h1.size := ⟨_, rfl⟩
    rw [← g2] at A2 st2
    have g_b2 : n0 ≤ b2 := Nat.le_trans SZ1 (Nat.le_of_eq g2.symm)
    have sz_b2 : h0.size ≤ b2 := Nat.le_trans K1.1 (Nat.le_of_eq g2.symm)
    have ne_b1_b2 : b1 ≠ b2 := Nat.ne_of_lt (Nat.lt_of_lt_of_le A1.lt (Nat.le_of_eq g2.symm))
    have O__2 := O__1.ext E2
    have E_b1_2 := A1.ext E2
    have F_b1_coder_2 := F_b1_coder_1.ext E2
    have F_b1_value_2 := F_b1_value_1.ext E2
    have SZ2 : n0 ≤ h2.size := Nat.le_trans SZ1 E2.1
    have K2 : Keep h0 h2 [] := K1.ext E2
    have V_b2_2 : Arv Z h2 b2 cA2 .char (1 : Int32) [(.int (0 : Int32))] (.int (0 : Int32)) := (Arv.new A2 (by decide)).pad (pad_rep [] _ 1)
    refine Gl.go (fun _ k => st2 _ k) ?_
    show Gl _ _ _ _ (T2.setTop (mkF m 33 #[.val (.int xx), .val (.int ((xx &&& (255 : Int32)).toUInt32.toUInt16.toUInt32.toInt32)), .val (.int ((((xx.toUInt32 >>> ((8 : Int32) &&& 31).toUInt32).toInt32) &&& (255 : Int32)).toUInt32.toUInt16.toUInt32.toInt32))] [(.ref b2), (.ref b1), (.ref b1)]))
    refine Gl.go (fun _ k => XS.dup X2.here hx rfl (hb hby d1_33) rfl rfl k) ?_
    refine Gl.go (fun _ k => XS.iconst X2.here hx rfl (hb hby d1_34) k) ?_
    refine Gl.go (fun _ k => XS.iloadN X2.here hx rfl (hb hby d1_35) rfl  k) ?_
    obtain ⟨cl3, Ar3, qA3, SA3, NA3, HA3, GA3⟩ := id V_b2_2
    obtain ⟨T3, h3, X3, e3, W3, st3⟩ := stC X2 hx hZ e2 Ar3 (j := (0 : Int32)) (inb_of SA3 ⟨by decide, by decide⟩) (g := (mkF m 36 #[.val (.int xx), .val (.int ((xx &&& (255 : Int32)).toUInt32.toUInt16.toUInt32.toInt32)), .val (.int ((((xx.toUInt32 >>> ((8 : Int32) &&& 31).toUInt32).toInt32) &&& (255 : Int32)).toUInt32.toUInt16.toUInt32.toInt32))] [(.int ((xx &&& (255 : Int32)).toUInt32.toUInt16.toUInt32.toInt32)), (.int (0 : Int32)), (.ref b2), (.ref b2), (.ref b1), (.ref b1)])) rfl rfl (hb hby d1_36)
    have O__3 := O__2.wr W3 g_b2
    have E_b1_3 := E_b1_2.wr W3
    have F_b1_coder_3 := F_b1_coder_2.other W3 (Or.inl ne_b1_b2)
    have F_b1_value_3 := F_b1_value_2.other W3 (Or.inl ne_b1_b2)
    have SZ3 : n0 ≤ h3.size := by rw [Wr.size W3]; exact SZ2
    have K3 : Keep h0 h3 [] := K2.wr W3 (Or.inr sz_b2)
    have N3 := Fr.snoc X3 N0 g_b2
    have V_b2_3 : Arv Z h3 b2 cA2 .char (1 : Int32) [(.int (nar .char ((xx &&& (255 : Int32)).toUInt32.toUInt16.toUInt32.toInt32)))] (.int (0 : Int32)) := Arv.set Ar3 qA3 SA3 NA3 HA3 GA3 (fits_nar_char _) W3 0 rfl (Nat.le_of_ble_eq_true rfl)
    refine Gl.go (fun _ k => st3 _ k) ?_
    show Gl _ _ _ _ (T3.setTop (mkF m 37 #[.val (.int xx), .val (.int ((xx &&& (255 : Int32)).toUInt32.toUInt16.toUInt32.toInt32)), .val (.int ((((xx.toUInt32 >>> ((8 : Int32) &&& 31).toUInt32).toInt32) &&& (255 : Int32)).toUInt32.toUInt16.toUInt32.toInt32))] [(.ref b2), (.ref b1), (.ref b1)]))
    have hp : ∀ c ∈ ([chr8 xx] : List Int32), ¬ c < 0 ∧ ¬ (255 : Int32) < c := by
      intro c hc
      simp only [List.mem_cons, List.not_mem_nil, or_false] at hc
      rw [hc]
      exact own_chr _
    obtain ⟨_, _, ⟨T4, L4, k4, n4⟩, -, X4, ⟨Lc4, hQ4, l4, y4, z4⟩, st4⟩ := X3.specialBack hx (y := (⟨"java/lang/String", "<init>", "([C)V"⟩ : MethodName)) rfl hown (mvT hZ (hw _ (List.mem_of_getElem? (i := 8) rfl))) (mvT hZ (hw _ (List.mem_of_getElem? (i := 9) rfl))) (mvT hZ (hw _ (List.mem_of_getElem? (i := 10) rfl))) (by decide) (StrChars.Road.backV (W := 1) hZ hws (kI := 4) (hw _ (List.mem_of_getElem? (i := 5) rfl)) (cs := ([chr8 xx] : List Int32)) (bs := (([chr8 xx] : List Int32)).map (fun c => c.toInt8.toInt32)) (n := 1) g_b1 SZ3 E_b1_3 F_b1_value_3 F_b1_coder_3 V_b2_3 (O2.ext O__3.2) P5 rfl rfl (by decide) (by decide) hp rfl (by decide) (by decide)) (g := (mkF m 37 #[.val (.int xx), .val (.int ((xx &&& (255 : Int32)).toUInt32.toUInt16.toUInt32.toInt32)), .val (.int ((((xx.toUInt32 >>> ((8 : Int32) &&& 31).toUInt32).toInt32) &&& (255 : Int32)).toUInt32.toUInt16.toUInt32.toInt32))] [(.ref b2), (.ref b1), (.ref b1)])) rfl (by rw [hml]; rfl) (Steps.refl _) (a := b1) (argsL := [(.ref b2)]) (rest := [(.ref b1)]) (lenOf pd_18 rfl) rfl (by show 2 * 0 + _ ≤ _; exact Nat.le_of_eq rfl) (hb hby d1_37) (fun _ _ => ⟨rfl, e3, (by decide : 2 + 1 ≤ _), (by decide : 5 + 1 ≤ _)⟩)
    dsimp only [Pt.U, Pt.locs, Pt.cells, Pt.slots] at X4 l4 y4 z4 st4
    subst y4 z4
    obtain ⟨rfl, Nq4, Kc4, Es4, -, -, -, -, -, -, -, -⟩ := hQ4
    have N4 : Fr n0 L4 := by rw [l4]; exact Fr.app N3 Nq4
    refine Gl.go (fun _ k => st4.trans k) ?_
    have O__4 := O__3.keep Kc4 (allS g_b1 all0)
    have E_b1_4 := E_b1_3.keep Kc4
    have V_b2_4 := V_b2_3.keep Kc4 (ninS (Ne.symm ne_b1_b2) nin0)
    have SZ4 : n0 ≤ T4.heap.size := Nat.le_trans SZ3 Kc4.1
    have K4 : Keep h0 T4.heap [] := K3.trans Kc4 (allS (Or.inr sz_b1) all0)
    show Gl _ _ _ _ (T4.setTop (mkF m 40 #[.val (.int xx), .val (.int ((xx &&& (255 : Int32)).toUInt32.toUInt16.toUInt32.toInt32)), .val (.int ((((xx.toUInt32 >>> ((8 : Int32) &&& 31).toUInt32).toInt32) &&& (255 : Int32)).toUInt32.toUInt16.toUInt32.toInt32))] [(.ref b1)]))
    refine leafA X4 hx hlk Bd.returns rfl rfl (hb hby d1_40) ?_ (by decide) (by decide)
    exact ⟨b1, rfl, N4, K4, sz_b1, Es4⟩
  · skip
    refine Gl.go (fun _ k => XS.ifYes X0.here hx rfl (pc0 := 23) (pc' := 41) rfl (hb hby d1_23) rfl ((if0 _ _).trans (feq hA).2) (by decide) (by decide) k) ?_
    show Gl _ _ _ _ (s₁.setTop (mkF m 41 #[.val (.int xx), .val (.int ((xx &&& (255 : Int32)).toUInt32.toUInt16.toUInt32.toInt32)), .val (.int ((((xx.toUInt32 >>> ((8 : Int32) &&& 31).toUInt32).toInt32) &&& (255 : Int32)).toUInt32.toUInt16.toUInt32.toInt32))] []))
    obtain ⟨T5, h5, X5, e5, E5, A5, D5, -, st5⟩ := newO X0 hx hZ hown (hw _ (List.mem_of_getElem? (i := 4) rfl)) (hw _ (List.mem_of_getElem? (i := 5) rfl)) (hw _ (List.mem_of_getElem? (i := 6) rfl)) e0 (g := (mkF m 41 #[.val (.int xx), .val (.int ((xx &&& (255 : Int32)).toUInt32.toUInt16.toUInt32.toInt32)), .val (.int ((((xx.toUInt32 >>> ((8 : Int32) &&& 31).toUInt32).toInt32) &&& (255 : Int32)).toUInt32.toUInt16.toUInt32.toInt32))] [])) rfl (hb hby d1_41) (by decide) (by decide)
    obtain ⟨b5, g5⟩ : ∃ z, z = h0.size := ⟨_, rfl⟩
    rw [← g5] at A5 D5 st5
    have g_b5 : n0 ≤ b5 := Nat.le_trans Z0 (Nat.le_of_eq g5.symm)
    have sz_b5 : h0.size ≤ b5 := Nat.le_trans K0.1 (Nat.le_of_eq g5.symm)
    have O__5 := O0.ext E5
    have SZ5 : n0 ≤ h5.size := Nat.le_trans Z0 E5.1
    have K5 : Keep h0 h5 [] := K0.ext E5
    have F_b5_coder_5 : Fld Z h5 b5 "java/lang/String" "coder" "B" (.int (0 : Int32)) := D5 (Or.inr (hw _ (List.mem_of_getElem? (i := 31) rfl))) (ty := .byte) (by decide)
    have F_b5_value_5 : Fld Z h5 b5 "java/lang/String" "value" "[B" .null := D5 (Or.inr (hw _ (List.mem_of_getElem? (i := 33) rfl))) (ty := (.array .byte)) (by decide)
    refine Gl.go (fun _ k => st5 _ k) ?_
    show Gl _ _ _ _ (T5.setTop (mkF m 44 #[.val (.int xx), .val (.int ((xx &&& (255 : Int32)).toUInt32.toUInt16.toUInt32.toInt32)), .val (.int ((((xx.toUInt32 >>> ((8 : Int32) &&& 31).toUInt32).toInt32) &&& (255 : Int32)).toUInt32.toUInt16.toUInt32.toInt32))] [(.ref b5)]))
    refine Gl.go (fun _ k => XS.dup X5.here hx rfl (hb hby d1_44) rfl rfl k) ?_
    refine Gl.go (fun _ k => XS.iconst X5.here hx rfl (hb hby d1_45) k) ?_
    obtain ⟨T6, h6, cA6, X6, e6, E6, A6, st6⟩ := newP X5 hx hZ (hw _ (List.mem_of_getElem? (i := 7) rfl)) e5 (g := (mkF m 46 #[.val (.int xx), .val (.int ((xx &&& (255 : Int32)).toUInt32.toUInt16.toUInt32.toInt32)), .val (.int ((((xx.toUInt32 >>> ((8 : Int32) &&& 31).toUInt32).toInt32) &&& (255 : Int32)).toUInt32.toUInt16.toUInt32.toInt32))] [(.int (2 : Int32)), (.ref b5), (.ref b5)])) rfl (hb hby d1_46) rfl (by decide) (cap := 2) (by decide) (by decide) (by decide) (by decide)
    obtain ⟨b6, g6⟩ : ∃ z, z = h5.size := ⟨_, rfl⟩
    rw [← g6] at A6 st6
    have g_b6 : n0 ≤ b6 := Nat.le_trans SZ5 (Nat.le_of_eq g6.symm)
    have sz_b6 : h0.size ≤ b6 := Nat.le_trans K5.1 (Nat.le_of_eq g6.symm)
    have ne_b5_b6 : b5 ≠ b6 := Nat.ne_of_lt (Nat.lt_of_lt_of_le A5.lt (Nat.le_of_eq g6.symm))
    have O__6 := O__5.ext E6
    have E_b5_6 := A5.ext E6
    have F_b5_coder_6 := F_b5_coder_5.ext E6
    have F_b5_value_6 := F_b5_value_5.ext E6
    have SZ6 : n0 ≤ h6.size := Nat.le_trans SZ5 E6.1
    have K6 : Keep h0 h6 [] := K5.ext E6
    have V_b6_6 : Arv Z h6 b6 cA6 .char (2 : Int32) [(.int (0 : Int32)), (.int (0 : Int32))] (.int (0 : Int32)) := (Arv.new A6 (by decide)).pad (pad_rep [] _ 2)
    refine Gl.go (fun _ k => st6 _ k) ?_
    show Gl _ _ _ _ (T6.setTop (mkF m 48 #[.val (.int xx), .val (.int ((xx &&& (255 : Int32)).toUInt32.toUInt16.toUInt32.toInt32)), .val (.int ((((xx.toUInt32 >>> ((8 : Int32) &&& 31).toUInt32).toInt32) &&& (255 : Int32)).toUInt32.toUInt16.toUInt32.toInt32))] [(.ref b6), (.ref b5), (.ref b5)]))
    refine Gl.go (fun _ k => XS.dup X6.here hx rfl (hb hby d1_48) rfl rfl k) ?_
    refine Gl.go (fun _ k => XS.iconst X6.here hx rfl (hb hby d1_49) k) ?_
    refine Gl.go (fun _ k => XS.iloadN X6.here hx rfl (hb hby d1_50) rfl  k) ?_
    obtain ⟨cl7, Ar7, qA7, SA7, NA7, HA7, GA7⟩ := id V_b6_6
    obtain ⟨T7, h7, X7, e7, W7, st7⟩ := stC X6 hx hZ e6 Ar7 (j := (0 : Int32)) (inb_of SA7 ⟨by decide, by decide⟩) (g := (mkF m 51 #[.val (.int xx), .val (.int ((xx &&& (255 : Int32)).toUInt32.toUInt16.toUInt32.toInt32)), .val (.int ((((xx.toUInt32 >>> ((8 : Int32) &&& 31).toUInt32).toInt32) &&& (255 : Int32)).toUInt32.toUInt16.toUInt32.toInt32))] [(.int ((xx &&& (255 : Int32)).toUInt32.toUInt16.toUInt32.toInt32)), (.int (0 : Int32)), (.ref b6), (.ref b6), (.ref b5), (.ref b5)])) rfl rfl (hb hby d1_51)
    have O__7 := O__6.wr W7 g_b6
    have E_b5_7 := E_b5_6.wr W7
    have F_b5_coder_7 := F_b5_coder_6.other W7 (Or.inl ne_b5_b6)
    have F_b5_value_7 := F_b5_value_6.other W7 (Or.inl ne_b5_b6)
    have SZ7 : n0 ≤ h7.size := by rw [Wr.size W7]; exact SZ6
    have K7 : Keep h0 h7 [] := K6.wr W7 (Or.inr sz_b6)
    have N7 := Fr.snoc X7 N0 g_b6
    have V_b6_7 : Arv Z h7 b6 cA6 .char (2 : Int32) [(.int (nar .char ((xx &&& (255 : Int32)).toUInt32.toUInt16.toUInt32.toInt32))), (.int (0 : Int32))] (.int (0 : Int32)) := Arv.set Ar7 qA7 SA7 NA7 HA7 GA7 (fits_nar_char _) W7 0 rfl (Nat.le_of_ble_eq_true rfl)
    refine Gl.go (fun _ k => st7 _ k) ?_
    show Gl _ _ _ _ (T7.setTop (mkF m 52 #[.val (.int xx), .val (.int ((xx &&& (255 : Int32)).toUInt32.toUInt16.toUInt32.toInt32)), .val (.int ((((xx.toUInt32 >>> ((8 : Int32) &&& 31).toUInt32).toInt32) &&& (255 : Int32)).toUInt32.toUInt16.toUInt32.toInt32))] [(.ref b6), (.ref b5), (.ref b5)]))
    refine Gl.go (fun _ k => XS.dup X7.here hx rfl (hb hby d1_52) rfl rfl k) ?_
    refine Gl.go (fun _ k => XS.iconst X7.here hx rfl (hb hby d1_53) k) ?_
    refine Gl.go (fun _ k => XS.iloadN X7.here hx rfl (hb hby d1_54) rfl  k) ?_
    obtain ⟨cl8, Ar8, qA8, SA8, NA8, HA8, GA8⟩ := id V_b6_7
    obtain ⟨T8, h8, X8, e8, W8, st8⟩ := stC X7 hx hZ e7 Ar8 (j := (1 : Int32)) (inb_of SA8 ⟨by decide, by decide⟩) (g := (mkF m 55 #[.val (.int xx), .val (.int ((xx &&& (255 : Int32)).toUInt32.toUInt16.toUInt32.toInt32)), .val (.int ((((xx.toUInt32 >>> ((8 : Int32) &&& 31).toUInt32).toInt32) &&& (255 : Int32)).toUInt32.toUInt16.toUInt32.toInt32))] [(.int ((((xx.toUInt32 >>> ((8 : Int32) &&& 31).toUInt32).toInt32) &&& (255 : Int32)).toUInt32.toUInt16.toUInt32.toInt32)), (.int (1 : Int32)), (.ref b6), (.ref b6), (.ref b5), (.ref b5)])) rfl rfl (hb hby d1_55)
    have O__8 := O__7.wr W8 g_b6
    have E_b5_8 := E_b5_7.wr W8
    have F_b5_coder_8 := F_b5_coder_7.other W8 (Or.inl ne_b5_b6)
    have F_b5_value_8 := F_b5_value_7.other W8 (Or.inl ne_b5_b6)
    have SZ8 : n0 ≤ h8.size := by rw [Wr.size W8]; exact SZ7
    have K8 : Keep h0 h8 [] := K7.wr W8 (Or.inr sz_b6)
    have N8 := Fr.snoc X8 N7 g_b6
    have V_b6_8 : Arv Z h8 b6 cA6 .char (2 : Int32) [(.int (nar .char ((xx &&& (255 : Int32)).toUInt32.toUInt16.toUInt32.toInt32))), (.int (nar .char ((((xx.toUInt32 >>> ((8 : Int32) &&& 31).toUInt32).toInt32) &&& (255 : Int32)).toUInt32.toUInt16.toUInt32.toInt32)))] (.int (0 : Int32)) := Arv.set Ar8 qA8 SA8 NA8 HA8 GA8 (fits_nar_char _) W8 1 rfl (Nat.le_of_ble_eq_true rfl)
    refine Gl.go (fun _ k => st8 _ k) ?_
    show Gl _ _ _ _ (T8.setTop (mkF m 56 #[.val (.int xx), .val (.int ((xx &&& (255 : Int32)).toUInt32.toUInt16.toUInt32.toInt32)), .val (.int ((((xx.toUInt32 >>> ((8 : Int32) &&& 31).toUInt32).toInt32) &&& (255 : Int32)).toUInt32.toUInt16.toUInt32.toInt32))] [(.ref b6), (.ref b5), (.ref b5)]))
    have hp : ∀ c ∈ ([chr8 xx, chr8 ((xx.toUInt32 >>> ((8 : Int32) &&& 31).toUInt32).toInt32)] : List Int32), ¬ c < 0 ∧ ¬ (255 : Int32) < c := by
      intro c hc
      simp only [List.mem_cons, List.not_mem_nil, or_false] at hc
      rcases hc with rfl | rfl
      · exact own_chr _
      · exact own_chr _
    obtain ⟨_, _, ⟨T9, L9, k9, n9⟩, -, X9, ⟨Lc9, hQ9, l9, y9, z9⟩, st9⟩ := X8.specialBack hx (y := (⟨"java/lang/String", "<init>", "([C)V"⟩ : MethodName)) rfl hown (mvT hZ (hw _ (List.mem_of_getElem? (i := 8) rfl))) (mvT hZ (hw _ (List.mem_of_getElem? (i := 9) rfl))) (mvT hZ (hw _ (List.mem_of_getElem? (i := 10) rfl))) (by decide) (StrChars.Road.backV (W := 1) hZ hws (kI := 4) (hw _ (List.mem_of_getElem? (i := 5) rfl)) (cs := ([chr8 xx, chr8 ((xx.toUInt32 >>> ((8 : Int32) &&& 31).toUInt32).toInt32)] : List Int32)) (bs := (([chr8 xx, chr8 ((xx.toUInt32 >>> ((8 : Int32) &&& 31).toUInt32).toInt32)] : List Int32)).map (fun c => c.toInt8.toInt32)) (n := 2) g_b5 SZ8 E_b5_8 F_b5_value_8 F_b5_coder_8 V_b6_8 (O2.ext O__8.2) P5 rfl rfl (by decide) (by decide) hp rfl (by decide) (by decide)) (g := (mkF m 56 #[.val (.int xx), .val (.int ((xx &&& (255 : Int32)).toUInt32.toUInt16.toUInt32.toInt32)), .val (.int ((((xx.toUInt32 >>> ((8 : Int32) &&& 31).toUInt32).toInt32) &&& (255 : Int32)).toUInt32.toUInt16.toUInt32.toInt32))] [(.ref b6), (.ref b5), (.ref b5)])) rfl (by rw [hml]; rfl) (Steps.refl _) (a := b5) (argsL := [(.ref b6)]) (rest := [(.ref b5)]) (lenOf pd_18 rfl) rfl (by show 2 * 0 + _ ≤ _; exact Nat.le_of_eq rfl) (hb hby d1_56) (fun _ _ => ⟨rfl, e8, (by decide : 2 + 1 ≤ _), (by decide : 6 + 2 ≤ _)⟩)
    dsimp only [Pt.U, Pt.locs, Pt.cells, Pt.slots] at X9 l9 y9 z9 st9
    subst y9 z9
    obtain ⟨rfl, Nq9, Kc9, Es9, -, -, -, -, -, -, -, -⟩ := hQ9
    have N9 : Fr n0 L9 := by rw [l9]; exact Fr.app N8 Nq9
    refine Gl.go (fun _ k => st9.trans k) ?_
    have O__9 := O__8.keep Kc9 (allS g_b5 all0)
    have E_b5_9 := E_b5_8.keep Kc9
    have V_b6_9 := V_b6_8.keep Kc9 (ninS (Ne.symm ne_b5_b6) nin0)
    have SZ9 : n0 ≤ T9.heap.size := Nat.le_trans SZ8 Kc9.1
    have K9 : Keep h0 T9.heap [] := K8.trans Kc9 (allS (Or.inr sz_b5) all0)
    show Gl _ _ _ _ (T9.setTop (mkF m 59 #[.val (.int xx), .val (.int ((xx &&& (255 : Int32)).toUInt32.toUInt16.toUInt32.toInt32)), .val (.int ((((xx.toUInt32 >>> ((8 : Int32) &&& 31).toUInt32).toInt32) &&& (255 : Int32)).toUInt32.toUInt16.toUInt32.toInt32))] [(.ref b5)]))
    refine leafA X9 hx hlk Bd.returns rfl rfl (hb hby d1_59) ?_ (by decide) (by decide)
    exact ⟨b5, rfl, N9, K9, sz_b5, Es9⟩
def Q_law (Z : State) (w0 w1 w2 w3 w4 w5 G1 : Int32) (dE eM mO mA mL mR : Addr) (kD : ClassId) (h0 : Heap) (n0 : Nat) (v : Option Value) (h : Heap) (L : List Loc) : Prop := v = some (.int 1) ∧ Fr n0 L
set_option maxRecDepth 65536 in
set_option maxHeartbeats 40000000 in
theorem rm_law (l : Launch) (Z : State) (a0 : Array Value) (hw : ∀ d ∈ tables_1, d.before a0 Z = true) (ws : List Jvm.Cond) (w0 w1 w2 w3 w4 w5 G1 : Int32) (dE eM mO mA mL mR : Addr) (kD : ClassId) (h0 : Heap) (n0 : Nat) (Z0 : n0 ≤ h0.size) (hEL : EW Z a0 elL) (hSA : ∀ d ∈ Bundle.stringAtoms, d.before a0 Z = true) (O2 : Sta Z Z.heap "java/lang/String" "COMPACT_STRINGS" "Z" (.int G1)) (P5 : ¬ (G1 = (0 : Int32))) (O0 : Old Z n0 h0) (SD : Sta Z Z.heap "java/util/ArrayList" "DEFAULTCAPACITY_EMPTY_ELEMENTDATA" "[Ljava/lang/Object;" (.ref dE)) (VD : Arv Z Z.heap dE kD (.object "java/lang/Object") (0 : Int32) [] .null) (SE : Sta Z Z.heap "java/util/ImmutableCollections" "EMPTY" "Ljava/lang/Object;" (.ref eM)) (EM : (Exa Z Z.heap eM "java/lang/Object")) (MO : Mr Z "[Ljava/lang/Object;" mO) (MA : Mr Z "java/util/ArrayList" mA) (ML : Mr Z "java/util/Collections$UnmodifiableList" mL) (MR : Mr Z "java/util/Collections$UnmodifiableRandomAccessList" mR) :
    MetFree l x (head1 (Jvm.Cond.code x code maxLocals ret :: ws) room_1) (fun aa U => aa = #[(.int w0), (.int w1), (.int w2), (.int w3), (.int w4), (.int w5)] ∧ Z.Warmed39 U.vm ∧ U.heap = h0 ∧ CHv Z elL U.vm h0) (fun _ _ _ _ _ => True) (fun _ U o U' => ∃ v L, o = .returned v ∧ Q_law Z w0 w1 w2 w3 w4 w5 G1 dE eM mO mA mL mR kD h0 n0 v U'.heap L ∧ CHr Z elL U.vm U.heap U'.vm U'.heap ∧ ReturnedEndW U o U' L 56 1280) := by
  refine MetFree.of_bodySF (plainFor_of_name pn_17) hisR ?_
  intro p e s m args below meth c s₁ Bd hml0 hP hK
  obtain ⟨rfl, hZ, hh, hCH⟩ := hP
  have hx := Bd.exec
  have hby := Bd.bytes
  have hml : c.maxLocals = 20 := hml0
  have hown : s.vm.findClass "com/example/frosted_rows/frostedrows/release/PublishedGroupCellPinLaw" = some m.cls := findClass_of_methodNamed Bd.named
  have hnm := (name_of_methodNamed Bd.named Bd.method).1
  have hlk : meth.locks = false := BodyLoose.notSynchronized Bd
  have X0 : Stand p l e room_1 (s.setVm s.vm) m #[(.int w0), (.int w1), (.int w2), (.int w3), (.int w4), (.int w5)] below meth c s₁ [] 0 0 := Stand.of_body Bd
  have hS : s.Since s.vm 0 := (State.WarmedH.refl s).since 0
  have hk : 0 ≤ h0.size := Nat.zero_le _
  have CR0 : CHr Z elL s.vm h0 s.vm h0 := CHr.refl hCH
  have e0 : s₁.heap = h0 := by rw [← hh, Bd.state]; rfl
  have N0 := Fr.nil n0
  have K0 : Keep h0 h0 [] := Keep.refl _ _
  show Gl p.tables e below (QQofW Z elL s (Q_law Z w0 w1 w2 w3 w4 w5 G1 dE eM mO mA mL mR kD h0 n0) 56 1280) (s₁.setTop (entryFrame m #[(.int w0), (.int w1), (.int w2), (.int w3), (.int w4), (.int w5)] maxLocals))
  refine Gl.go (fun t k => castTop (ef_law m w0 w1 w2 w3 w4 w5) k) ?_
  show Gl _ _ _ _ (s₁.setTop (mkF m 0 #[.val (.int w0), .val (.int w1), .val (.int w2), .val (.int w3), .val (.int w4), .val (.int w5), .unset, .unset, .unset, .unset, .unset, .unset, .unset, .unset, .unset, .unset, .unset, .unset, .unset, .unset] []))
  refine Gl.go (fun _ k => XS.iloadN X0.here hx rfl (hb hby at_0) rfl  k) ?_
  refine Gl.go (fun _ k => XS.iconst X0.here hx rfl (hb hby at_1) k) ?_
  refine Gl.go (fun _ k => XS.iand X0.here hx rfl (hb hby at_2) rfl k) ?_
  refine Gl.go (fun _ k => XS.iconst X0.here hx rfl (hb hby at_3) k) ?_
  show Gl _ _ _ _ (s₁.setTop (mkF m 4 #[.val (.int w0), .val (.int w1), .val (.int w2), .val (.int w3), .val (.int w4), .val (.int w5), .unset, .unset, .unset, .unset, .unset, .unset, .unset, .unset, .unset, .unset, .unset, .unset, .unset, .unset] [(.int (3 : Int32)), (.int (w3 &&& (3 : Int32)))]))
  refine Gl.go (fun _ k => iremM X0 hx rfl (hb hby at_4) rfl (by decide) k) ?_
  refine Gl.go (fun _ k => XS.iconst X0.here hx rfl (hb hby at_5) k) ?_
  refine Gl.go (fun _ k => XS.iadd X0.here hx rfl (hb hby at_6) rfl k) ?_
  show Gl _ _ _ _ (s₁.setTop (mkF m 7 #[.val (.int w0), .val (.int w1), .val (.int w2), .val (.int w3), .val (.int w4), .val (.int w5), .unset, .unset, .unset, .unset, .unset, .unset, .unset, .unset, .unset, .unset, .unset, .unset, .unset, .unset] [(.int (((w3 &&& (3 : Int32)) % (3 : Int32)) + (1 : Int32)))]))
  have hn3 := own_n w3
  generalize h_nq7 : (((w3 &&& (3 : Int32)) % (3 : Int32)) + (1 : Int32)) = nq7 at hn3 ⊢
  show Gl _ _ _ _ (s₁.setTop (mkF m 7 #[.val (.int w0), .val (.int w1), .val (.int w2), .val (.int w3), .val (.int w4), .val (.int w5), .unset, .unset, .unset, .unset, .unset, .unset, .unset, .unset, .unset, .unset, .unset, .unset, .unset, .unset] [(.int nq7)]))
  refine Gl.go (fun _ k => XS.istore X0.here hx rfl (hb hby at_7) rfl (l' := #[.val (.int w0), .val (.int w1), .val (.int w2), .val (.int w3), .val (.int w4), .val (.int w5), .val (.int nq7), .unset, .unset, .unset, .unset, .unset, .unset, .unset, .unset, .unset, .unset, .unset, .unset, .unset]) rfl k) ?_
  refine Gl.go (fun _ k => XS.iloadN X0.here hx rfl (hb hby at_9) rfl  k) ?_
  obtain ⟨_, _, ⟨T1, L1, k1, n1⟩, -, X1, ⟨Lc1, hQ1, l1, y1, z1⟩, st1⟩ := Jvm.LawKit.callS X0 hx (y := (⟨"com/example/frosted_rows/frostedrows/release/PublishedGroupCellPinLaw", "str", "(I)Ljava/lang/String;"⟩ : MethodName)) hown (mvT hZ (hw _ (List.mem_of_getElem? (i := 0) rfl))) (mvT hZ (hw _ (List.mem_of_getElem? (i := 1) rfl))) (mvT hZ (hw _ (List.mem_of_getElem? (i := 2) rfl))) (mvT hZ (hw _ (List.mem_of_getElem? (i := 3) rfl))) (by decide) (backOf (W := 0) (rm_str l Z a0 hw [] w0 G1 h0 n0 Z0 O2 P5 O0) hZ (hw _ (List.mem_of_getElem? (i := 3) rfl)) (hw _ (List.mem_of_getElem? (i := 2) rfl)) (by decide) (by decide)) (g := (mkF m 10 #[.val (.int w0), .val (.int w1), .val (.int w2), .val (.int w3), .val (.int w4), .val (.int w5), .val (.int nq7), .unset, .unset, .unset, .unset, .unset, .unset, .unset, .unset, .unset, .unset, .unset, .unset, .unset] [(.int w0)])) rfl (by rw [hml]; rfl) (argsL := [(.int w0)]) (rest := []) (lenOf pd_19 rfl) rfl (by show 2 * 0 + _ ≤ _; exact Nat.le_of_eq rfl) (hb hby at_10) (fun _ _ => ⟨rfl, e0, (by decide : 0 + 3 ≤ _), (by decide : 0 + 8 ≤ _)⟩)
  dsimp only [Pt.U, Pt.locs, Pt.cells, Pt.slots] at X1 l1 y1 z1 st1 hQ1
  subst y1 z1
  obtain ⟨x1, rfl, Nq1, Kc1, gz1, Sx1⟩ := hQ1
  have N1 : Fr n0 L1 := by rw [l1]; exact Fr.app N0 Nq1
  refine Gl.go (fun _ k => st1 _ k) ?_
  have Ex1 := ext_of_keep Kc1
  have O__1 := O0.ext Ex1
  have SZ1 : n0 ≤ T1.heap.size := Nat.le_trans Z0 Ex1.1
  have K1 : Keep h0 T1.heap [] := K0.ext Ex1
  have hk := Nat.le_trans hk Ex1.1
  have CR1 : CHr Z elL s.vm h0 s.vm T1.heap := CR0.trans (CHr.ext Ex1 CR0.1)
  show Gl _ _ _ _ (T1.setTop (mkF m 13 #[.val (.int w0), .val (.int w1), .val (.int w2), .val (.int w3), .val (.int w4), .val (.int w5), .val (.int nq7), .unset, .unset, .unset, .unset, .unset, .unset, .unset, .unset, .unset, .unset, .unset, .unset, .unset] [(.ref x1)]))
  have g_x1 : n0 ≤ x1 := Nat.le_trans Z0 gz1
  have sz_x1 : h0.size ≤ x1 := Nat.le_trans K0.1 gz1
  refine Gl.go (fun _ k => XS.astore X1.here hx rfl (hb hby at_13) rfl rfl (l' := #[.val (.int w0), .val (.int w1), .val (.int w2), .val (.int w3), .val (.int w4), .val (.int w5), .val (.int nq7), .val (.ref x1), .unset, .unset, .unset, .unset, .unset, .unset, .unset, .unset, .unset, .unset, .unset, .unset]) rfl k) ?_
  refine Gl.go (fun _ k => XS.iloadN X1.here hx rfl (hb hby at_15) rfl  k) ?_
  obtain ⟨_, _, ⟨T2, L2, k2, n2⟩, -, X2, ⟨Lc2, hQ2, l2, y2, z2⟩, st2⟩ := Jvm.LawKit.callS X1 hx (y := (⟨"com/example/frosted_rows/frostedrows/release/PublishedGroupCellPinLaw", "str", "(I)Ljava/lang/String;"⟩ : MethodName)) hown (mvT hZ (hw _ (List.mem_of_getElem? (i := 0) rfl))) (mvT hZ (hw _ (List.mem_of_getElem? (i := 1) rfl))) (mvT hZ (hw _ (List.mem_of_getElem? (i := 2) rfl))) (mvT hZ (hw _ (List.mem_of_getElem? (i := 3) rfl))) (by decide) (backOf (W := 0) (rm_str l Z a0 hw [] w1 G1 T1.heap n0 SZ1 O2 P5 O__1) hZ (hw _ (List.mem_of_getElem? (i := 3) rfl)) (hw _ (List.mem_of_getElem? (i := 2) rfl)) (by decide) (by decide)) (g := (mkF m 16 #[.val (.int w0), .val (.int w1), .val (.int w2), .val (.int w3), .val (.int w4), .val (.int w5), .val (.int nq7), .val (.ref x1), .unset, .unset, .unset, .unset, .unset, .unset, .unset, .unset, .unset, .unset, .unset, .unset] [(.int w1)])) rfl (by rw [hml]; rfl) (argsL := [(.int w1)]) (rest := []) (lenOf pd_19 rfl) rfl (by show 2 * 0 + _ ≤ _; exact Nat.le_of_eq rfl) (hb hby at_16) (fun _ _ => ⟨rfl, rfl, (by decide : 3 + 3 ≤ _), (by decide : 8 + 8 ≤ _)⟩)
  dsimp only [Pt.U, Pt.locs, Pt.cells, Pt.slots] at X2 l2 y2 z2 st2 hQ2
  subst y2 z2
  obtain ⟨x2, rfl, Nq2, Kc2, gz2, Sx2⟩ := hQ2
  have N2 : Fr n0 L2 := by rw [l2]; exact Fr.app N1 Nq2
  refine Gl.go (fun _ k => st2 _ k) ?_
  have Ex2 := ext_of_keep Kc2
  have O__2 := O__1.ext Ex2
  have E_x1_2 := Sx1.ext Ex2
  have SZ2 : n0 ≤ T2.heap.size := Nat.le_trans SZ1 Ex2.1
  have K2 : Keep h0 T2.heap [] := K1.ext Ex2
  have hk := Nat.le_trans hk Ex2.1
  have CR2 : CHr Z elL s.vm h0 s.vm T2.heap := CR1.trans (CHr.ext Ex2 CR1.1)
  show Gl _ _ _ _ (T2.setTop (mkF m 19 #[.val (.int w0), .val (.int w1), .val (.int w2), .val (.int w3), .val (.int w4), .val (.int w5), .val (.int nq7), .val (.ref x1), .unset, .unset, .unset, .unset, .unset, .unset, .unset, .unset, .unset, .unset, .unset, .unset] [(.ref x2)]))
  have g_x2 : n0 ≤ x2 := Nat.le_trans SZ1 gz2
  have sz_x2 : h0.size ≤ x2 := Nat.le_trans K1.1 gz2
  have ne_x1_x2 : x1 ≠ x2 := Nat.ne_of_lt (Nat.lt_of_lt_of_le Sx1.lt gz2)
  refine Gl.go (fun _ k => XS.astore X2.here hx rfl (hb hby at_19) rfl rfl (l' := #[.val (.int w0), .val (.int w1), .val (.int w2), .val (.int w3), .val (.int w4), .val (.int w5), .val (.int nq7), .val (.ref x1), .val (.ref x2), .unset, .unset, .unset, .unset, .unset, .unset, .unset, .unset, .unset, .unset, .unset]) rfl k) ?_
  refine Gl.go (fun _ k => XS.iloadN X2.here hx rfl (hb hby at_21) rfl  k) ?_
  obtain ⟨_, _, ⟨T3, L3, k3, n3⟩, -, X3, ⟨Lc3, hQ3, l3, y3, z3⟩, st3⟩ := Jvm.LawKit.callS X2 hx (y := (⟨"com/example/frosted_rows/frostedrows/release/PublishedGroupCellPinLaw", "str", "(I)Ljava/lang/String;"⟩ : MethodName)) hown (mvT hZ (hw _ (List.mem_of_getElem? (i := 0) rfl))) (mvT hZ (hw _ (List.mem_of_getElem? (i := 1) rfl))) (mvT hZ (hw _ (List.mem_of_getElem? (i := 2) rfl))) (mvT hZ (hw _ (List.mem_of_getElem? (i := 3) rfl))) (by decide) (backOf (W := 0) (rm_str l Z a0 hw [] w2 G1 T2.heap n0 SZ2 O2 P5 O__2) hZ (hw _ (List.mem_of_getElem? (i := 3) rfl)) (hw _ (List.mem_of_getElem? (i := 2) rfl)) (by decide) (by decide)) (g := (mkF m 22 #[.val (.int w0), .val (.int w1), .val (.int w2), .val (.int w3), .val (.int w4), .val (.int w5), .val (.int nq7), .val (.ref x1), .val (.ref x2), .unset, .unset, .unset, .unset, .unset, .unset, .unset, .unset, .unset, .unset, .unset] [(.int w2)])) rfl (by rw [hml]; rfl) (argsL := [(.int w2)]) (rest := []) (lenOf pd_19 rfl) rfl (by show 2 * 0 + _ ≤ _; exact Nat.le_of_eq rfl) (hb hby at_22) (fun _ _ => ⟨rfl, rfl, (by decide : 6 + 3 ≤ _), (by decide : 16 + 8 ≤ _)⟩)
  dsimp only [Pt.U, Pt.locs, Pt.cells, Pt.slots] at X3 l3 y3 z3 st3 hQ3
  subst y3 z3
  obtain ⟨x3, rfl, Nq3, Kc3, gz3, Sx3⟩ := hQ3
  have N3 : Fr n0 L3 := by rw [l3]; exact Fr.app N2 Nq3
  refine Gl.go (fun _ k => st3 _ k) ?_
  have Ex3 := ext_of_keep Kc3
  have O__3 := O__2.ext Ex3
  have E_x1_3 := E_x1_2.ext Ex3
  have E_x2_3 := Sx2.ext Ex3
  have SZ3 : n0 ≤ T3.heap.size := Nat.le_trans SZ2 Ex3.1
  have K3 : Keep h0 T3.heap [] := K2.ext Ex3
  have hk := Nat.le_trans hk Ex3.1
  have CR3 : CHr Z elL s.vm h0 s.vm T3.heap := CR2.trans (CHr.ext Ex3 CR2.1)
  show Gl _ _ _ _ (T3.setTop (mkF m 25 #[.val (.int w0), .val (.int w1), .val (.int w2), .val (.int w3), .val (.int w4), .val (.int w5), .val (.int nq7), .val (.ref x1), .val (.ref x2), .unset, .unset, .unset, .unset, .unset, .unset, .unset, .unset, .unset, .unset, .unset] [(.ref x3)]))
  have g_x3 : n0 ≤ x3 := Nat.le_trans SZ2 gz3
  have sz_x3 : h0.size ≤ x3 := Nat.le_trans K2.1 gz3
  have ne_x1_x3 : x1 ≠ x3 := Nat.ne_of_lt (Nat.lt_of_lt_of_le E_x1_2.lt gz3)
  have ne_x2_x3 : x2 ≠ x3 := Nat.ne_of_lt (Nat.lt_of_lt_of_le Sx2.lt gz3)
  refine Gl.go (fun _ k => XS.astore X3.here hx rfl (hb hby at_25) rfl rfl (l' := #[.val (.int w0), .val (.int w1), .val (.int w2), .val (.int w3), .val (.int w4), .val (.int w5), .val (.int nq7), .val (.ref x1), .val (.ref x2), .val (.ref x3), .unset, .unset, .unset, .unset, .unset, .unset, .unset, .unset, .unset, .unset]) rfl k) ?_
  obtain ⟨T4, h4, X4, e4, E4, A4, D4, -, st4⟩ := newO X3 hx hZ hown (hw _ (List.mem_of_getElem? (i := 34) rfl)) (hw _ (List.mem_of_getElem? (i := 35) rfl)) (hw _ (List.mem_of_getElem? (i := 36) rfl)) rfl (g := (mkF m 27 #[.val (.int w0), .val (.int w1), .val (.int w2), .val (.int w3), .val (.int w4), .val (.int w5), .val (.int nq7), .val (.ref x1), .val (.ref x2), .val (.ref x3), .unset, .unset, .unset, .unset, .unset, .unset, .unset, .unset, .unset, .unset] [])) rfl (hb hby at_27) (by decide) (by decide)
  obtain ⟨b4, g4⟩ : ∃ z, z = T3.heap.size := ⟨_, rfl⟩
  rw [← g4] at A4 D4 st4
  have g_b4 : n0 ≤ b4 := Nat.le_trans SZ3 (Nat.le_of_eq g4.symm)
  have sz_b4 : h0.size ≤ b4 := Nat.le_trans K3.1 (Nat.le_of_eq g4.symm)
  have ne_x1_b4 : x1 ≠ b4 := Nat.ne_of_lt (Nat.lt_of_lt_of_le E_x1_3.lt (Nat.le_of_eq g4.symm))
  have ne_x2_b4 : x2 ≠ b4 := Nat.ne_of_lt (Nat.lt_of_lt_of_le E_x2_3.lt (Nat.le_of_eq g4.symm))
  have ne_x3_b4 : x3 ≠ b4 := Nat.ne_of_lt (Nat.lt_of_lt_of_le Sx3.lt (Nat.le_of_eq g4.symm))
  have O__4 := O__3.ext E4
  have E_x1_4 := E_x1_3.ext E4
  have E_x2_4 := E_x2_3.ext E4
  have E_x3_4 := Sx3.ext E4
  have SZ4 : n0 ≤ h4.size := Nat.le_trans SZ3 E4.1
  have K4 : Keep h0 h4 [] := K3.ext E4
  have hk := Nat.le_trans hk E4.1
  have CR4 : CHr Z elL s.vm h0 s.vm h4 := CR3.trans (CHr.ext E4 CR3.1)
  have F_b4_modCount_4 : Fld Z h4 b4 "java/util/AbstractList" "modCount" "I" (.int (0 : Int32)) := D4 (Or.inl (hw _ (List.mem_of_getElem? (i := 54) rfl))) (ty := .int) (by decide)
  have F_b4_elementData_4 : Fld Z h4 b4 "java/util/ArrayList" "elementData" "[Ljava/lang/Object;" .null := D4 (Or.inl (hw _ (List.mem_of_getElem? (i := 57) rfl))) (ty := (.array (.object "java/lang/Object"))) (by decide)
  have F_b4_size_4 : Fld Z h4 b4 "java/util/ArrayList" "size" "I" (.int (0 : Int32)) := D4 (Or.inl (hw _ (List.mem_of_getElem? (i := 66) rfl))) (ty := .int) (by decide)
  refine Gl.go (fun _ k => st4 _ k) ?_
  show Gl _ _ _ _ (T4.setTop (mkF m 30 #[.val (.int w0), .val (.int w1), .val (.int w2), .val (.int w3), .val (.int w4), .val (.int w5), .val (.int nq7), .val (.ref x1), .val (.ref x2), .val (.ref x3), .unset, .unset, .unset, .unset, .unset, .unset, .unset, .unset, .unset, .unset] [(.ref b4)]))
  refine Gl.go (fun _ k => XS.dup X4.here hx rfl (hb hby at_30) rfl rfl k) ?_
  obtain ⟨_, _, ⟨T5, L5, k5, n5⟩, -, X5, ⟨Lc5, hQ5, l5, y5, z5⟩, st5⟩ := X4.specialBack hx (y := (⟨"java/util/ArrayList", "<init>", "()V"⟩ : MethodName)) rfl hown (mvT hZ (hw _ (List.mem_of_getElem? (i := 37) rfl))) (mvT hZ (hw _ (List.mem_of_getElem? (i := 38) rfl))) (mvT hZ (hw _ (List.mem_of_getElem? (i := 39) rfl))) (by decide) (backOf (W := 1) (rm_ali l Z a0 hw [] b4 dE h4 n0 SZ4 A4 F_b4_modCount_4 F_b4_elementData_4 F_b4_size_4 g_b4 SD O__4) hZ (hw _ (List.mem_of_getElem? (i := 39) rfl)) (hw _ (List.mem_of_getElem? (i := 36) rfl)) (by decide) (by decide)) (g := (mkF m 31 #[.val (.int w0), .val (.int w1), .val (.int w2), .val (.int w3), .val (.int w4), .val (.int w5), .val (.int nq7), .val (.ref x1), .val (.ref x2), .val (.ref x3), .unset, .unset, .unset, .unset, .unset, .unset, .unset, .unset, .unset, .unset] [(.ref b4), (.ref b4)])) rfl (by rw [hml]; rfl) (Steps.refl _) (a := b4) (argsL := []) (rest := [(.ref b4)]) (lenOf pd_0 rfl) rfl (by show 2 * 0 + _ ≤ _; exact Nat.le_of_eq rfl) (hb hby at_31) (fun _ _ => ⟨rfl, e4, (by decide : 10 + 0 ≤ _), (by decide : 27 + 0 ≤ _)⟩)
  dsimp only [Pt.U, Pt.locs, Pt.cells, Pt.slots] at X5 l5 y5 z5 st5 hQ5
  subst y5 z5
  obtain ⟨rfl, Nq5, Kc5, Ea5, Ma5, Da5, Sa5⟩ := hQ5
  have N5 : Fr n0 L5 := by rw [l5]; exact Fr.app N3 Nq5
  refine Gl.go (fun _ k => st5.trans k) ?_
  have O__5 := O__4.keep Kc5 (allS g_b4 all0)
  have E_x1_5 := E_x1_4.keep Kc5
  have E_x2_5 := E_x2_4.keep Kc5
  have E_x3_5 := E_x3_4.keep Kc5
  have E_b4_5 := A4.keep Kc5
  have SZ5 : n0 ≤ T5.heap.size := Nat.le_trans SZ4 Kc5.1
  have K5 : Keep h0 T5.heap [] := K4.trans Kc5 (allS (Or.inr sz_b4) all0)
  have hk := Nat.le_trans hk Kc5.1
  have CR5 : CHr Z elL s.vm h0 s.vm T5.heap := CR4.trans (CHr.keep Kc5 (sfS (Safe.exa hZ.alike A4 (by decide) (by decide)) sf0) CR4.1)
  show Gl _ _ _ _ (T5.setTop (mkF m 34 #[.val (.int w0), .val (.int w1), .val (.int w2), .val (.int w3), .val (.int w4), .val (.int w5), .val (.int nq7), .val (.ref x1), .val (.ref x2), .val (.ref x3), .unset, .unset, .unset, .unset, .unset, .unset, .unset, .unset, .unset, .unset] [(.ref b4)]))
  refine Gl.go (fun _ k => XS.astore X5.here hx rfl (hb hby at_34) rfl rfl (l' := #[.val (.int w0), .val (.int w1), .val (.int w2), .val (.int w3), .val (.int w4), .val (.int w5), .val (.int nq7), .val (.ref x1), .val (.ref x2), .val (.ref x3), .val (.ref b4), .unset, .unset, .unset, .unset, .unset, .unset, .unset, .unset, .unset]) rfl k) ?_
  refine Gl.go (fun _ k => XS.aload X5.here hx rfl (hb hby at_36) rfl rfl  k) ?_
  refine Gl.go (fun _ k => XS.aload X5.here hx rfl (hb hby at_38) rfl rfl  k) ?_
  obtain ⟨cq6, kq6, q6a, q6b, q6c⟩ := isOf (s := s.setVm s.vm) hZ rfl Ea5
  obtain ⟨_, _, ⟨T6, L6, k6, n6⟩, -, X6, ⟨Lc6, hQ6, l6, y6, z6⟩, st6⟩ := X5.virtualBack hx (y := (⟨"java/util/ArrayList", "add", "(Ljava/lang/Object;)Z"⟩ : MethodName)) (z := (⟨"java/util/ArrayList", "add", "(Ljava/lang/Object;)Z"⟩ : MethodName)) hown (mvT hZ (hw _ (List.mem_of_getElem? (i := 58) rfl))) (mvT hZ (hw _ (List.mem_of_getElem? (i := 59) rfl))) (notFace_of_selects (args := #[]) (mvT hZ (hw _ (List.mem_of_getElem? (i := 61) rfl)))) (mvT hZ (hw _ (List.mem_of_getElem? (i := 61) rfl))) (mvT hZ (hw _ (List.mem_of_getElem? (i := 60) rfl))) (by decide) (backOf (W := 0) (rm_ad1 l Z a0 hw [] b4 (0 : Int32) dE kD x1 T5.heap n0 SZ5 Ea5 Ma5 Da5 Sa5 g_b4 SD VD O__5 E_x1_5) hZ (hw _ (List.mem_of_getElem? (i := 62) rfl)) (hw _ (List.mem_of_getElem? (i := 36) rfl)) (by decide) (by decide)) q6a q6c (g := (mkF m 40 #[.val (.int w0), .val (.int w1), .val (.int w2), .val (.int w3), .val (.int w4), .val (.int w5), .val (.int nq7), .val (.ref x1), .val (.ref x2), .val (.ref x3), .val (.ref b4), .unset, .unset, .unset, .unset, .unset, .unset, .unset, .unset, .unset] [(.ref x1), (.ref b4)])) rfl (by rw [hml]; rfl) (Steps.refl _) (argsL := [(.ref x1)]) (rest := []) (lenOf pd_20 rfl) rfl (by show 2 * 0 + _ ≤ _; exact Nat.le_of_eq rfl) (hb hby at_40) (fun _ _ => ⟨rfl, rfl, (by decide : 10 + 1 ≤ _), (by decide : 27 + 10 ≤ _)⟩)
  dsimp only [Pt.U, Pt.locs, Pt.cells, Pt.slots] at X6 l6 y6 z6 st6 hQ6
  subst y6 z6
  obtain ⟨b6, kc6, rfl, Nq6, Kc6, gz6, Ea6, Ma6, Da6, Sa6, Vc6, Oc6, Xc6⟩ := hQ6
  have N6 : Fr n0 L6 := by rw [l6]; exact Fr.app N5 Nq6
  refine Gl.go (fun _ k => st6.trans k) ?_
  have O__6 := O__5.keep Kc6 (allS g_b4 all0)
  have E_x1_6 := E_x1_5.keep Kc6
  have E_x2_6 := E_x2_5.keep Kc6
  have E_x3_6 := E_x3_5.keep Kc6
  have E_b4_6 := Ea5.keep Kc6
  have SZ6 : n0 ≤ T6.heap.size := Nat.le_trans SZ5 Kc6.1
  have K6 : Keep h0 T6.heap [] := K5.trans Kc6 (allS (Or.inr sz_b4) all0)
  have hk := Nat.le_trans hk Kc6.1
  have CR6 : CHr Z elL s.vm h0 s.vm T6.heap := CR5.trans (CHr.keep Kc6 (sfS (Safe.exa hZ.alike Ea5 (by decide) (by decide)) sf0) CR5.1)
  show Gl _ _ _ _ (T6.setTop (mkF m 43 #[.val (.int w0), .val (.int w1), .val (.int w2), .val (.int w3), .val (.int w4), .val (.int w5), .val (.int nq7), .val (.ref x1), .val (.ref x2), .val (.ref x3), .val (.ref b4), .unset, .unset, .unset, .unset, .unset, .unset, .unset, .unset, .unset] [(.int (1 : Int32))]))
  have g_b6 : n0 ≤ b6 := Nat.le_trans SZ5 gz6
  have sz_b6 : h0.size ≤ b6 := Nat.le_trans K5.1 gz6
  have ne_b4_b6 : b4 ≠ b6 := Nat.ne_of_lt (Nat.lt_of_lt_of_le Ea5.lt gz6)
  have ne_x1_b6 : x1 ≠ b6 := Nat.ne_of_lt (Nat.lt_of_lt_of_le E_x1_5.lt gz6)
  have ne_x2_b6 : x2 ≠ b6 := Nat.ne_of_lt (Nat.lt_of_lt_of_le E_x2_5.lt gz6)
  have ne_x3_b6 : x3 ≠ b6 := Nat.ne_of_lt (Nat.lt_of_lt_of_le E_x3_5.lt gz6)
  refine Gl.go (fun _ k => XS.pop X6.here hx rfl (hb hby at_43) rfl rfl k) ?_
  refine Gl.go (fun _ k => XS.iload X6.here hx rfl (hb hby at_44) rfl  k) ?_
  refine Gl.go (fun _ k => XS.iconst X6.here hx rfl (hb hby at_46) k) ?_
  show Gl _ _ _ _ (T6.setTop (mkF m 47 #[.val (.int w0), .val (.int w1), .val (.int w2), .val (.int w3), .val (.int w4), .val (.int w5), .val (.int nq7), .val (.ref x1), .val (.ref x2), .val (.ref x3), .val (.ref b4), .unset, .unset, .unset, .unset, .unset, .unset, .unset, .unset, .unset] [(.int (2 : Int32)), (.int nq7)]))
  rcases hn3 with hn | hn | hn
  · skip
    rw [(hn : nq7 = (1 : Int32))]
    show Gl _ _ _ _ (T6.setTop (mkF m 47 #[.val (.int w0), .val (.int w1), .val (.int w2), .val (.int w3), .val (.int w4), .val (.int w5), .val (.int (1 : Int32)), .val (.ref x1), .val (.ref x2), .val (.ref x3), .val (.ref b4), .unset, .unset, .unset, .unset, .unset, .unset, .unset, .unset, .unset] [(.int (2 : Int32)), (.int (1 : Int32))]))
    refine Gl.go (fun _ k => XS.icmpYes X6.here hx rfl (pc0 := 47) (pc' := 58) rfl (hb hby at_47) rfl (tlt (by decide)).1 (by decide) (by decide) k) ?_
    show Gl _ _ _ _ (T6.setTop (mkF m 58 #[.val (.int w0), .val (.int w1), .val (.int w2), .val (.int w3), .val (.int w4), .val (.int w5), .val (.int (1 : Int32)), .val (.ref x1), .val (.ref x2), .val (.ref x3), .val (.ref b4), .unset, .unset, .unset, .unset, .unset, .unset, .unset, .unset, .unset] []))
    refine Gl.go (fun _ k => XS.iload X6.here hx rfl (hb hby at_58) rfl  k) ?_
    refine Gl.go (fun _ k => XS.iconst X6.here hx rfl (hb hby at_60) k) ?_
    refine Gl.go (fun _ k => XS.icmpYes X6.here hx rfl (pc0 := 61) (pc' := 72) rfl (hb hby at_61) rfl (tlt (by decide)).1 (by decide) (by decide) k) ?_
    show Gl _ _ _ _ (T6.setTop (mkF m 72 #[.val (.int w0), .val (.int w1), .val (.int w2), .val (.int w3), .val (.int w4), .val (.int w5), .val (.int (1 : Int32)), .val (.ref x1), .val (.ref x2), .val (.ref x3), .val (.ref b4), .unset, .unset, .unset, .unset, .unset, .unset, .unset, .unset, .unset] []))
    refine Gl.go (fun _ k => XS.bipush X6.here hx rfl (hb hby at_72) k) ?_
    obtain ⟨T7, h7, cA7, X7, e7, E7, A7, st7⟩ := newP X6 hx hZ (hw _ (List.mem_of_getElem? (i := 89) rfl)) rfl (g := (mkF m 74 #[.val (.int w0), .val (.int w1), .val (.int w2), .val (.int w3), .val (.int w4), .val (.int w5), .val (.int (1 : Int32)), .val (.ref x1), .val (.ref x2), .val (.ref x3), .val (.ref b4), .unset, .unset, .unset, .unset, .unset, .unset, .unset, .unset, .unset] [(.int (6 : Int32))])) rfl (hb hby at_74) rfl (by decide) (cap := 6) (by decide) (by decide) (by decide) (by decide)
    obtain ⟨b7, g7⟩ : ∃ z, z = T6.heap.size := ⟨_, rfl⟩
    rw [← g7] at A7 st7
    have g_b7 : n0 ≤ b7 := Nat.le_trans SZ6 (Nat.le_of_eq g7.symm)
    have sz_b7 : h0.size ≤ b7 := Nat.le_trans K6.1 (Nat.le_of_eq g7.symm)
    have ne_b4_b7 : b4 ≠ b7 := Nat.ne_of_lt (Nat.lt_of_lt_of_le Ea6.lt (Nat.le_of_eq g7.symm))
    have ne_b6_b7 : b6 ≠ b7 := Nat.ne_of_lt (Nat.lt_of_lt_of_le Vc6.lt (Nat.le_of_eq g7.symm))
    have ne_x1_b7 : x1 ≠ b7 := Nat.ne_of_lt (Nat.lt_of_lt_of_le E_x1_6.lt (Nat.le_of_eq g7.symm))
    have ne_x2_b7 : x2 ≠ b7 := Nat.ne_of_lt (Nat.lt_of_lt_of_le E_x2_6.lt (Nat.le_of_eq g7.symm))
    have ne_x3_b7 : x3 ≠ b7 := Nat.ne_of_lt (Nat.lt_of_lt_of_le E_x3_6.lt (Nat.le_of_eq g7.symm))
    have O__7 := O__6.ext E7
    have E_x1_7 := E_x1_6.ext E7
    have E_x2_7 := E_x2_6.ext E7
    have E_x3_7 := E_x3_6.ext E7
    have E_b4_7 := Ea6.ext E7
    have F_b4_modCount_7 := Ma6.ext E7
    have F_b4_elementData_7 := Da6.ext E7
    have F_b4_size_7 := Sa6.ext E7
    have V_b6_7 := Vc6.ext E7
    have E_b6_7 := Xc6.ext E7
    have SZ7 : n0 ≤ h7.size := Nat.le_trans SZ6 E7.1
    have K7 : Keep h0 h7 [] := K6.ext E7
    have hk := Nat.le_trans hk E7.1
    have CR7 : CHr Z elL s.vm h0 s.vm h7 := CR6.trans (CHr.ext E7 CR6.1)
    have V_b7_7 : Arv Z h7 b7 cA7 .int (6 : Int32) [(.int (0 : Int32)), (.int (0 : Int32)), (.int (0 : Int32)), (.int (0 : Int32)), (.int (0 : Int32)), (.int (0 : Int32))] (.int (0 : Int32)) := (Arv.new A7 (by decide)).pad (pad_rep [] _ 6)
    refine Gl.go (fun _ k => st7 _ k) ?_
    show Gl _ _ _ _ (T7.setTop (mkF m 76 #[.val (.int w0), .val (.int w1), .val (.int w2), .val (.int w3), .val (.int w4), .val (.int w5), .val (.int (1 : Int32)), .val (.ref x1), .val (.ref x2), .val (.ref x3), .val (.ref b4), .unset, .unset, .unset, .unset, .unset, .unset, .unset, .unset, .unset] [(.ref b7)]))
    refine Gl.go (fun _ k => XS.astore X7.here hx rfl (hb hby at_76) rfl rfl (l' := #[.val (.int w0), .val (.int w1), .val (.int w2), .val (.int w3), .val (.int w4), .val (.int w5), .val (.int (1 : Int32)), .val (.ref x1), .val (.ref x2), .val (.ref x3), .val (.ref b4), .val (.ref b7), .unset, .unset, .unset, .unset, .unset, .unset, .unset, .unset]) rfl k) ?_
    refine Gl.go (fun _ k => XS.aload X7.here hx rfl (hb hby at_78) rfl rfl  k) ?_
    refine Gl.go (fun _ k => XS.iconst X7.here hx rfl (hb hby at_80) k) ?_
    refine Gl.go (fun _ k => XS.iload X7.here hx rfl (hb hby at_81) rfl  k) ?_
    show Gl _ _ _ _ (T7.setTop (mkF m 83 #[.val (.int w0), .val (.int w1), .val (.int w2), .val (.int w3), .val (.int w4), .val (.int w5), .val (.int (1 : Int32)), .val (.ref x1), .val (.ref x2), .val (.ref x3), .val (.ref b4), .val (.ref b7), .unset, .unset, .unset, .unset, .unset, .unset, .unset, .unset] [(.int w5), (.int (0 : Int32)), (.ref b7)]))
    obtain ⟨cl8, Ar8, qA8, SA8, NA8, HA8, GA8⟩ := id V_b7_7
    obtain ⟨T8, h8, X8, e8, W8, st8⟩ := stI X7 hx hZ e7 Ar8 (j := (0 : Int32)) (inb_of SA8 ⟨by decide, by decide⟩) (g := (mkF m 83 #[.val (.int w0), .val (.int w1), .val (.int w2), .val (.int w3), .val (.int w4), .val (.int w5), .val (.int (1 : Int32)), .val (.ref x1), .val (.ref x2), .val (.ref x3), .val (.ref b4), .val (.ref b7), .unset, .unset, .unset, .unset, .unset, .unset, .unset, .unset] [(.int w5), (.int (0 : Int32)), (.ref b7)])) rfl rfl (hb hby at_83)
    have O__8 := O__7.wr W8 g_b7
    have E_x1_8 := E_x1_7.wr W8
    have E_x2_8 := E_x2_7.wr W8
    have E_x3_8 := E_x3_7.wr W8
    have E_b4_8 := E_b4_7.wr W8
    have F_b4_modCount_8 := F_b4_modCount_7.other W8 (Or.inl ne_b4_b7)
    have F_b4_elementData_8 := F_b4_elementData_7.other W8 (Or.inl ne_b4_b7)
    have F_b4_size_8 := F_b4_size_7.other W8 (Or.inl ne_b4_b7)
    have V_b6_8 := V_b6_7.other W8 ne_b6_b7
    have E_b6_8 := E_b6_7.wr W8
    have SZ8 : n0 ≤ h8.size := by rw [Wr.size W8]; exact SZ7
    have K8 : Keep h0 h8 [] := K7.wr W8 (Or.inr sz_b7)
    have N8 := Fr.snoc X8 N6 g_b7
    have hk := Nat.le_trans hk (Nat.le_of_eq (Wr.size W8).symm)
    have CR8 : CHr Z elL s.vm h0 s.vm h8 := CR7.trans (CHr.wr W8 (Safe.arv hZ.alike V_b7_7 (by decide)) CR7.1)
    have V_b7_8 : Arv Z h8 b7 cA7 .int (6 : Int32) [(.int w5), (.int (0 : Int32)), (.int (0 : Int32)), (.int (0 : Int32)), (.int (0 : Int32)), (.int (0 : Int32))] (.int (0 : Int32)) := Arv.set Ar8 qA8 SA8 NA8 HA8 GA8 rfl W8 0 rfl (Nat.le_of_ble_eq_true rfl)
    refine Gl.go (fun _ k => st8 _ k) ?_
    show Gl _ _ _ _ (T8.setTop (mkF m 84 #[.val (.int w0), .val (.int w1), .val (.int w2), .val (.int w3), .val (.int w4), .val (.int w5), .val (.int (1 : Int32)), .val (.ref x1), .val (.ref x2), .val (.ref x3), .val (.ref b4), .val (.ref b7), .unset, .unset, .unset, .unset, .unset, .unset, .unset, .unset] []))
    obtain ⟨T9, h9, X9, e9, E9, A9, D9, -, st9⟩ := newO X8 hx hZ hown (hw _ (List.mem_of_getElem? (i := 34) rfl)) (hw _ (List.mem_of_getElem? (i := 35) rfl)) (hw _ (List.mem_of_getElem? (i := 36) rfl)) e8 (g := (mkF m 84 #[.val (.int w0), .val (.int w1), .val (.int w2), .val (.int w3), .val (.int w4), .val (.int w5), .val (.int (1 : Int32)), .val (.ref x1), .val (.ref x2), .val (.ref x3), .val (.ref b4), .val (.ref b7), .unset, .unset, .unset, .unset, .unset, .unset, .unset, .unset] [])) rfl (hb hby at_84) (by decide) (by decide)
    obtain ⟨b9, g9⟩ : ∃ z, z = h8.size := ⟨_, rfl⟩
    rw [← g9] at A9 D9 st9
    have g_b9 : n0 ≤ b9 := Nat.le_trans SZ8 (Nat.le_of_eq g9.symm)
    have sz_b9 : h0.size ≤ b9 := Nat.le_trans K8.1 (Nat.le_of_eq g9.symm)
    have ne_b4_b9 : b4 ≠ b9 := Nat.ne_of_lt (Nat.lt_of_lt_of_le E_b4_8.lt (Nat.le_of_eq g9.symm))
    have ne_b6_b9 : b6 ≠ b9 := Nat.ne_of_lt (Nat.lt_of_lt_of_le V_b6_8.lt (Nat.le_of_eq g9.symm))
    have ne_x1_b9 : x1 ≠ b9 := Nat.ne_of_lt (Nat.lt_of_lt_of_le E_x1_8.lt (Nat.le_of_eq g9.symm))
    have ne_x2_b9 : x2 ≠ b9 := Nat.ne_of_lt (Nat.lt_of_lt_of_le E_x2_8.lt (Nat.le_of_eq g9.symm))
    have ne_x3_b9 : x3 ≠ b9 := Nat.ne_of_lt (Nat.lt_of_lt_of_le E_x3_8.lt (Nat.le_of_eq g9.symm))
    have O__9 := O__8.ext E9
    have E_x1_9 := E_x1_8.ext E9
    have E_x2_9 := E_x2_8.ext E9
    have E_x3_9 := E_x3_8.ext E9
    have E_b4_9 := E_b4_8.ext E9
    have F_b4_modCount_9 := F_b4_modCount_8.ext E9
    have F_b4_elementData_9 := F_b4_elementData_8.ext E9
    have F_b4_size_9 := F_b4_size_8.ext E9
    have V_b6_9 := V_b6_8.ext E9
    have E_b6_9 := E_b6_8.ext E9
    have SZ9 : n0 ≤ h9.size := Nat.le_trans SZ8 E9.1
    have K9 : Keep h0 h9 [] := K8.ext E9
    have hk := Nat.le_trans hk E9.1
    have CR9 : CHr Z elL s.vm h0 s.vm h9 := CR8.trans (CHr.ext E9 CR8.1)
    have F_b9_modCount_9 : Fld Z h9 b9 "java/util/AbstractList" "modCount" "I" (.int (0 : Int32)) := D9 (Or.inl (hw _ (List.mem_of_getElem? (i := 54) rfl))) (ty := .int) (by decide)
    have F_b9_elementData_9 : Fld Z h9 b9 "java/util/ArrayList" "elementData" "[Ljava/lang/Object;" .null := D9 (Or.inl (hw _ (List.mem_of_getElem? (i := 57) rfl))) (ty := (.array (.object "java/lang/Object"))) (by decide)
    have F_b9_size_9 : Fld Z h9 b9 "java/util/ArrayList" "size" "I" (.int (0 : Int32)) := D9 (Or.inl (hw _ (List.mem_of_getElem? (i := 66) rfl))) (ty := .int) (by decide)
    refine Gl.go (fun _ k => st9 _ k) ?_
    show Gl _ _ _ _ (T9.setTop (mkF m 87 #[.val (.int w0), .val (.int w1), .val (.int w2), .val (.int w3), .val (.int w4), .val (.int w5), .val (.int (1 : Int32)), .val (.ref x1), .val (.ref x2), .val (.ref x3), .val (.ref b4), .val (.ref b7), .unset, .unset, .unset, .unset, .unset, .unset, .unset, .unset] [(.ref b9)]))
    refine Gl.go (fun _ k => XS.dup X9.here hx rfl (hb hby at_87) rfl rfl k) ?_
    obtain ⟨_, _, ⟨T10, L10, k10, n10⟩, -, X10, ⟨Lc10, hQ10, l10, y10, z10⟩, st10⟩ := X9.specialBack hx (y := (⟨"java/util/ArrayList", "<init>", "()V"⟩ : MethodName)) rfl hown (mvT hZ (hw _ (List.mem_of_getElem? (i := 37) rfl))) (mvT hZ (hw _ (List.mem_of_getElem? (i := 38) rfl))) (mvT hZ (hw _ (List.mem_of_getElem? (i := 39) rfl))) (by decide) (backOf (W := 1) (rm_ali l Z a0 hw [] b9 dE h9 n0 SZ9 A9 F_b9_modCount_9 F_b9_elementData_9 F_b9_size_9 g_b9 SD O__9) hZ (hw _ (List.mem_of_getElem? (i := 39) rfl)) (hw _ (List.mem_of_getElem? (i := 36) rfl)) (by decide) (by decide)) (g := (mkF m 88 #[.val (.int w0), .val (.int w1), .val (.int w2), .val (.int w3), .val (.int w4), .val (.int w5), .val (.int (1 : Int32)), .val (.ref x1), .val (.ref x2), .val (.ref x3), .val (.ref b4), .val (.ref b7), .unset, .unset, .unset, .unset, .unset, .unset, .unset, .unset] [(.ref b9), (.ref b9)])) rfl (by rw [hml]; rfl) (Steps.refl _) (a := b9) (argsL := []) (rest := [(.ref b9)]) (lenOf pd_0 rfl) rfl (by show 2 * 0 + _ ≤ _; exact Nat.le_of_eq rfl) (hb hby at_88) (fun _ _ => ⟨rfl, e9, (by decide : 13 + 0 ≤ _), (by decide : 46 + 0 ≤ _)⟩)
    dsimp only [Pt.U, Pt.locs, Pt.cells, Pt.slots] at X10 l10 y10 z10 st10 hQ10
    subst y10 z10
    obtain ⟨rfl, Nq10, Kc10, Ea10, Ma10, Da10, Sa10⟩ := hQ10
    have N10 : Fr n0 L10 := by rw [l10]; exact Fr.app N8 Nq10
    refine Gl.go (fun _ k => st10.trans k) ?_
    have O__10 := O__9.keep Kc10 (allS g_b9 all0)
    have E_x1_10 := E_x1_9.keep Kc10
    have E_x2_10 := E_x2_9.keep Kc10
    have E_x3_10 := E_x3_9.keep Kc10
    have E_b4_10 := E_b4_9.keep Kc10
    have F_b4_modCount_10 := F_b4_modCount_9.keep Kc10 (ninS ne_b4_b9 nin0)
    have F_b4_elementData_10 := F_b4_elementData_9.keep Kc10 (ninS ne_b4_b9 nin0)
    have F_b4_size_10 := F_b4_size_9.keep Kc10 (ninS ne_b4_b9 nin0)
    have V_b6_10 := V_b6_9.keep Kc10 (ninS ne_b6_b9 nin0)
    have E_b6_10 := E_b6_9.keep Kc10
    have E_b9_10 := A9.keep Kc10
    have SZ10 : n0 ≤ T10.heap.size := Nat.le_trans SZ9 Kc10.1
    have K10 : Keep h0 T10.heap [] := K9.trans Kc10 (allS (Or.inr sz_b9) all0)
    have hk := Nat.le_trans hk Kc10.1
    have CR10 : CHr Z elL s.vm h0 s.vm T10.heap := CR9.trans (CHr.keep Kc10 (sfS (Safe.exa hZ.alike A9 (by decide) (by decide)) sf0) CR9.1)
    show Gl _ _ _ _ (T10.setTop (mkF m 91 #[.val (.int w0), .val (.int w1), .val (.int w2), .val (.int w3), .val (.int w4), .val (.int w5), .val (.int (1 : Int32)), .val (.ref x1), .val (.ref x2), .val (.ref x3), .val (.ref b4), .val (.ref b7), .unset, .unset, .unset, .unset, .unset, .unset, .unset, .unset] [(.ref b9)]))
    refine Gl.go (fun _ k => XS.astore X10.here hx rfl (hb hby at_91) rfl rfl (l' := #[.val (.int w0), .val (.int w1), .val (.int w2), .val (.int w3), .val (.int w4), .val (.int w5), .val (.int (1 : Int32)), .val (.ref x1), .val (.ref x2), .val (.ref x3), .val (.ref b4), .val (.ref b7), .val (.ref b9), .unset, .unset, .unset, .unset, .unset, .unset, .unset]) rfl k) ?_
    refine Gl.go (fun _ k => XS.aload X10.here hx rfl (hb hby at_93) rfl rfl  k) ?_
    refine Gl.go (fun _ k => XS.iload X10.here hx rfl (hb hby at_95) rfl  k) ?_
    obtain ⟨_, _, ⟨T11, L11, k11, n11⟩, -, X11, ⟨Lc11, hQ11, l11, y11, z11⟩, st11⟩ := Jvm.LawKit.callS X10 hx (y := (⟨"com/example/frosted_rows/frostedrows/release/PublishedGroupCellPinLaw", "str", "(I)Ljava/lang/String;"⟩ : MethodName)) hown (mvT hZ (hw _ (List.mem_of_getElem? (i := 0) rfl))) (mvT hZ (hw _ (List.mem_of_getElem? (i := 1) rfl))) (mvT hZ (hw _ (List.mem_of_getElem? (i := 2) rfl))) (mvT hZ (hw _ (List.mem_of_getElem? (i := 3) rfl))) (by decide) (backOf (W := 1) (rm_str l Z a0 hw [] w5 G1 T10.heap n0 SZ10 O2 P5 O__10) hZ (hw _ (List.mem_of_getElem? (i := 3) rfl)) (hw _ (List.mem_of_getElem? (i := 2) rfl)) (by decide) (by decide)) (g := (mkF m 97 #[.val (.int w0), .val (.int w1), .val (.int w2), .val (.int w3), .val (.int w4), .val (.int w5), .val (.int (1 : Int32)), .val (.ref x1), .val (.ref x2), .val (.ref x3), .val (.ref b4), .val (.ref b7), .val (.ref b9), .unset, .unset, .unset, .unset, .unset, .unset, .unset] [(.int w5), (.ref b9)])) rfl (by rw [hml]; rfl) (argsL := [(.int w5)]) (rest := [(.ref b9)]) (lenOf pd_19 rfl) rfl (by show 2 * 0 + _ ≤ _; exact Nat.le_of_eq rfl) (hb hby at_97) (fun _ _ => ⟨rfl, rfl, (by decide : 13 + 3 ≤ _), (by decide : 46 + 8 ≤ _)⟩)
    dsimp only [Pt.U, Pt.locs, Pt.cells, Pt.slots] at X11 l11 y11 z11 st11 hQ11
    subst y11 z11
    obtain ⟨x11, rfl, Nq11, Kc11, gz11, Sx11⟩ := hQ11
    have N11 : Fr n0 L11 := by rw [l11]; exact Fr.app N10 Nq11
    refine Gl.go (fun _ k => st11 _ k) ?_
    have Ex11 := ext_of_keep Kc11
    have O__11 := O__10.ext Ex11
    have E_x1_11 := E_x1_10.ext Ex11
    have E_x2_11 := E_x2_10.ext Ex11
    have E_x3_11 := E_x3_10.ext Ex11
    have E_b4_11 := E_b4_10.ext Ex11
    have F_b4_modCount_11 := F_b4_modCount_10.ext Ex11
    have F_b4_elementData_11 := F_b4_elementData_10.ext Ex11
    have F_b4_size_11 := F_b4_size_10.ext Ex11
    have V_b6_11 := V_b6_10.ext Ex11
    have E_b6_11 := E_b6_10.ext Ex11
    have E_b9_11 := Ea10.ext Ex11
    have F_b9_modCount_11 := Ma10.ext Ex11
    have F_b9_elementData_11 := Da10.ext Ex11
    have F_b9_size_11 := Sa10.ext Ex11
    have SZ11 : n0 ≤ T11.heap.size := Nat.le_trans SZ10 Ex11.1
    have K11 : Keep h0 T11.heap [] := K10.ext Ex11
    have hk := Nat.le_trans hk Ex11.1
    have CR11 : CHr Z elL s.vm h0 s.vm T11.heap := CR10.trans (CHr.ext Ex11 CR10.1)
    show Gl _ _ _ _ (T11.setTop (mkF m 100 #[.val (.int w0), .val (.int w1), .val (.int w2), .val (.int w3), .val (.int w4), .val (.int w5), .val (.int (1 : Int32)), .val (.ref x1), .val (.ref x2), .val (.ref x3), .val (.ref b4), .val (.ref b7), .val (.ref b9), .unset, .unset, .unset, .unset, .unset, .unset, .unset] [(.ref x11), (.ref b9)]))
    have g_x11 : n0 ≤ x11 := Nat.le_trans SZ10 gz11
    have sz_x11 : h0.size ≤ x11 := Nat.le_trans K10.1 gz11
    have ne_b4_x11 : b4 ≠ x11 := Nat.ne_of_lt (Nat.lt_of_lt_of_le E_b4_10.lt gz11)
    have ne_b6_x11 : b6 ≠ x11 := Nat.ne_of_lt (Nat.lt_of_lt_of_le V_b6_10.lt gz11)
    have ne_b9_x11 : b9 ≠ x11 := Nat.ne_of_lt (Nat.lt_of_lt_of_le Ea10.lt gz11)
    have ne_x1_x11 : x1 ≠ x11 := Nat.ne_of_lt (Nat.lt_of_lt_of_le E_x1_10.lt gz11)
    have ne_x2_x11 : x2 ≠ x11 := Nat.ne_of_lt (Nat.lt_of_lt_of_le E_x2_10.lt gz11)
    have ne_x3_x11 : x3 ≠ x11 := Nat.ne_of_lt (Nat.lt_of_lt_of_le E_x3_10.lt gz11)
    obtain ⟨cq12, kq12, q12a, q12b, q12c⟩ := isOf (s := s.setVm s.vm) hZ rfl E_b9_11
    obtain ⟨_, _, ⟨T12, L12, k12, n12⟩, -, X12, ⟨Lc12, hQ12, l12, y12, z12⟩, st12⟩ := X11.virtualBack hx (y := (⟨"java/util/ArrayList", "add", "(Ljava/lang/Object;)Z"⟩ : MethodName)) (z := (⟨"java/util/ArrayList", "add", "(Ljava/lang/Object;)Z"⟩ : MethodName)) hown (mvT hZ (hw _ (List.mem_of_getElem? (i := 58) rfl))) (mvT hZ (hw _ (List.mem_of_getElem? (i := 59) rfl))) (notFace_of_selects (args := #[]) (mvT hZ (hw _ (List.mem_of_getElem? (i := 61) rfl)))) (mvT hZ (hw _ (List.mem_of_getElem? (i := 61) rfl))) (mvT hZ (hw _ (List.mem_of_getElem? (i := 60) rfl))) (by decide) (backOf (W := 0) (rm_ad1 l Z a0 hw [] b9 (0 : Int32) dE kD x11 T11.heap n0 SZ11 E_b9_11 F_b9_modCount_11 F_b9_elementData_11 F_b9_size_11 g_b9 SD VD O__11 Sx11) hZ (hw _ (List.mem_of_getElem? (i := 62) rfl)) (hw _ (List.mem_of_getElem? (i := 36) rfl)) (by decide) (by decide)) q12a q12c (g := (mkF m 100 #[.val (.int w0), .val (.int w1), .val (.int w2), .val (.int w3), .val (.int w4), .val (.int w5), .val (.int (1 : Int32)), .val (.ref x1), .val (.ref x2), .val (.ref x3), .val (.ref b4), .val (.ref b7), .val (.ref b9), .unset, .unset, .unset, .unset, .unset, .unset, .unset] [(.ref x11), (.ref b9)])) rfl (by rw [hml]; rfl) (Steps.refl _) (argsL := [(.ref x11)]) (rest := []) (lenOf pd_20 rfl) rfl (by show 2 * 0 + _ ≤ _; exact Nat.le_of_eq rfl) (hb hby at_100) (fun _ _ => ⟨rfl, rfl, (by decide : 16 + 1 ≤ _), (by decide : 54 + 10 ≤ _)⟩)
    dsimp only [Pt.U, Pt.locs, Pt.cells, Pt.slots] at X12 l12 y12 z12 st12 hQ12
    subst y12 z12
    obtain ⟨b12, kc12, rfl, Nq12, Kc12, gz12, Ea12, Ma12, Da12, Sa12, Vc12, Oc12, Xc12⟩ := hQ12
    have N12 : Fr n0 L12 := by rw [l12]; exact Fr.app N11 Nq12
    refine Gl.go (fun _ k => st12.trans k) ?_
    have O__12 := O__11.keep Kc12 (allS g_b9 all0)
    have E_x1_12 := E_x1_11.keep Kc12
    have E_x2_12 := E_x2_11.keep Kc12
    have E_x3_12 := E_x3_11.keep Kc12
    have E_b4_12 := E_b4_11.keep Kc12
    have F_b4_modCount_12 := F_b4_modCount_11.keep Kc12 (ninS ne_b4_b9 nin0)
    have F_b4_elementData_12 := F_b4_elementData_11.keep Kc12 (ninS ne_b4_b9 nin0)
    have F_b4_size_12 := F_b4_size_11.keep Kc12 (ninS ne_b4_b9 nin0)
    have V_b6_12 := V_b6_11.keep Kc12 (ninS ne_b6_b9 nin0)
    have E_b6_12 := E_b6_11.keep Kc12
    have E_b9_12 := E_b9_11.keep Kc12
    have E_x11_12 := Sx11.keep Kc12
    have SZ12 : n0 ≤ T12.heap.size := Nat.le_trans SZ11 Kc12.1
    have K12 : Keep h0 T12.heap [] := K11.trans Kc12 (allS (Or.inr sz_b9) all0)
    have hk := Nat.le_trans hk Kc12.1
    have CR12 : CHr Z elL s.vm h0 s.vm T12.heap := CR11.trans (CHr.keep Kc12 (sfS (Safe.exa hZ.alike E_b9_11 (by decide) (by decide)) sf0) CR11.1)
    show Gl _ _ _ _ (T12.setTop (mkF m 103 #[.val (.int w0), .val (.int w1), .val (.int w2), .val (.int w3), .val (.int w4), .val (.int w5), .val (.int (1 : Int32)), .val (.ref x1), .val (.ref x2), .val (.ref x3), .val (.ref b4), .val (.ref b7), .val (.ref b9), .unset, .unset, .unset, .unset, .unset, .unset, .unset] [(.int (1 : Int32))]))
    have g_b12 : n0 ≤ b12 := Nat.le_trans SZ11 gz12
    have sz_b12 : h0.size ≤ b12 := Nat.le_trans K11.1 gz12
    have ne_b4_b12 : b4 ≠ b12 := Nat.ne_of_lt (Nat.lt_of_lt_of_le E_b4_11.lt gz12)
    have ne_b6_b12 : b6 ≠ b12 := Nat.ne_of_lt (Nat.lt_of_lt_of_le V_b6_11.lt gz12)
    have ne_b9_b12 : b9 ≠ b12 := Nat.ne_of_lt (Nat.lt_of_lt_of_le E_b9_11.lt gz12)
    have ne_x1_b12 : x1 ≠ b12 := Nat.ne_of_lt (Nat.lt_of_lt_of_le E_x1_11.lt gz12)
    have ne_x11_b12 : x11 ≠ b12 := Nat.ne_of_lt (Nat.lt_of_lt_of_le Sx11.lt gz12)
    have ne_x2_b12 : x2 ≠ b12 := Nat.ne_of_lt (Nat.lt_of_lt_of_le E_x2_11.lt gz12)
    have ne_x3_b12 : x3 ≠ b12 := Nat.ne_of_lt (Nat.lt_of_lt_of_le E_x3_11.lt gz12)
    refine Gl.go (fun _ k => XS.pop X12.here hx rfl (hb hby at_103) rfl rfl k) ?_
    obtain ⟨T13, h13, X13, e13, E13, A13, D13, -, st13⟩ := newO X12 hx hZ hown (hw _ (List.mem_of_getElem? (i := 90) rfl)) (hw _ (List.mem_of_getElem? (i := 91) rfl)) (hw _ (List.mem_of_getElem? (i := 92) rfl)) rfl (g := (mkF m 104 #[.val (.int w0), .val (.int w1), .val (.int w2), .val (.int w3), .val (.int w4), .val (.int w5), .val (.int (1 : Int32)), .val (.ref x1), .val (.ref x2), .val (.ref x3), .val (.ref b4), .val (.ref b7), .val (.ref b9), .unset, .unset, .unset, .unset, .unset, .unset, .unset] [])) rfl (hb hby at_104) (by decide) (by decide)
    obtain ⟨b13, g13⟩ : ∃ z, z = T12.heap.size := ⟨_, rfl⟩
    rw [← g13] at A13 D13 st13
    have g_b13 : n0 ≤ b13 := Nat.le_trans SZ12 (Nat.le_of_eq g13.symm)
    have sz_b13 : h0.size ≤ b13 := Nat.le_trans K12.1 (Nat.le_of_eq g13.symm)
    have ne_b4_b13 : b4 ≠ b13 := Nat.ne_of_lt (Nat.lt_of_lt_of_le E_b4_12.lt (Nat.le_of_eq g13.symm))
    have ne_b6_b13 : b6 ≠ b13 := Nat.ne_of_lt (Nat.lt_of_lt_of_le V_b6_12.lt (Nat.le_of_eq g13.symm))
    have ne_b9_b13 : b9 ≠ b13 := Nat.ne_of_lt (Nat.lt_of_lt_of_le Ea12.lt (Nat.le_of_eq g13.symm))
    have ne_x1_b13 : x1 ≠ b13 := Nat.ne_of_lt (Nat.lt_of_lt_of_le E_x1_12.lt (Nat.le_of_eq g13.symm))
    have ne_x2_b13 : x2 ≠ b13 := Nat.ne_of_lt (Nat.lt_of_lt_of_le E_x2_12.lt (Nat.le_of_eq g13.symm))
    have ne_x3_b13 : x3 ≠ b13 := Nat.ne_of_lt (Nat.lt_of_lt_of_le E_x3_12.lt (Nat.le_of_eq g13.symm))
    have O__13 := O__12.ext E13
    have E_x1_13 := E_x1_12.ext E13
    have E_x2_13 := E_x2_12.ext E13
    have E_x3_13 := E_x3_12.ext E13
    have E_b4_13 := E_b4_12.ext E13
    have F_b4_modCount_13 := F_b4_modCount_12.ext E13
    have F_b4_elementData_13 := F_b4_elementData_12.ext E13
    have F_b4_size_13 := F_b4_size_12.ext E13
    have V_b6_13 := V_b6_12.ext E13
    have E_b6_13 := E_b6_12.ext E13
    have E_b9_13 := Ea12.ext E13
    have SZ13 : n0 ≤ h13.size := Nat.le_trans SZ12 E13.1
    have K13 : Keep h0 h13 [] := K12.ext E13
    have hk := Nat.le_trans hk E13.1
    have CR13 : CHr Z elL s.vm h0 s.vm h13 := CR12.trans (CHr.ext E13 CR12.1)
    have F_b13_number_13 : Fld Z h13 b13 "com/example/frosted_rows/frostedrows/release/PublishedGroup" "number" "Ljava/lang/String;" .null := D13 (Or.inr (hw _ (List.mem_of_getElem? (i := 101) rfl))) (ty := (.object "java/lang/String")) (by decide)
    have F_b13_cells_13 : Fld Z h13 b13 "com/example/frosted_rows/frostedrows/release/PublishedGroup" "cells" "Ljava/util/List;" .null := D13 (Or.inr (hw _ (List.mem_of_getElem? (i := 188) rfl))) (ty := (.object "java/util/List")) (by decide)
    have F_b13_covered_13 : Fld Z h13 b13 "com/example/frosted_rows/frostedrows/release/PublishedGroup" "covered" "[I" .null := D13 (Or.inr (hw _ (List.mem_of_getElem? (i := 190) rfl))) (ty := (.array .int)) (by decide)
    have F_b13_sensitive_13 : Fld Z h13 b13 "com/example/frosted_rows/frostedrows/release/PublishedGroup" "sensitive" "Ljava/util/List;" .null := D13 (Or.inr (hw _ (List.mem_of_getElem? (i := 232) rfl))) (ty := (.object "java/util/List")) (by decide)
    refine Gl.go (fun _ k => st13 _ k) ?_
    show Gl _ _ _ _ (T13.setTop (mkF m 107 #[.val (.int w0), .val (.int w1), .val (.int w2), .val (.int w3), .val (.int w4), .val (.int w5), .val (.int (1 : Int32)), .val (.ref x1), .val (.ref x2), .val (.ref x3), .val (.ref b4), .val (.ref b7), .val (.ref b9), .unset, .unset, .unset, .unset, .unset, .unset, .unset] [(.ref b13)]))
    refine Gl.go (fun _ k => XS.dup X13.here hx rfl (hb hby at_107) rfl rfl k) ?_
    obtain ⟨sa14, T14, h14, k114, X14, e14, E14, hS, hk14, hZ14, hown, hC14, -, st14⟩ := ldcOH (EL := elL) X13 hx hZ hown (hw _ (List.mem_of_getElem? (i := 93) rfl)) hSA e13 hS hk hEL CR13.1 (g := (mkF m 108 #[.val (.int w0), .val (.int w1), .val (.int w2), .val (.int w3), .val (.int w4), .val (.int w5), .val (.int (1 : Int32)), .val (.ref x1), .val (.ref x2), .val (.ref x3), .val (.ref b4), .val (.ref b7), .val (.ref b9), .unset, .unset, .unset, .unset, .unset, .unset, .unset] [(.ref b13), (.ref b13)])) rfl (hb hby at_108) (n := 4) (by decide) (by decide) (by decide) (by decide)
    have hZ : Z.Warmed39 T14.vm := hZ14
    have hk := hk14
    have CR14 : CHr Z elL s.vm h0 T14.vm h14 := CR13.trans hC14
    have O__14 := O__13.ext E14
    have E_x1_14 := E_x1_13.ext E14
    have E_x2_14 := E_x2_13.ext E14
    have E_x3_14 := E_x3_13.ext E14
    have E_b4_14 := E_b4_13.ext E14
    have F_b4_modCount_14 := F_b4_modCount_13.ext E14
    have F_b4_elementData_14 := F_b4_elementData_13.ext E14
    have F_b4_size_14 := F_b4_size_13.ext E14
    have V_b6_14 := V_b6_13.ext E14
    have E_b6_14 := E_b6_13.ext E14
    have E_b9_14 := E_b9_13.ext E14
    have E_b13_14 := A13.ext E14
    have F_b13_number_14 := F_b13_number_13.ext E14
    have F_b13_cells_14 := F_b13_cells_13.ext E14
    have F_b13_covered_14 := F_b13_covered_13.ext E14
    have F_b13_sensitive_14 := F_b13_sensitive_13.ext E14
    have SZ14 : n0 ≤ h14.size := Nat.le_trans SZ13 E14.1
    have K14 : Keep h0 h14 [] := K13.ext E14
    refine Gl.go (fun _ k => st14 _ k) ?_
    show Gl _ _ _ _ (T14.setTop (mkF m 110 #[.val (.int w0), .val (.int w1), .val (.int w2), .val (.int w3), .val (.int w4), .val (.int w5), .val (.int (1 : Int32)), .val (.ref x1), .val (.ref x2), .val (.ref x3), .val (.ref b4), .val (.ref b7), .val (.ref b9), .unset, .unset, .unset, .unset, .unset, .unset, .unset] [(.ref sa14), (.ref b13), (.ref b13)]))
    refine Gl.go (fun _ k => XS.aload X14.here hx rfl (hb hby at_110) rfl rfl  k) ?_
    refine Gl.go (fun _ k => XS.aload X14.here hx rfl (hb hby at_112) rfl rfl  k) ?_
    refine Gl.go (fun _ k => XS.aload X14.here hx rfl (hb hby at_114) rfl rfl  k) ?_
    obtain ⟨_, _, ⟨T15, L15, k15, n15⟩, -, X15, ⟨Lc15, hQ15, l15, y15, z15⟩, st15⟩ := X14.specialBack hx (y := (⟨"com/example/frosted_rows/frostedrows/release/PublishedGroup", "<init>", "(Ljava/lang/String;Ljava/util/List;[ILjava/util/List;)V"⟩ : MethodName)) rfl hown (mvT hZ (hw _ (List.mem_of_getElem? (i := 96) rfl))) (mvT hZ (hw _ (List.mem_of_getElem? (i := 97) rfl))) (mvT hZ (hw _ (List.mem_of_getElem? (i := 98) rfl))) (by decide) (backOf (W := 1) (rm_pgi_1 l Z a0 hw [] b13 sa14 b7 b9 mA mL mR b4 ((0 : Int32) + (1 : Int32)) b6 kc6 mO x1 eM h14 n0 SZ14 E_b13_14 F_b13_number_14 F_b13_cells_14 F_b13_covered_14 F_b13_sensitive_14 E_b4_14 F_b4_modCount_14 F_b4_elementData_14 F_b4_size_14 V_b6_14 E_x1_14 E_b6_14 MO SE O__14 E_b9_14 MA ML MR g_b13 (Ne.symm ne_b4_b13) (Ne.symm ne_b6_b13)) hZ (hw _ (List.mem_of_getElem? (i := 98) rfl)) (hw _ (List.mem_of_getElem? (i := 92) rfl)) (by decide) (by decide)) (g := (mkF m 116 #[.val (.int w0), .val (.int w1), .val (.int w2), .val (.int w3), .val (.int w4), .val (.int w5), .val (.int (1 : Int32)), .val (.ref x1), .val (.ref x2), .val (.ref x3), .val (.ref b4), .val (.ref b7), .val (.ref b9), .unset, .unset, .unset, .unset, .unset, .unset, .unset] [(.ref b9), (.ref b7), (.ref b4), (.ref sa14), (.ref b13), (.ref b13)])) rfl (by rw [hml]; rfl) (Steps.refl _) (a := b13) (argsL := [(.ref sa14), (.ref b4), (.ref b7), (.ref b9)]) (rest := [(.ref b13)]) (lenOf pd_21 rfl) rfl (by show 2 * 0 + _ ≤ _; exact Nat.le_of_eq rfl) (hb hby at_116) (fun _ _ => ⟨rfl, e14, (by decide : 20 + 3 ≤ _), (by decide : 76 + 5 ≤ _)⟩)
    dsimp only [Pt.U, Pt.locs, Pt.cells, Pt.slots] at X15 l15 y15 z15 st15 hQ15
    subst y15 z15
    obtain ⟨rfl, Nq15, Kc15, Eg15, o15, Fg15, Eo15, F015, F115⟩ := hQ15
    have N15 : Fr n0 L15 := by rw [l15]; exact Fr.app N12 Nq15
    refine Gl.go (fun _ k => st15.trans k) ?_
    have O__15 := O__14.keep Kc15 (allS g_b13 all0)
    have E_x1_15 := E_x1_14.keep Kc15
    have E_x2_15 := E_x2_14.keep Kc15
    have E_x3_15 := E_x3_14.keep Kc15
    have E_b4_15 := E_b4_14.keep Kc15
    have F_b4_modCount_15 := F_b4_modCount_14.keep Kc15 (ninS ne_b4_b13 nin0)
    have F_b4_elementData_15 := F_b4_elementData_14.keep Kc15 (ninS ne_b4_b13 nin0)
    have F_b4_size_15 := F_b4_size_14.keep Kc15 (ninS ne_b4_b13 nin0)
    have V_b6_15 := V_b6_14.keep Kc15 (ninS ne_b6_b13 nin0)
    have E_b6_15 := E_b6_14.keep Kc15
    have E_b9_15 := E_b9_14.keep Kc15
    have E_b13_15 := E_b13_14.keep Kc15
    have SZ15 : n0 ≤ T15.heap.size := Nat.le_trans SZ14 Kc15.1
    have K15 : Keep h0 T15.heap [] := K14.trans Kc15 (allS (Or.inr sz_b13) all0)
    have hk := Nat.le_trans hk Kc15.1
    have CR15 : CHr Z elL s.vm h0 T14.vm T15.heap := CR14.trans (CHr.keep Kc15 (sfS (Safe.exa hZ.alike E_b13_14 (by decide) (by decide)) sf0) CR14.1)
    show Gl _ _ _ _ (T15.setTop (mkF m 119 #[.val (.int w0), .val (.int w1), .val (.int w2), .val (.int w3), .val (.int w4), .val (.int w5), .val (.int (1 : Int32)), .val (.ref x1), .val (.ref x2), .val (.ref x3), .val (.ref b4), .val (.ref b7), .val (.ref b9), .unset, .unset, .unset, .unset, .unset, .unset, .unset] [(.ref b13)]))
    refine Gl.go (fun _ k => XS.astore X15.here hx rfl (hb hby at_119) rfl rfl (l' := #[.val (.int w0), .val (.int w1), .val (.int w2), .val (.int w3), .val (.int w4), .val (.int w5), .val (.int (1 : Int32)), .val (.ref x1), .val (.ref x2), .val (.ref x3), .val (.ref b4), .val (.ref b7), .val (.ref b9), .val (.ref b13), .unset, .unset, .unset, .unset, .unset, .unset]) rfl k) ?_
    refine Gl.go (fun _ k => XS.iload X15.here hx rfl (hb hby at_121) rfl  k) ?_
    refine Gl.go (fun _ k => X15.ldcInt hx hown (mvT hZ (hw _ (List.mem_of_getElem? (i := 233) rfl))) (g := (mkF m 123 #[.val (.int w0), .val (.int w1), .val (.int w2), .val (.int w3), .val (.int w4), .val (.int w5), .val (.int (1 : Int32)), .val (.ref x1), .val (.ref x2), .val (.ref x3), .val (.ref b4), .val (.ref b7), .val (.ref b9), .val (.ref b13), .unset, .unset, .unset, .unset, .unset, .unset] [(.int w4)])) rfl (hb hby at_123) _ k) ?_
    refine Gl.go (fun _ k => XS.iand X15.here hx rfl (hb hby at_125) rfl k) ?_
    show Gl _ _ _ _ (T15.setTop (mkF m 126 #[.val (.int w0), .val (.int w1), .val (.int w2), .val (.int w3), .val (.int w4), .val (.int w5), .val (.int (1 : Int32)), .val (.ref x1), .val (.ref x2), .val (.ref x3), .val (.ref b4), .val (.ref b7), .val (.ref b9), .val (.ref b13), .unset, .unset, .unset, .unset, .unset, .unset] [(.int (w4 &&& (2147483647 : Int32)))]))
    refine Gl.go (fun _ k => XS.iload X15.here hx rfl (hb hby at_126) rfl  k) ?_
    refine Gl.go (fun _ k => iremM X15 hx rfl (hb hby at_128) rfl (by decide) k) ?_
    refine Gl.go (fun _ k => XS.istore X15.here hx rfl (hb hby at_129) rfl (l' := #[.val (.int w0), .val (.int w1), .val (.int w2), .val (.int w3), .val (.int w4), .val (.int w5), .val (.int (1 : Int32)), .val (.ref x1), .val (.ref x2), .val (.ref x3), .val (.ref b4), .val (.ref b7), .val (.ref b9), .val (.ref b13), .val (.int ((w4 &&& (2147483647 : Int32)) % (1 : Int32))), .unset, .unset, .unset, .unset, .unset]) rfl k) ?_
    refine Gl.go (fun _ k => XS.iload X15.here hx rfl (hb hby at_131) rfl  k) ?_
    show Gl _ _ _ _ (T15.setTop (mkF m 133 #[.val (.int w0), .val (.int w1), .val (.int w2), .val (.int w3), .val (.int w4), .val (.int w5), .val (.int (1 : Int32)), .val (.ref x1), .val (.ref x2), .val (.ref x3), .val (.ref b4), .val (.ref b7), .val (.ref b9), .val (.ref b13), .val (.int ((w4 &&& (2147483647 : Int32)) % (1 : Int32))), .unset, .unset, .unset, .unset, .unset] [(.int ((w4 &&& (2147483647 : Int32)) % (1 : Int32)))]))
    have hm := own_m1 w4
    generalize h_cm : ((w4 &&& (2147483647 : Int32)) % (1 : Int32)) = cm at hm ⊢
    show Gl _ _ _ _ (T15.setTop (mkF m 133 #[.val (.int w0), .val (.int w1), .val (.int w2), .val (.int w3), .val (.int w4), .val (.int w5), .val (.int (1 : Int32)), .val (.ref x1), .val (.ref x2), .val (.ref x3), .val (.ref b4), .val (.ref b7), .val (.ref b9), .val (.ref b13), .val (.int cm), .unset, .unset, .unset, .unset, .unset] [(.int cm)]))
    have D133_16 : ∀ t, Steps p.tables e below (T15.setTop (mkF m 154 #[.val (.int w0), .val (.int w1), .val (.int w2), .val (.int w3), .val (.int w4), .val (.int w5), .val (.int (1 : Int32)), .val (.ref x1), .val (.ref x2), .val (.ref x3), .val (.ref b4), .val (.ref b7), .val (.ref b9), .val (.ref b13), .val (.int cm), .unset, .unset, .unset, .unset, .unset] [(.ref (if cm = (0 : Int32) then x1 else (if cm = (1 : Int32) then x2 else x3)))])) t → Steps p.tables e below (T15.setTop (mkF m 133 #[.val (.int w0), .val (.int w1), .val (.int w2), .val (.int w3), .val (.int w4), .val (.int w5), .val (.int (1 : Int32)), .val (.ref x1), .val (.ref x2), .val (.ref x3), .val (.ref b4), .val (.ref b7), .val (.ref b9), .val (.ref b13), .val (.int cm), .unset, .unset, .unset, .unset, .unset] [(.int cm)])) t := by
      intro t k
      show Steps _ _ _ (T15.setTop (mkF m 133 #[.val (.int w0), .val (.int w1), .val (.int w2), .val (.int w3), .val (.int w4), .val (.int w5), .val (.int (1 : Int32)), .val (.ref x1), .val (.ref x2), .val (.ref x3), .val (.ref b4), .val (.ref b7), .val (.ref b9), .val (.ref b13), .val (.int cm), .unset, .unset, .unset, .unset, .unset] [(.int cm)])) _
      by_cases hd133_17 : cm = (0 : Int32)
      · skip
        refine XS.ifNo X15.here hx rfl (hb hby at_133) rfl ((if0 _ _).trans (teq hd133_17).2) ?_
        show Steps _ _ _ (T15.setTop (mkF m 136 #[.val (.int w0), .val (.int w1), .val (.int w2), .val (.int w3), .val (.int w4), .val (.int w5), .val (.int (1 : Int32)), .val (.ref x1), .val (.ref x2), .val (.ref x3), .val (.ref b4), .val (.ref b7), .val (.ref b9), .val (.ref b13), .val (.int cm), .unset, .unset, .unset, .unset, .unset] [])) _
        refine XS.aload X15.here hx rfl (hb hby at_136) rfl rfl  ?_
        refine XS.goto X15.here hx rfl (pc0 := 138) (pc' := 154) rfl (hb hby at_138) (by decide) (by decide) ?_
        simp only [if_pos hd133_17] at k
        exact k
      · skip
        refine XS.ifYes X15.here hx rfl (pc0 := 133) (pc' := 141) rfl (hb hby at_133) rfl ((if0 _ _).trans (feq hd133_17).2) (by decide) (by decide) ?_
        show Steps _ _ _ (T15.setTop (mkF m 141 #[.val (.int w0), .val (.int w1), .val (.int w2), .val (.int w3), .val (.int w4), .val (.int w5), .val (.int (1 : Int32)), .val (.ref x1), .val (.ref x2), .val (.ref x3), .val (.ref b4), .val (.ref b7), .val (.ref b9), .val (.ref b13), .val (.int cm), .unset, .unset, .unset, .unset, .unset] [])) _
        refine XS.iload X15.here hx rfl (hb hby at_141) rfl  ?_
        refine XS.iconst X15.here hx rfl (hb hby at_143) ?_
        by_cases hd144_18 : cm = (1 : Int32)
        · skip
          refine XS.icmpNo X15.here hx rfl (hb hby at_144) rfl (teq hd144_18).2 ?_
          show Steps _ _ _ (T15.setTop (mkF m 147 #[.val (.int w0), .val (.int w1), .val (.int w2), .val (.int w3), .val (.int w4), .val (.int w5), .val (.int (1 : Int32)), .val (.ref x1), .val (.ref x2), .val (.ref x3), .val (.ref b4), .val (.ref b7), .val (.ref b9), .val (.ref b13), .val (.int cm), .unset, .unset, .unset, .unset, .unset] [])) _
          refine XS.aload X15.here hx rfl (hb hby at_147) rfl rfl  ?_
          refine XS.goto X15.here hx rfl (pc0 := 149) (pc' := 154) rfl (hb hby at_149) (by decide) (by decide) ?_
          simp only [if_neg hd133_17, if_pos hd144_18] at k
          exact k
        · skip
          refine XS.icmpYes X15.here hx rfl (pc0 := 144) (pc' := 152) rfl (hb hby at_144) rfl (feq hd144_18).2 (by decide) (by decide) ?_
          show Steps _ _ _ (T15.setTop (mkF m 152 #[.val (.int w0), .val (.int w1), .val (.int w2), .val (.int w3), .val (.int w4), .val (.int w5), .val (.int (1 : Int32)), .val (.ref x1), .val (.ref x2), .val (.ref x3), .val (.ref b4), .val (.ref b7), .val (.ref b9), .val (.ref b13), .val (.int cm), .unset, .unset, .unset, .unset, .unset] [])) _
          refine XS.aload X15.here hx rfl (hb hby at_152) rfl rfl  ?_
          simp only [if_neg hd133_17, if_neg hd144_18] at k
          exact k
    refine Gl.go (fun _ k => D133_16 _ k) ?_
    show Gl _ _ _ _ (T15.setTop (mkF m 154 #[.val (.int w0), .val (.int w1), .val (.int w2), .val (.int w3), .val (.int w4), .val (.int w5), .val (.int (1 : Int32)), .val (.ref x1), .val (.ref x2), .val (.ref x3), .val (.ref b4), .val (.ref b7), .val (.ref b9), .val (.ref b13), .val (.int cm), .unset, .unset, .unset, .unset, .unset] [(.ref (if cm = (0 : Int32) then x1 else (if cm = (1 : Int32) then x2 else x3)))]))
    refine Gl.go (fun _ k => XS.astore X15.here hx rfl (hb hby at_154) rfl rfl (l' := #[.val (.int w0), .val (.int w1), .val (.int w2), .val (.int w3), .val (.int w4), .val (.int w5), .val (.int (1 : Int32)), .val (.ref x1), .val (.ref x2), .val (.ref x3), .val (.ref b4), .val (.ref b7), .val (.ref b9), .val (.ref b13), .val (.int cm), .val (.ref (if cm = (0 : Int32) then x1 else (if cm = (1 : Int32) then x2 else x3))), .unset, .unset, .unset, .unset]) rfl k) ?_
    refine Gl.go (fun _ k => XS.iload X15.here hx rfl (hb hby at_156) rfl  k) ?_
    refine Gl.go (fun _ k => XS.iconst X15.here hx rfl (hb hby at_158) k) ?_
    refine Gl.go (fun _ k => XS.icmpNo X15.here hx rfl (hb hby at_159) rfl (teq rfl).2 k) ?_
    show Gl _ _ _ _ (T15.setTop (mkF m 162 #[.val (.int w0), .val (.int w1), .val (.int w2), .val (.int w3), .val (.int w4), .val (.int w5), .val (.int (1 : Int32)), .val (.ref x1), .val (.ref x2), .val (.ref x3), .val (.ref b4), .val (.ref b7), .val (.ref b9), .val (.ref b13), .val (.int cm), .val (.ref (if cm = (0 : Int32) then x1 else (if cm = (1 : Int32) then x2 else x3))), .unset, .unset, .unset, .unset] []))
    refine Gl.go (fun _ k => XS.aload X15.here hx rfl (hb hby at_162) rfl rfl  k) ?_
    refine Gl.go (fun _ k => XS.goto X15.here hx rfl (pc0 := 164) (pc' := 180) rfl (hb hby at_164) (by decide) (by decide) k) ?_
    refine Gl.go (fun _ k => XS.astore X15.here hx rfl (hb hby at_180) rfl rfl (l' := #[.val (.int w0), .val (.int w1), .val (.int w2), .val (.int w3), .val (.int w4), .val (.int w5), .val (.int (1 : Int32)), .val (.ref x1), .val (.ref x2), .val (.ref x3), .val (.ref b4), .val (.ref b7), .val (.ref b9), .val (.ref b13), .val (.int cm), .val (.ref (if cm = (0 : Int32) then x1 else (if cm = (1 : Int32) then x2 else x3))), .val (.ref x1), .unset, .unset, .unset]) rfl k) ?_
    refine Gl.go (fun _ k => XS.aload X15.here hx rfl (hb hby at_182) rfl rfl  k) ?_
    show Gl _ _ _ _ (T15.setTop (mkF m 184 #[.val (.int w0), .val (.int w1), .val (.int w2), .val (.int w3), .val (.int w4), .val (.int w5), .val (.int (1 : Int32)), .val (.ref x1), .val (.ref x2), .val (.ref x3), .val (.ref b4), .val (.ref b7), .val (.ref b9), .val (.ref b13), .val (.int cm), .val (.ref (if cm = (0 : Int32) then x1 else (if cm = (1 : Int32) then x2 else x3))), .val (.ref x1), .unset, .unset, .unset] [(.ref b13)]))
    refine Gl.go (fun _ k => XS.iload X15.here hx rfl (hb hby at_184) rfl  k) ?_
    obtain ⟨cq19, kq19, q19a, q19b, q19c⟩ := isOf (s := s.setVm T14.vm) hZ rfl Eg15
    obtain ⟨_, _, ⟨T19, L19, k19, n19⟩, -, X19, ⟨Lc19, hQ19, l19, y19, z19⟩, st19⟩ := X15.virtualBack hx (y := (⟨"com/example/frosted_rows/frostedrows/release/PublishedGroup", "cell", "(I)Ljava/lang/String;"⟩ : MethodName)) (z := (⟨"com/example/frosted_rows/frostedrows/release/PublishedGroup", "cell", "(I)Ljava/lang/String;"⟩ : MethodName)) hown (mvT hZ (hw _ (List.mem_of_getElem? (i := 234) rfl))) (mvT hZ (hw _ (List.mem_of_getElem? (i := 235) rfl))) (notFace_of_selects (args := #[]) (mvT hZ (hw _ (List.mem_of_getElem? (i := 237) rfl)))) (mvT hZ (hw _ (List.mem_of_getElem? (i := 237) rfl))) (mvT hZ (hw _ (List.mem_of_getElem? (i := 236) rfl))) (by decide) (backOf (W := 0) (rm_cell_1 l Z a0 hw [] b13 cm o15 eM x1 x2 x3 T15.heap n0 SZ15 hm Fg15 Eo15 F015 F115 E_x1_15) hZ (hw _ (List.mem_of_getElem? (i := 238) rfl)) (hw _ (List.mem_of_getElem? (i := 92) rfl)) (by decide) (by decide)) q19a q19c (g := (mkF m 186 #[.val (.int w0), .val (.int w1), .val (.int w2), .val (.int w3), .val (.int w4), .val (.int w5), .val (.int (1 : Int32)), .val (.ref x1), .val (.ref x2), .val (.ref x3), .val (.ref b4), .val (.ref b7), .val (.ref b9), .val (.ref b13), .val (.int cm), .val (.ref (if cm = (0 : Int32) then x1 else (if cm = (1 : Int32) then x2 else x3))), .val (.ref x1), .unset, .unset, .unset] [(.int cm), (.ref b13)])) rfl (by rw [hml]; rfl) (Steps.refl _) (argsL := [(.int cm)]) (rest := []) (lenOf pd_19 rfl) rfl (by show 2 * 0 + _ ≤ _; exact Nat.le_of_eq rfl) (hb hby at_186) (fun _ _ => ⟨rfl, rfl, (by decide : 23 + 0 ≤ _), (by decide : 81 + 0 ≤ _)⟩)
    dsimp only [Pt.U, Pt.locs, Pt.cells, Pt.slots] at X19 l19 y19 z19 st19 hQ19
    subst y19 z19
    obtain ⟨rfl, Nq19, e19⟩ := hQ19
    have N19 : Fr n0 L19 := by rw [l19]; exact Fr.app N15 Nq19
    refine Gl.go (fun _ k => st19.trans k) ?_
    show Gl _ _ _ _ (T19.setTop (mkF m 189 #[.val (.int w0), .val (.int w1), .val (.int w2), .val (.int w3), .val (.int w4), .val (.int w5), .val (.int (1 : Int32)), .val (.ref x1), .val (.ref x2), .val (.ref x3), .val (.ref b4), .val (.ref b7), .val (.ref b9), .val (.ref b13), .val (.int cm), .val (.ref (if cm = (0 : Int32) then x1 else (if cm = (1 : Int32) then x2 else x3))), .val (.ref x1), .unset, .unset, .unset] [(.ref (if cm = (0 : Int32) then x1 else (if cm = (1 : Int32) then x2 else x3)))]))
    refine Gl.go (fun _ k => XS.aload X19.here hx rfl (hb hby at_189) rfl rfl  k) ?_
    obtain ⟨cq20, kq20, q20a, q20b, q20c⟩ := isOf (s := s.setVm T14.vm) hZ e19 (own_sel1 E_x1_15 hm)
    obtain ⟨_, _, ⟨T20, L20, k20, n20⟩, -, X20, ⟨Lc20, hQ20, l20, y20, z20⟩, st20⟩ := X19.virtualBack hx (y := (⟨"java/lang/String", "equals", "(Ljava/lang/Object;)Z"⟩ : MethodName)) (z := (⟨"java/lang/String", "equals", "(Ljava/lang/Object;)Z"⟩ : MethodName)) hown (mvT hZ (hw _ (List.mem_of_getElem? (i := 249) rfl))) (mvT hZ (hw _ (List.mem_of_getElem? (i := 250) rfl))) (notFace_of_selects (args := #[]) (mvT hZ (hw _ (List.mem_of_getElem? (i := 252) rfl)))) (mvT hZ (hw _ (List.mem_of_getElem? (i := 252) rfl))) (mvT hZ (hw _ (List.mem_of_getElem? (i := 251) rfl))) (by decide) (backOf (W := 0) (rm_eqs l Z a0 hw [] (if cm = (0 : Int32) then x1 else (if cm = (1 : Int32) then x2 else x3)) T15.heap n0 SZ15 ) hZ (hw _ (List.mem_of_getElem? (i := 253) rfl)) (hw _ (List.mem_of_getElem? (i := 6) rfl)) (by decide) (by decide)) q20a q20c (g := (mkF m 191 #[.val (.int w0), .val (.int w1), .val (.int w2), .val (.int w3), .val (.int w4), .val (.int w5), .val (.int (1 : Int32)), .val (.ref x1), .val (.ref x2), .val (.ref x3), .val (.ref b4), .val (.ref b7), .val (.ref b9), .val (.ref b13), .val (.int cm), .val (.ref (if cm = (0 : Int32) then x1 else (if cm = (1 : Int32) then x2 else x3))), .val (.ref x1), .unset, .unset, .unset] [(.ref (if cm = (0 : Int32) then x1 else (if cm = (1 : Int32) then x2 else x3))), (.ref (if cm = (0 : Int32) then x1 else (if cm = (1 : Int32) then x2 else x3)))])) rfl (by rw [hml]; rfl) (Steps.refl _) (argsL := [(.ref (if cm = (0 : Int32) then x1 else (if cm = (1 : Int32) then x2 else x3)))]) (rest := []) (lenOf pd_20 rfl) rfl (by show 2 * 0 + _ ≤ _; exact Nat.le_of_eq rfl) (hb hby at_191) (fun _ _ => ⟨rfl, e19, (by decide : 23 + 0 ≤ _), (by decide : 81 + 0 ≤ _)⟩)
    dsimp only [Pt.U, Pt.locs, Pt.cells, Pt.slots] at X20 l20 y20 z20 st20 hQ20
    subst y20 z20
    obtain ⟨rfl, Nq20, e20⟩ := hQ20
    have N20 : Fr n0 L20 := by rw [l20]; exact Fr.app N19 Nq20
    refine Gl.go (fun _ k => st20.trans k) ?_
    show Gl _ _ _ _ (T20.setTop (mkF m 194 #[.val (.int w0), .val (.int w1), .val (.int w2), .val (.int w3), .val (.int w4), .val (.int w5), .val (.int (1 : Int32)), .val (.ref x1), .val (.ref x2), .val (.ref x3), .val (.ref b4), .val (.ref b7), .val (.ref b9), .val (.ref b13), .val (.int cm), .val (.ref (if cm = (0 : Int32) then x1 else (if cm = (1 : Int32) then x2 else x3))), .val (.ref x1), .unset, .unset, .unset] [(.int (1 : Int32))]))
    refine Gl.go (fun _ k => XS.istore X20.here hx rfl (hb hby at_194) rfl (l' := #[.val (.int w0), .val (.int w1), .val (.int w2), .val (.int w3), .val (.int w4), .val (.int w5), .val (.int (1 : Int32)), .val (.ref x1), .val (.ref x2), .val (.ref x3), .val (.ref b4), .val (.ref b7), .val (.ref b9), .val (.ref b13), .val (.int cm), .val (.ref (if cm = (0 : Int32) then x1 else (if cm = (1 : Int32) then x2 else x3))), .val (.ref x1), .val (.int (1 : Int32)), .unset, .unset]) rfl k) ?_
    refine Gl.go (fun _ k => XS.aload X20.here hx rfl (hb hby at_196) rfl rfl  k) ?_
    refine Gl.go (fun _ k => XS.iconst X20.here hx rfl (hb hby at_198) k) ?_
    obtain ⟨cq21, kq21, q21a, q21b, q21c⟩ := isOf (s := s.setVm T14.vm) hZ e20 Eg15
    obtain ⟨_, _, ⟨T21, L21, k21, n21⟩, -, X21, ⟨Lc21, hQ21, l21, y21, z21⟩, st21⟩ := X20.virtualBack hx (y := (⟨"com/example/frosted_rows/frostedrows/release/PublishedGroup", "cell", "(I)Ljava/lang/String;"⟩ : MethodName)) (z := (⟨"com/example/frosted_rows/frostedrows/release/PublishedGroup", "cell", "(I)Ljava/lang/String;"⟩ : MethodName)) hown (mvT hZ (hw _ (List.mem_of_getElem? (i := 234) rfl))) (mvT hZ (hw _ (List.mem_of_getElem? (i := 235) rfl))) (notFace_of_selects (args := #[]) (mvT hZ (hw _ (List.mem_of_getElem? (i := 237) rfl)))) (mvT hZ (hw _ (List.mem_of_getElem? (i := 237) rfl))) (mvT hZ (hw _ (List.mem_of_getElem? (i := 236) rfl))) (by decide) (backOf (W := 0) (rm_cell_1 l Z a0 hw [] b13 (0 : Int32) o15 eM x1 x2 x3 T15.heap n0 SZ15 rfl Fg15 Eo15 F015 F115 E_x1_15) hZ (hw _ (List.mem_of_getElem? (i := 238) rfl)) (hw _ (List.mem_of_getElem? (i := 92) rfl)) (by decide) (by decide)) q21a q21c (g := (mkF m 199 #[.val (.int w0), .val (.int w1), .val (.int w2), .val (.int w3), .val (.int w4), .val (.int w5), .val (.int (1 : Int32)), .val (.ref x1), .val (.ref x2), .val (.ref x3), .val (.ref b4), .val (.ref b7), .val (.ref b9), .val (.ref b13), .val (.int cm), .val (.ref (if cm = (0 : Int32) then x1 else (if cm = (1 : Int32) then x2 else x3))), .val (.ref x1), .val (.int (1 : Int32)), .unset, .unset] [(.int (0 : Int32)), (.ref b13)])) rfl (by rw [hml]; rfl) (Steps.refl _) (argsL := [(.int (0 : Int32))]) (rest := []) (lenOf pd_19 rfl) rfl (by show 2 * 0 + _ ≤ _; exact Nat.le_of_eq rfl) (hb hby at_199) (fun _ _ => ⟨rfl, e20, (by decide : 23 + 0 ≤ _), (by decide : 81 + 0 ≤ _)⟩)
    dsimp only [Pt.U, Pt.locs, Pt.cells, Pt.slots] at X21 l21 y21 z21 st21 hQ21
    subst y21 z21
    obtain ⟨rfl, Nq21, e21⟩ := hQ21
    have N21 : Fr n0 L21 := by rw [l21]; exact Fr.app N20 Nq21
    refine Gl.go (fun _ k => st21.trans k) ?_
    show Gl _ _ _ _ (T21.setTop (mkF m 202 #[.val (.int w0), .val (.int w1), .val (.int w2), .val (.int w3), .val (.int w4), .val (.int w5), .val (.int (1 : Int32)), .val (.ref x1), .val (.ref x2), .val (.ref x3), .val (.ref b4), .val (.ref b7), .val (.ref b9), .val (.ref b13), .val (.int cm), .val (.ref (if cm = (0 : Int32) then x1 else (if cm = (1 : Int32) then x2 else x3))), .val (.ref x1), .val (.int (1 : Int32)), .unset, .unset] [(.ref (if (0 : Int32) = (0 : Int32) then x1 else (if (0 : Int32) = (1 : Int32) then x2 else x3)))]))
    rw [((by rw [if_pos rfl]) : (if (0 : Int32) = (0 : Int32) then x1 else (if (0 : Int32) = (1 : Int32) then x2 else x3)) = x1)]
    show Gl _ _ _ _ (T21.setTop (mkF m 202 #[.val (.int w0), .val (.int w1), .val (.int w2), .val (.int w3), .val (.int w4), .val (.int w5), .val (.int (1 : Int32)), .val (.ref x1), .val (.ref x2), .val (.ref x3), .val (.ref b4), .val (.ref b7), .val (.ref b9), .val (.ref b13), .val (.int cm), .val (.ref (if cm = (0 : Int32) then x1 else (if cm = (1 : Int32) then x2 else x3))), .val (.ref x1), .val (.int (1 : Int32)), .unset, .unset] [(.ref x1)]))
    refine Gl.go (fun _ k => XS.aload X21.here hx rfl (hb hby at_202) rfl rfl  k) ?_
    obtain ⟨cq22, kq22, q22a, q22b, q22c⟩ := isOf (s := s.setVm T14.vm) hZ e21 E_x1_15
    obtain ⟨_, _, ⟨T22, L22, k22, n22⟩, -, X22, ⟨Lc22, hQ22, l22, y22, z22⟩, st22⟩ := X21.virtualBack hx (y := (⟨"java/lang/String", "equals", "(Ljava/lang/Object;)Z"⟩ : MethodName)) (z := (⟨"java/lang/String", "equals", "(Ljava/lang/Object;)Z"⟩ : MethodName)) hown (mvT hZ (hw _ (List.mem_of_getElem? (i := 249) rfl))) (mvT hZ (hw _ (List.mem_of_getElem? (i := 250) rfl))) (notFace_of_selects (args := #[]) (mvT hZ (hw _ (List.mem_of_getElem? (i := 252) rfl)))) (mvT hZ (hw _ (List.mem_of_getElem? (i := 252) rfl))) (mvT hZ (hw _ (List.mem_of_getElem? (i := 251) rfl))) (by decide) (backOf (W := 0) (rm_eqs l Z a0 hw [] x1 T15.heap n0 SZ15 ) hZ (hw _ (List.mem_of_getElem? (i := 253) rfl)) (hw _ (List.mem_of_getElem? (i := 6) rfl)) (by decide) (by decide)) q22a q22c (g := (mkF m 204 #[.val (.int w0), .val (.int w1), .val (.int w2), .val (.int w3), .val (.int w4), .val (.int w5), .val (.int (1 : Int32)), .val (.ref x1), .val (.ref x2), .val (.ref x3), .val (.ref b4), .val (.ref b7), .val (.ref b9), .val (.ref b13), .val (.int cm), .val (.ref (if cm = (0 : Int32) then x1 else (if cm = (1 : Int32) then x2 else x3))), .val (.ref x1), .val (.int (1 : Int32)), .unset, .unset] [(.ref x1), (.ref x1)])) rfl (by rw [hml]; rfl) (Steps.refl _) (argsL := [(.ref x1)]) (rest := []) (lenOf pd_20 rfl) rfl (by show 2 * 0 + _ ≤ _; exact Nat.le_of_eq rfl) (hb hby at_204) (fun _ _ => ⟨rfl, e21, (by decide : 23 + 0 ≤ _), (by decide : 81 + 0 ≤ _)⟩)
    dsimp only [Pt.U, Pt.locs, Pt.cells, Pt.slots] at X22 l22 y22 z22 st22 hQ22
    subst y22 z22
    obtain ⟨rfl, Nq22, e22⟩ := hQ22
    have N22 : Fr n0 L22 := by rw [l22]; exact Fr.app N21 Nq22
    refine Gl.go (fun _ k => st22.trans k) ?_
    show Gl _ _ _ _ (T22.setTop (mkF m 207 #[.val (.int w0), .val (.int w1), .val (.int w2), .val (.int w3), .val (.int w4), .val (.int w5), .val (.int (1 : Int32)), .val (.ref x1), .val (.ref x2), .val (.ref x3), .val (.ref b4), .val (.ref b7), .val (.ref b9), .val (.ref b13), .val (.int cm), .val (.ref (if cm = (0 : Int32) then x1 else (if cm = (1 : Int32) then x2 else x3))), .val (.ref x1), .val (.int (1 : Int32)), .unset, .unset] [(.int (1 : Int32))]))
    refine Gl.go (fun _ k => XS.istore X22.here hx rfl (hb hby at_207) rfl (l' := #[.val (.int w0), .val (.int w1), .val (.int w2), .val (.int w3), .val (.int w4), .val (.int w5), .val (.int (1 : Int32)), .val (.ref x1), .val (.ref x2), .val (.ref x3), .val (.ref b4), .val (.ref b7), .val (.ref b9), .val (.ref b13), .val (.int cm), .val (.ref (if cm = (0 : Int32) then x1 else (if cm = (1 : Int32) then x2 else x3))), .val (.ref x1), .val (.int (1 : Int32)), .val (.int (1 : Int32)), .unset]) rfl k) ?_
    refine Gl.go (fun _ k => XS.aload X22.here hx rfl (hb hby at_209) rfl rfl  k) ?_
    refine Gl.go (fun _ k => XS.iload X22.here hx rfl (hb hby at_211) rfl  k) ?_
    refine Gl.go (fun _ k => XS.iconst X22.here hx rfl (hb hby at_213) k) ?_
    show Gl _ _ _ _ (T22.setTop (mkF m 214 #[.val (.int w0), .val (.int w1), .val (.int w2), .val (.int w3), .val (.int w4), .val (.int w5), .val (.int (1 : Int32)), .val (.ref x1), .val (.ref x2), .val (.ref x3), .val (.ref b4), .val (.ref b7), .val (.ref b9), .val (.ref b13), .val (.int cm), .val (.ref (if cm = (0 : Int32) then x1 else (if cm = (1 : Int32) then x2 else x3))), .val (.ref x1), .val (.int (1 : Int32)), .val (.int (1 : Int32)), .unset] [(.int (1 : Int32)), (.int (1 : Int32)), (.ref b13)]))
    refine Gl.go (fun _ k => XS.isub X22.here hx rfl (hb hby at_214) rfl k) ?_
    show Gl _ _ _ _ (T22.setTop (mkF m 215 #[.val (.int w0), .val (.int w1), .val (.int w2), .val (.int w3), .val (.int w4), .val (.int w5), .val (.int (1 : Int32)), .val (.ref x1), .val (.ref x2), .val (.ref x3), .val (.ref b4), .val (.ref b7), .val (.ref b9), .val (.ref b13), .val (.int cm), .val (.ref (if cm = (0 : Int32) then x1 else (if cm = (1 : Int32) then x2 else x3))), .val (.ref x1), .val (.int (1 : Int32)), .val (.int (1 : Int32)), .unset] [(.int ((1 : Int32) - (1 : Int32))), (.ref b13)]))
    rw [(by decide : ((1 : Int32) - (1 : Int32)) = (0 : Int32))]
    show Gl _ _ _ _ (T22.setTop (mkF m 215 #[.val (.int w0), .val (.int w1), .val (.int w2), .val (.int w3), .val (.int w4), .val (.int w5), .val (.int (1 : Int32)), .val (.ref x1), .val (.ref x2), .val (.ref x3), .val (.ref b4), .val (.ref b7), .val (.ref b9), .val (.ref b13), .val (.int cm), .val (.ref (if cm = (0 : Int32) then x1 else (if cm = (1 : Int32) then x2 else x3))), .val (.ref x1), .val (.int (1 : Int32)), .val (.int (1 : Int32)), .unset] [(.int (0 : Int32)), (.ref b13)]))
    obtain ⟨cq23, kq23, q23a, q23b, q23c⟩ := isOf (s := s.setVm T14.vm) hZ e22 Eg15
    obtain ⟨_, _, ⟨T23, L23, k23, n23⟩, -, X23, ⟨Lc23, hQ23, l23, y23, z23⟩, st23⟩ := X22.virtualBack hx (y := (⟨"com/example/frosted_rows/frostedrows/release/PublishedGroup", "cell", "(I)Ljava/lang/String;"⟩ : MethodName)) (z := (⟨"com/example/frosted_rows/frostedrows/release/PublishedGroup", "cell", "(I)Ljava/lang/String;"⟩ : MethodName)) hown (mvT hZ (hw _ (List.mem_of_getElem? (i := 234) rfl))) (mvT hZ (hw _ (List.mem_of_getElem? (i := 235) rfl))) (notFace_of_selects (args := #[]) (mvT hZ (hw _ (List.mem_of_getElem? (i := 237) rfl)))) (mvT hZ (hw _ (List.mem_of_getElem? (i := 237) rfl))) (mvT hZ (hw _ (List.mem_of_getElem? (i := 236) rfl))) (by decide) (backOf (W := 0) (rm_cell_1 l Z a0 hw [] b13 (0 : Int32) o15 eM x1 x2 x3 T15.heap n0 SZ15 rfl Fg15 Eo15 F015 F115 E_x1_15) hZ (hw _ (List.mem_of_getElem? (i := 238) rfl)) (hw _ (List.mem_of_getElem? (i := 92) rfl)) (by decide) (by decide)) q23a q23c (g := (mkF m 215 #[.val (.int w0), .val (.int w1), .val (.int w2), .val (.int w3), .val (.int w4), .val (.int w5), .val (.int (1 : Int32)), .val (.ref x1), .val (.ref x2), .val (.ref x3), .val (.ref b4), .val (.ref b7), .val (.ref b9), .val (.ref b13), .val (.int cm), .val (.ref (if cm = (0 : Int32) then x1 else (if cm = (1 : Int32) then x2 else x3))), .val (.ref x1), .val (.int (1 : Int32)), .val (.int (1 : Int32)), .unset] [(.int (0 : Int32)), (.ref b13)])) rfl (by rw [hml]; rfl) (Steps.refl _) (argsL := [(.int (0 : Int32))]) (rest := []) (lenOf pd_19 rfl) rfl (by show 2 * 0 + _ ≤ _; exact Nat.le_of_eq rfl) (hb hby at_215) (fun _ _ => ⟨rfl, e22, (by decide : 23 + 0 ≤ _), (by decide : 81 + 0 ≤ _)⟩)
    dsimp only [Pt.U, Pt.locs, Pt.cells, Pt.slots] at X23 l23 y23 z23 st23 hQ23
    subst y23 z23
    obtain ⟨rfl, Nq23, e23⟩ := hQ23
    have N23 : Fr n0 L23 := by rw [l23]; exact Fr.app N22 Nq23
    refine Gl.go (fun _ k => st23.trans k) ?_
    show Gl _ _ _ _ (T23.setTop (mkF m 218 #[.val (.int w0), .val (.int w1), .val (.int w2), .val (.int w3), .val (.int w4), .val (.int w5), .val (.int (1 : Int32)), .val (.ref x1), .val (.ref x2), .val (.ref x3), .val (.ref b4), .val (.ref b7), .val (.ref b9), .val (.ref b13), .val (.int cm), .val (.ref (if cm = (0 : Int32) then x1 else (if cm = (1 : Int32) then x2 else x3))), .val (.ref x1), .val (.int (1 : Int32)), .val (.int (1 : Int32)), .unset] [(.ref (if (0 : Int32) = (0 : Int32) then x1 else (if (0 : Int32) = (1 : Int32) then x2 else x3)))]))
    rw [((by rw [if_pos rfl]) : (if (0 : Int32) = (0 : Int32) then x1 else (if (0 : Int32) = (1 : Int32) then x2 else x3)) = x1)]
    show Gl _ _ _ _ (T23.setTop (mkF m 218 #[.val (.int w0), .val (.int w1), .val (.int w2), .val (.int w3), .val (.int w4), .val (.int w5), .val (.int (1 : Int32)), .val (.ref x1), .val (.ref x2), .val (.ref x3), .val (.ref b4), .val (.ref b7), .val (.ref b9), .val (.ref b13), .val (.int cm), .val (.ref (if cm = (0 : Int32) then x1 else (if cm = (1 : Int32) then x2 else x3))), .val (.ref x1), .val (.int (1 : Int32)), .val (.int (1 : Int32)), .unset] [(.ref x1)]))
    refine Gl.go (fun _ k => XS.aload X23.here hx rfl (hb hby at_218) rfl rfl  k) ?_
    obtain ⟨cq24, kq24, q24a, q24b, q24c⟩ := isOf (s := s.setVm T14.vm) hZ e23 E_x1_15
    obtain ⟨_, _, ⟨T24, L24, k24, n24⟩, -, X24, ⟨Lc24, hQ24, l24, y24, z24⟩, st24⟩ := X23.virtualBack hx (y := (⟨"java/lang/String", "equals", "(Ljava/lang/Object;)Z"⟩ : MethodName)) (z := (⟨"java/lang/String", "equals", "(Ljava/lang/Object;)Z"⟩ : MethodName)) hown (mvT hZ (hw _ (List.mem_of_getElem? (i := 249) rfl))) (mvT hZ (hw _ (List.mem_of_getElem? (i := 250) rfl))) (notFace_of_selects (args := #[]) (mvT hZ (hw _ (List.mem_of_getElem? (i := 252) rfl)))) (mvT hZ (hw _ (List.mem_of_getElem? (i := 252) rfl))) (mvT hZ (hw _ (List.mem_of_getElem? (i := 251) rfl))) (by decide) (backOf (W := 0) (rm_eqs l Z a0 hw [] x1 T15.heap n0 SZ15 ) hZ (hw _ (List.mem_of_getElem? (i := 253) rfl)) (hw _ (List.mem_of_getElem? (i := 6) rfl)) (by decide) (by decide)) q24a q24c (g := (mkF m 220 #[.val (.int w0), .val (.int w1), .val (.int w2), .val (.int w3), .val (.int w4), .val (.int w5), .val (.int (1 : Int32)), .val (.ref x1), .val (.ref x2), .val (.ref x3), .val (.ref b4), .val (.ref b7), .val (.ref b9), .val (.ref b13), .val (.int cm), .val (.ref (if cm = (0 : Int32) then x1 else (if cm = (1 : Int32) then x2 else x3))), .val (.ref x1), .val (.int (1 : Int32)), .val (.int (1 : Int32)), .unset] [(.ref x1), (.ref x1)])) rfl (by rw [hml]; rfl) (Steps.refl _) (argsL := [(.ref x1)]) (rest := []) (lenOf pd_20 rfl) rfl (by show 2 * 0 + _ ≤ _; exact Nat.le_of_eq rfl) (hb hby at_220) (fun _ _ => ⟨rfl, e23, (by decide : 23 + 0 ≤ _), (by decide : 81 + 0 ≤ _)⟩)
    dsimp only [Pt.U, Pt.locs, Pt.cells, Pt.slots] at X24 l24 y24 z24 st24 hQ24
    subst y24 z24
    obtain ⟨rfl, Nq24, e24⟩ := hQ24
    have N24 : Fr n0 L24 := by rw [l24]; exact Fr.app N23 Nq24
    refine Gl.go (fun _ k => st24.trans k) ?_
    show Gl _ _ _ _ (T24.setTop (mkF m 223 #[.val (.int w0), .val (.int w1), .val (.int w2), .val (.int w3), .val (.int w4), .val (.int w5), .val (.int (1 : Int32)), .val (.ref x1), .val (.ref x2), .val (.ref x3), .val (.ref b4), .val (.ref b7), .val (.ref b9), .val (.ref b13), .val (.int cm), .val (.ref (if cm = (0 : Int32) then x1 else (if cm = (1 : Int32) then x2 else x3))), .val (.ref x1), .val (.int (1 : Int32)), .val (.int (1 : Int32)), .unset] [(.int (1 : Int32))]))
    refine Gl.go (fun _ k => XS.istore X24.here hx rfl (hb hby at_223) rfl (l' := #[.val (.int w0), .val (.int w1), .val (.int w2), .val (.int w3), .val (.int w4), .val (.int w5), .val (.int (1 : Int32)), .val (.ref x1), .val (.ref x2), .val (.ref x3), .val (.ref b4), .val (.ref b7), .val (.ref b9), .val (.ref b13), .val (.int cm), .val (.ref (if cm = (0 : Int32) then x1 else (if cm = (1 : Int32) then x2 else x3))), .val (.ref x1), .val (.int (1 : Int32)), .val (.int (1 : Int32)), .val (.int (1 : Int32))]) rfl k) ?_
    refine Gl.go (fun _ k => XS.iload X24.here hx rfl (hb hby at_225) rfl  k) ?_
    refine Gl.go (fun _ k => XS.ifNo X24.here hx rfl (hb hby at_227) rfl ((if0 _ _).trans (feq (by decide)).1) k) ?_
    show Gl _ _ _ _ (T24.setTop (mkF m 230 #[.val (.int w0), .val (.int w1), .val (.int w2), .val (.int w3), .val (.int w4), .val (.int w5), .val (.int (1 : Int32)), .val (.ref x1), .val (.ref x2), .val (.ref x3), .val (.ref b4), .val (.ref b7), .val (.ref b9), .val (.ref b13), .val (.int cm), .val (.ref (if cm = (0 : Int32) then x1 else (if cm = (1 : Int32) then x2 else x3))), .val (.ref x1), .val (.int (1 : Int32)), .val (.int (1 : Int32)), .val (.int (1 : Int32))] []))
    refine Gl.go (fun _ k => XS.iload X24.here hx rfl (hb hby at_230) rfl  k) ?_
    refine Gl.go (fun _ k => XS.ifNo X24.here hx rfl (hb hby at_232) rfl ((if0 _ _).trans (feq (by decide)).1) k) ?_
    show Gl _ _ _ _ (T24.setTop (mkF m 235 #[.val (.int w0), .val (.int w1), .val (.int w2), .val (.int w3), .val (.int w4), .val (.int w5), .val (.int (1 : Int32)), .val (.ref x1), .val (.ref x2), .val (.ref x3), .val (.ref b4), .val (.ref b7), .val (.ref b9), .val (.ref b13), .val (.int cm), .val (.ref (if cm = (0 : Int32) then x1 else (if cm = (1 : Int32) then x2 else x3))), .val (.ref x1), .val (.int (1 : Int32)), .val (.int (1 : Int32)), .val (.int (1 : Int32))] []))
    refine Gl.go (fun _ k => XS.iload X24.here hx rfl (hb hby at_235) rfl  k) ?_
    refine Gl.go (fun _ k => XS.ifNo X24.here hx rfl (hb hby at_237) rfl ((if0 _ _).trans (feq (by decide)).1) k) ?_
    show Gl _ _ _ _ (T24.setTop (mkF m 240 #[.val (.int w0), .val (.int w1), .val (.int w2), .val (.int w3), .val (.int w4), .val (.int w5), .val (.int (1 : Int32)), .val (.ref x1), .val (.ref x2), .val (.ref x3), .val (.ref b4), .val (.ref b7), .val (.ref b9), .val (.ref b13), .val (.int cm), .val (.ref (if cm = (0 : Int32) then x1 else (if cm = (1 : Int32) then x2 else x3))), .val (.ref x1), .val (.int (1 : Int32)), .val (.int (1 : Int32)), .val (.int (1 : Int32))] []))
    refine Gl.go (fun _ k => XS.iconst X24.here hx rfl (hb hby at_240) k) ?_
    refine Gl.go (fun _ k => XS.goto X24.here hx rfl (pc0 := 241) (pc' := 245) rfl (hb hby at_241) (by decide) (by decide) k) ?_
    refine leafWN X24 hS (by rw [e24]; exact hk) hx hlk (t := .boolean) Bd.returns (by simp) (hb hby at_245) (by rw [e24]; exact (CR15.trans (CHv.at X24 hZ hEL CR15.1))) hh ?_ (by decide) (by decide)
    exact ⟨rfl, N24⟩
  · skip
    show Gl _ _ _ _ (T6.setTop (mkF m 47 #[.val (.int w0), .val (.int w1), .val (.int w2), .val (.int w3), .val (.int w4), .val (.int w5), .val (.int nq7), .val (.ref x1), .val (.ref x2), .val (.ref x3), .val (.ref b4), .unset, .unset, .unset, .unset, .unset, .unset, .unset, .unset, .unset] [(.int (2 : Int32)), (.int nq7)]))
    rw [(hn : nq7 = (2 : Int32))]
    show Gl _ _ _ _ (T6.setTop (mkF m 47 #[.val (.int w0), .val (.int w1), .val (.int w2), .val (.int w3), .val (.int w4), .val (.int w5), .val (.int (2 : Int32)), .val (.ref x1), .val (.ref x2), .val (.ref x3), .val (.ref b4), .unset, .unset, .unset, .unset, .unset, .unset, .unset, .unset, .unset] [(.int (2 : Int32)), (.int (2 : Int32))]))
    refine Gl.go (fun _ k => XS.icmpNo X6.here hx rfl (hb hby at_47) rfl (flt (by decide)).1 k) ?_
    show Gl _ _ _ _ (T6.setTop (mkF m 50 #[.val (.int w0), .val (.int w1), .val (.int w2), .val (.int w3), .val (.int w4), .val (.int w5), .val (.int (2 : Int32)), .val (.ref x1), .val (.ref x2), .val (.ref x3), .val (.ref b4), .unset, .unset, .unset, .unset, .unset, .unset, .unset, .unset, .unset] []))
    refine Gl.go (fun _ k => XS.aload X6.here hx rfl (hb hby at_50) rfl rfl  k) ?_
    refine Gl.go (fun _ k => XS.aload X6.here hx rfl (hb hby at_52) rfl rfl  k) ?_
    obtain ⟨cq25, kq25, q25a, q25b, q25c⟩ := isOf (s := s.setVm s.vm) hZ rfl Ea6
    obtain ⟨_, _, ⟨T25, L25, k25, n25⟩, -, X25, ⟨Lc25, hQ25, l25, y25, z25⟩, st25⟩ := X6.virtualBack hx (y := (⟨"java/util/ArrayList", "add", "(Ljava/lang/Object;)Z"⟩ : MethodName)) (z := (⟨"java/util/ArrayList", "add", "(Ljava/lang/Object;)Z"⟩ : MethodName)) hown (mvT hZ (hw _ (List.mem_of_getElem? (i := 58) rfl))) (mvT hZ (hw _ (List.mem_of_getElem? (i := 59) rfl))) (notFace_of_selects (args := #[]) (mvT hZ (hw _ (List.mem_of_getElem? (i := 61) rfl)))) (mvT hZ (hw _ (List.mem_of_getElem? (i := 61) rfl))) (mvT hZ (hw _ (List.mem_of_getElem? (i := 60) rfl))) (by decide) (backOf (W := 0) (rm_ad2_1 l Z a0 hw [] b4 ((0 : Int32) + (1 : Int32)) b6 kc6 x2 x1 T6.heap n0 SZ6 Ea6 Ma6 Da6 Sa6 g_b4 Vc6 Oc6 g_b6 ne_b4_b6 E_x2_6) hZ (hw _ (List.mem_of_getElem? (i := 62) rfl)) (hw _ (List.mem_of_getElem? (i := 36) rfl)) (by decide) (by decide)) q25a q25c (g := (mkF m 54 #[.val (.int w0), .val (.int w1), .val (.int w2), .val (.int w3), .val (.int w4), .val (.int w5), .val (.int (2 : Int32)), .val (.ref x1), .val (.ref x2), .val (.ref x3), .val (.ref b4), .unset, .unset, .unset, .unset, .unset, .unset, .unset, .unset, .unset] [(.ref x2), (.ref b4)])) rfl (by rw [hml]; rfl) (Steps.refl _) (argsL := [(.ref x2)]) (rest := []) (lenOf pd_20 rfl) rfl (by show 2 * 0 + _ ≤ _; exact Nat.le_of_eq rfl) (hb hby at_54) (fun _ _ => ⟨rfl, rfl, (by decide : 11 + 0 ≤ _), (by decide : 37 + 0 ≤ _)⟩)
    dsimp only [Pt.U, Pt.locs, Pt.cells, Pt.slots] at X25 l25 y25 z25 st25 hQ25
    subst y25 z25
    obtain ⟨rfl, Nq25, Kc25, Ea25, Ma25, Da25, Sa25, Vc25⟩ := hQ25
    have N25 : Fr n0 L25 := by rw [l25]; exact Fr.app N6 Nq25
    refine Gl.go (fun _ k => st25.trans k) ?_
    have O__25 := O__6.keep Kc25 (allS g_b4 (allS g_b6 all0))
    have E_x1_25 := E_x1_6.keep Kc25
    have E_x2_25 := E_x2_6.keep Kc25
    have E_x3_25 := E_x3_6.keep Kc25
    have E_b4_25 := Ea6.keep Kc25
    have E_b6_25 := Xc6.keep Kc25
    have SZ25 : n0 ≤ T25.heap.size := Nat.le_trans SZ6 Kc25.1
    have K25 : Keep h0 T25.heap [] := K6.trans Kc25 (allS (Or.inr sz_b4) (allS (Or.inr sz_b6) all0))
    have hk := Nat.le_trans hk Kc25.1
    have CR25 : CHr Z elL s.vm h0 s.vm T25.heap := CR6.trans (CHr.keep Kc25 (sfS (Safe.exa hZ.alike Ea6 (by decide) (by decide)) (sfS (Safe.exa hZ.alike Xc6 (by decide) (by decide)) sf0)) CR6.1)
    show Gl _ _ _ _ (T25.setTop (mkF m 57 #[.val (.int w0), .val (.int w1), .val (.int w2), .val (.int w3), .val (.int w4), .val (.int w5), .val (.int (2 : Int32)), .val (.ref x1), .val (.ref x2), .val (.ref x3), .val (.ref b4), .unset, .unset, .unset, .unset, .unset, .unset, .unset, .unset, .unset] [(.int (1 : Int32))]))
    refine Gl.go (fun _ k => XS.pop X25.here hx rfl (hb hby at_57) rfl rfl k) ?_
    refine Gl.go (fun _ k => XS.iload X25.here hx rfl (hb hby at_58) rfl  k) ?_
    refine Gl.go (fun _ k => XS.iconst X25.here hx rfl (hb hby at_60) k) ?_
    refine Gl.go (fun _ k => XS.icmpYes X25.here hx rfl (pc0 := 61) (pc' := 72) rfl (hb hby at_61) rfl (tlt (by decide)).1 (by decide) (by decide) k) ?_
    show Gl _ _ _ _ (T25.setTop (mkF m 72 #[.val (.int w0), .val (.int w1), .val (.int w2), .val (.int w3), .val (.int w4), .val (.int w5), .val (.int (2 : Int32)), .val (.ref x1), .val (.ref x2), .val (.ref x3), .val (.ref b4), .unset, .unset, .unset, .unset, .unset, .unset, .unset, .unset, .unset] []))
    refine Gl.go (fun _ k => XS.bipush X25.here hx rfl (hb hby at_72) k) ?_
    obtain ⟨T26, h26, cA26, X26, e26, E26, A26, st26⟩ := newP X25 hx hZ (hw _ (List.mem_of_getElem? (i := 89) rfl)) rfl (g := (mkF m 74 #[.val (.int w0), .val (.int w1), .val (.int w2), .val (.int w3), .val (.int w4), .val (.int w5), .val (.int (2 : Int32)), .val (.ref x1), .val (.ref x2), .val (.ref x3), .val (.ref b4), .unset, .unset, .unset, .unset, .unset, .unset, .unset, .unset, .unset] [(.int (6 : Int32))])) rfl (hb hby at_74) rfl (by decide) (cap := 6) (by decide) (by decide) (by decide) (by decide)
    obtain ⟨b26, g26⟩ : ∃ z, z = T25.heap.size := ⟨_, rfl⟩
    rw [← g26] at A26 st26
    have g_b26 : n0 ≤ b26 := Nat.le_trans SZ25 (Nat.le_of_eq g26.symm)
    have sz_b26 : h0.size ≤ b26 := Nat.le_trans K25.1 (Nat.le_of_eq g26.symm)
    have ne_b4_b26 : b4 ≠ b26 := Nat.ne_of_lt (Nat.lt_of_lt_of_le Ea25.lt (Nat.le_of_eq g26.symm))
    have ne_b6_b26 : b6 ≠ b26 := Nat.ne_of_lt (Nat.lt_of_lt_of_le E_b6_25.lt (Nat.le_of_eq g26.symm))
    have ne_x1_b26 : x1 ≠ b26 := Nat.ne_of_lt (Nat.lt_of_lt_of_le E_x1_25.lt (Nat.le_of_eq g26.symm))
    have ne_x2_b26 : x2 ≠ b26 := Nat.ne_of_lt (Nat.lt_of_lt_of_le E_x2_25.lt (Nat.le_of_eq g26.symm))
    have ne_x3_b26 : x3 ≠ b26 := Nat.ne_of_lt (Nat.lt_of_lt_of_le E_x3_25.lt (Nat.le_of_eq g26.symm))
    have O__26 := O__25.ext E26
    have E_x1_26 := E_x1_25.ext E26
    have E_x2_26 := E_x2_25.ext E26
    have E_x3_26 := E_x3_25.ext E26
    have E_b6_26 := E_b6_25.ext E26
    have E_b4_26 := Ea25.ext E26
    have F_b4_modCount_26 := Ma25.ext E26
    have F_b4_elementData_26 := Da25.ext E26
    have F_b4_size_26 := Sa25.ext E26
    have V_b6_26 := Vc25.ext E26
    have SZ26 : n0 ≤ h26.size := Nat.le_trans SZ25 E26.1
    have K26 : Keep h0 h26 [] := K25.ext E26
    have hk := Nat.le_trans hk E26.1
    have CR26 : CHr Z elL s.vm h0 s.vm h26 := CR25.trans (CHr.ext E26 CR25.1)
    have V_b26_26 : Arv Z h26 b26 cA26 .int (6 : Int32) [(.int (0 : Int32)), (.int (0 : Int32)), (.int (0 : Int32)), (.int (0 : Int32)), (.int (0 : Int32)), (.int (0 : Int32))] (.int (0 : Int32)) := (Arv.new A26 (by decide)).pad (pad_rep [] _ 6)
    refine Gl.go (fun _ k => st26 _ k) ?_
    show Gl _ _ _ _ (T26.setTop (mkF m 76 #[.val (.int w0), .val (.int w1), .val (.int w2), .val (.int w3), .val (.int w4), .val (.int w5), .val (.int (2 : Int32)), .val (.ref x1), .val (.ref x2), .val (.ref x3), .val (.ref b4), .unset, .unset, .unset, .unset, .unset, .unset, .unset, .unset, .unset] [(.ref b26)]))
    refine Gl.go (fun _ k => XS.astore X26.here hx rfl (hb hby at_76) rfl rfl (l' := #[.val (.int w0), .val (.int w1), .val (.int w2), .val (.int w3), .val (.int w4), .val (.int w5), .val (.int (2 : Int32)), .val (.ref x1), .val (.ref x2), .val (.ref x3), .val (.ref b4), .val (.ref b26), .unset, .unset, .unset, .unset, .unset, .unset, .unset, .unset]) rfl k) ?_
    refine Gl.go (fun _ k => XS.aload X26.here hx rfl (hb hby at_78) rfl rfl  k) ?_
    refine Gl.go (fun _ k => XS.iconst X26.here hx rfl (hb hby at_80) k) ?_
    refine Gl.go (fun _ k => XS.iload X26.here hx rfl (hb hby at_81) rfl  k) ?_
    show Gl _ _ _ _ (T26.setTop (mkF m 83 #[.val (.int w0), .val (.int w1), .val (.int w2), .val (.int w3), .val (.int w4), .val (.int w5), .val (.int (2 : Int32)), .val (.ref x1), .val (.ref x2), .val (.ref x3), .val (.ref b4), .val (.ref b26), .unset, .unset, .unset, .unset, .unset, .unset, .unset, .unset] [(.int w5), (.int (0 : Int32)), (.ref b26)]))
    obtain ⟨cl27, Ar27, qA27, SA27, NA27, HA27, GA27⟩ := id V_b26_26
    obtain ⟨T27, h27, X27, e27, W27, st27⟩ := stI X26 hx hZ e26 Ar27 (j := (0 : Int32)) (inb_of SA27 ⟨by decide, by decide⟩) (g := (mkF m 83 #[.val (.int w0), .val (.int w1), .val (.int w2), .val (.int w3), .val (.int w4), .val (.int w5), .val (.int (2 : Int32)), .val (.ref x1), .val (.ref x2), .val (.ref x3), .val (.ref b4), .val (.ref b26), .unset, .unset, .unset, .unset, .unset, .unset, .unset, .unset] [(.int w5), (.int (0 : Int32)), (.ref b26)])) rfl rfl (hb hby at_83)
    have O__27 := O__26.wr W27 g_b26
    have E_x1_27 := E_x1_26.wr W27
    have E_x2_27 := E_x2_26.wr W27
    have E_x3_27 := E_x3_26.wr W27
    have E_b6_27 := E_b6_26.wr W27
    have E_b4_27 := E_b4_26.wr W27
    have F_b4_modCount_27 := F_b4_modCount_26.other W27 (Or.inl ne_b4_b26)
    have F_b4_elementData_27 := F_b4_elementData_26.other W27 (Or.inl ne_b4_b26)
    have F_b4_size_27 := F_b4_size_26.other W27 (Or.inl ne_b4_b26)
    have V_b6_27 := V_b6_26.other W27 ne_b6_b26
    have SZ27 : n0 ≤ h27.size := by rw [Wr.size W27]; exact SZ26
    have K27 : Keep h0 h27 [] := K26.wr W27 (Or.inr sz_b26)
    have N27 := Fr.snoc X27 N25 g_b26
    have hk := Nat.le_trans hk (Nat.le_of_eq (Wr.size W27).symm)
    have CR27 : CHr Z elL s.vm h0 s.vm h27 := CR26.trans (CHr.wr W27 (Safe.arv hZ.alike V_b26_26 (by decide)) CR26.1)
    have V_b26_27 : Arv Z h27 b26 cA26 .int (6 : Int32) [(.int w5), (.int (0 : Int32)), (.int (0 : Int32)), (.int (0 : Int32)), (.int (0 : Int32)), (.int (0 : Int32))] (.int (0 : Int32)) := Arv.set Ar27 qA27 SA27 NA27 HA27 GA27 rfl W27 0 rfl (Nat.le_of_ble_eq_true rfl)
    refine Gl.go (fun _ k => st27 _ k) ?_
    show Gl _ _ _ _ (T27.setTop (mkF m 84 #[.val (.int w0), .val (.int w1), .val (.int w2), .val (.int w3), .val (.int w4), .val (.int w5), .val (.int (2 : Int32)), .val (.ref x1), .val (.ref x2), .val (.ref x3), .val (.ref b4), .val (.ref b26), .unset, .unset, .unset, .unset, .unset, .unset, .unset, .unset] []))
    obtain ⟨T28, h28, X28, e28, E28, A28, D28, -, st28⟩ := newO X27 hx hZ hown (hw _ (List.mem_of_getElem? (i := 34) rfl)) (hw _ (List.mem_of_getElem? (i := 35) rfl)) (hw _ (List.mem_of_getElem? (i := 36) rfl)) e27 (g := (mkF m 84 #[.val (.int w0), .val (.int w1), .val (.int w2), .val (.int w3), .val (.int w4), .val (.int w5), .val (.int (2 : Int32)), .val (.ref x1), .val (.ref x2), .val (.ref x3), .val (.ref b4), .val (.ref b26), .unset, .unset, .unset, .unset, .unset, .unset, .unset, .unset] [])) rfl (hb hby at_84) (by decide) (by decide)
    obtain ⟨b28, g28⟩ : ∃ z, z = h27.size := ⟨_, rfl⟩
    rw [← g28] at A28 D28 st28
    have g_b28 : n0 ≤ b28 := Nat.le_trans SZ27 (Nat.le_of_eq g28.symm)
    have sz_b28 : h0.size ≤ b28 := Nat.le_trans K27.1 (Nat.le_of_eq g28.symm)
    have ne_b4_b28 : b4 ≠ b28 := Nat.ne_of_lt (Nat.lt_of_lt_of_le E_b4_27.lt (Nat.le_of_eq g28.symm))
    have ne_b6_b28 : b6 ≠ b28 := Nat.ne_of_lt (Nat.lt_of_lt_of_le E_b6_27.lt (Nat.le_of_eq g28.symm))
    have ne_x1_b28 : x1 ≠ b28 := Nat.ne_of_lt (Nat.lt_of_lt_of_le E_x1_27.lt (Nat.le_of_eq g28.symm))
    have ne_x2_b28 : x2 ≠ b28 := Nat.ne_of_lt (Nat.lt_of_lt_of_le E_x2_27.lt (Nat.le_of_eq g28.symm))
    have ne_x3_b28 : x3 ≠ b28 := Nat.ne_of_lt (Nat.lt_of_lt_of_le E_x3_27.lt (Nat.le_of_eq g28.symm))
    have O__28 := O__27.ext E28
    have E_x1_28 := E_x1_27.ext E28
    have E_x2_28 := E_x2_27.ext E28
    have E_x3_28 := E_x3_27.ext E28
    have E_b6_28 := E_b6_27.ext E28
    have E_b4_28 := E_b4_27.ext E28
    have F_b4_modCount_28 := F_b4_modCount_27.ext E28
    have F_b4_elementData_28 := F_b4_elementData_27.ext E28
    have F_b4_size_28 := F_b4_size_27.ext E28
    have V_b6_28 := V_b6_27.ext E28
    have SZ28 : n0 ≤ h28.size := Nat.le_trans SZ27 E28.1
    have K28 : Keep h0 h28 [] := K27.ext E28
    have hk := Nat.le_trans hk E28.1
    have CR28 : CHr Z elL s.vm h0 s.vm h28 := CR27.trans (CHr.ext E28 CR27.1)
    have F_b28_modCount_28 : Fld Z h28 b28 "java/util/AbstractList" "modCount" "I" (.int (0 : Int32)) := D28 (Or.inl (hw _ (List.mem_of_getElem? (i := 54) rfl))) (ty := .int) (by decide)
    have F_b28_elementData_28 : Fld Z h28 b28 "java/util/ArrayList" "elementData" "[Ljava/lang/Object;" .null := D28 (Or.inl (hw _ (List.mem_of_getElem? (i := 57) rfl))) (ty := (.array (.object "java/lang/Object"))) (by decide)
    have F_b28_size_28 : Fld Z h28 b28 "java/util/ArrayList" "size" "I" (.int (0 : Int32)) := D28 (Or.inl (hw _ (List.mem_of_getElem? (i := 66) rfl))) (ty := .int) (by decide)
    refine Gl.go (fun _ k => st28 _ k) ?_
    show Gl _ _ _ _ (T28.setTop (mkF m 87 #[.val (.int w0), .val (.int w1), .val (.int w2), .val (.int w3), .val (.int w4), .val (.int w5), .val (.int (2 : Int32)), .val (.ref x1), .val (.ref x2), .val (.ref x3), .val (.ref b4), .val (.ref b26), .unset, .unset, .unset, .unset, .unset, .unset, .unset, .unset] [(.ref b28)]))
    refine Gl.go (fun _ k => XS.dup X28.here hx rfl (hb hby at_87) rfl rfl k) ?_
    obtain ⟨_, _, ⟨T29, L29, k29, n29⟩, -, X29, ⟨Lc29, hQ29, l29, y29, z29⟩, st29⟩ := X28.specialBack hx (y := (⟨"java/util/ArrayList", "<init>", "()V"⟩ : MethodName)) rfl hown (mvT hZ (hw _ (List.mem_of_getElem? (i := 37) rfl))) (mvT hZ (hw _ (List.mem_of_getElem? (i := 38) rfl))) (mvT hZ (hw _ (List.mem_of_getElem? (i := 39) rfl))) (by decide) (backOf (W := 1) (rm_ali l Z a0 hw [] b28 dE h28 n0 SZ28 A28 F_b28_modCount_28 F_b28_elementData_28 F_b28_size_28 g_b28 SD O__28) hZ (hw _ (List.mem_of_getElem? (i := 39) rfl)) (hw _ (List.mem_of_getElem? (i := 36) rfl)) (by decide) (by decide)) (g := (mkF m 88 #[.val (.int w0), .val (.int w1), .val (.int w2), .val (.int w3), .val (.int w4), .val (.int w5), .val (.int (2 : Int32)), .val (.ref x1), .val (.ref x2), .val (.ref x3), .val (.ref b4), .val (.ref b26), .unset, .unset, .unset, .unset, .unset, .unset, .unset, .unset] [(.ref b28), (.ref b28)])) rfl (by rw [hml]; rfl) (Steps.refl _) (a := b28) (argsL := []) (rest := [(.ref b28)]) (lenOf pd_0 rfl) rfl (by show 2 * 0 + _ ≤ _; exact Nat.le_of_eq rfl) (hb hby at_88) (fun _ _ => ⟨rfl, e28, (by decide : 13 + 0 ≤ _), (by decide : 46 + 0 ≤ _)⟩)
    dsimp only [Pt.U, Pt.locs, Pt.cells, Pt.slots] at X29 l29 y29 z29 st29 hQ29
    subst y29 z29
    obtain ⟨rfl, Nq29, Kc29, Ea29, Ma29, Da29, Sa29⟩ := hQ29
    have N29 : Fr n0 L29 := by rw [l29]; exact Fr.app N27 Nq29
    refine Gl.go (fun _ k => st29.trans k) ?_
    have O__29 := O__28.keep Kc29 (allS g_b28 all0)
    have E_x1_29 := E_x1_28.keep Kc29
    have E_x2_29 := E_x2_28.keep Kc29
    have E_x3_29 := E_x3_28.keep Kc29
    have E_b6_29 := E_b6_28.keep Kc29
    have E_b4_29 := E_b4_28.keep Kc29
    have F_b4_modCount_29 := F_b4_modCount_28.keep Kc29 (ninS ne_b4_b28 nin0)
    have F_b4_elementData_29 := F_b4_elementData_28.keep Kc29 (ninS ne_b4_b28 nin0)
    have F_b4_size_29 := F_b4_size_28.keep Kc29 (ninS ne_b4_b28 nin0)
    have V_b6_29 := V_b6_28.keep Kc29 (ninS ne_b6_b28 nin0)
    have E_b28_29 := A28.keep Kc29
    have SZ29 : n0 ≤ T29.heap.size := Nat.le_trans SZ28 Kc29.1
    have K29 : Keep h0 T29.heap [] := K28.trans Kc29 (allS (Or.inr sz_b28) all0)
    have hk := Nat.le_trans hk Kc29.1
    have CR29 : CHr Z elL s.vm h0 s.vm T29.heap := CR28.trans (CHr.keep Kc29 (sfS (Safe.exa hZ.alike A28 (by decide) (by decide)) sf0) CR28.1)
    show Gl _ _ _ _ (T29.setTop (mkF m 91 #[.val (.int w0), .val (.int w1), .val (.int w2), .val (.int w3), .val (.int w4), .val (.int w5), .val (.int (2 : Int32)), .val (.ref x1), .val (.ref x2), .val (.ref x3), .val (.ref b4), .val (.ref b26), .unset, .unset, .unset, .unset, .unset, .unset, .unset, .unset] [(.ref b28)]))
    refine Gl.go (fun _ k => XS.astore X29.here hx rfl (hb hby at_91) rfl rfl (l' := #[.val (.int w0), .val (.int w1), .val (.int w2), .val (.int w3), .val (.int w4), .val (.int w5), .val (.int (2 : Int32)), .val (.ref x1), .val (.ref x2), .val (.ref x3), .val (.ref b4), .val (.ref b26), .val (.ref b28), .unset, .unset, .unset, .unset, .unset, .unset, .unset]) rfl k) ?_
    refine Gl.go (fun _ k => XS.aload X29.here hx rfl (hb hby at_93) rfl rfl  k) ?_
    refine Gl.go (fun _ k => XS.iload X29.here hx rfl (hb hby at_95) rfl  k) ?_
    obtain ⟨_, _, ⟨T30, L30, k30, n30⟩, -, X30, ⟨Lc30, hQ30, l30, y30, z30⟩, st30⟩ := Jvm.LawKit.callS X29 hx (y := (⟨"com/example/frosted_rows/frostedrows/release/PublishedGroupCellPinLaw", "str", "(I)Ljava/lang/String;"⟩ : MethodName)) hown (mvT hZ (hw _ (List.mem_of_getElem? (i := 0) rfl))) (mvT hZ (hw _ (List.mem_of_getElem? (i := 1) rfl))) (mvT hZ (hw _ (List.mem_of_getElem? (i := 2) rfl))) (mvT hZ (hw _ (List.mem_of_getElem? (i := 3) rfl))) (by decide) (backOf (W := 1) (rm_str l Z a0 hw [] w5 G1 T29.heap n0 SZ29 O2 P5 O__29) hZ (hw _ (List.mem_of_getElem? (i := 3) rfl)) (hw _ (List.mem_of_getElem? (i := 2) rfl)) (by decide) (by decide)) (g := (mkF m 97 #[.val (.int w0), .val (.int w1), .val (.int w2), .val (.int w3), .val (.int w4), .val (.int w5), .val (.int (2 : Int32)), .val (.ref x1), .val (.ref x2), .val (.ref x3), .val (.ref b4), .val (.ref b26), .val (.ref b28), .unset, .unset, .unset, .unset, .unset, .unset, .unset] [(.int w5), (.ref b28)])) rfl (by rw [hml]; rfl) (argsL := [(.int w5)]) (rest := [(.ref b28)]) (lenOf pd_19 rfl) rfl (by show 2 * 0 + _ ≤ _; exact Nat.le_of_eq rfl) (hb hby at_97) (fun _ _ => ⟨rfl, rfl, (by decide : 13 + 3 ≤ _), (by decide : 46 + 8 ≤ _)⟩)
    dsimp only [Pt.U, Pt.locs, Pt.cells, Pt.slots] at X30 l30 y30 z30 st30 hQ30
    subst y30 z30
    obtain ⟨x30, rfl, Nq30, Kc30, gz30, Sx30⟩ := hQ30
    have N30 : Fr n0 L30 := by rw [l30]; exact Fr.app N29 Nq30
    refine Gl.go (fun _ k => st30 _ k) ?_
    have Ex30 := ext_of_keep Kc30
    have O__30 := O__29.ext Ex30
    have E_x1_30 := E_x1_29.ext Ex30
    have E_x2_30 := E_x2_29.ext Ex30
    have E_x3_30 := E_x3_29.ext Ex30
    have E_b6_30 := E_b6_29.ext Ex30
    have E_b4_30 := E_b4_29.ext Ex30
    have F_b4_modCount_30 := F_b4_modCount_29.ext Ex30
    have F_b4_elementData_30 := F_b4_elementData_29.ext Ex30
    have F_b4_size_30 := F_b4_size_29.ext Ex30
    have V_b6_30 := V_b6_29.ext Ex30
    have E_b28_30 := Ea29.ext Ex30
    have F_b28_modCount_30 := Ma29.ext Ex30
    have F_b28_elementData_30 := Da29.ext Ex30
    have F_b28_size_30 := Sa29.ext Ex30
    have SZ30 : n0 ≤ T30.heap.size := Nat.le_trans SZ29 Ex30.1
    have K30 : Keep h0 T30.heap [] := K29.ext Ex30
    have hk := Nat.le_trans hk Ex30.1
    have CR30 : CHr Z elL s.vm h0 s.vm T30.heap := CR29.trans (CHr.ext Ex30 CR29.1)
    show Gl _ _ _ _ (T30.setTop (mkF m 100 #[.val (.int w0), .val (.int w1), .val (.int w2), .val (.int w3), .val (.int w4), .val (.int w5), .val (.int (2 : Int32)), .val (.ref x1), .val (.ref x2), .val (.ref x3), .val (.ref b4), .val (.ref b26), .val (.ref b28), .unset, .unset, .unset, .unset, .unset, .unset, .unset] [(.ref x30), (.ref b28)]))
    have g_x30 : n0 ≤ x30 := Nat.le_trans SZ29 gz30
    have sz_x30 : h0.size ≤ x30 := Nat.le_trans K29.1 gz30
    have ne_b28_x30 : b28 ≠ x30 := Nat.ne_of_lt (Nat.lt_of_lt_of_le Ea29.lt gz30)
    have ne_b4_x30 : b4 ≠ x30 := Nat.ne_of_lt (Nat.lt_of_lt_of_le E_b4_29.lt gz30)
    have ne_b6_x30 : b6 ≠ x30 := Nat.ne_of_lt (Nat.lt_of_lt_of_le E_b6_29.lt gz30)
    have ne_x1_x30 : x1 ≠ x30 := Nat.ne_of_lt (Nat.lt_of_lt_of_le E_x1_29.lt gz30)
    have ne_x2_x30 : x2 ≠ x30 := Nat.ne_of_lt (Nat.lt_of_lt_of_le E_x2_29.lt gz30)
    have ne_x3_x30 : x3 ≠ x30 := Nat.ne_of_lt (Nat.lt_of_lt_of_le E_x3_29.lt gz30)
    obtain ⟨cq31, kq31, q31a, q31b, q31c⟩ := isOf (s := s.setVm s.vm) hZ rfl E_b28_30
    obtain ⟨_, _, ⟨T31, L31, k31, n31⟩, -, X31, ⟨Lc31, hQ31, l31, y31, z31⟩, st31⟩ := X30.virtualBack hx (y := (⟨"java/util/ArrayList", "add", "(Ljava/lang/Object;)Z"⟩ : MethodName)) (z := (⟨"java/util/ArrayList", "add", "(Ljava/lang/Object;)Z"⟩ : MethodName)) hown (mvT hZ (hw _ (List.mem_of_getElem? (i := 58) rfl))) (mvT hZ (hw _ (List.mem_of_getElem? (i := 59) rfl))) (notFace_of_selects (args := #[]) (mvT hZ (hw _ (List.mem_of_getElem? (i := 61) rfl)))) (mvT hZ (hw _ (List.mem_of_getElem? (i := 61) rfl))) (mvT hZ (hw _ (List.mem_of_getElem? (i := 60) rfl))) (by decide) (backOf (W := 0) (rm_ad1 l Z a0 hw [] b28 (0 : Int32) dE kD x30 T30.heap n0 SZ30 E_b28_30 F_b28_modCount_30 F_b28_elementData_30 F_b28_size_30 g_b28 SD VD O__30 Sx30) hZ (hw _ (List.mem_of_getElem? (i := 62) rfl)) (hw _ (List.mem_of_getElem? (i := 36) rfl)) (by decide) (by decide)) q31a q31c (g := (mkF m 100 #[.val (.int w0), .val (.int w1), .val (.int w2), .val (.int w3), .val (.int w4), .val (.int w5), .val (.int (2 : Int32)), .val (.ref x1), .val (.ref x2), .val (.ref x3), .val (.ref b4), .val (.ref b26), .val (.ref b28), .unset, .unset, .unset, .unset, .unset, .unset, .unset] [(.ref x30), (.ref b28)])) rfl (by rw [hml]; rfl) (Steps.refl _) (argsL := [(.ref x30)]) (rest := []) (lenOf pd_20 rfl) rfl (by show 2 * 0 + _ ≤ _; exact Nat.le_of_eq rfl) (hb hby at_100) (fun _ _ => ⟨rfl, rfl, (by decide : 16 + 1 ≤ _), (by decide : 54 + 10 ≤ _)⟩)
    dsimp only [Pt.U, Pt.locs, Pt.cells, Pt.slots] at X31 l31 y31 z31 st31 hQ31
    subst y31 z31
    obtain ⟨b31, kc31, rfl, Nq31, Kc31, gz31, Ea31, Ma31, Da31, Sa31, Vc31, Oc31, Xc31⟩ := hQ31
    have N31 : Fr n0 L31 := by rw [l31]; exact Fr.app N30 Nq31
    refine Gl.go (fun _ k => st31.trans k) ?_
    have O__31 := O__30.keep Kc31 (allS g_b28 all0)
    have E_x1_31 := E_x1_30.keep Kc31
    have E_x2_31 := E_x2_30.keep Kc31
    have E_x3_31 := E_x3_30.keep Kc31
    have E_b6_31 := E_b6_30.keep Kc31
    have E_b4_31 := E_b4_30.keep Kc31
    have F_b4_modCount_31 := F_b4_modCount_30.keep Kc31 (ninS ne_b4_b28 nin0)
    have F_b4_elementData_31 := F_b4_elementData_30.keep Kc31 (ninS ne_b4_b28 nin0)
    have F_b4_size_31 := F_b4_size_30.keep Kc31 (ninS ne_b4_b28 nin0)
    have V_b6_31 := V_b6_30.keep Kc31 (ninS ne_b6_b28 nin0)
    have E_b28_31 := E_b28_30.keep Kc31
    have E_x30_31 := Sx30.keep Kc31
    have SZ31 : n0 ≤ T31.heap.size := Nat.le_trans SZ30 Kc31.1
    have K31 : Keep h0 T31.heap [] := K30.trans Kc31 (allS (Or.inr sz_b28) all0)
    have hk := Nat.le_trans hk Kc31.1
    have CR31 : CHr Z elL s.vm h0 s.vm T31.heap := CR30.trans (CHr.keep Kc31 (sfS (Safe.exa hZ.alike E_b28_30 (by decide) (by decide)) sf0) CR30.1)
    show Gl _ _ _ _ (T31.setTop (mkF m 103 #[.val (.int w0), .val (.int w1), .val (.int w2), .val (.int w3), .val (.int w4), .val (.int w5), .val (.int (2 : Int32)), .val (.ref x1), .val (.ref x2), .val (.ref x3), .val (.ref b4), .val (.ref b26), .val (.ref b28), .unset, .unset, .unset, .unset, .unset, .unset, .unset] [(.int (1 : Int32))]))
    have g_b31 : n0 ≤ b31 := Nat.le_trans SZ30 gz31
    have sz_b31 : h0.size ≤ b31 := Nat.le_trans K30.1 gz31
    have ne_b28_b31 : b28 ≠ b31 := Nat.ne_of_lt (Nat.lt_of_lt_of_le E_b28_30.lt gz31)
    have ne_b4_b31 : b4 ≠ b31 := Nat.ne_of_lt (Nat.lt_of_lt_of_le E_b4_30.lt gz31)
    have ne_b6_b31 : b6 ≠ b31 := Nat.ne_of_lt (Nat.lt_of_lt_of_le E_b6_30.lt gz31)
    have ne_x1_b31 : x1 ≠ b31 := Nat.ne_of_lt (Nat.lt_of_lt_of_le E_x1_30.lt gz31)
    have ne_x2_b31 : x2 ≠ b31 := Nat.ne_of_lt (Nat.lt_of_lt_of_le E_x2_30.lt gz31)
    have ne_x3_b31 : x3 ≠ b31 := Nat.ne_of_lt (Nat.lt_of_lt_of_le E_x3_30.lt gz31)
    have ne_x30_b31 : x30 ≠ b31 := Nat.ne_of_lt (Nat.lt_of_lt_of_le Sx30.lt gz31)
    refine Gl.go (fun _ k => XS.pop X31.here hx rfl (hb hby at_103) rfl rfl k) ?_
    obtain ⟨T32, h32, X32, e32, E32, A32, D32, -, st32⟩ := newO X31 hx hZ hown (hw _ (List.mem_of_getElem? (i := 90) rfl)) (hw _ (List.mem_of_getElem? (i := 91) rfl)) (hw _ (List.mem_of_getElem? (i := 92) rfl)) rfl (g := (mkF m 104 #[.val (.int w0), .val (.int w1), .val (.int w2), .val (.int w3), .val (.int w4), .val (.int w5), .val (.int (2 : Int32)), .val (.ref x1), .val (.ref x2), .val (.ref x3), .val (.ref b4), .val (.ref b26), .val (.ref b28), .unset, .unset, .unset, .unset, .unset, .unset, .unset] [])) rfl (hb hby at_104) (by decide) (by decide)
    obtain ⟨b32, g32⟩ : ∃ z, z = T31.heap.size := ⟨_, rfl⟩
    rw [← g32] at A32 D32 st32
    have g_b32 : n0 ≤ b32 := Nat.le_trans SZ31 (Nat.le_of_eq g32.symm)
    have sz_b32 : h0.size ≤ b32 := Nat.le_trans K31.1 (Nat.le_of_eq g32.symm)
    have ne_b28_b32 : b28 ≠ b32 := Nat.ne_of_lt (Nat.lt_of_lt_of_le Ea31.lt (Nat.le_of_eq g32.symm))
    have ne_b4_b32 : b4 ≠ b32 := Nat.ne_of_lt (Nat.lt_of_lt_of_le E_b4_31.lt (Nat.le_of_eq g32.symm))
    have ne_b6_b32 : b6 ≠ b32 := Nat.ne_of_lt (Nat.lt_of_lt_of_le E_b6_31.lt (Nat.le_of_eq g32.symm))
    have ne_x1_b32 : x1 ≠ b32 := Nat.ne_of_lt (Nat.lt_of_lt_of_le E_x1_31.lt (Nat.le_of_eq g32.symm))
    have ne_x2_b32 : x2 ≠ b32 := Nat.ne_of_lt (Nat.lt_of_lt_of_le E_x2_31.lt (Nat.le_of_eq g32.symm))
    have ne_x3_b32 : x3 ≠ b32 := Nat.ne_of_lt (Nat.lt_of_lt_of_le E_x3_31.lt (Nat.le_of_eq g32.symm))
    have O__32 := O__31.ext E32
    have E_x1_32 := E_x1_31.ext E32
    have E_x2_32 := E_x2_31.ext E32
    have E_x3_32 := E_x3_31.ext E32
    have E_b6_32 := E_b6_31.ext E32
    have E_b4_32 := E_b4_31.ext E32
    have F_b4_modCount_32 := F_b4_modCount_31.ext E32
    have F_b4_elementData_32 := F_b4_elementData_31.ext E32
    have F_b4_size_32 := F_b4_size_31.ext E32
    have V_b6_32 := V_b6_31.ext E32
    have E_b28_32 := Ea31.ext E32
    have SZ32 : n0 ≤ h32.size := Nat.le_trans SZ31 E32.1
    have K32 : Keep h0 h32 [] := K31.ext E32
    have hk := Nat.le_trans hk E32.1
    have CR32 : CHr Z elL s.vm h0 s.vm h32 := CR31.trans (CHr.ext E32 CR31.1)
    have F_b32_number_32 : Fld Z h32 b32 "com/example/frosted_rows/frostedrows/release/PublishedGroup" "number" "Ljava/lang/String;" .null := D32 (Or.inr (hw _ (List.mem_of_getElem? (i := 101) rfl))) (ty := (.object "java/lang/String")) (by decide)
    have F_b32_cells_32 : Fld Z h32 b32 "com/example/frosted_rows/frostedrows/release/PublishedGroup" "cells" "Ljava/util/List;" .null := D32 (Or.inr (hw _ (List.mem_of_getElem? (i := 188) rfl))) (ty := (.object "java/util/List")) (by decide)
    have F_b32_covered_32 : Fld Z h32 b32 "com/example/frosted_rows/frostedrows/release/PublishedGroup" "covered" "[I" .null := D32 (Or.inr (hw _ (List.mem_of_getElem? (i := 190) rfl))) (ty := (.array .int)) (by decide)
    have F_b32_sensitive_32 : Fld Z h32 b32 "com/example/frosted_rows/frostedrows/release/PublishedGroup" "sensitive" "Ljava/util/List;" .null := D32 (Or.inr (hw _ (List.mem_of_getElem? (i := 232) rfl))) (ty := (.object "java/util/List")) (by decide)
    refine Gl.go (fun _ k => st32 _ k) ?_
    show Gl _ _ _ _ (T32.setTop (mkF m 107 #[.val (.int w0), .val (.int w1), .val (.int w2), .val (.int w3), .val (.int w4), .val (.int w5), .val (.int (2 : Int32)), .val (.ref x1), .val (.ref x2), .val (.ref x3), .val (.ref b4), .val (.ref b26), .val (.ref b28), .unset, .unset, .unset, .unset, .unset, .unset, .unset] [(.ref b32)]))
    refine Gl.go (fun _ k => XS.dup X32.here hx rfl (hb hby at_107) rfl rfl k) ?_
    obtain ⟨sa33, T33, h33, k133, X33, e33, E33, hS, hk33, hZ33, hown, hC33, -, st33⟩ := ldcOH (EL := elL) X32 hx hZ hown (hw _ (List.mem_of_getElem? (i := 93) rfl)) hSA e32 hS hk hEL CR32.1 (g := (mkF m 108 #[.val (.int w0), .val (.int w1), .val (.int w2), .val (.int w3), .val (.int w4), .val (.int w5), .val (.int (2 : Int32)), .val (.ref x1), .val (.ref x2), .val (.ref x3), .val (.ref b4), .val (.ref b26), .val (.ref b28), .unset, .unset, .unset, .unset, .unset, .unset, .unset] [(.ref b32), (.ref b32)])) rfl (hb hby at_108) (n := 4) (by decide) (by decide) (by decide) (by decide)
    have hZ : Z.Warmed39 T33.vm := hZ33
    have hk := hk33
    have CR33 : CHr Z elL s.vm h0 T33.vm h33 := CR32.trans hC33
    have O__33 := O__32.ext E33
    have E_x1_33 := E_x1_32.ext E33
    have E_x2_33 := E_x2_32.ext E33
    have E_x3_33 := E_x3_32.ext E33
    have E_b6_33 := E_b6_32.ext E33
    have E_b4_33 := E_b4_32.ext E33
    have F_b4_modCount_33 := F_b4_modCount_32.ext E33
    have F_b4_elementData_33 := F_b4_elementData_32.ext E33
    have F_b4_size_33 := F_b4_size_32.ext E33
    have V_b6_33 := V_b6_32.ext E33
    have E_b28_33 := E_b28_32.ext E33
    have E_b32_33 := A32.ext E33
    have F_b32_number_33 := F_b32_number_32.ext E33
    have F_b32_cells_33 := F_b32_cells_32.ext E33
    have F_b32_covered_33 := F_b32_covered_32.ext E33
    have F_b32_sensitive_33 := F_b32_sensitive_32.ext E33
    have SZ33 : n0 ≤ h33.size := Nat.le_trans SZ32 E33.1
    have K33 : Keep h0 h33 [] := K32.ext E33
    refine Gl.go (fun _ k => st33 _ k) ?_
    show Gl _ _ _ _ (T33.setTop (mkF m 110 #[.val (.int w0), .val (.int w1), .val (.int w2), .val (.int w3), .val (.int w4), .val (.int w5), .val (.int (2 : Int32)), .val (.ref x1), .val (.ref x2), .val (.ref x3), .val (.ref b4), .val (.ref b26), .val (.ref b28), .unset, .unset, .unset, .unset, .unset, .unset, .unset] [(.ref sa33), (.ref b32), (.ref b32)]))
    refine Gl.go (fun _ k => XS.aload X33.here hx rfl (hb hby at_110) rfl rfl  k) ?_
    refine Gl.go (fun _ k => XS.aload X33.here hx rfl (hb hby at_112) rfl rfl  k) ?_
    refine Gl.go (fun _ k => XS.aload X33.here hx rfl (hb hby at_114) rfl rfl  k) ?_
    obtain ⟨_, _, ⟨T34, L34, k34, n34⟩, -, X34, ⟨Lc34, hQ34, l34, y34, z34⟩, st34⟩ := X33.specialBack hx (y := (⟨"com/example/frosted_rows/frostedrows/release/PublishedGroup", "<init>", "(Ljava/lang/String;Ljava/util/List;[ILjava/util/List;)V"⟩ : MethodName)) rfl hown (mvT hZ (hw _ (List.mem_of_getElem? (i := 96) rfl))) (mvT hZ (hw _ (List.mem_of_getElem? (i := 97) rfl))) (mvT hZ (hw _ (List.mem_of_getElem? (i := 98) rfl))) (by decide) (backOf (W := 1) (rm_pgi_2 l Z a0 hw [] b32 sa33 b26 b28 mA mL mR b4 (((0 : Int32) + (1 : Int32)) + (1 : Int32)) b6 kc6 mO x1 x2 eM h33 n0 SZ33 E_b32_33 F_b32_number_33 F_b32_cells_33 F_b32_covered_33 F_b32_sensitive_33 E_b4_33 F_b4_modCount_33 F_b4_elementData_33 F_b4_size_33 V_b6_33 E_x1_33 E_x2_33 E_b6_33 MO SE O__33 E_b28_33 MA ML MR g_b32 (Ne.symm ne_b4_b32) (Ne.symm ne_b6_b32)) hZ (hw _ (List.mem_of_getElem? (i := 98) rfl)) (hw _ (List.mem_of_getElem? (i := 92) rfl)) (by decide) (by decide)) (g := (mkF m 116 #[.val (.int w0), .val (.int w1), .val (.int w2), .val (.int w3), .val (.int w4), .val (.int w5), .val (.int (2 : Int32)), .val (.ref x1), .val (.ref x2), .val (.ref x3), .val (.ref b4), .val (.ref b26), .val (.ref b28), .unset, .unset, .unset, .unset, .unset, .unset, .unset] [(.ref b28), (.ref b26), (.ref b4), (.ref sa33), (.ref b32), (.ref b32)])) rfl (by rw [hml]; rfl) (Steps.refl _) (a := b32) (argsL := [(.ref sa33), (.ref b4), (.ref b26), (.ref b28)]) (rest := [(.ref b32)]) (lenOf pd_21 rfl) rfl (by show 2 * 0 + _ ≤ _; exact Nat.le_of_eq rfl) (hb hby at_116) (fun _ _ => ⟨rfl, e33, (by decide : 20 + 3 ≤ _), (by decide : 76 + 6 ≤ _)⟩)
    dsimp only [Pt.U, Pt.locs, Pt.cells, Pt.slots] at X34 l34 y34 z34 st34 hQ34
    subst y34 z34
    obtain ⟨rfl, Nq34, Kc34, Eg34, o34, Fg34, Eo34, F034, F134⟩ := hQ34
    have N34 : Fr n0 L34 := by rw [l34]; exact Fr.app N31 Nq34
    refine Gl.go (fun _ k => st34.trans k) ?_
    have O__34 := O__33.keep Kc34 (allS g_b32 all0)
    have E_x1_34 := E_x1_33.keep Kc34
    have E_x2_34 := E_x2_33.keep Kc34
    have E_x3_34 := E_x3_33.keep Kc34
    have E_b6_34 := E_b6_33.keep Kc34
    have E_b4_34 := E_b4_33.keep Kc34
    have F_b4_modCount_34 := F_b4_modCount_33.keep Kc34 (ninS ne_b4_b32 nin0)
    have F_b4_elementData_34 := F_b4_elementData_33.keep Kc34 (ninS ne_b4_b32 nin0)
    have F_b4_size_34 := F_b4_size_33.keep Kc34 (ninS ne_b4_b32 nin0)
    have V_b6_34 := V_b6_33.keep Kc34 (ninS ne_b6_b32 nin0)
    have E_b28_34 := E_b28_33.keep Kc34
    have E_b32_34 := E_b32_33.keep Kc34
    have SZ34 : n0 ≤ T34.heap.size := Nat.le_trans SZ33 Kc34.1
    have K34 : Keep h0 T34.heap [] := K33.trans Kc34 (allS (Or.inr sz_b32) all0)
    have hk := Nat.le_trans hk Kc34.1
    have CR34 : CHr Z elL s.vm h0 T33.vm T34.heap := CR33.trans (CHr.keep Kc34 (sfS (Safe.exa hZ.alike E_b32_33 (by decide) (by decide)) sf0) CR33.1)
    show Gl _ _ _ _ (T34.setTop (mkF m 119 #[.val (.int w0), .val (.int w1), .val (.int w2), .val (.int w3), .val (.int w4), .val (.int w5), .val (.int (2 : Int32)), .val (.ref x1), .val (.ref x2), .val (.ref x3), .val (.ref b4), .val (.ref b26), .val (.ref b28), .unset, .unset, .unset, .unset, .unset, .unset, .unset] [(.ref b32)]))
    refine Gl.go (fun _ k => XS.astore X34.here hx rfl (hb hby at_119) rfl rfl (l' := #[.val (.int w0), .val (.int w1), .val (.int w2), .val (.int w3), .val (.int w4), .val (.int w5), .val (.int (2 : Int32)), .val (.ref x1), .val (.ref x2), .val (.ref x3), .val (.ref b4), .val (.ref b26), .val (.ref b28), .val (.ref b32), .unset, .unset, .unset, .unset, .unset, .unset]) rfl k) ?_
    refine Gl.go (fun _ k => XS.iload X34.here hx rfl (hb hby at_121) rfl  k) ?_
    refine Gl.go (fun _ k => X34.ldcInt hx hown (mvT hZ (hw _ (List.mem_of_getElem? (i := 233) rfl))) (g := (mkF m 123 #[.val (.int w0), .val (.int w1), .val (.int w2), .val (.int w3), .val (.int w4), .val (.int w5), .val (.int (2 : Int32)), .val (.ref x1), .val (.ref x2), .val (.ref x3), .val (.ref b4), .val (.ref b26), .val (.ref b28), .val (.ref b32), .unset, .unset, .unset, .unset, .unset, .unset] [(.int w4)])) rfl (hb hby at_123) _ k) ?_
    refine Gl.go (fun _ k => XS.iand X34.here hx rfl (hb hby at_125) rfl k) ?_
    show Gl _ _ _ _ (T34.setTop (mkF m 126 #[.val (.int w0), .val (.int w1), .val (.int w2), .val (.int w3), .val (.int w4), .val (.int w5), .val (.int (2 : Int32)), .val (.ref x1), .val (.ref x2), .val (.ref x3), .val (.ref b4), .val (.ref b26), .val (.ref b28), .val (.ref b32), .unset, .unset, .unset, .unset, .unset, .unset] [(.int (w4 &&& (2147483647 : Int32)))]))
    refine Gl.go (fun _ k => XS.iload X34.here hx rfl (hb hby at_126) rfl  k) ?_
    refine Gl.go (fun _ k => iremM X34 hx rfl (hb hby at_128) rfl (by decide) k) ?_
    refine Gl.go (fun _ k => XS.istore X34.here hx rfl (hb hby at_129) rfl (l' := #[.val (.int w0), .val (.int w1), .val (.int w2), .val (.int w3), .val (.int w4), .val (.int w5), .val (.int (2 : Int32)), .val (.ref x1), .val (.ref x2), .val (.ref x3), .val (.ref b4), .val (.ref b26), .val (.ref b28), .val (.ref b32), .val (.int ((w4 &&& (2147483647 : Int32)) % (2 : Int32))), .unset, .unset, .unset, .unset, .unset]) rfl k) ?_
    refine Gl.go (fun _ k => XS.iload X34.here hx rfl (hb hby at_131) rfl  k) ?_
    show Gl _ _ _ _ (T34.setTop (mkF m 133 #[.val (.int w0), .val (.int w1), .val (.int w2), .val (.int w3), .val (.int w4), .val (.int w5), .val (.int (2 : Int32)), .val (.ref x1), .val (.ref x2), .val (.ref x3), .val (.ref b4), .val (.ref b26), .val (.ref b28), .val (.ref b32), .val (.int ((w4 &&& (2147483647 : Int32)) % (2 : Int32))), .unset, .unset, .unset, .unset, .unset] [(.int ((w4 &&& (2147483647 : Int32)) % (2 : Int32)))]))
    have hm := own_m2 w4
    generalize h_cm : ((w4 &&& (2147483647 : Int32)) % (2 : Int32)) = cm at hm ⊢
    show Gl _ _ _ _ (T34.setTop (mkF m 133 #[.val (.int w0), .val (.int w1), .val (.int w2), .val (.int w3), .val (.int w4), .val (.int w5), .val (.int (2 : Int32)), .val (.ref x1), .val (.ref x2), .val (.ref x3), .val (.ref b4), .val (.ref b26), .val (.ref b28), .val (.ref b32), .val (.int cm), .unset, .unset, .unset, .unset, .unset] [(.int cm)]))
    have D133_35 : ∀ t, Steps p.tables e below (T34.setTop (mkF m 154 #[.val (.int w0), .val (.int w1), .val (.int w2), .val (.int w3), .val (.int w4), .val (.int w5), .val (.int (2 : Int32)), .val (.ref x1), .val (.ref x2), .val (.ref x3), .val (.ref b4), .val (.ref b26), .val (.ref b28), .val (.ref b32), .val (.int cm), .unset, .unset, .unset, .unset, .unset] [(.ref (if cm = (0 : Int32) then x1 else (if cm = (1 : Int32) then x2 else x3)))])) t → Steps p.tables e below (T34.setTop (mkF m 133 #[.val (.int w0), .val (.int w1), .val (.int w2), .val (.int w3), .val (.int w4), .val (.int w5), .val (.int (2 : Int32)), .val (.ref x1), .val (.ref x2), .val (.ref x3), .val (.ref b4), .val (.ref b26), .val (.ref b28), .val (.ref b32), .val (.int cm), .unset, .unset, .unset, .unset, .unset] [(.int cm)])) t := by
      intro t k
      show Steps _ _ _ (T34.setTop (mkF m 133 #[.val (.int w0), .val (.int w1), .val (.int w2), .val (.int w3), .val (.int w4), .val (.int w5), .val (.int (2 : Int32)), .val (.ref x1), .val (.ref x2), .val (.ref x3), .val (.ref b4), .val (.ref b26), .val (.ref b28), .val (.ref b32), .val (.int cm), .unset, .unset, .unset, .unset, .unset] [(.int cm)])) _
      by_cases hd133_36 : cm = (0 : Int32)
      · skip
        refine XS.ifNo X34.here hx rfl (hb hby at_133) rfl ((if0 _ _).trans (teq hd133_36).2) ?_
        show Steps _ _ _ (T34.setTop (mkF m 136 #[.val (.int w0), .val (.int w1), .val (.int w2), .val (.int w3), .val (.int w4), .val (.int w5), .val (.int (2 : Int32)), .val (.ref x1), .val (.ref x2), .val (.ref x3), .val (.ref b4), .val (.ref b26), .val (.ref b28), .val (.ref b32), .val (.int cm), .unset, .unset, .unset, .unset, .unset] [])) _
        refine XS.aload X34.here hx rfl (hb hby at_136) rfl rfl  ?_
        refine XS.goto X34.here hx rfl (pc0 := 138) (pc' := 154) rfl (hb hby at_138) (by decide) (by decide) ?_
        simp only [if_pos hd133_36] at k
        exact k
      · skip
        refine XS.ifYes X34.here hx rfl (pc0 := 133) (pc' := 141) rfl (hb hby at_133) rfl ((if0 _ _).trans (feq hd133_36).2) (by decide) (by decide) ?_
        show Steps _ _ _ (T34.setTop (mkF m 141 #[.val (.int w0), .val (.int w1), .val (.int w2), .val (.int w3), .val (.int w4), .val (.int w5), .val (.int (2 : Int32)), .val (.ref x1), .val (.ref x2), .val (.ref x3), .val (.ref b4), .val (.ref b26), .val (.ref b28), .val (.ref b32), .val (.int cm), .unset, .unset, .unset, .unset, .unset] [])) _
        refine XS.iload X34.here hx rfl (hb hby at_141) rfl  ?_
        refine XS.iconst X34.here hx rfl (hb hby at_143) ?_
        by_cases hd144_37 : cm = (1 : Int32)
        · skip
          refine XS.icmpNo X34.here hx rfl (hb hby at_144) rfl (teq hd144_37).2 ?_
          show Steps _ _ _ (T34.setTop (mkF m 147 #[.val (.int w0), .val (.int w1), .val (.int w2), .val (.int w3), .val (.int w4), .val (.int w5), .val (.int (2 : Int32)), .val (.ref x1), .val (.ref x2), .val (.ref x3), .val (.ref b4), .val (.ref b26), .val (.ref b28), .val (.ref b32), .val (.int cm), .unset, .unset, .unset, .unset, .unset] [])) _
          refine XS.aload X34.here hx rfl (hb hby at_147) rfl rfl  ?_
          refine XS.goto X34.here hx rfl (pc0 := 149) (pc' := 154) rfl (hb hby at_149) (by decide) (by decide) ?_
          simp only [if_neg hd133_36, if_pos hd144_37] at k
          exact k
        · skip
          refine XS.icmpYes X34.here hx rfl (pc0 := 144) (pc' := 152) rfl (hb hby at_144) rfl (feq hd144_37).2 (by decide) (by decide) ?_
          show Steps _ _ _ (T34.setTop (mkF m 152 #[.val (.int w0), .val (.int w1), .val (.int w2), .val (.int w3), .val (.int w4), .val (.int w5), .val (.int (2 : Int32)), .val (.ref x1), .val (.ref x2), .val (.ref x3), .val (.ref b4), .val (.ref b26), .val (.ref b28), .val (.ref b32), .val (.int cm), .unset, .unset, .unset, .unset, .unset] [])) _
          refine XS.aload X34.here hx rfl (hb hby at_152) rfl rfl  ?_
          simp only [if_neg hd133_36, if_neg hd144_37] at k
          exact k
    refine Gl.go (fun _ k => D133_35 _ k) ?_
    show Gl _ _ _ _ (T34.setTop (mkF m 154 #[.val (.int w0), .val (.int w1), .val (.int w2), .val (.int w3), .val (.int w4), .val (.int w5), .val (.int (2 : Int32)), .val (.ref x1), .val (.ref x2), .val (.ref x3), .val (.ref b4), .val (.ref b26), .val (.ref b28), .val (.ref b32), .val (.int cm), .unset, .unset, .unset, .unset, .unset] [(.ref (if cm = (0 : Int32) then x1 else (if cm = (1 : Int32) then x2 else x3)))]))
    refine Gl.go (fun _ k => XS.astore X34.here hx rfl (hb hby at_154) rfl rfl (l' := #[.val (.int w0), .val (.int w1), .val (.int w2), .val (.int w3), .val (.int w4), .val (.int w5), .val (.int (2 : Int32)), .val (.ref x1), .val (.ref x2), .val (.ref x3), .val (.ref b4), .val (.ref b26), .val (.ref b28), .val (.ref b32), .val (.int cm), .val (.ref (if cm = (0 : Int32) then x1 else (if cm = (1 : Int32) then x2 else x3))), .unset, .unset, .unset, .unset]) rfl k) ?_
    refine Gl.go (fun _ k => XS.iload X34.here hx rfl (hb hby at_156) rfl  k) ?_
    refine Gl.go (fun _ k => XS.iconst X34.here hx rfl (hb hby at_158) k) ?_
    refine Gl.go (fun _ k => XS.icmpYes X34.here hx rfl (pc0 := 159) (pc' := 167) rfl (hb hby at_159) rfl (feq (by decide)).2 (by decide) (by decide) k) ?_
    show Gl _ _ _ _ (T34.setTop (mkF m 167 #[.val (.int w0), .val (.int w1), .val (.int w2), .val (.int w3), .val (.int w4), .val (.int w5), .val (.int (2 : Int32)), .val (.ref x1), .val (.ref x2), .val (.ref x3), .val (.ref b4), .val (.ref b26), .val (.ref b28), .val (.ref b32), .val (.int cm), .val (.ref (if cm = (0 : Int32) then x1 else (if cm = (1 : Int32) then x2 else x3))), .unset, .unset, .unset, .unset] []))
    refine Gl.go (fun _ k => XS.iload X34.here hx rfl (hb hby at_167) rfl  k) ?_
    refine Gl.go (fun _ k => XS.iconst X34.here hx rfl (hb hby at_169) k) ?_
    refine Gl.go (fun _ k => XS.icmpNo X34.here hx rfl (hb hby at_170) rfl (teq rfl).2 k) ?_
    show Gl _ _ _ _ (T34.setTop (mkF m 173 #[.val (.int w0), .val (.int w1), .val (.int w2), .val (.int w3), .val (.int w4), .val (.int w5), .val (.int (2 : Int32)), .val (.ref x1), .val (.ref x2), .val (.ref x3), .val (.ref b4), .val (.ref b26), .val (.ref b28), .val (.ref b32), .val (.int cm), .val (.ref (if cm = (0 : Int32) then x1 else (if cm = (1 : Int32) then x2 else x3))), .unset, .unset, .unset, .unset] []))
    refine Gl.go (fun _ k => XS.aload X34.here hx rfl (hb hby at_173) rfl rfl  k) ?_
    refine Gl.go (fun _ k => XS.goto X34.here hx rfl (pc0 := 175) (pc' := 180) rfl (hb hby at_175) (by decide) (by decide) k) ?_
    refine Gl.go (fun _ k => XS.astore X34.here hx rfl (hb hby at_180) rfl rfl (l' := #[.val (.int w0), .val (.int w1), .val (.int w2), .val (.int w3), .val (.int w4), .val (.int w5), .val (.int (2 : Int32)), .val (.ref x1), .val (.ref x2), .val (.ref x3), .val (.ref b4), .val (.ref b26), .val (.ref b28), .val (.ref b32), .val (.int cm), .val (.ref (if cm = (0 : Int32) then x1 else (if cm = (1 : Int32) then x2 else x3))), .val (.ref x2), .unset, .unset, .unset]) rfl k) ?_
    refine Gl.go (fun _ k => XS.aload X34.here hx rfl (hb hby at_182) rfl rfl  k) ?_
    show Gl _ _ _ _ (T34.setTop (mkF m 184 #[.val (.int w0), .val (.int w1), .val (.int w2), .val (.int w3), .val (.int w4), .val (.int w5), .val (.int (2 : Int32)), .val (.ref x1), .val (.ref x2), .val (.ref x3), .val (.ref b4), .val (.ref b26), .val (.ref b28), .val (.ref b32), .val (.int cm), .val (.ref (if cm = (0 : Int32) then x1 else (if cm = (1 : Int32) then x2 else x3))), .val (.ref x2), .unset, .unset, .unset] [(.ref b32)]))
    refine Gl.go (fun _ k => XS.iload X34.here hx rfl (hb hby at_184) rfl  k) ?_
    obtain ⟨cq38, kq38, q38a, q38b, q38c⟩ := isOf (s := s.setVm T33.vm) hZ rfl Eg34
    obtain ⟨_, _, ⟨T38, L38, k38, n38⟩, -, X38, ⟨Lc38, hQ38, l38, y38, z38⟩, st38⟩ := X34.virtualBack hx (y := (⟨"com/example/frosted_rows/frostedrows/release/PublishedGroup", "cell", "(I)Ljava/lang/String;"⟩ : MethodName)) (z := (⟨"com/example/frosted_rows/frostedrows/release/PublishedGroup", "cell", "(I)Ljava/lang/String;"⟩ : MethodName)) hown (mvT hZ (hw _ (List.mem_of_getElem? (i := 234) rfl))) (mvT hZ (hw _ (List.mem_of_getElem? (i := 235) rfl))) (notFace_of_selects (args := #[]) (mvT hZ (hw _ (List.mem_of_getElem? (i := 237) rfl)))) (mvT hZ (hw _ (List.mem_of_getElem? (i := 237) rfl))) (mvT hZ (hw _ (List.mem_of_getElem? (i := 236) rfl))) (by decide) (backOf (W := 0) (rm_cell_2 l Z a0 hw [] b32 cm o34 eM x1 x2 x3 T34.heap n0 SZ34 hm Fg34 Eo34 F034 F134 (own_exa_ne E_x2_34 (EM.ext O__34.2) (by decide)) SE O__34 E_x1_34 E_x2_34) hZ (hw _ (List.mem_of_getElem? (i := 238) rfl)) (hw _ (List.mem_of_getElem? (i := 92) rfl)) (by decide) (by decide)) q38a q38c (g := (mkF m 186 #[.val (.int w0), .val (.int w1), .val (.int w2), .val (.int w3), .val (.int w4), .val (.int w5), .val (.int (2 : Int32)), .val (.ref x1), .val (.ref x2), .val (.ref x3), .val (.ref b4), .val (.ref b26), .val (.ref b28), .val (.ref b32), .val (.int cm), .val (.ref (if cm = (0 : Int32) then x1 else (if cm = (1 : Int32) then x2 else x3))), .val (.ref x2), .unset, .unset, .unset] [(.int cm), (.ref b32)])) rfl (by rw [hml]; rfl) (Steps.refl _) (argsL := [(.int cm)]) (rest := []) (lenOf pd_19 rfl) rfl (by show 2 * 0 + _ ≤ _; exact Nat.le_of_eq rfl) (hb hby at_186) (fun _ _ => ⟨rfl, rfl, (by decide : 23 + 0 ≤ _), (by decide : 82 + 0 ≤ _)⟩)
    dsimp only [Pt.U, Pt.locs, Pt.cells, Pt.slots] at X38 l38 y38 z38 st38 hQ38
    subst y38 z38
    obtain ⟨rfl, Nq38, e38⟩ := hQ38
    have N38 : Fr n0 L38 := by rw [l38]; exact Fr.app N34 Nq38
    refine Gl.go (fun _ k => st38.trans k) ?_
    show Gl _ _ _ _ (T38.setTop (mkF m 189 #[.val (.int w0), .val (.int w1), .val (.int w2), .val (.int w3), .val (.int w4), .val (.int w5), .val (.int (2 : Int32)), .val (.ref x1), .val (.ref x2), .val (.ref x3), .val (.ref b4), .val (.ref b26), .val (.ref b28), .val (.ref b32), .val (.int cm), .val (.ref (if cm = (0 : Int32) then x1 else (if cm = (1 : Int32) then x2 else x3))), .val (.ref x2), .unset, .unset, .unset] [(.ref (if cm = (0 : Int32) then x1 else (if cm = (1 : Int32) then x2 else x3)))]))
    refine Gl.go (fun _ k => XS.aload X38.here hx rfl (hb hby at_189) rfl rfl  k) ?_
    obtain ⟨cq39, kq39, q39a, q39b, q39c⟩ := isOf (s := s.setVm T33.vm) hZ e38 (own_sel2 E_x1_34 E_x2_34 hm)
    obtain ⟨_, _, ⟨T39, L39, k39, n39⟩, -, X39, ⟨Lc39, hQ39, l39, y39, z39⟩, st39⟩ := X38.virtualBack hx (y := (⟨"java/lang/String", "equals", "(Ljava/lang/Object;)Z"⟩ : MethodName)) (z := (⟨"java/lang/String", "equals", "(Ljava/lang/Object;)Z"⟩ : MethodName)) hown (mvT hZ (hw _ (List.mem_of_getElem? (i := 249) rfl))) (mvT hZ (hw _ (List.mem_of_getElem? (i := 250) rfl))) (notFace_of_selects (args := #[]) (mvT hZ (hw _ (List.mem_of_getElem? (i := 252) rfl)))) (mvT hZ (hw _ (List.mem_of_getElem? (i := 252) rfl))) (mvT hZ (hw _ (List.mem_of_getElem? (i := 251) rfl))) (by decide) (backOf (W := 0) (rm_eqs l Z a0 hw [] (if cm = (0 : Int32) then x1 else (if cm = (1 : Int32) then x2 else x3)) T34.heap n0 SZ34 ) hZ (hw _ (List.mem_of_getElem? (i := 253) rfl)) (hw _ (List.mem_of_getElem? (i := 6) rfl)) (by decide) (by decide)) q39a q39c (g := (mkF m 191 #[.val (.int w0), .val (.int w1), .val (.int w2), .val (.int w3), .val (.int w4), .val (.int w5), .val (.int (2 : Int32)), .val (.ref x1), .val (.ref x2), .val (.ref x3), .val (.ref b4), .val (.ref b26), .val (.ref b28), .val (.ref b32), .val (.int cm), .val (.ref (if cm = (0 : Int32) then x1 else (if cm = (1 : Int32) then x2 else x3))), .val (.ref x2), .unset, .unset, .unset] [(.ref (if cm = (0 : Int32) then x1 else (if cm = (1 : Int32) then x2 else x3))), (.ref (if cm = (0 : Int32) then x1 else (if cm = (1 : Int32) then x2 else x3)))])) rfl (by rw [hml]; rfl) (Steps.refl _) (argsL := [(.ref (if cm = (0 : Int32) then x1 else (if cm = (1 : Int32) then x2 else x3)))]) (rest := []) (lenOf pd_20 rfl) rfl (by show 2 * 0 + _ ≤ _; exact Nat.le_of_eq rfl) (hb hby at_191) (fun _ _ => ⟨rfl, e38, (by decide : 23 + 0 ≤ _), (by decide : 82 + 0 ≤ _)⟩)
    dsimp only [Pt.U, Pt.locs, Pt.cells, Pt.slots] at X39 l39 y39 z39 st39 hQ39
    subst y39 z39
    obtain ⟨rfl, Nq39, e39⟩ := hQ39
    have N39 : Fr n0 L39 := by rw [l39]; exact Fr.app N38 Nq39
    refine Gl.go (fun _ k => st39.trans k) ?_
    show Gl _ _ _ _ (T39.setTop (mkF m 194 #[.val (.int w0), .val (.int w1), .val (.int w2), .val (.int w3), .val (.int w4), .val (.int w5), .val (.int (2 : Int32)), .val (.ref x1), .val (.ref x2), .val (.ref x3), .val (.ref b4), .val (.ref b26), .val (.ref b28), .val (.ref b32), .val (.int cm), .val (.ref (if cm = (0 : Int32) then x1 else (if cm = (1 : Int32) then x2 else x3))), .val (.ref x2), .unset, .unset, .unset] [(.int (1 : Int32))]))
    refine Gl.go (fun _ k => XS.istore X39.here hx rfl (hb hby at_194) rfl (l' := #[.val (.int w0), .val (.int w1), .val (.int w2), .val (.int w3), .val (.int w4), .val (.int w5), .val (.int (2 : Int32)), .val (.ref x1), .val (.ref x2), .val (.ref x3), .val (.ref b4), .val (.ref b26), .val (.ref b28), .val (.ref b32), .val (.int cm), .val (.ref (if cm = (0 : Int32) then x1 else (if cm = (1 : Int32) then x2 else x3))), .val (.ref x2), .val (.int (1 : Int32)), .unset, .unset]) rfl k) ?_
    refine Gl.go (fun _ k => XS.aload X39.here hx rfl (hb hby at_196) rfl rfl  k) ?_
    refine Gl.go (fun _ k => XS.iconst X39.here hx rfl (hb hby at_198) k) ?_
    obtain ⟨cq40, kq40, q40a, q40b, q40c⟩ := isOf (s := s.setVm T33.vm) hZ e39 Eg34
    obtain ⟨_, _, ⟨T40, L40, k40, n40⟩, -, X40, ⟨Lc40, hQ40, l40, y40, z40⟩, st40⟩ := X39.virtualBack hx (y := (⟨"com/example/frosted_rows/frostedrows/release/PublishedGroup", "cell", "(I)Ljava/lang/String;"⟩ : MethodName)) (z := (⟨"com/example/frosted_rows/frostedrows/release/PublishedGroup", "cell", "(I)Ljava/lang/String;"⟩ : MethodName)) hown (mvT hZ (hw _ (List.mem_of_getElem? (i := 234) rfl))) (mvT hZ (hw _ (List.mem_of_getElem? (i := 235) rfl))) (notFace_of_selects (args := #[]) (mvT hZ (hw _ (List.mem_of_getElem? (i := 237) rfl)))) (mvT hZ (hw _ (List.mem_of_getElem? (i := 237) rfl))) (mvT hZ (hw _ (List.mem_of_getElem? (i := 236) rfl))) (by decide) (backOf (W := 0) (rm_cell_2 l Z a0 hw [] b32 (0 : Int32) o34 eM x1 x2 x3 T34.heap n0 SZ34 (Or.inl rfl) Fg34 Eo34 F034 F134 (own_exa_ne E_x2_34 (EM.ext O__34.2) (by decide)) SE O__34 E_x1_34 E_x2_34) hZ (hw _ (List.mem_of_getElem? (i := 238) rfl)) (hw _ (List.mem_of_getElem? (i := 92) rfl)) (by decide) (by decide)) q40a q40c (g := (mkF m 199 #[.val (.int w0), .val (.int w1), .val (.int w2), .val (.int w3), .val (.int w4), .val (.int w5), .val (.int (2 : Int32)), .val (.ref x1), .val (.ref x2), .val (.ref x3), .val (.ref b4), .val (.ref b26), .val (.ref b28), .val (.ref b32), .val (.int cm), .val (.ref (if cm = (0 : Int32) then x1 else (if cm = (1 : Int32) then x2 else x3))), .val (.ref x2), .val (.int (1 : Int32)), .unset, .unset] [(.int (0 : Int32)), (.ref b32)])) rfl (by rw [hml]; rfl) (Steps.refl _) (argsL := [(.int (0 : Int32))]) (rest := []) (lenOf pd_19 rfl) rfl (by show 2 * 0 + _ ≤ _; exact Nat.le_of_eq rfl) (hb hby at_199) (fun _ _ => ⟨rfl, e39, (by decide : 23 + 0 ≤ _), (by decide : 82 + 0 ≤ _)⟩)
    dsimp only [Pt.U, Pt.locs, Pt.cells, Pt.slots] at X40 l40 y40 z40 st40 hQ40
    subst y40 z40
    obtain ⟨rfl, Nq40, e40⟩ := hQ40
    have N40 : Fr n0 L40 := by rw [l40]; exact Fr.app N39 Nq40
    refine Gl.go (fun _ k => st40.trans k) ?_
    show Gl _ _ _ _ (T40.setTop (mkF m 202 #[.val (.int w0), .val (.int w1), .val (.int w2), .val (.int w3), .val (.int w4), .val (.int w5), .val (.int (2 : Int32)), .val (.ref x1), .val (.ref x2), .val (.ref x3), .val (.ref b4), .val (.ref b26), .val (.ref b28), .val (.ref b32), .val (.int cm), .val (.ref (if cm = (0 : Int32) then x1 else (if cm = (1 : Int32) then x2 else x3))), .val (.ref x2), .val (.int (1 : Int32)), .unset, .unset] [(.ref (if (0 : Int32) = (0 : Int32) then x1 else (if (0 : Int32) = (1 : Int32) then x2 else x3)))]))
    rw [((by rw [if_pos rfl]) : (if (0 : Int32) = (0 : Int32) then x1 else (if (0 : Int32) = (1 : Int32) then x2 else x3)) = x1)]
    show Gl _ _ _ _ (T40.setTop (mkF m 202 #[.val (.int w0), .val (.int w1), .val (.int w2), .val (.int w3), .val (.int w4), .val (.int w5), .val (.int (2 : Int32)), .val (.ref x1), .val (.ref x2), .val (.ref x3), .val (.ref b4), .val (.ref b26), .val (.ref b28), .val (.ref b32), .val (.int cm), .val (.ref (if cm = (0 : Int32) then x1 else (if cm = (1 : Int32) then x2 else x3))), .val (.ref x2), .val (.int (1 : Int32)), .unset, .unset] [(.ref x1)]))
    refine Gl.go (fun _ k => XS.aload X40.here hx rfl (hb hby at_202) rfl rfl  k) ?_
    obtain ⟨cq41, kq41, q41a, q41b, q41c⟩ := isOf (s := s.setVm T33.vm) hZ e40 E_x1_34
    obtain ⟨_, _, ⟨T41, L41, k41, n41⟩, -, X41, ⟨Lc41, hQ41, l41, y41, z41⟩, st41⟩ := X40.virtualBack hx (y := (⟨"java/lang/String", "equals", "(Ljava/lang/Object;)Z"⟩ : MethodName)) (z := (⟨"java/lang/String", "equals", "(Ljava/lang/Object;)Z"⟩ : MethodName)) hown (mvT hZ (hw _ (List.mem_of_getElem? (i := 249) rfl))) (mvT hZ (hw _ (List.mem_of_getElem? (i := 250) rfl))) (notFace_of_selects (args := #[]) (mvT hZ (hw _ (List.mem_of_getElem? (i := 252) rfl)))) (mvT hZ (hw _ (List.mem_of_getElem? (i := 252) rfl))) (mvT hZ (hw _ (List.mem_of_getElem? (i := 251) rfl))) (by decide) (backOf (W := 0) (rm_eqs l Z a0 hw [] x1 T34.heap n0 SZ34 ) hZ (hw _ (List.mem_of_getElem? (i := 253) rfl)) (hw _ (List.mem_of_getElem? (i := 6) rfl)) (by decide) (by decide)) q41a q41c (g := (mkF m 204 #[.val (.int w0), .val (.int w1), .val (.int w2), .val (.int w3), .val (.int w4), .val (.int w5), .val (.int (2 : Int32)), .val (.ref x1), .val (.ref x2), .val (.ref x3), .val (.ref b4), .val (.ref b26), .val (.ref b28), .val (.ref b32), .val (.int cm), .val (.ref (if cm = (0 : Int32) then x1 else (if cm = (1 : Int32) then x2 else x3))), .val (.ref x2), .val (.int (1 : Int32)), .unset, .unset] [(.ref x1), (.ref x1)])) rfl (by rw [hml]; rfl) (Steps.refl _) (argsL := [(.ref x1)]) (rest := []) (lenOf pd_20 rfl) rfl (by show 2 * 0 + _ ≤ _; exact Nat.le_of_eq rfl) (hb hby at_204) (fun _ _ => ⟨rfl, e40, (by decide : 23 + 0 ≤ _), (by decide : 82 + 0 ≤ _)⟩)
    dsimp only [Pt.U, Pt.locs, Pt.cells, Pt.slots] at X41 l41 y41 z41 st41 hQ41
    subst y41 z41
    obtain ⟨rfl, Nq41, e41⟩ := hQ41
    have N41 : Fr n0 L41 := by rw [l41]; exact Fr.app N40 Nq41
    refine Gl.go (fun _ k => st41.trans k) ?_
    show Gl _ _ _ _ (T41.setTop (mkF m 207 #[.val (.int w0), .val (.int w1), .val (.int w2), .val (.int w3), .val (.int w4), .val (.int w5), .val (.int (2 : Int32)), .val (.ref x1), .val (.ref x2), .val (.ref x3), .val (.ref b4), .val (.ref b26), .val (.ref b28), .val (.ref b32), .val (.int cm), .val (.ref (if cm = (0 : Int32) then x1 else (if cm = (1 : Int32) then x2 else x3))), .val (.ref x2), .val (.int (1 : Int32)), .unset, .unset] [(.int (1 : Int32))]))
    refine Gl.go (fun _ k => XS.istore X41.here hx rfl (hb hby at_207) rfl (l' := #[.val (.int w0), .val (.int w1), .val (.int w2), .val (.int w3), .val (.int w4), .val (.int w5), .val (.int (2 : Int32)), .val (.ref x1), .val (.ref x2), .val (.ref x3), .val (.ref b4), .val (.ref b26), .val (.ref b28), .val (.ref b32), .val (.int cm), .val (.ref (if cm = (0 : Int32) then x1 else (if cm = (1 : Int32) then x2 else x3))), .val (.ref x2), .val (.int (1 : Int32)), .val (.int (1 : Int32)), .unset]) rfl k) ?_
    refine Gl.go (fun _ k => XS.aload X41.here hx rfl (hb hby at_209) rfl rfl  k) ?_
    refine Gl.go (fun _ k => XS.iload X41.here hx rfl (hb hby at_211) rfl  k) ?_
    refine Gl.go (fun _ k => XS.iconst X41.here hx rfl (hb hby at_213) k) ?_
    show Gl _ _ _ _ (T41.setTop (mkF m 214 #[.val (.int w0), .val (.int w1), .val (.int w2), .val (.int w3), .val (.int w4), .val (.int w5), .val (.int (2 : Int32)), .val (.ref x1), .val (.ref x2), .val (.ref x3), .val (.ref b4), .val (.ref b26), .val (.ref b28), .val (.ref b32), .val (.int cm), .val (.ref (if cm = (0 : Int32) then x1 else (if cm = (1 : Int32) then x2 else x3))), .val (.ref x2), .val (.int (1 : Int32)), .val (.int (1 : Int32)), .unset] [(.int (1 : Int32)), (.int (2 : Int32)), (.ref b32)]))
    refine Gl.go (fun _ k => XS.isub X41.here hx rfl (hb hby at_214) rfl k) ?_
    show Gl _ _ _ _ (T41.setTop (mkF m 215 #[.val (.int w0), .val (.int w1), .val (.int w2), .val (.int w3), .val (.int w4), .val (.int w5), .val (.int (2 : Int32)), .val (.ref x1), .val (.ref x2), .val (.ref x3), .val (.ref b4), .val (.ref b26), .val (.ref b28), .val (.ref b32), .val (.int cm), .val (.ref (if cm = (0 : Int32) then x1 else (if cm = (1 : Int32) then x2 else x3))), .val (.ref x2), .val (.int (1 : Int32)), .val (.int (1 : Int32)), .unset] [(.int ((2 : Int32) - (1 : Int32))), (.ref b32)]))
    rw [(by decide : ((2 : Int32) - (1 : Int32)) = (1 : Int32))]
    show Gl _ _ _ _ (T41.setTop (mkF m 215 #[.val (.int w0), .val (.int w1), .val (.int w2), .val (.int w3), .val (.int w4), .val (.int w5), .val (.int (2 : Int32)), .val (.ref x1), .val (.ref x2), .val (.ref x3), .val (.ref b4), .val (.ref b26), .val (.ref b28), .val (.ref b32), .val (.int cm), .val (.ref (if cm = (0 : Int32) then x1 else (if cm = (1 : Int32) then x2 else x3))), .val (.ref x2), .val (.int (1 : Int32)), .val (.int (1 : Int32)), .unset] [(.int (1 : Int32)), (.ref b32)]))
    obtain ⟨cq42, kq42, q42a, q42b, q42c⟩ := isOf (s := s.setVm T33.vm) hZ e41 Eg34
    obtain ⟨_, _, ⟨T42, L42, k42, n42⟩, -, X42, ⟨Lc42, hQ42, l42, y42, z42⟩, st42⟩ := X41.virtualBack hx (y := (⟨"com/example/frosted_rows/frostedrows/release/PublishedGroup", "cell", "(I)Ljava/lang/String;"⟩ : MethodName)) (z := (⟨"com/example/frosted_rows/frostedrows/release/PublishedGroup", "cell", "(I)Ljava/lang/String;"⟩ : MethodName)) hown (mvT hZ (hw _ (List.mem_of_getElem? (i := 234) rfl))) (mvT hZ (hw _ (List.mem_of_getElem? (i := 235) rfl))) (notFace_of_selects (args := #[]) (mvT hZ (hw _ (List.mem_of_getElem? (i := 237) rfl)))) (mvT hZ (hw _ (List.mem_of_getElem? (i := 237) rfl))) (mvT hZ (hw _ (List.mem_of_getElem? (i := 236) rfl))) (by decide) (backOf (W := 0) (rm_cell_2 l Z a0 hw [] b32 (1 : Int32) o34 eM x1 x2 x3 T34.heap n0 SZ34 (Or.inr rfl) Fg34 Eo34 F034 F134 (own_exa_ne E_x2_34 (EM.ext O__34.2) (by decide)) SE O__34 E_x1_34 E_x2_34) hZ (hw _ (List.mem_of_getElem? (i := 238) rfl)) (hw _ (List.mem_of_getElem? (i := 92) rfl)) (by decide) (by decide)) q42a q42c (g := (mkF m 215 #[.val (.int w0), .val (.int w1), .val (.int w2), .val (.int w3), .val (.int w4), .val (.int w5), .val (.int (2 : Int32)), .val (.ref x1), .val (.ref x2), .val (.ref x3), .val (.ref b4), .val (.ref b26), .val (.ref b28), .val (.ref b32), .val (.int cm), .val (.ref (if cm = (0 : Int32) then x1 else (if cm = (1 : Int32) then x2 else x3))), .val (.ref x2), .val (.int (1 : Int32)), .val (.int (1 : Int32)), .unset] [(.int (1 : Int32)), (.ref b32)])) rfl (by rw [hml]; rfl) (Steps.refl _) (argsL := [(.int (1 : Int32))]) (rest := []) (lenOf pd_19 rfl) rfl (by show 2 * 0 + _ ≤ _; exact Nat.le_of_eq rfl) (hb hby at_215) (fun _ _ => ⟨rfl, e41, (by decide : 23 + 0 ≤ _), (by decide : 82 + 0 ≤ _)⟩)
    dsimp only [Pt.U, Pt.locs, Pt.cells, Pt.slots] at X42 l42 y42 z42 st42 hQ42
    subst y42 z42
    obtain ⟨rfl, Nq42, e42⟩ := hQ42
    have N42 : Fr n0 L42 := by rw [l42]; exact Fr.app N41 Nq42
    refine Gl.go (fun _ k => st42.trans k) ?_
    show Gl _ _ _ _ (T42.setTop (mkF m 218 #[.val (.int w0), .val (.int w1), .val (.int w2), .val (.int w3), .val (.int w4), .val (.int w5), .val (.int (2 : Int32)), .val (.ref x1), .val (.ref x2), .val (.ref x3), .val (.ref b4), .val (.ref b26), .val (.ref b28), .val (.ref b32), .val (.int cm), .val (.ref (if cm = (0 : Int32) then x1 else (if cm = (1 : Int32) then x2 else x3))), .val (.ref x2), .val (.int (1 : Int32)), .val (.int (1 : Int32)), .unset] [(.ref (if (1 : Int32) = (0 : Int32) then x1 else (if (1 : Int32) = (1 : Int32) then x2 else x3)))]))
    rw [((by rw [if_neg (by decide), if_pos rfl]) : (if (1 : Int32) = (0 : Int32) then x1 else (if (1 : Int32) = (1 : Int32) then x2 else x3)) = x2)]
    show Gl _ _ _ _ (T42.setTop (mkF m 218 #[.val (.int w0), .val (.int w1), .val (.int w2), .val (.int w3), .val (.int w4), .val (.int w5), .val (.int (2 : Int32)), .val (.ref x1), .val (.ref x2), .val (.ref x3), .val (.ref b4), .val (.ref b26), .val (.ref b28), .val (.ref b32), .val (.int cm), .val (.ref (if cm = (0 : Int32) then x1 else (if cm = (1 : Int32) then x2 else x3))), .val (.ref x2), .val (.int (1 : Int32)), .val (.int (1 : Int32)), .unset] [(.ref x2)]))
    refine Gl.go (fun _ k => XS.aload X42.here hx rfl (hb hby at_218) rfl rfl  k) ?_
    obtain ⟨cq43, kq43, q43a, q43b, q43c⟩ := isOf (s := s.setVm T33.vm) hZ e42 E_x2_34
    obtain ⟨_, _, ⟨T43, L43, k43, n43⟩, -, X43, ⟨Lc43, hQ43, l43, y43, z43⟩, st43⟩ := X42.virtualBack hx (y := (⟨"java/lang/String", "equals", "(Ljava/lang/Object;)Z"⟩ : MethodName)) (z := (⟨"java/lang/String", "equals", "(Ljava/lang/Object;)Z"⟩ : MethodName)) hown (mvT hZ (hw _ (List.mem_of_getElem? (i := 249) rfl))) (mvT hZ (hw _ (List.mem_of_getElem? (i := 250) rfl))) (notFace_of_selects (args := #[]) (mvT hZ (hw _ (List.mem_of_getElem? (i := 252) rfl)))) (mvT hZ (hw _ (List.mem_of_getElem? (i := 252) rfl))) (mvT hZ (hw _ (List.mem_of_getElem? (i := 251) rfl))) (by decide) (backOf (W := 0) (rm_eqs l Z a0 hw [] x2 T34.heap n0 SZ34 ) hZ (hw _ (List.mem_of_getElem? (i := 253) rfl)) (hw _ (List.mem_of_getElem? (i := 6) rfl)) (by decide) (by decide)) q43a q43c (g := (mkF m 220 #[.val (.int w0), .val (.int w1), .val (.int w2), .val (.int w3), .val (.int w4), .val (.int w5), .val (.int (2 : Int32)), .val (.ref x1), .val (.ref x2), .val (.ref x3), .val (.ref b4), .val (.ref b26), .val (.ref b28), .val (.ref b32), .val (.int cm), .val (.ref (if cm = (0 : Int32) then x1 else (if cm = (1 : Int32) then x2 else x3))), .val (.ref x2), .val (.int (1 : Int32)), .val (.int (1 : Int32)), .unset] [(.ref x2), (.ref x2)])) rfl (by rw [hml]; rfl) (Steps.refl _) (argsL := [(.ref x2)]) (rest := []) (lenOf pd_20 rfl) rfl (by show 2 * 0 + _ ≤ _; exact Nat.le_of_eq rfl) (hb hby at_220) (fun _ _ => ⟨rfl, e42, (by decide : 23 + 0 ≤ _), (by decide : 82 + 0 ≤ _)⟩)
    dsimp only [Pt.U, Pt.locs, Pt.cells, Pt.slots] at X43 l43 y43 z43 st43 hQ43
    subst y43 z43
    obtain ⟨rfl, Nq43, e43⟩ := hQ43
    have N43 : Fr n0 L43 := by rw [l43]; exact Fr.app N42 Nq43
    refine Gl.go (fun _ k => st43.trans k) ?_
    show Gl _ _ _ _ (T43.setTop (mkF m 223 #[.val (.int w0), .val (.int w1), .val (.int w2), .val (.int w3), .val (.int w4), .val (.int w5), .val (.int (2 : Int32)), .val (.ref x1), .val (.ref x2), .val (.ref x3), .val (.ref b4), .val (.ref b26), .val (.ref b28), .val (.ref b32), .val (.int cm), .val (.ref (if cm = (0 : Int32) then x1 else (if cm = (1 : Int32) then x2 else x3))), .val (.ref x2), .val (.int (1 : Int32)), .val (.int (1 : Int32)), .unset] [(.int (1 : Int32))]))
    refine Gl.go (fun _ k => XS.istore X43.here hx rfl (hb hby at_223) rfl (l' := #[.val (.int w0), .val (.int w1), .val (.int w2), .val (.int w3), .val (.int w4), .val (.int w5), .val (.int (2 : Int32)), .val (.ref x1), .val (.ref x2), .val (.ref x3), .val (.ref b4), .val (.ref b26), .val (.ref b28), .val (.ref b32), .val (.int cm), .val (.ref (if cm = (0 : Int32) then x1 else (if cm = (1 : Int32) then x2 else x3))), .val (.ref x2), .val (.int (1 : Int32)), .val (.int (1 : Int32)), .val (.int (1 : Int32))]) rfl k) ?_
    refine Gl.go (fun _ k => XS.iload X43.here hx rfl (hb hby at_225) rfl  k) ?_
    refine Gl.go (fun _ k => XS.ifNo X43.here hx rfl (hb hby at_227) rfl ((if0 _ _).trans (feq (by decide)).1) k) ?_
    show Gl _ _ _ _ (T43.setTop (mkF m 230 #[.val (.int w0), .val (.int w1), .val (.int w2), .val (.int w3), .val (.int w4), .val (.int w5), .val (.int (2 : Int32)), .val (.ref x1), .val (.ref x2), .val (.ref x3), .val (.ref b4), .val (.ref b26), .val (.ref b28), .val (.ref b32), .val (.int cm), .val (.ref (if cm = (0 : Int32) then x1 else (if cm = (1 : Int32) then x2 else x3))), .val (.ref x2), .val (.int (1 : Int32)), .val (.int (1 : Int32)), .val (.int (1 : Int32))] []))
    refine Gl.go (fun _ k => XS.iload X43.here hx rfl (hb hby at_230) rfl  k) ?_
    refine Gl.go (fun _ k => XS.ifNo X43.here hx rfl (hb hby at_232) rfl ((if0 _ _).trans (feq (by decide)).1) k) ?_
    show Gl _ _ _ _ (T43.setTop (mkF m 235 #[.val (.int w0), .val (.int w1), .val (.int w2), .val (.int w3), .val (.int w4), .val (.int w5), .val (.int (2 : Int32)), .val (.ref x1), .val (.ref x2), .val (.ref x3), .val (.ref b4), .val (.ref b26), .val (.ref b28), .val (.ref b32), .val (.int cm), .val (.ref (if cm = (0 : Int32) then x1 else (if cm = (1 : Int32) then x2 else x3))), .val (.ref x2), .val (.int (1 : Int32)), .val (.int (1 : Int32)), .val (.int (1 : Int32))] []))
    refine Gl.go (fun _ k => XS.iload X43.here hx rfl (hb hby at_235) rfl  k) ?_
    refine Gl.go (fun _ k => XS.ifNo X43.here hx rfl (hb hby at_237) rfl ((if0 _ _).trans (feq (by decide)).1) k) ?_
    show Gl _ _ _ _ (T43.setTop (mkF m 240 #[.val (.int w0), .val (.int w1), .val (.int w2), .val (.int w3), .val (.int w4), .val (.int w5), .val (.int (2 : Int32)), .val (.ref x1), .val (.ref x2), .val (.ref x3), .val (.ref b4), .val (.ref b26), .val (.ref b28), .val (.ref b32), .val (.int cm), .val (.ref (if cm = (0 : Int32) then x1 else (if cm = (1 : Int32) then x2 else x3))), .val (.ref x2), .val (.int (1 : Int32)), .val (.int (1 : Int32)), .val (.int (1 : Int32))] []))
    refine Gl.go (fun _ k => XS.iconst X43.here hx rfl (hb hby at_240) k) ?_
    refine Gl.go (fun _ k => XS.goto X43.here hx rfl (pc0 := 241) (pc' := 245) rfl (hb hby at_241) (by decide) (by decide) k) ?_
    refine leafWN X43 hS (by rw [e43]; exact hk) hx hlk (t := .boolean) Bd.returns (by simp) (hb hby at_245) (by rw [e43]; exact (CR34.trans (CHv.at X43 hZ hEL CR34.1))) hh ?_ (by decide) (by decide)
    exact ⟨rfl, N43⟩
  · skip
    show Gl _ _ _ _ (T6.setTop (mkF m 47 #[.val (.int w0), .val (.int w1), .val (.int w2), .val (.int w3), .val (.int w4), .val (.int w5), .val (.int nq7), .val (.ref x1), .val (.ref x2), .val (.ref x3), .val (.ref b4), .unset, .unset, .unset, .unset, .unset, .unset, .unset, .unset, .unset] [(.int (2 : Int32)), (.int nq7)]))
    rw [(hn : nq7 = (3 : Int32))]
    show Gl _ _ _ _ (T6.setTop (mkF m 47 #[.val (.int w0), .val (.int w1), .val (.int w2), .val (.int w3), .val (.int w4), .val (.int w5), .val (.int (3 : Int32)), .val (.ref x1), .val (.ref x2), .val (.ref x3), .val (.ref b4), .unset, .unset, .unset, .unset, .unset, .unset, .unset, .unset, .unset] [(.int (2 : Int32)), (.int (3 : Int32))]))
    refine Gl.go (fun _ k => XS.icmpNo X6.here hx rfl (hb hby at_47) rfl (flt (by decide)).1 k) ?_
    show Gl _ _ _ _ (T6.setTop (mkF m 50 #[.val (.int w0), .val (.int w1), .val (.int w2), .val (.int w3), .val (.int w4), .val (.int w5), .val (.int (3 : Int32)), .val (.ref x1), .val (.ref x2), .val (.ref x3), .val (.ref b4), .unset, .unset, .unset, .unset, .unset, .unset, .unset, .unset, .unset] []))
    refine Gl.go (fun _ k => XS.aload X6.here hx rfl (hb hby at_50) rfl rfl  k) ?_
    refine Gl.go (fun _ k => XS.aload X6.here hx rfl (hb hby at_52) rfl rfl  k) ?_
    obtain ⟨cq44, kq44, q44a, q44b, q44c⟩ := isOf (s := s.setVm s.vm) hZ rfl Ea6
    obtain ⟨_, _, ⟨T44, L44, k44, n44⟩, -, X44, ⟨Lc44, hQ44, l44, y44, z44⟩, st44⟩ := X6.virtualBack hx (y := (⟨"java/util/ArrayList", "add", "(Ljava/lang/Object;)Z"⟩ : MethodName)) (z := (⟨"java/util/ArrayList", "add", "(Ljava/lang/Object;)Z"⟩ : MethodName)) hown (mvT hZ (hw _ (List.mem_of_getElem? (i := 58) rfl))) (mvT hZ (hw _ (List.mem_of_getElem? (i := 59) rfl))) (notFace_of_selects (args := #[]) (mvT hZ (hw _ (List.mem_of_getElem? (i := 61) rfl)))) (mvT hZ (hw _ (List.mem_of_getElem? (i := 61) rfl))) (mvT hZ (hw _ (List.mem_of_getElem? (i := 60) rfl))) (by decide) (backOf (W := 0) (rm_ad2_1 l Z a0 hw [] b4 ((0 : Int32) + (1 : Int32)) b6 kc6 x2 x1 T6.heap n0 SZ6 Ea6 Ma6 Da6 Sa6 g_b4 Vc6 Oc6 g_b6 ne_b4_b6 E_x2_6) hZ (hw _ (List.mem_of_getElem? (i := 62) rfl)) (hw _ (List.mem_of_getElem? (i := 36) rfl)) (by decide) (by decide)) q44a q44c (g := (mkF m 54 #[.val (.int w0), .val (.int w1), .val (.int w2), .val (.int w3), .val (.int w4), .val (.int w5), .val (.int (3 : Int32)), .val (.ref x1), .val (.ref x2), .val (.ref x3), .val (.ref b4), .unset, .unset, .unset, .unset, .unset, .unset, .unset, .unset, .unset] [(.ref x2), (.ref b4)])) rfl (by rw [hml]; rfl) (Steps.refl _) (argsL := [(.ref x2)]) (rest := []) (lenOf pd_20 rfl) rfl (by show 2 * 0 + _ ≤ _; exact Nat.le_of_eq rfl) (hb hby at_54) (fun _ _ => ⟨rfl, rfl, (by decide : 11 + 0 ≤ _), (by decide : 37 + 0 ≤ _)⟩)
    dsimp only [Pt.U, Pt.locs, Pt.cells, Pt.slots] at X44 l44 y44 z44 st44 hQ44
    subst y44 z44
    obtain ⟨rfl, Nq44, Kc44, Ea44, Ma44, Da44, Sa44, Vc44⟩ := hQ44
    have N44 : Fr n0 L44 := by rw [l44]; exact Fr.app N6 Nq44
    refine Gl.go (fun _ k => st44.trans k) ?_
    have O__44 := O__6.keep Kc44 (allS g_b4 (allS g_b6 all0))
    have E_x1_44 := E_x1_6.keep Kc44
    have E_x2_44 := E_x2_6.keep Kc44
    have E_x3_44 := E_x3_6.keep Kc44
    have E_b4_44 := Ea6.keep Kc44
    have E_b6_44 := Xc6.keep Kc44
    have SZ44 : n0 ≤ T44.heap.size := Nat.le_trans SZ6 Kc44.1
    have K44 : Keep h0 T44.heap [] := K6.trans Kc44 (allS (Or.inr sz_b4) (allS (Or.inr sz_b6) all0))
    have hk := Nat.le_trans hk Kc44.1
    have CR44 : CHr Z elL s.vm h0 s.vm T44.heap := CR6.trans (CHr.keep Kc44 (sfS (Safe.exa hZ.alike Ea6 (by decide) (by decide)) (sfS (Safe.exa hZ.alike Xc6 (by decide) (by decide)) sf0)) CR6.1)
    show Gl _ _ _ _ (T44.setTop (mkF m 57 #[.val (.int w0), .val (.int w1), .val (.int w2), .val (.int w3), .val (.int w4), .val (.int w5), .val (.int (3 : Int32)), .val (.ref x1), .val (.ref x2), .val (.ref x3), .val (.ref b4), .unset, .unset, .unset, .unset, .unset, .unset, .unset, .unset, .unset] [(.int (1 : Int32))]))
    refine Gl.go (fun _ k => XS.pop X44.here hx rfl (hb hby at_57) rfl rfl k) ?_
    refine Gl.go (fun _ k => XS.iload X44.here hx rfl (hb hby at_58) rfl  k) ?_
    refine Gl.go (fun _ k => XS.iconst X44.here hx rfl (hb hby at_60) k) ?_
    refine Gl.go (fun _ k => XS.icmpNo X44.here hx rfl (hb hby at_61) rfl (flt (by decide)).1 k) ?_
    show Gl _ _ _ _ (T44.setTop (mkF m 64 #[.val (.int w0), .val (.int w1), .val (.int w2), .val (.int w3), .val (.int w4), .val (.int w5), .val (.int (3 : Int32)), .val (.ref x1), .val (.ref x2), .val (.ref x3), .val (.ref b4), .unset, .unset, .unset, .unset, .unset, .unset, .unset, .unset, .unset] []))
    refine Gl.go (fun _ k => XS.aload X44.here hx rfl (hb hby at_64) rfl rfl  k) ?_
    refine Gl.go (fun _ k => XS.aload X44.here hx rfl (hb hby at_66) rfl rfl  k) ?_
    obtain ⟨cq45, kq45, q45a, q45b, q45c⟩ := isOf (s := s.setVm s.vm) hZ rfl Ea44
    obtain ⟨_, _, ⟨T45, L45, k45, n45⟩, -, X45, ⟨Lc45, hQ45, l45, y45, z45⟩, st45⟩ := X44.virtualBack hx (y := (⟨"java/util/ArrayList", "add", "(Ljava/lang/Object;)Z"⟩ : MethodName)) (z := (⟨"java/util/ArrayList", "add", "(Ljava/lang/Object;)Z"⟩ : MethodName)) hown (mvT hZ (hw _ (List.mem_of_getElem? (i := 58) rfl))) (mvT hZ (hw _ (List.mem_of_getElem? (i := 59) rfl))) (notFace_of_selects (args := #[]) (mvT hZ (hw _ (List.mem_of_getElem? (i := 61) rfl)))) (mvT hZ (hw _ (List.mem_of_getElem? (i := 61) rfl))) (mvT hZ (hw _ (List.mem_of_getElem? (i := 60) rfl))) (by decide) (backOf (W := 0) (rm_ad2_2 l Z a0 hw [] b4 (((0 : Int32) + (1 : Int32)) + (1 : Int32)) b6 kc6 x3 x1 x2 T44.heap n0 SZ44 Ea44 Ma44 Da44 Sa44 g_b4 Vc44 Oc6 g_b6 ne_b4_b6 E_x3_44) hZ (hw _ (List.mem_of_getElem? (i := 62) rfl)) (hw _ (List.mem_of_getElem? (i := 36) rfl)) (by decide) (by decide)) q45a q45c (g := (mkF m 68 #[.val (.int w0), .val (.int w1), .val (.int w2), .val (.int w3), .val (.int w4), .val (.int w5), .val (.int (3 : Int32)), .val (.ref x1), .val (.ref x2), .val (.ref x3), .val (.ref b4), .unset, .unset, .unset, .unset, .unset, .unset, .unset, .unset, .unset] [(.ref x3), (.ref b4)])) rfl (by rw [hml]; rfl) (Steps.refl _) (argsL := [(.ref x3)]) (rest := []) (lenOf pd_20 rfl) rfl (by show 2 * 0 + _ ≤ _; exact Nat.le_of_eq rfl) (hb hby at_68) (fun _ _ => ⟨rfl, rfl, (by decide : 11 + 0 ≤ _), (by decide : 37 + 0 ≤ _)⟩)
    dsimp only [Pt.U, Pt.locs, Pt.cells, Pt.slots] at X45 l45 y45 z45 st45 hQ45
    subst y45 z45
    obtain ⟨rfl, Nq45, Kc45, Ea45, Ma45, Da45, Sa45, Vc45⟩ := hQ45
    have N45 : Fr n0 L45 := by rw [l45]; exact Fr.app N44 Nq45
    refine Gl.go (fun _ k => st45.trans k) ?_
    have O__45 := O__44.keep Kc45 (allS g_b4 (allS g_b6 all0))
    have E_x1_45 := E_x1_44.keep Kc45
    have E_x2_45 := E_x2_44.keep Kc45
    have E_x3_45 := E_x3_44.keep Kc45
    have E_b6_45 := E_b6_44.keep Kc45
    have E_b4_45 := Ea44.keep Kc45
    have SZ45 : n0 ≤ T45.heap.size := Nat.le_trans SZ44 Kc45.1
    have K45 : Keep h0 T45.heap [] := K44.trans Kc45 (allS (Or.inr sz_b4) (allS (Or.inr sz_b6) all0))
    have hk := Nat.le_trans hk Kc45.1
    have CR45 : CHr Z elL s.vm h0 s.vm T45.heap := CR44.trans (CHr.keep Kc45 (sfS (Safe.exa hZ.alike Ea44 (by decide) (by decide)) (sfS (Safe.exa hZ.alike E_b6_44 (by decide) (by decide)) sf0)) CR44.1)
    show Gl _ _ _ _ (T45.setTop (mkF m 71 #[.val (.int w0), .val (.int w1), .val (.int w2), .val (.int w3), .val (.int w4), .val (.int w5), .val (.int (3 : Int32)), .val (.ref x1), .val (.ref x2), .val (.ref x3), .val (.ref b4), .unset, .unset, .unset, .unset, .unset, .unset, .unset, .unset, .unset] [(.int (1 : Int32))]))
    refine Gl.go (fun _ k => XS.pop X45.here hx rfl (hb hby at_71) rfl rfl k) ?_
    refine Gl.go (fun _ k => XS.bipush X45.here hx rfl (hb hby at_72) k) ?_
    obtain ⟨T46, h46, cA46, X46, e46, E46, A46, st46⟩ := newP X45 hx hZ (hw _ (List.mem_of_getElem? (i := 89) rfl)) rfl (g := (mkF m 74 #[.val (.int w0), .val (.int w1), .val (.int w2), .val (.int w3), .val (.int w4), .val (.int w5), .val (.int (3 : Int32)), .val (.ref x1), .val (.ref x2), .val (.ref x3), .val (.ref b4), .unset, .unset, .unset, .unset, .unset, .unset, .unset, .unset, .unset] [(.int (6 : Int32))])) rfl (hb hby at_74) rfl (by decide) (cap := 6) (by decide) (by decide) (by decide) (by decide)
    obtain ⟨b46, g46⟩ : ∃ z, z = T45.heap.size := ⟨_, rfl⟩
    rw [← g46] at A46 st46
    have g_b46 : n0 ≤ b46 := Nat.le_trans SZ45 (Nat.le_of_eq g46.symm)
    have sz_b46 : h0.size ≤ b46 := Nat.le_trans K45.1 (Nat.le_of_eq g46.symm)
    have ne_b4_b46 : b4 ≠ b46 := Nat.ne_of_lt (Nat.lt_of_lt_of_le Ea45.lt (Nat.le_of_eq g46.symm))
    have ne_b6_b46 : b6 ≠ b46 := Nat.ne_of_lt (Nat.lt_of_lt_of_le E_b6_45.lt (Nat.le_of_eq g46.symm))
    have ne_x1_b46 : x1 ≠ b46 := Nat.ne_of_lt (Nat.lt_of_lt_of_le E_x1_45.lt (Nat.le_of_eq g46.symm))
    have ne_x2_b46 : x2 ≠ b46 := Nat.ne_of_lt (Nat.lt_of_lt_of_le E_x2_45.lt (Nat.le_of_eq g46.symm))
    have ne_x3_b46 : x3 ≠ b46 := Nat.ne_of_lt (Nat.lt_of_lt_of_le E_x3_45.lt (Nat.le_of_eq g46.symm))
    have O__46 := O__45.ext E46
    have E_x1_46 := E_x1_45.ext E46
    have E_x2_46 := E_x2_45.ext E46
    have E_x3_46 := E_x3_45.ext E46
    have E_b6_46 := E_b6_45.ext E46
    have E_b4_46 := Ea45.ext E46
    have F_b4_modCount_46 := Ma45.ext E46
    have F_b4_elementData_46 := Da45.ext E46
    have F_b4_size_46 := Sa45.ext E46
    have V_b6_46 := Vc45.ext E46
    have SZ46 : n0 ≤ h46.size := Nat.le_trans SZ45 E46.1
    have K46 : Keep h0 h46 [] := K45.ext E46
    have hk := Nat.le_trans hk E46.1
    have CR46 : CHr Z elL s.vm h0 s.vm h46 := CR45.trans (CHr.ext E46 CR45.1)
    have V_b46_46 : Arv Z h46 b46 cA46 .int (6 : Int32) [(.int (0 : Int32)), (.int (0 : Int32)), (.int (0 : Int32)), (.int (0 : Int32)), (.int (0 : Int32)), (.int (0 : Int32))] (.int (0 : Int32)) := (Arv.new A46 (by decide)).pad (pad_rep [] _ 6)
    refine Gl.go (fun _ k => st46 _ k) ?_
    show Gl _ _ _ _ (T46.setTop (mkF m 76 #[.val (.int w0), .val (.int w1), .val (.int w2), .val (.int w3), .val (.int w4), .val (.int w5), .val (.int (3 : Int32)), .val (.ref x1), .val (.ref x2), .val (.ref x3), .val (.ref b4), .unset, .unset, .unset, .unset, .unset, .unset, .unset, .unset, .unset] [(.ref b46)]))
    refine Gl.go (fun _ k => XS.astore X46.here hx rfl (hb hby at_76) rfl rfl (l' := #[.val (.int w0), .val (.int w1), .val (.int w2), .val (.int w3), .val (.int w4), .val (.int w5), .val (.int (3 : Int32)), .val (.ref x1), .val (.ref x2), .val (.ref x3), .val (.ref b4), .val (.ref b46), .unset, .unset, .unset, .unset, .unset, .unset, .unset, .unset]) rfl k) ?_
    refine Gl.go (fun _ k => XS.aload X46.here hx rfl (hb hby at_78) rfl rfl  k) ?_
    refine Gl.go (fun _ k => XS.iconst X46.here hx rfl (hb hby at_80) k) ?_
    refine Gl.go (fun _ k => XS.iload X46.here hx rfl (hb hby at_81) rfl  k) ?_
    show Gl _ _ _ _ (T46.setTop (mkF m 83 #[.val (.int w0), .val (.int w1), .val (.int w2), .val (.int w3), .val (.int w4), .val (.int w5), .val (.int (3 : Int32)), .val (.ref x1), .val (.ref x2), .val (.ref x3), .val (.ref b4), .val (.ref b46), .unset, .unset, .unset, .unset, .unset, .unset, .unset, .unset] [(.int w5), (.int (0 : Int32)), (.ref b46)]))
    obtain ⟨cl47, Ar47, qA47, SA47, NA47, HA47, GA47⟩ := id V_b46_46
    obtain ⟨T47, h47, X47, e47, W47, st47⟩ := stI X46 hx hZ e46 Ar47 (j := (0 : Int32)) (inb_of SA47 ⟨by decide, by decide⟩) (g := (mkF m 83 #[.val (.int w0), .val (.int w1), .val (.int w2), .val (.int w3), .val (.int w4), .val (.int w5), .val (.int (3 : Int32)), .val (.ref x1), .val (.ref x2), .val (.ref x3), .val (.ref b4), .val (.ref b46), .unset, .unset, .unset, .unset, .unset, .unset, .unset, .unset] [(.int w5), (.int (0 : Int32)), (.ref b46)])) rfl rfl (hb hby at_83)
    have O__47 := O__46.wr W47 g_b46
    have E_x1_47 := E_x1_46.wr W47
    have E_x2_47 := E_x2_46.wr W47
    have E_x3_47 := E_x3_46.wr W47
    have E_b6_47 := E_b6_46.wr W47
    have E_b4_47 := E_b4_46.wr W47
    have F_b4_modCount_47 := F_b4_modCount_46.other W47 (Or.inl ne_b4_b46)
    have F_b4_elementData_47 := F_b4_elementData_46.other W47 (Or.inl ne_b4_b46)
    have F_b4_size_47 := F_b4_size_46.other W47 (Or.inl ne_b4_b46)
    have V_b6_47 := V_b6_46.other W47 ne_b6_b46
    have SZ47 : n0 ≤ h47.size := by rw [Wr.size W47]; exact SZ46
    have K47 : Keep h0 h47 [] := K46.wr W47 (Or.inr sz_b46)
    have N47 := Fr.snoc X47 N45 g_b46
    have hk := Nat.le_trans hk (Nat.le_of_eq (Wr.size W47).symm)
    have CR47 : CHr Z elL s.vm h0 s.vm h47 := CR46.trans (CHr.wr W47 (Safe.arv hZ.alike V_b46_46 (by decide)) CR46.1)
    have V_b46_47 : Arv Z h47 b46 cA46 .int (6 : Int32) [(.int w5), (.int (0 : Int32)), (.int (0 : Int32)), (.int (0 : Int32)), (.int (0 : Int32)), (.int (0 : Int32))] (.int (0 : Int32)) := Arv.set Ar47 qA47 SA47 NA47 HA47 GA47 rfl W47 0 rfl (Nat.le_of_ble_eq_true rfl)
    refine Gl.go (fun _ k => st47 _ k) ?_
    show Gl _ _ _ _ (T47.setTop (mkF m 84 #[.val (.int w0), .val (.int w1), .val (.int w2), .val (.int w3), .val (.int w4), .val (.int w5), .val (.int (3 : Int32)), .val (.ref x1), .val (.ref x2), .val (.ref x3), .val (.ref b4), .val (.ref b46), .unset, .unset, .unset, .unset, .unset, .unset, .unset, .unset] []))
    obtain ⟨T48, h48, X48, e48, E48, A48, D48, -, st48⟩ := newO X47 hx hZ hown (hw _ (List.mem_of_getElem? (i := 34) rfl)) (hw _ (List.mem_of_getElem? (i := 35) rfl)) (hw _ (List.mem_of_getElem? (i := 36) rfl)) e47 (g := (mkF m 84 #[.val (.int w0), .val (.int w1), .val (.int w2), .val (.int w3), .val (.int w4), .val (.int w5), .val (.int (3 : Int32)), .val (.ref x1), .val (.ref x2), .val (.ref x3), .val (.ref b4), .val (.ref b46), .unset, .unset, .unset, .unset, .unset, .unset, .unset, .unset] [])) rfl (hb hby at_84) (by decide) (by decide)
    obtain ⟨b48, g48⟩ : ∃ z, z = h47.size := ⟨_, rfl⟩
    rw [← g48] at A48 D48 st48
    have g_b48 : n0 ≤ b48 := Nat.le_trans SZ47 (Nat.le_of_eq g48.symm)
    have sz_b48 : h0.size ≤ b48 := Nat.le_trans K47.1 (Nat.le_of_eq g48.symm)
    have ne_b4_b48 : b4 ≠ b48 := Nat.ne_of_lt (Nat.lt_of_lt_of_le E_b4_47.lt (Nat.le_of_eq g48.symm))
    have ne_b6_b48 : b6 ≠ b48 := Nat.ne_of_lt (Nat.lt_of_lt_of_le E_b6_47.lt (Nat.le_of_eq g48.symm))
    have ne_x1_b48 : x1 ≠ b48 := Nat.ne_of_lt (Nat.lt_of_lt_of_le E_x1_47.lt (Nat.le_of_eq g48.symm))
    have ne_x2_b48 : x2 ≠ b48 := Nat.ne_of_lt (Nat.lt_of_lt_of_le E_x2_47.lt (Nat.le_of_eq g48.symm))
    have ne_x3_b48 : x3 ≠ b48 := Nat.ne_of_lt (Nat.lt_of_lt_of_le E_x3_47.lt (Nat.le_of_eq g48.symm))
    have O__48 := O__47.ext E48
    have E_x1_48 := E_x1_47.ext E48
    have E_x2_48 := E_x2_47.ext E48
    have E_x3_48 := E_x3_47.ext E48
    have E_b6_48 := E_b6_47.ext E48
    have E_b4_48 := E_b4_47.ext E48
    have F_b4_modCount_48 := F_b4_modCount_47.ext E48
    have F_b4_elementData_48 := F_b4_elementData_47.ext E48
    have F_b4_size_48 := F_b4_size_47.ext E48
    have V_b6_48 := V_b6_47.ext E48
    have SZ48 : n0 ≤ h48.size := Nat.le_trans SZ47 E48.1
    have K48 : Keep h0 h48 [] := K47.ext E48
    have hk := Nat.le_trans hk E48.1
    have CR48 : CHr Z elL s.vm h0 s.vm h48 := CR47.trans (CHr.ext E48 CR47.1)
    have F_b48_modCount_48 : Fld Z h48 b48 "java/util/AbstractList" "modCount" "I" (.int (0 : Int32)) := D48 (Or.inl (hw _ (List.mem_of_getElem? (i := 54) rfl))) (ty := .int) (by decide)
    have F_b48_elementData_48 : Fld Z h48 b48 "java/util/ArrayList" "elementData" "[Ljava/lang/Object;" .null := D48 (Or.inl (hw _ (List.mem_of_getElem? (i := 57) rfl))) (ty := (.array (.object "java/lang/Object"))) (by decide)
    have F_b48_size_48 : Fld Z h48 b48 "java/util/ArrayList" "size" "I" (.int (0 : Int32)) := D48 (Or.inl (hw _ (List.mem_of_getElem? (i := 66) rfl))) (ty := .int) (by decide)
    refine Gl.go (fun _ k => st48 _ k) ?_
    show Gl _ _ _ _ (T48.setTop (mkF m 87 #[.val (.int w0), .val (.int w1), .val (.int w2), .val (.int w3), .val (.int w4), .val (.int w5), .val (.int (3 : Int32)), .val (.ref x1), .val (.ref x2), .val (.ref x3), .val (.ref b4), .val (.ref b46), .unset, .unset, .unset, .unset, .unset, .unset, .unset, .unset] [(.ref b48)]))
    refine Gl.go (fun _ k => XS.dup X48.here hx rfl (hb hby at_87) rfl rfl k) ?_
    obtain ⟨_, _, ⟨T49, L49, k49, n49⟩, -, X49, ⟨Lc49, hQ49, l49, y49, z49⟩, st49⟩ := X48.specialBack hx (y := (⟨"java/util/ArrayList", "<init>", "()V"⟩ : MethodName)) rfl hown (mvT hZ (hw _ (List.mem_of_getElem? (i := 37) rfl))) (mvT hZ (hw _ (List.mem_of_getElem? (i := 38) rfl))) (mvT hZ (hw _ (List.mem_of_getElem? (i := 39) rfl))) (by decide) (backOf (W := 1) (rm_ali l Z a0 hw [] b48 dE h48 n0 SZ48 A48 F_b48_modCount_48 F_b48_elementData_48 F_b48_size_48 g_b48 SD O__48) hZ (hw _ (List.mem_of_getElem? (i := 39) rfl)) (hw _ (List.mem_of_getElem? (i := 36) rfl)) (by decide) (by decide)) (g := (mkF m 88 #[.val (.int w0), .val (.int w1), .val (.int w2), .val (.int w3), .val (.int w4), .val (.int w5), .val (.int (3 : Int32)), .val (.ref x1), .val (.ref x2), .val (.ref x3), .val (.ref b4), .val (.ref b46), .unset, .unset, .unset, .unset, .unset, .unset, .unset, .unset] [(.ref b48), (.ref b48)])) rfl (by rw [hml]; rfl) (Steps.refl _) (a := b48) (argsL := []) (rest := [(.ref b48)]) (lenOf pd_0 rfl) rfl (by show 2 * 0 + _ ≤ _; exact Nat.le_of_eq rfl) (hb hby at_88) (fun _ _ => ⟨rfl, e48, (by decide : 13 + 0 ≤ _), (by decide : 46 + 0 ≤ _)⟩)
    dsimp only [Pt.U, Pt.locs, Pt.cells, Pt.slots] at X49 l49 y49 z49 st49 hQ49
    subst y49 z49
    obtain ⟨rfl, Nq49, Kc49, Ea49, Ma49, Da49, Sa49⟩ := hQ49
    have N49 : Fr n0 L49 := by rw [l49]; exact Fr.app N47 Nq49
    refine Gl.go (fun _ k => st49.trans k) ?_
    have O__49 := O__48.keep Kc49 (allS g_b48 all0)
    have E_x1_49 := E_x1_48.keep Kc49
    have E_x2_49 := E_x2_48.keep Kc49
    have E_x3_49 := E_x3_48.keep Kc49
    have E_b6_49 := E_b6_48.keep Kc49
    have E_b4_49 := E_b4_48.keep Kc49
    have F_b4_modCount_49 := F_b4_modCount_48.keep Kc49 (ninS ne_b4_b48 nin0)
    have F_b4_elementData_49 := F_b4_elementData_48.keep Kc49 (ninS ne_b4_b48 nin0)
    have F_b4_size_49 := F_b4_size_48.keep Kc49 (ninS ne_b4_b48 nin0)
    have V_b6_49 := V_b6_48.keep Kc49 (ninS ne_b6_b48 nin0)
    have E_b48_49 := A48.keep Kc49
    have SZ49 : n0 ≤ T49.heap.size := Nat.le_trans SZ48 Kc49.1
    have K49 : Keep h0 T49.heap [] := K48.trans Kc49 (allS (Or.inr sz_b48) all0)
    have hk := Nat.le_trans hk Kc49.1
    have CR49 : CHr Z elL s.vm h0 s.vm T49.heap := CR48.trans (CHr.keep Kc49 (sfS (Safe.exa hZ.alike A48 (by decide) (by decide)) sf0) CR48.1)
    show Gl _ _ _ _ (T49.setTop (mkF m 91 #[.val (.int w0), .val (.int w1), .val (.int w2), .val (.int w3), .val (.int w4), .val (.int w5), .val (.int (3 : Int32)), .val (.ref x1), .val (.ref x2), .val (.ref x3), .val (.ref b4), .val (.ref b46), .unset, .unset, .unset, .unset, .unset, .unset, .unset, .unset] [(.ref b48)]))
    refine Gl.go (fun _ k => XS.astore X49.here hx rfl (hb hby at_91) rfl rfl (l' := #[.val (.int w0), .val (.int w1), .val (.int w2), .val (.int w3), .val (.int w4), .val (.int w5), .val (.int (3 : Int32)), .val (.ref x1), .val (.ref x2), .val (.ref x3), .val (.ref b4), .val (.ref b46), .val (.ref b48), .unset, .unset, .unset, .unset, .unset, .unset, .unset]) rfl k) ?_
    refine Gl.go (fun _ k => XS.aload X49.here hx rfl (hb hby at_93) rfl rfl  k) ?_
    refine Gl.go (fun _ k => XS.iload X49.here hx rfl (hb hby at_95) rfl  k) ?_
    obtain ⟨_, _, ⟨T50, L50, k50, n50⟩, -, X50, ⟨Lc50, hQ50, l50, y50, z50⟩, st50⟩ := Jvm.LawKit.callS X49 hx (y := (⟨"com/example/frosted_rows/frostedrows/release/PublishedGroupCellPinLaw", "str", "(I)Ljava/lang/String;"⟩ : MethodName)) hown (mvT hZ (hw _ (List.mem_of_getElem? (i := 0) rfl))) (mvT hZ (hw _ (List.mem_of_getElem? (i := 1) rfl))) (mvT hZ (hw _ (List.mem_of_getElem? (i := 2) rfl))) (mvT hZ (hw _ (List.mem_of_getElem? (i := 3) rfl))) (by decide) (backOf (W := 1) (rm_str l Z a0 hw [] w5 G1 T49.heap n0 SZ49 O2 P5 O__49) hZ (hw _ (List.mem_of_getElem? (i := 3) rfl)) (hw _ (List.mem_of_getElem? (i := 2) rfl)) (by decide) (by decide)) (g := (mkF m 97 #[.val (.int w0), .val (.int w1), .val (.int w2), .val (.int w3), .val (.int w4), .val (.int w5), .val (.int (3 : Int32)), .val (.ref x1), .val (.ref x2), .val (.ref x3), .val (.ref b4), .val (.ref b46), .val (.ref b48), .unset, .unset, .unset, .unset, .unset, .unset, .unset] [(.int w5), (.ref b48)])) rfl (by rw [hml]; rfl) (argsL := [(.int w5)]) (rest := [(.ref b48)]) (lenOf pd_19 rfl) rfl (by show 2 * 0 + _ ≤ _; exact Nat.le_of_eq rfl) (hb hby at_97) (fun _ _ => ⟨rfl, rfl, (by decide : 13 + 3 ≤ _), (by decide : 46 + 8 ≤ _)⟩)
    dsimp only [Pt.U, Pt.locs, Pt.cells, Pt.slots] at X50 l50 y50 z50 st50 hQ50
    subst y50 z50
    obtain ⟨x50, rfl, Nq50, Kc50, gz50, Sx50⟩ := hQ50
    have N50 : Fr n0 L50 := by rw [l50]; exact Fr.app N49 Nq50
    refine Gl.go (fun _ k => st50 _ k) ?_
    have Ex50 := ext_of_keep Kc50
    have O__50 := O__49.ext Ex50
    have E_x1_50 := E_x1_49.ext Ex50
    have E_x2_50 := E_x2_49.ext Ex50
    have E_x3_50 := E_x3_49.ext Ex50
    have E_b6_50 := E_b6_49.ext Ex50
    have E_b4_50 := E_b4_49.ext Ex50
    have F_b4_modCount_50 := F_b4_modCount_49.ext Ex50
    have F_b4_elementData_50 := F_b4_elementData_49.ext Ex50
    have F_b4_size_50 := F_b4_size_49.ext Ex50
    have V_b6_50 := V_b6_49.ext Ex50
    have E_b48_50 := Ea49.ext Ex50
    have F_b48_modCount_50 := Ma49.ext Ex50
    have F_b48_elementData_50 := Da49.ext Ex50
    have F_b48_size_50 := Sa49.ext Ex50
    have SZ50 : n0 ≤ T50.heap.size := Nat.le_trans SZ49 Ex50.1
    have K50 : Keep h0 T50.heap [] := K49.ext Ex50
    have hk := Nat.le_trans hk Ex50.1
    have CR50 : CHr Z elL s.vm h0 s.vm T50.heap := CR49.trans (CHr.ext Ex50 CR49.1)
    show Gl _ _ _ _ (T50.setTop (mkF m 100 #[.val (.int w0), .val (.int w1), .val (.int w2), .val (.int w3), .val (.int w4), .val (.int w5), .val (.int (3 : Int32)), .val (.ref x1), .val (.ref x2), .val (.ref x3), .val (.ref b4), .val (.ref b46), .val (.ref b48), .unset, .unset, .unset, .unset, .unset, .unset, .unset] [(.ref x50), (.ref b48)]))
    have g_x50 : n0 ≤ x50 := Nat.le_trans SZ49 gz50
    have sz_x50 : h0.size ≤ x50 := Nat.le_trans K49.1 gz50
    have ne_b4_x50 : b4 ≠ x50 := Nat.ne_of_lt (Nat.lt_of_lt_of_le E_b4_49.lt gz50)
    have ne_b48_x50 : b48 ≠ x50 := Nat.ne_of_lt (Nat.lt_of_lt_of_le Ea49.lt gz50)
    have ne_b6_x50 : b6 ≠ x50 := Nat.ne_of_lt (Nat.lt_of_lt_of_le E_b6_49.lt gz50)
    have ne_x1_x50 : x1 ≠ x50 := Nat.ne_of_lt (Nat.lt_of_lt_of_le E_x1_49.lt gz50)
    have ne_x2_x50 : x2 ≠ x50 := Nat.ne_of_lt (Nat.lt_of_lt_of_le E_x2_49.lt gz50)
    have ne_x3_x50 : x3 ≠ x50 := Nat.ne_of_lt (Nat.lt_of_lt_of_le E_x3_49.lt gz50)
    obtain ⟨cq51, kq51, q51a, q51b, q51c⟩ := isOf (s := s.setVm s.vm) hZ rfl E_b48_50
    obtain ⟨_, _, ⟨T51, L51, k51, n51⟩, -, X51, ⟨Lc51, hQ51, l51, y51, z51⟩, st51⟩ := X50.virtualBack hx (y := (⟨"java/util/ArrayList", "add", "(Ljava/lang/Object;)Z"⟩ : MethodName)) (z := (⟨"java/util/ArrayList", "add", "(Ljava/lang/Object;)Z"⟩ : MethodName)) hown (mvT hZ (hw _ (List.mem_of_getElem? (i := 58) rfl))) (mvT hZ (hw _ (List.mem_of_getElem? (i := 59) rfl))) (notFace_of_selects (args := #[]) (mvT hZ (hw _ (List.mem_of_getElem? (i := 61) rfl)))) (mvT hZ (hw _ (List.mem_of_getElem? (i := 61) rfl))) (mvT hZ (hw _ (List.mem_of_getElem? (i := 60) rfl))) (by decide) (backOf (W := 0) (rm_ad1 l Z a0 hw [] b48 (0 : Int32) dE kD x50 T50.heap n0 SZ50 E_b48_50 F_b48_modCount_50 F_b48_elementData_50 F_b48_size_50 g_b48 SD VD O__50 Sx50) hZ (hw _ (List.mem_of_getElem? (i := 62) rfl)) (hw _ (List.mem_of_getElem? (i := 36) rfl)) (by decide) (by decide)) q51a q51c (g := (mkF m 100 #[.val (.int w0), .val (.int w1), .val (.int w2), .val (.int w3), .val (.int w4), .val (.int w5), .val (.int (3 : Int32)), .val (.ref x1), .val (.ref x2), .val (.ref x3), .val (.ref b4), .val (.ref b46), .val (.ref b48), .unset, .unset, .unset, .unset, .unset, .unset, .unset] [(.ref x50), (.ref b48)])) rfl (by rw [hml]; rfl) (Steps.refl _) (argsL := [(.ref x50)]) (rest := []) (lenOf pd_20 rfl) rfl (by show 2 * 0 + _ ≤ _; exact Nat.le_of_eq rfl) (hb hby at_100) (fun _ _ => ⟨rfl, rfl, (by decide : 16 + 1 ≤ _), (by decide : 54 + 10 ≤ _)⟩)
    dsimp only [Pt.U, Pt.locs, Pt.cells, Pt.slots] at X51 l51 y51 z51 st51 hQ51
    subst y51 z51
    obtain ⟨b51, kc51, rfl, Nq51, Kc51, gz51, Ea51, Ma51, Da51, Sa51, Vc51, Oc51, Xc51⟩ := hQ51
    have N51 : Fr n0 L51 := by rw [l51]; exact Fr.app N50 Nq51
    refine Gl.go (fun _ k => st51.trans k) ?_
    have O__51 := O__50.keep Kc51 (allS g_b48 all0)
    have E_x1_51 := E_x1_50.keep Kc51
    have E_x2_51 := E_x2_50.keep Kc51
    have E_x3_51 := E_x3_50.keep Kc51
    have E_b6_51 := E_b6_50.keep Kc51
    have E_b4_51 := E_b4_50.keep Kc51
    have F_b4_modCount_51 := F_b4_modCount_50.keep Kc51 (ninS ne_b4_b48 nin0)
    have F_b4_elementData_51 := F_b4_elementData_50.keep Kc51 (ninS ne_b4_b48 nin0)
    have F_b4_size_51 := F_b4_size_50.keep Kc51 (ninS ne_b4_b48 nin0)
    have V_b6_51 := V_b6_50.keep Kc51 (ninS ne_b6_b48 nin0)
    have E_b48_51 := E_b48_50.keep Kc51
    have E_x50_51 := Sx50.keep Kc51
    have SZ51 : n0 ≤ T51.heap.size := Nat.le_trans SZ50 Kc51.1
    have K51 : Keep h0 T51.heap [] := K50.trans Kc51 (allS (Or.inr sz_b48) all0)
    have hk := Nat.le_trans hk Kc51.1
    have CR51 : CHr Z elL s.vm h0 s.vm T51.heap := CR50.trans (CHr.keep Kc51 (sfS (Safe.exa hZ.alike E_b48_50 (by decide) (by decide)) sf0) CR50.1)
    show Gl _ _ _ _ (T51.setTop (mkF m 103 #[.val (.int w0), .val (.int w1), .val (.int w2), .val (.int w3), .val (.int w4), .val (.int w5), .val (.int (3 : Int32)), .val (.ref x1), .val (.ref x2), .val (.ref x3), .val (.ref b4), .val (.ref b46), .val (.ref b48), .unset, .unset, .unset, .unset, .unset, .unset, .unset] [(.int (1 : Int32))]))
    have g_b51 : n0 ≤ b51 := Nat.le_trans SZ50 gz51
    have sz_b51 : h0.size ≤ b51 := Nat.le_trans K50.1 gz51
    have ne_b4_b51 : b4 ≠ b51 := Nat.ne_of_lt (Nat.lt_of_lt_of_le E_b4_50.lt gz51)
    have ne_b48_b51 : b48 ≠ b51 := Nat.ne_of_lt (Nat.lt_of_lt_of_le E_b48_50.lt gz51)
    have ne_b6_b51 : b6 ≠ b51 := Nat.ne_of_lt (Nat.lt_of_lt_of_le E_b6_50.lt gz51)
    have ne_x1_b51 : x1 ≠ b51 := Nat.ne_of_lt (Nat.lt_of_lt_of_le E_x1_50.lt gz51)
    have ne_x2_b51 : x2 ≠ b51 := Nat.ne_of_lt (Nat.lt_of_lt_of_le E_x2_50.lt gz51)
    have ne_x3_b51 : x3 ≠ b51 := Nat.ne_of_lt (Nat.lt_of_lt_of_le E_x3_50.lt gz51)
    have ne_x50_b51 : x50 ≠ b51 := Nat.ne_of_lt (Nat.lt_of_lt_of_le Sx50.lt gz51)
    refine Gl.go (fun _ k => XS.pop X51.here hx rfl (hb hby at_103) rfl rfl k) ?_
    obtain ⟨T52, h52, X52, e52, E52, A52, D52, -, st52⟩ := newO X51 hx hZ hown (hw _ (List.mem_of_getElem? (i := 90) rfl)) (hw _ (List.mem_of_getElem? (i := 91) rfl)) (hw _ (List.mem_of_getElem? (i := 92) rfl)) rfl (g := (mkF m 104 #[.val (.int w0), .val (.int w1), .val (.int w2), .val (.int w3), .val (.int w4), .val (.int w5), .val (.int (3 : Int32)), .val (.ref x1), .val (.ref x2), .val (.ref x3), .val (.ref b4), .val (.ref b46), .val (.ref b48), .unset, .unset, .unset, .unset, .unset, .unset, .unset] [])) rfl (hb hby at_104) (by decide) (by decide)
    obtain ⟨b52, g52⟩ : ∃ z, z = T51.heap.size := ⟨_, rfl⟩
    rw [← g52] at A52 D52 st52
    have g_b52 : n0 ≤ b52 := Nat.le_trans SZ51 (Nat.le_of_eq g52.symm)
    have sz_b52 : h0.size ≤ b52 := Nat.le_trans K51.1 (Nat.le_of_eq g52.symm)
    have ne_b4_b52 : b4 ≠ b52 := Nat.ne_of_lt (Nat.lt_of_lt_of_le E_b4_51.lt (Nat.le_of_eq g52.symm))
    have ne_b48_b52 : b48 ≠ b52 := Nat.ne_of_lt (Nat.lt_of_lt_of_le Ea51.lt (Nat.le_of_eq g52.symm))
    have ne_b6_b52 : b6 ≠ b52 := Nat.ne_of_lt (Nat.lt_of_lt_of_le E_b6_51.lt (Nat.le_of_eq g52.symm))
    have ne_x1_b52 : x1 ≠ b52 := Nat.ne_of_lt (Nat.lt_of_lt_of_le E_x1_51.lt (Nat.le_of_eq g52.symm))
    have ne_x2_b52 : x2 ≠ b52 := Nat.ne_of_lt (Nat.lt_of_lt_of_le E_x2_51.lt (Nat.le_of_eq g52.symm))
    have ne_x3_b52 : x3 ≠ b52 := Nat.ne_of_lt (Nat.lt_of_lt_of_le E_x3_51.lt (Nat.le_of_eq g52.symm))
    have O__52 := O__51.ext E52
    have E_x1_52 := E_x1_51.ext E52
    have E_x2_52 := E_x2_51.ext E52
    have E_x3_52 := E_x3_51.ext E52
    have E_b6_52 := E_b6_51.ext E52
    have E_b4_52 := E_b4_51.ext E52
    have F_b4_modCount_52 := F_b4_modCount_51.ext E52
    have F_b4_elementData_52 := F_b4_elementData_51.ext E52
    have F_b4_size_52 := F_b4_size_51.ext E52
    have V_b6_52 := V_b6_51.ext E52
    have E_b48_52 := Ea51.ext E52
    have SZ52 : n0 ≤ h52.size := Nat.le_trans SZ51 E52.1
    have K52 : Keep h0 h52 [] := K51.ext E52
    have hk := Nat.le_trans hk E52.1
    have CR52 : CHr Z elL s.vm h0 s.vm h52 := CR51.trans (CHr.ext E52 CR51.1)
    have F_b52_number_52 : Fld Z h52 b52 "com/example/frosted_rows/frostedrows/release/PublishedGroup" "number" "Ljava/lang/String;" .null := D52 (Or.inr (hw _ (List.mem_of_getElem? (i := 101) rfl))) (ty := (.object "java/lang/String")) (by decide)
    have F_b52_cells_52 : Fld Z h52 b52 "com/example/frosted_rows/frostedrows/release/PublishedGroup" "cells" "Ljava/util/List;" .null := D52 (Or.inr (hw _ (List.mem_of_getElem? (i := 188) rfl))) (ty := (.object "java/util/List")) (by decide)
    have F_b52_covered_52 : Fld Z h52 b52 "com/example/frosted_rows/frostedrows/release/PublishedGroup" "covered" "[I" .null := D52 (Or.inr (hw _ (List.mem_of_getElem? (i := 190) rfl))) (ty := (.array .int)) (by decide)
    have F_b52_sensitive_52 : Fld Z h52 b52 "com/example/frosted_rows/frostedrows/release/PublishedGroup" "sensitive" "Ljava/util/List;" .null := D52 (Or.inr (hw _ (List.mem_of_getElem? (i := 232) rfl))) (ty := (.object "java/util/List")) (by decide)
    refine Gl.go (fun _ k => st52 _ k) ?_
    show Gl _ _ _ _ (T52.setTop (mkF m 107 #[.val (.int w0), .val (.int w1), .val (.int w2), .val (.int w3), .val (.int w4), .val (.int w5), .val (.int (3 : Int32)), .val (.ref x1), .val (.ref x2), .val (.ref x3), .val (.ref b4), .val (.ref b46), .val (.ref b48), .unset, .unset, .unset, .unset, .unset, .unset, .unset] [(.ref b52)]))
    refine Gl.go (fun _ k => XS.dup X52.here hx rfl (hb hby at_107) rfl rfl k) ?_
    obtain ⟨sa53, T53, h53, k153, X53, e53, E53, hS, hk53, hZ53, hown, hC53, -, st53⟩ := ldcOH (EL := elL) X52 hx hZ hown (hw _ (List.mem_of_getElem? (i := 93) rfl)) hSA e52 hS hk hEL CR52.1 (g := (mkF m 108 #[.val (.int w0), .val (.int w1), .val (.int w2), .val (.int w3), .val (.int w4), .val (.int w5), .val (.int (3 : Int32)), .val (.ref x1), .val (.ref x2), .val (.ref x3), .val (.ref b4), .val (.ref b46), .val (.ref b48), .unset, .unset, .unset, .unset, .unset, .unset, .unset] [(.ref b52), (.ref b52)])) rfl (hb hby at_108) (n := 4) (by decide) (by decide) (by decide) (by decide)
    have hZ : Z.Warmed39 T53.vm := hZ53
    have hk := hk53
    have CR53 : CHr Z elL s.vm h0 T53.vm h53 := CR52.trans hC53
    have O__53 := O__52.ext E53
    have E_x1_53 := E_x1_52.ext E53
    have E_x2_53 := E_x2_52.ext E53
    have E_x3_53 := E_x3_52.ext E53
    have E_b6_53 := E_b6_52.ext E53
    have E_b4_53 := E_b4_52.ext E53
    have F_b4_modCount_53 := F_b4_modCount_52.ext E53
    have F_b4_elementData_53 := F_b4_elementData_52.ext E53
    have F_b4_size_53 := F_b4_size_52.ext E53
    have V_b6_53 := V_b6_52.ext E53
    have E_b48_53 := E_b48_52.ext E53
    have E_b52_53 := A52.ext E53
    have F_b52_number_53 := F_b52_number_52.ext E53
    have F_b52_cells_53 := F_b52_cells_52.ext E53
    have F_b52_covered_53 := F_b52_covered_52.ext E53
    have F_b52_sensitive_53 := F_b52_sensitive_52.ext E53
    have SZ53 : n0 ≤ h53.size := Nat.le_trans SZ52 E53.1
    have K53 : Keep h0 h53 [] := K52.ext E53
    refine Gl.go (fun _ k => st53 _ k) ?_
    show Gl _ _ _ _ (T53.setTop (mkF m 110 #[.val (.int w0), .val (.int w1), .val (.int w2), .val (.int w3), .val (.int w4), .val (.int w5), .val (.int (3 : Int32)), .val (.ref x1), .val (.ref x2), .val (.ref x3), .val (.ref b4), .val (.ref b46), .val (.ref b48), .unset, .unset, .unset, .unset, .unset, .unset, .unset] [(.ref sa53), (.ref b52), (.ref b52)]))
    refine Gl.go (fun _ k => XS.aload X53.here hx rfl (hb hby at_110) rfl rfl  k) ?_
    refine Gl.go (fun _ k => XS.aload X53.here hx rfl (hb hby at_112) rfl rfl  k) ?_
    refine Gl.go (fun _ k => XS.aload X53.here hx rfl (hb hby at_114) rfl rfl  k) ?_
    obtain ⟨_, _, ⟨T54, L54, k54, n54⟩, -, X54, ⟨Lc54, hQ54, l54, y54, z54⟩, st54⟩ := X53.specialBack hx (y := (⟨"com/example/frosted_rows/frostedrows/release/PublishedGroup", "<init>", "(Ljava/lang/String;Ljava/util/List;[ILjava/util/List;)V"⟩ : MethodName)) rfl hown (mvT hZ (hw _ (List.mem_of_getElem? (i := 96) rfl))) (mvT hZ (hw _ (List.mem_of_getElem? (i := 97) rfl))) (mvT hZ (hw _ (List.mem_of_getElem? (i := 98) rfl))) (by decide) (backOf (W := 1) (rm_pgi_3 l Z a0 hw [] b52 sa53 b46 b48 mA mL mR b4 ((((0 : Int32) + (1 : Int32)) + (1 : Int32)) + (1 : Int32)) b6 kc6 mO x1 x2 x3 eM h53 n0 SZ53 E_b52_53 F_b52_number_53 F_b52_cells_53 F_b52_covered_53 F_b52_sensitive_53 E_b4_53 F_b4_modCount_53 F_b4_elementData_53 F_b4_size_53 V_b6_53 E_x1_53 E_x2_53 E_x3_53 E_b6_53 MO SE O__53 E_b48_53 MA ML MR g_b52 (Ne.symm ne_b4_b52) (Ne.symm ne_b6_b52)) hZ (hw _ (List.mem_of_getElem? (i := 98) rfl)) (hw _ (List.mem_of_getElem? (i := 92) rfl)) (by decide) (by decide)) (g := (mkF m 116 #[.val (.int w0), .val (.int w1), .val (.int w2), .val (.int w3), .val (.int w4), .val (.int w5), .val (.int (3 : Int32)), .val (.ref x1), .val (.ref x2), .val (.ref x3), .val (.ref b4), .val (.ref b46), .val (.ref b48), .unset, .unset, .unset, .unset, .unset, .unset, .unset] [(.ref b48), (.ref b46), (.ref b4), (.ref sa53), (.ref b52), (.ref b52)])) rfl (by rw [hml]; rfl) (Steps.refl _) (a := b52) (argsL := [(.ref sa53), (.ref b4), (.ref b46), (.ref b48)]) (rest := [(.ref b52)]) (lenOf pd_21 rfl) rfl (by show 2 * 0 + _ ≤ _; exact Nat.le_of_eq rfl) (hb hby at_116) (fun _ _ => ⟨rfl, e53, (by decide : 20 + 4 ≤ _), (by decide : 76 + 10 ≤ _)⟩)
    dsimp only [Pt.U, Pt.locs, Pt.cells, Pt.slots] at X54 l54 y54 z54 st54 hQ54
    subst y54 z54
    obtain ⟨rfl, Nq54, Kc54, Eg54, o54, Fg54, br54, kb54, gb54, Eo54, F054, Vo54⟩ := hQ54
    have N54 : Fr n0 L54 := by rw [l54]; exact Fr.app N51 Nq54
    refine Gl.go (fun _ k => st54.trans k) ?_
    have O__54 := O__53.keep Kc54 (allS g_b52 all0)
    have E_x1_54 := E_x1_53.keep Kc54
    have E_x2_54 := E_x2_53.keep Kc54
    have E_x3_54 := E_x3_53.keep Kc54
    have E_b6_54 := E_b6_53.keep Kc54
    have E_b4_54 := E_b4_53.keep Kc54
    have F_b4_modCount_54 := F_b4_modCount_53.keep Kc54 (ninS ne_b4_b52 nin0)
    have F_b4_elementData_54 := F_b4_elementData_53.keep Kc54 (ninS ne_b4_b52 nin0)
    have F_b4_size_54 := F_b4_size_53.keep Kc54 (ninS ne_b4_b52 nin0)
    have V_b6_54 := V_b6_53.keep Kc54 (ninS ne_b6_b52 nin0)
    have E_b48_54 := E_b48_53.keep Kc54
    have E_b52_54 := E_b52_53.keep Kc54
    have SZ54 : n0 ≤ T54.heap.size := Nat.le_trans SZ53 Kc54.1
    have K54 : Keep h0 T54.heap [] := K53.trans Kc54 (allS (Or.inr sz_b52) all0)
    have hk := Nat.le_trans hk Kc54.1
    have CR54 : CHr Z elL s.vm h0 T53.vm T54.heap := CR53.trans (CHr.keep Kc54 (sfS (Safe.exa hZ.alike E_b52_53 (by decide) (by decide)) sf0) CR53.1)
    show Gl _ _ _ _ (T54.setTop (mkF m 119 #[.val (.int w0), .val (.int w1), .val (.int w2), .val (.int w3), .val (.int w4), .val (.int w5), .val (.int (3 : Int32)), .val (.ref x1), .val (.ref x2), .val (.ref x3), .val (.ref b4), .val (.ref b46), .val (.ref b48), .unset, .unset, .unset, .unset, .unset, .unset, .unset] [(.ref b52)]))
    refine Gl.go (fun _ k => XS.astore X54.here hx rfl (hb hby at_119) rfl rfl (l' := #[.val (.int w0), .val (.int w1), .val (.int w2), .val (.int w3), .val (.int w4), .val (.int w5), .val (.int (3 : Int32)), .val (.ref x1), .val (.ref x2), .val (.ref x3), .val (.ref b4), .val (.ref b46), .val (.ref b48), .val (.ref b52), .unset, .unset, .unset, .unset, .unset, .unset]) rfl k) ?_
    refine Gl.go (fun _ k => XS.iload X54.here hx rfl (hb hby at_121) rfl  k) ?_
    refine Gl.go (fun _ k => X54.ldcInt hx hown (mvT hZ (hw _ (List.mem_of_getElem? (i := 233) rfl))) (g := (mkF m 123 #[.val (.int w0), .val (.int w1), .val (.int w2), .val (.int w3), .val (.int w4), .val (.int w5), .val (.int (3 : Int32)), .val (.ref x1), .val (.ref x2), .val (.ref x3), .val (.ref b4), .val (.ref b46), .val (.ref b48), .val (.ref b52), .unset, .unset, .unset, .unset, .unset, .unset] [(.int w4)])) rfl (hb hby at_123) _ k) ?_
    refine Gl.go (fun _ k => XS.iand X54.here hx rfl (hb hby at_125) rfl k) ?_
    show Gl _ _ _ _ (T54.setTop (mkF m 126 #[.val (.int w0), .val (.int w1), .val (.int w2), .val (.int w3), .val (.int w4), .val (.int w5), .val (.int (3 : Int32)), .val (.ref x1), .val (.ref x2), .val (.ref x3), .val (.ref b4), .val (.ref b46), .val (.ref b48), .val (.ref b52), .unset, .unset, .unset, .unset, .unset, .unset] [(.int (w4 &&& (2147483647 : Int32)))]))
    refine Gl.go (fun _ k => XS.iload X54.here hx rfl (hb hby at_126) rfl  k) ?_
    refine Gl.go (fun _ k => iremM X54 hx rfl (hb hby at_128) rfl (by decide) k) ?_
    refine Gl.go (fun _ k => XS.istore X54.here hx rfl (hb hby at_129) rfl (l' := #[.val (.int w0), .val (.int w1), .val (.int w2), .val (.int w3), .val (.int w4), .val (.int w5), .val (.int (3 : Int32)), .val (.ref x1), .val (.ref x2), .val (.ref x3), .val (.ref b4), .val (.ref b46), .val (.ref b48), .val (.ref b52), .val (.int ((w4 &&& (2147483647 : Int32)) % (3 : Int32))), .unset, .unset, .unset, .unset, .unset]) rfl k) ?_
    refine Gl.go (fun _ k => XS.iload X54.here hx rfl (hb hby at_131) rfl  k) ?_
    show Gl _ _ _ _ (T54.setTop (mkF m 133 #[.val (.int w0), .val (.int w1), .val (.int w2), .val (.int w3), .val (.int w4), .val (.int w5), .val (.int (3 : Int32)), .val (.ref x1), .val (.ref x2), .val (.ref x3), .val (.ref b4), .val (.ref b46), .val (.ref b48), .val (.ref b52), .val (.int ((w4 &&& (2147483647 : Int32)) % (3 : Int32))), .unset, .unset, .unset, .unset, .unset] [(.int ((w4 &&& (2147483647 : Int32)) % (3 : Int32)))]))
    have hm := own_m3 w4
    generalize h_cm : ((w4 &&& (2147483647 : Int32)) % (3 : Int32)) = cm at hm ⊢
    show Gl _ _ _ _ (T54.setTop (mkF m 133 #[.val (.int w0), .val (.int w1), .val (.int w2), .val (.int w3), .val (.int w4), .val (.int w5), .val (.int (3 : Int32)), .val (.ref x1), .val (.ref x2), .val (.ref x3), .val (.ref b4), .val (.ref b46), .val (.ref b48), .val (.ref b52), .val (.int cm), .unset, .unset, .unset, .unset, .unset] [(.int cm)]))
    have D133_55 : ∀ t, Steps p.tables e below (T54.setTop (mkF m 154 #[.val (.int w0), .val (.int w1), .val (.int w2), .val (.int w3), .val (.int w4), .val (.int w5), .val (.int (3 : Int32)), .val (.ref x1), .val (.ref x2), .val (.ref x3), .val (.ref b4), .val (.ref b46), .val (.ref b48), .val (.ref b52), .val (.int cm), .unset, .unset, .unset, .unset, .unset] [(.ref (if cm = (0 : Int32) then x1 else (if cm = (1 : Int32) then x2 else x3)))])) t → Steps p.tables e below (T54.setTop (mkF m 133 #[.val (.int w0), .val (.int w1), .val (.int w2), .val (.int w3), .val (.int w4), .val (.int w5), .val (.int (3 : Int32)), .val (.ref x1), .val (.ref x2), .val (.ref x3), .val (.ref b4), .val (.ref b46), .val (.ref b48), .val (.ref b52), .val (.int cm), .unset, .unset, .unset, .unset, .unset] [(.int cm)])) t := by
      intro t k
      show Steps _ _ _ (T54.setTop (mkF m 133 #[.val (.int w0), .val (.int w1), .val (.int w2), .val (.int w3), .val (.int w4), .val (.int w5), .val (.int (3 : Int32)), .val (.ref x1), .val (.ref x2), .val (.ref x3), .val (.ref b4), .val (.ref b46), .val (.ref b48), .val (.ref b52), .val (.int cm), .unset, .unset, .unset, .unset, .unset] [(.int cm)])) _
      by_cases hd133_56 : cm = (0 : Int32)
      · skip
        refine XS.ifNo X54.here hx rfl (hb hby at_133) rfl ((if0 _ _).trans (teq hd133_56).2) ?_
        show Steps _ _ _ (T54.setTop (mkF m 136 #[.val (.int w0), .val (.int w1), .val (.int w2), .val (.int w3), .val (.int w4), .val (.int w5), .val (.int (3 : Int32)), .val (.ref x1), .val (.ref x2), .val (.ref x3), .val (.ref b4), .val (.ref b46), .val (.ref b48), .val (.ref b52), .val (.int cm), .unset, .unset, .unset, .unset, .unset] [])) _
        refine XS.aload X54.here hx rfl (hb hby at_136) rfl rfl  ?_
        refine XS.goto X54.here hx rfl (pc0 := 138) (pc' := 154) rfl (hb hby at_138) (by decide) (by decide) ?_
        simp only [if_pos hd133_56] at k
        exact k
      · skip
        refine XS.ifYes X54.here hx rfl (pc0 := 133) (pc' := 141) rfl (hb hby at_133) rfl ((if0 _ _).trans (feq hd133_56).2) (by decide) (by decide) ?_
        show Steps _ _ _ (T54.setTop (mkF m 141 #[.val (.int w0), .val (.int w1), .val (.int w2), .val (.int w3), .val (.int w4), .val (.int w5), .val (.int (3 : Int32)), .val (.ref x1), .val (.ref x2), .val (.ref x3), .val (.ref b4), .val (.ref b46), .val (.ref b48), .val (.ref b52), .val (.int cm), .unset, .unset, .unset, .unset, .unset] [])) _
        refine XS.iload X54.here hx rfl (hb hby at_141) rfl  ?_
        refine XS.iconst X54.here hx rfl (hb hby at_143) ?_
        by_cases hd144_57 : cm = (1 : Int32)
        · skip
          refine XS.icmpNo X54.here hx rfl (hb hby at_144) rfl (teq hd144_57).2 ?_
          show Steps _ _ _ (T54.setTop (mkF m 147 #[.val (.int w0), .val (.int w1), .val (.int w2), .val (.int w3), .val (.int w4), .val (.int w5), .val (.int (3 : Int32)), .val (.ref x1), .val (.ref x2), .val (.ref x3), .val (.ref b4), .val (.ref b46), .val (.ref b48), .val (.ref b52), .val (.int cm), .unset, .unset, .unset, .unset, .unset] [])) _
          refine XS.aload X54.here hx rfl (hb hby at_147) rfl rfl  ?_
          refine XS.goto X54.here hx rfl (pc0 := 149) (pc' := 154) rfl (hb hby at_149) (by decide) (by decide) ?_
          simp only [if_neg hd133_56, if_pos hd144_57] at k
          exact k
        · skip
          refine XS.icmpYes X54.here hx rfl (pc0 := 144) (pc' := 152) rfl (hb hby at_144) rfl (feq hd144_57).2 (by decide) (by decide) ?_
          show Steps _ _ _ (T54.setTop (mkF m 152 #[.val (.int w0), .val (.int w1), .val (.int w2), .val (.int w3), .val (.int w4), .val (.int w5), .val (.int (3 : Int32)), .val (.ref x1), .val (.ref x2), .val (.ref x3), .val (.ref b4), .val (.ref b46), .val (.ref b48), .val (.ref b52), .val (.int cm), .unset, .unset, .unset, .unset, .unset] [])) _
          refine XS.aload X54.here hx rfl (hb hby at_152) rfl rfl  ?_
          simp only [if_neg hd133_56, if_neg hd144_57] at k
          exact k
    refine Gl.go (fun _ k => D133_55 _ k) ?_
    show Gl _ _ _ _ (T54.setTop (mkF m 154 #[.val (.int w0), .val (.int w1), .val (.int w2), .val (.int w3), .val (.int w4), .val (.int w5), .val (.int (3 : Int32)), .val (.ref x1), .val (.ref x2), .val (.ref x3), .val (.ref b4), .val (.ref b46), .val (.ref b48), .val (.ref b52), .val (.int cm), .unset, .unset, .unset, .unset, .unset] [(.ref (if cm = (0 : Int32) then x1 else (if cm = (1 : Int32) then x2 else x3)))]))
    refine Gl.go (fun _ k => XS.astore X54.here hx rfl (hb hby at_154) rfl rfl (l' := #[.val (.int w0), .val (.int w1), .val (.int w2), .val (.int w3), .val (.int w4), .val (.int w5), .val (.int (3 : Int32)), .val (.ref x1), .val (.ref x2), .val (.ref x3), .val (.ref b4), .val (.ref b46), .val (.ref b48), .val (.ref b52), .val (.int cm), .val (.ref (if cm = (0 : Int32) then x1 else (if cm = (1 : Int32) then x2 else x3))), .unset, .unset, .unset, .unset]) rfl k) ?_
    refine Gl.go (fun _ k => XS.iload X54.here hx rfl (hb hby at_156) rfl  k) ?_
    refine Gl.go (fun _ k => XS.iconst X54.here hx rfl (hb hby at_158) k) ?_
    refine Gl.go (fun _ k => XS.icmpYes X54.here hx rfl (pc0 := 159) (pc' := 167) rfl (hb hby at_159) rfl (feq (by decide)).2 (by decide) (by decide) k) ?_
    show Gl _ _ _ _ (T54.setTop (mkF m 167 #[.val (.int w0), .val (.int w1), .val (.int w2), .val (.int w3), .val (.int w4), .val (.int w5), .val (.int (3 : Int32)), .val (.ref x1), .val (.ref x2), .val (.ref x3), .val (.ref b4), .val (.ref b46), .val (.ref b48), .val (.ref b52), .val (.int cm), .val (.ref (if cm = (0 : Int32) then x1 else (if cm = (1 : Int32) then x2 else x3))), .unset, .unset, .unset, .unset] []))
    refine Gl.go (fun _ k => XS.iload X54.here hx rfl (hb hby at_167) rfl  k) ?_
    refine Gl.go (fun _ k => XS.iconst X54.here hx rfl (hb hby at_169) k) ?_
    refine Gl.go (fun _ k => XS.icmpYes X54.here hx rfl (pc0 := 170) (pc' := 178) rfl (hb hby at_170) rfl (feq (by decide)).2 (by decide) (by decide) k) ?_
    show Gl _ _ _ _ (T54.setTop (mkF m 178 #[.val (.int w0), .val (.int w1), .val (.int w2), .val (.int w3), .val (.int w4), .val (.int w5), .val (.int (3 : Int32)), .val (.ref x1), .val (.ref x2), .val (.ref x3), .val (.ref b4), .val (.ref b46), .val (.ref b48), .val (.ref b52), .val (.int cm), .val (.ref (if cm = (0 : Int32) then x1 else (if cm = (1 : Int32) then x2 else x3))), .unset, .unset, .unset, .unset] []))
    refine Gl.go (fun _ k => XS.aload X54.here hx rfl (hb hby at_178) rfl rfl  k) ?_
    refine Gl.go (fun _ k => XS.astore X54.here hx rfl (hb hby at_180) rfl rfl (l' := #[.val (.int w0), .val (.int w1), .val (.int w2), .val (.int w3), .val (.int w4), .val (.int w5), .val (.int (3 : Int32)), .val (.ref x1), .val (.ref x2), .val (.ref x3), .val (.ref b4), .val (.ref b46), .val (.ref b48), .val (.ref b52), .val (.int cm), .val (.ref (if cm = (0 : Int32) then x1 else (if cm = (1 : Int32) then x2 else x3))), .val (.ref x3), .unset, .unset, .unset]) rfl k) ?_
    refine Gl.go (fun _ k => XS.aload X54.here hx rfl (hb hby at_182) rfl rfl  k) ?_
    refine Gl.go (fun _ k => XS.iload X54.here hx rfl (hb hby at_184) rfl  k) ?_
    show Gl _ _ _ _ (T54.setTop (mkF m 186 #[.val (.int w0), .val (.int w1), .val (.int w2), .val (.int w3), .val (.int w4), .val (.int w5), .val (.int (3 : Int32)), .val (.ref x1), .val (.ref x2), .val (.ref x3), .val (.ref b4), .val (.ref b46), .val (.ref b48), .val (.ref b52), .val (.int cm), .val (.ref (if cm = (0 : Int32) then x1 else (if cm = (1 : Int32) then x2 else x3))), .val (.ref x3), .unset, .unset, .unset] [(.int cm), (.ref b52)]))
    obtain ⟨cq58, kq58, q58a, q58b, q58c⟩ := isOf (s := s.setVm T53.vm) hZ rfl Eg54
    obtain ⟨_, _, ⟨T58, L58, k58, n58⟩, -, X58, ⟨Lc58, hQ58, l58, y58, z58⟩, st58⟩ := X54.virtualBack hx (y := (⟨"com/example/frosted_rows/frostedrows/release/PublishedGroup", "cell", "(I)Ljava/lang/String;"⟩ : MethodName)) (z := (⟨"com/example/frosted_rows/frostedrows/release/PublishedGroup", "cell", "(I)Ljava/lang/String;"⟩ : MethodName)) hown (mvT hZ (hw _ (List.mem_of_getElem? (i := 234) rfl))) (mvT hZ (hw _ (List.mem_of_getElem? (i := 235) rfl))) (notFace_of_selects (args := #[]) (mvT hZ (hw _ (List.mem_of_getElem? (i := 237) rfl)))) (mvT hZ (hw _ (List.mem_of_getElem? (i := 237) rfl))) (mvT hZ (hw _ (List.mem_of_getElem? (i := 236) rfl))) (by decide) (backOf (W := 0) (rm_cell_3 l Z a0 hw [] b52 cm o54 br54 kb54 x1 x2 x3 T54.heap n0 SZ54 hm Fg54 Eo54 F054 Vo54 E_x1_54 E_x2_54 E_x3_54) hZ (hw _ (List.mem_of_getElem? (i := 238) rfl)) (hw _ (List.mem_of_getElem? (i := 92) rfl)) (by decide) (by decide)) q58a q58c (g := (mkF m 186 #[.val (.int w0), .val (.int w1), .val (.int w2), .val (.int w3), .val (.int w4), .val (.int w5), .val (.int (3 : Int32)), .val (.ref x1), .val (.ref x2), .val (.ref x3), .val (.ref b4), .val (.ref b46), .val (.ref b48), .val (.ref b52), .val (.int cm), .val (.ref (if cm = (0 : Int32) then x1 else (if cm = (1 : Int32) then x2 else x3))), .val (.ref x3), .unset, .unset, .unset] [(.int cm), (.ref b52)])) rfl (by rw [hml]; rfl) (Steps.refl _) (argsL := [(.int cm)]) (rest := []) (lenOf pd_19 rfl) rfl (by show 2 * 0 + _ ≤ _; exact Nat.le_of_eq rfl) (hb hby at_186) (fun _ _ => ⟨rfl, rfl, (by decide : 24 + 0 ≤ _), (by decide : 86 + 0 ≤ _)⟩)
    dsimp only [Pt.U, Pt.locs, Pt.cells, Pt.slots] at X58 l58 y58 z58 st58 hQ58
    subst y58 z58
    obtain ⟨rfl, Nq58, e58⟩ := hQ58
    have N58 : Fr n0 L58 := by rw [l58]; exact Fr.app N54 Nq58
    refine Gl.go (fun _ k => st58.trans k) ?_
    show Gl _ _ _ _ (T58.setTop (mkF m 189 #[.val (.int w0), .val (.int w1), .val (.int w2), .val (.int w3), .val (.int w4), .val (.int w5), .val (.int (3 : Int32)), .val (.ref x1), .val (.ref x2), .val (.ref x3), .val (.ref b4), .val (.ref b46), .val (.ref b48), .val (.ref b52), .val (.int cm), .val (.ref (if cm = (0 : Int32) then x1 else (if cm = (1 : Int32) then x2 else x3))), .val (.ref x3), .unset, .unset, .unset] [(.ref (if cm = (0 : Int32) then x1 else (if cm = (1 : Int32) then x2 else x3)))]))
    refine Gl.go (fun _ k => XS.aload X58.here hx rfl (hb hby at_189) rfl rfl  k) ?_
    obtain ⟨cq59, kq59, q59a, q59b, q59c⟩ := isOf (s := s.setVm T53.vm) hZ e58 (own_sel E_x1_54 E_x2_54 E_x3_54 hm)
    obtain ⟨_, _, ⟨T59, L59, k59, n59⟩, -, X59, ⟨Lc59, hQ59, l59, y59, z59⟩, st59⟩ := X58.virtualBack hx (y := (⟨"java/lang/String", "equals", "(Ljava/lang/Object;)Z"⟩ : MethodName)) (z := (⟨"java/lang/String", "equals", "(Ljava/lang/Object;)Z"⟩ : MethodName)) hown (mvT hZ (hw _ (List.mem_of_getElem? (i := 249) rfl))) (mvT hZ (hw _ (List.mem_of_getElem? (i := 250) rfl))) (notFace_of_selects (args := #[]) (mvT hZ (hw _ (List.mem_of_getElem? (i := 252) rfl)))) (mvT hZ (hw _ (List.mem_of_getElem? (i := 252) rfl))) (mvT hZ (hw _ (List.mem_of_getElem? (i := 251) rfl))) (by decide) (backOf (W := 0) (rm_eqs l Z a0 hw [] (if cm = (0 : Int32) then x1 else (if cm = (1 : Int32) then x2 else x3)) T54.heap n0 SZ54 ) hZ (hw _ (List.mem_of_getElem? (i := 253) rfl)) (hw _ (List.mem_of_getElem? (i := 6) rfl)) (by decide) (by decide)) q59a q59c (g := (mkF m 191 #[.val (.int w0), .val (.int w1), .val (.int w2), .val (.int w3), .val (.int w4), .val (.int w5), .val (.int (3 : Int32)), .val (.ref x1), .val (.ref x2), .val (.ref x3), .val (.ref b4), .val (.ref b46), .val (.ref b48), .val (.ref b52), .val (.int cm), .val (.ref (if cm = (0 : Int32) then x1 else (if cm = (1 : Int32) then x2 else x3))), .val (.ref x3), .unset, .unset, .unset] [(.ref (if cm = (0 : Int32) then x1 else (if cm = (1 : Int32) then x2 else x3))), (.ref (if cm = (0 : Int32) then x1 else (if cm = (1 : Int32) then x2 else x3)))])) rfl (by rw [hml]; rfl) (Steps.refl _) (argsL := [(.ref (if cm = (0 : Int32) then x1 else (if cm = (1 : Int32) then x2 else x3)))]) (rest := []) (lenOf pd_20 rfl) rfl (by show 2 * 0 + _ ≤ _; exact Nat.le_of_eq rfl) (hb hby at_191) (fun _ _ => ⟨rfl, e58, (by decide : 24 + 0 ≤ _), (by decide : 86 + 0 ≤ _)⟩)
    dsimp only [Pt.U, Pt.locs, Pt.cells, Pt.slots] at X59 l59 y59 z59 st59 hQ59
    subst y59 z59
    obtain ⟨rfl, Nq59, e59⟩ := hQ59
    have N59 : Fr n0 L59 := by rw [l59]; exact Fr.app N58 Nq59
    refine Gl.go (fun _ k => st59.trans k) ?_
    show Gl _ _ _ _ (T59.setTop (mkF m 194 #[.val (.int w0), .val (.int w1), .val (.int w2), .val (.int w3), .val (.int w4), .val (.int w5), .val (.int (3 : Int32)), .val (.ref x1), .val (.ref x2), .val (.ref x3), .val (.ref b4), .val (.ref b46), .val (.ref b48), .val (.ref b52), .val (.int cm), .val (.ref (if cm = (0 : Int32) then x1 else (if cm = (1 : Int32) then x2 else x3))), .val (.ref x3), .unset, .unset, .unset] [(.int (1 : Int32))]))
    refine Gl.go (fun _ k => XS.istore X59.here hx rfl (hb hby at_194) rfl (l' := #[.val (.int w0), .val (.int w1), .val (.int w2), .val (.int w3), .val (.int w4), .val (.int w5), .val (.int (3 : Int32)), .val (.ref x1), .val (.ref x2), .val (.ref x3), .val (.ref b4), .val (.ref b46), .val (.ref b48), .val (.ref b52), .val (.int cm), .val (.ref (if cm = (0 : Int32) then x1 else (if cm = (1 : Int32) then x2 else x3))), .val (.ref x3), .val (.int (1 : Int32)), .unset, .unset]) rfl k) ?_
    refine Gl.go (fun _ k => XS.aload X59.here hx rfl (hb hby at_196) rfl rfl  k) ?_
    refine Gl.go (fun _ k => XS.iconst X59.here hx rfl (hb hby at_198) k) ?_
    obtain ⟨cq60, kq60, q60a, q60b, q60c⟩ := isOf (s := s.setVm T53.vm) hZ e59 Eg54
    obtain ⟨_, _, ⟨T60, L60, k60, n60⟩, -, X60, ⟨Lc60, hQ60, l60, y60, z60⟩, st60⟩ := X59.virtualBack hx (y := (⟨"com/example/frosted_rows/frostedrows/release/PublishedGroup", "cell", "(I)Ljava/lang/String;"⟩ : MethodName)) (z := (⟨"com/example/frosted_rows/frostedrows/release/PublishedGroup", "cell", "(I)Ljava/lang/String;"⟩ : MethodName)) hown (mvT hZ (hw _ (List.mem_of_getElem? (i := 234) rfl))) (mvT hZ (hw _ (List.mem_of_getElem? (i := 235) rfl))) (notFace_of_selects (args := #[]) (mvT hZ (hw _ (List.mem_of_getElem? (i := 237) rfl)))) (mvT hZ (hw _ (List.mem_of_getElem? (i := 237) rfl))) (mvT hZ (hw _ (List.mem_of_getElem? (i := 236) rfl))) (by decide) (backOf (W := 0) (rm_cell_3 l Z a0 hw [] b52 (0 : Int32) o54 br54 kb54 x1 x2 x3 T54.heap n0 SZ54 (Or.inl rfl) Fg54 Eo54 F054 Vo54 E_x1_54 E_x2_54 E_x3_54) hZ (hw _ (List.mem_of_getElem? (i := 238) rfl)) (hw _ (List.mem_of_getElem? (i := 92) rfl)) (by decide) (by decide)) q60a q60c (g := (mkF m 199 #[.val (.int w0), .val (.int w1), .val (.int w2), .val (.int w3), .val (.int w4), .val (.int w5), .val (.int (3 : Int32)), .val (.ref x1), .val (.ref x2), .val (.ref x3), .val (.ref b4), .val (.ref b46), .val (.ref b48), .val (.ref b52), .val (.int cm), .val (.ref (if cm = (0 : Int32) then x1 else (if cm = (1 : Int32) then x2 else x3))), .val (.ref x3), .val (.int (1 : Int32)), .unset, .unset] [(.int (0 : Int32)), (.ref b52)])) rfl (by rw [hml]; rfl) (Steps.refl _) (argsL := [(.int (0 : Int32))]) (rest := []) (lenOf pd_19 rfl) rfl (by show 2 * 0 + _ ≤ _; exact Nat.le_of_eq rfl) (hb hby at_199) (fun _ _ => ⟨rfl, e59, (by decide : 24 + 0 ≤ _), (by decide : 86 + 0 ≤ _)⟩)
    dsimp only [Pt.U, Pt.locs, Pt.cells, Pt.slots] at X60 l60 y60 z60 st60 hQ60
    subst y60 z60
    obtain ⟨rfl, Nq60, e60⟩ := hQ60
    have N60 : Fr n0 L60 := by rw [l60]; exact Fr.app N59 Nq60
    refine Gl.go (fun _ k => st60.trans k) ?_
    show Gl _ _ _ _ (T60.setTop (mkF m 202 #[.val (.int w0), .val (.int w1), .val (.int w2), .val (.int w3), .val (.int w4), .val (.int w5), .val (.int (3 : Int32)), .val (.ref x1), .val (.ref x2), .val (.ref x3), .val (.ref b4), .val (.ref b46), .val (.ref b48), .val (.ref b52), .val (.int cm), .val (.ref (if cm = (0 : Int32) then x1 else (if cm = (1 : Int32) then x2 else x3))), .val (.ref x3), .val (.int (1 : Int32)), .unset, .unset] [(.ref (if (0 : Int32) = (0 : Int32) then x1 else (if (0 : Int32) = (1 : Int32) then x2 else x3)))]))
    rw [((by rw [if_pos rfl]) : (if (0 : Int32) = (0 : Int32) then x1 else (if (0 : Int32) = (1 : Int32) then x2 else x3)) = x1)]
    show Gl _ _ _ _ (T60.setTop (mkF m 202 #[.val (.int w0), .val (.int w1), .val (.int w2), .val (.int w3), .val (.int w4), .val (.int w5), .val (.int (3 : Int32)), .val (.ref x1), .val (.ref x2), .val (.ref x3), .val (.ref b4), .val (.ref b46), .val (.ref b48), .val (.ref b52), .val (.int cm), .val (.ref (if cm = (0 : Int32) then x1 else (if cm = (1 : Int32) then x2 else x3))), .val (.ref x3), .val (.int (1 : Int32)), .unset, .unset] [(.ref x1)]))
    refine Gl.go (fun _ k => XS.aload X60.here hx rfl (hb hby at_202) rfl rfl  k) ?_
    obtain ⟨cq61, kq61, q61a, q61b, q61c⟩ := isOf (s := s.setVm T53.vm) hZ e60 E_x1_54
    obtain ⟨_, _, ⟨T61, L61, k61, n61⟩, -, X61, ⟨Lc61, hQ61, l61, y61, z61⟩, st61⟩ := X60.virtualBack hx (y := (⟨"java/lang/String", "equals", "(Ljava/lang/Object;)Z"⟩ : MethodName)) (z := (⟨"java/lang/String", "equals", "(Ljava/lang/Object;)Z"⟩ : MethodName)) hown (mvT hZ (hw _ (List.mem_of_getElem? (i := 249) rfl))) (mvT hZ (hw _ (List.mem_of_getElem? (i := 250) rfl))) (notFace_of_selects (args := #[]) (mvT hZ (hw _ (List.mem_of_getElem? (i := 252) rfl)))) (mvT hZ (hw _ (List.mem_of_getElem? (i := 252) rfl))) (mvT hZ (hw _ (List.mem_of_getElem? (i := 251) rfl))) (by decide) (backOf (W := 0) (rm_eqs l Z a0 hw [] x1 T54.heap n0 SZ54 ) hZ (hw _ (List.mem_of_getElem? (i := 253) rfl)) (hw _ (List.mem_of_getElem? (i := 6) rfl)) (by decide) (by decide)) q61a q61c (g := (mkF m 204 #[.val (.int w0), .val (.int w1), .val (.int w2), .val (.int w3), .val (.int w4), .val (.int w5), .val (.int (3 : Int32)), .val (.ref x1), .val (.ref x2), .val (.ref x3), .val (.ref b4), .val (.ref b46), .val (.ref b48), .val (.ref b52), .val (.int cm), .val (.ref (if cm = (0 : Int32) then x1 else (if cm = (1 : Int32) then x2 else x3))), .val (.ref x3), .val (.int (1 : Int32)), .unset, .unset] [(.ref x1), (.ref x1)])) rfl (by rw [hml]; rfl) (Steps.refl _) (argsL := [(.ref x1)]) (rest := []) (lenOf pd_20 rfl) rfl (by show 2 * 0 + _ ≤ _; exact Nat.le_of_eq rfl) (hb hby at_204) (fun _ _ => ⟨rfl, e60, (by decide : 24 + 0 ≤ _), (by decide : 86 + 0 ≤ _)⟩)
    dsimp only [Pt.U, Pt.locs, Pt.cells, Pt.slots] at X61 l61 y61 z61 st61 hQ61
    subst y61 z61
    obtain ⟨rfl, Nq61, e61⟩ := hQ61
    have N61 : Fr n0 L61 := by rw [l61]; exact Fr.app N60 Nq61
    refine Gl.go (fun _ k => st61.trans k) ?_
    show Gl _ _ _ _ (T61.setTop (mkF m 207 #[.val (.int w0), .val (.int w1), .val (.int w2), .val (.int w3), .val (.int w4), .val (.int w5), .val (.int (3 : Int32)), .val (.ref x1), .val (.ref x2), .val (.ref x3), .val (.ref b4), .val (.ref b46), .val (.ref b48), .val (.ref b52), .val (.int cm), .val (.ref (if cm = (0 : Int32) then x1 else (if cm = (1 : Int32) then x2 else x3))), .val (.ref x3), .val (.int (1 : Int32)), .unset, .unset] [(.int (1 : Int32))]))
    refine Gl.go (fun _ k => XS.istore X61.here hx rfl (hb hby at_207) rfl (l' := #[.val (.int w0), .val (.int w1), .val (.int w2), .val (.int w3), .val (.int w4), .val (.int w5), .val (.int (3 : Int32)), .val (.ref x1), .val (.ref x2), .val (.ref x3), .val (.ref b4), .val (.ref b46), .val (.ref b48), .val (.ref b52), .val (.int cm), .val (.ref (if cm = (0 : Int32) then x1 else (if cm = (1 : Int32) then x2 else x3))), .val (.ref x3), .val (.int (1 : Int32)), .val (.int (1 : Int32)), .unset]) rfl k) ?_
    refine Gl.go (fun _ k => XS.aload X61.here hx rfl (hb hby at_209) rfl rfl  k) ?_
    refine Gl.go (fun _ k => XS.iload X61.here hx rfl (hb hby at_211) rfl  k) ?_
    refine Gl.go (fun _ k => XS.iconst X61.here hx rfl (hb hby at_213) k) ?_
    show Gl _ _ _ _ (T61.setTop (mkF m 214 #[.val (.int w0), .val (.int w1), .val (.int w2), .val (.int w3), .val (.int w4), .val (.int w5), .val (.int (3 : Int32)), .val (.ref x1), .val (.ref x2), .val (.ref x3), .val (.ref b4), .val (.ref b46), .val (.ref b48), .val (.ref b52), .val (.int cm), .val (.ref (if cm = (0 : Int32) then x1 else (if cm = (1 : Int32) then x2 else x3))), .val (.ref x3), .val (.int (1 : Int32)), .val (.int (1 : Int32)), .unset] [(.int (1 : Int32)), (.int (3 : Int32)), (.ref b52)]))
    refine Gl.go (fun _ k => XS.isub X61.here hx rfl (hb hby at_214) rfl k) ?_
    show Gl _ _ _ _ (T61.setTop (mkF m 215 #[.val (.int w0), .val (.int w1), .val (.int w2), .val (.int w3), .val (.int w4), .val (.int w5), .val (.int (3 : Int32)), .val (.ref x1), .val (.ref x2), .val (.ref x3), .val (.ref b4), .val (.ref b46), .val (.ref b48), .val (.ref b52), .val (.int cm), .val (.ref (if cm = (0 : Int32) then x1 else (if cm = (1 : Int32) then x2 else x3))), .val (.ref x3), .val (.int (1 : Int32)), .val (.int (1 : Int32)), .unset] [(.int ((3 : Int32) - (1 : Int32))), (.ref b52)]))
    rw [(by decide : ((3 : Int32) - (1 : Int32)) = (2 : Int32))]
    show Gl _ _ _ _ (T61.setTop (mkF m 215 #[.val (.int w0), .val (.int w1), .val (.int w2), .val (.int w3), .val (.int w4), .val (.int w5), .val (.int (3 : Int32)), .val (.ref x1), .val (.ref x2), .val (.ref x3), .val (.ref b4), .val (.ref b46), .val (.ref b48), .val (.ref b52), .val (.int cm), .val (.ref (if cm = (0 : Int32) then x1 else (if cm = (1 : Int32) then x2 else x3))), .val (.ref x3), .val (.int (1 : Int32)), .val (.int (1 : Int32)), .unset] [(.int (2 : Int32)), (.ref b52)]))
    obtain ⟨cq62, kq62, q62a, q62b, q62c⟩ := isOf (s := s.setVm T53.vm) hZ e61 Eg54
    obtain ⟨_, _, ⟨T62, L62, k62, n62⟩, -, X62, ⟨Lc62, hQ62, l62, y62, z62⟩, st62⟩ := X61.virtualBack hx (y := (⟨"com/example/frosted_rows/frostedrows/release/PublishedGroup", "cell", "(I)Ljava/lang/String;"⟩ : MethodName)) (z := (⟨"com/example/frosted_rows/frostedrows/release/PublishedGroup", "cell", "(I)Ljava/lang/String;"⟩ : MethodName)) hown (mvT hZ (hw _ (List.mem_of_getElem? (i := 234) rfl))) (mvT hZ (hw _ (List.mem_of_getElem? (i := 235) rfl))) (notFace_of_selects (args := #[]) (mvT hZ (hw _ (List.mem_of_getElem? (i := 237) rfl)))) (mvT hZ (hw _ (List.mem_of_getElem? (i := 237) rfl))) (mvT hZ (hw _ (List.mem_of_getElem? (i := 236) rfl))) (by decide) (backOf (W := 0) (rm_cell_3 l Z a0 hw [] b52 (2 : Int32) o54 br54 kb54 x1 x2 x3 T54.heap n0 SZ54 (Or.inr (Or.inr rfl)) Fg54 Eo54 F054 Vo54 E_x1_54 E_x2_54 E_x3_54) hZ (hw _ (List.mem_of_getElem? (i := 238) rfl)) (hw _ (List.mem_of_getElem? (i := 92) rfl)) (by decide) (by decide)) q62a q62c (g := (mkF m 215 #[.val (.int w0), .val (.int w1), .val (.int w2), .val (.int w3), .val (.int w4), .val (.int w5), .val (.int (3 : Int32)), .val (.ref x1), .val (.ref x2), .val (.ref x3), .val (.ref b4), .val (.ref b46), .val (.ref b48), .val (.ref b52), .val (.int cm), .val (.ref (if cm = (0 : Int32) then x1 else (if cm = (1 : Int32) then x2 else x3))), .val (.ref x3), .val (.int (1 : Int32)), .val (.int (1 : Int32)), .unset] [(.int (2 : Int32)), (.ref b52)])) rfl (by rw [hml]; rfl) (Steps.refl _) (argsL := [(.int (2 : Int32))]) (rest := []) (lenOf pd_19 rfl) rfl (by show 2 * 0 + _ ≤ _; exact Nat.le_of_eq rfl) (hb hby at_215) (fun _ _ => ⟨rfl, e61, (by decide : 24 + 0 ≤ _), (by decide : 86 + 0 ≤ _)⟩)
    dsimp only [Pt.U, Pt.locs, Pt.cells, Pt.slots] at X62 l62 y62 z62 st62 hQ62
    subst y62 z62
    obtain ⟨rfl, Nq62, e62⟩ := hQ62
    have N62 : Fr n0 L62 := by rw [l62]; exact Fr.app N61 Nq62
    refine Gl.go (fun _ k => st62.trans k) ?_
    show Gl _ _ _ _ (T62.setTop (mkF m 218 #[.val (.int w0), .val (.int w1), .val (.int w2), .val (.int w3), .val (.int w4), .val (.int w5), .val (.int (3 : Int32)), .val (.ref x1), .val (.ref x2), .val (.ref x3), .val (.ref b4), .val (.ref b46), .val (.ref b48), .val (.ref b52), .val (.int cm), .val (.ref (if cm = (0 : Int32) then x1 else (if cm = (1 : Int32) then x2 else x3))), .val (.ref x3), .val (.int (1 : Int32)), .val (.int (1 : Int32)), .unset] [(.ref (if (2 : Int32) = (0 : Int32) then x1 else (if (2 : Int32) = (1 : Int32) then x2 else x3)))]))
    rw [((by rw [if_neg (by decide), if_neg (by decide)]) : (if (2 : Int32) = (0 : Int32) then x1 else (if (2 : Int32) = (1 : Int32) then x2 else x3)) = x3)]
    show Gl _ _ _ _ (T62.setTop (mkF m 218 #[.val (.int w0), .val (.int w1), .val (.int w2), .val (.int w3), .val (.int w4), .val (.int w5), .val (.int (3 : Int32)), .val (.ref x1), .val (.ref x2), .val (.ref x3), .val (.ref b4), .val (.ref b46), .val (.ref b48), .val (.ref b52), .val (.int cm), .val (.ref (if cm = (0 : Int32) then x1 else (if cm = (1 : Int32) then x2 else x3))), .val (.ref x3), .val (.int (1 : Int32)), .val (.int (1 : Int32)), .unset] [(.ref x3)]))
    refine Gl.go (fun _ k => XS.aload X62.here hx rfl (hb hby at_218) rfl rfl  k) ?_
    obtain ⟨cq63, kq63, q63a, q63b, q63c⟩ := isOf (s := s.setVm T53.vm) hZ e62 E_x3_54
    obtain ⟨_, _, ⟨T63, L63, k63, n63⟩, -, X63, ⟨Lc63, hQ63, l63, y63, z63⟩, st63⟩ := X62.virtualBack hx (y := (⟨"java/lang/String", "equals", "(Ljava/lang/Object;)Z"⟩ : MethodName)) (z := (⟨"java/lang/String", "equals", "(Ljava/lang/Object;)Z"⟩ : MethodName)) hown (mvT hZ (hw _ (List.mem_of_getElem? (i := 249) rfl))) (mvT hZ (hw _ (List.mem_of_getElem? (i := 250) rfl))) (notFace_of_selects (args := #[]) (mvT hZ (hw _ (List.mem_of_getElem? (i := 252) rfl)))) (mvT hZ (hw _ (List.mem_of_getElem? (i := 252) rfl))) (mvT hZ (hw _ (List.mem_of_getElem? (i := 251) rfl))) (by decide) (backOf (W := 0) (rm_eqs l Z a0 hw [] x3 T54.heap n0 SZ54 ) hZ (hw _ (List.mem_of_getElem? (i := 253) rfl)) (hw _ (List.mem_of_getElem? (i := 6) rfl)) (by decide) (by decide)) q63a q63c (g := (mkF m 220 #[.val (.int w0), .val (.int w1), .val (.int w2), .val (.int w3), .val (.int w4), .val (.int w5), .val (.int (3 : Int32)), .val (.ref x1), .val (.ref x2), .val (.ref x3), .val (.ref b4), .val (.ref b46), .val (.ref b48), .val (.ref b52), .val (.int cm), .val (.ref (if cm = (0 : Int32) then x1 else (if cm = (1 : Int32) then x2 else x3))), .val (.ref x3), .val (.int (1 : Int32)), .val (.int (1 : Int32)), .unset] [(.ref x3), (.ref x3)])) rfl (by rw [hml]; rfl) (Steps.refl _) (argsL := [(.ref x3)]) (rest := []) (lenOf pd_20 rfl) rfl (by show 2 * 0 + _ ≤ _; exact Nat.le_of_eq rfl) (hb hby at_220) (fun _ _ => ⟨rfl, e62, (by decide : 24 + 0 ≤ _), (by decide : 86 + 0 ≤ _)⟩)
    dsimp only [Pt.U, Pt.locs, Pt.cells, Pt.slots] at X63 l63 y63 z63 st63 hQ63
    subst y63 z63
    obtain ⟨rfl, Nq63, e63⟩ := hQ63
    have N63 : Fr n0 L63 := by rw [l63]; exact Fr.app N62 Nq63
    refine Gl.go (fun _ k => st63.trans k) ?_
    show Gl _ _ _ _ (T63.setTop (mkF m 223 #[.val (.int w0), .val (.int w1), .val (.int w2), .val (.int w3), .val (.int w4), .val (.int w5), .val (.int (3 : Int32)), .val (.ref x1), .val (.ref x2), .val (.ref x3), .val (.ref b4), .val (.ref b46), .val (.ref b48), .val (.ref b52), .val (.int cm), .val (.ref (if cm = (0 : Int32) then x1 else (if cm = (1 : Int32) then x2 else x3))), .val (.ref x3), .val (.int (1 : Int32)), .val (.int (1 : Int32)), .unset] [(.int (1 : Int32))]))
    refine Gl.go (fun _ k => XS.istore X63.here hx rfl (hb hby at_223) rfl (l' := #[.val (.int w0), .val (.int w1), .val (.int w2), .val (.int w3), .val (.int w4), .val (.int w5), .val (.int (3 : Int32)), .val (.ref x1), .val (.ref x2), .val (.ref x3), .val (.ref b4), .val (.ref b46), .val (.ref b48), .val (.ref b52), .val (.int cm), .val (.ref (if cm = (0 : Int32) then x1 else (if cm = (1 : Int32) then x2 else x3))), .val (.ref x3), .val (.int (1 : Int32)), .val (.int (1 : Int32)), .val (.int (1 : Int32))]) rfl k) ?_
    refine Gl.go (fun _ k => XS.iload X63.here hx rfl (hb hby at_225) rfl  k) ?_
    refine Gl.go (fun _ k => XS.ifNo X63.here hx rfl (hb hby at_227) rfl ((if0 _ _).trans (feq (by decide)).1) k) ?_
    show Gl _ _ _ _ (T63.setTop (mkF m 230 #[.val (.int w0), .val (.int w1), .val (.int w2), .val (.int w3), .val (.int w4), .val (.int w5), .val (.int (3 : Int32)), .val (.ref x1), .val (.ref x2), .val (.ref x3), .val (.ref b4), .val (.ref b46), .val (.ref b48), .val (.ref b52), .val (.int cm), .val (.ref (if cm = (0 : Int32) then x1 else (if cm = (1 : Int32) then x2 else x3))), .val (.ref x3), .val (.int (1 : Int32)), .val (.int (1 : Int32)), .val (.int (1 : Int32))] []))
    refine Gl.go (fun _ k => XS.iload X63.here hx rfl (hb hby at_230) rfl  k) ?_
    refine Gl.go (fun _ k => XS.ifNo X63.here hx rfl (hb hby at_232) rfl ((if0 _ _).trans (feq (by decide)).1) k) ?_
    show Gl _ _ _ _ (T63.setTop (mkF m 235 #[.val (.int w0), .val (.int w1), .val (.int w2), .val (.int w3), .val (.int w4), .val (.int w5), .val (.int (3 : Int32)), .val (.ref x1), .val (.ref x2), .val (.ref x3), .val (.ref b4), .val (.ref b46), .val (.ref b48), .val (.ref b52), .val (.int cm), .val (.ref (if cm = (0 : Int32) then x1 else (if cm = (1 : Int32) then x2 else x3))), .val (.ref x3), .val (.int (1 : Int32)), .val (.int (1 : Int32)), .val (.int (1 : Int32))] []))
    refine Gl.go (fun _ k => XS.iload X63.here hx rfl (hb hby at_235) rfl  k) ?_
    refine Gl.go (fun _ k => XS.ifNo X63.here hx rfl (hb hby at_237) rfl ((if0 _ _).trans (feq (by decide)).1) k) ?_
    show Gl _ _ _ _ (T63.setTop (mkF m 240 #[.val (.int w0), .val (.int w1), .val (.int w2), .val (.int w3), .val (.int w4), .val (.int w5), .val (.int (3 : Int32)), .val (.ref x1), .val (.ref x2), .val (.ref x3), .val (.ref b4), .val (.ref b46), .val (.ref b48), .val (.ref b52), .val (.int cm), .val (.ref (if cm = (0 : Int32) then x1 else (if cm = (1 : Int32) then x2 else x3))), .val (.ref x3), .val (.int (1 : Int32)), .val (.int (1 : Int32)), .val (.int (1 : Int32))] []))
    refine Gl.go (fun _ k => XS.iconst X63.here hx rfl (hb hby at_240) k) ?_
    refine Gl.go (fun _ k => XS.goto X63.here hx rfl (pc0 := 241) (pc' := 245) rfl (hb hby at_241) (by decide) (by decide) k) ?_
    refine leafWN X63 hS (by rw [e63]; exact hk) hx hlk (t := .boolean) Bd.returns (by simp) (hb hby at_245) (by rw [e63]; exact (CR54.trans (CHv.at X63 hZ hEL CR54.1))) hh ?_ (by decide) (by decide)
    exact ⟨rfl, N63⟩
set_option maxRecDepth 65536 in
set_option maxHeartbeats 40000000 in
theorem comes_1 {Post : Tables → Env → Array Value → State → Outcome → State → Prop} (hpost : ∀ tb e args s v u, (limb_1_1.after args s (.returned v) u = true ∧ limb_1_2.after args s (.returned v) u = true ∧ True) → ReturnedEndW s (.returned v) u (Jvm.fieldLocs frame_1_writes args s ++ Jvm.arrayLocs frame_1_arrays args s ++ Jvm.staticLocs frame_1_statics s) 56 1280 → Post tb e args s (.returned v) u) :
    ArmFor flags0 classFile x code maxLocals ret World_1 tables_1 room_1 Calls_1 rest_1 Pre_1 Post := by
  intro l hfl _ _ p e ha hc hk s m args below hf hA hF happ hP
  obtain ⟨hcalls, hrest, hpre⟩ := hP
  obtain ⟨-, -, -, hnamed, -, -, -, hat⟩ := (Spec.applies_iff hf).mp happ
  obtain ⟨hg, hn⟩ := and_e (Cond.before_iff.mp (show (Jvm.Cond.and given_1 narrow_1).before args s = true from hpre))
  obtain ⟨hcount, hg0⟩ := and_e hg
  obtain ⟨hk0, hg1⟩ := and_e hg0
  obtain ⟨hk1, hg2⟩ := and_e hg1
  obtain ⟨hk2, hg3⟩ := and_e hg2
  obtain ⟨hk3, hg4⟩ := and_e hg3
  obtain ⟨hk4, hg5⟩ := and_e hg4
  have hk5 := hg5
  obtain ⟨w0, w1, w2, w3, w4, w5, rfl⟩ : ∃ w0 w1 w2 w3 w4 w5 : Value, args = #[w0, w1, w2, w3, w4, w5] := by
    have hs : args.size = 6 := by simpa [Cond.value, given_1] using hcount
    obtain ⟨L⟩ := args
    match L, hs with
    | [w0, w1, w2, w3, w4, w5], _ => exact ⟨w0, w1, w2, w3, w4, w5, rfl⟩
  have hw := fun d (hd : d ∈ tables_1) => atoms_spec (ws := Jvm.Cond.code x code maxLocals ret :: tables_1) hat d (List.mem_cons_of_mem _ hd)
  obtain ⟨hsets, hown0⟩ := atoms_of _ (rest_1_c_eq ▸ (show rest_1_c.before _ s = true from hrest))
  have hfit : Fit s := fun {y c} hc i hi => by
    obtain ⟨ha, rfl⟩ := Array.getElem?_eq_some_iff.mp hc
    have q := List.all_eq_true.mp ((Array.all_eq_true_iff_forall_mem.mp hF) _ (Array.getElem_mem ha)) i (List.mem_range.mpr hi)
    simpa [Array.getElem?_eq_getElem hi] using q
  obtain ⟨i0, ei0⟩ := is_v hk0
  obtain rfl : w0 = (.int i0) := Option.some.inj ei0
  obtain ⟨i1, ei1⟩ := is_v hk1
  obtain rfl : w1 = (.int i1) := Option.some.inj ei1
  obtain ⟨i2, ei2⟩ := is_v hk2
  obtain rfl : w2 = (.int i2) := Option.some.inj ei2
  obtain ⟨i3, ei3⟩ := is_v hk3
  obtain rfl : w3 = (.int i3) := Option.some.inj ei3
  obtain ⟨i4, ei4⟩ := is_v hk4
  obtain rfl : w4 = (.int i4) := Option.some.inj ei4
  obtain ⟨i5, ei5⟩ := is_v hk5
  obtain rfl : w5 = (.int i5) := Option.some.inj ei5
  have n5 := not_v (Cond.before_iff.mp (hsets _ (List.mem_of_getElem? (i := 2) rfl)))
  obtain ⟨i11, e10⟩ := is_v (Cond.before_iff.mp (hsets _ (List.mem_of_getElem? (i := 1) rfl)))
  have S12 : Sta s s.heap "java/lang/String" "COMPACT_STRINGS" "Z" (.int i11) := Sta.start e10 (Or.inl (hsets _ (List.mem_of_getElem? (i := 0) rfl)))
  have c17 : ¬ (i11 = (0 : Int32)) := gotF (Cond.eq_ints e10 (Term.int_eval (0))) n5
  have hSA : ∀ d ∈ Bundle.stringAtoms, d.before _ s = true := fun d hd => hw d ((by decide +kernel : ∀ d ∈ Bundle.stringAtoms, d ∈ tables_1) d hd)
  have hEL : ∀ y : Array Value, EW s y elL := fun _ => EW.nil
  have hCH : CHv s elL s.vm s.heap := fun p hp => nomatch hp
  obtain ⟨dE, evD⟩ := exa_v (Cond.before_iff.mp (hsets _ (List.mem_of_getElem? (i := 16) rfl)))
  have SD : Sta s s.heap "java/util/ArrayList" "DEFAULTCAPACITY_EMPTY_ELEMENTDATA" "[Ljava/lang/Object;" (.ref dE) := Sta.start evD (Or.inr ⟨(hw _ (List.mem_of_getElem? (i := 36) rfl)), hsets _ (List.mem_of_getElem? (i := 11) rfl)⟩)
  obtain ⟨cl, Ar⟩ := Arr.start evD (Cond.before_iff.mp (hsets _ (List.mem_of_getElem? (i := 15) rfl)))
  obtain ⟨l1, l2⟩ := arr_len evD Ar (Cond.before_iff.mp (hsets _ (List.mem_of_getElem? (i := 17) rfl)))
  have VD := Arv.start (vs := []) (dv := .null) hfit Ar l1 l2 (by decide) rfl trivial
  obtain ⟨eM, evE⟩ := exa_v (Cond.before_iff.mp (hsets _ (List.mem_of_getElem? (i := 20) rfl)))
  have SE : Sta s s.heap "java/util/ImmutableCollections" "EMPTY" "Ljava/lang/Object;" (.ref eM) := Sta.start evE (Or.inl (hsets _ (List.mem_of_getElem? (i := 19) rfl)))
  have EM : Exa s s.heap eM "java/lang/Object" := Exa.start evE (Cond.before_iff.mp (hsets _ (List.mem_of_getElem? (i := 20) rfl)))
  obtain ⟨c1, c2, c3, c4, -⟩ := hcalls
  obtain ⟨mO, MO⟩ : ∃ mm, Mr s "[Ljava/lang/Object;" mm := by
    obtain ⟨cc, k, mm, h1, h2, h3⟩ := c1
    first
      | exact ⟨mm, cc, k, h1, h2, h3⟩
      | exact ⟨mm, cc, k, h1, h2, h3.1⟩
  obtain ⟨mA, MA⟩ : ∃ mm, Mr s "java/util/ArrayList" mm := by
    obtain ⟨cc, k, mm, h1, h2, h3⟩ := c2
    first
      | exact ⟨mm, cc, k, h1, h2, h3⟩
      | exact ⟨mm, cc, k, h1, h2, h3.1⟩
  obtain ⟨mL, ML⟩ : ∃ mm, Mr s "java/util/Collections$UnmodifiableList" mm := by
    obtain ⟨cc, k, mm, h1, h2, h3⟩ := c3
    first
      | exact ⟨mm, cc, k, h1, h2, h3⟩
      | exact ⟨mm, cc, k, h1, h2, h3.1⟩
  obtain ⟨mR, MR⟩ : ∃ mm, Mr s "java/util/Collections$UnmodifiableRandomAccessList" mm := by
    obtain ⟨cc, k, mm, h1, h2, h3⟩ := c4
    first
      | exact ⟨mm, cc, k, h1, h2, h3⟩
      | exact ⟨mm, cc, k, h1, h2, h3.1⟩
  obtain ⟨n, o, h1, h2, h3, _, L, rfl, ⟨rfl, N⟩, -, hq⟩ := rm_law l s _ hw tables_1 i0 i1 i2 i3 i4 i5 i11 dE eM mO mA mL mR cl.cls s.heap s.heap.size (Nat.le_refl _) (hEL _) hSA S12 c17 (Old.start s) SD VD SE EM MO MA ML MR p e ha hc hk s m _ below hf ((Spec.applies_iff_loose hf).mp happ).1 ⟨rfl, State.Warmed39.refl s, rfl, hCH⟩ trivial
  refine ⟨n, _, h1, h2, h3, hpost _ _ _ _ _ _ ⟨Cond.after_iff.mpr rfl, Cond.after_iff.mpr (eq_i res_at (Term.int_eval (1)) rfl), trivial⟩ ⟨hq.1, hq.2.1, hq.2.2.1, (hq.2.2.2.sift fun y hy => Or.inr (N y hy)).mono (by decide) (by decide)⟩⟩
theorem main_1_1 : Claimed_1_1 := comes_1 fun _ _ _ _ _ _ h hF => ⟨h.1, hF⟩
theorem main_1_2 : Claimed_1_2 := comes_1 fun _ _ _ _ _ _ h hF => ⟨h.2.1, hF⟩
end Jvm.Pilot.@@N@@
namespace Jvm.Pilot.@@N@@
open Jvm Jvm.ClassFile Sem Op Lib Jvm.Free Jvm.Stand Jvm.Pilot.@@N@@.Jvm.D
/-! MADE BY PROGRAM (witnessworld.py) out of the Statement's table words and the real class files: 43 classes; the members and pool entries that the words name. The judged class is class 1, her method 2. -/
namespace start1
open Jvm.ClassFile
def u (s : String) : CpInfo := .utf8 (stringToUtf16 s)
/-- a pool by its gaps: so many unusable entries, then the entry; so many at the end -/
def gap : Nat → List CpInfo → List CpInfo
  | 0, r => r
  | n + 1, r => .unusable :: gap n r
def poolList (es : List (Nat × CpInfo)) (last : Nat) : List CpInfo := es.foldr (fun e r => gap e.1 (e.2 :: r)) (gap last [])
def pool (es : List (Nat × CpInfo)) (last : Nat) : Array CpInfo := ⟨poolList es last⟩
def fileOf (pool : Array CpInfo) (this : Nat) (attrs : Array Attribute := #[]) (ms : Array MethodInfo := #[]) (fl : Nat := 33) (sup : Nat := 0) (ifs : Array Nat := #[]) (fds : Array FieldInfo := #[]) : ClassFile where
  minorVersion := 0
  majorVersion := 65
  constantPool := pool
  accessFlags := fl
  thisClass := this
  superClass := sup
  interfaces := ifs
  fields := fds
  methods := ms
  attributes := attrs
def plain (name : String) (sup : Option ClassId) : Class where
  name := name
  kind := .ordinary
  loader := none
  accessFlags := 33
  super := sup
  interfaces := #[]
  cf := none
  fields := #[]
  methods := #[]
  instanceTypes := #[]
  staticTypes := #[]
  resolved := #[]
  callSites := []
  init := .initialized
  statics := none
  mirror := none

def pool0 : Array CpInfo := pool [(5, u "<init>"), (0, u "()V"), (1, .class_ 10), (1, u "java/lang/Object"), (0, u "getClass"), (0, u "()Ljava/lang/Class;")] 111

def k0c0 : Code := { maxStack := 0, maxLocals := 1, code := object_method_1_code, exceptionTable := #[], attributes := #[] }
def k0m0 : Method := { name := "<init>", desc := "()V", sig := { parameters := [], returnType := none }, accessFlags := 1, code := some k0c0 }
def k0m1 : Method := { name := "getClass", desc := "()Ljava/lang/Class;", sig := { parameters := [], returnType := some (.object "java/lang/Class") }, accessFlags := 273, code := none }
/-- java/lang/Object -/
def k0 : Class := { plain "java/lang/Object" none with
  accessFlags := 33
  interfaces := #[]
  cf := some (fileOf pool0 8 #[] #[{ accessFlags := 1, nameIndex := 5, descriptorIndex := 6, attributes := #[] }, { accessFlags := 273, nameIndex := 11, descriptorIndex := 12, attributes := #[] }] 33 0 #[] #[])
  fields := #[]
  methods := #[k0m0, k0m1]
  instanceTypes := #[]
  staticTypes := #[]
  resolved := Array.replicate 124 none
  statics := none }

def pool1 : Array CpInfo := pool [(2, .class_ 4), (0, .nameAndType 5 6), (0, u "java/lang/Object"), (0, u "<init>"), (0, u "()V"), (0, .class_ 8), (0, u "java/lang/String"), (0, .methodref 7 10), (0, .nameAndType 5 11), (0, u "([C)V"), (0, .methodref 13 14), (0, .class_ 15), (0, .nameAndType 16 17), (0, u "com/example/frosted_rows/frostedrows/release/PublishedGroupCellPinLaw"), (0, u "str"), (0, u "(I)Ljava/lang/String;"), (0, .class_ 19), (0, u "java/util/ArrayList"), (0, .methodref 18 3), (0, .methodref 18 22), (0, .nameAndType 23 24), (0, u "add"), (0, u "(Ljava/lang/Object;)Z"), (0, .class_ 26), (0, u "com/example/frosted_rows/frostedrows/release/PublishedGroup"), (0, .string 28), (0, u "1"), (0, .methodref 25 30), (0, .nameAndType 5 31), (0, u "(Ljava/lang/String;Ljava/util/List;[ILjava/util/List;)V"), (0, .integer 2147483647), (0, .methodref 25 34), (0, .nameAndType 35 17), (0, u "cell"), (0, .methodref 7 37), (0, .nameAndType 38 24), (0, u "equals"), (3, u "law"), (0, u "(IIIIII)Z")] 4

def k1m0 : Method := { name := "<init>", desc := "()V", sig := { parameters := [], returnType := none }, accessFlags := 1, code := none }
def k1c1 : Code := { maxStack := 6, maxLocals := 3, code := method_2_code, exceptionTable := #[], attributes := #[] }
def k1m1 : Method := { name := "str", desc := "(I)Ljava/lang/String;", sig := { parameters := [.int], returnType := some (.object "java/lang/String") }, accessFlags := 10, code := some k1c1 }
def k1c2 : Code := { maxStack := 6, maxLocals := 20, code := code, exceptionTable := #[], attributes := #[] }
def k1m2 : Method := { name := "law", desc := "(IIIIII)Z", sig := { parameters := [.int, .int, .int, .int, .int, .int], returnType := some .boolean }, accessFlags := 9, code := some k1c2 }
/-- com/example/frosted_rows/frostedrows/release/PublishedGroupCellPinLaw -/
def k1 : Class := { plain "com/example/frosted_rows/frostedrows/release/PublishedGroupCellPinLaw" (some 0) with
  accessFlags := 49
  interfaces := #[]
  cf := some (fileOf pool1 13 #[] #[{ accessFlags := 1, nameIndex := 5, descriptorIndex := 6, attributes := #[] }, { accessFlags := 10, nameIndex := 16, descriptorIndex := 17, attributes := #[] }, { accessFlags := 9, nameIndex := 42, descriptorIndex := 43, attributes := #[] }] 49 2 #[] #[])
  fields := #[]
  methods := #[k1m0, k1m1, k1m2]
  instanceTypes := #[]
  staticTypes := #[]
  resolved := Array.replicate 48 none
  statics := none }

def pool2 : Array CpInfo := pool [(1, .class_ 2), (0, u "java/io/Serializable"), (0, .class_ 4), (0, u "java/lang/Object")] 2

/-- java/io/Serializable -/
def k2 : Class := { plain "java/io/Serializable" (some 0) with
  accessFlags := 1537
  interfaces := #[]
  cf := some (fileOf pool2 1 #[] #[] 1537 3 #[] #[])
  fields := #[]
  methods := #[]
  instanceTypes := #[]
  staticTypes := #[]
  resolved := Array.replicate 7 none
  statics := none }

def pool3 : Array CpInfo := pool [(1, .class_ 2), (0, u "java/lang/Comparable"), (0, .class_ 4), (0, u "java/lang/Object")] 7

/-- java/lang/Comparable -/
def k3 : Class := { plain "java/lang/Comparable" (some 0) with
  accessFlags := 1537
  interfaces := #[]
  cf := some (fileOf pool3 1 #[] #[] 1537 3 #[] #[])
  fields := #[]
  methods := #[]
  instanceTypes := #[]
  staticTypes := #[]
  resolved := Array.replicate 12 none
  statics := none }

def pool4 : Array CpInfo := pool [(2, .class_ 4), (1, u "java/lang/CharSequence"), (42, .class_ 48), (0, u "java/lang/CharSequence$1CodePointIterator"), (10, .class_ 60), (0, u "java/lang/CharSequence$1CharIterator"), (5, .class_ 67), (0, u "java/lang/Object")] 63

/-- java/lang/CharSequence -/
def k4 : Class := { plain "java/lang/CharSequence" (some 0) with
  accessFlags := 1537
  interfaces := #[]
  cf := some (fileOf pool4 2 #[.nestMembers #[47, 59]] #[] 1537 66 #[] #[])
  fields := #[]
  methods := #[]
  instanceTypes := #[]
  staticTypes := #[]
  resolved := Array.replicate 131 none
  statics := none }

def pool5 : Array CpInfo := pool [(1, .class_ 2), (0, u "java/lang/constant/Constable"), (0, .class_ 4), (0, u "java/lang/Object")] 6

/-- java/lang/constant/Constable -/
def k5 : Class := { plain "java/lang/constant/Constable" (some 0) with
  accessFlags := 1537
  interfaces := #[]
  cf := some (fileOf pool5 1 #[] #[] 1537 3 #[] #[])
  fields := #[]
  methods := #[]
  instanceTypes := #[]
  staticTypes := #[]
  resolved := Array.replicate 11 none
  statics := none }

def pool6 : Array CpInfo := pool [(1, .class_ 2), (0, u "java/lang/constant/ConstantDesc"), (0, .class_ 4), (0, u "java/lang/Object")] 32

/-- java/lang/constant/ConstantDesc -/
def k6 : Class := { plain "java/lang/constant/ConstantDesc" (some 0) with
  accessFlags := 1537
  interfaces := #[]
  cf := some (fileOf pool6 1 #[] #[] 1537 3 #[] #[])
  fields := #[]
  methods := #[]
  instanceTypes := #[]
  staticTypes := #[]
  resolved := Array.replicate 37 none
  statics := none }

def pool7 : Array CpInfo := pool [(1, .methodref 2 3), (0, .class_ 4), (0, .nameAndType 5 6), (0, u "java/lang/Object"), (0, u "<init>"), (0, u "()V"), (2, .fieldref 10 11), (0, .class_ 12), (0, .nameAndType 13 14), (0, u "java/lang/String"), (0, u "value"), (0, u "[B"), (0, .fieldref 10 16), (0, .nameAndType 17 18), (0, u "coder"), (0, u "B"), (2, u "hash"), (0, u "I"), (2, u "hashIsZero"), (0, u "Z"), (0, .methodref 10 28), (0, .nameAndType 5 29), (0, u "([CIILjava/lang/Void;)V"), (8, .fieldref 10 39), (0, .nameAndType 40 26), (0, u "COMPACT_STRINGS"), (1, .class_ 44), (1, u "java/lang/StringUTF16"), (0, u "compress"), (1, .methodref 42 48), (0, .nameAndType 49 50), (0, u "coderFromArrayLen"), (0, u "([BI)B"), (126, .methodref 42 178), (0, .nameAndType 45 179), (0, u "([CII)[B"), (363, u "equals"), (29, u "(Ljava/lang/Object;)Z"), (1, .class_ 576), (0, u "java/lang/CharSequence"), (22, u "CASE_INSENSITIVE_ORDER"), (0, u "Ljava/util/Comparator;"), (409, u "([C)V"), (90, u "serialPersistentFields"), (0, u "[Ljava/io/ObjectStreamField;"), (0, .class_ 1104), (0, u "java/lang/String$CaseInsensitiveComparator"), (1, .class_ 1107), (0, u "java/io/Serializable"), (0, .class_ 1109), (0, u "java/lang/Comparable"), (0, .class_ 1111), (0, u "java/lang/constant/Constable"), (0, .class_ 1113), (0, u "java/lang/constant/ConstantDesc"), (2, u "serialVersionUID"), (0, u "J"), (3, u "REPL"), (0, u "C"), (2, u "LATIN1"), (1, u "UTF16")] 323

def k7m0 : Method := { name := "<init>", desc := "()V", sig := { parameters := [], returnType := none }, accessFlags := 1, code := none }
def k7c1 : Code := { maxStack := 5, maxLocals := 2, code := jdk_42_method_3_code, exceptionTable := #[], attributes := #[] }
def k7m1 : Method := { name := "<init>", desc := "([C)V", sig := { parameters := [(.array .char)], returnType := none }, accessFlags := 1, code := some k7c1 }
def k7c2 : Code := { maxStack := 2, maxLocals := 3, code := jdk_42_method_66_code, exceptionTable := #[], attributes := #[] }
def k7m2 : Method := { name := "equals", desc := "(Ljava/lang/Object;)Z", sig := { parameters := [(.object "java/lang/Object")], returnType := some .boolean }, accessFlags := 1, code := some k7c2 }
def k7c3 : Code := { maxStack := 4, maxLocals := 6, code := jdk_42_method_149_code, exceptionTable := #[], attributes := #[] }
def k7m3 : Method := { name := "<init>", desc := "([CIILjava/lang/Void;)V", sig := { parameters := [(.array .char), .int, .int, (.object "java/lang/Void")], returnType := none }, accessFlags := 2, code := some k7c3 }
/-- java/lang/String -/
def k7 : Class := { plain "java/lang/String" (some 0) with
  accessFlags := 49
  interfaces := #[2, 3, 4, 5, 6]
  cf := some (fileOf pool7 10 #[.nestMembers #[1103]] #[{ accessFlags := 1, nameIndex := 5, descriptorIndex := 6, attributes := #[] }, { accessFlags := 1, nameIndex := 5, descriptorIndex := 1010, attributes := #[] }, { accessFlags := 1, nameIndex := 543, descriptorIndex := 573, attributes := #[] }, { accessFlags := 2, nameIndex := 5, descriptorIndex := 29, attributes := #[] }] 49 2 #[1106, 1108, 575, 1110, 1112] #[{ accessFlags := 18, nameIndex := 13, descriptorIndex := 14, attributes := #[] }, { accessFlags := 18, nameIndex := 17, descriptorIndex := 18, attributes := #[] }, { accessFlags := 2, nameIndex := 21, descriptorIndex := 22, attributes := #[] }, { accessFlags := 2, nameIndex := 25, descriptorIndex := 26, attributes := #[] }, { accessFlags := 26, nameIndex := 1116, descriptorIndex := 1117, attributes := #[] }, { accessFlags := 24, nameIndex := 40, descriptorIndex := 26, attributes := #[] }, { accessFlags := 26, nameIndex := 1101, descriptorIndex := 1102, attributes := #[] }, { accessFlags := 26, nameIndex := 1121, descriptorIndex := 1122, attributes := #[] }, { accessFlags := 25, nameIndex := 599, descriptorIndex := 600, attributes := #[] }, { accessFlags := 24, nameIndex := 1125, descriptorIndex := 18, attributes := #[] }, { accessFlags := 24, nameIndex := 1127, descriptorIndex := 18, attributes := #[] }])
  fields := #[{ name := "value", type := (.array .byte), accessFlags := 18, slot := 0, constantValue := 0 }, { name := "coder", type := .byte, accessFlags := 18, slot := 1, constantValue := 0 }, { name := "hash", type := .int, accessFlags := 2, slot := 2, constantValue := 0 }, { name := "hashIsZero", type := .boolean, accessFlags := 2, slot := 3, constantValue := 0 }, { name := "serialVersionUID", type := .long, accessFlags := 26, slot := 0, constantValue := 0 }, { name := "COMPACT_STRINGS", type := .boolean, accessFlags := 24, slot := 1, constantValue := 0 }, { name := "serialPersistentFields", type := (.array (.object "java/io/ObjectStreamField")), accessFlags := 26, slot := 2, constantValue := 0 }, { name := "REPL", type := .char, accessFlags := 26, slot := 3, constantValue := 0 }, { name := "CASE_INSENSITIVE_ORDER", type := (.object "java/util/Comparator"), accessFlags := 25, slot := 4, constantValue := 0 }, { name := "LATIN1", type := .byte, accessFlags := 24, slot := 5, constantValue := 0 }, { name := "UTF16", type := .byte, accessFlags := 24, slot := 6, constantValue := 0 }]
  methods := #[k7m0, k7m1, k7m2, k7m3]
  instanceTypes := #[(.array .byte), .byte, .int, .boolean]
  staticTypes := #[.long, .boolean, (.array (.object "java/io/ObjectStreamField")), .char, (.object "java/util/Comparator"), .byte, .byte]
  resolved := Array.replicate 1451 none
  statics := some 0 }

def pool8 : Array CpInfo := pool [(6, .class_ 8), (1, u "java/lang/Object"), (0, u "<init>"), (0, u "()V"), (1, .class_ 14), (1, u "java/lang/StringUTF16"), (31, u "$assertionsDisabled"), (0, u "Z"), (13, u "HI_BYTE_SHIFT"), (0, u "I"), (2, u "LO_BYTE_SHIFT"), (49, .methodref 12 116), (0, .nameAndType 117 118), (0, u "compress"), (0, u "([CI[BII)I"), (3, u "([CII)[B"), (138, u "coderFromArrayLen"), (0, u "([BI)B"), (106, .class_ 371), (1, u "java/lang/StringUTF16$LinesSpliterator"), (58, u "MAX_LENGTH"), (196, .class_ 628), (0, u "java/lang/StringUTF16$CodePointsSpliterator"), (0, .class_ 630), (0, u "java/lang/StringUTF16$CharsSpliterator")] 4

def k8m0 : Method := { name := "<init>", desc := "()V", sig := { parameters := [], returnType := none }, accessFlags := 0, code := none }
def k8c1 : Code := { maxStack := 2, maxLocals := 2, code := jdk_52_method_15_code, exceptionTable := #[], attributes := #[] }
def k8m1 : Method := { name := "coderFromArrayLen", desc := "([BI)B", sig := { parameters := [(.array .byte), .int], returnType := some .byte }, accessFlags := 8, code := some k8c1 }
def k8c2 : Code := { maxStack := 5, maxLocals := 6, code := jdk_52_method_16_code, exceptionTable := #[], attributes := #[] }
def k8m2 : Method := { name := "compress", desc := "([CII)[B", sig := { parameters := [(.array .char), .int, .int], returnType := some (.array .byte) }, accessFlags := 9, code := some k8c2 }
def k8c3 : Code := { maxStack := 3, maxLocals := 7, code := jdk_52_method_21_code, exceptionTable := #[], attributes := #[] }
def k8m3 : Method := { name := "compress", desc := "([CI[BII)I", sig := { parameters := [(.array .char), .int, (.array .byte), .int, .int], returnType := some .int }, accessFlags := 9, code := some k8c3 }
/-- java/lang/StringUTF16 -/
def k8 : Class := { plain "java/lang/StringUTF16" (some 0) with
  accessFlags := 48
  interfaces := #[]
  cf := some (fileOf pool8 12 #[.nestMembers #[627, 629, 369]] #[{ accessFlags := 0, nameIndex := 9, descriptorIndex := 10, attributes := #[] }, { accessFlags := 8, nameIndex := 261, descriptorIndex := 262, attributes := #[] }, { accessFlags := 9, nameIndex := 117, descriptorIndex := 122, attributes := #[] }, { accessFlags := 9, nameIndex := 117, descriptorIndex := 118, attributes := #[] }] 48 6 #[] #[{ accessFlags := 26, nameIndex := 61, descriptorIndex := 62, attributes := #[] }, { accessFlags := 26, nameIndex := 65, descriptorIndex := 62, attributes := #[] }, { accessFlags := 24, nameIndex := 430, descriptorIndex := 62, attributes := #[] }, { accessFlags := 4120, nameIndex := 46, descriptorIndex := 47, attributes := #[] }])
  fields := #[{ name := "HI_BYTE_SHIFT", type := .int, accessFlags := 26, slot := 0, constantValue := 0 }, { name := "LO_BYTE_SHIFT", type := .int, accessFlags := 26, slot := 1, constantValue := 0 }, { name := "MAX_LENGTH", type := .int, accessFlags := 24, slot := 2, constantValue := 0 }, { name := "$assertionsDisabled", type := .boolean, accessFlags := 4120, slot := 3, constantValue := 0 }]
  methods := #[k8m0, k8m1, k8m2, k8m3]
  instanceTypes := #[]
  staticTypes := #[.int, .int, .int, .boolean]
  resolved := Array.replicate 635 none
  statics := none }

def pool9 : Array CpInfo := pool [(8, .class_ 10), (1, u "java/lang/Iterable"), (24, .class_ 36), (0, u "java/lang/Object")] 25

/-- java/lang/Iterable -/
def k9 : Class := { plain "java/lang/Iterable" (some 0) with
  accessFlags := 1537
  interfaces := #[]
  cf := some (fileOf pool9 8 #[] #[] 1537 35 #[] #[])
  fields := #[]
  methods := #[]
  instanceTypes := #[]
  staticTypes := #[]
  resolved := Array.replicate 62 none
  statics := none }

def pool10 : Array CpInfo := pool [(10, .class_ 12), (1, u "java/util/Collection"), (0, u "toArray"), (16, u "()Z"), (29, .class_ 61), (0, u "java/lang/Object"), (0, .class_ 63), (0, u "java/lang/Iterable"), (2, u "isEmpty"), (3, u "()[Ljava/lang/Object;")] 44

def k10m0 : Method := { name := "isEmpty", desc := "()Z", sig := { parameters := [], returnType := some .boolean }, accessFlags := 1025, code := none }
def k10m1 : Method := { name := "toArray", desc := "()[Ljava/lang/Object;", sig := { parameters := [], returnType := some (.array (.object "java/lang/Object")) }, accessFlags := 1025, code := none }
/-- java/util/Collection -/
def k10 : Class := { plain "java/util/Collection" (some 0) with
  accessFlags := 1537
  interfaces := #[9]
  cf := some (fileOf pool10 10 #[] #[{ accessFlags := 1025, nameIndex := 66, descriptorIndex := 30, attributes := #[] }, { accessFlags := 1025, nameIndex := 13, descriptorIndex := 70, attributes := #[] }] 1537 60 #[62] #[])
  fields := #[]
  methods := #[k10m0, k10m1]
  instanceTypes := #[]
  staticTypes := #[]
  resolved := Array.replicate 115 none
  statics := none }

def pool11 : Array CpInfo := pool [(1, .methodref 2 3), (0, .class_ 4), (0, .nameAndType 5 6), (0, u "java/lang/Object"), (0, u "<init>"), (0, u "()V"), (1, .class_ 10), (1, u "java/util/AbstractCollection"), (66, .class_ 78), (0, u "java/util/Collection")] 81

def k11c0 : Code := { maxStack := 1, maxLocals := 1, code := jdk_22_method_1_code, exceptionTable := #[], attributes := #[] }
def k11m0 : Method := { name := "<init>", desc := "()V", sig := { parameters := [], returnType := none }, accessFlags := 4, code := some k11c0 }
/-- java/util/AbstractCollection -/
def k11 : Class := { plain "java/util/AbstractCollection" (some 0) with
  accessFlags := 1057
  interfaces := #[10]
  cf := some (fileOf pool11 8 #[] #[{ accessFlags := 4, nameIndex := 5, descriptorIndex := 6, attributes := #[] }] 1057 2 #[77] #[])
  fields := #[]
  methods := #[k11m0]
  instanceTypes := #[]
  staticTypes := #[]
  resolved := Array.replicate 160 none
  statics := none }

def pool12 : Array CpInfo := pool [(8, .class_ 10), (1, u "java/util/SequencedCollection"), (15, .class_ 27), (0, u "java/lang/Object"), (0, .class_ 29), (0, u "java/util/Collection")] 27

/-- java/util/SequencedCollection -/
def k12 : Class := { plain "java/util/SequencedCollection" (some 0) with
  accessFlags := 1537
  interfaces := #[10]
  cf := some (fileOf pool12 8 #[] #[] 1537 26 #[28] #[])
  fields := #[]
  methods := #[]
  instanceTypes := #[]
  staticTypes := #[]
  resolved := Array.replicate 57 none
  statics := none }

def pool13 : Array CpInfo := pool [(8, .class_ 10), (1, u "java/util/List"), (20, u "(Ljava/lang/Object;)V"), (16, u "<init>"), (26, u "get"), (0, u "(I)Ljava/lang/Object;"), (11, u "of"), (2, .class_ 93), (1, u "java/util/ImmutableCollections"), (2, .class_ 97), (0, u "java/util/ImmutableCollections$List12"), (0, .methodref 96 99), (0, .nameAndType 48 31), (0, .methodref 96 101), (0, .nameAndType 48 102), (0, u "(Ljava/lang/Object;Ljava/lang/Object;)V"), (0, .class_ 104), (0, u "java/lang/Object"), (3, u "([Ljava/lang/Object;)Ljava/util/List;"), (0, .methodref 91 110), (0, .nameAndType 111 108), (0, u "listFromArray"), (0, .methodref 91 113), (0, .nameAndType 114 115), (0, u "listCopy"), (0, u "(Ljava/util/Collection;)Ljava/util/List;"), (4, .class_ 121), (0, u "java/util/SequencedCollection"), (112, u "copyOf")] 16

def k13m0 : Method := { name := "get", desc := "(I)Ljava/lang/Object;", sig := { parameters := [.int], returnType := some (.object "java/lang/Object") }, accessFlags := 1025, code := none }
def k13c1 : Code := { maxStack := 5, maxLocals := 2, code := jdk_40_method_47_code, exceptionTable := #[], attributes := #[] }
def k13m1 : Method := { name := "of", desc := "([Ljava/lang/Object;)Ljava/util/List;", sig := { parameters := [(.array (.object "java/lang/Object"))], returnType := some (.object "java/util/List") }, accessFlags := 137, code := some k13c1 }
def k13c2 : Code := { maxStack := 1, maxLocals := 1, code := jdk_40_method_48_code, exceptionTable := #[], attributes := #[] }
def k13m2 : Method := { name := "copyOf", desc := "(Ljava/util/Collection;)Ljava/util/List;", sig := { parameters := [(.object "java/util/Collection")], returnType := some (.object "java/util/List") }, accessFlags := 9, code := some k13c2 }
/-- java/util/List -/
def k13 : Class := { plain "java/util/List" (some 0) with
  accessFlags := 1537
  interfaces := #[12]
  cf := some (fileOf pool13 8 #[] #[{ accessFlags := 1025, nameIndex := 75, descriptorIndex := 76, attributes := #[] }, { accessFlags := 137, nameIndex := 88, descriptorIndex := 108, attributes := #[] }, { accessFlags := 9, nameIndex := 234, descriptorIndex := 115, attributes := #[] }] 1537 103 #[120] #[])
  fields := #[]
  methods := #[k13m0, k13m1, k13m2]
  instanceTypes := #[]
  staticTypes := #[]
  resolved := Array.replicate 251 none
  statics := none }

def pool14 : Array CpInfo := pool [(1, .methodref 2 3), (0, .class_ 4), (0, .nameAndType 5 6), (0, u "java/util/AbstractCollection"), (0, u "<init>"), (0, u "()V"), (0, .fieldref 8 9), (0, .class_ 10), (0, .nameAndType 11 12), (0, u "java/util/AbstractList"), (0, u "modCount"), (0, u "I"), (64, .class_ 78), (0, u "java/util/AbstractList$Itr"), (3, .class_ 83), (0, u "java/util/AbstractList$ListItr"), (9, .class_ 94), (0, u "java/util/AbstractList$RandomAccessSubList"), (3, .class_ 99), (0, u "java/util/AbstractList$SubList"), (33, .class_ 134), (0, u "java/util/List"), (73, .class_ 209), (0, u "java/util/AbstractList$SubList$1"), (0, .class_ 211), (0, u "java/util/AbstractList$RandomAccessSpliterator")] 6

def k14c0 : Code := { maxStack := 2, maxLocals := 1, code := jdk_39_method_1_code, exceptionTable := #[], attributes := #[] }
def k14m0 : Method := { name := "<init>", desc := "()V", sig := { parameters := [], returnType := none }, accessFlags := 4, code := some k14c0 }
/-- java/util/AbstractList -/
def k14 : Class := { plain "java/util/AbstractList" (some 11) with
  accessFlags := 1057
  interfaces := #[13]
  cf := some (fileOf pool14 8 #[.nestMembers #[93, 98, 208, 210, 82, 77]] #[{ accessFlags := 4, nameIndex := 5, descriptorIndex := 6, attributes := #[] }] 1057 2 #[133] #[{ accessFlags := 132, nameIndex := 11, descriptorIndex := 12, attributes := #[] }])
  fields := #[{ name := "modCount", type := .int, accessFlags := 132, slot := 0, constantValue := 0 }]
  methods := #[k14m0]
  instanceTypes := #[.int]
  staticTypes := #[]
  resolved := Array.replicate 218 none
  statics := none }

def pool15 : Array CpInfo := pool [(1, .class_ 2), (0, u "java/util/RandomAccess"), (0, .class_ 4), (0, u "java/lang/Object")] 2

/-- java/util/RandomAccess -/
def k15 : Class := { plain "java/util/RandomAccess" (some 0) with
  accessFlags := 1537
  interfaces := #[]
  cf := some (fileOf pool15 1 #[] #[] 1537 3 #[] #[])
  fields := #[]
  methods := #[]
  instanceTypes := #[]
  staticTypes := #[]
  resolved := Array.replicate 7 none
  statics := none }

def pool16 : Array CpInfo := pool [(1, .class_ 2), (0, u "java/lang/Cloneable"), (0, .class_ 4), (0, u "java/lang/Object")] 2

/-- java/lang/Cloneable -/
def k16 : Class := { plain "java/lang/Cloneable" (some 0) with
  accessFlags := 1537
  interfaces := #[]
  cf := some (fileOf pool16 1 #[] #[] 1537 3 #[] #[])
  fields := #[]
  methods := #[]
  instanceTypes := #[]
  staticTypes := #[]
  resolved := Array.replicate 7 none
  statics := none }

def pool17 : Array CpInfo := pool [(1, .methodref 2 3), (0, .class_ 4), (0, .nameAndType 5 6), (0, u "java/util/AbstractList"), (0, u "<init>"), (0, u "()V"), (0, .class_ 8), (0, u "java/lang/Object"), (0, .fieldref 10 11), (0, .class_ 12), (0, .nameAndType 13 14), (0, u "java/util/ArrayList"), (0, u "elementData"), (0, u "[Ljava/lang/Object;"), (2, u "EMPTY_ELEMENTDATA"), (21, .fieldref 10 40), (0, .nameAndType 41 14), (0, u "DEFAULTCAPACITY_EMPTY_ELEMENTDATA"), (4, u "toArray"), (0, u "()[Ljava/lang/Object;"), (0, .fieldref 10 49), (0, .nameAndType 50 51), (0, u "size"), (0, u "I"), (6, .class_ 60), (1, u "java/util/Arrays"), (0, u "copyOf"), (1, .fieldref 10 64), (0, .nameAndType 65 51), (0, u "modCount"), (0, .methodref 58 67), (0, .nameAndType 61 68), (0, u "([Ljava/lang/Object;I)[Ljava/lang/Object;"), (0, .methodref 10 70), (0, .nameAndType 71 72), (0, u "grow"), (0, u "(I)[Ljava/lang/Object;"), (6, .methodref 80 81), (0, .class_ 82), (0, .nameAndType 83 84), (0, u "java/lang/Math"), (0, u "max"), (0, u "(II)I"), (11, u "(Ljava/lang/Object;)Z"), (32, .methodref 10 130), (0, .nameAndType 71 47), (0, .methodref 10 132), (0, .nameAndType 133 134), (0, u "add"), (0, u "(Ljava/lang/Object;[Ljava/lang/Object;I)V"), (13, .class_ 149), (0, u "java/util/List"), (23, u "()Z"), (88, .class_ 263), (0, u "java/util/ArrayList$ListItr"), (3, .class_ 268), (0, u "java/util/ArrayList$Itr"), (7, .class_ 277), (0, u "java/util/ArrayList$SubList"), (12, .class_ 291), (0, u "java/util/ArrayList$ArrayListSpliterator"), (37, .class_ 330), (0, u "java/util/RandomAccess"), (0, .class_ 332), (0, u "java/lang/Cloneable"), (0, .class_ 334), (0, u "java/io/Serializable"), (0, u "serialVersionUID"), (0, u "J"), (3, u "DEFAULT_CAPACITY"), (22, u "isEmpty"), (136, .class_ 501), (0, u "java/util/ArrayList$SubList$2"), (0, .class_ 503), (0, u "java/util/ArrayList$SubList$1")] 5

def k17c0 : Code := { maxStack := 2, maxLocals := 1, code := jdk_38_method_2_code, exceptionTable := #[], attributes := #[] }
def k17m0 : Method := { name := "<init>", desc := "()V", sig := { parameters := [], returnType := none }, accessFlags := 1, code := some k17c0 }
def k17c1 : Code := { maxStack := 4, maxLocals := 4, code := jdk_38_method_6_code, exceptionTable := #[], attributes := #[] }
def k17m1 : Method := { name := "grow", desc := "(I)[Ljava/lang/Object;", sig := { parameters := [.int], returnType := some (.array (.object "java/lang/Object")) }, accessFlags := 2, code := some k17c1 }
def k17c2 : Code := { maxStack := 3, maxLocals := 1, code := jdk_38_method_7_code, exceptionTable := #[], attributes := #[] }
def k17m2 : Method := { name := "grow", desc := "()[Ljava/lang/Object;", sig := { parameters := [], returnType := some (.array (.object "java/lang/Object")) }, accessFlags := 2, code := some k17c2 }
def k17c3 : Code := { maxStack := 1, maxLocals := 1, code := jdk_38_method_9_code, exceptionTable := #[], attributes := #[] }
def k17m3 : Method := { name := "isEmpty", desc := "()Z", sig := { parameters := [], returnType := some .boolean }, accessFlags := 1, code := some k17c3 }
def k17c4 : Code := { maxStack := 2, maxLocals := 1, code := jdk_38_method_16_code, exceptionTable := #[], attributes := #[] }
def k17m4 : Method := { name := "toArray", desc := "()[Ljava/lang/Object;", sig := { parameters := [], returnType := some (.array (.object "java/lang/Object")) }, accessFlags := 1, code := some k17c4 }
def k17c5 : Code := { maxStack := 3, maxLocals := 4, code := jdk_38_method_24_code, exceptionTable := #[], attributes := #[] }
def k17m5 : Method := { name := "add", desc := "(Ljava/lang/Object;[Ljava/lang/Object;I)V", sig := { parameters := [(.object "java/lang/Object"), (.array (.object "java/lang/Object")), .int], returnType := none }, accessFlags := 2, code := some k17c5 }
def k17c6 : Code := { maxStack := 4, maxLocals := 2, code := jdk_38_method_25_code, exceptionTable := #[], attributes := #[] }
def k17m6 : Method := { name := "add", desc := "(Ljava/lang/Object;)Z", sig := { parameters := [(.object "java/lang/Object")], returnType := some .boolean }, accessFlags := 1, code := some k17c6 }
/-- java/util/ArrayList -/
def k17 : Class := { plain "java/util/ArrayList" (some 14) with
  accessFlags := 33
  interfaces := #[13, 15, 16, 2]
  cf := some (fileOf pool17 10 #[.nestMembers #[290, 276, 500, 502, 262, 267]] #[{ accessFlags := 1, nameIndex := 5, descriptorIndex := 6, attributes := #[] }, { accessFlags := 2, nameIndex := 71, descriptorIndex := 72, attributes := #[] }, { accessFlags := 2, nameIndex := 71, descriptorIndex := 47, attributes := #[] }, { accessFlags := 1, nameIndex := 363, descriptorIndex := 173, attributes := #[] }, { accessFlags := 1, nameIndex := 46, descriptorIndex := 47, attributes := #[] }, { accessFlags := 2, nameIndex := 133, descriptorIndex := 134, attributes := #[] }, { accessFlags := 1, nameIndex := 133, descriptorIndex := 96, attributes := #[] }] 33 2 #[148, 329, 331, 333] #[{ accessFlags := 26, nameIndex := 335, descriptorIndex := 336, attributes := #[] }, { accessFlags := 26, nameIndex := 340, descriptorIndex := 51, attributes := #[] }, { accessFlags := 26, nameIndex := 17, descriptorIndex := 14, attributes := #[] }, { accessFlags := 26, nameIndex := 41, descriptorIndex := 14, attributes := #[] }, { accessFlags := 128, nameIndex := 13, descriptorIndex := 14, attributes := #[] }, { accessFlags := 2, nameIndex := 50, descriptorIndex := 51, attributes := #[] }])
  fields := #[{ name := "serialVersionUID", type := .long, accessFlags := 26, slot := 0, constantValue := 0 }, { name := "DEFAULT_CAPACITY", type := .int, accessFlags := 26, slot := 1, constantValue := 0 }, { name := "EMPTY_ELEMENTDATA", type := (.array (.object "java/lang/Object")), accessFlags := 26, slot := 2, constantValue := 0 }, { name := "DEFAULTCAPACITY_EMPTY_ELEMENTDATA", type := (.array (.object "java/lang/Object")), accessFlags := 26, slot := 3, constantValue := 0 }, { name := "elementData", type := (.array (.object "java/lang/Object")), accessFlags := 128, slot := 1, constantValue := 0 }, { name := "size", type := .int, accessFlags := 2, slot := 2, constantValue := 0 }]
  methods := #[k17m0, k17m1, k17m2, k17m3, k17m4, k17m5, k17m6]
  instanceTypes := #[.int, (.array (.object "java/lang/Object")), .int]
  staticTypes := #[.long, .int, (.array (.object "java/lang/Object")), (.array (.object "java/lang/Object"))]
  resolved := Array.replicate 509 none
  mirror := some 5
  statics := some 1 }

def pool18 : Array CpInfo := pool [(1, .class_ 2), (0, u "java/lang/Math"), (1, .class_ 6), (1, u "java/lang/Object"), (0, u "<init>"), (0, u "()V"), (89, .class_ 100), (1, u "java/lang/Math$RandomNumberGeneratorHolder"), (71, u "negativeZeroFloatBits"), (0, u "J"), (2, u "negativeZeroDoubleBits"), (21, u "max"), (2, u "min"), (43, u "$assertionsDisabled"), (0, u "Z"), (88, u "(II)I"), (2, u "twoToTheDoubleScaleDown"), (0, u "D"), (4, u "twoToTheDoubleScaleUp"), (9, u "E"), (3, u "PI"), (2, u "TAU"), (2, u "DEGREES_TO_RADIANS"), (0, u "RADIANS_TO_DEGREES")] 94

def k18m0 : Method := { name := "<init>", desc := "()V", sig := { parameters := [], returnType := none }, accessFlags := 2, code := none }
def k18c1 : Code := { maxStack := 2, maxLocals := 2, code := jdk_29_method_65_code, exceptionTable := #[], attributes := #[] }
def k18m1 : Method := { name := "max", desc := "(II)I", sig := { parameters := [.int, .int], returnType := some .int }, accessFlags := 9, code := some k18c1 }
def k18c2 : Code := { maxStack := 2, maxLocals := 2, code := jdk_29_method_69_code, exceptionTable := #[], attributes := #[] }
def k18m2 : Method := { name := "min", desc := "(II)I", sig := { parameters := [.int, .int], returnType := some .int }, accessFlags := 9, code := some k18c2 }
/-- java/lang/Math -/
def k18 : Class := { plain "java/lang/Math" (some 0) with
  accessFlags := 49
  interfaces := #[]
  cf := some (fileOf pool18 1 #[.nestMembers #[98]] #[{ accessFlags := 2, nameIndex := 7, descriptorIndex := 8, attributes := #[] }, { accessFlags := 9, nameIndex := 198, descriptorIndex := 335, attributes := #[] }, { accessFlags := 9, nameIndex := 201, descriptorIndex := 335, attributes := #[] }] 49 4 #[] #[{ accessFlags := 25, nameIndex := 354, descriptorIndex := 339, attributes := #[] }, { accessFlags := 25, nameIndex := 358, descriptorIndex := 339, attributes := #[] }, { accessFlags := 25, nameIndex := 361, descriptorIndex := 339, attributes := #[] }, { accessFlags := 26, nameIndex := 364, descriptorIndex := 339, attributes := #[] }, { accessFlags := 26, nameIndex := 365, descriptorIndex := 339, attributes := #[] }, { accessFlags := 26, nameIndex := 172, descriptorIndex := 173, attributes := #[] }, { accessFlags := 26, nameIndex := 176, descriptorIndex := 173, attributes := #[] }, { accessFlags := 8, nameIndex := 344, descriptorIndex := 339, attributes := #[] }, { accessFlags := 8, nameIndex := 338, descriptorIndex := 339, attributes := #[] }, { accessFlags := 4120, nameIndex := 245, descriptorIndex := 246, attributes := #[] }])
  fields := #[{ name := "E", type := .double, accessFlags := 25, slot := 0, constantValue := 0 }, { name := "PI", type := .double, accessFlags := 25, slot := 1, constantValue := 0 }, { name := "TAU", type := .double, accessFlags := 25, slot := 2, constantValue := 0 }, { name := "DEGREES_TO_RADIANS", type := .double, accessFlags := 26, slot := 3, constantValue := 0 }, { name := "RADIANS_TO_DEGREES", type := .double, accessFlags := 26, slot := 4, constantValue := 0 }, { name := "negativeZeroFloatBits", type := .long, accessFlags := 26, slot := 5, constantValue := 0 }, { name := "negativeZeroDoubleBits", type := .long, accessFlags := 26, slot := 6, constantValue := 0 }, { name := "twoToTheDoubleScaleUp", type := .double, accessFlags := 8, slot := 7, constantValue := 0 }, { name := "twoToTheDoubleScaleDown", type := .double, accessFlags := 8, slot := 8, constantValue := 0 }, { name := "$assertionsDisabled", type := .boolean, accessFlags := 4120, slot := 9, constantValue := 0 }]
  methods := #[k18m0, k18m1, k18m2]
  instanceTypes := #[]
  staticTypes := #[.double, .double, .double, .double, .double, .long, .long, .double, .double, .boolean]
  resolved := Array.replicate 460 none
  statics := none }

def pool19 : Array CpInfo := pool [(1, .methodref 2 3), (0, .class_ 4), (0, .nameAndType 5 6), (0, u "java/lang/Object"), (0, u "<init>"), (0, u "()V"), (0, .fieldref 8 9), (0, .class_ 10), (0, .nameAndType 11 12), (0, u "com/example/frosted_rows/frostedrows/release/PublishedGroup"), (0, u "number"), (0, u "Ljava/lang/String;"), (0, .interfaceMethodref 14 15), (0, .class_ 16), (0, .nameAndType 17 18), (0, u "java/util/List"), (0, u "copyOf"), (0, u "(Ljava/util/Collection;)Ljava/util/List;"), (0, .fieldref 8 20), (0, .nameAndType 21 22), (0, u "cells"), (0, u "Ljava/util/List;"), (0, .fieldref 8 24), (0, .nameAndType 25 26), (0, u "covered"), (0, u "[I"), (0, .methodref 28 29), (0, .class_ 30), (0, .nameAndType 31 32), (0, u "java/util/Collections"), (0, u "unmodifiableList"), (0, u "(Ljava/util/List;)Ljava/util/List;"), (0, .fieldref 8 34), (0, .nameAndType 35 22), (0, u "sensitive"), (0, .interfaceMethodref 14 37), (0, .nameAndType 38 39), (0, u "get"), (0, u "(I)Ljava/lang/Object;"), (0, .class_ 41), (0, u "java/lang/String"), (2, u "(Ljava/lang/String;Ljava/util/List;[ILjava/util/List;)V"), (4, u "cell"), (0, u "(I)Ljava/lang/String;")] 7

def k19c0 : Code := { maxStack := 2, maxLocals := 5, code := prog_13_method_1_code, exceptionTable := #[], attributes := #[] }
def k19m0 : Method := { name := "<init>", desc := "(Ljava/lang/String;Ljava/util/List;[ILjava/util/List;)V", sig := { parameters := [(.object "java/lang/String"), (.object "java/util/List"), (.array .int), (.object "java/util/List")], returnType := none }, accessFlags := 0, code := some k19c0 }
def k19c1 : Code := { maxStack := 2, maxLocals := 2, code := prog_13_method_3_code, exceptionTable := #[], attributes := #[] }
def k19m1 : Method := { name := "cell", desc := "(I)Ljava/lang/String;", sig := { parameters := [.int], returnType := some (.object "java/lang/String") }, accessFlags := 1, code := some k19c1 }
/-- com/example/frosted_rows/frostedrows/release/PublishedGroup -/
def k19 : Class := { plain "com/example/frosted_rows/frostedrows/release/PublishedGroup" (some 0) with
  accessFlags := 49
  interfaces := #[]
  cf := some (fileOf pool19 8 #[] #[{ accessFlags := 0, nameIndex := 5, descriptorIndex := 44, attributes := #[] }, { accessFlags := 1, nameIndex := 49, descriptorIndex := 50, attributes := #[] }] 49 2 #[] #[{ accessFlags := 18, nameIndex := 11, descriptorIndex := 12, attributes := #[] }, { accessFlags := 18, nameIndex := 21, descriptorIndex := 22, attributes := #[] }, { accessFlags := 18, nameIndex := 25, descriptorIndex := 26, attributes := #[] }, { accessFlags := 18, nameIndex := 35, descriptorIndex := 22, attributes := #[] }])
  fields := #[{ name := "number", type := (.object "java/lang/String"), accessFlags := 18, slot := 0, constantValue := 0 }, { name := "cells", type := (.object "java/util/List"), accessFlags := 18, slot := 1, constantValue := 0 }, { name := "covered", type := (.array .int), accessFlags := 18, slot := 2, constantValue := 0 }, { name := "sensitive", type := (.object "java/util/List"), accessFlags := 18, slot := 3, constantValue := 0 }]
  methods := #[k19m0, k19m1]
  instanceTypes := #[(.object "java/lang/String"), (.object "java/util/List"), (.array .int), (.object "java/util/List")]
  staticTypes := #[]
  resolved := Array.replicate 58 none
  statics := none }

def pool20 : Array CpInfo := pool [(2, .class_ 4), (1, u "java/lang/Object"), (0, u "<init>"), (0, u "()V"), (3, .class_ 11), (0, u "java/util/ImmutableCollections$List12"), (0, .class_ 13), (0, u "java/util/ImmutableCollections$ListN"), (3, u "Z"), (0, .class_ 19), (0, u "java/util/List"), (0, .interfaceMethodref 21 22), (0, .class_ 23), (0, .nameAndType 24 25), (0, u "java/util/Collection"), (0, u "isEmpty"), (0, u "()Z"), (2, u "of"), (1, .interfaceMethodref 21 31), (0, .nameAndType 32 33), (0, u "toArray"), (0, u "()[Ljava/lang/Object;"), (0, .interfaceMethodref 18 35), (0, .nameAndType 28 36), (0, u "([Ljava/lang/Object;)Ljava/util/List;"), (0, .methodref 38 39), (0, .class_ 40), (0, .nameAndType 41 42), (0, u "java/util/Objects"), (0, u "requireNonNull"), (0, u "(Ljava/lang/Object;)Ljava/lang/Object;"), (0, .methodref 12 44), (0, .nameAndType 5 45), (0, u "([Ljava/lang/Object;Z)V"), (1, .class_ 49), (1, u "java/util/ImmutableCollections"), (0, u "$assertionsDisabled"), (5, u "[Ljava/lang/Object;"), (5, u "EMPTY_LIST"), (0, u "Ljava/util/ImmutableCollections$ListN;"), (8, u "EMPTY_LIST_NULLS"), (22, u "SALT32L"), (0, u "J"), (2, u "REVERSE"), (6, u "archivedObjects"), (2, u "EMPTY"), (0, u "Ljava/lang/Object;"), (0, .class_ 112), (0, u "java/util/ImmutableCollections$SetN"), (5, u "EMPTY_SET"), (0, u "Ljava/util/ImmutableCollections$SetN;"), (0, .class_ 121), (0, u "java/util/ImmutableCollections$MapN"), (3, u "EMPTY_MAP"), (0, u "Ljava/util/ImmutableCollections$MapN;"), (4, u "EXPAND_FACTOR"), (0, u "I"), (9, u "listCopy"), (0, u "(Ljava/util/Collection;)Ljava/util/List;"), (7, u "listFromArray"), (17, .class_ 170), (0, u "java/util/ImmutableCollections$MapN$MapNIterator"), (0, .class_ 172), (0, u "java/util/ImmutableCollections$MapN$1"), (0, .class_ 174), (0, u "java/util/ImmutableCollections$Map1"), (0, .class_ 176), (0, u "java/util/ImmutableCollections$AbstractImmutableMap"), (0, .class_ 178), (0, u "java/util/ImmutableCollections$SetN$SetNIterator"), (0, .class_ 180), (0, u "java/util/ImmutableCollections$Set12"), (0, .class_ 182), (0, u "java/util/ImmutableCollections$Set12$1"), (0, .class_ 184), (0, u "java/util/ImmutableCollections$AbstractImmutableSet"), (0, .class_ 186), (0, u "java/util/ImmutableCollections$SubList"), (0, .class_ 188), (0, u "java/util/ImmutableCollections$ListItr"), (0, .class_ 190), (0, u "java/util/ImmutableCollections$AbstractImmutableList"), (0, .class_ 192), (0, u "java/util/ImmutableCollections$AbstractImmutableCollection"), (0, .class_ 194), (0, u "java/util/ImmutableCollections$Access"), (0, .class_ 196), (0, u "java/util/ImmutableCollections$Access$1")] 16

def k20m0 : Method := { name := "<init>", desc := "()V", sig := { parameters := [], returnType := none }, accessFlags := 2, code := none }
def k20c1 : Code := { maxStack := 1, maxLocals := 2, code := jdk_56_method_3_code, exceptionTable := #[], attributes := #[] }
def k20m1 : Method := { name := "listCopy", desc := "(Ljava/util/Collection;)Ljava/util/List;", sig := { parameters := [(.object "java/util/Collection")], returnType := some (.object "java/util/List") }, accessFlags := 8, code := some k20c1 }
def k20c2 : Code := { maxStack := 4, maxLocals := 3, code := jdk_56_method_4_code, exceptionTable := #[], attributes := #[] }
def k20m2 : Method := { name := "listFromArray", desc := "([Ljava/lang/Object;)Ljava/util/List;", sig := { parameters := [(.array (.object "java/lang/Object"))], returnType := some (.object "java/util/List") }, accessFlags := 136, code := some k20c2 }
/-- java/util/ImmutableCollections -/
def k20 : Class := { plain "java/util/ImmutableCollections" (some 0) with
  accessFlags := 32
  interfaces := #[]
  cf := some (fileOf pool20 47 #[.nestMembers #[120, 169, 171, 173, 175, 111, 177, 179, 181, 183, 12, 10, 185, 187, 189, 191, 193, 195]] #[{ accessFlags := 2, nameIndex := 5, descriptorIndex := 6, attributes := #[] }, { accessFlags := 8, nameIndex := 142, descriptorIndex := 143, attributes := #[] }, { accessFlags := 136, nameIndex := 151, descriptorIndex := 36, attributes := #[] }] 32 2 #[] #[{ accessFlags := 26, nameIndex := 95, descriptorIndex := 96, attributes := #[] }, { accessFlags := 26, nameIndex := 99, descriptorIndex := 17, attributes := #[] }, { accessFlags := 10, nameIndex := 106, descriptorIndex := 56, attributes := #[] }, { accessFlags := 26, nameIndex := 109, descriptorIndex := 110, attributes := #[] }, { accessFlags := 24, nameIndex := 62, descriptorIndex := 63, attributes := #[] }, { accessFlags := 24, nameIndex := 72, descriptorIndex := 63, attributes := #[] }, { accessFlags := 24, nameIndex := 118, descriptorIndex := 119, attributes := #[] }, { accessFlags := 24, nameIndex := 125, descriptorIndex := 126, attributes := #[] }, { accessFlags := 24, nameIndex := 131, descriptorIndex := 132, attributes := #[] }, { accessFlags := 4120, nameIndex := 50, descriptorIndex := 17, attributes := #[] }])
  fields := #[{ name := "SALT32L", type := .long, accessFlags := 26, slot := 0, constantValue := 0 }, { name := "REVERSE", type := .boolean, accessFlags := 26, slot := 1, constantValue := 0 }, { name := "archivedObjects", type := (.array (.object "java/lang/Object")), accessFlags := 10, slot := 2, constantValue := 0 }, { name := "EMPTY", type := (.object "java/lang/Object"), accessFlags := 26, slot := 3, constantValue := 0 }, { name := "EMPTY_LIST", type := (.object "java/util/ImmutableCollections$ListN"), accessFlags := 24, slot := 4, constantValue := 0 }, { name := "EMPTY_LIST_NULLS", type := (.object "java/util/ImmutableCollections$ListN"), accessFlags := 24, slot := 5, constantValue := 0 }, { name := "EMPTY_SET", type := (.object "java/util/ImmutableCollections$SetN"), accessFlags := 24, slot := 6, constantValue := 0 }, { name := "EMPTY_MAP", type := (.object "java/util/ImmutableCollections$MapN"), accessFlags := 24, slot := 7, constantValue := 0 }, { name := "EXPAND_FACTOR", type := .int, accessFlags := 24, slot := 8, constantValue := 0 }, { name := "$assertionsDisabled", type := .boolean, accessFlags := 4120, slot := 9, constantValue := 0 }]
  methods := #[k20m0, k20m1, k20m2]
  instanceTypes := #[]
  staticTypes := #[.long, .boolean, (.array (.object "java/lang/Object")), (.object "java/lang/Object"), (.object "java/util/ImmutableCollections$ListN"), (.object "java/util/ImmutableCollections$ListN"), (.object "java/util/ImmutableCollections$SetN"), (.object "java/util/ImmutableCollections$MapN"), .int, .boolean]
  resolved := Array.replicate 213 none
  statics := some 2 }

def pool21 : Array CpInfo := pool [(1, .methodref 2 3), (0, .class_ 4), (0, .nameAndType 5 6), (0, u "java/util/AbstractCollection"), (0, u "<init>"), (0, u "()V"), (1, .class_ 10), (1, u "java/util/ImmutableCollections"), (2, .class_ 14), (0, u "java/util/ImmutableCollections$AbstractImmutableCollection")] 41

def k21c0 : Code := { maxStack := 1, maxLocals := 1, code := jdk_47_method_1_code, exceptionTable := #[], attributes := #[] }
def k21m0 : Method := { name := "<init>", desc := "()V", sig := { parameters := [], returnType := none }, accessFlags := 0, code := some k21c0 }
/-- java/util/ImmutableCollections$AbstractImmutableCollection -/
def k21 : Class := { plain "java/util/ImmutableCollections$AbstractImmutableCollection" (some 11) with
  accessFlags := 1056
  interfaces := #[]
  cf := some (fileOf pool21 13 #[.nestHost 8] #[{ accessFlags := 0, nameIndex := 5, descriptorIndex := 6, attributes := #[] }] 1056 2 #[] #[])
  fields := #[]
  methods := #[k21m0]
  instanceTypes := #[]
  staticTypes := #[]
  resolved := Array.replicate 56 none
  statics := none }

def pool22 : Array CpInfo := pool [(1, .methodref 2 3), (0, .class_ 4), (0, .nameAndType 5 6), (0, u "java/util/ImmutableCollections$AbstractImmutableCollection"), (0, u "<init>"), (0, u "()V"), (1, .class_ 10), (1, u "java/util/ImmutableCollections"), (3, .class_ 16), (1, u "java/util/ImmutableCollections$AbstractImmutableList"), (60, .class_ 78), (0, u "java/util/List"), (45, .class_ 125), (0, u "java/util/RandomAccess")] 70

def k22c0 : Code := { maxStack := 1, maxLocals := 1, code := jdk_46_method_1_code, exceptionTable := #[], attributes := #[] }
def k22m0 : Method := { name := "<init>", desc := "()V", sig := { parameters := [], returnType := none }, accessFlags := 0, code := some k22c0 }
/-- java/util/ImmutableCollections$AbstractImmutableList -/
def k22 : Class := { plain "java/util/ImmutableCollections$AbstractImmutableList" (some 21) with
  accessFlags := 1056
  interfaces := #[13, 15]
  cf := some (fileOf pool22 14 #[.nestHost 8] #[{ accessFlags := 0, nameIndex := 5, descriptorIndex := 6, attributes := #[] }] 1056 2 #[77, 124] #[])
  fields := #[]
  methods := #[k22m0]
  instanceTypes := #[]
  staticTypes := #[]
  resolved := Array.replicate 196 none
  statics := none }

def pool23 : Array CpInfo := pool [(1, .methodref 2 3), (0, .class_ 4), (0, .nameAndType 5 6), (0, u "java/util/ImmutableCollections$AbstractImmutableList"), (0, u "<init>"), (0, u "()V"), (0, .methodref 8 9), (0, .class_ 10), (0, .nameAndType 11 12), (0, u "java/util/Objects"), (0, u "requireNonNull"), (0, u "(Ljava/lang/Object;)Ljava/lang/Object;"), (0, .fieldref 14 15), (0, .class_ 16), (0, .nameAndType 17 18), (0, u "java/util/ImmutableCollections$List12"), (0, u "e0"), (0, u "Ljava/lang/Object;"), (0, .fieldref 20 21), (0, .class_ 22), (0, .nameAndType 23 18), (0, u "java/util/ImmutableCollections"), (0, u "EMPTY"), (0, .fieldref 14 25), (0, .nameAndType 26 18), (0, u "e1"), (43, .class_ 71), (0, u "java/io/Serializable"), (4, u "(Ljava/lang/Object;)V"), (8, u "(Ljava/lang/Object;Ljava/lang/Object;)V"), (4, u "get"), (0, u "(I)Ljava/lang/Object;")] 33

def k23c0 : Code := { maxStack := 2, maxLocals := 2, code := jdk_44_method_1_code, exceptionTable := #[], attributes := #[] }
def k23m0 : Method := { name := "<init>", desc := "(Ljava/lang/Object;)V", sig := { parameters := [(.object "java/lang/Object")], returnType := none }, accessFlags := 0, code := some k23c0 }
def k23c1 : Code := { maxStack := 2, maxLocals := 3, code := jdk_44_method_2_code, exceptionTable := #[], attributes := #[] }
def k23m1 : Method := { name := "<init>", desc := "(Ljava/lang/Object;Ljava/lang/Object;)V", sig := { parameters := [(.object "java/lang/Object"), (.object "java/lang/Object")], returnType := none }, accessFlags := 0, code := some k23c1 }
def k23c2 : Code := { maxStack := 2, maxLocals := 2, code := jdk_44_method_5_code, exceptionTable := #[], attributes := #[] }
def k23m2 : Method := { name := "get", desc := "(I)Ljava/lang/Object;", sig := { parameters := [.int], returnType := some (.object "java/lang/Object") }, accessFlags := 1, code := some k23c2 }
/-- java/util/ImmutableCollections$List12 -/
def k23 : Class := { plain "java/util/ImmutableCollections$List12" (some 22) with
  accessFlags := 48
  interfaces := #[2]
  cf := some (fileOf pool23 14 #[.nestHost 20] #[{ accessFlags := 0, nameIndex := 5, descriptorIndex := 76, attributes := #[] }, { accessFlags := 0, nameIndex := 5, descriptorIndex := 85, attributes := #[] }, { accessFlags := 1, nameIndex := 90, descriptorIndex := 91, attributes := #[] }] 48 2 #[70] #[{ accessFlags := 18, nameIndex := 17, descriptorIndex := 18, attributes := #[] }, { accessFlags := 18, nameIndex := 26, descriptorIndex := 18, attributes := #[] }])
  fields := #[{ name := "e0", type := (.object "java/lang/Object"), accessFlags := 18, slot := 0, constantValue := 0 }, { name := "e1", type := (.object "java/lang/Object"), accessFlags := 18, slot := 1, constantValue := 0 }]
  methods := #[k23m0, k23m1, k23m2]
  instanceTypes := #[(.object "java/lang/Object"), (.object "java/lang/Object")]
  staticTypes := #[]
  resolved := Array.replicate 125 none
  statics := none }

def pool24 : Array CpInfo := pool [(1, .methodref 2 3), (0, .class_ 4), (0, .nameAndType 5 6), (0, u "java/util/ImmutableCollections$AbstractImmutableList"), (0, u "<init>"), (0, u "()V"), (0, .fieldref 8 9), (0, .class_ 10), (0, .nameAndType 11 12), (0, u "java/util/ImmutableCollections$ListN"), (0, u "elements"), (0, u "[Ljava/lang/Object;"), (0, .fieldref 8 14), (0, .nameAndType 15 16), (0, u "allowNulls"), (0, u "Z"), (42, .class_ 60), (0, u "java/io/Serializable"), (4, u "([Ljava/lang/Object;Z)V"), (13, u "get"), (0, u "(I)Ljava/lang/Object;"), (33, .class_ 115), (0, u "java/util/ImmutableCollections")] 3

def k24c0 : Code := { maxStack := 2, maxLocals := 3, code := jdk_45_method_1_code, exceptionTable := #[], attributes := #[] }
def k24m0 : Method := { name := "<init>", desc := "([Ljava/lang/Object;Z)V", sig := { parameters := [(.array (.object "java/lang/Object")), .boolean], returnType := none }, accessFlags := 2, code := some k24c0 }
def k24c1 : Code := { maxStack := 2, maxLocals := 2, code := jdk_45_method_4_code, exceptionTable := #[], attributes := #[] }
def k24m1 : Method := { name := "get", desc := "(I)Ljava/lang/Object;", sig := { parameters := [.int], returnType := some (.object "java/lang/Object") }, accessFlags := 1, code := some k24c1 }
/-- java/util/ImmutableCollections$ListN -/
def k24 : Class := { plain "java/util/ImmutableCollections$ListN" (some 22) with
  accessFlags := 48
  interfaces := #[2]
  cf := some (fileOf pool24 8 #[.nestHost 114] #[{ accessFlags := 2, nameIndex := 5, descriptorIndex := 65, attributes := #[] }, { accessFlags := 1, nameIndex := 79, descriptorIndex := 80, attributes := #[] }] 48 2 #[59] #[{ accessFlags := 18, nameIndex := 11, descriptorIndex := 12, attributes := #[] }, { accessFlags := 18, nameIndex := 15, descriptorIndex := 16, attributes := #[] }])
  fields := #[{ name := "elements", type := (.array (.object "java/lang/Object")), accessFlags := 18, slot := 0, constantValue := 0 }, { name := "allowNulls", type := .boolean, accessFlags := 18, slot := 1, constantValue := 0 }]
  methods := #[k24m0, k24m1]
  instanceTypes := #[(.array (.object "java/lang/Object")), .boolean]
  staticTypes := #[]
  resolved := Array.replicate 119 none
  statics := none }

def pool25 : Array CpInfo := pool [(2, .class_ 4), (1, u "java/lang/Object"), (0, u "<init>"), (0, u "()V"), (7, .class_ 16), (1, u "java/util/Arrays"), (57, .class_ 76), (1, u "java/util/Arrays$NaturalOrder"), (9, .methodref 2 87), (0, .nameAndType 88 89), (0, u "getClass"), (0, u "()Ljava/lang/Class;"), (20, .class_ 111), (0, u "[Ljava/lang/Object;"), (1, .class_ 115), (1, u "java/util/Arrays$LegacyMergeSort"), (1, u "Z"), (32, .methodref 151 152), (0, .class_ 153), (0, .nameAndType 154 155), (0, u "java/lang/System"), (0, u "arraycopy"), (0, u "(Ljava/lang/Object;ILjava/lang/Object;II)V"), (144, .methodref 14 301), (0, .nameAndType 302 303), (0, u "copyOf"), (0, u "([Ljava/lang/Object;ILjava/lang/Class;)[Ljava/lang/Object;"), (0, .methodref 305 306), (0, .class_ 307), (0, .nameAndType 308 309), (0, u "java/lang/Math"), (0, u "min"), (0, u "(II)I"), (65, .class_ 376), (0, u "java/util/Arrays$ArrayList"), (68, u "$assertionsDisabled"), (269, u "MIN_ARRAY_SORT_GRAN"), (0, u "I"), (2, u "INSERTIONSORT_THRESHOLD"), (140, u "([Ljava/lang/Object;I)[Ljava/lang/Object;"), (114, .class_ 976), (0, u "java/util/Arrays$ArrayItr")] 52

def k25m0 : Method := { name := "<init>", desc := "()V", sig := { parameters := [], returnType := none }, accessFlags := 2, code := none }
def k25c1 : Code := { maxStack := 3, maxLocals := 2, code := jdk_65_method_119_code, exceptionTable := #[], attributes := #[] }
def k25m1 : Method := { name := "copyOf", desc := "([Ljava/lang/Object;I)[Ljava/lang/Object;", sig := { parameters := [(.array (.object "java/lang/Object")), .int], returnType := some (.array (.object "java/lang/Object")) }, accessFlags := 9, code := some k25c1 }
def k25c2 : Code := { maxStack := 6, maxLocals := 4, code := jdk_65_method_120_code, exceptionTable := #[], attributes := #[] }
def k25m2 : Method := { name := "copyOf", desc := "([Ljava/lang/Object;ILjava/lang/Class;)[Ljava/lang/Object;", sig := { parameters := [(.array (.object "java/lang/Object")), .int, (.object "java/lang/Class")], returnType := some (.array (.object "java/lang/Object")) }, accessFlags := 9, code := some k25c2 }
/-- java/util/Arrays -/
def k25 : Class := { plain "java/util/Arrays" (some 0) with
  accessFlags := 49
  interfaces := #[]
  cf := some (fileOf pool25 14 #[.nestMembers #[975, 375, 113, 74]] #[{ accessFlags := 2, nameIndex := 5, descriptorIndex := 6, attributes := #[] }, { accessFlags := 9, nameIndex := 302, descriptorIndex := 860, attributes := #[] }, { accessFlags := 9, nameIndex := 302, descriptorIndex := 303, attributes := #[] }] 49 2 #[] #[{ accessFlags := 26, nameIndex := 715, descriptorIndex := 716, attributes := #[] }, { accessFlags := 26, nameIndex := 719, descriptorIndex := 716, attributes := #[] }, { accessFlags := 4120, nameIndex := 445, descriptorIndex := 117, attributes := #[] }])
  fields := #[{ name := "MIN_ARRAY_SORT_GRAN", type := .int, accessFlags := 26, slot := 0, constantValue := 0 }, { name := "INSERTIONSORT_THRESHOLD", type := .int, accessFlags := 26, slot := 1, constantValue := 0 }, { name := "$assertionsDisabled", type := .boolean, accessFlags := 4120, slot := 2, constantValue := 0 }]
  methods := #[k25m0, k25m1, k25m2]
  instanceTypes := #[]
  staticTypes := #[.int, .int, .boolean]
  resolved := Array.replicate 1029 none
  statics := none }

def pool26 : Array CpInfo := pool [(2, .class_ 4), (1, u "java/lang/Object"), (0, u "<init>"), (0, u "()V"), (1, .class_ 10), (1, u "java/lang/System"), (0, u "allowSecurityManager"), (0, u "I"), (16, u "cons"), (0, u "Ljava/io/Console;"), (77, .class_ 110), (1, u "java/lang/System$CallersHolder"), (43, u "initialErrStream"), (0, u "Ljava/io/PrintStream;"), (19, u "security"), (0, u "Ljava/lang/SecurityManager;"), (31, .class_ 209), (0, u "java/lang/System$1"), (7, u "props"), (0, u "Ljava/util/Properties;"), (2, u "lineSeparator"), (0, u "Ljava/lang/String;"), (96, .class_ 321), (1, u "java/lang/System$LoggerFinder"), (5, .class_ 328), (0, u "java/lang/System$Logger"), (67, u "err"), (2, u "out"), (91, u "notSupportedJnuEncoding"), (15, u "in"), (17, u "initialIn"), (0, u "Ljava/io/InputStream;"), (35, u "bootLayer"), (0, u "Ljava/lang/ModuleLayer;"), (99, .class_ 664), (0, u "java/lang/System$2"), (9, u "NEVER"), (2, u "MAYBE"), (49, u "arraycopy"), (0, u "(Ljava/lang/Object;ILjava/lang/Object;II)V"), (72, .class_ 802), (0, u "java/lang/System$Logger$Level")] 31

def k26m0 : Method := { name := "<init>", desc := "()V", sig := { parameters := [], returnType := none }, accessFlags := 2, code := none }
def k26m1 : Method := { name := "arraycopy", desc := "(Ljava/lang/Object;ILjava/lang/Object;II)V", sig := { parameters := [(.object "java/lang/Object"), .int, (.object "java/lang/Object"), .int, .int], returnType := none }, accessFlags := 265, code := none }
/-- java/lang/System -/
def k26 : Class := { plain "java/lang/System" (some 0) with
  accessFlags := 49
  interfaces := #[]
  cf := some (fileOf pool26 8 #[.nestMembers #[319, 327, 801, 108, 663, 208]] #[{ accessFlags := 2, nameIndex := 5, descriptorIndex := 6, attributes := #[] }, { accessFlags := 265, nameIndex := 727, descriptorIndex := 728, attributes := #[] }] 49 2 #[] #[{ accessFlags := 25, nameIndex := 507, descriptorIndex := 526, attributes := #[] }, { accessFlags := 25, nameIndex := 399, descriptorIndex := 155, attributes := #[] }, { accessFlags := 25, nameIndex := 396, descriptorIndex := 155, attributes := #[] }, { accessFlags := 10, nameIndex := 525, descriptorIndex := 526, attributes := #[] }, { accessFlags := 26, nameIndex := 674, descriptorIndex := 12, attributes := #[] }, { accessFlags := 26, nameIndex := 677, descriptorIndex := 12, attributes := #[] }, { accessFlags := 10, nameIndex := 11, descriptorIndex := 12, attributes := #[] }, { accessFlags := 74, nameIndex := 175, descriptorIndex := 176, attributes := #[] }, { accessFlags := 10, nameIndex := 491, descriptorIndex := 222, attributes := #[] }, { accessFlags := 74, nameIndex := 29, descriptorIndex := 30, attributes := #[] }, { accessFlags := 74, nameIndex := 154, descriptorIndex := 155, attributes := #[] }, { accessFlags := 10, nameIndex := 217, descriptorIndex := 218, attributes := #[] }, { accessFlags := 10, nameIndex := 221, descriptorIndex := 222, attributes := #[] }, { accessFlags := 8, nameIndex := 562, descriptorIndex := 563, attributes := #[] }])
  fields := #[{ name := "in", type := (.object "java/io/InputStream"), accessFlags := 25, slot := 0, constantValue := 0 }, { name := "out", type := (.object "java/io/PrintStream"), accessFlags := 25, slot := 1, constantValue := 0 }, { name := "err", type := (.object "java/io/PrintStream"), accessFlags := 25, slot := 2, constantValue := 0 }, { name := "initialIn", type := (.object "java/io/InputStream"), accessFlags := 10, slot := 3, constantValue := 0 }, { name := "NEVER", type := .int, accessFlags := 26, slot := 4, constantValue := 0 }, { name := "MAYBE", type := .int, accessFlags := 26, slot := 5, constantValue := 0 }, { name := "allowSecurityManager", type := .int, accessFlags := 10, slot := 6, constantValue := 0 }, { name := "security", type := (.object "java/lang/SecurityManager"), accessFlags := 74, slot := 7, constantValue := 0 }, { name := "notSupportedJnuEncoding", type := (.object "java/lang/String"), accessFlags := 10, slot := 8, constantValue := 0 }, { name := "cons", type := (.object "java/io/Console"), accessFlags := 74, slot := 9, constantValue := 0 }, { name := "initialErrStream", type := (.object "java/io/PrintStream"), accessFlags := 74, slot := 10, constantValue := 0 }, { name := "props", type := (.object "java/util/Properties"), accessFlags := 10, slot := 11, constantValue := 0 }, { name := "lineSeparator", type := (.object "java/lang/String"), accessFlags := 10, slot := 12, constantValue := 0 }, { name := "bootLayer", type := (.object "java/lang/ModuleLayer"), accessFlags := 8, slot := 13, constantValue := 0 }]
  methods := #[k26m0, k26m1]
  instanceTypes := #[]
  staticTypes := #[(.object "java/io/InputStream"), (.object "java/io/PrintStream"), (.object "java/io/PrintStream"), (.object "java/io/InputStream"), .int, .int, .int, (.object "java/lang/SecurityManager"), (.object "java/lang/String"), (.object "java/io/Console"), (.object "java/io/PrintStream"), (.object "java/util/Properties"), (.object "java/lang/String"), (.object "java/lang/ModuleLayer")]
  resolved := Array.replicate 834 none
  statics := none }

def pool27 : Array CpInfo := pool [(2, .class_ 4), (1, u "java/lang/Object"), (0, u "<init>"), (0, u "()V"), (35, .class_ 44), (1, u "java/util/Objects"), (0, u "requireNonNull"), (0, u "(Ljava/lang/Object;)Ljava/lang/Object;")] 137

def k27m0 : Method := { name := "<init>", desc := "()V", sig := { parameters := [], returnType := none }, accessFlags := 2, code := none }
def k27c1 : Code := { maxStack := 2, maxLocals := 1, code := jdk_31_method_10_code, exceptionTable := #[], attributes := #[] }
def k27m1 : Method := { name := "requireNonNull", desc := "(Ljava/lang/Object;)Ljava/lang/Object;", sig := { parameters := [(.object "java/lang/Object")], returnType := some (.object "java/lang/Object") }, accessFlags := 9, code := some k27c1 }
/-- java/util/Objects -/
def k27 : Class := { plain "java/util/Objects" (some 0) with
  accessFlags := 49
  interfaces := #[]
  cf := some (fileOf pool27 42 #[] #[{ accessFlags := 2, nameIndex := 5, descriptorIndex := 6, attributes := #[] }, { accessFlags := 9, nameIndex := 45, descriptorIndex := 46, attributes := #[] }] 49 2 #[] #[])
  fields := #[]
  methods := #[k27m0, k27m1]
  instanceTypes := #[]
  staticTypes := #[]
  resolved := Array.replicate 184 none
  statics := none }

def pool28 : Array CpInfo := pool [(2, .class_ 4), (1, u "java/lang/Object"), (0, u "<init>"), (0, u "()V"), (1, .class_ 10), (1, u "java/util/List"), (2, .class_ 14), (0, u "java/util/RandomAccess"), (4, .class_ 20), (0, u "java/util/Collections"), (63, u "r"), (0, u "Ljava/util/Random;"), (67, u "(Ljava/util/List;)V"), (9, .nameAndType 164 165), (0, u "getClass"), (0, u "()Ljava/lang/Class;"), (0, .class_ 167), (0, u "java/util/Collections$UnmodifiableCollection"), (6, .class_ 175), (0, u "java/util/Collections$UnmodifiableSequencedCollection"), (6, .class_ 183), (0, u "java/util/Collections$UnmodifiableSet"), (6, .class_ 191), (0, u "java/util/Collections$UnmodifiableSequencedSet"), (6, .class_ 199), (0, u "java/util/Collections$UnmodifiableSortedSet"), (6, .class_ 207), (0, u "java/util/Collections$UnmodifiableNavigableSet"), (3, .interfaceMethodref 8 163), (0, .class_ 213), (0, u "java/util/Collections$UnmodifiableList"), (0, .interfaceMethodref 8 163), (0, .class_ 216), (0, u "java/util/Collections$UnmodifiableRandomAccessList"), (0, .methodref 215 218), (0, .nameAndType 5 153), (4, .class_ 224), (0, u "java/util/Collections$UnmodifiableMap"), (6, .class_ 232), (0, u "java/util/Collections$UnmodifiableSequencedMap"), (4, .class_ 238), (0, u "java/util/Collections$UnmodifiableSortedMap"), (6, .class_ 246), (0, u "java/util/Collections$UnmodifiableNavigableMap"), (3, .class_ 251), (0, u "java/util/Collections$SynchronizedCollection"), (4, .class_ 257), (0, u "java/util/Collections$SynchronizedSet"), (4, .class_ 263), (0, u "java/util/Collections$SynchronizedSortedSet"), (1, .class_ 266), (0, u "java/util/Collections$SynchronizedNavigableSet"), (1, .class_ 269), (0, u "java/util/Collections$SynchronizedRandomAccessList"), (1, .class_ 272), (0, u "java/util/Collections$SynchronizedList"), (5, .class_ 279), (0, u "java/util/Collections$SynchronizedMap"), (1, .class_ 282), (0, u "java/util/Collections$SynchronizedSortedMap"), (1, .class_ 285), (0, u "java/util/Collections$SynchronizedNavigableMap"), (1, .class_ 288), (0, u "java/util/Collections$CheckedCollection"), (11, .class_ 301), (0, u "java/util/Collections$CheckedQueue"), (3, .class_ 306), (0, u "java/util/Collections$CheckedSet"), (3, .class_ 311), (0, u "java/util/Collections$CheckedSortedSet"), (3, .class_ 316), (0, u "java/util/Collections$CheckedNavigableSet"), (3, .class_ 321), (0, u "java/util/Collections$CheckedRandomAccessList"), (3, .class_ 326), (0, u "java/util/Collections$CheckedList"), (1, .class_ 329), (0, u "java/util/Collections$CheckedMap"), (3, .class_ 334), (0, u "java/util/Collections$CheckedSortedMap"), (3, .class_ 339), (0, u "java/util/Collections$CheckedNavigableMap"), (4, .class_ 346), (1, u "java/util/Collections$EmptyIterator"), (3, .class_ 352), (1, u "java/util/Collections$EmptyListIterator"), (2, .class_ 357), (1, u "java/util/Collections$EmptyEnumeration"), (4, u "EMPTY_SET"), (0, u "Ljava/util/Set;"), (6, u "EMPTY_LIST"), (0, u "Ljava/util/List;"), (2, u "EMPTY_MAP"), (0, u "Ljava/util/Map;"), (4, .class_ 381), (0, u "java/util/Collections$SingletonSet"), (2, .class_ 385), (0, u "java/util/Collections$1"), (1, .class_ 388), (0, u "java/util/Collections$2"), (1, .class_ 391), (0, u "java/util/Collections$SingletonList"), (1, .class_ 394), (0, u "java/util/Collections$SingletonMap"), (22, .class_ 418), (0, u "java/util/Collections$CopiesList"), (4, .class_ 425), (1, u "java/util/Collections$ReverseComparator"), (8, .class_ 435), (0, u "java/util/Collections$ReverseComparator2"), (6, .class_ 443), (0, u "java/util/Collections$3"), (25, .class_ 470), (0, u "java/util/Collections$SetFromMap"), (2, .class_ 474), (0, u "java/util/Collections$SequencedSetFromMap"), (3, .class_ 479), (0, u "java/util/Collections$AsLIFOQueue"), (11, .class_ 492), (0, u "java/util/Collections$EmptySet"), (1, .class_ 495), (0, u "java/util/Collections$EmptyList"), (1, .class_ 498), (0, u "java/util/Collections$EmptyMap"), (1, u "BINARYSEARCH_THRESHOLD"), (0, u "I"), (2, u "REVERSE_THRESHOLD"), (1, u "SHUFFLE_THRESHOLD"), (1, u "FILL_THRESHOLD"), (1, u "ROTATE_THRESHOLD"), (1, u "COPY_THRESHOLD"), (1, u "REPLACEALL_THRESHOLD"), (1, u "INDEXOFSUBLIST_THRESHOLD"), (129, u "unmodifiableList"), (0, u "(Ljava/util/List;)Ljava/util/List;"), (202, .class_ 851), (0, u "java/util/Collections$CheckedMap$CheckedEntrySet"), (0, .class_ 853), (0, u "java/util/Collections$CheckedMap$CheckedEntrySet$CheckedEntry"), (0, .class_ 855), (0, u "java/util/Collections$CheckedMap$CheckedEntrySet$1"), (0, .class_ 857), (0, u "java/util/Collections$CheckedList$1"), (0, .class_ 859), (0, u "java/util/Collections$CheckedCollection$1"), (0, .class_ 861), (0, u "java/util/Collections$UnmodifiableNavigableMap$EmptyNavigableMap"), (0, .class_ 863), (0, u "java/util/Collections$UnmodifiableMap$UnmodifiableEntrySet"), (0, .class_ 865), (0, u "java/util/Collections$UnmodifiableMap$UnmodifiableEntrySet$UnmodifiableEntry"), (0, .class_ 867), (0, u "java/util/Collections$UnmodifiableMap$UnmodifiableEntrySet$UnmodifiableEntrySetSpliterator"), (0, .class_ 869), (0, u "java/util/Collections$UnmodifiableMap$UnmodifiableEntrySet$1"), (0, .class_ 871), (0, u "java/util/Collections$UnmodifiableList$1"), (0, .class_ 873), (0, u "java/util/Collections$UnmodifiableNavigableSet$EmptyNavigableSet"), (0, .class_ 875), (0, u "java/util/Collections$UnmodifiableCollection$1")] 57

def k28m0 : Method := { name := "<init>", desc := "()V", sig := { parameters := [], returnType := none }, accessFlags := 2, code := none }
def k28c1 : Code := { maxStack := 3, maxLocals := 1, code := jdk_79_method_35_code, exceptionTable := #[], attributes := #[] }
def k28m1 : Method := { name := "unmodifiableList", desc := "(Ljava/util/List;)Ljava/util/List;", sig := { parameters := [(.object "java/util/List")], returnType := some (.object "java/util/List") }, accessFlags := 9, code := some k28c1 }
/-- java/util/Collections -/
def k28 : Class := { plain "java/util/Collections" (some 0) with
  accessFlags := 33
  interfaces := #[]
  cf := some (fileOf pool28 19 #[.nestMembers #[478, 473, 469, 434, 423, 417, 393, 390, 380, 497, 494, 491, 355, 350, 344, 338, 333, 328, 850, 852, 854, 320, 325, 856, 315, 310, 305, 300, 287, 858, 284, 281, 278, 268, 271, 265, 262, 256, 250, 245, 860, 237, 231, 223, 862, 864, 866, 868, 215, 212, 870, 206, 872, 198, 190, 182, 174, 166, 874, 442, 387, 384]] #[{ accessFlags := 2, nameIndex := 5, descriptorIndex := 6, attributes := #[] }, { accessFlags := 9, nameIndex := 646, descriptorIndex := 647, attributes := #[] }] 33 2 #[] #[{ accessFlags := 26, nameIndex := 500, descriptorIndex := 501, attributes := #[] }, { accessFlags := 26, nameIndex := 504, descriptorIndex := 501, attributes := #[] }, { accessFlags := 26, nameIndex := 506, descriptorIndex := 501, attributes := #[] }, { accessFlags := 26, nameIndex := 508, descriptorIndex := 501, attributes := #[] }, { accessFlags := 26, nameIndex := 510, descriptorIndex := 501, attributes := #[] }, { accessFlags := 26, nameIndex := 512, descriptorIndex := 501, attributes := #[] }, { accessFlags := 26, nameIndex := 514, descriptorIndex := 501, attributes := #[] }, { accessFlags := 26, nameIndex := 516, descriptorIndex := 501, attributes := #[] }, { accessFlags := 10, nameIndex := 84, descriptorIndex := 85, attributes := #[] }, { accessFlags := 25, nameIndex := 362, descriptorIndex := 363, attributes := #[] }, { accessFlags := 25, nameIndex := 370, descriptorIndex := 371, attributes := #[] }, { accessFlags := 25, nameIndex := 374, descriptorIndex := 375, attributes := #[] }])
  fields := #[{ name := "BINARYSEARCH_THRESHOLD", type := .int, accessFlags := 26, slot := 0, constantValue := 0 }, { name := "REVERSE_THRESHOLD", type := .int, accessFlags := 26, slot := 1, constantValue := 0 }, { name := "SHUFFLE_THRESHOLD", type := .int, accessFlags := 26, slot := 2, constantValue := 0 }, { name := "FILL_THRESHOLD", type := .int, accessFlags := 26, slot := 3, constantValue := 0 }, { name := "ROTATE_THRESHOLD", type := .int, accessFlags := 26, slot := 4, constantValue := 0 }, { name := "COPY_THRESHOLD", type := .int, accessFlags := 26, slot := 5, constantValue := 0 }, { name := "REPLACEALL_THRESHOLD", type := .int, accessFlags := 26, slot := 6, constantValue := 0 }, { name := "INDEXOFSUBLIST_THRESHOLD", type := .int, accessFlags := 26, slot := 7, constantValue := 0 }, { name := "r", type := (.object "java/util/Random"), accessFlags := 10, slot := 8, constantValue := 0 }, { name := "EMPTY_SET", type := (.object "java/util/Set"), accessFlags := 25, slot := 9, constantValue := 0 }, { name := "EMPTY_LIST", type := (.object "java/util/List"), accessFlags := 25, slot := 10, constantValue := 0 }, { name := "EMPTY_MAP", type := (.object "java/util/Map"), accessFlags := 25, slot := 11, constantValue := 0 }]
  methods := #[k28m0, k28m1]
  instanceTypes := #[]
  staticTypes := #[.int, .int, .int, .int, .int, .int, .int, .int, (.object "java/util/Random"), (.object "java/util/Set"), (.object "java/util/List"), (.object "java/util/Map")]
  resolved := Array.replicate 933 none
  statics := none }

def pool29 : Array CpInfo := pool [(1, .methodref 2 3), (0, .class_ 4), (0, .nameAndType 5 6), (0, u "java/lang/Object"), (0, u "<init>"), (0, u "()V"), (3, .fieldref 11 12), (0, .class_ 13), (0, .nameAndType 14 15), (0, u "java/util/Collections$UnmodifiableCollection"), (0, u "c"), (0, u "Ljava/util/Collection;"), (1, .class_ 19), (1, u "java/util/Collection"), (51, .class_ 72), (0, u "java/io/Serializable"), (0, u "serialVersionUID"), (0, u "J"), (5, u "(Ljava/util/Collection;)V"), (51, .class_ 133), (0, u "java/util/Collections")] 2

def k29c0 : Code := { maxStack := 2, maxLocals := 2, code := jdk_119_method_1_code, exceptionTable := #[], attributes := #[] }
def k29m0 : Method := { name := "<init>", desc := "(Ljava/util/Collection;)V", sig := { parameters := [(.object "java/util/Collection")], returnType := none }, accessFlags := 0, code := some k29c0 }
/-- java/util/Collections$UnmodifiableCollection -/
def k29 : Class := { plain "java/util/Collections$UnmodifiableCollection" (some 0) with
  accessFlags := 32
  interfaces := #[10, 2]
  cf := some (fileOf pool29 11 #[.nestHost 132] #[{ accessFlags := 0, nameIndex := 5, descriptorIndex := 80, attributes := #[] }] 32 2 #[17, 71] #[{ accessFlags := 26, nameIndex := 73, descriptorIndex := 74, attributes := #[] }, { accessFlags := 16, nameIndex := 14, descriptorIndex := 15, attributes := #[] }])
  fields := #[{ name := "serialVersionUID", type := .long, accessFlags := 26, slot := 0, constantValue := 0 }, { name := "c", type := (.object "java/util/Collection"), accessFlags := 16, slot := 0, constantValue := 0 }]
  methods := #[k29m0]
  instanceTypes := #[(.object "java/util/Collection")]
  staticTypes := #[.long]
  resolved := Array.replicate 136 none
  statics := none }

def pool30 : Array CpInfo := pool [(1, .methodref 2 3), (0, .class_ 4), (0, .nameAndType 5 6), (0, u "java/util/Collections$UnmodifiableCollection"), (0, u "<init>"), (0, u "(Ljava/util/Collection;)V"), (0, .fieldref 8 9), (0, .class_ 10), (0, .nameAndType 11 12), (0, u "java/util/Collections$UnmodifiableList"), (0, u "list"), (0, u "Ljava/util/List;"), (1, .class_ 16), (1, u "java/util/List"), (37, u "(Ljava/util/List;)V"), (5, u "serialVersionUID"), (0, u "J"), (59, .class_ 122), (0, u "java/util/Collections")] 4

def k30c0 : Code := { maxStack := 2, maxLocals := 2, code := jdk_120_method_1_code, exceptionTable := #[], attributes := #[] }
def k30m0 : Method := { name := "<init>", desc := "(Ljava/util/List;)V", sig := { parameters := [(.object "java/util/List")], returnType := none }, accessFlags := 0, code := some k30c0 }
/-- java/util/Collections$UnmodifiableList -/
def k30 : Class := { plain "java/util/Collections$UnmodifiableList" (some 29) with
  accessFlags := 32
  interfaces := #[13]
  cf := some (fileOf pool30 8 #[.nestHost 121] #[{ accessFlags := 0, nameIndex := 5, descriptorIndex := 54, attributes := #[] }] 32 2 #[14] #[{ accessFlags := 26, nameIndex := 60, descriptorIndex := 61, attributes := #[] }, { accessFlags := 16, nameIndex := 11, descriptorIndex := 12, attributes := #[] }])
  fields := #[{ name := "serialVersionUID", type := .long, accessFlags := 26, slot := 0, constantValue := 0 }, { name := "list", type := (.object "java/util/List"), accessFlags := 16, slot := 1, constantValue := 0 }]
  methods := #[k30m0]
  instanceTypes := #[(.object "java/util/Collection"), (.object "java/util/List")]
  staticTypes := #[.long]
  resolved := Array.replicate 127 none
  mirror := some 6
  statics := none }

def pool31 : Array CpInfo := pool [(1, .methodref 2 3), (0, .class_ 4), (0, .nameAndType 5 6), (0, u "java/util/Collections$UnmodifiableList"), (0, u "<init>"), (0, u "(Ljava/util/List;)V"), (0, .class_ 8), (0, u "java/util/Collections$UnmodifiableRandomAccessList"), (11, .class_ 21), (0, u "java/util/RandomAccess"), (0, u "serialVersionUID"), (0, u "J"), (23, .class_ 48), (0, u "java/util/Collections")] 3

def k31c0 : Code := { maxStack := 2, maxLocals := 2, code := jdk_121_method_1_code, exceptionTable := #[], attributes := #[] }
def k31m0 : Method := { name := "<init>", desc := "(Ljava/util/List;)V", sig := { parameters := [(.object "java/util/List")], returnType := none }, accessFlags := 0, code := some k31c0 }
/-- java/util/Collections$UnmodifiableRandomAccessList -/
def k31 : Class := { plain "java/util/Collections$UnmodifiableRandomAccessList" (some 30) with
  accessFlags := 32
  interfaces := #[15]
  cf := some (fileOf pool31 7 #[.nestHost 47] #[{ accessFlags := 0, nameIndex := 5, descriptorIndex := 6, attributes := #[] }] 32 2 #[20] #[{ accessFlags := 26, nameIndex := 22, descriptorIndex := 23, attributes := #[] }])
  fields := #[{ name := "serialVersionUID", type := .long, accessFlags := 26, slot := 0, constantValue := 0 }]
  methods := #[k31m0]
  instanceTypes := #[(.object "java/util/Collection"), (.object "java/util/List")]
  staticTypes := #[.long]
  resolved := Array.replicate 52 none
  mirror := some 7
  statics := none }

def pool32 : Array CpInfo := pool [(4, .class_ 6), (1, u "java/lang/Object"), (0, u "<init>"), (0, u "()V"), (5, .class_ 16), (1, u "java/lang/StringLatin1"), (104, u "$assertionsDisabled"), (0, u "Z"), (98, .class_ 223), (1, u "java/lang/StringLatin1$LinesSpliterator"), (166, .class_ 391), (0, u "java/lang/StringLatin1$CharsSpliterator")] 3

def k32m0 : Method := { name := "<init>", desc := "()V", sig := { parameters := [], returnType := none }, accessFlags := 0, code := none }
/-- java/lang/StringLatin1 -/
def k32 : Class := { plain "java/lang/StringLatin1" (some 0) with
  accessFlags := 48
  interfaces := #[]
  cf := some (fileOf pool32 14 #[.nestMembers #[390, 221]] #[{ accessFlags := 0, nameIndex := 7, descriptorIndex := 8, attributes := #[] }] 48 4 #[] #[{ accessFlags := 4120, nameIndex := 121, descriptorIndex := 122, attributes := #[] }])
  fields := #[{ name := "$assertionsDisabled", type := .boolean, accessFlags := 4120, slot := 0, constantValue := 0 }]
  methods := #[k32m0]
  instanceTypes := #[]
  staticTypes := #[.boolean]
  resolved := Array.replicate 395 none
  statics := none }

def pool33 : Array CpInfo := pool [(2, .class_ 4), (1, u "java/lang/Object"), (0, u "<init>"), (0, u "()V"), (17, .class_ 26), (1, u "jdk/internal/util/Preconditions"), (28, .class_ 56), (0, u "jdk/internal/util/Preconditions$4"), (57, .class_ 115), (0, u "jdk/internal/util/Preconditions$1"), (7, u "SIOOBE_FORMATTER"), (0, u "Ljava/util/function/BiFunction;"), (0, .class_ 126), (0, u "jdk/internal/util/Preconditions$2"), (3, u "AIOOBE_FORMATTER"), (0, .class_ 132), (0, u "jdk/internal/util/Preconditions$3"), (3, u "IOOBE_FORMATTER")] 57

def k33m0 : Method := { name := "<init>", desc := "()V", sig := { parameters := [], returnType := none }, accessFlags := 1, code := none }
/-- jdk/internal/util/Preconditions -/
def k33 : Class := { plain "jdk/internal/util/Preconditions" (some 0) with
  accessFlags := 33
  interfaces := #[]
  cf := some (fileOf pool33 24 #[.nestMembers #[55, 131, 125, 114]] #[{ accessFlags := 1, nameIndex := 5, descriptorIndex := 6, attributes := #[] }] 33 2 #[] #[{ accessFlags := 25, nameIndex := 123, descriptorIndex := 124, attributes := #[] }, { accessFlags := 25, nameIndex := 130, descriptorIndex := 124, attributes := #[] }, { accessFlags := 25, nameIndex := 136, descriptorIndex := 124, attributes := #[] }])
  fields := #[{ name := "SIOOBE_FORMATTER", type := (.object "java/util/function/BiFunction"), accessFlags := 25, slot := 0, constantValue := 0 }, { name := "AIOOBE_FORMATTER", type := (.object "java/util/function/BiFunction"), accessFlags := 25, slot := 1, constantValue := 0 }, { name := "IOOBE_FORMATTER", type := (.object "java/util/function/BiFunction"), accessFlags := 25, slot := 2, constantValue := 0 }]
  methods := #[k33m0]
  instanceTypes := #[]
  staticTypes := #[(.object "java/util/function/BiFunction"), (.object "java/util/function/BiFunction"), (.object "java/util/function/BiFunction")]
  resolved := Array.replicate 194 none
  statics := some 3 }

def pool34 : Array CpInfo := pool [(9, u "<init>"), (6, .class_ 18), (1, u "java/lang/Object"), (0, u "()V"), (1, .class_ 23), (1, u "jdk/internal/util/ArraysSupport"), (0, u "LOG2_ARRAY_LONG_INDEX_SCALE"), (0, u "I"), (2, u "U"), (0, u "Ljdk/internal/misc/Unsafe;"), (8, u "BIG_ENDIAN"), (0, u "Z"), (8, u "LOG2_BYTE_BIT_SIZE"), (4, u "LOG2_ARRAY_INT_INDEX_SCALE"), (54, u "JLA"), (0, u "Ljdk/internal/access/JavaLangAccess;"), (11, u "LOG2_ARRAY_BOOLEAN_INDEX_SCALE"), (9, u "LOG2_ARRAY_BYTE_INDEX_SCALE"), (5, u "LOG2_ARRAY_CHAR_INDEX_SCALE"), (5, u "LOG2_ARRAY_SHORT_INDEX_SCALE"), (18, u "LOG2_ARRAY_FLOAT_INDEX_SCALE"), (24, u "LOG2_ARRAY_DOUBLE_INDEX_SCALE"), (89, u "T_BOOLEAN"), (2, u "T_CHAR"), (1, u "T_FLOAT"), (1, u "T_DOUBLE"), (1, u "T_BYTE"), (1, u "T_SHORT"), (1, u "T_INT"), (1, u "T_LONG"), (1, u "SOFT_MAX_ARRAY_LENGTH")] 83

def k34m0 : Method := { name := "<init>", desc := "()V", sig := { parameters := [], returnType := none }, accessFlags := 2, code := none }
/-- jdk/internal/util/ArraysSupport -/
def k34 : Class := { plain "jdk/internal/util/ArraysSupport" (some 0) with
  accessFlags := 33
  interfaces := #[]
  cf := some (fileOf pool34 21 #[] #[{ accessFlags := 2, nameIndex := 9, descriptorIndex := 19, attributes := #[] }] 33 16 #[] #[{ accessFlags := 24, nameIndex := 28, descriptorIndex := 29, attributes := #[] }, { accessFlags := 26, nameIndex := 38, descriptorIndex := 39, attributes := #[] }, { accessFlags := 25, nameIndex := 121, descriptorIndex := 25, attributes := #[] }, { accessFlags := 25, nameIndex := 131, descriptorIndex := 25, attributes := #[] }, { accessFlags := 25, nameIndex := 137, descriptorIndex := 25, attributes := #[] }, { accessFlags := 25, nameIndex := 143, descriptorIndex := 25, attributes := #[] }, { accessFlags := 25, nameIndex := 53, descriptorIndex := 25, attributes := #[] }, { accessFlags := 25, nameIndex := 24, descriptorIndex := 25, attributes := #[] }, { accessFlags := 25, nameIndex := 162, descriptorIndex := 25, attributes := #[] }, { accessFlags := 25, nameIndex := 187, descriptorIndex := 25, attributes := #[] }, { accessFlags := 26, nameIndex := 48, descriptorIndex := 25, attributes := #[] }, { accessFlags := 25, nameIndex := 277, descriptorIndex := 25, attributes := #[] }, { accessFlags := 25, nameIndex := 280, descriptorIndex := 25, attributes := #[] }, { accessFlags := 25, nameIndex := 282, descriptorIndex := 25, attributes := #[] }, { accessFlags := 25, nameIndex := 284, descriptorIndex := 25, attributes := #[] }, { accessFlags := 25, nameIndex := 286, descriptorIndex := 25, attributes := #[] }, { accessFlags := 25, nameIndex := 288, descriptorIndex := 25, attributes := #[] }, { accessFlags := 25, nameIndex := 290, descriptorIndex := 25, attributes := #[] }, { accessFlags := 25, nameIndex := 292, descriptorIndex := 25, attributes := #[] }, { accessFlags := 26, nameIndex := 108, descriptorIndex := 109, attributes := #[] }, { accessFlags := 25, nameIndex := 294, descriptorIndex := 25, attributes := #[] }])
  fields := #[{ name := "U", type := (.object "jdk/internal/misc/Unsafe"), accessFlags := 24, slot := 0, constantValue := 0 }, { name := "BIG_ENDIAN", type := .boolean, accessFlags := 26, slot := 1, constantValue := 0 }, { name := "LOG2_ARRAY_BOOLEAN_INDEX_SCALE", type := .int, accessFlags := 25, slot := 2, constantValue := 0 }, { name := "LOG2_ARRAY_BYTE_INDEX_SCALE", type := .int, accessFlags := 25, slot := 3, constantValue := 0 }, { name := "LOG2_ARRAY_CHAR_INDEX_SCALE", type := .int, accessFlags := 25, slot := 4, constantValue := 0 }, { name := "LOG2_ARRAY_SHORT_INDEX_SCALE", type := .int, accessFlags := 25, slot := 5, constantValue := 0 }, { name := "LOG2_ARRAY_INT_INDEX_SCALE", type := .int, accessFlags := 25, slot := 6, constantValue := 0 }, { name := "LOG2_ARRAY_LONG_INDEX_SCALE", type := .int, accessFlags := 25, slot := 7, constantValue := 0 }, { name := "LOG2_ARRAY_FLOAT_INDEX_SCALE", type := .int, accessFlags := 25, slot := 8, constantValue := 0 }, { name := "LOG2_ARRAY_DOUBLE_INDEX_SCALE", type := .int, accessFlags := 25, slot := 9, constantValue := 0 }, { name := "LOG2_BYTE_BIT_SIZE", type := .int, accessFlags := 26, slot := 10, constantValue := 0 }, { name := "T_BOOLEAN", type := .int, accessFlags := 25, slot := 11, constantValue := 0 }, { name := "T_CHAR", type := .int, accessFlags := 25, slot := 12, constantValue := 0 }, { name := "T_FLOAT", type := .int, accessFlags := 25, slot := 13, constantValue := 0 }, { name := "T_DOUBLE", type := .int, accessFlags := 25, slot := 14, constantValue := 0 }, { name := "T_BYTE", type := .int, accessFlags := 25, slot := 15, constantValue := 0 }, { name := "T_SHORT", type := .int, accessFlags := 25, slot := 16, constantValue := 0 }, { name := "T_INT", type := .int, accessFlags := 25, slot := 17, constantValue := 0 }, { name := "T_LONG", type := .int, accessFlags := 25, slot := 18, constantValue := 0 }, { name := "JLA", type := (.object "jdk/internal/access/JavaLangAccess"), accessFlags := 26, slot := 19, constantValue := 0 }, { name := "SOFT_MAX_ARRAY_LENGTH", type := .int, accessFlags := 25, slot := 20, constantValue := 0 }]
  methods := #[k34m0]
  instanceTypes := #[]
  staticTypes := #[(.object "jdk/internal/misc/Unsafe"), .boolean, .int, .int, .int, .int, .int, .int, .int, .int, .int, .int, .int, .int, .int, .int, .int, .int, .int, (.object "jdk/internal/access/JavaLangAccess"), .int]
  resolved := Array.replicate 378 none
  statics := none }

def pool35 : Array CpInfo := pool [(1, u "java/lang/Class"), (0, .class_ 1), (0, u "java/lang/Object"), (0, .class_ 3)] 3

/-- java/lang/Class -/
def k35 : Class := { plain "java/lang/Class" (some 0) with
  accessFlags := 49
  interfaces := #[]
  cf := some (fileOf pool35 2 #[] #[] 49 4 #[] #[])
  fields := #[]
  methods := #[]
  instanceTypes := #[]
  staticTypes := #[]
  resolved := Array.replicate 8 none
  statics := none }

/-- the primitive byte -/
def k36 : Class := { plain "byte" none with kind := .primitive 'B', accessFlags := 0x411 }
/-- [B -/
def k37 : Class := { plain "[B" (some 0) with kind := .array 36 .byte, interfaces := #[16, 2], accessFlags := 1041 }

/-- the primitive char -/
def k38 : Class := { plain "char" none with kind := .primitive 'C', accessFlags := 0x411 }
/-- [C -/
def k39 : Class := { plain "[C" (some 0) with kind := .array 38 .char, interfaces := #[16, 2], accessFlags := 1041 }

/-- the primitive int -/
def k40 : Class := { plain "int" none with kind := .primitive 'I', accessFlags := 0x411 }
/-- [I -/
def k41 : Class := { plain "[I" (some 0) with kind := .array 40 .int, interfaces := #[16, 2], accessFlags := 1041 }

/-- [Ljava/lang/Object; -/
def k42 : Class := { plain "[Ljava/lang/Object;" (some 0) with
  mirror := some 4
  kind := .array 0 (.object "java/lang/Object")
  interfaces := #[16, 2]
  accessFlags := 1041 }

def heap : Heap := #[{ cls := 7, slots := #[.long 0, .int 1, .null, .int 0, .null, .int 0, .int 0], vm := .statics 7 },
  { cls := 17, slots := #[.long 0, .int 0, .ref 8, .ref 9], vm := .statics 17 },
  { cls := 20, slots := #[.long 0, .int 0, .null, .ref 10, .ref 11, .null, .null, .null, .int 0, .int 1], vm := .statics 20 },
  { cls := 33, slots := #[.null, .null, .null], vm := .statics 33 },
  { cls := 35, slots := #[], vm := .mirror 42 },
  { cls := 35, slots := #[], vm := .mirror 17 },
  { cls := 35, slots := #[], vm := .mirror 30 },
  { cls := 35, slots := #[], vm := .mirror 31 },
  { cls := 42, slots := #[], vm := .none },
  { cls := 42, slots := #[], vm := .none },
  { cls := 0, slots := #[], vm := .none },
  { cls := 24, slots := #[.null, .int 0], vm := .none }]
def classes : Array Class := #[k0, k1, k2, k3, k4, k5, k6, k7, k8, k9, k10, k11, k12, k13, k14, k15, k16, k17, k18, k19, k20, k21, k22, k23, k24, k25, k26, k27, k28, k29, k30, k31, k32, k33, k34, k35, k36, k37, k38, k39, k40, k41, k42]
def interned : List (Array UInt16 × Addr) := []
def slotsUsed : Nat := 26
def theMethod : MethodId := ⟨1, 2⟩
def args0 : Array Value := #[.int 5, .int 5, .int 5, .int 5, .int 5, .int 5]
def aboutOver (below : List Frame) : State where
  vm := { classes := classes, interned := interned.toArray }
  heap := heap
  slotsUsed := slotsUsed
  threads := #[{ frames := .invoking theMethod args0 :: below }]
def below0 : List Frame := [.native { method := ⟨0, 0⟩, args := #[] }]
def about1 : State := aboutOver below0
def p0 : Program := .bare "" "" ""
def e0 : Env := launch0.env 0 0 0
theorem w_frames : about1.frames = Frame.invoking theMethod args0 :: below0 := rfl
set_option maxRecDepth 65536 in
theorem w_args : argsFit about1.vm theMethod args0 = true := by decide +kernel
set_option maxRecDepth 65536 in
theorem w_heap : heapFits about1 = true := by decide +kernel
set_option maxRecDepth 65536 in
theorem w_runnable : about1.curStatus? = some .runnable := by decide +kernel
set_option maxRecDepth 65536 in
theorem w_alone : about1.alone = true := by decide +kernel
set_option maxRecDepth 65536 in
theorem w_named : about1.methodNamed? x = some theMethod := by decide +kernel
set_option maxRecDepth 65536 in
theorem w_hears : about1.hears theMethod below0 = true := by decide +kernel
set_option maxRecDepth 65536 in
theorem w_ripe : about1.ripe theMethod args0 below0 = true := by decide +kernel
theorem w_running : about1.status = .running := rfl
set_option maxRecDepth 65536 in
theorem w_room : about1.hasRoom e0.platform room_1 = true :=
  launch0.hasRoom_least _ room_1 (by decide +kernel) (by decide +kernel) (by decide +kernel) (by decide +kernel) (by decide +kernel) (by decide +kernel)
theorem allAtoms_all (ts : List Jvm.Cond) (a : Array Jvm.Value) (st : Jvm.State) : (allAtoms ts).before a st = ts.all (fun c => c.before a st) := by
  induction ts with
  | nil => rfl
  | cons c t ih =>
    show (Jvm.Cond.and c (allAtoms t)).before a st = _
    rw [Jvm.Cond.before_and, ih, List.all_cons]
def words1 : List Jvm.Cond := Jvm.Cond.code x code maxLocals ret :: tables_1
/-- a 'code' word, met by the world's own term for the bytes: nothing is compared byte by byte -/
theorem code_word {y : MethodName} {bytes : ByteArray} {mx : Nat} {rt : Option FieldType} {a : Array Value} {s : State} {m : MethodId} {meth : Method} {c : Code} (h1 : s.methodNamed? y = some m) (h2 : s.vm.method? m = some meth) (h3 : meth.code = some c) (h4 : c.code = bytes)
    (h5 : (c.maxLocals == mx && c.exceptionTable.isEmpty && decide (c.maxStack ≤ mostOperands) && decide (meth.sig.returnType = rt) && !meth.locks && decide (parseMethodDescriptor y.desc = some meth.sig)) = true) : (Jvm.Cond.code y bytes mx rt).before a s = true := by
  simp only [Bool.and_eq_true, beq_iff_eq, Bool.not_eq_true', decide_eq_true_eq] at h5
  obtain ⟨⟨⟨⟨⟨g1, g2⟩, g3⟩, g4⟩, g5⟩, g6⟩ := h5
  simp [Cond.before, Cond.holds, Cond.value, h1, h2, h3, h4, g1, g2, g3, g4, g5, g6]
def isCode : Jvm.Cond → Bool
  | .code _ _ _ _ => true
  | _ => false
theorem all_split {L : List Jvm.Cond} {P : Jvm.Cond → Bool} (h1 : L.all (fun c => isCode c || P c) = true) (h2 : ∀ c ∈ L.filter isCode, P c = true) : L.all P = true := by
  refine List.all_eq_true.mpr fun c hc => ?_
  have h := List.all_eq_true.mp h1 c hc
  rcases Bool.eq_false_or_eq_true (isCode c) with hi | hi
  · exact h2 c (List.mem_filter.mpr ⟨hc, hi⟩)
  · simpa [hi] using h
set_option maxRecDepth 65536 in
theorem w_c0 : (Jvm.Cond.code x code maxLocals ret).before args0 about1 = true := code_word (m := ⟨1, 2⟩) (meth := k1m2) (c := k1c2) (by decide +kernel) rfl rfl rfl (by decide +kernel)
set_option maxRecDepth 65536 in
theorem w_c1 : (Jvm.Cond.code ({ cls := "com/example/frosted_rows/frostedrows/release/PublishedGroupCellPinLaw", name := "str", desc := "(I)Ljava/lang/String;" } : Jvm.MethodName) method_2_code (3 : Nat) (Option.some (Jvm.ClassFile.FieldType.object "java/lang/String"))).before args0 about1 = true := code_word (m := ⟨1, 1⟩) (meth := k1m1) (c := k1c1) (by decide +kernel) rfl rfl rfl (by decide +kernel)
set_option maxRecDepth 65536 in
theorem w_c2 : (Jvm.Cond.code ({ cls := "java/lang/String", name := "<init>", desc := "([C)V" } : Jvm.MethodName) jdk_42_method_3_code (2 : Nat) (Option.none : Option Jvm.ClassFile.FieldType)).before args0 about1 = true := code_word (m := ⟨7, 1⟩) (meth := k7m1) (c := k7c1) (by decide +kernel) rfl rfl rfl (by decide +kernel)
set_option maxRecDepth 65536 in
theorem w_c3 : (Jvm.Cond.code ({ cls := "java/lang/String", name := "<init>", desc := "([CIILjava/lang/Void;)V" } : Jvm.MethodName) jdk_42_method_149_code (6 : Nat) (Option.none : Option Jvm.ClassFile.FieldType)).before args0 about1 = true := code_word (m := ⟨7, 3⟩) (meth := k7m3) (c := k7c3) (by decide +kernel) rfl rfl rfl (by decide +kernel)
set_option maxRecDepth 65536 in
theorem w_c4 : (Jvm.Cond.code ({ cls := "java/lang/Object", name := "<init>", desc := "()V" } : Jvm.MethodName) object_method_1_code (1 : Nat) (Option.none : Option Jvm.ClassFile.FieldType)).before args0 about1 = true := code_word (m := ⟨0, 0⟩) (meth := k0m0) (c := k0c0) (by decide +kernel) rfl rfl rfl (by decide +kernel)
set_option maxRecDepth 65536 in
theorem w_c5 : (Jvm.Cond.code ({ cls := "java/lang/StringUTF16", name := "compress", desc := "([CII)[B" } : Jvm.MethodName) jdk_52_method_16_code (6 : Nat) (Option.some (Jvm.ClassFile.FieldType.array Jvm.ClassFile.FieldType.byte))).before args0 about1 = true := code_word (m := ⟨8, 2⟩) (meth := k8m2) (c := k8c2) (by decide +kernel) rfl rfl rfl (by decide +kernel)
set_option maxRecDepth 65536 in
theorem w_c6 : (Jvm.Cond.code ({ cls := "java/lang/StringUTF16", name := "compress", desc := "([CI[BII)I" } : Jvm.MethodName) jdk_52_method_21_code (7 : Nat) (Option.some Jvm.ClassFile.FieldType.int)).before args0 about1 = true := code_word (m := ⟨8, 3⟩) (meth := k8m3) (c := k8c3) (by decide +kernel) rfl rfl rfl (by decide +kernel)
set_option maxRecDepth 65536 in
theorem w_c7 : (Jvm.Cond.code ({ cls := "java/lang/StringUTF16", name := "coderFromArrayLen", desc := "([BI)B" } : Jvm.MethodName) jdk_52_method_15_code (2 : Nat) (Option.some Jvm.ClassFile.FieldType.byte)).before args0 about1 = true := code_word (m := ⟨8, 1⟩) (meth := k8m1) (c := k8c1) (by decide +kernel) rfl rfl rfl (by decide +kernel)
set_option maxRecDepth 65536 in
theorem w_c8 : (Jvm.Cond.code ({ cls := "java/util/ArrayList", name := "<init>", desc := "()V" } : Jvm.MethodName) jdk_38_method_2_code (1 : Nat) (Option.none : Option Jvm.ClassFile.FieldType)).before args0 about1 = true := code_word (m := ⟨17, 0⟩) (meth := k17m0) (c := k17c0) (by decide +kernel) rfl rfl rfl (by decide +kernel)
set_option maxRecDepth 65536 in
theorem w_c9 : (Jvm.Cond.code ({ cls := "java/util/AbstractList", name := "<init>", desc := "()V" } : Jvm.MethodName) jdk_39_method_1_code (1 : Nat) (Option.none : Option Jvm.ClassFile.FieldType)).before args0 about1 = true := code_word (m := ⟨14, 0⟩) (meth := k14m0) (c := k14c0) (by decide +kernel) rfl rfl rfl (by decide +kernel)
set_option maxRecDepth 65536 in
theorem w_c10 : (Jvm.Cond.code ({ cls := "java/util/AbstractCollection", name := "<init>", desc := "()V" } : Jvm.MethodName) jdk_22_method_1_code (1 : Nat) (Option.none : Option Jvm.ClassFile.FieldType)).before args0 about1 = true := code_word (m := ⟨11, 0⟩) (meth := k11m0) (c := k11c0) (by decide +kernel) rfl rfl rfl (by decide +kernel)
set_option maxRecDepth 65536 in
theorem w_c11 : (Jvm.Cond.code ({ cls := "java/util/ArrayList", name := "add", desc := "(Ljava/lang/Object;)Z" } : Jvm.MethodName) jdk_38_method_25_code (2 : Nat) (Option.some Jvm.ClassFile.FieldType.boolean)).before args0 about1 = true := code_word (m := ⟨17, 6⟩) (meth := k17m6) (c := k17c6) (by decide +kernel) rfl rfl rfl (by decide +kernel)
set_option maxRecDepth 65536 in
theorem w_c12 : (Jvm.Cond.code ({ cls := "java/util/ArrayList", name := "add", desc := "(Ljava/lang/Object;[Ljava/lang/Object;I)V" } : Jvm.MethodName) jdk_38_method_24_code (4 : Nat) (Option.none : Option Jvm.ClassFile.FieldType)).before args0 about1 = true := code_word (m := ⟨17, 5⟩) (meth := k17m5) (c := k17c5) (by decide +kernel) rfl rfl rfl (by decide +kernel)
set_option maxRecDepth 65536 in
theorem w_c13 : (Jvm.Cond.code ({ cls := "java/util/ArrayList", name := "grow", desc := "()[Ljava/lang/Object;" } : Jvm.MethodName) jdk_38_method_7_code (1 : Nat) (Option.some (Jvm.ClassFile.FieldType.array (Jvm.ClassFile.FieldType.object "java/lang/Object")))).before args0 about1 = true := code_word (m := ⟨17, 2⟩) (meth := k17m2) (c := k17c2) (by decide +kernel) rfl rfl rfl (by decide +kernel)
set_option maxRecDepth 65536 in
theorem w_c14 : (Jvm.Cond.code ({ cls := "java/util/ArrayList", name := "grow", desc := "(I)[Ljava/lang/Object;" } : Jvm.MethodName) jdk_38_method_6_code (4 : Nat) (Option.some (Jvm.ClassFile.FieldType.array (Jvm.ClassFile.FieldType.object "java/lang/Object")))).before args0 about1 = true := code_word (m := ⟨17, 1⟩) (meth := k17m1) (c := k17c1) (by decide +kernel) rfl rfl rfl (by decide +kernel)
set_option maxRecDepth 65536 in
theorem w_c15 : (Jvm.Cond.code ({ cls := "java/lang/Math", name := "max", desc := "(II)I" } : Jvm.MethodName) jdk_29_method_65_code (2 : Nat) (Option.some Jvm.ClassFile.FieldType.int)).before args0 about1 = true := code_word (m := ⟨18, 1⟩) (meth := k18m1) (c := k18c1) (by decide +kernel) rfl rfl rfl (by decide +kernel)
set_option maxRecDepth 65536 in
theorem w_c16 : (Jvm.Cond.code ({ cls := "com/example/frosted_rows/frostedrows/release/PublishedGroup", name := "<init>", desc := "(Ljava/lang/String;Ljava/util/List;[ILjava/util/List;)V" } : Jvm.MethodName) prog_13_method_1_code (5 : Nat) (Option.none : Option Jvm.ClassFile.FieldType)).before args0 about1 = true := code_word (m := ⟨19, 0⟩) (meth := k19m0) (c := k19c0) (by decide +kernel) rfl rfl rfl (by decide +kernel)
set_option maxRecDepth 65536 in
theorem w_c17 : (Jvm.Cond.code ({ cls := "java/util/List", name := "copyOf", desc := "(Ljava/util/Collection;)Ljava/util/List;" } : Jvm.MethodName) jdk_40_method_48_code (1 : Nat) (Option.some (Jvm.ClassFile.FieldType.object "java/util/List"))).before args0 about1 = true := code_word (m := ⟨13, 2⟩) (meth := k13m2) (c := k13c2) (by decide +kernel) rfl rfl rfl (by decide +kernel)
set_option maxRecDepth 65536 in
theorem w_c18 : (Jvm.Cond.code ({ cls := "java/util/ImmutableCollections", name := "listCopy", desc := "(Ljava/util/Collection;)Ljava/util/List;" } : Jvm.MethodName) jdk_56_method_3_code (2 : Nat) (Option.some (Jvm.ClassFile.FieldType.object "java/util/List"))).before args0 about1 = true := code_word (m := ⟨20, 1⟩) (meth := k20m1) (c := k20c1) (by decide +kernel) rfl rfl rfl (by decide +kernel)
set_option maxRecDepth 65536 in
theorem w_c19 : (Jvm.Cond.code ({ cls := "java/util/ArrayList", name := "isEmpty", desc := "()Z" } : Jvm.MethodName) jdk_38_method_9_code (1 : Nat) (Option.some Jvm.ClassFile.FieldType.boolean)).before args0 about1 = true := code_word (m := ⟨17, 3⟩) (meth := k17m3) (c := k17c3) (by decide +kernel) rfl rfl rfl (by decide +kernel)
set_option maxRecDepth 65536 in
theorem w_c20 : (Jvm.Cond.code ({ cls := "java/util/ArrayList", name := "toArray", desc := "()[Ljava/lang/Object;" } : Jvm.MethodName) jdk_38_method_16_code (1 : Nat) (Option.some (Jvm.ClassFile.FieldType.array (Jvm.ClassFile.FieldType.object "java/lang/Object")))).before args0 about1 = true := code_word (m := ⟨17, 4⟩) (meth := k17m4) (c := k17c4) (by decide +kernel) rfl rfl rfl (by decide +kernel)
set_option maxRecDepth 65536 in
theorem w_c21 : (Jvm.Cond.code ({ cls := "java/util/Arrays", name := "copyOf", desc := "([Ljava/lang/Object;I)[Ljava/lang/Object;" } : Jvm.MethodName) jdk_65_method_119_code (2 : Nat) (Option.some (Jvm.ClassFile.FieldType.array (Jvm.ClassFile.FieldType.object "java/lang/Object")))).before args0 about1 = true := code_word (m := ⟨25, 1⟩) (meth := k25m1) (c := k25c1) (by decide +kernel) rfl rfl rfl (by decide +kernel)
set_option maxRecDepth 65536 in
theorem w_c22 : (Jvm.Cond.code ({ cls := "java/util/Arrays", name := "copyOf", desc := "([Ljava/lang/Object;ILjava/lang/Class;)[Ljava/lang/Object;" } : Jvm.MethodName) jdk_65_method_120_code (4 : Nat) (Option.some (Jvm.ClassFile.FieldType.array (Jvm.ClassFile.FieldType.object "java/lang/Object")))).before args0 about1 = true := code_word (m := ⟨25, 2⟩) (meth := k25m2) (c := k25c2) (by decide +kernel) rfl rfl rfl (by decide +kernel)
set_option maxRecDepth 65536 in
theorem w_c23 : (Jvm.Cond.code ({ cls := "java/lang/Math", name := "min", desc := "(II)I" } : Jvm.MethodName) jdk_29_method_69_code (2 : Nat) (Option.some Jvm.ClassFile.FieldType.int)).before args0 about1 = true := code_word (m := ⟨18, 2⟩) (meth := k18m2) (c := k18c2) (by decide +kernel) rfl rfl rfl (by decide +kernel)
set_option maxRecDepth 65536 in
theorem w_c24 : (Jvm.Cond.code ({ cls := "java/util/List", name := "of", desc := "([Ljava/lang/Object;)Ljava/util/List;" } : Jvm.MethodName) jdk_40_method_47_code (2 : Nat) (Option.some (Jvm.ClassFile.FieldType.object "java/util/List"))).before args0 about1 = true := code_word (m := ⟨13, 1⟩) (meth := k13m1) (c := k13c1) (by decide +kernel) rfl rfl rfl (by decide +kernel)
set_option maxRecDepth 65536 in
theorem w_c25 : (Jvm.Cond.code ({ cls := "java/util/ImmutableCollections$List12", name := "<init>", desc := "(Ljava/lang/Object;Ljava/lang/Object;)V" } : Jvm.MethodName) jdk_44_method_2_code (3 : Nat) (Option.none : Option Jvm.ClassFile.FieldType)).before args0 about1 = true := code_word (m := ⟨23, 1⟩) (meth := k23m1) (c := k23c1) (by decide +kernel) rfl rfl rfl (by decide +kernel)
set_option maxRecDepth 65536 in
theorem w_c26 : (Jvm.Cond.code ({ cls := "java/util/ImmutableCollections$AbstractImmutableList", name := "<init>", desc := "()V" } : Jvm.MethodName) jdk_46_method_1_code (1 : Nat) (Option.none : Option Jvm.ClassFile.FieldType)).before args0 about1 = true := code_word (m := ⟨22, 0⟩) (meth := k22m0) (c := k22c0) (by decide +kernel) rfl rfl rfl (by decide +kernel)
set_option maxRecDepth 65536 in
theorem w_c27 : (Jvm.Cond.code ({ cls := "java/util/ImmutableCollections$AbstractImmutableCollection", name := "<init>", desc := "()V" } : Jvm.MethodName) jdk_47_method_1_code (1 : Nat) (Option.none : Option Jvm.ClassFile.FieldType)).before args0 about1 = true := code_word (m := ⟨21, 0⟩) (meth := k21m0) (c := k21c0) (by decide +kernel) rfl rfl rfl (by decide +kernel)
set_option maxRecDepth 65536 in
theorem w_c28 : (Jvm.Cond.code ({ cls := "java/util/Objects", name := "requireNonNull", desc := "(Ljava/lang/Object;)Ljava/lang/Object;" } : Jvm.MethodName) jdk_31_method_10_code (1 : Nat) (Option.some (Jvm.ClassFile.FieldType.object "java/lang/Object"))).before args0 about1 = true := code_word (m := ⟨27, 1⟩) (meth := k27m1) (c := k27c1) (by decide +kernel) rfl rfl rfl (by decide +kernel)
set_option maxRecDepth 65536 in
theorem w_c29 : (Jvm.Cond.code ({ cls := "java/util/Collections", name := "unmodifiableList", desc := "(Ljava/util/List;)Ljava/util/List;" } : Jvm.MethodName) jdk_79_method_35_code (1 : Nat) (Option.some (Jvm.ClassFile.FieldType.object "java/util/List"))).before args0 about1 = true := code_word (m := ⟨28, 1⟩) (meth := k28m1) (c := k28c1) (by decide +kernel) rfl rfl rfl (by decide +kernel)
set_option maxRecDepth 65536 in
theorem w_c30 : (Jvm.Cond.code ({ cls := "java/util/Collections$UnmodifiableRandomAccessList", name := "<init>", desc := "(Ljava/util/List;)V" } : Jvm.MethodName) jdk_121_method_1_code (2 : Nat) (Option.none : Option Jvm.ClassFile.FieldType)).before args0 about1 = true := code_word (m := ⟨31, 0⟩) (meth := k31m0) (c := k31c0) (by decide +kernel) rfl rfl rfl (by decide +kernel)
set_option maxRecDepth 65536 in
theorem w_c31 : (Jvm.Cond.code ({ cls := "java/util/Collections$UnmodifiableList", name := "<init>", desc := "(Ljava/util/List;)V" } : Jvm.MethodName) jdk_120_method_1_code (2 : Nat) (Option.none : Option Jvm.ClassFile.FieldType)).before args0 about1 = true := code_word (m := ⟨30, 0⟩) (meth := k30m0) (c := k30c0) (by decide +kernel) rfl rfl rfl (by decide +kernel)
set_option maxRecDepth 65536 in
theorem w_c32 : (Jvm.Cond.code ({ cls := "java/util/Collections$UnmodifiableCollection", name := "<init>", desc := "(Ljava/util/Collection;)V" } : Jvm.MethodName) jdk_119_method_1_code (2 : Nat) (Option.none : Option Jvm.ClassFile.FieldType)).before args0 about1 = true := code_word (m := ⟨29, 0⟩) (meth := k29m0) (c := k29c0) (by decide +kernel) rfl rfl rfl (by decide +kernel)
set_option maxRecDepth 65536 in
theorem w_c33 : (Jvm.Cond.code ({ cls := "com/example/frosted_rows/frostedrows/release/PublishedGroup", name := "cell", desc := "(I)Ljava/lang/String;" } : Jvm.MethodName) prog_13_method_3_code (2 : Nat) (Option.some (Jvm.ClassFile.FieldType.object "java/lang/String"))).before args0 about1 = true := code_word (m := ⟨19, 1⟩) (meth := k19m1) (c := k19c1) (by decide +kernel) rfl rfl rfl (by decide +kernel)
set_option maxRecDepth 65536 in
theorem w_c34 : (Jvm.Cond.code ({ cls := "java/util/ImmutableCollections$List12", name := "get", desc := "(I)Ljava/lang/Object;" } : Jvm.MethodName) jdk_44_method_5_code (2 : Nat) (Option.some (Jvm.ClassFile.FieldType.object "java/lang/Object"))).before args0 about1 = true := code_word (m := ⟨23, 2⟩) (meth := k23m2) (c := k23c2) (by decide +kernel) rfl rfl rfl (by decide +kernel)
set_option maxRecDepth 65536 in
theorem w_c35 : (Jvm.Cond.code ({ cls := "java/lang/String", name := "equals", desc := "(Ljava/lang/Object;)Z" } : Jvm.MethodName) jdk_42_method_66_code (3 : Nat) (Option.some Jvm.ClassFile.FieldType.boolean)).before args0 about1 = true := code_word (m := ⟨7, 2⟩) (meth := k7m2) (c := k7c2) (by decide +kernel) rfl rfl rfl (by decide +kernel)
set_option maxRecDepth 65536 in
theorem w_c36 : (Jvm.Cond.code ({ cls := "java/util/ImmutableCollections$List12", name := "<init>", desc := "(Ljava/lang/Object;)V" } : Jvm.MethodName) jdk_44_method_1_code (2 : Nat) (Option.none : Option Jvm.ClassFile.FieldType)).before args0 about1 = true := code_word (m := ⟨23, 0⟩) (meth := k23m0) (c := k23c0) (by decide +kernel) rfl rfl rfl (by decide +kernel)
set_option maxRecDepth 65536 in
theorem w_c37 : (Jvm.Cond.code ({ cls := "java/util/ImmutableCollections", name := "listFromArray", desc := "([Ljava/lang/Object;)Ljava/util/List;" } : Jvm.MethodName) jdk_56_method_4_code (3 : Nat) (Option.some (Jvm.ClassFile.FieldType.object "java/util/List"))).before args0 about1 = true := code_word (m := ⟨20, 2⟩) (meth := k20m2) (c := k20c2) (by decide +kernel) rfl rfl rfl (by decide +kernel)
set_option maxRecDepth 65536 in
theorem w_c38 : (Jvm.Cond.code ({ cls := "java/util/ImmutableCollections$ListN", name := "<init>", desc := "([Ljava/lang/Object;Z)V" } : Jvm.MethodName) jdk_45_method_1_code (3 : Nat) (Option.none : Option Jvm.ClassFile.FieldType)).before args0 about1 = true := code_word (m := ⟨24, 0⟩) (meth := k24m0) (c := k24c0) (by decide +kernel) rfl rfl rfl (by decide +kernel)
set_option maxRecDepth 65536 in
theorem w_c39 : (Jvm.Cond.code ({ cls := "java/util/ImmutableCollections$ListN", name := "get", desc := "(I)Ljava/lang/Object;" } : Jvm.MethodName) jdk_45_method_4_code (2 : Nat) (Option.some (Jvm.ClassFile.FieldType.object "java/lang/Object"))).before args0 about1 = true := code_word (m := ⟨24, 1⟩) (meth := k24m1) (c := k24c1) (by decide +kernel) rfl rfl rfl (by decide +kernel)
def codes1 : List Jvm.Cond := [Jvm.Cond.code x code maxLocals ret, Jvm.Cond.code ({ cls := "com/example/frosted_rows/frostedrows/release/PublishedGroupCellPinLaw", name := "str", desc := "(I)Ljava/lang/String;" } : Jvm.MethodName) method_2_code (3 : Nat) (Option.some (Jvm.ClassFile.FieldType.object "java/lang/String")), Jvm.Cond.code ({ cls := "java/lang/String", name := "<init>", desc := "([C)V" } : Jvm.MethodName) jdk_42_method_3_code (2 : Nat) (Option.none : Option Jvm.ClassFile.FieldType), Jvm.Cond.code ({ cls := "java/lang/String", name := "<init>", desc := "([CIILjava/lang/Void;)V" } : Jvm.MethodName) jdk_42_method_149_code (6 : Nat) (Option.none : Option Jvm.ClassFile.FieldType), Jvm.Cond.code ({ cls := "java/lang/Object", name := "<init>", desc := "()V" } : Jvm.MethodName) object_method_1_code (1 : Nat) (Option.none : Option Jvm.ClassFile.FieldType), Jvm.Cond.code ({ cls := "java/lang/StringUTF16", name := "compress", desc := "([CII)[B" } : Jvm.MethodName) jdk_52_method_16_code (6 : Nat) (Option.some (Jvm.ClassFile.FieldType.array Jvm.ClassFile.FieldType.byte)), Jvm.Cond.code ({ cls := "java/lang/StringUTF16", name := "compress", desc := "([CI[BII)I" } : Jvm.MethodName) jdk_52_method_21_code (7 : Nat) (Option.some Jvm.ClassFile.FieldType.int), Jvm.Cond.code ({ cls := "java/lang/StringUTF16", name := "coderFromArrayLen", desc := "([BI)B" } : Jvm.MethodName) jdk_52_method_15_code (2 : Nat) (Option.some Jvm.ClassFile.FieldType.byte), Jvm.Cond.code ({ cls := "java/util/ArrayList", name := "<init>", desc := "()V" } : Jvm.MethodName) jdk_38_method_2_code (1 : Nat) (Option.none : Option Jvm.ClassFile.FieldType), Jvm.Cond.code ({ cls := "java/util/AbstractList", name := "<init>", desc := "()V" } : Jvm.MethodName) jdk_39_method_1_code (1 : Nat) (Option.none : Option Jvm.ClassFile.FieldType), Jvm.Cond.code ({ cls := "java/util/AbstractCollection", name := "<init>", desc := "()V" } : Jvm.MethodName) jdk_22_method_1_code (1 : Nat) (Option.none : Option Jvm.ClassFile.FieldType), Jvm.Cond.code ({ cls := "java/util/ArrayList", name := "add", desc := "(Ljava/lang/Object;)Z" } : Jvm.MethodName) jdk_38_method_25_code (2 : Nat) (Option.some Jvm.ClassFile.FieldType.boolean), Jvm.Cond.code ({ cls := "java/util/ArrayList", name := "add", desc := "(Ljava/lang/Object;[Ljava/lang/Object;I)V" } : Jvm.MethodName) jdk_38_method_24_code (4 : Nat) (Option.none : Option Jvm.ClassFile.FieldType), Jvm.Cond.code ({ cls := "java/util/ArrayList", name := "grow", desc := "()[Ljava/lang/Object;" } : Jvm.MethodName) jdk_38_method_7_code (1 : Nat) (Option.some (Jvm.ClassFile.FieldType.array (Jvm.ClassFile.FieldType.object "java/lang/Object"))), Jvm.Cond.code ({ cls := "java/util/ArrayList", name := "grow", desc := "(I)[Ljava/lang/Object;" } : Jvm.MethodName) jdk_38_method_6_code (4 : Nat) (Option.some (Jvm.ClassFile.FieldType.array (Jvm.ClassFile.FieldType.object "java/lang/Object"))), Jvm.Cond.code ({ cls := "java/lang/Math", name := "max", desc := "(II)I" } : Jvm.MethodName) jdk_29_method_65_code (2 : Nat) (Option.some Jvm.ClassFile.FieldType.int), Jvm.Cond.code ({ cls := "com/example/frosted_rows/frostedrows/release/PublishedGroup", name := "<init>", desc := "(Ljava/lang/String;Ljava/util/List;[ILjava/util/List;)V" } : Jvm.MethodName) prog_13_method_1_code (5 : Nat) (Option.none : Option Jvm.ClassFile.FieldType), Jvm.Cond.code ({ cls := "java/util/List", name := "copyOf", desc := "(Ljava/util/Collection;)Ljava/util/List;" } : Jvm.MethodName) jdk_40_method_48_code (1 : Nat) (Option.some (Jvm.ClassFile.FieldType.object "java/util/List")), Jvm.Cond.code ({ cls := "java/util/ImmutableCollections", name := "listCopy", desc := "(Ljava/util/Collection;)Ljava/util/List;" } : Jvm.MethodName) jdk_56_method_3_code (2 : Nat) (Option.some (Jvm.ClassFile.FieldType.object "java/util/List")), Jvm.Cond.code ({ cls := "java/util/ArrayList", name := "isEmpty", desc := "()Z" } : Jvm.MethodName) jdk_38_method_9_code (1 : Nat) (Option.some Jvm.ClassFile.FieldType.boolean), Jvm.Cond.code ({ cls := "java/util/ArrayList", name := "toArray", desc := "()[Ljava/lang/Object;" } : Jvm.MethodName) jdk_38_method_16_code (1 : Nat) (Option.some (Jvm.ClassFile.FieldType.array (Jvm.ClassFile.FieldType.object "java/lang/Object"))), Jvm.Cond.code ({ cls := "java/util/Arrays", name := "copyOf", desc := "([Ljava/lang/Object;I)[Ljava/lang/Object;" } : Jvm.MethodName) jdk_65_method_119_code (2 : Nat) (Option.some (Jvm.ClassFile.FieldType.array (Jvm.ClassFile.FieldType.object "java/lang/Object"))), Jvm.Cond.code ({ cls := "java/util/Arrays", name := "copyOf", desc := "([Ljava/lang/Object;ILjava/lang/Class;)[Ljava/lang/Object;" } : Jvm.MethodName) jdk_65_method_120_code (4 : Nat) (Option.some (Jvm.ClassFile.FieldType.array (Jvm.ClassFile.FieldType.object "java/lang/Object"))), Jvm.Cond.code ({ cls := "java/lang/Math", name := "min", desc := "(II)I" } : Jvm.MethodName) jdk_29_method_69_code (2 : Nat) (Option.some Jvm.ClassFile.FieldType.int), Jvm.Cond.code ({ cls := "java/util/List", name := "of", desc := "([Ljava/lang/Object;)Ljava/util/List;" } : Jvm.MethodName) jdk_40_method_47_code (2 : Nat) (Option.some (Jvm.ClassFile.FieldType.object "java/util/List")), Jvm.Cond.code ({ cls := "java/util/ImmutableCollections$List12", name := "<init>", desc := "(Ljava/lang/Object;Ljava/lang/Object;)V" } : Jvm.MethodName) jdk_44_method_2_code (3 : Nat) (Option.none : Option Jvm.ClassFile.FieldType), Jvm.Cond.code ({ cls := "java/util/ImmutableCollections$AbstractImmutableList", name := "<init>", desc := "()V" } : Jvm.MethodName) jdk_46_method_1_code (1 : Nat) (Option.none : Option Jvm.ClassFile.FieldType), Jvm.Cond.code ({ cls := "java/util/ImmutableCollections$AbstractImmutableCollection", name := "<init>", desc := "()V" } : Jvm.MethodName) jdk_47_method_1_code (1 : Nat) (Option.none : Option Jvm.ClassFile.FieldType), Jvm.Cond.code ({ cls := "java/util/Objects", name := "requireNonNull", desc := "(Ljava/lang/Object;)Ljava/lang/Object;" } : Jvm.MethodName) jdk_31_method_10_code (1 : Nat) (Option.some (Jvm.ClassFile.FieldType.object "java/lang/Object")), Jvm.Cond.code ({ cls := "java/util/Collections", name := "unmodifiableList", desc := "(Ljava/util/List;)Ljava/util/List;" } : Jvm.MethodName) jdk_79_method_35_code (1 : Nat) (Option.some (Jvm.ClassFile.FieldType.object "java/util/List")), Jvm.Cond.code ({ cls := "java/util/Collections$UnmodifiableRandomAccessList", name := "<init>", desc := "(Ljava/util/List;)V" } : Jvm.MethodName) jdk_121_method_1_code (2 : Nat) (Option.none : Option Jvm.ClassFile.FieldType), Jvm.Cond.code ({ cls := "java/util/Collections$UnmodifiableList", name := "<init>", desc := "(Ljava/util/List;)V" } : Jvm.MethodName) jdk_120_method_1_code (2 : Nat) (Option.none : Option Jvm.ClassFile.FieldType), Jvm.Cond.code ({ cls := "java/util/Collections$UnmodifiableCollection", name := "<init>", desc := "(Ljava/util/Collection;)V" } : Jvm.MethodName) jdk_119_method_1_code (2 : Nat) (Option.none : Option Jvm.ClassFile.FieldType), Jvm.Cond.code ({ cls := "com/example/frosted_rows/frostedrows/release/PublishedGroup", name := "cell", desc := "(I)Ljava/lang/String;" } : Jvm.MethodName) prog_13_method_3_code (2 : Nat) (Option.some (Jvm.ClassFile.FieldType.object "java/lang/String")), Jvm.Cond.code ({ cls := "java/util/ImmutableCollections$List12", name := "get", desc := "(I)Ljava/lang/Object;" } : Jvm.MethodName) jdk_44_method_5_code (2 : Nat) (Option.some (Jvm.ClassFile.FieldType.object "java/lang/Object")), Jvm.Cond.code ({ cls := "java/lang/String", name := "equals", desc := "(Ljava/lang/Object;)Z" } : Jvm.MethodName) jdk_42_method_66_code (3 : Nat) (Option.some Jvm.ClassFile.FieldType.boolean), Jvm.Cond.code ({ cls := "java/util/ImmutableCollections$List12", name := "<init>", desc := "(Ljava/lang/Object;)V" } : Jvm.MethodName) jdk_44_method_1_code (2 : Nat) (Option.none : Option Jvm.ClassFile.FieldType), Jvm.Cond.code ({ cls := "java/util/ImmutableCollections", name := "listFromArray", desc := "([Ljava/lang/Object;)Ljava/util/List;" } : Jvm.MethodName) jdk_56_method_4_code (3 : Nat) (Option.some (Jvm.ClassFile.FieldType.object "java/util/List")), Jvm.Cond.code ({ cls := "java/util/ImmutableCollections$ListN", name := "<init>", desc := "([Ljava/lang/Object;Z)V" } : Jvm.MethodName) jdk_45_method_1_code (3 : Nat) (Option.none : Option Jvm.ClassFile.FieldType), Jvm.Cond.code ({ cls := "java/util/ImmutableCollections$ListN", name := "get", desc := "(I)Ljava/lang/Object;" } : Jvm.MethodName) jdk_45_method_4_code (2 : Nat) (Option.some (Jvm.ClassFile.FieldType.object "java/lang/Object"))]
set_option maxRecDepth 65536 in
theorem codes_eq : words1.filter isCode = codes1 := rfl
theorem w_codes : ∀ c ∈ words1.filter isCode, c.before args0 about1 = true := by
  rw [codes_eq]
  intro c hc
  simp only [codes1, List.mem_cons, List.not_mem_nil, or_false] at hc
  rcases hc with rfl | rfl | rfl | rfl | rfl | rfl | rfl | rfl | rfl | rfl | rfl | rfl | rfl | rfl | rfl | rfl | rfl | rfl | rfl | rfl | rfl | rfl | rfl | rfl | rfl | rfl | rfl | rfl | rfl | rfl | rfl | rfl | rfl | rfl | rfl | rfl | rfl | rfl | rfl | rfl
  · exact w_c0
  · exact w_c1
  · exact w_c2
  · exact w_c3
  · exact w_c4
  · exact w_c5
  · exact w_c6
  · exact w_c7
  · exact w_c8
  · exact w_c9
  · exact w_c10
  · exact w_c11
  · exact w_c12
  · exact w_c13
  · exact w_c14
  · exact w_c15
  · exact w_c16
  · exact w_c17
  · exact w_c18
  · exact w_c19
  · exact w_c20
  · exact w_c21
  · exact w_c22
  · exact w_c23
  · exact w_c24
  · exact w_c25
  · exact w_c26
  · exact w_c27
  · exact w_c28
  · exact w_c29
  · exact w_c30
  · exact w_c31
  · exact w_c32
  · exact w_c33
  · exact w_c34
  · exact w_c35
  · exact w_c36
  · exact w_c37
  · exact w_c38
  · exact w_c39
set_option maxRecDepth 65536 in
theorem w_t1 : (words1.take 24).all (fun c => isCode c || c.before args0 about1) = true := by decide +kernel
set_option maxRecDepth 65536 in
theorem w_t2 : ((words1.drop 24).take 24).all (fun c => isCode c || c.before args0 about1) = true := by decide +kernel
set_option maxRecDepth 65536 in
theorem w_t3 : (((words1.drop 24).drop 24).take 24).all (fun c => isCode c || c.before args0 about1) = true := by decide +kernel
set_option maxRecDepth 65536 in
theorem w_t4 : ((((words1.drop 24).drop 24).drop 24).take 24).all (fun c => isCode c || c.before args0 about1) = true := by decide +kernel
set_option maxRecDepth 65536 in
theorem w_t5 : (((((words1.drop 24).drop 24).drop 24).drop 24).take 24).all (fun c => isCode c || c.before args0 about1) = true := by decide +kernel
set_option maxRecDepth 65536 in
theorem w_t6 : ((((((words1.drop 24).drop 24).drop 24).drop 24).drop 24).take 24).all (fun c => isCode c || c.before args0 about1) = true := by decide +kernel
set_option maxRecDepth 65536 in
theorem w_t7 : (((((((words1.drop 24).drop 24).drop 24).drop 24).drop 24).drop 24).take 24).all (fun c => isCode c || c.before args0 about1) = true := by decide +kernel
set_option maxRecDepth 65536 in
theorem w_t8 : ((((((((words1.drop 24).drop 24).drop 24).drop 24).drop 24).drop 24).drop 24).take 24).all (fun c => isCode c || c.before args0 about1) = true := by decide +kernel
set_option maxRecDepth 65536 in
theorem w_t9 : (((((((((words1.drop 24).drop 24).drop 24).drop 24).drop 24).drop 24).drop 24).drop 24).take 24).all (fun c => isCode c || c.before args0 about1) = true := by decide +kernel
set_option maxRecDepth 65536 in
theorem w_t10 : ((((((((((words1.drop 24).drop 24).drop 24).drop 24).drop 24).drop 24).drop 24).drop 24).drop 24).take 24).all (fun c => isCode c || c.before args0 about1) = true := by decide +kernel
set_option maxRecDepth 65536 in
theorem w_t11 : (((((((((((words1.drop 24).drop 24).drop 24).drop 24).drop 24).drop 24).drop 24).drop 24).drop 24).drop 24).take 24).all (fun c => isCode c || c.before args0 about1) = true := by decide +kernel
set_option maxRecDepth 65536 in
theorem w_t12 : (((((((((((words1.drop 24).drop 24).drop 24).drop 24).drop 24).drop 24).drop 24).drop 24).drop 24).drop 24).drop 24).all (fun c => isCode c || c.before args0 about1) = true := by decide +kernel
theorem w_tables : (allAtoms (Jvm.Cond.code x code maxLocals ret :: tables_1)).before args0 about1 = true := by
  rw [allAtoms_all]
  show words1.all (fun c => c.before args0 about1) = true
  refine all_split ?_ w_codes
  rw [← List.take_append_drop 24 words1, List.all_append, w_t1, ← List.take_append_drop 24 (words1.drop 24), List.all_append, w_t2, ← List.take_append_drop 24 ((words1.drop 24).drop 24), List.all_append, w_t3, ← List.take_append_drop 24 (((words1.drop 24).drop 24).drop 24), List.all_append, w_t4, ← List.take_append_drop 24 ((((words1.drop 24).drop 24).drop 24).drop 24), List.all_append, w_t5, ← List.take_append_drop 24 (((((words1.drop 24).drop 24).drop 24).drop 24).drop 24), List.all_append, w_t6, ← List.take_append_drop 24 ((((((words1.drop 24).drop 24).drop 24).drop 24).drop 24).drop 24), List.all_append, w_t7, ← List.take_append_drop 24 (((((((words1.drop 24).drop 24).drop 24).drop 24).drop 24).drop 24).drop 24), List.all_append, w_t8, ← List.take_append_drop 24 ((((((((words1.drop 24).drop 24).drop 24).drop 24).drop 24).drop 24).drop 24).drop 24), List.all_append, w_t9, ← List.take_append_drop 24 (((((((((words1.drop 24).drop 24).drop 24).drop 24).drop 24).drop 24).drop 24).drop 24).drop 24), List.all_append, w_t10, ← List.take_append_drop 24 ((((((((((words1.drop 24).drop 24).drop 24).drop 24).drop 24).drop 24).drop 24).drop 24).drop 24).drop 24), List.all_append, w_t11, w_t12]
  rfl
set_option maxRecDepth 65536 in
theorem w_rest : rest_1_c.before args0 about1 = true := by decide +kernel
set_option maxRecDepth 65536 in
theorem w_case : (Jvm.Cond.and given_1 narrow_1).before args0 about1 = true := by decide +kernel
theorem w_applies : (headSpec (Jvm.Cond.code x code maxLocals ret :: tables_1) room_1).applies x e0.platform about1 = true :=
  (Spec.applies_iff w_frames).mpr ⟨w_running, w_runnable, w_alone, w_named, w_hears, w_ripe, w_room, w_tables⟩
theorem atStart : AtStart classFile x code maxLocals ret World_1 tables_1 room_1 Calls_1 rest_1 Pre_1 launch0 p0 e0 about1 theMethod args0 below0 :=
  ⟨lists_1, trivial, launch0.admits_env _ _ _, launch0.least_env, fairChoices_fair.cas, fairChoices_fair.clock, w_frames, w_args, w_heap, w_applies, ⟨(by first | exact ⟨42, k42, 4, by decide +kernel, rfl, rfl⟩ | exact ⟨42, k42, 4, by decide +kernel, rfl, rfl, _, rfl, rfl⟩), ⟨(by first | exact ⟨17, k17, 5, by decide +kernel, rfl, rfl⟩ | exact ⟨17, k17, 5, by decide +kernel, rfl, rfl, _, rfl, rfl⟩), ⟨(by first | exact ⟨30, k30, 6, by decide +kernel, rfl, rfl⟩ | exact ⟨30, k30, 6, by decide +kernel, rfl, rfl, _, rfl, rfl⟩), ⟨(by first | exact ⟨31, k31, 7, by decide +kernel, rfl, rfl⟩ | exact ⟨31, k31, 7, by decide +kernel, rfl, rfl, _, rfl, rfl⟩), trivial⟩⟩⟩⟩, w_rest, w_case⟩
end start1
theorem witness_1 : WitnessClaimed_1 := ⟨start1.p0, start1.e0, start1.about1, start1.theMethod, start1.args0, start1.below0, start1.atStart⟩
end Jvm.Pilot.@@N@@
