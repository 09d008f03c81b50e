import JvmDerived
import JvmDerived.Pilot.@@N@@Statement
import JvmDerived.Pilot.@@N@@Code
set_option linter.unusedVariables false
set_option linter.unusedSimpArgs false
/- laws to paste: Road.backV (cut by pick.py; bodies as the Statement names them) -/
namespace Jvm.Pilot.@@N@@
namespace StrChars
open Jvm Sem ClassFile Op Lib Jvm.Stand Jvm.Free.XT Jvm.Free.ALB Jvm.Free.JM Jvm.Free
open Jvm.Lib.Cold (StaticIs)
/-- a char array whose places are chars -/
def Ch (a : Addr) (A : Cell) (U : State) : Prop := Arr .char a A U ∧ Typed .char A
theorem Ch.mv {a : Addr} {A : Cell} {U U' : State} (h : Ch a A U) (hal : U.vm.Alike U'.vm) (hh : U'.heap = U.heap) : Ch a A U' := ⟨h.1.mv hal hh, h.2⟩
theorem Ch.keep {a : Addr} {A : Cell} {U U' : State} (h : Ch a A U) (hal : U.vm.Alike U'.vm) (hk : U'.heap[a]? = some A) : Ch a A U' := ⟨h.1.keep hal hk, h.2⟩
/-- what place i of a char[]'s cell holds -/
def cv (A : Cell) (i : Nat) : Int32 := match A.slots[i]? with | some (.int x) => x | _ => 0
theorem Ch.get {a : Addr} {A : Cell} {U : State} (h : Ch a A U) {i : Nat} (hi : i < A.slots.size) : A.slots[i]? = some (.int (cv A i)) := by
  have e := Array.getElem?_eq_getElem hi
  have f := h.2 i _ e
  unfold cv; rw [e]
  generalize A.slots[i] = v at f
  cases v <;> simp [fits] at f ⊢
/-- the byte that i2b leaves of a char -/
def lo8 (x : Int32) : Int32 := x.toInt8.toInt32
theorem fits_lo8 (y : Int32) : fits .byte (.int (lo8 y)) = true := by
  have h1 := y.toInt8.le_toInt
  have h2 := y.toInt8.toInt_lt
  simp only [lo8, fits, Bool.and_eq_true, decide_eq_true_eq, Int32.le_iff_toInt_le, Int8.toInt_toInt32, show (-128 : Int32).toInt = -128 from by decide, show (127 : Int32).toInt = 127 from by decide]
  omega
/-- A' is A but that each place j of lo .. hi - 1 holds f j -/
def Laid (A A' : Cell) (lo hi : Nat) (f : Nat → Value) : Prop := A'.cls = A.cls ∧ A'.vm = A.vm ∧ A'.slots.size = A.slots.size ∧ ∀ i, A'.slots[i]? = if lo ≤ i ∧ i < hi then some (f i) else A.slots[i]?
theorem Laid.zero (A : Cell) (lo : Nat) (f : Nat → Value) : Laid A A lo (lo + 0) f := ⟨rfl, rfl, rfl, fun i => by rw [if_neg (by omega)]⟩
theorem Laid.step {A Ak : Cell} {lo k : Nat} {f : Nat → Value} {v : Value} (h : Laid A Ak lo k f) (hlo : lo ≤ k) (hk : k < Ak.slots.size) (hv : v = f k) : Laid A (Ak.setSlot k v) lo (k + 1) f := by
  refine ⟨h.1, h.2.1, by simpa [Cell.setSlot] using h.2.2.1, fun i => ?_⟩
  by_cases e : k = i
  · subst e; rw [Cell.slots_setSlot_self v hk, if_pos (by omega), hv]
  · rw [Cell.slots_setSlot_ne v e, h.2.2.2 i]
    by_cases q : lo ≤ i ∧ i < k
    · rw [if_pos q, if_pos (by omega)]
    · rw [if_neg q, if_neg (by omega)]
def U16 : String := "java/lang/StringUTF16"
namespace Cmp5
def yN : MethodName := ⟨"java/lang/StringUTF16", "compress", "([CI[BII)I"⟩
abbrev yB : ByteArray := jdk_52_method_21_code
theorem d0 : decode yB 0 = .ok (.iconst 0, 1) := by decide +kernel
theorem d1 : decode yB 1 = .ok (.istore 5, 2) := by decide +kernel
theorem d3 : decode yB 3 = .ok (.iload 5, 2) := by decide +kernel
theorem d5 : decode yB 5 = .ok (.iload 4, 2) := by decide +kernel
theorem d7 : decode yB 7 = .ok (.if_icmp (.ge) 37, 3) := by decide +kernel
theorem d10 : decode yB 10 = .ok (.aload_n 0, 1) := by decide +kernel
theorem d11 : decode yB 11 = .ok (.iload_n 1, 1) := by decide +kernel
theorem d12 : decode yB 12 = .ok (.caload, 1) := by decide +kernel
theorem d13 : decode yB 13 = .ok (.istore 6, 2) := by decide +kernel
theorem d15 : decode yB 15 = .ok (.iload 6, 2) := by decide +kernel
theorem d17 : decode yB 17 = .ok (.sipush 255, 3) := by decide +kernel
theorem d20 : decode yB 20 = .ok (.if_icmp (.le) 6, 3) := by decide +kernel
theorem d26 : decode yB 26 = .ok (.aload_n 2, 1) := by decide +kernel
theorem d27 : decode yB 27 = .ok (.iload_n 3, 1) := by decide +kernel
theorem d28 : decode yB 28 = .ok (.iload 6, 2) := by decide +kernel
theorem d30 : decode yB 30 = .ok (.i2b, 1) := by decide +kernel
theorem d31 : decode yB 31 = .ok (.bastore, 1) := by decide +kernel
theorem d32 : decode yB 32 = .ok (.iinc 1 1, 3) := by decide +kernel
theorem d35 : decode yB 35 = .ok (.iinc 3 1, 3) := by decide +kernel
theorem d38 : decode yB 38 = .ok (.iinc 5 1, 3) := by decide +kernel
theorem d41 : decode yB 41 = .ok (.goto (-38), 3) := by decide +kernel
theorem d44 : decode yB 44 = .ok (.iload 4, 2) := by decide +kernel
theorem d46 : decode yB 46 = .ok (.ireturn, 1) := by decide +kernel
def site : List Cond := []
def tab : Cond := tabOf yN yB 7 (some .int) site
def P (b : Addr) (A : Cell) (d : Addr) (B : Cell) (o q len : Nat) (args : Array Value) (s : State) : Prop := args = #[.ref b, .int (Int32.ofNat o), .ref d, .int (Int32.ofNat q), .int (Int32.ofNat len)] ∧ Ch b A s ∧ Arr .byte d B s ∧ b ≠ d ∧ o + len ≤ A.slots.size ∧ q + len ≤ B.slots.size ∧ ∀ i, i < len → ¬ 255 < cv A (o + i)
def E (b : Addr) (A : Cell) (d : Addr) (B : Cell) (o q len : Nat) (r : Option Value) (s u : State) : Prop := r = some (.int (Int32.ofNat len)) ∧ ∃ B', Put d B' s u ∧ Laid B B' q (q + len) (fun j => Value.int (lo8 (cv A (o + (j - q)))))
/-- no char of the range above 255: len; the places written hold each char's low byte -/
theorem law (l : Launch) (b : Addr) (A : Cell) (d : Addr) (B : Cell) (o q len : Nat) : Law l yN 5 5 0 0 yB 7 (some .int) site (P b A d B o q len) (E b A d B o q len) (copyLocs d q len) 0 0 := by
  refine Law.of_walk (plainFor_of_name (by decide +kernel)) (by decide +kernel) (by decide +kernel) (by decide) (fun _ _ h => by rw [h.1]; rfl) (fun _ U U' hal hh h => ⟨h.1, h.2.1.mv hal hh, h.2.2.1.mv hal hh, h.2.2.2⟩) (fun r U U' V V' h1 hal h2 h => ⟨h.1, h.2.elim fun B' q => ⟨B', q.1.mv h1 h2, q.2⟩⟩) ?_
  intro p e s m args below meth c s₁ X0 hexec hbytes hml hret hlk hnm hown hh0 W hP
  obtain ⟨rfl, hA, hB, hne, l1, l2, hp⟩ := hP
  have c1 : Steps p.tables e below (s₁.setTop (entryFrame m #[.ref b, .int (Int32.ofNat o), .ref d, .int (Int32.ofNat q), .int (Int32.ofNat len)] 7)) (s₁.setTop (mkF m 0 #[.val (.ref b), .val (.int (Int32.ofNat o)), .val (.ref d), .val (.int (Int32.ofNat q)), .val (.int (Int32.ofNat len)), .unset, .unset] [])) := entry rfl
  have hA0 := hA.1.mv X0.warmed.alike hh0
  have hB0 := hB.mv X0.warmed.alike hh0
  have a31 := hA.1.2.2.2
  have c2 : Steps p.tables e below (s₁.setTop (entryFrame m #[.ref b, .int (Int32.ofNat o), .ref d, .int (Int32.ofNat q), .int (Int32.ofNat len)] 7)) (s₁.setTop (mkF m 3 #[.val (.ref b), .val (.int (Int32.ofNat o)), .val (.ref d), .val (.int (Int32.ofNat q)), .val (.int (Int32.ofNat len)), .val (.int 0), .unset] [])) := c1.trans (by
    refine iconstV X0.here hexec rfl 0 (hb hbytes d0) (by decide) ?_
    refine XS.istore X0.here hexec rfl (hb hbytes d1) rfl rfl ?_
    exact Steps.refl _)
  have loop : ∀ (r i : Nat), i + r = len → ∀ (z : Slot), (z = .unset ∨ ∃ w, z = .val w ∧ w.category = 1) → ∀ (Tl : State) (Bk : Cell), Stand p l e { frames := 0, locals := 0, cells := 0, slots := 0 } s m #[.ref b, .int (Int32.ofNat o), .ref d, .int (Int32.ofNat q), .int (Int32.ofNat len)] below meth c Tl ([] ++ copyLocs d q i) 0 0 → Put d Bk s₁ Tl → Laid B Bk q (q + i) (fun j => Value.int (lo8 (cv A (o + (j - q))))) →
      Steps p.tables e below (s₁.setTop (entryFrame m #[.ref b, .int (Int32.ofNat o), .ref d, .int (Int32.ofNat q), .int (Int32.ofNat len)] 7)) (Tl.setTop (mkF m 3 #[.val (.ref b), .val (.int (Int32.ofNat (o + i))), .val (.ref d), .val (.int (Int32.ofNat (q + i))), .val (.int (Int32.ofNat len)), .val (.int (Int32.ofNat i)), z] [])) → ∃ (T' : State) (B' : Cell) (z' : Slot), Stand p l e { frames := 0, locals := 0, cells := 0, slots := 0 } s m #[.ref b, .int (Int32.ofNat o), .ref d, .int (Int32.ofNat q), .int (Int32.ofNat len)] below meth c T' ([] ++ copyLocs d q len) 0 0 ∧ Put d B' s₁ T' ∧ Laid B B' q (q + len) (fun j => Value.int (lo8 (cv A (o + (j - q))))) ∧
      Steps p.tables e below (s₁.setTop (entryFrame m #[.ref b, .int (Int32.ofNat o), .ref d, .int (Int32.ofNat q), .int (Int32.ofNat len)] 7)) (T'.setTop (mkF m 3 #[.val (.ref b), .val (.int (Int32.ofNat (o + len))), .val (.ref d), .val (.int (Int32.ofNat (q + len))), .val (.int (Int32.ofNat len)), .val (.int (Int32.ofNat len)), z'] [])) := by
    intro r
    induction r with
    | zero =>
      intro i hi z hz Tl Bk Xl pl fl cl
      have hil : i = len := by omega
      rw [hil] at Xl fl cl
      exact ⟨Tl, Bk, z, Xl, pl, fl, cl⟩
    | succ r ih =>
      intro i hi z hz Tl Bk Xl pl fl cl
      have all := X0.warmed.alike.symm.trans Xl.warmed.alike
      have hAl := hA0.keep all (pl.other hne hA0.1)
      have hBk := hB0.like all pl.1 fl.1 fl.2.1 fl.2.2.1
      have hlt : q + i < Bk.slots.size := by rw [fl.2.2.1]; omega
      have c3 : Steps p.tables e below (s₁.setTop (entryFrame m #[.ref b, .int (Int32.ofNat o), .ref d, .int (Int32.ofNat q), .int (Int32.ofNat len)] 7)) (Tl.setTop (mkF m 12 #[.val (.ref b), .val (.int (Int32.ofNat (o + i))), .val (.ref d), .val (.int (Int32.ofNat (q + i))), .val (.int (Int32.ofNat len)), .val (.int (Int32.ofNat i)), z] [.int (Int32.ofNat (o + i)), .ref b])) := cl.trans (by
        refine XS.iload Xl.here hexec rfl (hb hbytes d3) rfl ?_
        refine XS.iload Xl.here hexec rfl (hb hbytes d5) rfl ?_
        refine XS.icmpNo Xl.here hexec rfl (hb hbytes d7) rfl (ii_ge_f (lt32 (by omega) (by omega))) ?_
        refine XS.aloadN Xl.here hexec rfl (hb hbytes d10) rfl rfl ?_
        refine XS.iloadN Xl.here hexec rfl (hb hbytes d11) rfl ?_
        exact Steps.refl _)
      have c4 : Steps p.tables e below (s₁.setTop (entryFrame m #[.ref b, .int (Int32.ofNat o), .ref d, .int (Int32.ofNat q), .int (Int32.ofNat len)] 7)) (Tl.setTop (mkF m 13 #[.val (.ref b), .val (.int (Int32.ofNat (o + i))), .val (.ref d), .val (.int (Int32.ofNat (q + i))), .val (.int (Int32.ofNat len)), .val (.int (Int32.ofNat i)), z] [.int (cv A (o + i))])) := c3.trans (by
        refine Xl.aget hexec hAl rfl (hA.get (i := o + i) (by omega)) rfl rfl (hb hbytes d12) ?_
        exact Steps.refl _)
      have c5 : Steps p.tables e below (s₁.setTop (entryFrame m #[.ref b, .int (Int32.ofNat o), .ref d, .int (Int32.ofNat q), .int (Int32.ofNat len)] 7)) (Tl.setTop (mkF m 15 #[.val (.ref b), .val (.int (Int32.ofNat (o + i))), .val (.ref d), .val (.int (Int32.ofNat (q + i))), .val (.int (Int32.ofNat len)), .val (.int (Int32.ofNat i)), .val (.int (cv A (o + i)))] [])) := c4.trans (by
        refine XS.istoreS Xl.here hexec rfl (hb hbytes d13) rfl rfl hz ?_
        exact Steps.refl _)
      have c6 : Steps p.tables e below (s₁.setTop (entryFrame m #[.ref b, .int (Int32.ofNat o), .ref d, .int (Int32.ofNat q), .int (Int32.ofNat len)] 7)) (Tl.setTop (mkF m 31 #[.val (.ref b), .val (.int (Int32.ofNat (o + i))), .val (.ref d), .val (.int (Int32.ofNat (q + i))), .val (.int (Int32.ofNat len)), .val (.int (Int32.ofNat i)), .val (.int (cv A (o + i)))] [.int (lo8 (cv A (o + i))), .int (Int32.ofNat (q + i)), .ref d])) := c5.trans (by
        refine XS.iload Xl.here hexec rfl (hb hbytes d15) rfl ?_
        refine sipushV Xl.here hexec rfl 255 (hb hbytes d17) (by decide) ?_
        refine XS.icmpYes Xl.here hexec rfl (pc0 := 20) rfl (hb hbytes d20) rfl (ii_le_t (hp i (by omega))) (by decide) rfl ?_
        refine XS.aloadN Xl.here hexec rfl (hb hbytes d26) rfl rfl ?_
        refine XS.iloadN Xl.here hexec rfl (hb hbytes d27) rfl ?_
        refine XS.iload Xl.here hexec rfl (hb hbytes d28) rfl ?_
        refine i2b Xl.here hexec rfl (hb hbytes d30) rfl ?_
        exact Steps.refl _)
      obtain ⟨T7, X7, p7, st7⟩ := Xl.aput hexec hBk rfl hlt rfl (fits_lo8 (cv A (o + i))) (g := (mkF m 31 #[.val (.ref b), .val (.int (Int32.ofNat (o + i))), .val (.ref d), .val (.int (Int32.ofNat (q + i))), .val (.int (Int32.ofNat len)), .val (.int (Int32.ofNat i)), .val (.int (cv A (o + i)))] [.int (lo8 (cv A (o + i))), .int (Int32.ofNat (q + i)), .ref d])) rfl (rest := []) rfl (hb hbytes d31)
      have c8 : Steps p.tables e below (s₁.setTop (entryFrame m #[.ref b, .int (Int32.ofNat o), .ref d, .int (Int32.ofNat q), .int (Int32.ofNat len)] 7)) (T7.setTop (mkF m 32 #[.val (.ref b), .val (.int (Int32.ofNat (o + i))), .val (.ref d), .val (.int (Int32.ofNat (q + i))), .val (.int (Int32.ofNat len)), .val (.int (Int32.ofNat i)), .val (.int (cv A (o + i)))] [])) := c6.trans (st7 _ (Steps.refl _))
      have c9 : Steps p.tables e below (s₁.setTop (entryFrame m #[.ref b, .int (Int32.ofNat o), .ref d, .int (Int32.ofNat q), .int (Int32.ofNat len)] 7)) (T7.setTop (mkF m 3 #[.val (.ref b), .val (.int (Int32.ofNat (o + i) + 1)), .val (.ref d), .val (.int (Int32.ofNat (q + i) + 1)), .val (.int (Int32.ofNat len)), .val (.int (Int32.ofNat i + 1)), .val (.int (cv A (o + i)))] [])) := c8.trans (by
        refine iincV X7.here hexec rfl 1 (hb hbytes d32) (by decide) rfl rfl ?_
        refine iincV X7.here hexec rfl 1 (hb hbytes d35) (by decide) rfl rfl ?_
        refine iincV X7.here hexec rfl 1 (hb hbytes d38) (by decide) rfl rfl ?_
        refine XS.goto X7.here hexec rfl (pc0 := 41) rfl (hb hbytes d41) (by decide) rfl ?_
        exact Steps.refl _)
      have c10 : Steps p.tables e below (s₁.setTop (entryFrame m #[.ref b, .int (Int32.ofNat o), .ref d, .int (Int32.ofNat q), .int (Int32.ofNat len)] 7)) (T7.setTop (mkF m 3 #[.val (.ref b), .val (.int (Int32.ofNat (o + (i + 1)))), .val (.ref d), .val (.int (Int32.ofNat (q + (i + 1)))), .val (.int (Int32.ofNat len)), .val (.int (Int32.ofNat (i + 1))), .val (.int (cv A (o + i)))] [])) := by
        have := c9
        rw [succ32, succ32, succ32] at this
        exact this
      exact ih (i + 1) (by omega) _ (Or.inr ⟨_, rfl, rfl⟩) T7 _ (by rw [copyLocs_step, ← List.append_assoc]; exact X7) (pl.trans p7) (fl.step (by omega) hlt (by simp)) c10
  obtain ⟨T9, B9, z9, X9, p9, f9, g9⟩ := loop len 0 (by omega) .unset (Or.inl rfl) s₁ B (by simpa [copyLocs] using X0) ⟨hB0.1, fun _ _ => rfl, rfl⟩ (Laid.zero _ _ _) c2
  have c11 : Steps p.tables e below (s₁.setTop (entryFrame m #[.ref b, .int (Int32.ofNat o), .ref d, .int (Int32.ofNat q), .int (Int32.ofNat len)] 7)) (T9.setTop (mkF m 46 #[.val (.ref b), .val (.int (Int32.ofNat (o + len))), .val (.ref d), .val (.int (Int32.ofNat (q + len))), .val (.int (Int32.ofNat len)), .val (.int (Int32.ofNat len)), z9] [.int (Int32.ofNat len)])) := g9.trans (by
    refine XS.iload X9.here hexec rfl (hb hbytes d3) rfl ?_
    refine XS.iload X9.here hexec rfl (hb hbytes d5) rfl ?_
    refine XS.icmpYes X9.here hexec rfl (pc0 := 7) rfl (hb hbytes d7) rfl (ii_ge_t (nlt32 (by omega) (Nat.le_refl _))) (by decide) rfl ?_
    refine XS.iload X9.here hexec rfl (hb hbytes d44) rfl ?_
    exact Steps.refl _)
  exact ⟨T9, some (.int (Int32.ofNat len)), _, _, _, X9, by simp, rfl, rfl, (fun h => by cases h), ⟨rfl, B9, p9.from hh0, f9⟩, fun fs hl => c11.trans (X9.ireturnOut hexec hret rfl (Or.inl rfl) (hb hbytes d46) hl)⟩
end Cmp5
namespace Cmp3
def yN : MethodName := ⟨"java/lang/StringUTF16", "compress", "([CII)[B"⟩
abbrev yB : ByteArray := jdk_52_method_16_code
theorem d0 : decode yB 0 = .ok (.iload_n 2, 1) := by decide +kernel
theorem d1 : decode yB 1 = .ok (.newarray .byte, 2) := by decide +kernel
theorem d3 : decode yB 3 = .ok (.astore_n 3, 1) := by decide +kernel
theorem d4 : decode yB 4 = .ok (.aload_n 0, 1) := by decide +kernel
theorem d5 : decode yB 5 = .ok (.iload_n 1, 1) := by decide +kernel
theorem d6 : decode yB 6 = .ok (.aload_n 3, 1) := by decide +kernel
theorem d7 : decode yB 7 = .ok (.iconst 0, 1) := by decide +kernel
theorem d8 : decode yB 8 = .ok (.iload_n 2, 1) := by decide +kernel
theorem d9 : decode yB 9 = .ok (.invokestatic 115, 3) := by decide +kernel
theorem d12 : decode yB 12 = .ok (.istore 4, 2) := by decide +kernel
theorem d14 : decode yB 14 = .ok (.iload 4, 2) := by decide +kernel
theorem d16 : decode yB 16 = .ok (.iload_n 2, 1) := by decide +kernel
theorem d17 : decode yB 17 = .ok (.if_icmp (.eq) 40, 3) := by decide +kernel
theorem d57 : decode yB 57 = .ok (.aload_n 3, 1) := by decide +kernel
theorem d58 : decode yB 58 = .ok (.areturn, 1) := by decide +kernel
def site : List Cond := [.arrayClass .byte, Cmp5.tab] ++ staticW U16 115 Cmp5.yN
def tab : Cond := tabOf yN yB 6 (some (.array .byte)) site
def P (b : Addr) (A : Cell) (o len : Nat) (args : Array Value) (s : State) : Prop := args = #[.ref b, .int (Int32.ofNat o), .int (Int32.ofNat len)] ∧ Ch b A s ∧ o + len ≤ A.slots.size ∧ len ≤ 536870912 ∧ ∀ i, i < len → ¬ 255 < cv A (o + i)
def E (b : Addr) (A : Cell) (o len : Nat) (r : Option Value) (s u : State) : Prop := NewArr .byte "[B" len (fun j => .int (lo8 (cv A (o + j)))) r s u ∧ u.heap.size = s.heap.size + 1
/-- no char of the range above 255: a new byte[] of their low bytes -/
theorem law (l : Launch) (b : Addr) (A : Cell) (o len : Nat) : Law l yN 3 3 1 18 yB 6 (some (.array .byte)) site (P b A o len) (E b A o len) [] 1 len := by
  refine Law.of_walk (plainFor_of_name (by decide +kernel)) (by decide +kernel) (by decide +kernel) (by decide) (fun _ _ h => by rw [h.1]; rfl) (fun _ U U' hal hh h => ⟨h.1, h.2.1.mv hal hh, h.2.2⟩) (fun r U U' V V' h1 hal h2 h => ⟨NewArr.mv r U U' V V' h1 hal h2 h.1, by rw [h1, h2]; exact h.2⟩) ?_
  intro p e s m args below meth c s₁ X0 hexec hbytes hml hret hlk hnm hown hh0 W hP
  obtain ⟨rfl, hA, l1, l2, hp⟩ := hP
  have a31 := hA.1.2.2.2
  have c1 : Steps p.tables e below (s₁.setTop (entryFrame m #[.ref b, .int (Int32.ofNat o), .int (Int32.ofNat len)] 6)) (s₁.setTop (mkF m 0 #[.val (.ref b), .val (.int (Int32.ofNat o)), .val (.int (Int32.ofNat len)), .unset, .unset, .unset] [])) := entry rfl
  have c2 : Steps p.tables e below (s₁.setTop (entryFrame m #[.ref b, .int (Int32.ofNat o), .int (Int32.ofNat len)] 6)) (s₁.setTop (mkF m 1 #[.val (.ref b), .val (.int (Int32.ofNat o)), .val (.int (Int32.ofNat len)), .unset, .unset, .unset] [.int (Int32.ofNat len)])) := c1.trans (by
    refine XS.iloadN X0.here hexec rfl (hb hbytes d0) rfl ?_
    exact Steps.refl _)
  obtain ⟨T3, B3, X3, ba3, bs3, bv3, bh3, bf3, st3⟩ := X0.anew hexec (atype := .byte) (wk W (.arrayClass .byte)) rfl (by show len * 1 ≤ _; omega) (by omega) (g := (mkF m 1 #[.val (.ref b), .val (.int (Int32.ofNat o)), .val (.int (Int32.ofNat len)), .unset, .unset, .unset] [.int (Int32.ofNat len)])) rfl (hb hbytes d1) (rest := []) rfl (Nat.le_refl _) (by show 0 + len ≤ len; omega)
  rw [hh0] at ba3 st3
  have kp3 : XT.Kept s T3 := (XT.Kept.of_eq hh0).push bh3
  have hA3 := hA.keep X3.warmed.alike (kp3 _ _ hA.1.1)
  have hne : b ≠ s.heap.size := hA.1.ne
  have c4 : Steps p.tables e below (s₁.setTop (entryFrame m #[.ref b, .int (Int32.ofNat o), .int (Int32.ofNat len)] 6)) (T3.setTop (mkF m 3 #[.val (.ref b), .val (.int (Int32.ofNat o)), .val (.int (Int32.ofNat len)), .unset, .unset, .unset] [.ref s.heap.size])) := c2.trans (st3 _ (Steps.refl _))
  have c5 : Steps p.tables e below (s₁.setTop (entryFrame m #[.ref b, .int (Int32.ofNat o), .int (Int32.ofNat len)] 6)) (T3.setTop (mkF m 9 #[.val (.ref b), .val (.int (Int32.ofNat o)), .val (.int (Int32.ofNat len)), .val (.ref s.heap.size), .unset, .unset] [.int (Int32.ofNat len), .int 0, .ref s.heap.size, .int (Int32.ofNat o), .ref b])) := c4.trans (by
    refine XS.astoreN X3.here hexec rfl (hb hbytes d3) rfl rfl rfl ?_
    refine XS.aloadN X3.here hexec rfl (hb hbytes d4) rfl rfl ?_
    refine XS.iloadN X3.here hexec rfl (hb hbytes d5) rfl ?_
    refine XS.aloadN X3.here hexec rfl (hb hbytes d6) rfl rfl ?_
    refine iconstV X3.here hexec rfl 0 (hb hbytes d7) (by decide) ?_
    refine XS.iloadN X3.here hexec rfl (hb hbytes d8) rfl ?_
    exact Steps.refl _)
  obtain ⟨v6, T6, X6, E6, g6⟩ := X3.callS hexec (Cmp5.law l b A s.heap.size B3 o 0 len) hown (wks W (staticW U16 115 Cmp5.yN)) (wk W Cmp5.tab) (W := 0) (Nat.le_of_ble_eq_true rfl) (Nat.le_of_ble_eq_true rfl) (Nat.le_refl _) (by show 0 + len + 0 ≤ len; omega) (g := (mkF m 9 #[.val (.ref b), .val (.int (Int32.ofNat o)), .val (.int (Int32.ofNat len)), .val (.ref s.heap.size), .unset, .unset] [.int (Int32.ofNat len), .int (Int32.ofNat 0), .ref s.heap.size, .int (Int32.ofNat o), .ref b])) rfl (by rw [hml]; rfl) c5 (argsL := [.ref b, .int (Int32.ofNat o), .ref s.heap.size, .int (Int32.ofNat 0), .int (Int32.ofNat len)]) (rest := []) rfl rfl (by show 2 * 0 + 0 ≤ _; decide) (hb hbytes d9) (⟨rfl, hA3, ba3, hne, l1, by rw [bs3]; simp, hp⟩)
  obtain ⟨rfl, B6, p6, f6⟩ := E6
  have c7 : Steps p.tables e below (s₁.setTop (entryFrame m #[.ref b, .int (Int32.ofNat o), .int (Int32.ofNat len)] 6)) (T6.setTop (mkF m 12 #[.val (.ref b), .val (.int (Int32.ofNat o)), .val (.int (Int32.ofNat len)), .val (.ref s.heap.size), .unset, .unset] [.int (Int32.ofNat len)])) := g6
  have c8 : Steps p.tables e below (s₁.setTop (entryFrame m #[.ref b, .int (Int32.ofNat o), .int (Int32.ofNat len)] 6)) (T6.setTop (mkF m 58 #[.val (.ref b), .val (.int (Int32.ofNat o)), .val (.int (Int32.ofNat len)), .val (.ref s.heap.size), .val (.int (Int32.ofNat len)), .unset] [.ref s.heap.size])) := c7.trans (by
    refine XS.istore X6.here hexec rfl (hb hbytes d12) rfl rfl ?_
    refine XS.iload X6.here hexec rfl (hb hbytes d14) rfl ?_
    refine XS.iloadN X6.here hexec rfl (hb hbytes d16) rfl ?_
    refine XS.icmpYes X6.here hexec rfl (pc0 := 17) rfl (hb hbytes d17) rfl (ii_eq_t rfl) (by decide) rfl ?_
    refine XS.aloadN X6.here hexec rfl (hb hbytes d57) rfl rfl ?_
    exact Steps.refl _)
  have X8 := X6.wide (L' := []) (cells' := 1) (slots' := len) (fun x hx hlt => by
    simp only [List.nil_append, copyLocs, List.mem_map, List.mem_range] at hx
    obtain ⟨i, -, rfl⟩ := hx
    exact absurd hlt (Nat.lt_irrefl _)) (Nat.le_refl _) (by omega)
  exact ⟨T6, some (.ref s.heap.size), _, _, _, X8, rfl, rfl, rfl, (fun h => by cases h), ⟨⟨rfl, B6, ba3.like (X3.warmed.alike.symm.trans X6.warmed.alike) p6.1 f6.1 f6.2.1 f6.2.2.1, f6.2.1.trans bv3, by rw [X6.warmed.alike.findClass, f6.1]; exact bf3, by rw [f6.2.2.1, bs3]; simp, fun j hj => by rw [f6.2.2.2 j, if_pos (by omega)]; rfl, kp3.put p6 (Nat.le_refl _)⟩, by rw [p6.2.2, bh3, hh0]; simp⟩, fun fs hl => c8.trans (X8.areturnOut hexec rfl hret rfl (hb hbytes d58) hl)⟩
end Cmp3
namespace CodL
def yN : MethodName := ⟨"java/lang/StringUTF16", "coderFromArrayLen", "([BI)B"⟩
abbrev yB : ByteArray := jdk_52_method_15_code
theorem d0 : decode yB 0 = .ok (.iload_n 1, 1) := by decide +kernel
theorem d1 : decode yB 1 = .ok (.aload_n 0, 1) := by decide +kernel
theorem d2 : decode yB 2 = .ok (.arraylength, 1) := by decide +kernel
theorem d3 : decode yB 3 = .ok (.isub, 1) := by decide +kernel
theorem d4 : decode yB 4 = .ok (.bipush 31, 2) := by decide +kernel
theorem d6 : decode yB 6 = .ok (.iushr, 1) := by decide +kernel
theorem d7 : decode yB 7 = .ok (.i2b, 1) := by decide +kernel
theorem d8 : decode yB 8 = .ok (.ireturn, 1) := by decide +kernel
def site : List Cond := []
def tab : Cond := tabOf yN yB 2 (some .byte) site
def P (d : Addr) (B : Cell) (args : Array Value) (s : State) : Prop := args = #[.ref d, .int (Int32.ofNat B.slots.size)] ∧ Arr .byte d B s
def E (r : Option Value) (s u : State) : Prop := XT.PureE (some (.int 0)) r s u
/-- an array as long as the number of chars: LATIN1 -/
theorem law (l : Launch) (d : Addr) (B : Cell) : Law l yN 2 2 0 0 yB 2 (some .byte) site (P d B) E [] 0 0 := by
  refine Law.of_walk (plainFor_of_name (by decide +kernel)) (by decide +kernel) (by decide +kernel) (by decide) (fun _ _ h => by rw [h.1]; rfl) (fun _ U U' hal hh h => ⟨h.1, h.2.mv hal hh⟩) (fun r U U' V V' h1 hal h2 h => XT.PureE.mv r U U' V V' h1 hal h2 h) ?_
  intro p e s m args below meth c s₁ X0 hexec hbytes hml hret hlk hnm hown hh0 W hP
  obtain ⟨rfl, hB⟩ := hP
  have hB0 := hB.mv X0.warmed.alike hh0
  have c1 : Steps p.tables e below (s₁.setTop (entryFrame m #[.ref d, .int (Int32.ofNat B.slots.size)] 2)) (s₁.setTop (mkF m 0 #[.val (.ref d), .val (.int (Int32.ofNat B.slots.size))] [])) := entry rfl
  have c2 : Steps p.tables e below (s₁.setTop (entryFrame m #[.ref d, .int (Int32.ofNat B.slots.size)] 2)) (s₁.setTop (mkF m 2 #[.val (.ref d), .val (.int (Int32.ofNat B.slots.size))] [.ref d, .int (Int32.ofNat B.slots.size)])) := c1.trans (by
    refine XS.iloadN X0.here hexec rfl (hb hbytes d0) rfl ?_
    refine XS.aloadN X0.here hexec rfl (hb hbytes d1) rfl rfl ?_
    exact Steps.refl _)
  have c3 : Steps p.tables e below (s₁.setTop (entryFrame m #[.ref d, .int (Int32.ofNat B.slots.size)] 2)) (s₁.setTop (mkF m 8 #[.val (.ref d), .val (.int (Int32.ofNat B.slots.size))] [.int (lo8 (ushr (Int32.ofNat B.slots.size - Int32.ofNat B.slots.size) 31))])) := c2.trans (by
    refine X0.alen hexec hB0 rfl rfl (hb hbytes d2) ?_
    refine XS.isub X0.here hexec rfl (hb hbytes d3) rfl ?_
    refine bipushV X0.here hexec rfl 31 (hb hbytes d4) (by decide) ?_
    refine iushr X0.here hexec rfl (hb hbytes d6) rfl ?_
    refine i2b X0.here hexec rfl (hb hbytes d7) rfl ?_
    exact Steps.refl _)
  have e0 : lo8 (ushr (Int32.ofNat B.slots.size - Int32.ofNat B.slots.size) 31) = 0 := by rw [Int32.sub_self]; decide
  rw [e0] at c3
  exact ⟨s₁, some (.int 0), _, _, _, X0, rfl, rfl, rfl, (fun h => by cases h), ⟨rfl, hh0⟩, fun fs hl => c3.trans (X0.ireturnOut hexec hret rfl (Or.inr (Or.inr (Or.inl rfl))) (hb hbytes d8) hl)⟩
end CodL
/-- the String at a is Latin-1 over a new byte[] (the heap's one new cell): the low bytes of the len chars of A from o on; every cell but a is kept -/
def Got (a : Addr) (D : Cell) (fV fC : Field) (A : Cell) (o len : Nat) (r : Option Value) (s u : State) : Prop := r = none ∧ ∃ D' V : Cell, Blank "java/lang/String" a D' u ∧ Same D D' [fV.slot, fC.slot] ∧ D'.slots[fV.slot]? = some (.ref s.heap.size) ∧ D'.slots[fC.slot]? = some (.int 0) ∧ Arr .byte s.heap.size V u ∧ V.vm = .none ∧ u.vm.findClass "[B" = some V.cls ∧ V.slots.size = len ∧ (∀ j, j < len → V.slots[j]? = some (.int (lo8 (cv A (o + j))))) ∧ (∀ (y : Addr) (c : Cell), y ≠ a → s.heap[y]? = some c → u.heap[y]? = some c) ∧ u.heap.size = s.heap.size + 1
theorem Got.mv {a : Addr} {D A : Cell} {fV fC : Field} {o len : Nat} : ∀ r (U U' V V' : State), U'.heap = U.heap → V.vm.Alike V'.vm → V'.heap = V.heap → Got a D fV fC A o len r U V → Got a D fV fC A o len r U' V' :=
  fun r U U' V V' h1 hal h2 ⟨e0, D', X, a1, a2, a3, a4, a5, a6, a7, a8, a9, a10, a11⟩ => ⟨e0, D', X, a1.mv hal h2, a2, by rw [h1]; exact a3, a4, by rw [h1]; exact a5.mv hal h2, a6, by rw [hal.findClass]; exact a7, a8, a9, by rw [h1, h2]; exact a10, by rw [h1, h2]; exact a11⟩
namespace New4
def yN : MethodName := ⟨"java/lang/String", "<init>", "([CIILjava/lang/Void;)V"⟩
abbrev yB : ByteArray := jdk_42_method_149_code
theorem d0 : decode yB 0 = .ok (.aload_n 0, 1) := by decide +kernel
theorem d1 : decode yB 1 = .ok (.invokespecial 1, 3) := by decide +kernel
theorem d4 : decode yB 4 = .ok (.iload_n 3, 1) := by decide +kernel
theorem d5 : decode yB 5 = .ok (.ifCond (.ne) 22, 3) := by decide +kernel
theorem d27 : decode yB 27 = .ok (.getstatic 38, 3) := by decide +kernel
theorem d30 : decode yB 30 = .ok (.ifCond (.eq) 28, 3) := by decide +kernel
theorem d33 : decode yB 33 = .ok (.aload_n 1, 1) := by decide +kernel
theorem d34 : decode yB 34 = .ok (.iload_n 2, 1) := by decide +kernel
theorem d35 : decode yB 35 = .ok (.iload_n 3, 1) := by decide +kernel
theorem d36 : decode yB 36 = .ok (.invokestatic 177, 3) := by decide +kernel
theorem d39 : decode yB 39 = .ok (.astore 5, 2) := by decide +kernel
theorem d41 : decode yB 41 = .ok (.aload_n 0, 1) := by decide +kernel
theorem d42 : decode yB 42 = .ok (.aload 5, 2) := by decide +kernel
theorem d44 : decode yB 44 = .ok (.iload_n 3, 1) := by decide +kernel
theorem d45 : decode yB 45 = .ok (.invokestatic 47, 3) := by decide +kernel
theorem d48 : decode yB 48 = .ok (.putfield 15, 3) := by decide +kernel
theorem d51 : decode yB 51 = .ok (.aload_n 0, 1) := by decide +kernel
theorem d52 : decode yB 52 = .ok (.aload 5, 2) := by decide +kernel
theorem d54 : decode yB 54 = .ok (.putfield 9, 3) := by decide +kernel
theorem d57 : decode yB 57 = .ok (.return_, 1) := by decide +kernel
def site : List Cond := [.fieldLink "java/lang/String" 38 "java/lang/String" "COMPACT_STRINGS" "Z", Cmp3.tab, CodL.tab, .laysFinal "java/lang/String" "java/lang/String" "value" "[B", .fieldLink "java/lang/String" 9 "java/lang/String" "value" "[B", .laysFinal "java/lang/String" "java/lang/String" "coder" "B", .fieldLink "java/lang/String" 15 "java/lang/String" "coder" "B"] ++ objW "java/lang/String" 1 ++ staticW "java/lang/String" 177 Cmp3.yN ++ staticW "java/lang/String" 47 CodL.yN
def tab : Cond := tabOf yN yB 6 none site
def P (a : Addr) (D : Cell) (fV fC : Field) (b : Addr) (A : Cell) (z : Int32) (o len : Nat) (args : Array Value) (s : State) : Prop := args = #[.ref a, .ref b, .int (Int32.ofNat o), .int (Int32.ofNat len), .null] ∧ Blank "java/lang/String" a D s ∧ Found "java/lang/String" "value" "[B" fV s ∧ Found "java/lang/String" "coder" "B" fC s ∧ Ch b A s ∧ StaticIs s "java/lang/String" "COMPACT_STRINGS" "Z" (.int z) ∧ ¬ z = 0 ∧ 0 < len ∧ o + len ≤ A.slots.size ∧ len ≤ 536870912 ∧ ∀ i, i < len → ¬ 255 < cv A (o + i)
def E (a : Addr) (D : Cell) (fV fC : Field) (A : Cell) (o len : Nat) (r : Option Value) (s u : State) : Prop := Got a D fV fC A o len r s u
/-- len > 0, no char of the range above 255: a Latin-1 String of their low bytes -/
theorem law (l : Launch) (a : Addr) (D : Cell) (fV fC : Field) (b : Addr) (A : Cell) (z : Int32) (o len : Nat) : Law l yN 5 4 2 35 yB 6 none site (P a D fV fC b A z o len) (E a D fV fC A o len) [⟨a, fC.slot⟩, ⟨a, fV.slot⟩] 1 len := by
  refine Law.of_walk (plainFor_of_name (by decide +kernel)) (by decide +kernel) (by decide +kernel) (by decide) (fun _ _ h => by rw [h.1]; rfl) (fun _ U U' hal hh h => ⟨h.1, h.2.1.mv hal hh, h.2.2.1.al hal, h.2.2.2.1.al hal, h.2.2.2.2.1.mv hal hh, h.2.2.2.2.2.1.there hal hh, h.2.2.2.2.2.2⟩) (fun r U U' V V' h1 hal h2 h => Got.mv r U U' V V' h1 hal h2 h) ?_
  intro p e s m args below meth c s₁ X0 hexec hbytes hml hret hlk hnm hown hh0 W hP
  obtain ⟨rfl, hB, f1, f2, hA, s1, hz, l0, l1, l2, hp⟩ := hP
  have a31 := hA.1.2.2.2
  have c1 : Steps p.tables e below (s₁.setTop (entryFrame m #[.ref a, .ref b, .int (Int32.ofNat o), .int (Int32.ofNat len), .null] 6)) (s₁.setTop (mkF m 0 #[.val (.ref a), .val (.ref b), .val (.int (Int32.ofNat o)), .val (.int (Int32.ofNat len)), .val .null, .unset] [])) := entry rfl
  have c2 : Steps p.tables e below (s₁.setTop (entryFrame m #[.ref a, .ref b, .int (Int32.ofNat o), .int (Int32.ofNat len), .null] 6)) (s₁.setTop (mkF m 1 #[.val (.ref a), .val (.ref b), .val (.int (Int32.ofNat o)), .val (.int (Int32.ofNat len)), .val .null, .unset] [.ref a])) := c1.trans (by
    refine XS.aloadN X0.here hexec rfl (hb hbytes d0) rfl rfl ?_
    exact Steps.refl _)
  obtain ⟨T3, X3, q3, st3⟩ := X0.oinit hexec hown (wks W (objW "java/lang/String" 1)) (g := (mkF m 1 #[.val (.ref a), .val (.ref b), .val (.int (Int32.ofNat o)), .val (.int (Int32.ofNat len)), .val .null, .unset] [.ref a])) rfl (by rw [hml]; rfl) (rest := []) rfl (hb hbytes d1) (W := 0) (by show 2 * 0 + 0 ≤ _; decide) (Nat.le_of_ble_eq_true rfl) (Nat.le_of_ble_eq_true rfl)
  have hh3 := q3.trans hh0
  have c4 : Steps p.tables e below (s₁.setTop (entryFrame m #[.ref a, .ref b, .int (Int32.ofNat o), .int (Int32.ofNat len), .null] 6)) (T3.setTop (mkF m 27 #[.val (.ref a), .val (.ref b), .val (.int (Int32.ofNat o)), .val (.int (Int32.ofNat len)), .val .null, .unset] [])) := (c2.trans (st3 _ (Steps.refl _))).trans (by
    refine XS.iloadN X3.here hexec rfl (hb hbytes d4) rfl ?_
    refine XS.ifYes X3.here hexec rfl (pc0 := 5) rfl (hb hbytes d5) rfl (i0_ne_t (nz32 (by omega) l0)) (by decide) rfl ?_
    exact Steps.refl _)
  obtain ⟨T5, X5, q5, st5⟩ := X3.sget hexec hown (wk W (.fieldLink "java/lang/String" 38 "java/lang/String" "COMPACT_STRINGS" "Z")) s1 (fun _ _ h => by rw [hh3]; exact h) (g := (mkF m 27 #[.val (.ref a), .val (.ref b), .val (.int (Int32.ofNat o)), .val (.int (Int32.ofNat len)), .val .null, .unset] [])) rfl (hb hbytes d27)
  have hh5 := q5.trans hh3
  have c6 : Steps p.tables e below (s₁.setTop (entryFrame m #[.ref a, .ref b, .int (Int32.ofNat o), .int (Int32.ofNat len), .null] 6)) (T5.setTop (mkF m 30 #[.val (.ref a), .val (.ref b), .val (.int (Int32.ofNat o)), .val (.int (Int32.ofNat len)), .val .null, .unset] [.int z])) := c4.trans (st5 _ (Steps.refl _))
  have c7 : Steps p.tables e below (s₁.setTop (entryFrame m #[.ref a, .ref b, .int (Int32.ofNat o), .int (Int32.ofNat len), .null] 6)) (T5.setTop (mkF m 36 #[.val (.ref a), .val (.ref b), .val (.int (Int32.ofNat o)), .val (.int (Int32.ofNat len)), .val .null, .unset] [.int (Int32.ofNat len), .int (Int32.ofNat o), .ref b])) := c6.trans (by
    refine XS.ifNo X5.here hexec rfl (hb hbytes d30) rfl (i0_eq_f hz) ?_
    refine XS.aloadN X5.here hexec rfl (hb hbytes d33) rfl rfl ?_
    refine XS.iloadN X5.here hexec rfl (hb hbytes d34) rfl ?_
    refine XS.iloadN X5.here hexec rfl (hb hbytes d35) rfl ?_
    exact Steps.refl _)
  obtain ⟨v8, T8, X8, E8, g8⟩ := X5.callS hexec (Cmp3.law l b A o len) hown (wks W (staticW "java/lang/String" 177 Cmp3.yN)) (wk W Cmp3.tab) (W := 0) (Nat.le_of_ble_eq_true rfl) (Nat.le_of_ble_eq_true rfl) (Nat.le_refl _) (by show 0 + len ≤ len; omega) (g := (mkF m 36 #[.val (.ref a), .val (.ref b), .val (.int (Int32.ofNat o)), .val (.int (Int32.ofNat len)), .val .null, .unset] [.int (Int32.ofNat len), .int (Int32.ofNat o), .ref b])) rfl (by rw [hml]; rfl) c7 (argsL := [.ref b, .int (Int32.ofNat o), .int (Int32.ofNat len)]) (rest := []) rfl rfl (by show 2 * 0 + 0 ≤ _; decide) (hb hbytes d36) (⟨rfl, hA.mv X5.warmed.alike hh5, l1, l2, hp⟩)
  obtain ⟨e8, z8⟩ := E8
  obtain ⟨rfl, N, n1, n2, n3, n4, n5, n6⟩ := NewArr.mv _ T5 s _ _ hh5.symm (Vm.Alike.refl _) rfl e8
  rw [hh5] at z8
  have hB1 := hB.keep X8.warmed.alike (n6 _ _ hB.1)
  have hne : s.heap.size ≠ a := (Nat.ne_of_lt (Array.getElem?_eq_some_iff.mp hB.1).1).symm
  have c9 : Steps p.tables e below (s₁.setTop (entryFrame m #[.ref a, .ref b, .int (Int32.ofNat o), .int (Int32.ofNat len), .null] 6)) (T8.setTop (mkF m 39 #[.val (.ref a), .val (.ref b), .val (.int (Int32.ofNat o)), .val (.int (Int32.ofNat len)), .val .null, .unset] [.ref s.heap.size])) := g8
  have c10 : Steps p.tables e below (s₁.setTop (entryFrame m #[.ref a, .ref b, .int (Int32.ofNat o), .int (Int32.ofNat len), .null] 6)) (T8.setTop (mkF m 45 #[.val (.ref a), .val (.ref b), .val (.int (Int32.ofNat o)), .val (.int (Int32.ofNat len)), .val .null, .val (.ref s.heap.size)] [.int (Int32.ofNat N.slots.size), .ref s.heap.size, .ref a])) := by
    have hc : Steps p.tables e below (s₁.setTop (entryFrame m #[.ref a, .ref b, .int (Int32.ofNat o), .int (Int32.ofNat len), .null] 6)) (T8.setTop (mkF m 45 #[.val (.ref a), .val (.ref b), .val (.int (Int32.ofNat o)), .val (.int (Int32.ofNat len)), .val .null, .val (.ref s.heap.size)] [.int (Int32.ofNat len), .ref s.heap.size, .ref a])) := c9.trans (by
      refine XS.astore X8.here hexec rfl (hb hbytes d39) rfl rfl rfl ?_
      refine XS.aloadN X8.here hexec rfl (hb hbytes d41) rfl rfl ?_
      refine XS.aload X8.here hexec rfl (hb hbytes d42) rfl rfl ?_
      refine XS.iloadN X8.here hexec rfl (hb hbytes d44) rfl ?_
      exact Steps.refl _)
    rw [n4]; exact hc
  obtain ⟨v11, T11, X11, E11, g11⟩ := X8.callS hexec (CodL.law l s.heap.size N) hown (wks W (staticW "java/lang/String" 47 CodL.yN)) (wk W CodL.tab) (W := 1) (Nat.le_of_ble_eq_true rfl) (Nat.le_of_ble_eq_true rfl) (Nat.le_refl _) (by show 0 + len + 0 ≤ len; omega) (g := (mkF m 45 #[.val (.ref a), .val (.ref b), .val (.int (Int32.ofNat o)), .val (.int (Int32.ofNat len)), .val .null, .val (.ref s.heap.size)] [.int (Int32.ofNat N.slots.size), .ref s.heap.size, .ref a])) rfl (by rw [hml]; rfl) c10 (argsL := [.ref s.heap.size, .int (Int32.ofNat N.slots.size)]) (rest := [.ref a]) rfl rfl (by show 2 * 0 + (1 + 0) ≤ _; decide) (hb hbytes d45) (⟨rfl, n1⟩)
  obtain ⟨rfl, q11⟩ := E11
  have hB11 := hB1.mv (X8.warmed.alike.symm.trans X11.warmed.alike) q11
  have c12 : Steps p.tables e below (s₁.setTop (entryFrame m #[.ref a, .ref b, .int (Int32.ofNat o), .int (Int32.ofNat len), .null] 6)) (T11.setTop (mkF m 48 #[.val (.ref a), .val (.ref b), .val (.int (Int32.ofNat o)), .val (.int (Int32.ofNat len)), .val .null, .val (.ref s.heap.size)] [.int 0, .ref a])) := g11
  obtain ⟨T13, X13, p13, bl13, sl13, st13⟩ := X11.finit hexec hown (wk W (.fieldLink "java/lang/String" 15 "java/lang/String" "coder" "B")) (Or.inr ⟨_, (wk W (.laysFinal "java/lang/String" "java/lang/String" "coder" "B"))⟩) (Or.inl ⟨rfl, hnm⟩) f2 (Or.inl rfl) hB11 (t := .byte) (by decide +kernel) rfl (g := (mkF m 48 #[.val (.ref a), .val (.ref b), .val (.int (Int32.ofNat o)), .val (.int (Int32.ofNat len)), .val .null, .val (.ref s.heap.size)] [.int 0, .ref a])) rfl (rest := []) rfl (hb hbytes d48)
  have c14 : Steps p.tables e below (s₁.setTop (entryFrame m #[.ref a, .ref b, .int (Int32.ofNat o), .int (Int32.ofNat len), .null] 6)) (T13.setTop (mkF m 54 #[.val (.ref a), .val (.ref b), .val (.int (Int32.ofNat o)), .val (.int (Int32.ofNat len)), .val .null, .val (.ref s.heap.size)] [.ref s.heap.size, .ref a])) := (c12.trans (st13 _ (Steps.refl _))).trans (by
    refine XS.aloadN X13.here hexec rfl (hb hbytes d51) rfl rfl ?_
    refine XS.aload X13.here hexec rfl (hb hbytes d52) rfl rfl ?_
    exact Steps.refl _)
  obtain ⟨T15, X15, p15, bl15, sl15, st15⟩ := X13.finit hexec hown (wk W (.fieldLink "java/lang/String" 9 "java/lang/String" "value" "[B")) (Or.inr ⟨_, (wk W (.laysFinal "java/lang/String" "java/lang/String" "value" "[B"))⟩) (Or.inl ⟨rfl, hnm⟩) f1 (Or.inl rfl) bl13 (t := (.array .byte)) (by decide +kernel) rfl (g := (mkF m 54 #[.val (.ref a), .val (.ref b), .val (.int (Int32.ofNat o)), .val (.int (Int32.ofNat len)), .val .null, .val (.ref s.heap.size)] [.ref s.heap.size, .ref a])) rfl (rest := []) rfl (hb hbytes d54)
  have c16 : Steps p.tables e below (s₁.setTop (entryFrame m #[.ref a, .ref b, .int (Int32.ofNat o), .int (Int32.ofNat len), .null] 6)) (T15.setTop (mkF m 57 #[.val (.ref a), .val (.ref b), .val (.int (Int32.ofNat o)), .val (.int (Int32.ofNat len)), .val .null, .val (.ref s.heap.size)] [])) := c14.trans (st15 _ (Steps.refl _))
  have ap := apart (Or.inr ⟨_, (wk W (.laysFinal "java/lang/String" "java/lang/String" "value" "[B"))⟩) (Or.inr ⟨_, (wk W (.laysFinal "java/lang/String" "java/lang/String" "coder" "B"))⟩) f1 f2 (t₁ := .array .byte) (t₂ := .byte) (by decide +kernel) (by decide +kernel) (by decide)
  have al := X8.warmed.alike.symm.trans X15.warmed.alike
  have n7 : T11.heap[s.heap.size]? = some N := by rw [q11]; exact n1.1
  exact ⟨T15, none, _, _, _, X15, by simp, rfl, by omega, (fun _ => rfl), ⟨rfl, _, N, bl15, ((Same.refl D _).set _ (by simp)).set _ (by simp), sl15, (Cell.slots_setSlot_ne _ ap).trans sl13, n1.keep al (p15.other hne (p13.other hne n7)), n2, by rw [al.findClass]; exact n3, n4, n5, fun y c h1 h2 => p15.other h1 (p13.other h1 (by rw [q11]; exact n6 y c h2)), by rw [p15.2.2, p13.2.2, q11]; exact z8⟩, fun fs hl => c16.trans (X15.returnOut hexec hret (hb hbytes d57) hl)⟩
end New4
namespace New1
def yN : MethodName := ⟨"java/lang/String", "<init>", "([C)V"⟩
abbrev yB : ByteArray := jdk_42_method_3_code
theorem d0 : decode yB 0 = .ok (.aload_n 0, 1) := by decide +kernel
theorem d1 : decode yB 1 = .ok (.aload_n 1, 1) := by decide +kernel
theorem d2 : decode yB 2 = .ok (.iconst 0, 1) := by decide +kernel
theorem d3 : decode yB 3 = .ok (.aload_n 1, 1) := by decide +kernel
theorem d4 : decode yB 4 = .ok (.arraylength, 1) := by decide +kernel
theorem d5 : decode yB 5 = .ok (.aconst_null, 1) := by decide +kernel
theorem d6 : decode yB 6 = .ok (.invokespecial 27, 3) := by decide +kernel
theorem d9 : decode yB 9 = .ok (.return_, 1) := by decide +kernel
def site : List Cond := [New4.tab] ++ initW "java/lang/String" 27 New4.yN
def tab : Cond := tabOf yN yB 2 none site
def P (a : Addr) (D : Cell) (fV fC : Field) (b : Addr) (A : Cell) (z : Int32) (args : Array Value) (s : State) : Prop := args = #[.ref a, .ref b] ∧ Blank "java/lang/String" a D s ∧ Found "java/lang/String" "value" "[B" fV s ∧ Found "java/lang/String" "coder" "B" fC s ∧ Ch b A s ∧ StaticIs s "java/lang/String" "COMPACT_STRINGS" "Z" (.int z) ∧ ¬ z = 0 ∧ 0 < A.slots.size ∧ A.slots.size ≤ 536870912 ∧ ∀ i, i < A.slots.size → ¬ 255 < cv A i
def E (a : Addr) (D : Cell) (fV fC : Field) (A : Cell) (r : Option Value) (s u : State) : Prop := Got a D fV fC A 0 A.slots.size r s u
/-- new String(chars), not empty, no char above 255: a Latin-1 String of their low bytes -/
theorem law (l : Launch) (a : Addr) (D : Cell) (fV fC : Field) (b : Addr) (A : Cell) (z : Int32) : Law l yN 2 1 3 52 yB 2 none site (P a D fV fC b A z) (E a D fV fC A) [⟨a, fC.slot⟩, ⟨a, fV.slot⟩] 1 A.slots.size := by
  refine Law.of_walk (plainFor_of_name (by decide +kernel)) (by decide +kernel) (by decide +kernel) (by decide) (fun _ _ h => by rw [h.1]; rfl) (fun _ U U' hal hh h => ⟨h.1, h.2.1.mv hal hh, h.2.2.1.al hal, h.2.2.2.1.al hal, h.2.2.2.2.1.mv hal hh, h.2.2.2.2.2.1.there hal hh, h.2.2.2.2.2.2⟩) (fun r U U' V V' h1 hal h2 h => Got.mv r U U' V V' h1 hal h2 h) ?_
  intro p e s m args below meth c s₁ X0 hexec hbytes hml hret hlk hnm hown hh0 W hP
  obtain ⟨rfl, hB, f1, f2, hA, s1, hz, l0, l2, hp⟩ := hP
  have c1 : Steps p.tables e below (s₁.setTop (entryFrame m #[.ref a, .ref b] 2)) (s₁.setTop (mkF m 0 #[.val (.ref a), .val (.ref b)] [])) := entry rfl
  have c2 : Steps p.tables e below (s₁.setTop (entryFrame m #[.ref a, .ref b] 2)) (s₁.setTop (mkF m 6 #[.val (.ref a), .val (.ref b)] [.null, .int (Int32.ofNat A.slots.size), .int 0, .ref b, .ref a])) := c1.trans (by
    refine XS.aloadN X0.here hexec rfl (hb hbytes d0) rfl rfl ?_
    refine XS.aloadN X0.here hexec rfl (hb hbytes d1) rfl rfl ?_
    refine iconstV X0.here hexec rfl 0 (hb hbytes d2) (by decide) ?_
    refine XS.aloadN X0.here hexec rfl (hb hbytes d3) rfl rfl ?_
    refine X0.alen hexec (hA.1.mv X0.warmed.alike hh0) rfl rfl (hb hbytes d4) ?_
    refine XS.aconstNull X0.here hexec rfl (hb hbytes d5) ?_
    exact Steps.refl _)
  obtain ⟨v3, T3, X3, E3, g3⟩ := X0.callN hexec (New4.law l a D fV fC b A z 0 A.slots.size) rfl hown (wks W (initW "java/lang/String" 27 New4.yN)) (W New4.tab (by simp only [site, List.mem_cons, List.mem_append, true_or, or_true])) (W := 0) (Nat.le_of_ble_eq_true rfl) (Nat.le_of_ble_eq_true rfl) (Nat.le_refl _) (by show 0 + A.slots.size ≤ A.slots.size; omega) (g := (mkF m 6 #[.val (.ref a), .val (.ref b)] [.null, .int (Int32.ofNat A.slots.size), .int (Int32.ofNat 0), .ref b, .ref a])) rfl (by rw [hml]; rfl) c2 (argsL := [.ref b, .int (Int32.ofNat 0), .int (Int32.ofNat A.slots.size), .null]) (rest := []) rfl rfl (by show 2 * 0 + 0 ≤ _; decide) (hb hbytes d6) (⟨rfl, hB.mv X0.warmed.alike hh0, f1.al X0.warmed.alike, f2.al X0.warmed.alike, hA.mv X0.warmed.alike hh0, s1.there X0.warmed.alike hh0, hz, l0, by omega, l2, fun i hi => by rw [Nat.zero_add]; exact hp i hi⟩)
  have e0 := Got.mv _ s₁ s _ _ hh0.symm (Vm.Alike.refl _) rfl E3
  obtain rfl := e0.1
  have c4 : Steps p.tables e below (s₁.setTop (entryFrame m #[.ref a, .ref b] 2)) (T3.setTop (mkF m 9 #[.val (.ref a), .val (.ref b)] [])) := g3
  exact ⟨T3, none, _, _, _, X3, by simp, rfl, by omega, (fun _ => rfl), e0, fun fs hl => c4.trans (X3.returnOut hexec hret (hb hbytes d9) hl)⟩
theorem pays {l : Launch} {R : Room} {p : Program} {e : Env} {below : List Frame} {s : State} {sargs : Array Value} {len W : Nat} (a : Addr) (D : Cell) (fV fC : Field) (b : Addr) (A : Cell) (z : Int32) (htab : tab.before sargs s = true) (hfr : 4 ≤ R.frames) (hlo : W + 65 ≤ R.locals) :
    Back l R p e below s sargs yN len W (fun A₁ a₁ => A₁.cells + 1 ≤ R.cells ∧ A₁.slots + A.slots.size ≤ R.slots ∧ P a D fV fC b A z a₁ A₁.U) (fun A₁ _ v₁ B₁ => E a D fV fC A v₁ A₁.U B₁.U ∧ B₁.locs = A₁.locs ++ [⟨a, fC.slot⟩, ⟨a, fV.slot⟩] ∧ B₁.cells = A₁.cells + 1 ∧ B₁.slots = A₁.slots + A.slots.size) :=
  (law l a D fV fC b A z).pays htab hfr (by omega)
end New1
end StrChars
namespace StrChars.Road
open Jvm Sem ClassFile Op Lib Jvm.Stand Jvm.Free Jvm.Free.XT
open Jvm.Lib.Cold (StaticIs)
abbrev ST : String := "java/lang/String"
/-- every table word that New1's law asks, flat -/
abbrev words : List Jvm.Cond := [.code New1.yN New1.yB 2 none, .initialized ST, .methodLink ST 27 New4.yN, .instanceMethod New4.yN,
  .code New4.yN New4.yB 6 none, .fieldLink ST 38 ST "COMPACT_STRINGS" "Z", .laysFinal ST ST "value" "[B", .fieldLink ST 9 ST "value" "[B", .laysFinal ST ST "coder" "B", .fieldLink ST 15 ST "coder" "B",
  .methodLink ST 1 Lib.objectInit, .instanceMethod Lib.objectInit, .code Lib.objectInit ⟨#[0xb1]⟩ 1 none, .methodLink ST 177 Cmp3.yN, .static Cmp3.yN, .methodLink ST 47 CodL.yN, .static CodL.yN,
  .code Cmp3.yN Cmp3.yB 6 (some (.array .byte)), .initialized U16, .arrayClass .byte, .methodLink U16 115 Cmp5.yN, .static Cmp5.yN, .code Cmp5.yN Cmp5.yB 7 (some .int), .code CodL.yN CodL.yB 2 (some .byte)]
theorem tab_of {a : Array Value} {s : State} (h : ∀ w ∈ words, w.before a s = true) : New1.tab.before a s = true := by
  have h5 : Cmp5.tab.before a s = true := unparts (wk h (.code Cmp5.yN Cmp5.yB 7 (some .int))) (wks h (.initialized Cmp5.yN.cls :: Cmp5.site))
  have hc : CodL.tab.before a s = true := unparts (wk h (.code CodL.yN CodL.yB 2 (some .byte))) (wks h (.initialized CodL.yN.cls :: CodL.site))
  have q5 : ∀ w ∈ Cmp5.tab :: words, w.before a s = true := fun w hw => (List.mem_cons.mp hw).elim (fun e => e ▸ h5) (h w)
  have h3 : Cmp3.tab.before a s = true := unparts (wk q5 (.code Cmp3.yN Cmp3.yB 6 (some (.array .byte)))) (wks q5 (.initialized Cmp3.yN.cls :: Cmp3.site))
  have q3 : ∀ w ∈ Cmp3.tab :: CodL.tab :: words, w.before a s = true := fun w hw => (List.mem_cons.mp hw).elim (fun e => e ▸ h3) fun hw => (List.mem_cons.mp hw).elim (fun e => e ▸ hc) (h w)
  have h4 : New4.tab.before a s = true := unparts (wk q3 (.code New4.yN New4.yB 6 none)) (wks q3 (.initialized New4.yN.cls :: New4.site))
  have q4 : ∀ w ∈ New4.tab :: words, w.before a s = true := fun w hw => (List.mem_cons.mp hw).elim (fun e => e ▸ h4) (h w)
  exact unparts (wk q4 (.code New1.yN New1.yB 2 none)) (wks q4 (.initialized New1.yN.cls :: New1.site))
/-- the words ride from the start Z to the walk's own state -/
theorem moved {Z s : State} {a0 args : Array Value} (hZ : Z.Warmed39 s.vm) (hw : ∀ d ∈ words, d.before a0 Z = true) : ∀ d ∈ words, d.before args s = true := fun d hd => by
  have q := hw d hd
  have t : ∀ d ∈ words, d = .arrayClass .byte ∨ (d.onTables && d.keepsFace) = true := by decide +kernel
  rcases t d hd with rfl | t
  · exact RoadKit.mvA hZ q
  · exact RoadKit.mv hZ q t
/-- WHAT COMES BACK, over the tables of the start Z: h the heap at the call, h' behind it -/
def Q (Z : State) (x : Addr) (A : Cell) (h : Heap) (v : Option Value) (h' : Heap) (L : List Loc) : Prop := v = none ∧ (∀ y ∈ L, y.base = x) ∧ RoadKit.Keep h h' [x] ∧ h'.size = h.size + 1 ∧ RoadKit.Exa Z h' x ST ∧ RoadKit.Fld Z h' x ST "value" "[B" (.ref h.size) ∧ RoadKit.Fld Z h' x ST "coder" "B" (.int 0) ∧
  (∃ V : Cell, RoadKit.Arr Z h' h.size V .byte ∧ V.vm = .none ∧ Z.vm.findClass "[B" = some V.cls ∧ V.slots.size = A.slots.size ∧ ∀ j, j < A.slots.size → V.slots[j]? = some (.int (lo8 (cv A j)))) ∧
  ∀ (O n d : String) (w : Value), RoadKit.Fld Z h x O n d w → RoadKit.slotOf Z O n d ≠ RoadKit.slotOf Z ST "value" "[B" → RoadKit.slotOf Z O n d ≠ RoadKit.slotOf Z ST "coder" "B" → RoadKit.Fld Z h' x O n d w
/-- **new String(chars) AT A CALL, IN THE ROAD'S FORM**: for specialBack behind newO: x the fresh String, b the char[] with the cell A -/
theorem back {p : Program} {l : Launch} {e : Env} {R : Room} {s : State} {args : Array Value} {below : List Frame} {len W : Nat} {Z : State} {a0 : Array Value} {h : Heap} (hZ : Z.Warmed39 s.vm) (hw : ∀ d ∈ words, d.before a0 Z = true) {kI : Nat} (wi : (Jvm.Cond.instantiable ST kI).before a0 Z = true)
    {x b : Addr} {A : Cell} {z : Int32} {v0 c0 : Value} (E : RoadKit.Exa Z h x ST) (V : RoadKit.Fld Z h x ST "value" "[B" v0) (C : RoadKit.Fld Z h x ST "coder" "B" c0) (K : RoadKit.Arr Z h b A .char) (hty : Typed .char A) (S : RoadKit.Sta Z h ST "COMPACT_STRINGS" "Z" (.int z)) (hz : ¬ z = 0)
    (l0 : 0 < A.slots.size) (l2 : A.slots.size ≤ 536870912) (hp : ∀ i, i < A.slots.size → ¬ 255 < cv A i) (hfr : 4 ≤ R.frames) (hlo : W + 65 ≤ R.locals) :
    Back l R p e below s args New1.yN len W (fun P a => a = #[.ref x, .ref b] ∧ P.U.heap = h ∧ P.cells + 1 ≤ R.cells ∧ P.slots + A.slots.size ≤ R.slots)
      (fun P _ v B => ∃ L, Q Z x A h v B.U.heap L ∧ B.locs = P.locs ++ L ∧ B.cells = P.cells + 1 ∧ B.slots = P.slots + A.slots.size) := by
  intro m meth c P g ig mk a X hg hsize hdg hW hn hp'
  obtain ⟨rfl, rfl, r1, r2⟩ := hp'
  have al : Z.vm.Alike P.U.vm := hZ.alike.trans X.warmed.alike
  obtain ⟨D, cfV, kV, iV, fV, hD, gV, stV, knV, obV, asV, slV⟩ := id V
  obtain ⟨D', cfC, kC, iC, fC, hD', gC, stC, -, -, asC, slC⟩ := id C
  cases hD.symm.trans hD'
  obtain ⟨D2, kD, e1, e2, e3, e4, e5⟩ := id E
  cases hD.symm.trans e1
  obtain ⟨c2, k2, i1, i2, i3, -⟩ := Cond.instantiable_spec wi
  cases e2.symm.trans i1
  cases e3.symm.trans i2
  obtain ⟨kU, u1, u2⟩ := al.2.2 _ _ e3
  have hB : Blank ST x D P.U := ⟨hD, ⟨knV, fun q hq => by rw [hq] at obV; cases obV⟩, by rw [al.findClass]; exact e2, kU, u1, by rw [u2]; exact i3, by rw [u2]; exact e5 i3⟩
  have F1 : Found ST "value" "[B" fV P.U := ⟨SBG.found_only al ⟨cfV, kV, iV, gV⟩, stV⟩
  have F2 : Found ST "coder" "B" fC P.U := ⟨SBG.found_only al ⟨cfC, kC, iC, gC⟩, stC⟩
  have hA : Ch b A P.U := ⟨⟨K.1, State.isArrayOf_alike al K.2.1, K.2.2, by omega⟩, hty⟩
  have hS : StaticIs P.U ST "COMPACT_STRINGS" "Z" (.int z) := by
    obtain ⟨cfS, iS, kS, fS, st, cS, t1, t2, t3, t4, t5, t6, t7⟩ := S
    exact StaticIs.there (s := { Z with heap := P.U.heap }) ⟨cfS, iS, kS, fS, st, cS, t1, t2, t3, t4, t5, (fun q => by rw [q] at t6; cases t6), t7⟩ al rfl
  obtain ⟨v, B, X', ⟨⟨hv, E', V', q1, q2, q3, q4, q5, q6, q7, q8, q9, q10, q11⟩, hl, hc, hs⟩, st⟩ := New1.pays x D fV fC b A z (tab_of (moved hZ hw)) hfr hlo m meth c P g ig mk _ X hg hsize hdg hW hn ⟨r1, r2, rfl, hB, F1, F2, hA, hS, hz, l0, l2, hp⟩
  have al' : Z.vm.Alike B.U.vm := hZ.alike.trans X'.warmed.alike
  have hsz : E'.slots.size = D.slots.size := by
    obtain ⟨-, -, -, kB, w1, w2, w3⟩ := q1
    obtain ⟨kB', y1, y2⟩ := al'.2.2 _ _ e3
    rw [q2.2.1] at w1
    cases w1.symm.trans y1
    rw [w3, e5 i3, y2]
  refine ⟨v, B, X', ⟨_, ⟨hv, ?_, ⟨by omega, fun y cy hy hn' => q10 y cy (by simpa using hn') hy, fun y cy hy => ?_⟩, q11, ⟨E', _, q1.1, by rw [q2.2.1]; exact e2, by rw [q2.2.1]; exact e3, by rw [q2.1]; exact obV, fun _ => by rw [hsz]; exact e5 i3⟩,
    ⟨E', cfV, kV, iV, fV, q1.1, gV, stV, by rw [q2.1]; exact knV, by rw [q2.1]; exact obV, by rw [q2.2.1]; exact asV, q3⟩, ⟨E', cfC, kC, iC, fC, q1.1, gC, stC, by rw [q2.1]; exact knV, by rw [q2.1]; exact obV, by rw [q2.2.1]; exact asC, q4⟩,
    ⟨V', ⟨q5.1, State.isArrayOf_alike al'.symm q5.2.1, q5.2.2.1⟩, q6, by rw [← al'.findClass]; exact q7, q8, fun j hj => by have := q9 j hj; rwa [Nat.zero_add] at this⟩, fun O n d w F n1 n2 => ?_⟩, hl, hc, hs⟩, st⟩
  · intro y hy
    simp only [List.mem_cons, List.not_mem_nil, or_false] at hy
    rcases hy with rfl | rfl <;> rfl
  · by_cases q : y = x
    · subst q
      cases hD.symm.trans hy
      exact ⟨E', q1.1, q2.2.1, q2.1, hsz⟩
    · exact ⟨cy, q10 y cy q hy, rfl, rfl, rfl⟩
  · obtain ⟨D3, cf, k, i, f, g1, g2, g3, g4, g5, g6, g7⟩ := F
    cases hD.symm.trans g1
    simp only [RoadKit.slotOf, g2, gV, gC, Option.map_some, Option.getD_some] at n1 n2
    exact ⟨E', cf, k, i, f, q1.1, g2, g3, by rw [q2.1]; exact g4, by rw [q2.1]; exact g5, by rw [q2.2.1]; exact g6, by rw [q2.2.2 f.slot (by simp [n1, n2])]; exact g7⟩
end StrChars.Road
namespace StrChars.Road
open Jvm Sem ClassFile Op Lib Jvm.Stand Jvm.Free Jvm.Free.XT
/-- WHAT COMES BACK, the byte[] as a list of values -/
def QA (Z : State) (x : Addr) (zn : Int32) (cs : List Int32) (h : Heap) (v : Option Value) (h' : Heap) (L : List Loc) : Prop := v = none ∧ (∀ y ∈ L, y.base = x) ∧ RoadKit.Keep h h' [x] ∧ h'.size = h.size + 1 ∧ RoadKit.Exa Z h' x ST ∧ RoadKit.Fld Z h' x ST "value" "[B" (.ref h.size) ∧ RoadKit.Fld Z h' x ST "coder" "B" (.int 0) ∧
  (∃ kb, Z.vm.findClass "[B" = some kb ∧ RoadKit.Arv Z h' h.size kb .byte zn (cs.map fun c => .int (lo8 c)) (.int 0)) ∧
  ∀ (O n d : String) (w : Value), RoadKit.Fld Z h x O n d w → RoadKit.slotOf Z O n d ≠ RoadKit.slotOf Z ST "value" "[B" → RoadKit.slotOf Z O n d ≠ RoadKit.slotOf Z ST "coder" "B" → RoadKit.Fld Z h' x O n d w
/-- **new String(chars) AT A CALL, THE ARRAYS AS LISTS**: the char[] at b holds cs, not empty, no char above 255 -/
theorem backArv {p : Program} {l : Launch} {e : Env} {R : Room} {s : State} {args : Array Value} {below : List Frame} {len W : Nat} {Z : State} {a0 : Array Value} {h : Heap} (hZ : Z.Warmed39 s.vm) (hw : ∀ d ∈ words, d.before a0 Z = true) {kI : Nat} (wi : (Jvm.Cond.instantiable ST kI).before a0 Z = true)
    {x b : Addr} {k : ClassId} {zn z : Int32} {cs : List Int32} {dv v0 c0 : Value} (E : RoadKit.Exa Z h x ST) (V : RoadKit.Fld Z h x ST "value" "[B" v0) (C : RoadKit.Fld Z h x ST "coder" "B" c0) (K : RoadKit.Arv Z h b k .char zn (cs.map Value.int) dv) (S : RoadKit.Sta Z h ST "COMPACT_STRINGS" "Z" (.int z)) (hz : ¬ z = 0)
    (hlen : zn.toNatClampNeg = cs.length) (h0 : 0 < cs.length) (hbig : cs.length ≤ 536870912) (hall : ∀ c ∈ cs, ¬ 255 < c) (hfr : 4 ≤ R.frames) (hlo : W + 65 ≤ R.locals) :
    Back l R p e below s args New1.yN len W (fun P a => a = #[.ref x, .ref b] ∧ P.U.heap = h ∧ P.cells + 1 ≤ R.cells ∧ P.slots + cs.length ≤ R.slots)
      (fun P _ v B => ∃ L, QA Z x zn cs h v B.U.heap L ∧ B.locs = P.locs ++ L ∧ B.cells = P.cells + 1 ∧ B.slots = P.slots + cs.length) := by
  obtain ⟨A, K1, K2, K3, K4, K5, K6⟩ := K
  have e : A.slots.size = cs.length := K3.trans hlen
  have hat : ∀ (i : Nat) (hi : i < cs.length), A.slots[i]? = some (.int cs[i]) := fun i hi => by rw [K5 i (by omega)]; simp [List.getD_eq_getElem?_getD, hi]
  have hcv : ∀ (i : Nat) (hi : i < cs.length), cv A i = cs[i] := fun i hi => by unfold cv; rw [hat i hi]
  have hty : Typed .char A := fun i v hv => by
    have hi : i < A.slots.size := (Array.getElem?_eq_some_iff.mp hv).1
    have q := K5 i hi
    rw [hv] at q
    rw [Option.some.inj q]
    exact K6 i hi
  refine Back.mono (back hZ hw wi E V C K1 hty S hz (by omega) (by omega) (fun i hi => by rw [hcv i (by omega)]; exact hall _ (List.getElem_mem _)) hfr hlo) (fun P a hp => ⟨hp.1, hp.2.1, hp.2.2.1, by rw [e]; exact hp.2.2.2⟩) (fun P a v B hp hq => ?_)
  obtain ⟨L, ⟨q1, q2, q3, q4, q5, q6, q7, ⟨V', v1, v2, v3, v4, v5⟩, q9⟩, hl, hc, hs⟩ := hq
  refine ⟨L, ⟨q1, q2, q3, q4, q5, q6, q7, ⟨V'.cls, v3, V', v1, rfl, by rw [v4, e, hlen], K4, fun i hi => ?_, fun i hi => ?_⟩, q9⟩, hl, hc, by rw [hs, e]⟩
  · have hi' : i < cs.length := by omega
    rw [v5 i (by omega), hcv i hi']; simp [List.getD_eq_getElem?_getD, hi']
  · have hi' : i < cs.length := by omega
    simp only [List.getD_eq_getElem?_getD, List.getElem?_map, List.getElem?_eq_getElem hi', Option.map_some, Option.getD_some]
    exact fits_lo8 _
end StrChars.Road
namespace StrChars.Road
open Jvm Sem ClassFile Op Lib Jvm.Stand Jvm.Free Jvm.Free.XT
/-- WHAT COMES BACK, in the writer's own shape -/
def QV (Z : State) (x : Addr) (N : Int32) (bs : List Int32) (h : Heap) (n0 : Nat) (v : Option Value) (h' : Heap) (L : List Loc) : Prop := v = none ∧ RoadKit.Fr n0 L ∧ RoadKit.Keep h h' [x] ∧ RoadKit.Exa Z h' x ST ∧ RoadKit.Fld Z h' x ST "coder" "B" (.int 0) ∧
  ∃ (t : Addr) (kb : ClassId), n0 ≤ t ∧ h.size ≤ t ∧ ¬ t = x ∧ RoadKit.Fld Z h' x ST "value" "[B" (.ref t) ∧ RoadKit.Arv Z h' t kb .byte N (bs.map Value.int) (.int 0)
/-- **new String(chars) AT A CALL, FOR THE WRITER**: a char[] of n known ints, each 0 to 255 -/
theorem backV {p : Program} {l : Launch} {e : Env} {R : Room} {s : State} {args : Array Value} {below : List Frame} {len W : Nat} {Z : State} {a0 : Array Value} {h : Heap} (hZ : Z.Warmed39 s.vm) (hw : ∀ d ∈ words, d.before a0 Z = true) {kI : Nat} (wi : (Jvm.Cond.instantiable ST kI).before a0 Z = true)
    {x b : Addr} {kC : ClassId} {cs bs : List Int32} {d v0 c0 : Value} {z N : Int32} {n n0 : Nat} (hx0 : n0 ≤ x) (hh0 : n0 ≤ h.size) (E : RoadKit.Exa Z h x ST) (V : RoadKit.Fld Z h x ST "value" "[B" v0) (C : RoadKit.Fld Z h x ST "coder" "B" c0) (K : RoadKit.Arv Z h b kC .char N (cs.map Value.int) d) (S : RoadKit.Sta Z h ST "COMPACT_STRINGS" "Z" (.int z)) (hz : ¬ z = 0)
    (hn : cs.length = n) (hN : N = Int32.ofNat n) (l0 : 0 < n) (l2 : n ≤ 4000) (hp : ∀ c ∈ cs, ¬ c < 0 ∧ ¬ (255 : Int32) < c) (hb : bs = cs.map (fun c => c.toInt8.toInt32)) (hfr : 4 ≤ R.frames) (hlo : W + 65 ≤ R.locals) :
    Back l R p e below s args (⟨"java/lang/String", "<init>", "([C)V"⟩ : MethodName) len W (fun P a => a = #[.ref x, .ref b] ∧ P.U.heap = h ∧ P.cells + 1 ≤ R.cells ∧ P.slots + n ≤ R.slots)
      (fun P _ v B => ∃ L, QV Z x N bs h n0 v B.U.heap L ∧ B.locs = P.locs ++ L ∧ B.cells = P.cells + 1 ∧ B.slots = P.slots + n) := by
  subst hn hN hb
  refine Back.mono (backArv hZ hw wi E V C K S hz (n32 (by omega)) l0 (by omega) (fun c hc => (hp c hc).2) hfr hlo) (fun P a hp => hp) (fun P a v B hp hq => ?_)
  obtain ⟨L, ⟨q1, q2, q3, q4, q5, q6, q7, ⟨kb, v1, v2⟩, q9⟩, hl, hc, hs⟩ := hq
  exact ⟨L, ⟨q1, fun y hy => by rw [q2 y hy]; exact hx0, q3, q5, q7, h.size, kb, hh0, Nat.le_refl _, Nat.ne_of_gt E.lt, q6, by rw [List.map_map]; exact v2⟩, hl, hc, hs⟩
end StrChars.Road
end Jvm.Pilot.@@N@@
namespace Jvm.Pilot.@@N@@
open Jvm Jvm.ClassFile Sem Op Lib Jvm.Free Jvm.Stand Jvm.LawKit Jvm.RoadKit Bundle Jvm.Pilot.@@N@@.Jvm.D
/-! own small kit: the goal of a walk, backward; the leaves -/
def Gl (tb : Tables) (e : Env) (below : List Frame) (QQ : Outcome → State → Prop) (st : State) : Prop := ∃ s₂ o, Steps tb e below st s₂ ∧ s₂.status = .running ∧ Ended s₂ below o ∧ QQ o s₂
theorem Gl.go {tb : Tables} {e : Env} {below : List Frame} {QQ : Outcome → State → Prop} {st st' : State} (h : ∀ t, Steps tb e below st' t → Steps tb e below st t) (g : Gl tb e below QQ st') : Gl tb e below QQ st := by
  obtain ⟨s2, o, h1, h2⟩ := g
  exact ⟨s2, o, h _ h1, h2⟩
def QQof (s : State) (Q : Option Value → Heap → List Loc → Prop) (k n : Nat) : Outcome → State → Prop := fun o U => ∃ v L, o = .returned v ∧ Q v U.heap L ∧ FrameEnd s o U L k n
section Leaf
variable {p : Program} {l : Launch} {e : Env} {R : Room} {s : State} {m : MethodId} {args : Array Value} {below : List Frame} {meth : Method} {c : Code} {T : State} {locs : List Loc} {cells slots : Nat} {pc : Nat} {Ls : Array Slot} {rest : List Value} {Q : Option Value → Heap → List Loc → Prop} {k n : Nat}
theorem leafN (X : Stand p l e R s m args below meth c T locs cells slots) (hx : p.tables.exec = Jvm.exec) (hlk : meth.locks = false) {z : Int32} {t : FieldType} (hret : meth.sig.returnType = some t) (ht : t = .boolean ∨ t = .byte ∨ t = .char ∨ t = .short) (hd : decode c.code pc = .ok (.ireturn, 1))
    (hq : Q (some (.int (nar t z))) T.heap locs) (hk : cells ≤ k) (hn : slots ≤ n) : Gl p.tables e below (QQof s Q k n) (T.setTop (mkF m pc Ls (.int z :: rest))) := by
  obtain ⟨fs, hr, hrun, hended, hW, hsame⟩ := X.leave (v := some (.int (nar t z))) (fun h => by rw [hret] at h; cases h) hlk
  exact ⟨_, _, retN X hx hret ht hd hr, hrun, hended, _, _, rfl, hq, ⟨_, rfl⟩, hW, hsame.mono hk hn⟩
theorem leafI (X : Stand p l e R s m args below meth c T locs cells slots) (hx : p.tables.exec = Jvm.exec) (hlk : meth.locks = false) {z : Int32} (hret : meth.sig.returnType = some .int) (hd : decode c.code pc = .ok (.ireturn, 1))
    (hq : Q (some (.int z)) T.heap locs) (hk : cells ≤ k) (hn : slots ≤ n) : Gl p.tables e below (QQof s Q k n) (T.setTop (mkF m pc Ls (.int z :: rest))) := by
  obtain ⟨fs, hr, hrun, hended, hW, hsame⟩ := X.leave (v := some (.int z)) (fun h => by rw [hret] at h; cases h) hlk
  exact ⟨_, _, retOut X hx hret rfl (Or.inl ⟨rfl, Or.inl rfl, _, rfl⟩) hd hr, hrun, hended, _, _, rfl, hq, ⟨_, rfl⟩, hW, hsame.mono hk hn⟩
theorem leafL (X : Stand p l e R s m args below meth c T locs cells slots) (hx : p.tables.exec = Jvm.exec) (hlk : meth.locks = false) {z : Int64} (hret : meth.sig.returnType = some .long) (hd : decode c.code pc = .ok (.lreturn, 1))
    (hq : Q (some (.long z)) T.heap locs) (hk : cells ≤ k) (hn : slots ≤ n) : Gl p.tables e below (QQof s Q k n) (T.setTop (mkF m pc Ls (.long z :: rest))) := by
  obtain ⟨fs, hr, hrun, hended, hW, hsame⟩ := X.leave (v := some (.long z)) (fun h => by rw [hret] at h; cases h) hlk
  exact ⟨_, _, retOut X hx hret rfl (Or.inr (Or.inl ⟨rfl, rfl, _, rfl⟩)) hd hr, hrun, hended, _, _, rfl, hq, ⟨_, rfl⟩, hW, hsame.mono hk hn⟩
theorem leafD (X : Stand p l e R s m args below meth c T locs cells slots) (hx : p.tables.exec = Jvm.exec) (hlk : meth.locks = false) {z : UInt64} (hret : meth.sig.returnType = some .double) (hd : decode c.code pc = .ok (.dreturn, 1))
    (hq : Q (some (.double z)) T.heap locs) (hk : cells ≤ k) (hn : slots ≤ n) : Gl p.tables e below (QQof s Q k n) (T.setTop (mkF m pc Ls (.double z :: rest))) := by
  obtain ⟨fs, hr, hrun, hended, hW, hsame⟩ := X.leave (v := some (.double z)) (fun h => by rw [hret] at h; cases h) hlk
  exact ⟨_, _, retOut X hx hret rfl (Or.inr (Or.inr (Or.inl ⟨rfl, rfl, _, rfl⟩))) hd hr, hrun, hended, _, _, rfl, hq, ⟨_, rfl⟩, hW, hsame.mono hk hn⟩
theorem narrowR {t : FieldType} {w : Value} (ht : t.isReference = true) (hw : w.isRef = true) : narrow t w = w := by
  cases w <;> simp [Value.isRef] at hw <;> cases t <;> simp [FieldType.isReference] at ht <;> rfl
theorem leafA (X : Stand p l e R s m args below meth c T locs cells slots) (hx : p.tables.exec = Jvm.exec) (hlk : meth.locks = false) {w : Value} {t : FieldType} (hret : meth.sig.returnType = some t) (ht : t.isReference = true) (hw : w.isRef = true) (hd : decode c.code pc = .ok (.areturn, 1))
    (hq : Q (some w) T.heap locs) (hk : cells ≤ k) (hn : slots ≤ n) : Gl p.tables e below (QQof s Q k n) (T.setTop (mkF m pc Ls (w :: rest))) := by
  obtain ⟨fs, hr, hrun, hended, hW, hsame⟩ := X.leave (v := some w) (fun h => by rw [hret] at h; cases h) hlk
  exact ⟨_, _, retOut X hx hret (narrowR ht hw) (Or.inr (Or.inr (Or.inr (Or.inr ⟨rfl, ht, hw⟩)))) hd hr, hrun, hended, _, _, rfl, hq, ⟨_, rfl⟩, hW, hsame.mono hk hn⟩
theorem leafV (X : Stand p l e R s m args below meth c T locs cells slots) (hx : p.tables.exec = Jvm.exec) (hlk : meth.locks = false) (hret : meth.sig.returnType = none) (hd : decode c.code pc = .ok (.return_, 1))
    (hq : Q none T.heap locs) (hk : cells ≤ k) (hn : slots ≤ n) : Gl p.tables e below (QQof s Q k n) (T.setTop (mkF m pc Ls [])) := by
  obtain ⟨fs, hr, hrun, hended, hW, hsame⟩ := X.leave (v := none) (fun _ => rfl) hlk
  exact ⟨_, _, X.returnOut hx hret hd hr, hrun, hended, _, _, rfl, hq, ⟨_, rfl⟩, hW, hsame.mono hk hn⟩
end Leaf
theorem fitsR {t : FieldType} {w : Value} (ht : t.isReference = true) (hw : w.isRef = true) : fits t w = true := by
  cases w <;> simp [Value.isRef] at hw <;> cases t <;> simp [FieldType.isReference] at ht <;> rfl
theorem nar1 : nar .boolean (1 : Int32) = 1 := by decide
theorem nar0 : nar .boolean (0 : Int32) = 0 := by decide
theorem int_at {args : Array Value} {s : State} {t : Term} {k : Int32} (h : (Jvm.Cond.eq t (.int k)).value args s none s [] = some true) : t.eval args s none [] s = some (.int k) := by
  obtain ⟨x, y, hx, hy, kx, ky⟩ := cmp_v (Or.inl h)
  have hk : y = .int k := Option.some.inj (hy.symm.trans (Term.int_eval k))
  subst hk
  obtain ⟨z, rfl⟩ := ky
  have hz := gotT (Cond.eq_ints hx (Term.int_eval k)) h
  rw [hx, hz]
theorem fld_int {args : Array Value} {s : State} {t : Term} {C n d : String} {k : Int32} {x : Addr} (ht : t.eval args s none [] s = some (.ref x)) (h : (Jvm.Cond.eq (.field t C n d) (.int k)).value args s none s [] = some true) : Fld s s.heap x C n d (.int k) := Fld.start ((fld_at ht).symm.trans (int_at h))
theorem ref_at {args : Array Value} {s : State} {a b : Term} {x : Addr} (hb : b.eval args s none [] s = some (.ref x)) (h : (Jvm.Cond.eq a b).value args s none s [] = some true) : a.eval args s none [] s = some (.ref x) := by
  obtain ⟨y, z, hy, hz, ky, kz⟩ := cmp_v (Or.inl h)
  have hk : z = .ref x := Option.some.inj (hz.symm.trans hb)
  subst hk
  have hr : y.isRef = true := kz.2
  have he := gotT (eq_R hy hb hr rfl) h
  rw [hy, he]
theorem ext_of_keep {h h' : Heap} (K : Keep h h' []) : Ext h h' := ⟨K.1, fun a c q => K.2.1 a c q nin0⟩
theorem arr_len {args : Array Value} {s : State} {t : Term} {a : Addr} {cl : Cell} {ty : FieldType} {k : Int32} (ev : t.eval args s none [] s = some (.ref a)) (A : Arr s s.heap a cl ty) (h : (Jvm.Cond.eq (.length t) (.int k)).value args s none s [] = some true) : cl.slots.size < 2 ^ 31 ∧ cl.slots.size.toInt32 = k := by
  obtain ⟨b, cell, e1, e2, e3, e4⟩ := Jvm.Lib.length_spec (int_at h)
  have hb : a = b := Value.ref.inj (Option.some.inj (ev.symm.trans e1))
  subst hb
  have hc : cl = cell := Option.some.inj ((A.fin (Vm.Alike.refl _)).symm.trans e2)
  subst hc
  exact ⟨e3, (Value.int.inj e4).symm⟩
theorem arr_elem {args : Array Value} {s : State} {t : Term} {a : Addr} {cl : Cell} {ty : FieldType} {j : Int32} {v : Value} (ev : t.eval args s none [] s = some (.ref a)) (A : Arr s s.heap a cl ty) (h : (Term.elem t (.int j)).eval args s none [] s = some v) : cl.slots[j.toNatClampNeg]? = some v := (elem_in h ev (Term.int_eval j) A.1).2
/-! own kit, the wide family: bodies that may intern -/
def QQofW (Z : State) (EL : List (String × Nat)) (s : State) (Q : Option Value → Heap → List Loc → Prop) (k n : Nat) : Outcome → State → Prop := fun o U => ∃ v L, o = .returned v ∧ Q v U.heap L ∧ CHr Z EL s.vm s.heap U.vm U.heap ∧ ReturnedEndW s o U L k n
section LeafW
variable {p : Program} {l : Launch} {e : Env} {R : Room} {s : State} {m : MethodId} {args : Array Value} {below : List Frame} {meth : Method} {c : Code} {T : State} {locs : List Loc} {cells slots : Nat} {pc : Nat} {Ls : Array Slot} {rest : List Value} {Q : Option Value → Heap → List Loc → Prop} {k n : Nat} {vm0 : Vm} {k0 : Nat} {Z : State} {EL : List (String × Nat)} {h0 : Heap}
theorem leafWN (X : Stand p l e R (s.setVm vm0) m args below meth c T locs cells slots) (hS : s.Since vm0 k0) (hk0 : k0 ≤ T.heap.size) (hx : p.tables.exec = Jvm.exec) (hlk : meth.locks = false) {z : Int32} {t : FieldType} (hret : meth.sig.returnType = some t) (ht : t = .boolean ∨ t = .byte ∨ t = .char ∨ t = .short) (hd : decode c.code pc = .ok (.ireturn, 1))
    (hC : CHr Z EL s.vm h0 T.vm T.heap) (hh : s.heap = h0) (hq : Q (some (.int (nar t z))) T.heap locs) (hk : cells ≤ k) (hn : slots ≤ n) : Gl p.tables e below (QQofW Z EL s Q k n) (T.setTop (mkF m pc Ls (.int z :: rest))) := by
  subst hh
  obtain ⟨fs, hr, hrun, hended, q1, q2, q3, q4⟩ := X.leaveW hS hk0 (v := some (.int (nar t z))) (fun h => by rw [hret] at h; cases h) hlk
  exact ⟨_, _, retN X hx hret ht hd hr, hrun, hended, _, _, rfl, hq, hC, q1, q2, q3, q4.mono hk hn⟩
theorem leafWA (X : Stand p l e R (s.setVm vm0) m args below meth c T locs cells slots) (hS : s.Since vm0 k0) (hk0 : k0 ≤ T.heap.size) (hx : p.tables.exec = Jvm.exec) (hlk : meth.locks = false) {w : Value} {t : FieldType} (hret : meth.sig.returnType = some t) (ht : t.isReference = true) (hw : w.isRef = true) (hd : decode c.code pc = .ok (.areturn, 1))
    (hC : CHr Z EL s.vm h0 T.vm T.heap) (hh : s.heap = h0) (hq : Q (some w) T.heap locs) (hk : cells ≤ k) (hn : slots ≤ n) : Gl p.tables e below (QQofW Z EL s Q k n) (T.setTop (mkF m pc Ls (w :: rest))) := by
  subst hh
  obtain ⟨fs, hr, hrun, hended, q1, q2, q3, q4⟩ := X.leaveW hS hk0 (v := some w) (fun h => by rw [hret] at h; cases h) hlk
  exact ⟨_, _, retOut X hx hret (narrowR ht hw) (Or.inr (Or.inr (Or.inr (Or.inr ⟨rfl, ht, hw⟩)))) hd hr, hrun, hended, _, _, rfl, hq, hC, q1, q2, q3, q4.mono hk hn⟩
end LeafW
/-! own kit: Strings by their (signed) bytes -/
def StrAt (Z : State) (h : Heap) (a : Addr) (bs : List Int32) : Prop := Exa Z h a "java/lang/String" ∧ Fld Z h a "java/lang/String" "coder" "B" (.int (0 : Int32)) ∧ bs.length < 2 ^ 31 ∧ ∃ (b : Addr) (k : ClassId), Fld Z h a "java/lang/String" "value" "[B" (.ref b) ∧ Arv Z h b k .byte (Int32.ofNat bs.length) (bs.map Value.int) (.int (0 : Int32))
theorem StrAt.ext {Z : State} {h h' : Heap} {a : Addr} {bs : List Int32} (S : StrAt Z h a bs) (E : Ext h h') : StrAt Z h' a bs := by
  obtain ⟨E1, C1, l1, b, k, V1, K1⟩ := S
  exact ⟨E1.ext E, C1.ext E, l1, b, k, V1.ext E, K1.ext E⟩
theorem i32_nat {i : Nat} (h : i < 2 ^ 31) : (Int32.ofNat i).toNatClampNeg = i := by
  have e : (Int32.ofNat i).toInt = i := Int32.toInt_ofNat_of_lt (by omega)
  simp only [Int32.toNatClampNeg, e]; rfl
theorem i32_lt {i n : Nat} (h : i < n) (hn : n < 2 ^ 31) : Int32.ofNat i < Int32.ofNat n := by
  rw [Int32.lt_iff_toInt_lt, Int32.toInt_ofNat_of_lt (by omega), Int32.toInt_ofNat_of_lt (by omega)]; omega
theorem i32_pos {i : Nat} (h : i < 2 ^ 31) : ¬ Int32.ofNat i < 0 := by
  rw [Int32.lt_iff_toInt_lt, Int32.toInt_ofNat_of_lt (by omega)]
  have e : (0 : Int32).toInt = 0 := by decide
  omega
theorem i32_succ (i : Nat) : (Int32.ofNat i + (1 : Int32)) = Int32.ofNat (i + 1) := (Int32.ofNat_add i 1).symm
theorem i32_inj {i n : Nat} (h : i < 2 ^ 31) (hn : n < 2 ^ 31) (e : Int32.ofNat i = Int32.ofNat n) : i = n := by
  have := congrArg Int32.toNatClampNeg e
  rwa [i32_nat h, i32_nat hn] at this
theorem mapGetD (bs : List Int32) (i : Nat) : (bs.map Value.int).getD i (.int (0 : Int32)) = .int (bs.getD i 0) := by
  rw [List.getD_eq_getElem?_getD, List.getD_eq_getElem?_getD, List.getElem?_map]
  cases bs[i]? <;> rfl
theorem getD_at (bs : List Int32) {i : Nat} (h : i < 2 ^ 31) : (bs.map Value.int).getD (Int32.ofNat i).toNatClampNeg (.int (0 : Int32)) = .int (bs.getD i 0) := by
  rw [i32_nat h]; exact mapGetD bs i
theorem StrAt.inj {Z : State} {h : Heap} {a : Addr} {bs cs : List Int32} (S : StrAt Z h a bs) (S' : StrAt Z h a cs) : bs = cs := by
  obtain ⟨-, -, l1, b, k, V1, K1⟩ := S
  obtain ⟨-, -, l2, b', k', V2, K2⟩ := S'
  have hb : b = b' := Value.ref.inj (Decidable.byContradiction fun hne => Fld.ne V1 V2 hne rfl)
  subst hb
  have hlen : bs.length = cs.length := Decidable.byContradiction fun hne => arv_ne K1 K2 (Or.inl (by rw [i32_nat l1, i32_nat l2]; exact hne)) rfl
  refine List.ext_getElem hlen fun i h1 h2 => Decidable.byContradiction fun hne => arv_ne K1 K2 (Or.inr ⟨i, by rw [i32_nat l1]; exact h1, ?_⟩) rfl
  rw [mapGetD, mapGetD]
  intro q
  have q' := Value.int.inj q
  rw [List.getD_eq_getElem?_getD, List.getD_eq_getElem?_getD, List.getElem?_eq_getElem h1, List.getElem?_eq_getElem h2] at q'
  exact hne q'
def eqI (bs cs : List Int32) : Int32 := if bs = cs then (1 : Int32) else (0 : Int32)
theorem eqI_one {bs cs : List Int32} (h : ¬ eqI bs cs = 0) : eqI bs cs = 1 := by
  unfold eqI at h ⊢
  split
  · rfl
  · next q => rw [if_neg q] at h; exact absurd rfl h
theorem eqI_yes {bs cs : List Int32} (h : bs = cs) : eqI bs cs = 1 := by unfold eqI; rw [if_pos h]
theorem eqI_no {bs cs : List Int32} (h : ¬ bs = cs) : eqI bs cs = 0 := by unfold eqI; rw [if_neg h]
theorem take_all {bs cs : List Int32} (hl : bs.length = cs.length) (h : bs.take bs.length = cs.take bs.length) : bs = cs := by
  rw [List.take_length] at h
  rw [hl, List.take_length] at h
  exact h
theorem take_more {bs cs : List Int32} {i : Nat} (h1 : i < bs.length) (h2 : i < cs.length) (h : bs.take i = cs.take i) (e : bs.getD i 0 = cs.getD i 0) : bs.take (i + 1) = cs.take (i + 1) := by
  rw [List.getD_eq_getElem?_getD, List.getD_eq_getElem?_getD, List.getElem?_eq_getElem h1, List.getElem?_eq_getElem h2] at e
  rw [List.take_succ_eq_append_getElem h1, List.take_succ_eq_append_getElem h2, h]
  simp at e
  rw [e]

theorem nfOf {args : Array Value} {s : State} {C : String} {y y' : MethodName} (h : y.cls = y'.cls) (hsel : (Jvm.Cond.selects C y' y').before args s = true) : NotFace s y := fun r0 h0 => by
  obtain ⟨c2, r2, m2, q1, q2, q3, q4, kP, hkP, hkPi⟩ := Cond.selects_spec hsel
  have e1 := findClass_of_methodNamed h0
  have e2 := findClass_of_methodNamed q3
  rw [h] at e1
  have e : r0.cls = m2.cls := Option.some.inj (e1.symm.trans e2)
  exact ⟨kP, by rw [e]; exact hkP, hkPi⟩
theorem sameOf {args : Array Value} {s : State} {C : String} {y y' : MethodName} (h : y.cls = y'.cls) (hmh : y.cls ≠ "java/lang/invoke/MethodHandle" ∧ y.cls ≠ "java/lang/invoke/VarHandle") (wi : (Jvm.Cond.instanceMethod y).before args s = true) (hsel : (Jvm.Cond.selects C y' y').before args s = true) : (Jvm.Cond.sameMethod y.cls y.cls y.name y.desc).before args s = true := by
  obtain ⟨mk, meth, hn, -⟩ := Cond.instanceMethod_spec wi
  obtain ⟨k, hk, hi⟩ := nfOf h hsel mk hn
  have hc := findClass_of_methodNamed hn
  have hf := State.methodFound?_of_named hn hmh
  have hn' : s.methodNamed? ⟨y.cls, y.name, y.desc⟩ = some mk := hn
  simp [Cond.before, Cond.holds, Cond.value, hc, hf, hn', hk, hi]
theorem declOf {args : Array Value} {s : State} {y : MethodName} {bytes : ByteArray} {maxL : Nat} {ret : Option FieldType} (wi : (Jvm.Cond.instanceMethod y).before args s = true) (wc : (Jvm.Cond.code y bytes maxL ret).before args s = true) : (Jvm.Cond.declares y).before args s = true := by
  obtain ⟨mk, meth, hn, hm, hs, -⟩ := Cond.instanceMethod_spec wi
  obtain ⟨m2, c, q1, -, -, -, -, -, -, hsig⟩ := Cond.code_spec hn wc
  cases hm.symm.trans q1
  simp [Cond.before, Cond.holds, Cond.value, hn, hm, hs, hsig]
def BldAt (Z : State) (h : Heap) (a bv : Addr) (k : ClassId) (bs : List Int32) : Prop := Exa Z h a "java/lang/StringBuilder" ∧ Fld Z h a "java/lang/AbstractStringBuilder" "value" "[B" (.ref bv) ∧ Fld Z h a "java/lang/AbstractStringBuilder" "coder" "B" (.int (0 : Int32)) ∧ Fld Z h a "java/lang/AbstractStringBuilder" "count" "I" (.int (Int32.ofNat bs.length)) ∧ Arv Z h bv k .byte (16 : Int32) (bs.map Value.int) (.int (0 : Int32))
theorem BldAt.ext {Z : State} {h h' : Heap} {a bv : Addr} {k : ClassId} {bs : List Int32} (S : BldAt Z h a bv k bs) (E : Ext h h') : BldAt Z h' a bv k bs := ⟨S.1.ext E, S.2.1.ext E, S.2.2.1.ext E, S.2.2.2.1.ext E, S.2.2.2.2.ext E⟩
theorem own_shr0 (x : Int32) : (x >>> ((0 : Int32) &&& 31)) = x := by
  have e : ((0 : Int32) &&& 31) = 0 := by decide
  rw [e]; exact Int32.shiftRight_zero
theorem own_shl0 (x : Int32) : (x <<< ((0 : Int32) &&& 31)) = x := by
  have e : ((0 : Int32) &&& 31) = 0 := by decide
  rw [e]; exact Int32.shiftLeft_zero
theorem own_cap {a b : Nat} (h : a + b ≤ 16) : ¬ (0 : Int32) < ((Int32.ofNat a + Int32.ofNat b) - (16 : Int32)) := by
  have t : ∀ x : Fin 17, ∀ y : Fin 17, x.val + y.val ≤ 16 → ¬ (0 : Int32) < ((Int32.ofNat x.val + Int32.ofNat y.val) - (16 : Int32)) := by decide +kernel
  exact t ⟨a, by omega⟩ ⟨b, by omega⟩ h
theorem own_in {bs cs : List Int32} (h : bs.length + cs.length ≤ 16) : (Int32.ofNat bs.length).toNatClampNeg + (Int32.ofNat cs.length).toNatClampNeg ≤ (16 : Int32).toNatClampNeg := by
  rw [i32_nat (by omega), i32_nat (by omega)]; exact h
theorem own_src (cs : List Int32) : (0 : Int32).toNatClampNeg + (Int32.ofNat cs.length).toNatClampNeg ≤ (Int32.ofNat cs.length).toNatClampNeg := by
  have e : (0 : Int32).toNatClampNeg = 0 := by decide
  rw [e]; omega
theorem own_us (cs : List Int32) (h : cs.length < 2 ^ 31) : cs.map Value.int = (List.range (Int32.ofNat cs.length).toNatClampNeg).map fun i => (cs.map Value.int).getD ((0 : Int32).toNatClampNeg + i) (Value.int (0 : Int32)) := by
  have e : (0 : Int32).toNatClampNeg = 0 := by decide
  rw [i32_nat h, e]
  refine List.ext_getElem (by simp) fun i h1 h2 => ?_
  simp only [List.length_map] at h1
  simp [mapGetD, List.getD_eq_getElem?_getD, List.getElem?_eq_getElem h1]
theorem own_room {bs cs : List Int32} (h : bs.length + cs.length ≤ 16) : (Int32.ofNat bs.length).toNatClampNeg + (Int32.ofNat cs.length).toNatClampNeg ≤ (bs.map Value.int ++ List.replicate 16 (Value.int (0 : Int32))).length := by
  rw [i32_nat (by omega), i32_nat (by omega)]; simp; omega
theorem own_after {bs cs : List Int32} (h : bs.length + cs.length ≤ 16) : ∀ i, ((bs ++ cs).map Value.int).getD i (Value.int (0 : Int32)) = ((bs.map Value.int ++ List.replicate 16 (Value.int (0 : Int32))).take (Int32.ofNat bs.length).toNatClampNeg ++ cs.map Value.int ++ (bs.map Value.int ++ List.replicate 16 (Value.int (0 : Int32))).drop ((Int32.ofNat bs.length).toNatClampNeg + (Int32.ofNat cs.length).toNatClampNeg)).getD i (Value.int (0 : Int32)) := by
  intro i
  rw [i32_nat (by omega), i32_nat (by omega)]
  have e1 : (bs.map Value.int ++ List.replicate 16 (Value.int (0 : Int32))).take bs.length = bs.map Value.int := by
    rw [List.take_append_of_le_length (by simp)]; exact List.take_of_length_le (by simp)
  have e2 : (bs.map Value.int ++ List.replicate 16 (Value.int (0 : Int32))).drop (bs.length + cs.length) = List.replicate (16 - cs.length) (Value.int (0 : Int32)) := by
    rw [List.drop_append, List.drop_of_length_le (by simp), List.nil_append, List.length_map, Nat.add_sub_cancel_left, List.drop_replicate]
  rw [e1, e2, ← List.map_append]
  exact (pad_rep _ _ _ i).symm
theorem own_copy {bs : List Int32} (h : bs.length ≤ 16) : ∀ i, (bs.map Value.int).getD i (Value.int (0 : Int32)) = ((([] : List Value) ++ List.replicate 16 (Value.int (0 : Int32))).take (0 : Int32).toNatClampNeg ++ bs.map Value.int ++ (([] : List Value) ++ List.replicate 16 (Value.int (0 : Int32))).drop ((0 : Int32).toNatClampNeg + (Int32.ofNat bs.length).toNatClampNeg)).getD i (Value.int (0 : Int32)) := by
  intro i
  have e : (0 : Int32).toNatClampNeg = 0 := by decide
  rw [i32_nat (by omega), e]
  have e2 : (([] : List Value) ++ List.replicate 16 (Value.int (0 : Int32))).drop (0 + bs.length) = List.replicate (16 - bs.length) (Value.int (0 : Int32)) := by rw [List.nil_append, Nat.zero_add, List.drop_replicate]
  rw [e2]
  simp only [List.take_zero, List.nil_append]
  exact (pad_rep _ _ _ i).symm
theorem own_zero (x : Int32) : x - (0 : Int32) = x := Int32.sub_zero x
theorem own_min {n : Nat} (h : n ≤ 16) : (if Int32.ofNat n < (16 : Int32) then Int32.ofNat n else (16 : Int32)) = Int32.ofNat n := by
  have t : ∀ x : Fin 17, (if Int32.ofNat x.val < (16 : Int32) then Int32.ofNat x.val else (16 : Int32)) = Int32.ofNat x.val := by decide +kernel
  exact t ⟨n, by omega⟩
theorem own_ne16 {n : Nat} (h : n < 16) : ¬ Int32.ofNat n = (16 : Int32) := fun q => by
  have := i32_inj (i := n) (n := 16) (by omega) (by omega) q; omega
theorem own_nar0 : nar .byte (0 : Int32) = 0 := by decide

abbrev elL : List (String × Nat) := [("com/example/kontraktor/kontraktor/cli/Option", 36), ("com/example/kontraktor/kontraktor/cli/Option", 47), ("com/example/kontraktor/kontraktor/cli/Option", 49), ("com/example/kontraktor/kontraktor/cli/Option", 51)]
def OptAt (Z : State) (h : Heap) (a x1 x2 x5 : Addr) (r : Int32) : Prop := Exa Z h a "com/example/kontraktor/kontraktor/cli/Option" ∧ Fld Z h a "com/example/kontraktor/kontraktor/cli/Option" "name" "Ljava/lang/String;" (.ref x1) ∧ Fld Z h a "com/example/kontraktor/kontraktor/cli/Option" "value" "Ljava/lang/String;" (.ref x2) ∧ Fld Z h a "com/example/kontraktor/kontraktor/cli/Option" "required" "Z" (.int (0 : Int32)) ∧ Fld Z h a "com/example/kontraktor/kontraktor/cli/Option" "repeatable" "Z" (.int r) ∧ Fld Z h a "com/example/kontraktor/kontraktor/cli/Option" "description" "Ljava/lang/String;" (.ref x5)
theorem OptAt.ext {Z : State} {h h' : Heap} {a x1 x2 x5 : Addr} {r : Int32} (S : OptAt Z h a x1 x2 x5 r) (E : Ext h h') : OptAt Z h' a x1 x2 x5 r := ⟨S.1.ext E, S.2.1.ext E, S.2.2.1.ext E, S.2.2.2.1.ext E, S.2.2.2.2.1.ext E, S.2.2.2.2.2.ext E⟩
theorem own_narb0 : nar .boolean (0 : Int32) = 0 := by decide
theorem own_narb1 : nar .boolean (1 : Int32) = 1 := by decide
theorem own_chr (x : Int32) : ¬ nar .char ((x &&& (255 : Int32)).toUInt32.toUInt16.toUInt32.toInt32) < 0 ∧ ¬ (255 : Int32) < nar .char ((x &&& (255 : Int32)).toUInt32.toUInt16.toUInt32.toInt32) := by
  have t : ∀ k : Fin 256, ¬ nar .char ((Int32.ofNat k.val).toUInt32.toUInt16.toUInt32.toInt32) < 0 ∧ ¬ (255 : Int32) < nar .char ((Int32.ofNat k.val).toUInt32.toUInt16.toUInt32.toInt32) := by decide +kernel
  have h : (x &&& 255).toBitVec.toNat < 256 := by
    simp only [Int32.toBitVec_and, BitVec.toNat_and]
    exact Nat.lt_succ_of_le Nat.and_le_right
  have e : (x &&& 255) = Int32.ofNat (x &&& 255).toBitVec.toNat := by
    apply Int32.toBitVec_inj.mp
    show _ = BitVec.ofNat 32 _
    rw [BitVec.ofNat_toNat]; simp
  rw [e]
  exact t ⟨_, h⟩
def sp1 : List Int32 := [(32 : Int32)]
abbrev gvV (ns vs : List Int32) : List Int32 := (((([] : List Int32) ++ ns) ++ [(32 : Int32)]) ++ vs)
theorem pn_0 : plainName "java/lang/StringLatin1" = true := by first | (simp [plainName, overriddenIn]; done) | decide +kernel
theorem ef_leq (m : MethodId) (x0 : Addr) (x1 : Addr) : entryFrame m #[(.ref x0), (.ref x1)] 3 = mkF m 0 #[.val (.ref x0), .val (.ref x1), .unset] [] := by first | (simp [entryFrame, mkF, argsToLocals, Value.category]; done) | rfl
theorem d35_0 : decode jdk_43_method_13_code 0 = .ok (.aload_n 0, 1) := by decide +kernel
theorem d35_1 : decode jdk_43_method_13_code 1 = .ok (.arraylength, 1) := by decide +kernel
theorem d35_2 : decode jdk_43_method_13_code 2 = .ok (.aload_n 1, 1) := by decide +kernel
theorem d35_3 : decode jdk_43_method_13_code 3 = .ok (.arraylength, 1) := by decide +kernel
theorem d35_4 : decode jdk_43_method_13_code 4 = .ok (.if_icmp .ne 30, 3) := by decide +kernel
theorem d35_7 : decode jdk_43_method_13_code 7 = .ok (.iconst 0, 1) := by decide +kernel
theorem d35_8 : decode jdk_43_method_13_code 8 = .ok (.istore_n 2, 1) := by decide +kernel
theorem d35_9 : decode jdk_43_method_13_code 9 = .ok (.iload_n 2, 1) := by decide +kernel
theorem d35_10 : decode jdk_43_method_13_code 10 = .ok (.aload_n 0, 1) := by decide +kernel
theorem d35_11 : decode jdk_43_method_13_code 11 = .ok (.arraylength, 1) := by decide +kernel
theorem d35_12 : decode jdk_43_method_13_code 12 = .ok (.if_icmp .ge 20, 3) := by decide +kernel
theorem d35_32 : decode jdk_43_method_13_code 32 = .ok (.iconst 1, 1) := by decide +kernel
theorem d35_33 : decode jdk_43_method_13_code 33 = .ok (.ireturn, 1) := by decide +kernel
theorem d35_15 : decode jdk_43_method_13_code 15 = .ok (.aload_n 0, 1) := by decide +kernel
theorem d35_16 : decode jdk_43_method_13_code 16 = .ok (.iload_n 2, 1) := by decide +kernel
theorem d35_17 : decode jdk_43_method_13_code 17 = .ok (.baload, 1) := by decide +kernel
theorem d35_18 : decode jdk_43_method_13_code 18 = .ok (.aload_n 1, 1) := by decide +kernel
theorem d35_19 : decode jdk_43_method_13_code 19 = .ok (.iload_n 2, 1) := by decide +kernel
theorem d35_20 : decode jdk_43_method_13_code 20 = .ok (.baload, 1) := by decide +kernel
theorem d35_21 : decode jdk_43_method_13_code 21 = .ok (.if_icmp .eq 5, 3) := by decide +kernel
theorem d35_26 : decode jdk_43_method_13_code 26 = .ok (.iinc 2 1, 3) := by decide +kernel
theorem d35_29 : decode jdk_43_method_13_code 29 = .ok (.goto (-20), 3) := by decide +kernel
theorem d35_24 : decode jdk_43_method_13_code 24 = .ok (.iconst 0, 1) := by decide +kernel
theorem d35_25 : decode jdk_43_method_13_code 25 = .ok (.ireturn, 1) := by decide +kernel
theorem d35_34 : decode jdk_43_method_13_code 34 = .ok (.iconst 0, 1) := by decide +kernel
theorem d35_35 : decode jdk_43_method_13_code 35 = .ok (.ireturn, 1) := by decide +kernel
theorem pn_1 : plainName "java/lang/String" = true := by first | (simp [plainName, overriddenIn]; done) | decide +kernel
theorem ef_seq (m : MethodId) (x0 : Addr) (x1 : Addr) : entryFrame m #[(.ref x0), (.ref x1)] 3 = mkF m 0 #[.val (.ref x0), .val (.ref x1), .unset] [] := by first | (simp [entryFrame, mkF, argsToLocals, Value.category]; done) | rfl
theorem d10_0 : decode jdk_42_method_66_code 0 = .ok (.aload_n 0, 1) := by decide +kernel
theorem d10_1 : decode jdk_42_method_66_code 1 = .ok (.aload_n 1, 1) := by decide +kernel
theorem d10_2 : decode jdk_42_method_66_code 2 = .ok (.if_acmp .ne 5, 3) := by decide +kernel
theorem d10_5 : decode jdk_42_method_66_code 5 = .ok (.iconst 1, 1) := by decide +kernel
theorem d10_6 : decode jdk_42_method_66_code 6 = .ok (.ireturn, 1) := by decide +kernel
theorem d10_7 : decode jdk_42_method_66_code 7 = .ok (.aload_n 1, 1) := by decide +kernel
theorem d10_8 : decode jdk_42_method_66_code 8 = .ok (.instanceof 10, 3) := by decide +kernel
theorem d10_11 : decode jdk_42_method_66_code 11 = .ok (.ifCond .eq 43, 3) := by decide +kernel
theorem d10_14 : decode jdk_42_method_66_code 14 = .ok (.aload_n 1, 1) := by decide +kernel
theorem d10_15 : decode jdk_42_method_66_code 15 = .ok (.checkcast 10, 3) := by decide +kernel
theorem d10_18 : decode jdk_42_method_66_code 18 = .ok (.astore_n 2, 1) := by decide +kernel
theorem d10_19 : decode jdk_42_method_66_code 19 = .ok (.getstatic 38, 3) := by decide +kernel
theorem d10_22 : decode jdk_42_method_66_code 22 = .ok (.ifCond .eq 14, 3) := by decide +kernel
theorem d10_25 : decode jdk_42_method_66_code 25 = .ok (.aload_n 0, 1) := by decide +kernel
theorem d10_26 : decode jdk_42_method_66_code 26 = .ok (.getfield 15, 3) := by decide +kernel
theorem d10_29 : decode jdk_42_method_66_code 29 = .ok (.aload_n 2, 1) := by decide +kernel
theorem d10_30 : decode jdk_42_method_66_code 30 = .ok (.getfield 15, 3) := by decide +kernel
theorem d10_33 : decode jdk_42_method_66_code 33 = .ok (.if_icmp .ne 21, 3) := by decide +kernel
theorem d10_36 : decode jdk_42_method_66_code 36 = .ok (.aload_n 0, 1) := by decide +kernel
theorem d10_37 : decode jdk_42_method_66_code 37 = .ok (.getfield 9, 3) := by decide +kernel
theorem d10_40 : decode jdk_42_method_66_code 40 = .ok (.aload_n 2, 1) := by decide +kernel
theorem d10_41 : decode jdk_42_method_66_code 41 = .ok (.getfield 9, 3) := by decide +kernel
theorem pd_0 : parseMethodDescriptor "([B[B)Z" = some ⟨[(.array .byte), (.array .byte)], some .boolean⟩ := by decide +kernel
theorem d10_44 : decode jdk_42_method_66_code 44 = .ok (.invokestatic 541, 3) := by decide +kernel
theorem d10_47 : decode jdk_42_method_66_code 47 = .ok (.ifCond .eq 7, 3) := by decide +kernel
theorem d10_54 : decode jdk_42_method_66_code 54 = .ok (.iconst 0, 1) := by decide +kernel
theorem d10_55 : decode jdk_42_method_66_code 55 = .ok (.ireturn, 1) := by decide +kernel
theorem d10_50 : decode jdk_42_method_66_code 50 = .ok (.iconst 1, 1) := by decide +kernel
theorem d10_51 : decode jdk_42_method_66_code 51 = .ok (.goto 4, 3) := by decide +kernel
theorem ef_cod (m : MethodId) (x0 : Addr) : entryFrame m #[(.ref x0)] 1 = mkF m 0 #[.val (.ref x0)] [] := by first | (simp [entryFrame, mkF, argsToLocals, Value.category]; done) | rfl
theorem d19_0 : decode jdk_42_method_152_code 0 = .ok (.getstatic 38, 3) := by decide +kernel
theorem d19_3 : decode jdk_42_method_152_code 3 = .ok (.ifCond .eq 10, 3) := by decide +kernel
theorem d19_6 : decode jdk_42_method_152_code 6 = .ok (.aload_n 0, 1) := by decide +kernel
theorem d19_7 : decode jdk_42_method_152_code 7 = .ok (.getfield 15, 3) := by decide +kernel
theorem d19_10 : decode jdk_42_method_152_code 10 = .ok (.goto 4, 3) := by decide +kernel
theorem d19_14 : decode jdk_42_method_152_code 14 = .ok (.ireturn, 1) := by decide +kernel
theorem ef_len (m : MethodId) (x0 : Addr) : entryFrame m #[(.ref x0)] 1 = mkF m 0 #[.val (.ref x0)] [] := by first | (simp [entryFrame, mkF, argsToLocals, Value.category]; done) | rfl
theorem d18_0 : decode jdk_42_method_54_code 0 = .ok (.aload_n 0, 1) := by decide +kernel
theorem d18_1 : decode jdk_42_method_54_code 1 = .ok (.getfield 9, 3) := by decide +kernel
theorem d18_4 : decode jdk_42_method_54_code 4 = .ok (.arraylength, 1) := by decide +kernel
theorem d18_5 : decode jdk_42_method_54_code 5 = .ok (.aload_n 0, 1) := by decide +kernel
theorem pd_1 : parseMethodDescriptor "()B" = some ⟨[], some .byte⟩ := by decide +kernel
theorem d18_6 : decode jdk_42_method_54_code 6 = .ok (.invokevirtual 335, 3) := by decide +kernel
theorem d18_9 : decode jdk_42_method_54_code 9 = .ok (.ishr, 1) := by decide +kernel
theorem d18_10 : decode jdk_42_method_54_code 10 = .ok (.ireturn, 1) := by decide +kernel
theorem pn_2 : plainName "java/lang/AbstractStringBuilder" = true := by first | (simp [plainName, overriddenIn]; done) | decide +kernel
theorem ef_abi (m : MethodId) (x0 : Addr) (x1 : Int32) : entryFrame m #[(.ref x0), (.int x1)] 2 = mkF m 0 #[.val (.ref x0), .val (.int x1)] [] := by first | (simp [entryFrame, mkF, argsToLocals, Value.category]; done) | rfl
theorem d15_0 : decode jdk_68_method_2_code 0 = .ok (.aload_n 0, 1) := by decide +kernel
theorem d15_1 : decode jdk_68_method_2_code 1 = .ok (.invokespecial 3, 3) := by decide +kernel
theorem d15_4 : decode jdk_68_method_2_code 4 = .ok (.getstatic 18, 3) := by decide +kernel
theorem d15_7 : decode jdk_68_method_2_code 7 = .ok (.ifCond .eq 18, 3) := by decide +kernel
theorem d15_10 : decode jdk_68_method_2_code 10 = .ok (.aload_n 0, 1) := by decide +kernel
theorem d15_11 : decode jdk_68_method_2_code 11 = .ok (.iload_n 1, 1) := by decide +kernel
theorem d15_12 : decode jdk_68_method_2_code 12 = .ok (.newarray .byte, 2) := by decide +kernel
theorem d15_14 : decode jdk_68_method_2_code 14 = .ok (.putfield 15, 3) := by decide +kernel
theorem d15_17 : decode jdk_68_method_2_code 17 = .ok (.aload_n 0, 1) := by decide +kernel
theorem d15_18 : decode jdk_68_method_2_code 18 = .ok (.iconst 0, 1) := by decide +kernel
theorem d15_19 : decode jdk_68_method_2_code 19 = .ok (.putfield 22, 3) := by decide +kernel
theorem d15_22 : decode jdk_68_method_2_code 22 = .ok (.goto 16, 3) := by decide +kernel
theorem d15_38 : decode jdk_68_method_2_code 38 = .ok (.return_, 1) := by decide +kernel
theorem pn_3 : plainName "java/lang/StringBuilder" = true := by first | (simp [plainName, overriddenIn]; done) | decide +kernel
theorem ef_sbi (m : MethodId) (x0 : Addr) : entryFrame m #[(.ref x0)] 1 = mkF m 0 #[.val (.ref x0)] [] := by first | (simp [entryFrame, mkF, argsToLocals, Value.category]; done) | rfl
theorem d14_0 : decode jdk_67_method_1_code 0 = .ok (.aload_n 0, 1) := by decide +kernel
theorem d14_1 : decode jdk_67_method_1_code 1 = .ok (.bipush 16, 2) := by decide +kernel
theorem pd_2 : parseMethodDescriptor "(I)V" = some ⟨[.int], none⟩ := by decide +kernel
theorem d14_3 : decode jdk_67_method_1_code 3 = .ok (.invokespecial 1, 3) := by decide +kernel
theorem d14_6 : decode jdk_67_method_1_code 6 = .ok (.return_, 1) := by decide +kernel
theorem ef_ens (m : MethodId) (x0 : Addr) (x1 : Int32) : entryFrame m #[(.ref x0), (.int x1)] 3 = mkF m 0 #[.val (.ref x0), .val (.int x1), .unset] [] := by first | (simp [entryFrame, mkF, argsToLocals, Value.category]; done) | rfl
theorem d20_0 : decode jdk_68_method_9_code 0 = .ok (.aload_n 0, 1) := by decide +kernel
theorem d20_1 : decode jdk_68_method_9_code 1 = .ok (.getfield 15, 3) := by decide +kernel
theorem d20_4 : decode jdk_68_method_9_code 4 = .ok (.arraylength, 1) := by decide +kernel
theorem d20_5 : decode jdk_68_method_9_code 5 = .ok (.aload_n 0, 1) := by decide +kernel
theorem d20_6 : decode jdk_68_method_9_code 6 = .ok (.getfield 22, 3) := by decide +kernel
theorem d20_9 : decode jdk_68_method_9_code 9 = .ok (.ishr, 1) := by decide +kernel
theorem d20_10 : decode jdk_68_method_9_code 10 = .ok (.istore_n 2, 1) := by decide +kernel
theorem d20_11 : decode jdk_68_method_9_code 11 = .ok (.iload_n 1, 1) := by decide +kernel
theorem d20_12 : decode jdk_68_method_9_code 12 = .ok (.iload_n 2, 1) := by decide +kernel
theorem d20_13 : decode jdk_68_method_9_code 13 = .ok (.isub, 1) := by decide +kernel
theorem d20_14 : decode jdk_68_method_9_code 14 = .ok (.ifCond .le 24, 3) := by decide +kernel
theorem d20_38 : decode jdk_68_method_9_code 38 = .ok (.return_, 1) := by decide +kernel
theorem ef_inf (m : MethodId) (x0 : Addr) (x1 : Addr) : entryFrame m #[(.ref x0), (.ref x1)] 2 = mkF m 0 #[.val (.ref x0), .val (.ref x1)] [] := by first | (simp [entryFrame, mkF, argsToLocals, Value.category]; done) | rfl
theorem d22_0 : decode jdk_68_method_71_code 0 = .ok (.getstatic 18, 3) := by decide +kernel
theorem d22_3 : decode jdk_68_method_71_code 3 = .ok (.ifCond .eq 18, 3) := by decide +kernel
theorem d22_6 : decode jdk_68_method_71_code 6 = .ok (.aload_n 0, 1) := by decide +kernel
theorem d22_7 : decode jdk_68_method_71_code 7 = .ok (.getfield 22, 3) := by decide +kernel
theorem d22_10 : decode jdk_68_method_71_code 10 = .ok (.aload_n 1, 1) := by decide +kernel
theorem d22_11 : decode jdk_68_method_71_code 11 = .ok (.invokevirtual 40, 3) := by decide +kernel
theorem d22_14 : decode jdk_68_method_71_code 14 = .ok (.if_icmp .eq 7, 3) := by decide +kernel
theorem d22_21 : decode jdk_68_method_71_code 21 = .ok (.return_, 1) := by decide +kernel
theorem ef_gby (m : MethodId) (x0 : Addr) (x1 : Addr) (x2 : Int32) (x3 : Int32) : entryFrame m #[(.ref x0), (.ref x1), (.int x2), (.int x3)] 4 = mkF m 0 #[.val (.ref x0), .val (.ref x1), .val (.int x2), .val (.int x3)] [] := by first | (simp [entryFrame, mkF, argsToLocals, Value.category]; done) | rfl
theorem d23_0 : decode jdk_42_method_147_code 0 = .ok (.aload_n 0, 1) := by decide +kernel
theorem d23_1 : decode jdk_42_method_147_code 1 = .ok (.invokevirtual 335, 3) := by decide +kernel
theorem d23_4 : decode jdk_42_method_147_code 4 = .ok (.iload_n 3, 1) := by decide +kernel
theorem d23_5 : decode jdk_42_method_147_code 5 = .ok (.if_icmp .ne 23, 3) := by decide +kernel
theorem d23_8 : decode jdk_42_method_147_code 8 = .ok (.aload_n 0, 1) := by decide +kernel
theorem d23_9 : decode jdk_42_method_147_code 9 = .ok (.getfield 9, 3) := by decide +kernel
theorem d23_12 : decode jdk_42_method_147_code 12 = .ok (.iconst 0, 1) := by decide +kernel
theorem d23_13 : decode jdk_42_method_147_code 13 = .ok (.aload_n 1, 1) := by decide +kernel
theorem d23_14 : decode jdk_42_method_147_code 14 = .ok (.iload_n 2, 1) := by decide +kernel
theorem d23_15 : decode jdk_42_method_147_code 15 = .ok (.iload_n 3, 1) := by decide +kernel
theorem d23_16 : decode jdk_42_method_147_code 16 = .ok (.ishl, 1) := by decide +kernel
theorem d23_17 : decode jdk_42_method_147_code 17 = .ok (.aload_n 0, 1) := by decide +kernel
theorem d23_18 : decode jdk_42_method_147_code 18 = .ok (.getfield 9, 3) := by decide +kernel
theorem d23_21 : decode jdk_42_method_147_code 21 = .ok (.arraylength, 1) := by decide +kernel
theorem d23_22 : decode jdk_42_method_147_code 22 = .ok (.invokestatic 212, 3) := by decide +kernel
theorem d23_25 : decode jdk_42_method_147_code 25 = .ok (.goto 18, 3) := by decide +kernel
theorem d23_43 : decode jdk_42_method_147_code 43 = .ok (.return_, 1) := by decide +kernel
theorem ef_psa (m : MethodId) (x0 : Addr) (x1 : Int32) (x2 : Addr) : entryFrame m #[(.ref x0), (.int x1), (.ref x2)] 3 = mkF m 0 #[.val (.ref x0), .val (.int x1), .val (.ref x2)] [] := by first | (simp [entryFrame, mkF, argsToLocals, Value.category]; done) | rfl
theorem d21_0 : decode jdk_68_method_73_code 0 = .ok (.aload_n 0, 1) := by decide +kernel
theorem d21_1 : decode jdk_68_method_73_code 1 = .ok (.aload_n 2, 1) := by decide +kernel
theorem pd_3 : parseMethodDescriptor "(Ljava/lang/String;)V" = some ⟨[(.object "java/lang/String")], none⟩ := by decide +kernel
theorem d21_2 : decode jdk_68_method_73_code 2 = .ok (.invokevirtual 397, 3) := by decide +kernel
theorem d21_5 : decode jdk_68_method_73_code 5 = .ok (.aload_n 2, 1) := by decide +kernel
theorem d21_6 : decode jdk_68_method_73_code 6 = .ok (.aload_n 0, 1) := by decide +kernel
theorem d21_7 : decode jdk_68_method_73_code 7 = .ok (.getfield 15, 3) := by decide +kernel
theorem d21_10 : decode jdk_68_method_73_code 10 = .ok (.iload_n 1, 1) := by decide +kernel
theorem d21_11 : decode jdk_68_method_73_code 11 = .ok (.aload_n 0, 1) := by decide +kernel
theorem d21_12 : decode jdk_68_method_73_code 12 = .ok (.getfield 22, 3) := by decide +kernel
theorem pd_4 : parseMethodDescriptor "([BIB)V" = some ⟨[(.array .byte), .int, .byte], none⟩ := by decide +kernel
theorem d21_15 : decode jdk_68_method_73_code 15 = .ok (.invokevirtual 399, 3) := by decide +kernel
theorem d21_18 : decode jdk_68_method_73_code 18 = .ok (.return_, 1) := by decide +kernel
theorem ef_aap (m : MethodId) (x0 : Addr) (x1 : Addr) : entryFrame m #[(.ref x0), (.ref x1)] 3 = mkF m 0 #[.val (.ref x0), .val (.ref x1), .unset] [] := by first | (simp [entryFrame, mkF, argsToLocals, Value.category]; done) | rfl
theorem d17_0 : decode jdk_68_method_22_code 0 = .ok (.aload_n 1, 1) := by decide +kernel
theorem d17_1 : decode jdk_68_method_22_code 1 = .ok (.ifnonnull 8, 3) := by decide +kernel
theorem d17_9 : decode jdk_68_method_22_code 9 = .ok (.aload_n 1, 1) := by decide +kernel
theorem pd_5 : parseMethodDescriptor "()I" = some ⟨[], some .int⟩ := by decide +kernel
theorem d17_10 : decode jdk_68_method_22_code 10 = .ok (.invokevirtual 32, 3) := by decide +kernel
theorem d17_13 : decode jdk_68_method_22_code 13 = .ok (.istore_n 2, 1) := by decide +kernel
theorem d17_14 : decode jdk_68_method_22_code 14 = .ok (.aload_n 0, 1) := by decide +kernel
theorem d17_15 : decode jdk_68_method_22_code 15 = .ok (.aload_n 0, 1) := by decide +kernel
theorem d17_16 : decode jdk_68_method_22_code 16 = .ok (.getfield 79, 3) := by decide +kernel
theorem d17_19 : decode jdk_68_method_22_code 19 = .ok (.iload_n 2, 1) := by decide +kernel
theorem d17_20 : decode jdk_68_method_22_code 20 = .ok (.iadd, 1) := by decide +kernel
theorem d17_21 : decode jdk_68_method_22_code 21 = .ok (.invokevirtual 100, 3) := by decide +kernel
theorem d17_24 : decode jdk_68_method_22_code 24 = .ok (.aload_n 0, 1) := by decide +kernel
theorem d17_25 : decode jdk_68_method_22_code 25 = .ok (.aload_n 0, 1) := by decide +kernel
theorem d17_26 : decode jdk_68_method_22_code 26 = .ok (.getfield 79, 3) := by decide +kernel
theorem d17_29 : decode jdk_68_method_22_code 29 = .ok (.aload_n 1, 1) := by decide +kernel
theorem pd_6 : parseMethodDescriptor "(ILjava/lang/String;)V" = some ⟨[.int, (.object "java/lang/String")], none⟩ := by decide +kernel
theorem d17_30 : decode jdk_68_method_22_code 30 = .ok (.invokevirtual 208, 3) := by decide +kernel
theorem d17_33 : decode jdk_68_method_22_code 33 = .ok (.aload_n 0, 1) := by decide +kernel
theorem d17_34 : decode jdk_68_method_22_code 34 = .ok (.dup, 1) := by decide +kernel
theorem d17_35 : decode jdk_68_method_22_code 35 = .ok (.getfield 79, 3) := by decide +kernel
theorem d17_38 : decode jdk_68_method_22_code 38 = .ok (.iload_n 2, 1) := by decide +kernel
theorem d17_39 : decode jdk_68_method_22_code 39 = .ok (.iadd, 1) := by decide +kernel
theorem d17_40 : decode jdk_68_method_22_code 40 = .ok (.putfield 79, 3) := by decide +kernel
theorem d17_43 : decode jdk_68_method_22_code 43 = .ok (.aload_n 0, 1) := by decide +kernel
theorem d17_44 : decode jdk_68_method_22_code 44 = .ok (.areturn, 1) := by decide +kernel
theorem ef_app (m : MethodId) (x0 : Addr) (x1 : Addr) : entryFrame m #[(.ref x0), (.ref x1)] 2 = mkF m 0 #[.val (.ref x0), .val (.ref x1)] [] := by first | (simp [entryFrame, mkF, argsToLocals, Value.category]; done) | rfl
theorem d16_0 : decode jdk_67_method_7_code 0 = .ok (.aload_n 0, 1) := by decide +kernel
theorem d16_1 : decode jdk_67_method_7_code 1 = .ok (.aload_n 1, 1) := by decide +kernel
theorem pd_7 : parseMethodDescriptor "(Ljava/lang/String;)Ljava/lang/AbstractStringBuilder;" = some ⟨[(.object "java/lang/String")], some (.object "java/lang/AbstractStringBuilder")⟩ := by decide +kernel
theorem d16_2 : decode jdk_67_method_7_code 2 = .ok (.invokespecial 29, 3) := by decide +kernel
theorem d16_5 : decode jdk_67_method_7_code 5 = .ok (.pop, 1) := by decide +kernel
theorem d16_6 : decode jdk_67_method_7_code 6 = .ok (.aload_n 0, 1) := by decide +kernel
theorem d16_7 : decode jdk_67_method_7_code 7 = .ok (.areturn, 1) := by decide +kernel
theorem ef_gva (m : MethodId) (x0 : Addr) : entryFrame m #[(.ref x0)] 1 = mkF m 0 #[.val (.ref x0)] [] := by first | (simp [entryFrame, mkF, argsToLocals, Value.category]; done) | rfl
theorem d27_0 : decode jdk_68_method_64_code 0 = .ok (.aload_n 0, 1) := by decide +kernel
theorem d27_1 : decode jdk_68_method_64_code 1 = .ok (.getfield 15, 3) := by decide +kernel
theorem d27_4 : decode jdk_68_method_64_code 4 = .ok (.areturn, 1) := by decide +kernel
theorem ef_all (m : MethodId) (x0 : Addr) : entryFrame m #[(.ref x0)] 1 = mkF m 0 #[.val (.ref x0)] [] := by first | (simp [entryFrame, mkF, argsToLocals, Value.category]; done) | rfl
theorem d29_0 : decode jdk_68_method_6_code 0 = .ok (.aload_n 0, 1) := by decide +kernel
theorem d29_1 : decode jdk_68_method_6_code 1 = .ok (.getfield 79, 3) := by decide +kernel
theorem d29_4 : decode jdk_68_method_6_code 4 = .ok (.ireturn, 1) := by decide +kernel
theorem ef_sbl (m : MethodId) (x0 : Addr) : entryFrame m #[(.ref x0)] 1 = mkF m 0 #[.val (.ref x0)] [] := by first | (simp [entryFrame, mkF, argsToLocals, Value.category]; done) | rfl
theorem d28_0 : decode jdk_67_method_93_code 0 = .ok (.aload_n 0, 1) := by decide +kernel
theorem d28_1 : decode jdk_67_method_93_code 1 = .ok (.invokespecial 343, 3) := by decide +kernel
theorem d28_4 : decode jdk_67_method_93_code 4 = .ok (.ireturn, 1) := by decide +kernel
theorem ef_isl (m : MethodId) (x0 : Addr) : entryFrame m #[(.ref x0)] 1 = mkF m 0 #[.val (.ref x0)] [] := by first | (simp [entryFrame, mkF, argsToLocals, Value.category]; done) | rfl
theorem d30_0 : decode jdk_68_method_68_code 0 = .ok (.getstatic 18, 3) := by decide +kernel
theorem d30_3 : decode jdk_68_method_68_code 3 = .ok (.ifCond .eq 14, 3) := by decide +kernel
theorem d30_6 : decode jdk_68_method_68_code 6 = .ok (.aload_n 0, 1) := by decide +kernel
theorem d30_7 : decode jdk_68_method_68_code 7 = .ok (.getfield 22, 3) := by decide +kernel
theorem d30_10 : decode jdk_68_method_68_code 10 = .ok (.ifCond .ne 7, 3) := by decide +kernel
theorem d30_13 : decode jdk_68_method_68_code 13 = .ok (.iconst 1, 1) := by decide +kernel
theorem d30_14 : decode jdk_68_method_68_code 14 = .ok (.goto 4, 3) := by decide +kernel
theorem d30_18 : decode jdk_68_method_68_code 18 = .ok (.ireturn, 1) := by decide +kernel
theorem pn_4 : plainName "java/util/Arrays" = true := by first | (simp [plainName, overriddenIn]; done) | decide +kernel
theorem ef_chk (m : MethodId) (x0 : Int32) (x1 : Int32) : entryFrame m #[(.int x0), (.int x1)] 2 = mkF m 0 #[.val (.int x0), .val (.int x1)] [] := by first | (simp [entryFrame, mkF, argsToLocals, Value.category]; done) | rfl
theorem d33_0 : decode jdk_65_method_131_code 0 = .ok (.iload_n 1, 1) := by decide +kernel
theorem d33_1 : decode jdk_65_method_131_code 1 = .ok (.iload_n 0, 1) := by decide +kernel
theorem d33_2 : decode jdk_65_method_131_code 2 = .ok (.if_icmp .ge 35, 3) := by decide +kernel
theorem d33_37 : decode jdk_65_method_131_code 37 = .ok (.return_, 1) := by decide +kernel
theorem ef_min (m : MethodId) (x0 : Int32) (x1 : Int32) : entryFrame m #[(.int x0), (.int x1)] 2 = mkF m 0 #[.val (.int x0), .val (.int x1)] [] := by first | (simp [entryFrame, mkF, argsToLocals, Value.category]; done) | rfl
theorem d34_0 : decode jdk_29_method_69_code 0 = .ok (.iload_n 0, 1) := by decide +kernel
theorem d34_1 : decode jdk_29_method_69_code 1 = .ok (.iload_n 1, 1) := by decide +kernel
theorem d34_2 : decode jdk_29_method_69_code 2 = .ok (.if_icmp .gt 7, 3) := by decide +kernel
theorem d34_9 : decode jdk_29_method_69_code 9 = .ok (.iload_n 1, 1) := by decide +kernel
theorem d34_10 : decode jdk_29_method_69_code 10 = .ok (.ireturn, 1) := by decide +kernel
theorem d34_5 : decode jdk_29_method_69_code 5 = .ok (.iload_n 0, 1) := by decide +kernel
theorem d34_6 : decode jdk_29_method_69_code 6 = .ok (.goto 4, 3) := by decide +kernel
theorem ef_crb (m : MethodId) (x0 : Addr) (x1 : Int32) (x2 : Int32) : entryFrame m #[(.ref x0), (.int x1), (.int x2)] 5 = mkF m 0 #[.val (.ref x0), .val (.int x1), .val (.int x2), .unset, .unset] [] := by first | (simp [entryFrame, mkF, argsToLocals, Value.category]; done) | rfl
theorem d32_0 : decode jdk_65_method_133_code 0 = .ok (.iload_n 1, 1) := by decide +kernel
theorem d32_1 : decode jdk_65_method_133_code 1 = .ok (.iload_n 2, 1) := by decide +kernel
theorem pd_8 : parseMethodDescriptor "(II)V" = some ⟨[.int, .int], none⟩ := by decide +kernel
theorem d32_2 : decode jdk_65_method_133_code 2 = .ok (.invokestatic 343, 3) := by decide +kernel
theorem d32_5 : decode jdk_65_method_133_code 5 = .ok (.iload_n 2, 1) := by decide +kernel
theorem d32_6 : decode jdk_65_method_133_code 6 = .ok (.iload_n 1, 1) := by decide +kernel
theorem d32_7 : decode jdk_65_method_133_code 7 = .ok (.isub, 1) := by decide +kernel
theorem d32_8 : decode jdk_65_method_133_code 8 = .ok (.istore_n 3, 1) := by decide +kernel
theorem d32_9 : decode jdk_65_method_133_code 9 = .ok (.iload_n 3, 1) := by decide +kernel
theorem d32_10 : decode jdk_65_method_133_code 10 = .ok (.newarray .byte, 2) := by decide +kernel
theorem d32_12 : decode jdk_65_method_133_code 12 = .ok (.astore 4, 2) := by decide +kernel
theorem d32_14 : decode jdk_65_method_133_code 14 = .ok (.aload_n 0, 1) := by decide +kernel
theorem d32_15 : decode jdk_65_method_133_code 15 = .ok (.iload_n 1, 1) := by decide +kernel
theorem d32_16 : decode jdk_65_method_133_code 16 = .ok (.aload 4, 2) := by decide +kernel
theorem d32_18 : decode jdk_65_method_133_code 18 = .ok (.iconst 0, 1) := by decide +kernel
theorem d32_19 : decode jdk_65_method_133_code 19 = .ok (.aload_n 0, 1) := by decide +kernel
theorem d32_20 : decode jdk_65_method_133_code 20 = .ok (.arraylength, 1) := by decide +kernel
theorem d32_21 : decode jdk_65_method_133_code 21 = .ok (.iload_n 1, 1) := by decide +kernel
theorem d32_22 : decode jdk_65_method_133_code 22 = .ok (.isub, 1) := by decide +kernel
theorem d32_23 : decode jdk_65_method_133_code 23 = .ok (.iload_n 3, 1) := by decide +kernel
theorem pd_9 : parseMethodDescriptor "(II)I" = some ⟨[.int, .int], some .int⟩ := by decide +kernel
theorem d32_24 : decode jdk_65_method_133_code 24 = .ok (.invokestatic 304, 3) := by decide +kernel
theorem d32_27 : decode jdk_65_method_133_code 27 = .ok (.invokestatic 150, 3) := by decide +kernel
theorem d32_30 : decode jdk_65_method_133_code 30 = .ok (.aload 4, 2) := by decide +kernel
theorem d32_32 : decode jdk_65_method_133_code 32 = .ok (.areturn, 1) := by decide +kernel
theorem ef_cor (m : MethodId) (x0 : Addr) (x1 : Int32) (x2 : Int32) : entryFrame m #[(.ref x0), (.int x1), (.int x2)] 3 = mkF m 0 #[.val (.ref x0), .val (.int x1), .val (.int x2)] [] := by first | (simp [entryFrame, mkF, argsToLocals, Value.category]; done) | rfl
theorem d31_0 : decode jdk_65_method_132_code 0 = .ok (.iload_n 1, 1) := by decide +kernel
theorem d31_1 : decode jdk_65_method_132_code 1 = .ok (.ifCond .ne 9, 3) := by decide +kernel
theorem d31_4 : decode jdk_65_method_132_code 4 = .ok (.iload_n 2, 1) := by decide +kernel
theorem d31_5 : decode jdk_65_method_132_code 5 = .ok (.aload_n 0, 1) := by decide +kernel
theorem d31_6 : decode jdk_65_method_132_code 6 = .ok (.arraylength, 1) := by decide +kernel
theorem d31_7 : decode jdk_65_method_132_code 7 = .ok (.if_icmp .eq 10, 3) := by decide +kernel
theorem d31_10 : decode jdk_65_method_132_code 10 = .ok (.aload_n 0, 1) := by decide +kernel
theorem d31_11 : decode jdk_65_method_132_code 11 = .ok (.iload_n 1, 1) := by decide +kernel
theorem d31_12 : decode jdk_65_method_132_code 12 = .ok (.iload_n 2, 1) := by decide +kernel
theorem pd_10 : parseMethodDescriptor "([BII)[B" = some ⟨[(.array .byte), .int, .int], some (.array .byte)⟩ := by decide +kernel
theorem d31_13 : decode jdk_65_method_132_code 13 = .ok (.invokestatic 339, 3) := by decide +kernel
theorem d31_16 : decode jdk_65_method_132_code 16 = .ok (.areturn, 1) := by decide +kernel
theorem ef_sib (m : MethodId) (x0 : Addr) (x1 : Addr) : entryFrame m #[(.ref x0), (.ref x1), .null] 5 = mkF m 0 #[.val (.ref x0), .val (.ref x1), .val .null, .unset, .unset] [] := by first | (simp [entryFrame, mkF, argsToLocals, Value.category]; done) | rfl
theorem d26_0 : decode jdk_42_method_150_code 0 = .ok (.aload_n 0, 1) := by decide +kernel
theorem d26_1 : decode jdk_42_method_150_code 1 = .ok (.invokespecial 1, 3) := by decide +kernel
theorem d26_4 : decode jdk_42_method_150_code 4 = .ok (.aload_n 1, 1) := by decide +kernel
theorem pd_11 : parseMethodDescriptor "()[B" = some ⟨[], some (.array .byte)⟩ := by decide +kernel
theorem d26_5 : decode jdk_42_method_150_code 5 = .ok (.invokevirtual 552, 3) := by decide +kernel
theorem d26_8 : decode jdk_42_method_150_code 8 = .ok (.astore_n 3, 1) := by decide +kernel
theorem d26_9 : decode jdk_42_method_150_code 9 = .ok (.aload_n 1, 1) := by decide +kernel
theorem d26_10 : decode jdk_42_method_150_code 10 = .ok (.invokevirtual 549, 3) := by decide +kernel
theorem d26_13 : decode jdk_42_method_150_code 13 = .ok (.istore 4, 2) := by decide +kernel
theorem d26_15 : decode jdk_42_method_150_code 15 = .ok (.aload_n 1, 1) := by decide +kernel
theorem pd_12 : parseMethodDescriptor "()Z" = some ⟨[], some .boolean⟩ := by decide +kernel
theorem d26_16 : decode jdk_42_method_150_code 16 = .ok (.invokevirtual 1047, 3) := by decide +kernel
theorem d26_19 : decode jdk_42_method_150_code 19 = .ok (.ifCond .eq 22, 3) := by decide +kernel
theorem d26_22 : decode jdk_42_method_150_code 22 = .ok (.aload_n 0, 1) := by decide +kernel
theorem d26_23 : decode jdk_42_method_150_code 23 = .ok (.iconst 0, 1) := by decide +kernel
theorem d26_24 : decode jdk_42_method_150_code 24 = .ok (.putfield 15, 3) := by decide +kernel
theorem d26_27 : decode jdk_42_method_150_code 27 = .ok (.aload_n 0, 1) := by decide +kernel
theorem d26_28 : decode jdk_42_method_150_code 28 = .ok (.aload_n 3, 1) := by decide +kernel
theorem d26_29 : decode jdk_42_method_150_code 29 = .ok (.iconst 0, 1) := by decide +kernel
theorem d26_30 : decode jdk_42_method_150_code 30 = .ok (.iload 4, 2) := by decide +kernel
theorem d26_32 : decode jdk_42_method_150_code 32 = .ok (.invokestatic 54, 3) := by decide +kernel
theorem d26_35 : decode jdk_42_method_150_code 35 = .ok (.putfield 9, 3) := by decide +kernel
theorem d26_38 : decode jdk_42_method_150_code 38 = .ok (.goto 59, 3) := by decide +kernel
theorem d26_97 : decode jdk_42_method_150_code 97 = .ok (.return_, 1) := by decide +kernel
theorem ef_sis (m : MethodId) (x0 : Addr) (x1 : Addr) : entryFrame m #[(.ref x0), (.ref x1)] 2 = mkF m 0 #[.val (.ref x0), .val (.ref x1)] [] := by first | (simp [entryFrame, mkF, argsToLocals, Value.category]; done) | rfl
theorem d25_0 : decode jdk_42_method_53_code 0 = .ok (.aload_n 0, 1) := by decide +kernel
theorem d25_1 : decode jdk_42_method_53_code 1 = .ok (.aload_n 1, 1) := by decide +kernel
theorem d25_2 : decode jdk_42_method_53_code 2 = .ok (.aconst_null, 1) := by decide +kernel
theorem pd_13 : parseMethodDescriptor "(Ljava/lang/AbstractStringBuilder;Ljava/lang/Void;)V" = some ⟨[(.object "java/lang/AbstractStringBuilder"), (.object "java/lang/Void")], none⟩ := by decide +kernel
theorem d25_3 : decode jdk_42_method_53_code 3 = .ok (.invokespecial 489, 3) := by decide +kernel
theorem d25_6 : decode jdk_42_method_53_code 6 = .ok (.return_, 1) := by decide +kernel
theorem ef_tos (m : MethodId) (x0 : Addr) : entryFrame m #[(.ref x0)] 1 = mkF m 0 #[.val (.ref x0)] [] := by first | (simp [entryFrame, mkF, argsToLocals, Value.category]; done) | rfl
theorem d24_0 : decode jdk_67_method_42_code 0 = .ok (.new 18, 3) := by decide +kernel
theorem d24_3 : decode jdk_67_method_42_code 3 = .ok (.dup, 1) := by decide +kernel
theorem d24_4 : decode jdk_67_method_42_code 4 = .ok (.aload_n 0, 1) := by decide +kernel
theorem pd_14 : parseMethodDescriptor "(Ljava/lang/StringBuilder;)V" = some ⟨[(.object "java/lang/StringBuilder")], none⟩ := by decide +kernel
theorem d24_5 : decode jdk_67_method_42_code 5 = .ok (.invokespecial 137, 3) := by decide +kernel
theorem d24_8 : decode jdk_67_method_42_code 8 = .ok (.areturn, 1) := by decide +kernel
theorem pn_5 : plainName "com/example/kontraktor/kontraktor/cli/Option" = true := by first | (simp [plainName, overriddenIn]; done) | decide +kernel
theorem ef_oin (m : MethodId) (x0 : Addr) (x1 : Addr) (x2 : Addr) (x3 : Int32) (x4 : Int32) (x5 : Addr) : entryFrame m #[(.ref x0), (.ref x1), (.ref x2), (.int x3), (.int x4), (.ref x5)] 6 = mkF m 0 #[.val (.ref x0), .val (.ref x1), .val (.ref x2), .val (.int x3), .val (.int x4), .val (.ref x5)] [] := by first | (simp [entryFrame, mkF, argsToLocals, Value.category]; done) | rfl
theorem d8_0 : decode prog_20_method_1_code 0 = .ok (.aload_n 0, 1) := by decide +kernel
theorem d8_1 : decode prog_20_method_1_code 1 = .ok (.invokespecial 1, 3) := by decide +kernel
theorem d8_4 : decode prog_20_method_1_code 4 = .ok (.aload_n 0, 1) := by decide +kernel
theorem d8_5 : decode prog_20_method_1_code 5 = .ok (.aload_n 1, 1) := by decide +kernel
theorem d8_6 : decode prog_20_method_1_code 6 = .ok (.putfield 7, 3) := by decide +kernel
theorem d8_9 : decode prog_20_method_1_code 9 = .ok (.aload_n 0, 1) := by decide +kernel
theorem d8_10 : decode prog_20_method_1_code 10 = .ok (.aload_n 2, 1) := by decide +kernel
theorem d8_11 : decode prog_20_method_1_code 11 = .ok (.putfield 13, 3) := by decide +kernel
theorem d8_14 : decode prog_20_method_1_code 14 = .ok (.aload_n 0, 1) := by decide +kernel
theorem d8_15 : decode prog_20_method_1_code 15 = .ok (.iload_n 3, 1) := by decide +kernel
theorem d8_16 : decode prog_20_method_1_code 16 = .ok (.putfield 16, 3) := by decide +kernel
theorem d8_19 : decode prog_20_method_1_code 19 = .ok (.aload_n 0, 1) := by decide +kernel
theorem d8_20 : decode prog_20_method_1_code 20 = .ok (.iload 4, 2) := by decide +kernel
theorem d8_22 : decode prog_20_method_1_code 22 = .ok (.putfield 20, 3) := by decide +kernel
theorem d8_25 : decode prog_20_method_1_code 25 = .ok (.aload_n 0, 1) := by decide +kernel
theorem d8_26 : decode prog_20_method_1_code 26 = .ok (.aload 5, 2) := by decide +kernel
theorem d8_28 : decode prog_20_method_1_code 28 = .ok (.putfield 23, 3) := by decide +kernel
theorem d8_31 : decode prog_20_method_1_code 31 = .ok (.return_, 1) := by decide +kernel
theorem ef_fac (m : MethodId) (x0 : Addr) (x1 : Addr) (x2 : Addr) : entryFrame m #[(.ref x0), (.ref x1), (.ref x2)] 3 = mkF m 0 #[.val (.ref x0), .val (.ref x1), .val (.ref x2)] [] := by first | (simp [entryFrame, mkF, argsToLocals, Value.category]; done) | rfl
theorem d7_0 : decode prog_20_method_3_code 0 = .ok (.new 8, 3) := by decide +kernel
theorem d7_3 : decode prog_20_method_3_code 3 = .ok (.dup, 1) := by decide +kernel
theorem d7_4 : decode prog_20_method_3_code 4 = .ok (.aload_n 0, 1) := by decide +kernel
theorem d7_5 : decode prog_20_method_3_code 5 = .ok (.aload_n 1, 1) := by decide +kernel
theorem d7_6 : decode prog_20_method_3_code 6 = .ok (.iconst 0, 1) := by decide +kernel
theorem d7_7 : decode prog_20_method_3_code 7 = .ok (.iconst 0, 1) := by decide +kernel
theorem d7_8 : decode prog_20_method_3_code 8 = .ok (.aload_n 2, 1) := by decide +kernel
theorem pd_15 : parseMethodDescriptor "(Ljava/lang/String;Ljava/lang/String;ZZLjava/lang/String;)V" = some ⟨[(.object "java/lang/String"), (.object "java/lang/String"), .boolean, .boolean, (.object "java/lang/String")], none⟩ := by decide +kernel
theorem d7_9 : decode prog_20_method_3_code 9 = .ok (.invokespecial 26, 3) := by decide +kernel
theorem d7_12 : decode prog_20_method_3_code 12 = .ok (.areturn, 1) := by decide +kernel
theorem ef_gna (m : MethodId) (x0 : Addr) : entryFrame m #[(.ref x0)] 1 = mkF m 0 #[.val (.ref x0)] [] := by first | (simp [entryFrame, mkF, argsToLocals, Value.category]; done) | rfl
theorem d9_0 : decode prog_20_method_5_code 0 = .ok (.aload_n 0, 1) := by decide +kernel
theorem d9_1 : decode prog_20_method_5_code 1 = .ok (.getfield 7, 3) := by decide +kernel
theorem d9_4 : decode prog_20_method_5_code 4 = .ok (.areturn, 1) := by decide +kernel
theorem ef_gde (m : MethodId) (x0 : Addr) : entryFrame m #[(.ref x0)] 1 = mkF m 0 #[.val (.ref x0)] [] := by first | (simp [entryFrame, mkF, argsToLocals, Value.category]; done) | rfl
theorem d11_0 : decode prog_20_method_7_code 0 = .ok (.aload_n 0, 1) := by decide +kernel
theorem d11_1 : decode prog_20_method_7_code 1 = .ok (.getfield 23, 3) := by decide +kernel
theorem d11_4 : decode prog_20_method_7_code 4 = .ok (.areturn, 1) := by decide +kernel
theorem ef_ire (m : MethodId) (x0 : Addr) : entryFrame m #[(.ref x0)] 1 = mkF m 0 #[.val (.ref x0)] [] := by first | (simp [entryFrame, mkF, argsToLocals, Value.category]; done) | rfl
theorem d12_0 : decode prog_20_method_6_code 0 = .ok (.aload_n 0, 1) := by decide +kernel
theorem d12_1 : decode prog_20_method_6_code 1 = .ok (.getfield 20, 3) := by decide +kernel
theorem d12_4 : decode prog_20_method_6_code 4 = .ok (.ireturn, 1) := by decide +kernel
theorem ef_giv (m : MethodId) (x0 : Addr) : entryFrame m #[(.ref x0)] 1 = mkF m 0 #[.val (.ref x0)] [] := by first | (simp [entryFrame, mkF, argsToLocals, Value.category]; done) | rfl
theorem d13_0 : decode prog_20_method_8_code 0 = .ok (.new 29, 3) := by decide +kernel
theorem d13_3 : decode prog_20_method_8_code 3 = .ok (.dup, 1) := by decide +kernel
theorem pd_16 : parseMethodDescriptor "()V" = some ⟨[], none⟩ := by decide +kernel
theorem d13_4 : decode prog_20_method_8_code 4 = .ok (.invokespecial 31, 3) := by decide +kernel
theorem d13_7 : decode prog_20_method_8_code 7 = .ok (.aload_n 0, 1) := by decide +kernel
theorem d13_8 : decode prog_20_method_8_code 8 = .ok (.getfield 7, 3) := by decide +kernel
theorem pd_17 : parseMethodDescriptor "(Ljava/lang/String;)Ljava/lang/StringBuilder;" = some ⟨[(.object "java/lang/String")], some (.object "java/lang/StringBuilder")⟩ := by decide +kernel
theorem d13_11 : decode prog_20_method_8_code 11 = .ok (.invokevirtual 32, 3) := by decide +kernel
theorem d13_14 : decode prog_20_method_8_code 14 = .ok (.ldc 36, 2) := by decide +kernel
theorem d13_16 : decode prog_20_method_8_code 16 = .ok (.invokevirtual 32, 3) := by decide +kernel
theorem d13_19 : decode prog_20_method_8_code 19 = .ok (.aload_n 0, 1) := by decide +kernel
theorem d13_20 : decode prog_20_method_8_code 20 = .ok (.getfield 13, 3) := by decide +kernel
theorem d13_23 : decode prog_20_method_8_code 23 = .ok (.invokevirtual 32, 3) := by decide +kernel
theorem pd_18 : parseMethodDescriptor "()Ljava/lang/String;" = some ⟨[], some (.object "java/lang/String")⟩ := by decide +kernel
theorem d13_26 : decode prog_20_method_8_code 26 = .ok (.invokevirtual 38, 3) := by decide +kernel
theorem d13_29 : decode prog_20_method_8_code 29 = .ok (.areturn, 1) := by decide +kernel
theorem ef_usa (m : MethodId) (x0 : Addr) : entryFrame m #[(.ref x0)] 2 = mkF m 0 #[.val (.ref x0), .unset] [] := by first | (simp [entryFrame, mkF, argsToLocals, Value.category]; done) | rfl
theorem d36_0 : decode prog_20_method_9_code 0 = .ok (.new 29, 3) := by decide +kernel
theorem d36_3 : decode prog_20_method_9_code 3 = .ok (.dup, 1) := by decide +kernel
theorem d36_4 : decode prog_20_method_9_code 4 = .ok (.invokespecial 31, 3) := by decide +kernel
theorem d36_7 : decode prog_20_method_9_code 7 = .ok (.aload_n 0, 1) := by decide +kernel
theorem d36_8 : decode prog_20_method_9_code 8 = .ok (.invokevirtual 42, 3) := by decide +kernel
theorem d36_11 : decode prog_20_method_9_code 11 = .ok (.invokevirtual 32, 3) := by decide +kernel
theorem d36_14 : decode prog_20_method_9_code 14 = .ok (.aload_n 0, 1) := by decide +kernel
theorem d36_15 : decode prog_20_method_9_code 15 = .ok (.getfield 20, 3) := by decide +kernel
theorem d36_18 : decode prog_20_method_9_code 18 = .ok (.ifCond .eq 8, 3) := by decide +kernel
theorem d36_26 : decode prog_20_method_9_code 26 = .ok (.ldc 47, 2) := by decide +kernel
theorem d36_28 : decode prog_20_method_9_code 28 = .ok (.invokevirtual 32, 3) := by decide +kernel
theorem d36_31 : decode prog_20_method_9_code 31 = .ok (.invokevirtual 38, 3) := by decide +kernel
theorem d36_34 : decode prog_20_method_9_code 34 = .ok (.astore_n 1, 1) := by decide +kernel
theorem d36_35 : decode prog_20_method_9_code 35 = .ok (.aload_n 0, 1) := by decide +kernel
theorem d36_36 : decode prog_20_method_9_code 36 = .ok (.getfield 16, 3) := by decide +kernel
theorem d36_39 : decode prog_20_method_9_code 39 = .ok (.ifCond .eq 7, 3) := by decide +kernel
theorem d36_46 : decode prog_20_method_9_code 46 = .ok (.new 29, 3) := by decide +kernel
theorem d36_49 : decode prog_20_method_9_code 49 = .ok (.dup, 1) := by decide +kernel
theorem d36_50 : decode prog_20_method_9_code 50 = .ok (.invokespecial 31, 3) := by decide +kernel
theorem d36_53 : decode prog_20_method_9_code 53 = .ok (.ldc 49, 2) := by decide +kernel
theorem d36_55 : decode prog_20_method_9_code 55 = .ok (.invokevirtual 32, 3) := by decide +kernel
theorem d36_58 : decode prog_20_method_9_code 58 = .ok (.aload_n 1, 1) := by decide +kernel
theorem d36_59 : decode prog_20_method_9_code 59 = .ok (.invokevirtual 32, 3) := by decide +kernel
theorem d36_62 : decode prog_20_method_9_code 62 = .ok (.ldc 51, 2) := by decide +kernel
theorem d36_64 : decode prog_20_method_9_code 64 = .ok (.invokevirtual 32, 3) := by decide +kernel
theorem d36_67 : decode prog_20_method_9_code 67 = .ok (.invokevirtual 38, 3) := by decide +kernel
theorem d36_70 : decode prog_20_method_9_code 70 = .ok (.areturn, 1) := by decide +kernel
theorem pn_6 : plainName "com/example/kontraktor/kontraktor/cli/OptionOptionalPinLaw" = true := by first | (simp [plainName, overriddenIn]; done) | decide +kernel
theorem ef_law (m : MethodId) (x0 : Int32) (x1 : Int32) (x2 : Int32) : entryFrame m #[(.int x0), (.int x1), (.int x2)] maxLocals = mkF m 0 #[.val (.int x0), .val (.int x1), .val (.int x2), .unset, .unset, .unset, .unset, .unset, .unset, .unset, .unset, .unset, .unset, .unset, .unset] [] := by first | (simp [entryFrame, mkF, argsToLocals, Value.category, maxLocals]; done) | rfl
theorem pd_19 : parseMethodDescriptor "([C)V" = some ⟨[(.array .char)], none⟩ := by decide +kernel
theorem pd_20 : parseMethodDescriptor "(Ljava/lang/String;Ljava/lang/String;Ljava/lang/String;)Lcom/example/kontraktor/kontraktor/cli/Option;" = some ⟨[(.object "java/lang/String"), (.object "java/lang/String"), (.object "java/lang/String")], some (.object "com/example/kontraktor/kontraktor/cli/Option")⟩ := by decide +kernel
theorem pd_21 : parseMethodDescriptor "(Ljava/lang/Object;)Z" = some ⟨[(.object "java/lang/Object")], some .boolean⟩ := by decide +kernel
def Q_leq (Z : State) (b1 b2 : Addr) (k1 k2 : ClassId) (bs cs : List Int32) (h0 : Heap) (n0 : Nat) (v : Option Value) (h : Heap) (L : List Loc) : Prop := v = some (.int (eqI bs cs)) ∧ Fr n0 L ∧ h = h0
set_option maxRecDepth 65536 in
set_option maxHeartbeats 40000000 in
theorem rm_leq (l : Launch) (Z : State) (a0 : Array Value) (hw : ∀ d ∈ tables_1, d.before a0 Z = true) (ws : List Jvm.Cond) (b1 b2 : Addr) (k1 k2 : ClassId) (bs cs : List Int32) (h0 : Heap) (n0 : Nat) (Z0 : n0 ≤ h0.size) (V1 : Arv Z h0 b1 k1 .byte (Int32.ofNat bs.length) (bs.map Value.int) (.int (0 : Int32))) (l1 : bs.length < 2 ^ 31) (V2 : Arv Z h0 b2 k2 .byte (Int32.ofNat cs.length) (cs.map Value.int) (.int (0 : Int32))) (l2 : cs.length < 2 ^ 31) :
    MetFree l (⟨"java/lang/StringLatin1", "equals", "([B[B)Z"⟩ : MethodName) (head1 (Jvm.Cond.code (⟨"java/lang/StringLatin1", "equals", "([B[B)Z"⟩ : MethodName) jdk_43_method_13_code 3 (some .boolean) :: ws) ({ frames := 0, cells := 0, slots := 0, locals := 0 } : Room)) (fun aa U => aa = #[(.ref b1), (.ref b2)] ∧ Z.Warmed39 U.vm ∧ U.heap = h0) (fun _ _ _ _ _ => True) (fun _ U o U' => ∃ v L, o = .returned v ∧ Q_leq Z b1 b2 k1 k2 bs cs h0 n0 v U'.heap L ∧ FrameEnd U o U' L ({ frames := 0, cells := 0, slots := 0, locals := 0 } : Room).cells ({ frames := 0, cells := 0, slots := 0, locals := 0 } : Room).slots) := by
  refine MetFree.of_bodySF (plainFor_of_name pn_0) hisR ?_
  intro p e s m args below meth c s₁ Bd hml0 hP hK
  obtain ⟨rfl, hZ, hh⟩ := hP
  have hx := Bd.exec
  have hby := Bd.bytes
  have hml : c.maxLocals = 3 := hml0
  have hown : s.vm.findClass "java/lang/StringLatin1" = some m.cls := findClass_of_methodNamed Bd.named
  have hnm := (name_of_methodNamed Bd.named Bd.method).1
  have hlk : meth.locks = false := BodyLoose.notSynchronized Bd
  have X0 : Stand p l e ({ frames := 0, cells := 0, slots := 0, locals := 0 } : Room) s m #[(.ref b1), (.ref b2)] below meth c s₁ [] 0 0 := Stand.of_body Bd
  have e0 : s₁.heap = h0 := by rw [← hh, Bd.state]; rfl
  have N0 := Fr.nil n0
  have K0 : Keep h0 h0 [] := Keep.refl _ _
  show Gl p.tables e below (QQof s (Q_leq Z b1 b2 k1 k2 bs cs h0 n0) 0 0) (s₁.setTop (entryFrame m #[(.ref b1), (.ref b2)] 3))
  refine Gl.go (fun t k => castTop (ef_leq m b1 b2) k) ?_
  show Gl _ _ _ _ (s₁.setTop (mkF m 0 #[.val (.ref b1), .val (.ref b2), .unset] []))
  refine Gl.go (fun _ k => XS.aloadN X0.here hx rfl (hb hby d35_0) rfl rfl  k) ?_
  show Gl _ _ _ _ (s₁.setTop (mkF m 1 #[.val (.ref b1), .val (.ref b2), .unset] [(.ref b1)]))
  obtain ⟨cl1, Ar1, qA1, SA1, NA1, HA1, GA1⟩ := id V1
  refine Gl.go (fun _ k => X0.arraylength hx (by rw [e0]; exact Ar1.1) (State.isArrayOf_alike hZ.alike Ar1.2.1) (g := (mkF m 1 #[.val (.ref b1), .val (.ref b2), .unset] [(.ref b1)])) rfl rfl (hb hby d35_1) _ k) ?_
  rw [len_of SA1 NA1]
  show Gl _ _ _ _ (s₁.setTop (mkF m 2 #[.val (.ref b1), .val (.ref b2), .unset] [(.int (Int32.ofNat bs.length))]))
  refine Gl.go (fun _ k => XS.aloadN X0.here hx rfl (hb hby d35_2) rfl rfl  k) ?_
  show Gl _ _ _ _ (s₁.setTop (mkF m 3 #[.val (.ref b1), .val (.ref b2), .unset] [(.ref b2), (.int (Int32.ofNat bs.length))]))
  obtain ⟨cl2, Ar2, qA2, SA2, NA2, HA2, GA2⟩ := id V2
  refine Gl.go (fun _ k => X0.arraylength hx (by rw [e0]; exact Ar2.1) (State.isArrayOf_alike hZ.alike Ar2.2.1) (g := (mkF m 3 #[.val (.ref b1), .val (.ref b2), .unset] [(.ref b2), (.int (Int32.ofNat bs.length))])) rfl rfl (hb hby d35_3) _ k) ?_
  rw [len_of SA2 NA2]
  show Gl _ _ _ _ (s₁.setTop (mkF m 4 #[.val (.ref b1), .val (.ref b2), .unset] [(.int (Int32.ofNat cs.length)), (.int (Int32.ofNat bs.length))]))
  by_cases h4 : (Int32.ofNat bs.length) = (Int32.ofNat cs.length)
  · skip
    refine Gl.go (fun _ k => XS.icmpNo X0.here hx rfl (hb hby d35_4) rfl (teq h4).2 k) ?_
    show Gl _ _ _ _ (s₁.setTop (mkF m 7 #[.val (.ref b1), .val (.ref b2), .unset] []))
    refine Gl.go (fun _ k => XS.iconst X0.here hx rfl (hb hby d35_7) k) ?_
    show Gl _ _ _ _ (s₁.setTop (mkF m 8 #[.val (.ref b1), .val (.ref b2), .unset] [(.int (0 : Int32))]))
    refine Gl.go (fun _ k => XS.istoreN X0.here hx rfl (hb hby d35_8) rfl (l' := #[.val (.ref b1), .val (.ref b2), .val (.int (0 : Int32))]) rfl k) ?_
    show Gl _ _ _ _ (s₁.setTop (mkF m 9 #[.val (.ref b1), .val (.ref b2), .val (.int (0 : Int32))] []))
    have hl : bs.length = cs.length := i32_inj l1 l2 h4
    show Gl _ _ _ _ (s₁.setTop (mkF m 9 #[.val (.ref b1), .val (.ref b2), .val (.int (Int32.ofNat 0))] []))
    have loop : ∀ (k i : Nat), i + k = bs.length → bs.take i = cs.take i → Gl p.tables e below (QQof s (Q_leq Z b1 b2 k1 k2 bs cs h0 n0) 0 0) (s₁.setTop (mkF m 9 #[.val (.ref b1), .val (.ref b2), .val (.int (Int32.ofNat i))] [])) := by
      intro k
      induction k with
      | zero =>
        intro i hi ht
        show Gl _ _ _ _ (s₁.setTop (mkF m 9 #[.val (.ref b1), .val (.ref b2), .val (.int (Int32.ofNat i))] []))
        refine Gl.go (fun _ k => XS.iloadN X0.here hx rfl (hb hby d35_9) rfl  k) ?_
        show Gl _ _ _ _ (s₁.setTop (mkF m 10 #[.val (.ref b1), .val (.ref b2), .val (.int (Int32.ofNat i))] [(.int (Int32.ofNat i))]))
        refine Gl.go (fun _ k => XS.aloadN X0.here hx rfl (hb hby d35_10) rfl rfl  k) ?_
        show Gl _ _ _ _ (s₁.setTop (mkF m 11 #[.val (.ref b1), .val (.ref b2), .val (.int (Int32.ofNat i))] [(.ref b1), (.int (Int32.ofNat i))]))
        obtain ⟨cl3, Ar3, qA3, SA3, NA3, HA3, GA3⟩ := id V1
        refine Gl.go (fun _ k => X0.arraylength hx (by rw [e0]; exact Ar3.1) (State.isArrayOf_alike hZ.alike Ar3.2.1) (g := (mkF m 11 #[.val (.ref b1), .val (.ref b2), .val (.int (Int32.ofNat i))] [(.ref b1), (.int (Int32.ofNat i))])) rfl rfl (hb hby d35_11) _ k) ?_
        rw [len_of SA3 NA3]
        show Gl _ _ _ _ (s₁.setTop (mkF m 12 #[.val (.ref b1), .val (.ref b2), .val (.int (Int32.ofNat i))] [(.int (Int32.ofNat bs.length)), (.int (Int32.ofNat i))]))
        refine Gl.go (fun _ k => XS.icmpYes X0.here hx rfl (pc0 := 12) (pc' := 32) rfl (hb hby d35_12) rfl (flt (by rw [show i = bs.length by omega]; exact Int32.lt_irrefl)).2.1 (by decide) (by decide) k) ?_
        show Gl _ _ _ _ (s₁.setTop (mkF m 32 #[.val (.ref b1), .val (.ref b2), .val (.int (Int32.ofNat i))] []))
        refine Gl.go (fun _ k => XS.iconst X0.here hx rfl (hb hby d35_32) k) ?_
        show Gl _ _ _ _ (s₁.setTop (mkF m 33 #[.val (.ref b1), .val (.ref b2), .val (.int (Int32.ofNat i))] [(.int (1 : Int32))]))
        refine leafN X0 hx hlk (t := .boolean) Bd.returns (by simp) (hb hby d35_33) ?_ (by decide) (by decide)
        exact ⟨by rw [nar1, eqI_yes (take_all hl (by rw [show i = bs.length by omega] at ht; exact ht))], N0, e0⟩
      | succ k ih =>
        intro i hi ht
        have hib : i < bs.length := by omega
        have hic : i < cs.length := by omega
        have hi3 : i < 2 ^ 31 := by omega
        show Gl _ _ _ _ (s₁.setTop (mkF m 9 #[.val (.ref b1), .val (.ref b2), .val (.int (Int32.ofNat i))] []))
        refine Gl.go (fun _ k => XS.iloadN X0.here hx rfl (hb hby d35_9) rfl  k) ?_
        show Gl _ _ _ _ (s₁.setTop (mkF m 10 #[.val (.ref b1), .val (.ref b2), .val (.int (Int32.ofNat i))] [(.int (Int32.ofNat i))]))
        refine Gl.go (fun _ k => XS.aloadN X0.here hx rfl (hb hby d35_10) rfl rfl  k) ?_
        show Gl _ _ _ _ (s₁.setTop (mkF m 11 #[.val (.ref b1), .val (.ref b2), .val (.int (Int32.ofNat i))] [(.ref b1), (.int (Int32.ofNat i))]))
        obtain ⟨cl4, Ar4, qA4, SA4, NA4, HA4, GA4⟩ := id V1
        refine Gl.go (fun _ k => X0.arraylength hx (by rw [e0]; exact Ar4.1) (State.isArrayOf_alike hZ.alike Ar4.2.1) (g := (mkF m 11 #[.val (.ref b1), .val (.ref b2), .val (.int (Int32.ofNat i))] [(.ref b1), (.int (Int32.ofNat i))])) rfl rfl (hb hby d35_11) _ k) ?_
        rw [len_of SA4 NA4]
        show Gl _ _ _ _ (s₁.setTop (mkF m 12 #[.val (.ref b1), .val (.ref b2), .val (.int (Int32.ofNat i))] [(.int (Int32.ofNat bs.length)), (.int (Int32.ofNat i))]))
        refine Gl.go (fun _ k => XS.icmpNo X0.here hx rfl (hb hby d35_12) rfl (tlt (i32_lt hib l1)).2.1 k) ?_
        show Gl _ _ _ _ (s₁.setTop (mkF m 15 #[.val (.ref b1), .val (.ref b2), .val (.int (Int32.ofNat i))] []))
        refine Gl.go (fun _ k => XS.aloadN X0.here hx rfl (hb hby d35_15) rfl rfl  k) ?_
        show Gl _ _ _ _ (s₁.setTop (mkF m 16 #[.val (.ref b1), .val (.ref b2), .val (.int (Int32.ofNat i))] [(.ref b1)]))
        refine Gl.go (fun _ k => XS.iloadN X0.here hx rfl (hb hby d35_16) rfl  k) ?_
        show Gl _ _ _ _ (s₁.setTop (mkF m 17 #[.val (.ref b1), .val (.ref b2), .val (.int (Int32.ofNat i))] [(.int (Int32.ofNat i)), (.ref b1)]))
        obtain ⟨cl5, Ar5, qA5, SA5, NA5, HA5, GA5⟩ := id V1
        have hin5 := inb_of (j := (Int32.ofNat i)) SA5 ⟨i32_pos hi3, i32_lt hib l1⟩
        have hat5 : cl5.slots[((Int32.ofNat i)).toNatClampNeg]? = some (.int (bs.getD i 0)) := HA5.at hin5 (getD_at bs hi3)
        refine Gl.go (fun _ k => X0.baloadBytes hx (j := (Int32.ofNat i)) (v := (.int (bs.getD i 0))) (by rw [e0]; exact Ar5.1) (State.isArrayOf_alike hZ.alike Ar5.2.1) Ar5.2.2 hin5 hat5 (g := (mkF m 17 #[.val (.ref b1), .val (.ref b2), .val (.int (Int32.ofNat i))] [(.int (Int32.ofNat i)), (.ref b1)])) rfl rfl (hb hby d35_17) _ k) ?_
        show Gl _ _ _ _ (s₁.setTop (mkF m 18 #[.val (.ref b1), .val (.ref b2), .val (.int (Int32.ofNat i))] [(.int (bs.getD i 0))]))
        refine Gl.go (fun _ k => XS.aloadN X0.here hx rfl (hb hby d35_18) rfl rfl  k) ?_
        show Gl _ _ _ _ (s₁.setTop (mkF m 19 #[.val (.ref b1), .val (.ref b2), .val (.int (Int32.ofNat i))] [(.ref b2), (.int (bs.getD i 0))]))
        refine Gl.go (fun _ k => XS.iloadN X0.here hx rfl (hb hby d35_19) rfl  k) ?_
        show Gl _ _ _ _ (s₁.setTop (mkF m 20 #[.val (.ref b1), .val (.ref b2), .val (.int (Int32.ofNat i))] [(.int (Int32.ofNat i)), (.ref b2), (.int (bs.getD i 0))]))
        obtain ⟨cl6, Ar6, qA6, SA6, NA6, HA6, GA6⟩ := id V2
        have hin6 := inb_of (j := (Int32.ofNat i)) SA6 ⟨i32_pos hi3, i32_lt hic l2⟩
        have hat6 : cl6.slots[((Int32.ofNat i)).toNatClampNeg]? = some (.int (cs.getD i 0)) := HA6.at hin6 (getD_at cs hi3)
        refine Gl.go (fun _ k => X0.baloadBytes hx (j := (Int32.ofNat i)) (v := (.int (cs.getD i 0))) (by rw [e0]; exact Ar6.1) (State.isArrayOf_alike hZ.alike Ar6.2.1) Ar6.2.2 hin6 hat6 (g := (mkF m 20 #[.val (.ref b1), .val (.ref b2), .val (.int (Int32.ofNat i))] [(.int (Int32.ofNat i)), (.ref b2), (.int (bs.getD i 0))])) rfl rfl (hb hby d35_20) _ k) ?_
        show Gl _ _ _ _ (s₁.setTop (mkF m 21 #[.val (.ref b1), .val (.ref b2), .val (.int (Int32.ofNat i))] [(.int (cs.getD i 0)), (.int (bs.getD i 0))]))
        by_cases h21 : (bs.getD i 0) = (cs.getD i 0)
        · skip
          refine Gl.go (fun _ k => XS.icmpYes X0.here hx rfl (pc0 := 21) (pc' := 26) rfl (hb hby d35_21) rfl (teq h21).1 (by decide) (by decide) k) ?_
          show Gl _ _ _ _ (s₁.setTop (mkF m 26 #[.val (.ref b1), .val (.ref b2), .val (.int (Int32.ofNat i))] []))
          refine Gl.go (fun _ k => XS.iinc X0.here hx rfl (hb hby d35_26) rfl (l' := #[.val (.ref b1), .val (.ref b2), .val (.int ((Int32.ofNat i) + (1 : Int32)))]) rfl k) ?_
          show Gl _ _ _ _ (s₁.setTop (mkF m 29 #[.val (.ref b1), .val (.ref b2), .val (.int ((Int32.ofNat i) + (1 : Int32)))] []))
          refine Gl.go (fun _ k => XS.goto X0.here hx rfl (pc0 := 29) (pc' := 9) rfl (hb hby d35_29) (by decide) (by decide) k) ?_
          show Gl _ _ _ _ (s₁.setTop (mkF m 9 #[.val (.ref b1), .val (.ref b2), .val (.int ((Int32.ofNat i) + (1 : Int32)))] []))
          rw [(i32_succ i : ((Int32.ofNat i) + (1 : Int32)) = (Int32.ofNat (i + 1)))]
          show Gl _ _ _ _ (s₁.setTop (mkF m 9 #[.val (.ref b1), .val (.ref b2), .val (.int (Int32.ofNat (i + 1)))] []))
          exact ih (i + 1) (by omega) (take_more hib hic ht h21)
        · skip
          refine Gl.go (fun _ k => XS.icmpNo X0.here hx rfl (hb hby d35_21) rfl (feq h21).1 k) ?_
          show Gl _ _ _ _ (s₁.setTop (mkF m 24 #[.val (.ref b1), .val (.ref b2), .val (.int (Int32.ofNat i))] []))
          refine Gl.go (fun _ k => XS.iconst X0.here hx rfl (hb hby d35_24) k) ?_
          show Gl _ _ _ _ (s₁.setTop (mkF m 25 #[.val (.ref b1), .val (.ref b2), .val (.int (Int32.ofNat i))] [(.int (0 : Int32))]))
          refine leafN X0 hx hlk (t := .boolean) Bd.returns (by simp) (hb hby d35_25) ?_ (by decide) (by decide)
          exact ⟨by rw [nar0, eqI_no (fun q => h21 (by rw [q]))], N0, e0⟩
    exact loop bs.length 0 (by omega) rfl
  · skip
    refine Gl.go (fun _ k => XS.icmpYes X0.here hx rfl (pc0 := 4) (pc' := 34) rfl (hb hby d35_4) rfl (feq h4).2 (by decide) (by decide) k) ?_
    show Gl _ _ _ _ (s₁.setTop (mkF m 34 #[.val (.ref b1), .val (.ref b2), .unset] []))
    refine Gl.go (fun _ k => XS.iconst X0.here hx rfl (hb hby d35_34) k) ?_
    show Gl _ _ _ _ (s₁.setTop (mkF m 35 #[.val (.ref b1), .val (.ref b2), .unset] [(.int (0 : Int32))]))
    refine leafN X0 hx hlk (t := .boolean) Bd.returns (by simp) (hb hby d35_35) ?_ (by decide) (by decide)
    exact ⟨by rw [nar0, eqI_no (fun q => h4 (by rw [q]))], N0, e0⟩
def Q_seq (Z : State) (a1 a2 : Addr) (bs cs : List Int32) (G1 : Int32) (h0 : Heap) (n0 : Nat) (v : Option Value) (h : Heap) (L : List Loc) : Prop := v = some (.int (eqI bs cs)) ∧ Fr n0 L ∧ h = h0
set_option maxRecDepth 65536 in
set_option maxHeartbeats 40000000 in
theorem rm_seq (l : Launch) (Z : State) (a0 : Array Value) (hw : ∀ d ∈ tables_1, d.before a0 Z = true) (ws : List Jvm.Cond) (a1 a2 : Addr) (bs cs : List Int32) (G1 : Int32) (h0 : Heap) (n0 : Nat) (Z0 : n0 ≤ h0.size) (S1 : StrAt Z h0 a1 bs) (S2 : StrAt Z h0 a2 cs) (SC : Sta Z h0 "java/lang/String" "COMPACT_STRINGS" "Z" (.int G1)) (P5 : ¬ (G1 = (0 : Int32))) :
    MetFree l (⟨"java/lang/String", "equals", "(Ljava/lang/Object;)Z"⟩ : MethodName) (head1 (Jvm.Cond.code (⟨"java/lang/String", "equals", "(Ljava/lang/Object;)Z"⟩ : MethodName) jdk_42_method_66_code 3 (some .boolean) :: ws) ({ frames := 1, cells := 0, slots := 0, locals := 14 } : Room)) (fun aa U => aa = #[(.ref a1), (.ref a2)] ∧ Z.Warmed39 U.vm ∧ U.heap = h0) (fun _ _ _ _ _ => True) (fun _ U o U' => ∃ v L, o = .returned v ∧ Q_seq Z a1 a2 bs cs G1 h0 n0 v U'.heap L ∧ FrameEnd U o U' L ({ frames := 1, cells := 0, slots := 0, locals := 14 } : Room).cells ({ frames := 1, cells := 0, slots := 0, locals := 14 } : Room).slots) := by
  refine MetFree.of_bodySF (plainFor_of_name pn_1) hisR ?_
  intro p e s m args below meth c s₁ Bd hml0 hP hK
  obtain ⟨rfl, hZ, hh⟩ := hP
  have hx := Bd.exec
  have hby := Bd.bytes
  have hml : c.maxLocals = 3 := hml0
  have hown : s.vm.findClass "java/lang/String" = some m.cls := findClass_of_methodNamed Bd.named
  have hnm := (name_of_methodNamed Bd.named Bd.method).1
  have hlk : meth.locks = false := BodyLoose.notSynchronized Bd
  have X0 : Stand p l e ({ frames := 1, cells := 0, slots := 0, locals := 14 } : Room) s m #[(.ref a1), (.ref a2)] below meth c s₁ [] 0 0 := Stand.of_body Bd
  have e0 : s₁.heap = h0 := by rw [← hh, Bd.state]; rfl
  have N0 := Fr.nil n0
  have K0 : Keep h0 h0 [] := Keep.refl _ _
  show Gl p.tables e below (QQof s (Q_seq Z a1 a2 bs cs G1 h0 n0) 0 0) (s₁.setTop (entryFrame m #[(.ref a1), (.ref a2)] 3))
  refine Gl.go (fun t k => castTop (ef_seq m a1 a2) k) ?_
  show Gl _ _ _ _ (s₁.setTop (mkF m 0 #[.val (.ref a1), .val (.ref a2), .unset] []))
  have S1' := S1
  have S2' := S2
  obtain ⟨E1, C1, l1, b1, k1, V1, K1⟩ := S1'
  obtain ⟨E2, C2, l2, b2, k2, V2, K2⟩ := S2'
  refine Gl.go (fun _ k => XS.aloadN X0.here hx rfl (hb hby d10_0) rfl rfl  k) ?_
  show Gl _ _ _ _ (s₁.setTop (mkF m 1 #[.val (.ref a1), .val (.ref a2), .unset] [(.ref a1)]))
  refine Gl.go (fun _ k => XS.aloadN X0.here hx rfl (hb hby d10_1) rfl rfl  k) ?_
  show Gl _ _ _ _ (s₁.setTop (mkF m 2 #[.val (.ref a1), .val (.ref a2), .unset] [(.ref a2), (.ref a1)]))
  by_cases h2 : a1 = a2
  · skip
    refine Gl.go (fun _ k => Jvm.RoadKit.acmp (g := (mkF m 2 #[.val (.ref a1), .val (.ref a2), .unset] [(.ref a2), (.ref a1)])) X0 hx rfl rfl rfl (pc0 := 2) (pc' := 5) (same := true) rfl (hb hby d10_2) rfl (decide_eq_true (congrArg Value.ref h2)) (by decide) (by decide) k) ?_
    show Gl _ _ _ _ (s₁.setTop (mkF m 5 #[.val (.ref a1), .val (.ref a2), .unset] []))
    refine Gl.go (fun _ k => XS.iconst X0.here hx rfl (hb hby d10_5) k) ?_
    show Gl _ _ _ _ (s₁.setTop (mkF m 6 #[.val (.ref a1), .val (.ref a2), .unset] [(.int (1 : Int32))]))
    refine leafN X0 hx hlk (t := .boolean) Bd.returns (by simp) (hb hby d10_6) ?_ (by decide) (by decide)
    subst h2
    exact ⟨by rw [nar1, eqI_yes (StrAt.inj S1 S2)], N0, e0⟩
  · skip
    refine Gl.go (fun _ k => Jvm.RoadKit.acmp (g := (mkF m 2 #[.val (.ref a1), .val (.ref a2), .unset] [(.ref a2), (.ref a1)])) X0 hx rfl rfl rfl (pc0 := 2) (pc' := 7) (same := false) rfl (hb hby d10_2) rfl (decide_eq_false fun q => h2 (Value.ref.inj q)) (by decide) (by decide) k) ?_
    show Gl _ _ _ _ (s₁.setTop (mkF m 7 #[.val (.ref a1), .val (.ref a2), .unset] []))
    refine Gl.go (fun _ k => XS.aloadN X0.here hx rfl (hb hby d10_7) rfl rfl  k) ?_
    show Gl _ _ _ _ (s₁.setTop (mkF m 8 #[.val (.ref a1), .val (.ref a2), .unset] [(.ref a2)]))
    obtain ⟨T1, X1, e1, st1⟩ := instY X0 hx hZ hown (hw _ (List.mem_of_getElem? (i := 188) rfl)) e0 (Ins.self E2) (g := (mkF m 8 #[.val (.ref a1), .val (.ref a2), .unset] [(.ref a2)])) rfl rfl (hb hby d10_8)
    refine Gl.go (fun _ k => st1 _ k) ?_
    show Gl _ _ _ _ (T1.setTop (mkF m 11 #[.val (.ref a1), .val (.ref a2), .unset] [(.int (1 : Int32))]))
    refine Gl.go (fun _ k => XS.ifNo X1.here hx rfl (hb hby d10_11) rfl ((if0 _ _).trans (feq (by decide)).1) k) ?_
    show Gl _ _ _ _ (T1.setTop (mkF m 14 #[.val (.ref a1), .val (.ref a2), .unset] []))
    refine Gl.go (fun _ k => XS.aloadN X1.here hx rfl (hb hby d10_14) rfl rfl  k) ?_
    show Gl _ _ _ _ (T1.setTop (mkF m 15 #[.val (.ref a1), .val (.ref a2), .unset] [(.ref a2)]))
    obtain ⟨T2, X2, e2, st2⟩ := castY X1 hx hZ hown (hw _ (List.mem_of_getElem? (i := 188) rfl)) e1 (Ins.self E2) (g := (mkF m 15 #[.val (.ref a1), .val (.ref a2), .unset] [(.ref a2)])) rfl rfl (hb hby d10_15)
    refine Gl.go (fun _ k => st2 _ k) ?_
    show Gl _ _ _ _ (T2.setTop (mkF m 18 #[.val (.ref a1), .val (.ref a2), .unset] [(.ref a2)]))
    refine Gl.go (fun _ k => XS.astoreN X2.here hx rfl (hb hby d10_18) rfl rfl (l' := #[.val (.ref a1), .val (.ref a2), .val (.ref a2)]) rfl k) ?_
    show Gl _ _ _ _ (T2.setTop (mkF m 19 #[.val (.ref a1), .val (.ref a2), .val (.ref a2)] []))
    obtain ⟨T3, X3, e3, st3⟩ := getS2 X2 hx hZ hown (host := "") (Or.inl (hw _ (List.mem_of_getElem? (i := 14) rfl))) Via.refl e2 SC (g := (mkF m 19 #[.val (.ref a1), .val (.ref a2), .val (.ref a2)] [])) rfl (hb hby d10_19)
    refine Gl.go (fun _ k => st3 _ k) ?_
    show Gl _ _ _ _ (T3.setTop (mkF m 22 #[.val (.ref a1), .val (.ref a2), .val (.ref a2)] [(.int G1)]))
    refine Gl.go (fun _ k => XS.ifNo X3.here hx rfl (hb hby d10_22) rfl ((if0 _ _).trans (feq P5).1) k) ?_
    show Gl _ _ _ _ (T3.setTop (mkF m 25 #[.val (.ref a1), .val (.ref a2), .val (.ref a2)] []))
    refine Gl.go (fun _ k => XS.aloadN X3.here hx rfl (hb hby d10_25) rfl rfl  k) ?_
    show Gl _ _ _ _ (T3.setTop (mkF m 26 #[.val (.ref a1), .val (.ref a2), .val (.ref a2)] [(.ref a1)]))
    obtain ⟨T4, X4, e4, st4⟩ := getF X3 hx hZ hown (host := "") (Or.inl (hw _ (List.mem_of_getElem? (i := 26) rfl))) Via.refl e3 C1 (g := (mkF m 26 #[.val (.ref a1), .val (.ref a2), .val (.ref a2)] [(.ref a1)])) rfl rfl (hb hby d10_26)
    refine Gl.go (fun _ k => st4 _ k) ?_
    show Gl _ _ _ _ (T4.setTop (mkF m 29 #[.val (.ref a1), .val (.ref a2), .val (.ref a2)] [(.int (0 : Int32))]))
    refine Gl.go (fun _ k => XS.aloadN X4.here hx rfl (hb hby d10_29) rfl rfl  k) ?_
    show Gl _ _ _ _ (T4.setTop (mkF m 30 #[.val (.ref a1), .val (.ref a2), .val (.ref a2)] [(.ref a2), (.int (0 : Int32))]))
    obtain ⟨T5, X5, e5, st5⟩ := getF X4 hx hZ hown (host := "") (Or.inl (hw _ (List.mem_of_getElem? (i := 26) rfl))) Via.refl e4 C2 (g := (mkF m 30 #[.val (.ref a1), .val (.ref a2), .val (.ref a2)] [(.ref a2), (.int (0 : Int32))])) rfl rfl (hb hby d10_30)
    refine Gl.go (fun _ k => st5 _ k) ?_
    show Gl _ _ _ _ (T5.setTop (mkF m 33 #[.val (.ref a1), .val (.ref a2), .val (.ref a2)] [(.int (0 : Int32)), (.int (0 : Int32))]))
    refine Gl.go (fun _ k => XS.icmpNo X5.here hx rfl (hb hby d10_33) rfl (teq rfl).2 k) ?_
    show Gl _ _ _ _ (T5.setTop (mkF m 36 #[.val (.ref a1), .val (.ref a2), .val (.ref a2)] []))
    refine Gl.go (fun _ k => XS.aloadN X5.here hx rfl (hb hby d10_36) rfl rfl  k) ?_
    show Gl _ _ _ _ (T5.setTop (mkF m 37 #[.val (.ref a1), .val (.ref a2), .val (.ref a2)] [(.ref a1)]))
    obtain ⟨T6, X6, e6, st6⟩ := getF X5 hx hZ hown (host := "") (Or.inl (hw _ (List.mem_of_getElem? (i := 28) rfl))) Via.refl e5 V1 (g := (mkF m 37 #[.val (.ref a1), .val (.ref a2), .val (.ref a2)] [(.ref a1)])) rfl rfl (hb hby d10_37)
    refine Gl.go (fun _ k => st6 _ k) ?_
    show Gl _ _ _ _ (T6.setTop (mkF m 40 #[.val (.ref a1), .val (.ref a2), .val (.ref a2)] [(.ref b1)]))
    refine Gl.go (fun _ k => XS.aloadN X6.here hx rfl (hb hby d10_40) rfl rfl  k) ?_
    show Gl _ _ _ _ (T6.setTop (mkF m 41 #[.val (.ref a1), .val (.ref a2), .val (.ref a2)] [(.ref a2), (.ref b1)]))
    obtain ⟨T7, X7, e7, st7⟩ := getF X6 hx hZ hown (host := "") (Or.inl (hw _ (List.mem_of_getElem? (i := 28) rfl))) Via.refl e6 V2 (g := (mkF m 41 #[.val (.ref a1), .val (.ref a2), .val (.ref a2)] [(.ref a2), (.ref b1)])) rfl rfl (hb hby d10_41)
    refine Gl.go (fun _ k => st7 _ k) ?_
    show Gl _ _ _ _ (T7.setTop (mkF m 44 #[.val (.ref a1), .val (.ref a2), .val (.ref a2)] [(.ref b2), (.ref b1)]))
    obtain ⟨_, _, ⟨T8, L8, k8, n8⟩, -, X8, ⟨Lc8, hQ8, l8, y8, z8⟩, st8⟩ := Jvm.LawKit.callS X7 hx (y := (⟨"java/lang/StringLatin1", "equals", "([B[B)Z"⟩ : MethodName)) hown (mvT hZ (hw _ (List.mem_of_getElem? (i := 189) rfl))) (mvT hZ (hw _ (List.mem_of_getElem? (i := 190) rfl))) (mvT hZ (hw _ (List.mem_of_getElem? (i := 191) rfl))) (mvT hZ (hw _ (List.mem_of_getElem? (i := 192) rfl))) (by decide) (backOf (W := 0) (rm_leq l Z a0 hw [] b1 b2 k1 k2 bs cs h0 n0 Z0 K1 l1 K2 l2) hZ (hw _ (List.mem_of_getElem? (i := 192) rfl)) (hw _ (List.mem_of_getElem? (i := 191) rfl)) (by decide) (by decide)) (g := (mkF m 44 #[.val (.ref a1), .val (.ref a2), .val (.ref a2)] [(.ref b2), (.ref b1)])) rfl (by rw [hml]; rfl) (argsL := [(.ref b1), (.ref b2)]) (rest := []) (lenOf pd_0 rfl) rfl (by show 2 * 0 + _ ≤ _; exact Nat.le_of_eq rfl) (hb hby d10_44) (fun _ _ => ⟨rfl, e7, (by decide : 0 + 0 ≤ _), (by decide : 0 + 0 ≤ _)⟩)
    dsimp only [Pt.U, Pt.locs, Pt.cells, Pt.slots] at X8 l8 y8 z8 st8 hQ8
    subst y8 z8
    obtain ⟨rfl, Nq8, e8⟩ := hQ8
    have N8 : Fr n0 L8 := by rw [l8]; exact Fr.app N0 Nq8
    refine Gl.go (fun _ k => st8 _ k) ?_
    show Gl _ _ _ _ (T8.setTop (mkF m 47 #[.val (.ref a1), .val (.ref a2), .val (.ref a2)] [(.int (eqI bs cs))]))
    by_cases h47 : (eqI bs cs) = (0 : Int32)
    · skip
      refine Gl.go (fun _ k => XS.ifYes X8.here hx rfl (pc0 := 47) (pc' := 54) rfl (hb hby d10_47) rfl ((if0 _ _).trans (teq h47).1) (by decide) (by decide) k) ?_
      show Gl _ _ _ _ (T8.setTop (mkF m 54 #[.val (.ref a1), .val (.ref a2), .val (.ref a2)] []))
      refine Gl.go (fun _ k => XS.iconst X8.here hx rfl (hb hby d10_54) k) ?_
      show Gl _ _ _ _ (T8.setTop (mkF m 55 #[.val (.ref a1), .val (.ref a2), .val (.ref a2)] [(.int (0 : Int32))]))
      refine leafN X8 hx hlk (t := .boolean) Bd.returns (by simp) (hb hby d10_55) ?_ (by decide) (by decide)
      exact ⟨by rw [nar0, h47], N8, e8⟩
    · skip
      refine Gl.go (fun _ k => XS.ifNo X8.here hx rfl (hb hby d10_47) rfl ((if0 _ _).trans (feq h47).1) k) ?_
      show Gl _ _ _ _ (T8.setTop (mkF m 50 #[.val (.ref a1), .val (.ref a2), .val (.ref a2)] []))
      refine Gl.go (fun _ k => XS.iconst X8.here hx rfl (hb hby d10_50) k) ?_
      show Gl _ _ _ _ (T8.setTop (mkF m 51 #[.val (.ref a1), .val (.ref a2), .val (.ref a2)] [(.int (1 : Int32))]))
      refine Gl.go (fun _ k => XS.goto X8.here hx rfl (pc0 := 51) (pc' := 55) rfl (hb hby d10_51) (by decide) (by decide) k) ?_
      show Gl _ _ _ _ (T8.setTop (mkF m 55 #[.val (.ref a1), .val (.ref a2), .val (.ref a2)] [(.int (1 : Int32))]))
      refine leafN X8 hx hlk (t := .boolean) Bd.returns (by simp) (hb hby d10_55) ?_ (by decide) (by decide)
      exact ⟨by rw [nar1, eqI_one h47], N8, e8⟩
def Q_cod (Z : State) (x1 : Addr) (cs : List Int32) (G1 : Int32) (h0 : Heap) (n0 : Nat) (v : Option Value) (h : Heap) (L : List Loc) : Prop := v = some (.int (0 : Int32)) ∧ Fr n0 L ∧ h = h0
set_option maxRecDepth 65536 in
set_option maxHeartbeats 40000000 in
theorem rm_cod (l : Launch) (Z : State) (a0 : Array Value) (hw : ∀ d ∈ tables_1, d.before a0 Z = true) (ws : List Jvm.Cond) (x1 : Addr) (cs : List Int32) (G1 : Int32) (h0 : Heap) (n0 : Nat) (Z0 : n0 ≤ h0.size) (Sx : StrAt Z h0 x1 cs) (SC : Sta Z h0 "java/lang/String" "COMPACT_STRINGS" "Z" (.int G1)) (P5 : ¬ (G1 = (0 : Int32))) :
    MetFree l (⟨"java/lang/String", "coder", "()B"⟩ : MethodName) (head1 (Jvm.Cond.code (⟨"java/lang/String", "coder", "()B"⟩ : MethodName) jdk_42_method_152_code 1 (some .byte) :: ws) ({ frames := 0, cells := 0, slots := 0, locals := 0 } : Room)) (fun aa U => aa = #[(.ref x1)] ∧ Z.Warmed39 U.vm ∧ U.heap = h0) (fun _ _ _ _ _ => True) (fun _ U o U' => ∃ v L, o = .returned v ∧ Q_cod Z x1 cs G1 h0 n0 v U'.heap L ∧ FrameEnd U o U' L ({ frames := 0, cells := 0, slots := 0, locals := 0 } : Room).cells ({ frames := 0, cells := 0, slots := 0, locals := 0 } : Room).slots) := by
  refine MetFree.of_bodySF (plainFor_of_name pn_1) hisR ?_
  intro p e s m args below meth c s₁ Bd hml0 hP hK
  obtain ⟨rfl, hZ, hh⟩ := hP
  have hx := Bd.exec
  have hby := Bd.bytes
  have hml : c.maxLocals = 1 := hml0
  have hown : s.vm.findClass "java/lang/String" = some m.cls := findClass_of_methodNamed Bd.named
  have hnm := (name_of_methodNamed Bd.named Bd.method).1
  have hlk : meth.locks = false := BodyLoose.notSynchronized Bd
  have X0 : Stand p l e ({ frames := 0, cells := 0, slots := 0, locals := 0 } : Room) s m #[(.ref x1)] below meth c s₁ [] 0 0 := Stand.of_body Bd
  have e0 : s₁.heap = h0 := by rw [← hh, Bd.state]; rfl
  have N0 := Fr.nil n0
  have K0 : Keep h0 h0 [] := Keep.refl _ _
  show Gl p.tables e below (QQof s (Q_cod Z x1 cs G1 h0 n0) 0 0) (s₁.setTop (entryFrame m #[(.ref x1)] 1))
  refine Gl.go (fun t k => castTop (ef_cod m x1) k) ?_
  show Gl _ _ _ _ (s₁.setTop (mkF m 0 #[.val (.ref x1)] []))
  obtain ⟨Ex, Cx, lx, tb, kt, Vx, Kx⟩ := id Sx
  obtain ⟨T1, X1, e1, st1⟩ := getS2 X0 hx hZ hown (host := "") (Or.inl (hw _ (List.mem_of_getElem? (i := 14) rfl))) Via.refl e0 SC (g := (mkF m 0 #[.val (.ref x1)] [])) rfl (hb hby d19_0)
  refine Gl.go (fun _ k => st1 _ k) ?_
  show Gl _ _ _ _ (T1.setTop (mkF m 3 #[.val (.ref x1)] [(.int G1)]))
  refine Gl.go (fun _ k => XS.ifNo X1.here hx rfl (hb hby d19_3) rfl ((if0 _ _).trans (feq P5).1) k) ?_
  show Gl _ _ _ _ (T1.setTop (mkF m 6 #[.val (.ref x1)] []))
  refine Gl.go (fun _ k => XS.aloadN X1.here hx rfl (hb hby d19_6) rfl rfl  k) ?_
  show Gl _ _ _ _ (T1.setTop (mkF m 7 #[.val (.ref x1)] [(.ref x1)]))
  obtain ⟨T2, X2, e2, st2⟩ := getF X1 hx hZ hown (host := "") (Or.inl (hw _ (List.mem_of_getElem? (i := 26) rfl))) Via.refl e1 Cx (g := (mkF m 7 #[.val (.ref x1)] [(.ref x1)])) rfl rfl (hb hby d19_7)
  refine Gl.go (fun _ k => st2 _ k) ?_
  show Gl _ _ _ _ (T2.setTop (mkF m 10 #[.val (.ref x1)] [(.int (0 : Int32))]))
  refine Gl.go (fun _ k => XS.goto X2.here hx rfl (pc0 := 10) (pc' := 14) rfl (hb hby d19_10) (by decide) (by decide) k) ?_
  show Gl _ _ _ _ (T2.setTop (mkF m 14 #[.val (.ref x1)] [(.int (0 : Int32))]))
  refine leafN X2 hx hlk (t := .byte) Bd.returns (by simp) (hb hby d19_14) ?_ (by decide) (by decide)
  exact ⟨by rw [own_nar0], N0, e2⟩
def Q_len (Z : State) (x1 : Addr) (cs : List Int32) (G1 : Int32) (h0 : Heap) (n0 : Nat) (v : Option Value) (h : Heap) (L : List Loc) : Prop := v = some (.int (Int32.ofNat cs.length)) ∧ Fr n0 L ∧ h = h0
set_option maxRecDepth 65536 in
set_option maxHeartbeats 40000000 in
theorem rm_len (l : Launch) (Z : State) (a0 : Array Value) (hw : ∀ d ∈ tables_1, d.before a0 Z = true) (ws : List Jvm.Cond) (x1 : Addr) (cs : List Int32) (G1 : Int32) (h0 : Heap) (n0 : Nat) (Z0 : n0 ≤ h0.size) (Sx : StrAt Z h0 x1 cs) (SC : Sta Z h0 "java/lang/String" "COMPACT_STRINGS" "Z" (.int G1)) (P5 : ¬ (G1 = (0 : Int32))) :
    MetFree l (⟨"java/lang/String", "length", "()I"⟩ : MethodName) (head1 (Jvm.Cond.code (⟨"java/lang/String", "length", "()I"⟩ : MethodName) jdk_42_method_54_code 1 (some .int) :: ws) ({ frames := 1, cells := 0, slots := 0, locals := 13 } : Room)) (fun aa U => aa = #[(.ref x1)] ∧ Z.Warmed39 U.vm ∧ U.heap = h0) (fun _ _ _ _ _ => True) (fun _ U o U' => ∃ v L, o = .returned v ∧ Q_len Z x1 cs G1 h0 n0 v U'.heap L ∧ FrameEnd U o U' L ({ frames := 1, cells := 0, slots := 0, locals := 13 } : Room).cells ({ frames := 1, cells := 0, slots := 0, locals := 13 } : Room).slots) := by
  refine MetFree.of_bodySF (plainFor_of_name pn_1) hisR ?_
  intro p e s m args below meth c s₁ Bd hml0 hP hK
  obtain ⟨rfl, hZ, hh⟩ := hP
  have hx := Bd.exec
  have hby := Bd.bytes
  have hml : c.maxLocals = 1 := hml0
  have hown : s.vm.findClass "java/lang/String" = some m.cls := findClass_of_methodNamed Bd.named
  have hnm := (name_of_methodNamed Bd.named Bd.method).1
  have hlk : meth.locks = false := BodyLoose.notSynchronized Bd
  have X0 : Stand p l e ({ frames := 1, cells := 0, slots := 0, locals := 13 } : Room) s m #[(.ref x1)] below meth c s₁ [] 0 0 := Stand.of_body Bd
  have e0 : s₁.heap = h0 := by rw [← hh, Bd.state]; rfl
  have N0 := Fr.nil n0
  have K0 : Keep h0 h0 [] := Keep.refl _ _
  show Gl p.tables e below (QQof s (Q_len Z x1 cs G1 h0 n0) 0 0) (s₁.setTop (entryFrame m #[(.ref x1)] 1))
  refine Gl.go (fun t k => castTop (ef_len m x1) k) ?_
  show Gl _ _ _ _ (s₁.setTop (mkF m 0 #[.val (.ref x1)] []))
  obtain ⟨Ex, Cx, lx, tb, kt, Vx, Kx⟩ := id Sx
  refine Gl.go (fun _ k => XS.aloadN X0.here hx rfl (hb hby d18_0) rfl rfl  k) ?_
  show Gl _ _ _ _ (s₁.setTop (mkF m 1 #[.val (.ref x1)] [(.ref x1)]))
  obtain ⟨T1, X1, e1, st1⟩ := getF X0 hx hZ hown (host := "") (Or.inl (hw _ (List.mem_of_getElem? (i := 28) rfl))) Via.refl e0 Vx (g := (mkF m 1 #[.val (.ref x1)] [(.ref x1)])) rfl rfl (hb hby d18_1)
  refine Gl.go (fun _ k => st1 _ k) ?_
  show Gl _ _ _ _ (T1.setTop (mkF m 4 #[.val (.ref x1)] [(.ref tb)]))
  obtain ⟨cl2, Ar2, qA2, SA2, NA2, HA2, GA2⟩ := id Kx
  refine Gl.go (fun _ k => X1.arraylength hx (by rw [e1]; exact Ar2.1) (State.isArrayOf_alike hZ.alike Ar2.2.1) (g := (mkF m 4 #[.val (.ref x1)] [(.ref tb)])) rfl rfl (hb hby d18_4) _ k) ?_
  rw [len_of SA2 NA2]
  show Gl _ _ _ _ (T1.setTop (mkF m 5 #[.val (.ref x1)] [(.int (Int32.ofNat cs.length))]))
  refine Gl.go (fun _ k => XS.aloadN X1.here hx rfl (hb hby d18_5) rfl rfl  k) ?_
  show Gl _ _ _ _ (T1.setTop (mkF m 6 #[.val (.ref x1)] [(.ref x1), (.int (Int32.ofNat cs.length))]))
  obtain ⟨cq3, kq3, q3a, q3b, q3c⟩ := isOf hZ e1 Ex
  obtain ⟨_, _, ⟨T3, L3, k3, n3⟩, -, X3, ⟨Lc3, hQ3, l3, y3, z3⟩, st3⟩ := X1.virtualBack hx (y := (⟨"java/lang/String", "coder", "()B"⟩ : MethodName)) (z := (⟨"java/lang/String", "coder", "()B"⟩ : MethodName)) hown (mvT hZ (hw _ (List.mem_of_getElem? (i := 108) rfl))) (mvT hZ (hw _ (List.mem_of_getElem? (i := 109) rfl))) (notFace_of_selects (args := #[]) (mvT hZ (hw _ (List.mem_of_getElem? (i := 111) rfl)))) (mvT hZ (hw _ (List.mem_of_getElem? (i := 111) rfl))) (mvT hZ (hw _ (List.mem_of_getElem? (i := 110) rfl))) (by decide) (backOf (W := 1) (rm_cod l Z a0 hw [] x1 cs G1 h0 n0 Z0 Sx SC P5) hZ (hw _ (List.mem_of_getElem? (i := 112) rfl)) (hw _ (List.mem_of_getElem? (i := 2) rfl)) (by decide) (by decide)) q3a q3c (g := (mkF m 6 #[.val (.ref x1)] [(.ref x1), (.int (Int32.ofNat cs.length))])) rfl (by rw [hml]; rfl) (Steps.refl _) (argsL := []) (rest := [(.int (Int32.ofNat cs.length))]) (lenOf pd_1 rfl) rfl (by show 2 * 0 + _ ≤ _; exact Nat.le_of_eq rfl) (hb hby d18_6) (fun _ _ => ⟨rfl, e1, (by decide : 0 + 0 ≤ _), (by decide : 0 + 0 ≤ _)⟩)
  dsimp only [Pt.U, Pt.locs, Pt.cells, Pt.slots] at X3 l3 y3 z3 st3 hQ3
  subst y3 z3
  obtain ⟨rfl, Nq3, e3⟩ := hQ3
  have N3 : Fr n0 L3 := by rw [l3]; exact Fr.app N0 Nq3
  refine Gl.go (fun _ k => st3.trans k) ?_
  show Gl _ _ _ _ (T3.setTop (mkF m 9 #[.val (.ref x1)] [(.int (0 : Int32)), (.int (Int32.ofNat cs.length))]))
  refine Gl.go (fun _ k => XS.ishr X3.here hx rfl (hb hby d18_9) rfl k) ?_
  show Gl _ _ _ _ (T3.setTop (mkF m 10 #[.val (.ref x1)] [(.int ((Int32.ofNat cs.length) >>> ((0 : Int32) &&& 31)))]))
  rw [(own_shr0 _ : ((Int32.ofNat cs.length) >>> ((0 : Int32) &&& 31)) = (Int32.ofNat cs.length))]
  show Gl _ _ _ _ (T3.setTop (mkF m 10 #[.val (.ref x1)] [(.int (Int32.ofNat cs.length))]))
  refine leafI X3 hx hlk Bd.returns (hb hby d18_10) ?_ (by decide) (by decide)
  exact ⟨rfl, N3, e3⟩
def Q_abi (Z : State) (a1 : Addr) (u_value u_coder : Value) (G1 : Int32) (h0 : Heap) (n0 : Nat) (v : Option Value) (h : Heap) (L : List Loc) : Prop := ∃ (bv : Addr) (k : ClassId), v = none ∧ Fr n0 L ∧ Keep h0 h [a1] ∧ h0.size ≤ bv ∧ BldAt Z h a1 bv k []
set_option maxRecDepth 65536 in
set_option maxHeartbeats 40000000 in
theorem rm_abi (l : Launch) (Z : State) (a0 : Array Value) (hw : ∀ d ∈ tables_1, d.before a0 Z = true) (ws : List Jvm.Cond) (a1 : Addr) (u_value u_coder : Value) (G1 : Int32) (h0 : Heap) (n0 : Nat) (Z0 : n0 ≤ h0.size) (E_a1 : Exa Z h0 a1 "java/lang/StringBuilder") (F_value : Fld Z h0 a1 "java/lang/AbstractStringBuilder" "value" "[B" u_value) (F_coder : Fld Z h0 a1 "java/lang/AbstractStringBuilder" "coder" "B" u_coder) (F_count : Fld Z h0 a1 "java/lang/AbstractStringBuilder" "count" "I" (.int (0 : Int32))) (g_a1 : n0 ≤ a1) (SC : Sta Z h0 "java/lang/String" "COMPACT_STRINGS" "Z" (.int G1)) (P5 : ¬ (G1 = (0 : Int32))) :
    MetFree l (⟨"java/lang/AbstractStringBuilder", "<init>", "(I)V"⟩ : MethodName) (head1 (Jvm.Cond.code (⟨"java/lang/AbstractStringBuilder", "<init>", "(I)V"⟩ : MethodName) jdk_68_method_2_code 2 none :: ws) ({ frames := 1, cells := 1, slots := 16, locals := 12 } : Room)) (fun aa U => aa = #[(.ref a1), (.int (16 : Int32))] ∧ Z.Warmed39 U.vm ∧ U.heap = h0) (fun _ _ _ _ _ => True) (fun _ U o U' => ∃ v L, o = .returned v ∧ Q_abi Z a1 u_value u_coder G1 h0 n0 v U'.heap L ∧ FrameEnd U o U' L ({ frames := 1, cells := 1, slots := 16, locals := 12 } : Room).cells ({ frames := 1, cells := 1, slots := 16, locals := 12 } : Room).slots) := by
  refine MetFree.of_bodySF (plainFor_of_name pn_2) hisR ?_
  intro p e s m args below meth c s₁ Bd hml0 hP hK
  obtain ⟨rfl, hZ, hh⟩ := hP
  have hx := Bd.exec
  have hby := Bd.bytes
  have hml : c.maxLocals = 2 := hml0
  have hown : s.vm.findClass "java/lang/AbstractStringBuilder" = some m.cls := findClass_of_methodNamed Bd.named
  have hnm := (name_of_methodNamed Bd.named Bd.method).1
  have hlk : meth.locks = false := BodyLoose.notSynchronized Bd
  have X0 : Stand p l e ({ frames := 1, cells := 1, slots := 16, locals := 12 } : Room) s m #[(.ref a1), (.int (16 : Int32))] below meth c s₁ [] 0 0 := Stand.of_body Bd
  have e0 : s₁.heap = h0 := by rw [← hh, Bd.state]; rfl
  have N0 := Fr.nil n0
  have K0 : Keep h0 h0 [a1] := Keep.refl _ _
  show Gl p.tables e below (QQof s (Q_abi Z a1 u_value u_coder G1 h0 n0) 1 16) (s₁.setTop (entryFrame m #[(.ref a1), (.int (16 : Int32))] 2))
  refine Gl.go (fun t k => castTop (ef_abi m a1 (16 : Int32)) k) ?_
  show Gl _ _ _ _ (s₁.setTop (mkF m 0 #[.val (.ref a1), .val (.int (16 : Int32))] []))
  refine Gl.go (fun _ k => XS.aloadN X0.here hx rfl (hb hby d15_0) rfl rfl  k) ?_
  show Gl _ _ _ _ (s₁.setTop (mkF m 1 #[.val (.ref a1), .val (.int (16 : Int32))] [(.ref a1)]))
  obtain ⟨T1, X1, e1, st1⟩ := initO X0 hx hZ hown (hw _ (List.mem_of_getElem? (i := 87) rfl)) (hw _ (List.mem_of_getElem? (i := 12) rfl)) (hw _ (List.mem_of_getElem? (i := 13) rfl)) e0 (g := (mkF m 1 #[.val (.ref a1), .val (.int (16 : Int32))] [(.ref a1)])) rfl (by rw [hml]; rfl) rfl (hb hby d15_1) (by decide) (W := 0) (by show 2 * 0 + _ ≤ _; exact Nat.le_of_eq rfl) (by decide)
  refine Gl.go (fun _ k => st1 _ k) ?_
  show Gl _ _ _ _ (T1.setTop (mkF m 4 #[.val (.ref a1), .val (.int (16 : Int32))] []))
  obtain ⟨T2, X2, e2, st2⟩ := getS2 X1 hx hZ hown (host := "") (Or.inl (hw _ (List.mem_of_getElem? (i := 88) rfl))) Via.refl e1 SC (g := (mkF m 4 #[.val (.ref a1), .val (.int (16 : Int32))] [])) rfl (hb hby d15_4)
  refine Gl.go (fun _ k => st2 _ k) ?_
  show Gl _ _ _ _ (T2.setTop (mkF m 7 #[.val (.ref a1), .val (.int (16 : Int32))] [(.int G1)]))
  refine Gl.go (fun _ k => XS.ifNo X2.here hx rfl (hb hby d15_7) rfl ((if0 _ _).trans (feq P5).1) k) ?_
  show Gl _ _ _ _ (T2.setTop (mkF m 10 #[.val (.ref a1), .val (.int (16 : Int32))] []))
  refine Gl.go (fun _ k => XS.aloadN X2.here hx rfl (hb hby d15_10) rfl rfl  k) ?_
  show Gl _ _ _ _ (T2.setTop (mkF m 11 #[.val (.ref a1), .val (.int (16 : Int32))] [(.ref a1)]))
  refine Gl.go (fun _ k => XS.iloadN X2.here hx rfl (hb hby d15_11) rfl  k) ?_
  show Gl _ _ _ _ (T2.setTop (mkF m 12 #[.val (.ref a1), .val (.int (16 : Int32))] [(.int (16 : Int32)), (.ref a1)]))
  obtain ⟨T3, h3, cA3, X3, e3, E3, A3, st3⟩ := newP X2 hx hZ (hw _ (List.mem_of_getElem? (i := 19) rfl)) e2 (g := (mkF m 12 #[.val (.ref a1), .val (.int (16 : Int32))] [(.int (16 : Int32)), (.ref a1)])) rfl (hb hby d15_12) rfl (by decide) (cap := 16) (by decide) (by decide) (by decide) (by decide)
  obtain ⟨b3, g3⟩ : ∃ z, z = h0.size := ⟨_, rfl⟩
  rw [← g3] at A3 st3
  have g_b3 : n0 ≤ b3 := Nat.le_trans Z0 (Nat.le_of_eq g3.symm)
  have sz_b3 : h0.size ≤ b3 := Nat.le_trans K0.1 (Nat.le_of_eq g3.symm)
  have ne_a1_b3 : a1 ≠ b3 := Nat.ne_of_lt (Nat.lt_of_lt_of_le E_a1.lt (Nat.le_of_eq g3.symm))
  have E_a1_3 : Exa Z h3 a1 "java/lang/StringBuilder" := E_a1.ext E3
  have F_a1_value_3 : Fld Z h3 a1 "java/lang/AbstractStringBuilder" "value" "[B" u_value := F_value.ext E3
  have F_a1_coder_3 : Fld Z h3 a1 "java/lang/AbstractStringBuilder" "coder" "B" u_coder := F_coder.ext E3
  have F_a1_count_3 : Fld Z h3 a1 "java/lang/AbstractStringBuilder" "count" "I" (.int (0 : Int32)) := F_count.ext E3
  have SZ3 : n0 ≤ h3.size := Nat.le_trans Z0 E3.1
  have K3 : Keep h0 h3 [a1] := K0.ext E3
  have V_b3_3 : Arv Z h3 b3 cA3 .byte (16 : Int32) [] (.int (0 : Int32)) := (Arv.new A3 (by decide)).pad (pad_rep [] _ 0)
  refine Gl.go (fun _ k => st3 _ k) ?_
  show Gl _ _ _ _ (T3.setTop (mkF m 14 #[.val (.ref a1), .val (.int (16 : Int32))] [(.ref b3), (.ref a1)]))
  obtain ⟨T4, h4, X4, e4, W4, st4⟩ := putF X3 hx hZ hown (host := "") (Or.inl (hw _ (List.mem_of_getElem? (i := 89) rfl))) Via.refl e3 F_a1_value_3 E_a1_3 (Or.inl (hw _ (List.mem_of_getElem? (i := 90) rfl))) (hw _ (List.mem_of_getElem? (i := 76) rfl)) (ty := (.array .byte)) (by decide) rfl rfl (g := (mkF m 14 #[.val (.ref a1), .val (.int (16 : Int32))] [(.ref b3), (.ref a1)])) rfl rfl (hb hby d15_14)
  have E_a1_4 : Exa Z h4 a1 "java/lang/StringBuilder" := E_a1_3.wr W4
  have F_a1_value_4 : Fld Z h4 a1 "java/lang/AbstractStringBuilder" "value" "[B" (.ref b3) := F_a1_value_3.same W4
  have F_a1_coder_4 : Fld Z h4 a1 "java/lang/AbstractStringBuilder" "coder" "B" u_coder := F_a1_coder_3.other W4 (Or.inr (slot_ne (t := .byte) (t' := (.array .byte)) (Or.inl (hw _ (List.mem_of_getElem? (i := 92) rfl))) (Or.inl (hw _ (List.mem_of_getElem? (i := 90) rfl))) (by decide) (by decide) (by decide)))
  have F_a1_count_4 : Fld Z h4 a1 "java/lang/AbstractStringBuilder" "count" "I" (.int (0 : Int32)) := F_a1_count_3.other W4 (Or.inr (slot_ne (t := .int) (t' := (.array .byte)) (Or.inl (hw _ (List.mem_of_getElem? (i := 114) rfl))) (Or.inl (hw _ (List.mem_of_getElem? (i := 90) rfl))) (by decide) (by decide) (by decide)))
  have V_b3_4 : Arv Z h4 b3 cA3 .byte (16 : Int32) [] (.int (0 : Int32)) := V_b3_3.other W4 (Ne.symm ne_a1_b3)
  have SZ4 : n0 ≤ h4.size := by rw [Wr.size W4]; exact SZ3
  have K4 : Keep h0 h4 [a1] := K3.wr W4 (Or.inl (List.mem_of_getElem? (i := 0) rfl))
  have N4 := Fr.snoc X4 N0 g_a1
  refine Gl.go (fun _ k => st4 _ k) ?_
  show Gl _ _ _ _ (T4.setTop (mkF m 17 #[.val (.ref a1), .val (.int (16 : Int32))] []))
  refine Gl.go (fun _ k => XS.aloadN X4.here hx rfl (hb hby d15_17) rfl rfl  k) ?_
  show Gl _ _ _ _ (T4.setTop (mkF m 18 #[.val (.ref a1), .val (.int (16 : Int32))] [(.ref a1)]))
  refine Gl.go (fun _ k => XS.iconst X4.here hx rfl (hb hby d15_18) k) ?_
  show Gl _ _ _ _ (T4.setTop (mkF m 19 #[.val (.ref a1), .val (.int (16 : Int32))] [(.int (0 : Int32)), (.ref a1)]))
  obtain ⟨T5, h5, X5, e5, W5, st5⟩ := putFN X4 hx hZ hown (hw _ (List.mem_of_getElem? (i := 91) rfl)) Via.refl e4 F_a1_coder_4 E_a1_4 (Or.inl (hw _ (List.mem_of_getElem? (i := 92) rfl))) (hw _ (List.mem_of_getElem? (i := 76) rfl)) (ty := .byte) (v' := (.int (nar .byte (0 : Int32)))) (by decide) rfl (fits_nar_byte _) (g := (mkF m 19 #[.val (.ref a1), .val (.int (16 : Int32))] [(.int (0 : Int32)), (.ref a1)])) rfl rfl (hb hby d15_19)
  have E_a1_5 : Exa Z h5 a1 "java/lang/StringBuilder" := E_a1_4.wr W5
  have F_a1_value_5 : Fld Z h5 a1 "java/lang/AbstractStringBuilder" "value" "[B" (.ref b3) := F_a1_value_4.other W5 (Or.inr (slot_ne (t := (.array .byte)) (t' := .byte) (Or.inl (hw _ (List.mem_of_getElem? (i := 90) rfl))) (Or.inl (hw _ (List.mem_of_getElem? (i := 92) rfl))) (by decide) (by decide) (by decide)))
  have F_a1_coder_5 : Fld Z h5 a1 "java/lang/AbstractStringBuilder" "coder" "B" (.int (nar .byte (0 : Int32))) := F_a1_coder_4.same W5
  have F_a1_count_5 : Fld Z h5 a1 "java/lang/AbstractStringBuilder" "count" "I" (.int (0 : Int32)) := F_a1_count_4.other W5 (Or.inr (slot_ne (t := .int) (t' := .byte) (Or.inl (hw _ (List.mem_of_getElem? (i := 114) rfl))) (Or.inl (hw _ (List.mem_of_getElem? (i := 92) rfl))) (by decide) (by decide) (by decide)))
  have V_b3_5 : Arv Z h5 b3 cA3 .byte (16 : Int32) [] (.int (0 : Int32)) := V_b3_4.other W5 (Ne.symm ne_a1_b3)
  have SZ5 : n0 ≤ h5.size := by rw [Wr.size W5]; exact SZ4
  have K5 : Keep h0 h5 [a1] := K4.wr W5 (Or.inl (List.mem_of_getElem? (i := 0) rfl))
  have N5 := Fr.snoc X5 N4 g_a1
  refine Gl.go (fun _ k => st5 _ k) ?_
  show Gl _ _ _ _ (T5.setTop (mkF m 22 #[.val (.ref a1), .val (.int (16 : Int32))] []))
  refine Gl.go (fun _ k => XS.goto X5.here hx rfl (pc0 := 22) (pc' := 38) rfl (hb hby d15_22) (by decide) (by decide) k) ?_
  show Gl _ _ _ _ (T5.setTop (mkF m 38 #[.val (.ref a1), .val (.int (16 : Int32))] []))
  refine leafV X5 hx hlk Bd.returns (hb hby d15_38) ?_ (by decide) (by decide)
  rw [e5]
  exact ⟨b3, cA3, rfl, N5, K5, sz_b3, E_a1_5, F_a1_value_5, by rw [← own_nar0]; exact F_a1_coder_5, F_a1_count_5, V_b3_5⟩
def Q_sbi (Z : State) (a1 : Addr) (u_value u_coder : Value) (G1 : Int32) (h0 : Heap) (n0 : Nat) (v : Option Value) (h : Heap) (L : List Loc) : Prop := ∃ (bv : Addr) (k : ClassId), v = none ∧ Fr n0 L ∧ Keep h0 h [a1] ∧ h0.size ≤ bv ∧ BldAt Z h a1 bv k []
set_option maxRecDepth 65536 in
set_option maxHeartbeats 40000000 in
theorem rm_sbi (l : Launch) (Z : State) (a0 : Array Value) (hw : ∀ d ∈ tables_1, d.before a0 Z = true) (ws : List Jvm.Cond) (a1 : Addr) (u_value u_coder : Value) (G1 : Int32) (h0 : Heap) (n0 : Nat) (Z0 : n0 ≤ h0.size) (E_a1 : Exa Z h0 a1 "java/lang/StringBuilder") (F_value : Fld Z h0 a1 "java/lang/AbstractStringBuilder" "value" "[B" u_value) (F_coder : Fld Z h0 a1 "java/lang/AbstractStringBuilder" "coder" "B" u_coder) (F_count : Fld Z h0 a1 "java/lang/AbstractStringBuilder" "count" "I" (.int (0 : Int32))) (g_a1 : n0 ≤ a1) (SC : Sta Z h0 "java/lang/String" "COMPACT_STRINGS" "Z" (.int G1)) (P5 : ¬ (G1 = (0 : Int32))) :
    MetFree l (⟨"java/lang/StringBuilder", "<init>", "()V"⟩ : MethodName) (head1 (Jvm.Cond.code (⟨"java/lang/StringBuilder", "<init>", "()V"⟩ : MethodName) jdk_67_method_1_code 1 none :: ws) ({ frames := 2, cells := 1, slots := 16, locals := 25 } : Room)) (fun aa U => aa = #[(.ref a1)] ∧ Z.Warmed39 U.vm ∧ U.heap = h0) (fun _ _ _ _ _ => True) (fun _ U o U' => ∃ v L, o = .returned v ∧ Q_sbi Z a1 u_value u_coder G1 h0 n0 v U'.heap L ∧ FrameEnd U o U' L ({ frames := 2, cells := 1, slots := 16, locals := 25 } : Room).cells ({ frames := 2, cells := 1, slots := 16, locals := 25 } : Room).slots) := by
  refine MetFree.of_bodySF (plainFor_of_name pn_3) hisR ?_
  intro p e s m args below meth c s₁ Bd hml0 hP hK
  obtain ⟨rfl, hZ, hh⟩ := hP
  have hx := Bd.exec
  have hby := Bd.bytes
  have hml : c.maxLocals = 1 := hml0
  have hown : s.vm.findClass "java/lang/StringBuilder" = some m.cls := findClass_of_methodNamed Bd.named
  have hnm := (name_of_methodNamed Bd.named Bd.method).1
  have hlk : meth.locks = false := BodyLoose.notSynchronized Bd
  have X0 : Stand p l e ({ frames := 2, cells := 1, slots := 16, locals := 25 } : Room) s m #[(.ref a1)] below meth c s₁ [] 0 0 := Stand.of_body Bd
  have e0 : s₁.heap = h0 := by rw [← hh, Bd.state]; rfl
  have N0 := Fr.nil n0
  have K0 : Keep h0 h0 [a1] := Keep.refl _ _
  show Gl p.tables e below (QQof s (Q_sbi Z a1 u_value u_coder G1 h0 n0) 1 16) (s₁.setTop (entryFrame m #[(.ref a1)] 1))
  refine Gl.go (fun t k => castTop (ef_sbi m a1) k) ?_
  show Gl _ _ _ _ (s₁.setTop (mkF m 0 #[.val (.ref a1)] []))
  refine Gl.go (fun _ k => XS.aloadN X0.here hx rfl (hb hby d14_0) rfl rfl  k) ?_
  show Gl _ _ _ _ (s₁.setTop (mkF m 1 #[.val (.ref a1)] [(.ref a1)]))
  refine Gl.go (fun _ k => XS.bipush X0.here hx rfl (hb hby d14_1) k) ?_
  show Gl _ _ _ _ (s₁.setTop (mkF m 3 #[.val (.ref a1)] [(.int (16 : Int32)), (.ref a1)]))
  obtain ⟨_, _, ⟨T1, L1, k1, n1⟩, -, X1, ⟨Lc1, hQ1, l1, y1, z1⟩, st1⟩ := X0.specialBack hx (y := (⟨"java/lang/AbstractStringBuilder", "<init>", "(I)V"⟩ : MethodName)) rfl hown (mvT hZ (hw _ (List.mem_of_getElem? (i := 81) rfl))) (mvT hZ (hw _ (List.mem_of_getElem? (i := 82) rfl))) (mvT hZ (hw _ (List.mem_of_getElem? (i := 86) rfl))) (by decide) (backOf (W := 0) (rm_abi l Z a0 hw [] a1 u_value u_coder G1 h0 n0 Z0 E_a1 F_value F_coder F_count g_a1 SC P5) hZ (hw _ (List.mem_of_getElem? (i := 86) rfl)) (hw _ (List.mem_of_getElem? (i := 85) rfl)) (by decide) (by decide)) (g := (mkF m 3 #[.val (.ref a1)] [(.int (16 : Int32)), (.ref a1)])) rfl (by rw [hml]; rfl) (Steps.refl _) (a := a1) (argsL := [(.int (16 : Int32))]) (rest := []) (lenOf pd_2 rfl) rfl (by show 2 * 0 + _ ≤ _; exact Nat.le_of_eq rfl) (hb hby d14_3) (fun _ _ => ⟨rfl, e0, (by decide : 0 + 1 ≤ _), (by decide : 0 + 16 ≤ _)⟩)
  dsimp only [Pt.U, Pt.locs, Pt.cells, Pt.slots] at X1 l1 y1 z1 st1 hQ1
  subst y1 z1
  obtain ⟨bv1, k1', rfl, Nq1, Kc1, gz1, Bc1⟩ := hQ1
  have N1 : Fr n0 L1 := by rw [l1]; exact Fr.app N0 Nq1
  refine Gl.go (fun _ k => st1.trans k) ?_
  have SZ1 : n0 ≤ T1.heap.size := Nat.le_trans Z0 Kc1.1
  have K1 : Keep h0 T1.heap [a1] := K0.trans Kc1 (allS (Or.inl (List.mem_of_getElem? (i := 0) rfl)) all0)
  show Gl _ _ _ _ (T1.setTop (mkF m 6 #[.val (.ref a1)] []))
  refine leafV X1 hx hlk Bd.returns (hb hby d14_6) ?_ (by decide) (by decide)
  exact ⟨bv1, k1', rfl, N1, K1, gz1, Bc1⟩
def Q_ens (Z : State) (a1 bv : Addr) (k : ClassId) (bs : List Int32) (q1 : Int32) (h0 : Heap) (n0 : Nat) (v : Option Value) (h : Heap) (L : List Loc) : Prop := v = none ∧ Fr n0 L ∧ h = h0
set_option maxRecDepth 65536 in
set_option maxHeartbeats 40000000 in
theorem rm_ens (l : Launch) (Z : State) (a0 : Array Value) (hw : ∀ d ∈ tables_1, d.before a0 Z = true) (ws : List Jvm.Cond) (a1 bv : Addr) (k : ClassId) (bs : List Int32) (q1 : Int32) (h0 : Heap) (n0 : Nat) (Z0 : n0 ≤ h0.size) (B1 : BldAt Z h0 a1 bv k bs) (hq : ¬ (0 : Int32) < (q1 - (16 : Int32))) :
    MetFree l (⟨"java/lang/AbstractStringBuilder", "ensureCapacityInternal", "(I)V"⟩ : MethodName) (head1 (Jvm.Cond.code (⟨"java/lang/AbstractStringBuilder", "ensureCapacityInternal", "(I)V"⟩ : MethodName) jdk_68_method_9_code 3 none :: ws) ({ frames := 0, cells := 0, slots := 0, locals := 0 } : Room)) (fun aa U => aa = #[(.ref a1), (.int q1)] ∧ Z.Warmed39 U.vm ∧ U.heap = h0) (fun _ _ _ _ _ => True) (fun _ U o U' => ∃ v L, o = .returned v ∧ Q_ens Z a1 bv k bs q1 h0 n0 v U'.heap L ∧ FrameEnd U o U' L ({ frames := 0, cells := 0, slots := 0, locals := 0 } : Room).cells ({ frames := 0, cells := 0, slots := 0, locals := 0 } : Room).slots) := by
  refine MetFree.of_bodySF (plainFor_of_name pn_2) hisR ?_
  intro p e s m args below meth c s₁ Bd hml0 hP hK
  obtain ⟨rfl, hZ, hh⟩ := hP
  have hx := Bd.exec
  have hby := Bd.bytes
  have hml : c.maxLocals = 3 := hml0
  have hown : s.vm.findClass "java/lang/AbstractStringBuilder" = some m.cls := findClass_of_methodNamed Bd.named
  have hnm := (name_of_methodNamed Bd.named Bd.method).1
  have hlk : meth.locks = false := BodyLoose.notSynchronized Bd
  have X0 : Stand p l e ({ frames := 0, cells := 0, slots := 0, locals := 0 } : Room) s m #[(.ref a1), (.int q1)] below meth c s₁ [] 0 0 := Stand.of_body Bd
  have e0 : s₁.heap = h0 := by rw [← hh, Bd.state]; rfl
  have N0 := Fr.nil n0
  have K0 : Keep h0 h0 [] := Keep.refl _ _
  show Gl p.tables e below (QQof s (Q_ens Z a1 bv k bs q1 h0 n0) 0 0) (s₁.setTop (entryFrame m #[(.ref a1), (.int q1)] 3))
  refine Gl.go (fun t k => castTop (ef_ens m a1 q1) k) ?_
  show Gl _ _ _ _ (s₁.setTop (mkF m 0 #[.val (.ref a1), .val (.int q1), .unset] []))
  obtain ⟨Eb, Vb, Cb, Nb, Ab⟩ := id B1
  refine Gl.go (fun _ k => XS.aloadN X0.here hx rfl (hb hby d20_0) rfl rfl  k) ?_
  show Gl _ _ _ _ (s₁.setTop (mkF m 1 #[.val (.ref a1), .val (.int q1), .unset] [(.ref a1)]))
  obtain ⟨T1, X1, e1, st1⟩ := getF X0 hx hZ hown (host := "") (Or.inl (hw _ (List.mem_of_getElem? (i := 89) rfl))) Via.refl e0 Vb (g := (mkF m 1 #[.val (.ref a1), .val (.int q1), .unset] [(.ref a1)])) rfl rfl (hb hby d20_1)
  refine Gl.go (fun _ k => st1 _ k) ?_
  show Gl _ _ _ _ (T1.setTop (mkF m 4 #[.val (.ref a1), .val (.int q1), .unset] [(.ref bv)]))
  obtain ⟨cl2, Ar2, qA2, SA2, NA2, HA2, GA2⟩ := id Ab
  refine Gl.go (fun _ k => X1.arraylength hx (by rw [e1]; exact Ar2.1) (State.isArrayOf_alike hZ.alike Ar2.2.1) (g := (mkF m 4 #[.val (.ref a1), .val (.int q1), .unset] [(.ref bv)])) rfl rfl (hb hby d20_4) _ k) ?_
  rw [len_of SA2 NA2]
  show Gl _ _ _ _ (T1.setTop (mkF m 5 #[.val (.ref a1), .val (.int q1), .unset] [(.int (16 : Int32))]))
  refine Gl.go (fun _ k => XS.aloadN X1.here hx rfl (hb hby d20_5) rfl rfl  k) ?_
  show Gl _ _ _ _ (T1.setTop (mkF m 6 #[.val (.ref a1), .val (.int q1), .unset] [(.ref a1), (.int (16 : Int32))]))
  obtain ⟨T3, X3, e3, st3⟩ := getF X1 hx hZ hown (host := "") (Or.inl (hw _ (List.mem_of_getElem? (i := 91) rfl))) Via.refl e1 Cb (g := (mkF m 6 #[.val (.ref a1), .val (.int q1), .unset] [(.ref a1), (.int (16 : Int32))])) rfl rfl (hb hby d20_6)
  refine Gl.go (fun _ k => st3 _ k) ?_
  show Gl _ _ _ _ (T3.setTop (mkF m 9 #[.val (.ref a1), .val (.int q1), .unset] [(.int (0 : Int32)), (.int (16 : Int32))]))
  refine Gl.go (fun _ k => XS.ishr X3.here hx rfl (hb hby d20_9) rfl k) ?_
  show Gl _ _ _ _ (T3.setTop (mkF m 10 #[.val (.ref a1), .val (.int q1), .unset] [(.int ((16 : Int32) >>> ((0 : Int32) &&& 31)))]))
  rw [(own_shr0 _ : ((16 : Int32) >>> ((0 : Int32) &&& 31)) = (16 : Int32))]
  show Gl _ _ _ _ (T3.setTop (mkF m 10 #[.val (.ref a1), .val (.int q1), .unset] [(.int (16 : Int32))]))
  refine Gl.go (fun _ k => XS.istoreN X3.here hx rfl (hb hby d20_10) rfl (l' := #[.val (.ref a1), .val (.int q1), .val (.int (16 : Int32))]) rfl k) ?_
  show Gl _ _ _ _ (T3.setTop (mkF m 11 #[.val (.ref a1), .val (.int q1), .val (.int (16 : Int32))] []))
  refine Gl.go (fun _ k => XS.iloadN X3.here hx rfl (hb hby d20_11) rfl  k) ?_
  show Gl _ _ _ _ (T3.setTop (mkF m 12 #[.val (.ref a1), .val (.int q1), .val (.int (16 : Int32))] [(.int q1)]))
  refine Gl.go (fun _ k => XS.iloadN X3.here hx rfl (hb hby d20_12) rfl  k) ?_
  show Gl _ _ _ _ (T3.setTop (mkF m 13 #[.val (.ref a1), .val (.int q1), .val (.int (16 : Int32))] [(.int (16 : Int32)), (.int q1)]))
  refine Gl.go (fun _ k => XS.isub X3.here hx rfl (hb hby d20_13) rfl k) ?_
  show Gl _ _ _ _ (T3.setTop (mkF m 14 #[.val (.ref a1), .val (.int q1), .val (.int (16 : Int32))] [(.int (q1 - (16 : Int32)))]))
  refine Gl.go (fun _ k => XS.ifYes X3.here hx rfl (pc0 := 14) (pc' := 38) rfl (hb hby d20_14) rfl ((if0 _ _).trans (flt hq).2.2.2) (by decide) (by decide) k) ?_
  show Gl _ _ _ _ (T3.setTop (mkF m 38 #[.val (.ref a1), .val (.int q1), .val (.int (16 : Int32))] []))
  refine leafV X3 hx hlk Bd.returns (hb hby d20_38) ?_ (by decide) (by decide)
  exact ⟨rfl, N0, e3⟩
def Q_inf (Z : State) (a1 bv : Addr) (k : ClassId) (bs : List Int32) (x1 : Addr) (cs : List Int32) (G1 : Int32) (h0 : Heap) (n0 : Nat) (v : Option Value) (h : Heap) (L : List Loc) : Prop := v = none ∧ Fr n0 L ∧ h = h0
set_option maxRecDepth 65536 in
set_option maxHeartbeats 40000000 in
theorem rm_inf (l : Launch) (Z : State) (a0 : Array Value) (hw : ∀ d ∈ tables_1, d.before a0 Z = true) (ws : List Jvm.Cond) (a1 bv : Addr) (k : ClassId) (bs : List Int32) (x1 : Addr) (cs : List Int32) (G1 : Int32) (h0 : Heap) (n0 : Nat) (Z0 : n0 ≤ h0.size) (B1 : BldAt Z h0 a1 bv k bs) (Sx : StrAt Z h0 x1 cs) (SC : Sta Z h0 "java/lang/String" "COMPACT_STRINGS" "Z" (.int G1)) (P5 : ¬ (G1 = (0 : Int32))) :
    MetFree l (⟨"java/lang/AbstractStringBuilder", "inflateIfNeededFor", "(Ljava/lang/String;)V"⟩ : MethodName) (head1 (Jvm.Cond.code (⟨"java/lang/AbstractStringBuilder", "inflateIfNeededFor", "(Ljava/lang/String;)V"⟩ : MethodName) jdk_68_method_71_code 2 none :: ws) ({ frames := 1, cells := 0, slots := 0, locals := 13 } : Room)) (fun aa U => aa = #[(.ref a1), (.ref x1)] ∧ Z.Warmed39 U.vm ∧ U.heap = h0) (fun _ _ _ _ _ => True) (fun _ U o U' => ∃ v L, o = .returned v ∧ Q_inf Z a1 bv k bs x1 cs G1 h0 n0 v U'.heap L ∧ FrameEnd U o U' L ({ frames := 1, cells := 0, slots := 0, locals := 13 } : Room).cells ({ frames := 1, cells := 0, slots := 0, locals := 13 } : Room).slots) := by
  refine MetFree.of_bodySF (plainFor_of_name pn_2) hisR ?_
  intro p e s m args below meth c s₁ Bd hml0 hP hK
  obtain ⟨rfl, hZ, hh⟩ := hP
  have hx := Bd.exec
  have hby := Bd.bytes
  have hml : c.maxLocals = 2 := hml0
  have hown : s.vm.findClass "java/lang/AbstractStringBuilder" = some m.cls := findClass_of_methodNamed Bd.named
  have hnm := (name_of_methodNamed Bd.named Bd.method).1
  have hlk : meth.locks = false := BodyLoose.notSynchronized Bd
  have X0 : Stand p l e ({ frames := 1, cells := 0, slots := 0, locals := 13 } : Room) s m #[(.ref a1), (.ref x1)] below meth c s₁ [] 0 0 := Stand.of_body Bd
  have e0 : s₁.heap = h0 := by rw [← hh, Bd.state]; rfl
  have N0 := Fr.nil n0
  have K0 : Keep h0 h0 [] := Keep.refl _ _
  show Gl p.tables e below (QQof s (Q_inf Z a1 bv k bs x1 cs G1 h0 n0) 0 0) (s₁.setTop (entryFrame m #[(.ref a1), (.ref x1)] 2))
  refine Gl.go (fun t k => castTop (ef_inf m a1 x1) k) ?_
  show Gl _ _ _ _ (s₁.setTop (mkF m 0 #[.val (.ref a1), .val (.ref x1)] []))
  obtain ⟨Eb, Vb, Cb, Nb, Ab⟩ := id B1
  obtain ⟨T1, X1, e1, st1⟩ := getS2 X0 hx hZ hown (host := "") (Or.inl (hw _ (List.mem_of_getElem? (i := 88) rfl))) Via.refl e0 SC (g := (mkF m 0 #[.val (.ref a1), .val (.ref x1)] [])) rfl (hb hby d22_0)
  refine Gl.go (fun _ k => st1 _ k) ?_
  show Gl _ _ _ _ (T1.setTop (mkF m 3 #[.val (.ref a1), .val (.ref x1)] [(.int G1)]))
  refine Gl.go (fun _ k => XS.ifNo X1.here hx rfl (hb hby d22_3) rfl ((if0 _ _).trans (feq P5).1) k) ?_
  show Gl _ _ _ _ (T1.setTop (mkF m 6 #[.val (.ref a1), .val (.ref x1)] []))
  refine Gl.go (fun _ k => XS.aloadN X1.here hx rfl (hb hby d22_6) rfl rfl  k) ?_
  show Gl _ _ _ _ (T1.setTop (mkF m 7 #[.val (.ref a1), .val (.ref x1)] [(.ref a1)]))
  obtain ⟨T2, X2, e2, st2⟩ := getF X1 hx hZ hown (host := "") (Or.inl (hw _ (List.mem_of_getElem? (i := 91) rfl))) Via.refl e1 Cb (g := (mkF m 7 #[.val (.ref a1), .val (.ref x1)] [(.ref a1)])) rfl rfl (hb hby d22_7)
  refine Gl.go (fun _ k => st2 _ k) ?_
  show Gl _ _ _ _ (T2.setTop (mkF m 10 #[.val (.ref a1), .val (.ref x1)] [(.int (0 : Int32))]))
  refine Gl.go (fun _ k => XS.aloadN X2.here hx rfl (hb hby d22_10) rfl rfl  k) ?_
  show Gl _ _ _ _ (T2.setTop (mkF m 11 #[.val (.ref a1), .val (.ref x1)] [(.ref x1), (.int (0 : Int32))]))
  obtain ⟨cq3, kq3, q3a, q3b, q3c⟩ := isOf hZ e2 Sx.1
  obtain ⟨_, _, ⟨T3, L3, k3, n3⟩, -, X3, ⟨Lc3, hQ3, l3, y3, z3⟩, st3⟩ := X2.virtualBack hx (y := (⟨"java/lang/String", "coder", "()B"⟩ : MethodName)) (z := (⟨"java/lang/String", "coder", "()B"⟩ : MethodName)) hown (mvT hZ (hw _ (List.mem_of_getElem? (i := 130) rfl))) (mvT hZ (hw _ (List.mem_of_getElem? (i := 109) rfl))) (notFace_of_selects (args := #[]) (mvT hZ (hw _ (List.mem_of_getElem? (i := 111) rfl)))) (mvT hZ (hw _ (List.mem_of_getElem? (i := 111) rfl))) (mvT hZ (hw _ (List.mem_of_getElem? (i := 110) rfl))) (by decide) (backOf (W := 1) (rm_cod l Z a0 hw [] x1 cs G1 h0 n0 Z0 Sx SC P5) hZ (hw _ (List.mem_of_getElem? (i := 112) rfl)) (hw _ (List.mem_of_getElem? (i := 2) rfl)) (by decide) (by decide)) q3a q3c (g := (mkF m 11 #[.val (.ref a1), .val (.ref x1)] [(.ref x1), (.int (0 : Int32))])) rfl (by rw [hml]; rfl) (Steps.refl _) (argsL := []) (rest := [(.int (0 : Int32))]) (lenOf pd_1 rfl) rfl (by show 2 * 0 + _ ≤ _; exact Nat.le_of_eq rfl) (hb hby d22_11) (fun _ _ => ⟨rfl, e2, (by decide : 0 + 0 ≤ _), (by decide : 0 + 0 ≤ _)⟩)
  dsimp only [Pt.U, Pt.locs, Pt.cells, Pt.slots] at X3 l3 y3 z3 st3 hQ3
  subst y3 z3
  obtain ⟨rfl, Nq3, e3⟩ := hQ3
  have N3 : Fr n0 L3 := by rw [l3]; exact Fr.app N0 Nq3
  refine Gl.go (fun _ k => st3.trans k) ?_
  show Gl _ _ _ _ (T3.setTop (mkF m 14 #[.val (.ref a1), .val (.ref x1)] [(.int (0 : Int32)), (.int (0 : Int32))]))
  refine Gl.go (fun _ k => XS.icmpYes X3.here hx rfl (pc0 := 14) (pc' := 21) rfl (hb hby d22_14) rfl (teq rfl).1 (by decide) (by decide) k) ?_
  show Gl _ _ _ _ (T3.setTop (mkF m 21 #[.val (.ref a1), .val (.ref x1)] []))
  refine leafV X3 hx hlk Bd.returns (hb hby d22_21) ?_ (by decide) (by decide)
  exact ⟨rfl, N3, e3⟩
def Q_gby (Z : State) (x1 bv : Addr) (k : ClassId) (bs cs : List Int32) (G1 : Int32) (h0 : Heap) (n0 : Nat) (v : Option Value) (h : Heap) (L : List Loc) : Prop := v = none ∧ Fr n0 L ∧ Keep h0 h [bv] ∧ Arv Z h bv k .byte (16 : Int32) ((bs ++ cs).map Value.int) (.int (0 : Int32))
set_option maxRecDepth 65536 in
set_option maxHeartbeats 40000000 in
theorem rm_gby (l : Launch) (Z : State) (a0 : Array Value) (hw : ∀ d ∈ tables_1, d.before a0 Z = true) (ws : List Jvm.Cond) (x1 bv : Addr) (k : ClassId) (bs cs : List Int32) (G1 : Int32) (h0 : Heap) (n0 : Nat) (Z0 : n0 ≤ h0.size) (Ab : Arv Z h0 bv k .byte (16 : Int32) (bs.map Value.int) (.int (0 : Int32))) (hl : bs.length + cs.length ≤ 16) (g_bv : n0 ≤ bv) (Sx : StrAt Z h0 x1 cs) (SC : Sta Z h0 "java/lang/String" "COMPACT_STRINGS" "Z" (.int G1)) (P5 : ¬ (G1 = (0 : Int32))) :
    MetFree l (⟨"java/lang/String", "getBytes", "([BIB)V"⟩ : MethodName) (head1 (Jvm.Cond.code (⟨"java/lang/String", "getBytes", "([BIB)V"⟩ : MethodName) jdk_42_method_147_code 4 none :: ws) ({ frames := 1, cells := 0, slots := 0, locals := 18 } : Room)) (fun aa U => aa = #[(.ref x1), (.ref bv), (.int (Int32.ofNat bs.length)), (.int (0 : Int32))] ∧ Z.Warmed39 U.vm ∧ U.heap = h0) (fun _ _ _ _ _ => True) (fun _ U o U' => ∃ v L, o = .returned v ∧ Q_gby Z x1 bv k bs cs G1 h0 n0 v U'.heap L ∧ FrameEnd U o U' L ({ frames := 1, cells := 0, slots := 0, locals := 18 } : Room).cells ({ frames := 1, cells := 0, slots := 0, locals := 18 } : Room).slots) := by
  refine MetFree.of_bodySF (plainFor_of_name pn_1) hisR ?_
  intro p e s m args below meth c s₁ Bd hml0 hP hK
  obtain ⟨rfl, hZ, hh⟩ := hP
  have hx := Bd.exec
  have hby := Bd.bytes
  have hml : c.maxLocals = 4 := hml0
  have hown : s.vm.findClass "java/lang/String" = some m.cls := findClass_of_methodNamed Bd.named
  have hnm := (name_of_methodNamed Bd.named Bd.method).1
  have hlk : meth.locks = false := BodyLoose.notSynchronized Bd
  have X0 : Stand p l e ({ frames := 1, cells := 0, slots := 0, locals := 18 } : Room) s m #[(.ref x1), (.ref bv), (.int (Int32.ofNat bs.length)), (.int (0 : Int32))] below meth c s₁ [] 0 0 := Stand.of_body Bd
  have e0 : s₁.heap = h0 := by rw [← hh, Bd.state]; rfl
  have N0 := Fr.nil n0
  have K0 : Keep h0 h0 [bv] := Keep.refl _ _
  show Gl p.tables e below (QQof s (Q_gby Z x1 bv k bs cs G1 h0 n0) 0 0) (s₁.setTop (entryFrame m #[(.ref x1), (.ref bv), (.int (Int32.ofNat bs.length)), (.int (0 : Int32))] 4))
  refine Gl.go (fun t k => castTop (ef_gby m x1 bv (Int32.ofNat bs.length) (0 : Int32)) k) ?_
  show Gl _ _ _ _ (s₁.setTop (mkF m 0 #[.val (.ref x1), .val (.ref bv), .val (.int (Int32.ofNat bs.length)), .val (.int (0 : Int32))] []))
  obtain ⟨Ex, Cx, lx, tb, kt, Vx, Kx⟩ := id Sx
  refine Gl.go (fun _ k => XS.aloadN X0.here hx rfl (hb hby d23_0) rfl rfl  k) ?_
  show Gl _ _ _ _ (s₁.setTop (mkF m 1 #[.val (.ref x1), .val (.ref bv), .val (.int (Int32.ofNat bs.length)), .val (.int (0 : Int32))] [(.ref x1)]))
  obtain ⟨cq1, kq1, q1a, q1b, q1c⟩ := isOf hZ e0 Ex
  obtain ⟨_, _, ⟨T1, L1, k1, n1⟩, -, X1, ⟨Lc1, hQ1, l1, y1, z1⟩, st1⟩ := X0.virtualBack hx (y := (⟨"java/lang/String", "coder", "()B"⟩ : MethodName)) (z := (⟨"java/lang/String", "coder", "()B"⟩ : MethodName)) hown (mvT hZ (hw _ (List.mem_of_getElem? (i := 108) rfl))) (mvT hZ (hw _ (List.mem_of_getElem? (i := 109) rfl))) (notFace_of_selects (args := #[]) (mvT hZ (hw _ (List.mem_of_getElem? (i := 111) rfl)))) (mvT hZ (hw _ (List.mem_of_getElem? (i := 111) rfl))) (mvT hZ (hw _ (List.mem_of_getElem? (i := 110) rfl))) (by decide) (backOf (W := 0) (rm_cod l Z a0 hw [] x1 cs G1 h0 n0 Z0 Sx SC P5) hZ (hw _ (List.mem_of_getElem? (i := 112) rfl)) (hw _ (List.mem_of_getElem? (i := 2) rfl)) (by decide) (by decide)) q1a q1c (g := (mkF m 1 #[.val (.ref x1), .val (.ref bv), .val (.int (Int32.ofNat bs.length)), .val (.int (0 : Int32))] [(.ref x1)])) rfl (by rw [hml]; rfl) (Steps.refl _) (argsL := []) (rest := []) (lenOf pd_1 rfl) rfl (by show 2 * 0 + _ ≤ _; exact Nat.le_of_eq rfl) (hb hby d23_1) (fun _ _ => ⟨rfl, e0, (by decide : 0 + 0 ≤ _), (by decide : 0 + 0 ≤ _)⟩)
  dsimp only [Pt.U, Pt.locs, Pt.cells, Pt.slots] at X1 l1 y1 z1 st1 hQ1
  subst y1 z1
  obtain ⟨rfl, Nq1, e1⟩ := hQ1
  have N1 : Fr n0 L1 := by rw [l1]; exact Fr.app N0 Nq1
  refine Gl.go (fun _ k => st1.trans k) ?_
  show Gl _ _ _ _ (T1.setTop (mkF m 4 #[.val (.ref x1), .val (.ref bv), .val (.int (Int32.ofNat bs.length)), .val (.int (0 : Int32))] [(.int (0 : Int32))]))
  refine Gl.go (fun _ k => XS.iloadN X1.here hx rfl (hb hby d23_4) rfl  k) ?_
  show Gl _ _ _ _ (T1.setTop (mkF m 5 #[.val (.ref x1), .val (.ref bv), .val (.int (Int32.ofNat bs.length)), .val (.int (0 : Int32))] [(.int (0 : Int32)), (.int (0 : Int32))]))
  refine Gl.go (fun _ k => XS.icmpNo X1.here hx rfl (hb hby d23_5) rfl (teq rfl).2 k) ?_
  show Gl _ _ _ _ (T1.setTop (mkF m 8 #[.val (.ref x1), .val (.ref bv), .val (.int (Int32.ofNat bs.length)), .val (.int (0 : Int32))] []))
  refine Gl.go (fun _ k => XS.aloadN X1.here hx rfl (hb hby d23_8) rfl rfl  k) ?_
  show Gl _ _ _ _ (T1.setTop (mkF m 9 #[.val (.ref x1), .val (.ref bv), .val (.int (Int32.ofNat bs.length)), .val (.int (0 : Int32))] [(.ref x1)]))
  obtain ⟨T2, X2, e2, st2⟩ := getF X1 hx hZ hown (host := "") (Or.inl (hw _ (List.mem_of_getElem? (i := 28) rfl))) Via.refl e1 Vx (g := (mkF m 9 #[.val (.ref x1), .val (.ref bv), .val (.int (Int32.ofNat bs.length)), .val (.int (0 : Int32))] [(.ref x1)])) rfl rfl (hb hby d23_9)
  refine Gl.go (fun _ k => st2 _ k) ?_
  show Gl _ _ _ _ (T2.setTop (mkF m 12 #[.val (.ref x1), .val (.ref bv), .val (.int (Int32.ofNat bs.length)), .val (.int (0 : Int32))] [(.ref tb)]))
  refine Gl.go (fun _ k => XS.iconst X2.here hx rfl (hb hby d23_12) k) ?_
  show Gl _ _ _ _ (T2.setTop (mkF m 13 #[.val (.ref x1), .val (.ref bv), .val (.int (Int32.ofNat bs.length)), .val (.int (0 : Int32))] [(.int (0 : Int32)), (.ref tb)]))
  refine Gl.go (fun _ k => XS.aloadN X2.here hx rfl (hb hby d23_13) rfl rfl  k) ?_
  show Gl _ _ _ _ (T2.setTop (mkF m 14 #[.val (.ref x1), .val (.ref bv), .val (.int (Int32.ofNat bs.length)), .val (.int (0 : Int32))] [(.ref bv), (.int (0 : Int32)), (.ref tb)]))
  refine Gl.go (fun _ k => XS.iloadN X2.here hx rfl (hb hby d23_14) rfl  k) ?_
  show Gl _ _ _ _ (T2.setTop (mkF m 15 #[.val (.ref x1), .val (.ref bv), .val (.int (Int32.ofNat bs.length)), .val (.int (0 : Int32))] [(.int (Int32.ofNat bs.length)), (.ref bv), (.int (0 : Int32)), (.ref tb)]))
  refine Gl.go (fun _ k => XS.iloadN X2.here hx rfl (hb hby d23_15) rfl  k) ?_
  show Gl _ _ _ _ (T2.setTop (mkF m 16 #[.val (.ref x1), .val (.ref bv), .val (.int (Int32.ofNat bs.length)), .val (.int (0 : Int32))] [(.int (0 : Int32)), (.int (Int32.ofNat bs.length)), (.ref bv), (.int (0 : Int32)), (.ref tb)]))
  refine Gl.go (fun _ k => XS.ishl X2.here hx rfl (hb hby d23_16) rfl k) ?_
  show Gl _ _ _ _ (T2.setTop (mkF m 17 #[.val (.ref x1), .val (.ref bv), .val (.int (Int32.ofNat bs.length)), .val (.int (0 : Int32))] [(.int ((Int32.ofNat bs.length) <<< ((0 : Int32) &&& 31))), (.ref bv), (.int (0 : Int32)), (.ref tb)]))
  rw [(own_shl0 _ : ((Int32.ofNat bs.length) <<< ((0 : Int32) &&& 31)) = (Int32.ofNat bs.length))]
  show Gl _ _ _ _ (T2.setTop (mkF m 17 #[.val (.ref x1), .val (.ref bv), .val (.int (Int32.ofNat bs.length)), .val (.int (0 : Int32))] [(.int (Int32.ofNat bs.length)), (.ref bv), (.int (0 : Int32)), (.ref tb)]))
  refine Gl.go (fun _ k => XS.aloadN X2.here hx rfl (hb hby d23_17) rfl rfl  k) ?_
  show Gl _ _ _ _ (T2.setTop (mkF m 18 #[.val (.ref x1), .val (.ref bv), .val (.int (Int32.ofNat bs.length)), .val (.int (0 : Int32))] [(.ref x1), (.int (Int32.ofNat bs.length)), (.ref bv), (.int (0 : Int32)), (.ref tb)]))
  obtain ⟨T3, X3, e3, st3⟩ := getF X2 hx hZ hown (host := "") (Or.inl (hw _ (List.mem_of_getElem? (i := 28) rfl))) Via.refl e2 Vx (g := (mkF m 18 #[.val (.ref x1), .val (.ref bv), .val (.int (Int32.ofNat bs.length)), .val (.int (0 : Int32))] [(.ref x1), (.int (Int32.ofNat bs.length)), (.ref bv), (.int (0 : Int32)), (.ref tb)])) rfl rfl (hb hby d23_18)
  refine Gl.go (fun _ k => st3 _ k) ?_
  show Gl _ _ _ _ (T3.setTop (mkF m 21 #[.val (.ref x1), .val (.ref bv), .val (.int (Int32.ofNat bs.length)), .val (.int (0 : Int32))] [(.ref tb), (.int (Int32.ofNat bs.length)), (.ref bv), (.int (0 : Int32)), (.ref tb)]))
  obtain ⟨cl4, Ar4, qA4, SA4, NA4, HA4, GA4⟩ := id Kx
  refine Gl.go (fun _ k => X3.arraylength hx (by rw [e3]; exact Ar4.1) (State.isArrayOf_alike hZ.alike Ar4.2.1) (g := (mkF m 21 #[.val (.ref x1), .val (.ref bv), .val (.int (Int32.ofNat bs.length)), .val (.int (0 : Int32))] [(.ref tb), (.int (Int32.ofNat bs.length)), (.ref bv), (.int (0 : Int32)), (.ref tb)])) rfl rfl (hb hby d23_21) _ k) ?_
  rw [len_of SA4 NA4]
  show Gl _ _ _ _ (T3.setTop (mkF m 22 #[.val (.ref x1), .val (.ref bv), .val (.int (Int32.ofNat bs.length)), .val (.int (0 : Int32))] [(.int (Int32.ofNat cs.length)), (.int (Int32.ofNat bs.length)), (.ref bv), (.int (0 : Int32)), (.ref tb)]))
  obtain ⟨T5, h5, L5, X5, e5, N5, K_5, A5, st5⟩ := cpA X3 hx hZ hown (hw _ (List.mem_of_getElem? (i := 136) rfl)) (hw _ (List.mem_of_getElem? (i := 139) rfl)) (hw _ (List.mem_of_getElem? (i := 137) rfl)) (hw _ (List.mem_of_getElem? (i := 138) rfl)) e3 (us := (cs.map Value.int)) Kx (Ab.pad (pad_rep _ _ 16)) (Or.inl ⟨rfl, rfl⟩) (by decide) (i32_pos (by omega)) (i32_pos (by omega)) (own_src cs) (own_in hl) (own_us cs lx) (own_room hl) N1 g_bv (g := (mkF m 22 #[.val (.ref x1), .val (.ref bv), .val (.int (Int32.ofNat bs.length)), .val (.int (0 : Int32))] [(.int (Int32.ofNat cs.length)), (.int (Int32.ofNat bs.length)), (.ref bv), (.int (0 : Int32)), (.ref tb)])) rfl (by rw [hml]; rfl) (rest := []) rfl (hb hby d23_22) (by decide) (W := 0) (by show 2 * 0 + _ ≤ _; exact Nat.le_of_eq rfl) (by decide)
  refine Gl.go (fun _ k => st5 _ k) ?_
  have SZ5 : n0 ≤ h5.size := Nat.le_trans Z0 K_5.1
  have K5 : Keep h0 h5 [bv] := K0.trans K_5 (allS (Or.inl (List.mem_of_getElem? (i := 0) rfl)) all0)
  show Gl _ _ _ _ (T5.setTop (mkF m 25 #[.val (.ref x1), .val (.ref bv), .val (.int (Int32.ofNat bs.length)), .val (.int (0 : Int32))] []))
  refine Gl.go (fun _ k => XS.goto X5.here hx rfl (pc0 := 25) (pc' := 43) rfl (hb hby d23_25) (by decide) (by decide) k) ?_
  show Gl _ _ _ _ (T5.setTop (mkF m 43 #[.val (.ref x1), .val (.ref bv), .val (.int (Int32.ofNat bs.length)), .val (.int (0 : Int32))] []))
  refine leafV X5 hx hlk Bd.returns (hb hby d23_43) ?_ (by decide) (by decide)
  rw [e5]
  exact ⟨rfl, N5, K5, A5.pad (own_after hl)⟩
def Q_psa (Z : State) (a1 bv : Addr) (k : ClassId) (bs : List Int32) (x1 : Addr) (cs : List Int32) (G1 : Int32) (h0 : Heap) (n0 : Nat) (v : Option Value) (h : Heap) (L : List Loc) : Prop := v = none ∧ Fr n0 L ∧ Keep h0 h [bv] ∧ Arv Z h bv k .byte (16 : Int32) ((bs ++ cs).map Value.int) (.int (0 : Int32))
set_option maxRecDepth 65536 in
set_option maxHeartbeats 40000000 in
theorem rm_psa (l : Launch) (Z : State) (a0 : Array Value) (hw : ∀ d ∈ tables_1, d.before a0 Z = true) (ws : List Jvm.Cond) (a1 bv : Addr) (k : ClassId) (bs : List Int32) (x1 : Addr) (cs : List Int32) (G1 : Int32) (h0 : Heap) (n0 : Nat) (Z0 : n0 ≤ h0.size) (B1 : BldAt Z h0 a1 bv k bs) (hl : bs.length + cs.length ≤ 16) (g_bv : n0 ≤ bv) (Sx : StrAt Z h0 x1 cs) (SC : Sta Z h0 "java/lang/String" "COMPACT_STRINGS" "Z" (.int G1)) (P5 : ¬ (G1 = (0 : Int32))) :
    MetFree l (⟨"java/lang/AbstractStringBuilder", "putStringAt", "(ILjava/lang/String;)V"⟩ : MethodName) (head1 (Jvm.Cond.code (⟨"java/lang/AbstractStringBuilder", "putStringAt", "(ILjava/lang/String;)V"⟩ : MethodName) jdk_68_method_73_code 3 none :: ws) ({ frames := 2, cells := 0, slots := 0, locals := 33 } : Room)) (fun aa U => aa = #[(.ref a1), (.int (Int32.ofNat bs.length)), (.ref x1)] ∧ Z.Warmed39 U.vm ∧ U.heap = h0) (fun _ _ _ _ _ => True) (fun _ U o U' => ∃ v L, o = .returned v ∧ Q_psa Z a1 bv k bs x1 cs G1 h0 n0 v U'.heap L ∧ FrameEnd U o U' L ({ frames := 2, cells := 0, slots := 0, locals := 33 } : Room).cells ({ frames := 2, cells := 0, slots := 0, locals := 33 } : Room).slots) := by
  refine MetFree.of_bodySF (plainFor_of_name pn_2) hisR ?_
  intro p e s m args below meth c s₁ Bd hml0 hP hK
  obtain ⟨rfl, hZ, hh⟩ := hP
  have hx := Bd.exec
  have hby := Bd.bytes
  have hml : c.maxLocals = 3 := hml0
  have hown : s.vm.findClass "java/lang/AbstractStringBuilder" = some m.cls := findClass_of_methodNamed Bd.named
  have hnm := (name_of_methodNamed Bd.named Bd.method).1
  have hlk : meth.locks = false := BodyLoose.notSynchronized Bd
  have X0 : Stand p l e ({ frames := 2, cells := 0, slots := 0, locals := 33 } : Room) s m #[(.ref a1), (.int (Int32.ofNat bs.length)), (.ref x1)] below meth c s₁ [] 0 0 := Stand.of_body Bd
  have e0 : s₁.heap = h0 := by rw [← hh, Bd.state]; rfl
  have N0 := Fr.nil n0
  have K0 : Keep h0 h0 [bv] := Keep.refl _ _
  show Gl p.tables e below (QQof s (Q_psa Z a1 bv k bs x1 cs G1 h0 n0) 0 0) (s₁.setTop (entryFrame m #[(.ref a1), (.int (Int32.ofNat bs.length)), (.ref x1)] 3))
  refine Gl.go (fun t k => castTop (ef_psa m a1 (Int32.ofNat bs.length) x1) k) ?_
  show Gl _ _ _ _ (s₁.setTop (mkF m 0 #[.val (.ref a1), .val (.int (Int32.ofNat bs.length)), .val (.ref x1)] []))
  obtain ⟨Eb, Vb, Cb, Nb, Ab⟩ := id B1
  refine Gl.go (fun _ k => XS.aloadN X0.here hx rfl (hb hby d21_0) rfl rfl  k) ?_
  show Gl _ _ _ _ (s₁.setTop (mkF m 1 #[.val (.ref a1), .val (.int (Int32.ofNat bs.length)), .val (.ref x1)] [(.ref a1)]))
  refine Gl.go (fun _ k => XS.aloadN X0.here hx rfl (hb hby d21_1) rfl rfl  k) ?_
  show Gl _ _ _ _ (s₁.setTop (mkF m 2 #[.val (.ref a1), .val (.int (Int32.ofNat bs.length)), .val (.ref x1)] [(.ref x1), (.ref a1)]))
  obtain ⟨cq1, kq1, q1a, q1b, q1c⟩ := isOf hZ e0 Eb
  obtain ⟨_, _, ⟨T1, L1, k1, n1⟩, -, X1, ⟨Lc1, hQ1, l1, y1, z1⟩, st1⟩ := X0.virtualBack hx (y := (⟨"java/lang/AbstractStringBuilder", "inflateIfNeededFor", "(Ljava/lang/String;)V"⟩ : MethodName)) (z := (⟨"java/lang/AbstractStringBuilder", "inflateIfNeededFor", "(Ljava/lang/String;)V"⟩ : MethodName)) hown (mvT hZ (hw _ (List.mem_of_getElem? (i := 125) rfl))) (mvT hZ (declOf (hw _ (List.mem_of_getElem? (i := 126) rfl)) (hw _ (List.mem_of_getElem? (i := 129) rfl)))) (notFace_of_selects (args := #[]) (mvT hZ (hw _ (List.mem_of_getElem? (i := 128) rfl)))) (mvT hZ (hw _ (List.mem_of_getElem? (i := 128) rfl))) (mvT hZ (hw _ (List.mem_of_getElem? (i := 126) rfl))) (by decide) (backOf (W := 0) (rm_inf l Z a0 hw [] a1 bv k bs x1 cs G1 h0 n0 Z0 B1 Sx SC P5) hZ (hw _ (List.mem_of_getElem? (i := 129) rfl)) (hw _ (List.mem_of_getElem? (i := 85) rfl)) (by decide) (by decide)) q1a q1c (g := (mkF m 2 #[.val (.ref a1), .val (.int (Int32.ofNat bs.length)), .val (.ref x1)] [(.ref x1), (.ref a1)])) rfl (by rw [hml]; rfl) (Steps.refl _) (argsL := [(.ref x1)]) (rest := []) (lenOf pd_3 rfl) rfl (by show 2 * 0 + _ ≤ _; exact Nat.le_of_eq rfl) (hb hby d21_2) (fun _ _ => ⟨rfl, e0, (by decide : 0 + 0 ≤ _), (by decide : 0 + 0 ≤ _)⟩)
  dsimp only [Pt.U, Pt.locs, Pt.cells, Pt.slots] at X1 l1 y1 z1 st1 hQ1
  subst y1 z1
  obtain ⟨rfl, Nq1, e1⟩ := hQ1
  have N1 : Fr n0 L1 := by rw [l1]; exact Fr.app N0 Nq1
  refine Gl.go (fun _ k => st1.trans k) ?_
  show Gl _ _ _ _ (T1.setTop (mkF m 5 #[.val (.ref a1), .val (.int (Int32.ofNat bs.length)), .val (.ref x1)] []))
  refine Gl.go (fun _ k => XS.aloadN X1.here hx rfl (hb hby d21_5) rfl rfl  k) ?_
  show Gl _ _ _ _ (T1.setTop (mkF m 6 #[.val (.ref a1), .val (.int (Int32.ofNat bs.length)), .val (.ref x1)] [(.ref x1)]))
  refine Gl.go (fun _ k => XS.aloadN X1.here hx rfl (hb hby d21_6) rfl rfl  k) ?_
  show Gl _ _ _ _ (T1.setTop (mkF m 7 #[.val (.ref a1), .val (.int (Int32.ofNat bs.length)), .val (.ref x1)] [(.ref a1), (.ref x1)]))
  obtain ⟨T2, X2, e2, st2⟩ := getF X1 hx hZ hown (host := "") (Or.inl (hw _ (List.mem_of_getElem? (i := 89) rfl))) Via.refl e1 Vb (g := (mkF m 7 #[.val (.ref a1), .val (.int (Int32.ofNat bs.length)), .val (.ref x1)] [(.ref a1), (.ref x1)])) rfl rfl (hb hby d21_7)
  refine Gl.go (fun _ k => st2 _ k) ?_
  show Gl _ _ _ _ (T2.setTop (mkF m 10 #[.val (.ref a1), .val (.int (Int32.ofNat bs.length)), .val (.ref x1)] [(.ref bv), (.ref x1)]))
  refine Gl.go (fun _ k => XS.iloadN X2.here hx rfl (hb hby d21_10) rfl  k) ?_
  show Gl _ _ _ _ (T2.setTop (mkF m 11 #[.val (.ref a1), .val (.int (Int32.ofNat bs.length)), .val (.ref x1)] [(.int (Int32.ofNat bs.length)), (.ref bv), (.ref x1)]))
  refine Gl.go (fun _ k => XS.aloadN X2.here hx rfl (hb hby d21_11) rfl rfl  k) ?_
  show Gl _ _ _ _ (T2.setTop (mkF m 12 #[.val (.ref a1), .val (.int (Int32.ofNat bs.length)), .val (.ref x1)] [(.ref a1), (.int (Int32.ofNat bs.length)), (.ref bv), (.ref x1)]))
  obtain ⟨T3, X3, e3, st3⟩ := getF X2 hx hZ hown (host := "") (Or.inl (hw _ (List.mem_of_getElem? (i := 91) rfl))) Via.refl e2 Cb (g := (mkF m 12 #[.val (.ref a1), .val (.int (Int32.ofNat bs.length)), .val (.ref x1)] [(.ref a1), (.int (Int32.ofNat bs.length)), (.ref bv), (.ref x1)])) rfl rfl (hb hby d21_12)
  refine Gl.go (fun _ k => st3 _ k) ?_
  show Gl _ _ _ _ (T3.setTop (mkF m 15 #[.val (.ref a1), .val (.int (Int32.ofNat bs.length)), .val (.ref x1)] [(.int (0 : Int32)), (.int (Int32.ofNat bs.length)), (.ref bv), (.ref x1)]))
  obtain ⟨cq4, kq4, q4a, q4b, q4c⟩ := isOf hZ e3 Sx.1
  obtain ⟨_, _, ⟨T4, L4, k4, n4⟩, -, X4, ⟨Lc4, hQ4, l4, y4, z4⟩, st4⟩ := X3.virtualBack hx (y := (⟨"java/lang/String", "getBytes", "([BIB)V"⟩ : MethodName)) (z := (⟨"java/lang/String", "getBytes", "([BIB)V"⟩ : MethodName)) hown (mvT hZ (hw _ (List.mem_of_getElem? (i := 131) rfl))) (mvT hZ (hw _ (List.mem_of_getElem? (i := 132) rfl))) (notFace_of_selects (args := #[]) (mvT hZ (hw _ (List.mem_of_getElem? (i := 134) rfl)))) (mvT hZ (hw _ (List.mem_of_getElem? (i := 134) rfl))) (mvT hZ (hw _ (List.mem_of_getElem? (i := 133) rfl))) (by decide) (backOf (W := 0) (rm_gby l Z a0 hw [] x1 bv k bs cs G1 h0 n0 Z0 Ab hl g_bv Sx SC P5) hZ (hw _ (List.mem_of_getElem? (i := 135) rfl)) (hw _ (List.mem_of_getElem? (i := 2) rfl)) (by decide) (by decide)) q4a q4c (g := (mkF m 15 #[.val (.ref a1), .val (.int (Int32.ofNat bs.length)), .val (.ref x1)] [(.int (0 : Int32)), (.int (Int32.ofNat bs.length)), (.ref bv), (.ref x1)])) rfl (by rw [hml]; rfl) (Steps.refl _) (argsL := [(.ref bv), (.int (Int32.ofNat bs.length)), (.int (0 : Int32))]) (rest := []) (lenOf pd_4 rfl) rfl (by show 2 * 0 + _ ≤ _; exact Nat.le_of_eq rfl) (hb hby d21_15) (fun _ _ => ⟨rfl, e3, (by decide : 0 + 0 ≤ _), (by decide : 0 + 0 ≤ _)⟩)
  dsimp only [Pt.U, Pt.locs, Pt.cells, Pt.slots] at X4 l4 y4 z4 st4 hQ4
  subst y4 z4
  obtain ⟨rfl, Nq4, Kc4, Ac4⟩ := hQ4
  have N4 : Fr n0 L4 := by rw [l4]; exact Fr.app N1 Nq4
  refine Gl.go (fun _ k => st4.trans k) ?_
  have SZ4 : n0 ≤ T4.heap.size := Nat.le_trans Z0 Kc4.1
  have K4 : Keep h0 T4.heap [bv] := K0.trans Kc4 (allS (Or.inl (List.mem_of_getElem? (i := 0) rfl)) all0)
  show Gl _ _ _ _ (T4.setTop (mkF m 18 #[.val (.ref a1), .val (.int (Int32.ofNat bs.length)), .val (.ref x1)] []))
  refine leafV X4 hx hlk Bd.returns (hb hby d21_18) ?_ (by decide) (by decide)
  exact ⟨rfl, N4, K4, Ac4⟩
def Q_aap (Z : State) (a1 bv : Addr) (k : ClassId) (bs : List Int32) (x1 : Addr) (cs : List Int32) (G1 : Int32) (h0 : Heap) (n0 : Nat) (v : Option Value) (h : Heap) (L : List Loc) : Prop := v = some (.ref a1) ∧ Fr n0 L ∧ Keep h0 h [a1, bv] ∧ BldAt Z h a1 bv k (bs ++ cs)
set_option maxRecDepth 65536 in
set_option maxHeartbeats 40000000 in
theorem rm_aap (l : Launch) (Z : State) (a0 : Array Value) (hw : ∀ d ∈ tables_1, d.before a0 Z = true) (ws : List Jvm.Cond) (a1 bv : Addr) (k : ClassId) (bs : List Int32) (x1 : Addr) (cs : List Int32) (G1 : Int32) (h0 : Heap) (n0 : Nat) (Z0 : n0 ≤ h0.size) (B1 : BldAt Z h0 a1 bv k bs) (hl : bs.length + cs.length ≤ 16) (g_a1 : n0 ≤ a1) (g_bv : n0 ≤ bv) (hne : a1 ≠ bv) (Sx : StrAt Z h0 x1 cs) (SC : Sta Z h0 "java/lang/String" "COMPACT_STRINGS" "Z" (.int G1)) (P5 : ¬ (G1 = (0 : Int32))) :
    MetFree l (⟨"java/lang/AbstractStringBuilder", "append", "(Ljava/lang/String;)Ljava/lang/AbstractStringBuilder;"⟩ : MethodName) (head1 (Jvm.Cond.code (⟨"java/lang/AbstractStringBuilder", "append", "(Ljava/lang/String;)Ljava/lang/AbstractStringBuilder;"⟩ : MethodName) jdk_68_method_22_code 3 (some (.object "java/lang/AbstractStringBuilder")) :: ws) ({ frames := 3, cells := 0, slots := 0, locals := 47 } : Room)) (fun aa U => aa = #[(.ref a1), (.ref x1)] ∧ Z.Warmed39 U.vm ∧ U.heap = h0) (fun _ _ _ _ _ => True) (fun _ U o U' => ∃ v L, o = .returned v ∧ Q_aap Z a1 bv k bs x1 cs G1 h0 n0 v U'.heap L ∧ FrameEnd U o U' L ({ frames := 3, cells := 0, slots := 0, locals := 47 } : Room).cells ({ frames := 3, cells := 0, slots := 0, locals := 47 } : Room).slots) := by
  refine MetFree.of_bodySF (plainFor_of_name pn_2) hisR ?_
  intro p e s m args below meth c s₁ Bd hml0 hP hK
  obtain ⟨rfl, hZ, hh⟩ := hP
  have hx := Bd.exec
  have hby := Bd.bytes
  have hml : c.maxLocals = 3 := hml0
  have hown : s.vm.findClass "java/lang/AbstractStringBuilder" = some m.cls := findClass_of_methodNamed Bd.named
  have hnm := (name_of_methodNamed Bd.named Bd.method).1
  have hlk : meth.locks = false := BodyLoose.notSynchronized Bd
  have X0 : Stand p l e ({ frames := 3, cells := 0, slots := 0, locals := 47 } : Room) s m #[(.ref a1), (.ref x1)] below meth c s₁ [] 0 0 := Stand.of_body Bd
  have e0 : s₁.heap = h0 := by rw [← hh, Bd.state]; rfl
  have N0 := Fr.nil n0
  have K0 : Keep h0 h0 [a1, bv] := Keep.refl _ _
  show Gl p.tables e below (QQof s (Q_aap Z a1 bv k bs x1 cs G1 h0 n0) 0 0) (s₁.setTop (entryFrame m #[(.ref a1), (.ref x1)] 3))
  refine Gl.go (fun t k => castTop (ef_aap m a1 x1) k) ?_
  show Gl _ _ _ _ (s₁.setTop (mkF m 0 #[.val (.ref a1), .val (.ref x1), .unset] []))
  obtain ⟨Eb, Vb, Cb, Nb, Ab⟩ := id B1
  refine Gl.go (fun _ k => XS.aloadN X0.here hx rfl (hb hby d17_0) rfl rfl  k) ?_
  show Gl _ _ _ _ (s₁.setTop (mkF m 1 #[.val (.ref a1), .val (.ref x1), .unset] [(.ref x1)]))
  refine Gl.go (fun _ k => XS.ifnonnullYes X0.here hx rfl (pc0 := 1) (pc' := 9) rfl (hb hby d17_1) rfl (by decide) (by decide) k) ?_
  show Gl _ _ _ _ (s₁.setTop (mkF m 9 #[.val (.ref a1), .val (.ref x1), .unset] []))
  refine Gl.go (fun _ k => XS.aloadN X0.here hx rfl (hb hby d17_9) rfl rfl  k) ?_
  show Gl _ _ _ _ (s₁.setTop (mkF m 10 #[.val (.ref a1), .val (.ref x1), .unset] [(.ref x1)]))
  obtain ⟨cq1, kq1, q1a, q1b, q1c⟩ := isOf hZ e0 Sx.1
  obtain ⟨_, _, ⟨T1, L1, k1, n1⟩, -, X1, ⟨Lc1, hQ1, l1, y1, z1⟩, st1⟩ := X0.virtualBack hx (y := (⟨"java/lang/String", "length", "()I"⟩ : MethodName)) (z := (⟨"java/lang/String", "length", "()I"⟩ : MethodName)) hown (mvT hZ (hw _ (List.mem_of_getElem? (i := 103) rfl))) (mvT hZ (hw _ (List.mem_of_getElem? (i := 104) rfl))) (notFace_of_selects (args := #[]) (mvT hZ (hw _ (List.mem_of_getElem? (i := 106) rfl)))) (mvT hZ (hw _ (List.mem_of_getElem? (i := 106) rfl))) (mvT hZ (hw _ (List.mem_of_getElem? (i := 105) rfl))) (by decide) (backOf (W := 0) (rm_len l Z a0 hw [] x1 cs G1 h0 n0 Z0 Sx SC P5) hZ (hw _ (List.mem_of_getElem? (i := 107) rfl)) (hw _ (List.mem_of_getElem? (i := 2) rfl)) (by decide) (by decide)) q1a q1c (g := (mkF m 10 #[.val (.ref a1), .val (.ref x1), .unset] [(.ref x1)])) rfl (by rw [hml]; rfl) (Steps.refl _) (argsL := []) (rest := []) (lenOf pd_5 rfl) rfl (by show 2 * 0 + _ ≤ _; exact Nat.le_of_eq rfl) (hb hby d17_10) (fun _ _ => ⟨rfl, e0, (by decide : 0 + 0 ≤ _), (by decide : 0 + 0 ≤ _)⟩)
  dsimp only [Pt.U, Pt.locs, Pt.cells, Pt.slots] at X1 l1 y1 z1 st1 hQ1
  subst y1 z1
  obtain ⟨rfl, Nq1, e1⟩ := hQ1
  have N1 : Fr n0 L1 := by rw [l1]; exact Fr.app N0 Nq1
  refine Gl.go (fun _ k => st1.trans k) ?_
  show Gl _ _ _ _ (T1.setTop (mkF m 13 #[.val (.ref a1), .val (.ref x1), .unset] [(.int (Int32.ofNat cs.length))]))
  refine Gl.go (fun _ k => XS.istoreN X1.here hx rfl (hb hby d17_13) rfl (l' := #[.val (.ref a1), .val (.ref x1), .val (.int (Int32.ofNat cs.length))]) rfl k) ?_
  show Gl _ _ _ _ (T1.setTop (mkF m 14 #[.val (.ref a1), .val (.ref x1), .val (.int (Int32.ofNat cs.length))] []))
  refine Gl.go (fun _ k => XS.aloadN X1.here hx rfl (hb hby d17_14) rfl rfl  k) ?_
  show Gl _ _ _ _ (T1.setTop (mkF m 15 #[.val (.ref a1), .val (.ref x1), .val (.int (Int32.ofNat cs.length))] [(.ref a1)]))
  refine Gl.go (fun _ k => XS.aloadN X1.here hx rfl (hb hby d17_15) rfl rfl  k) ?_
  show Gl _ _ _ _ (T1.setTop (mkF m 16 #[.val (.ref a1), .val (.ref x1), .val (.int (Int32.ofNat cs.length))] [(.ref a1), (.ref a1)]))
  obtain ⟨T2, X2, e2, st2⟩ := getF X1 hx hZ hown (host := "") (Or.inl (hw _ (List.mem_of_getElem? (i := 113) rfl))) Via.refl e1 Nb (g := (mkF m 16 #[.val (.ref a1), .val (.ref x1), .val (.int (Int32.ofNat cs.length))] [(.ref a1), (.ref a1)])) rfl rfl (hb hby d17_16)
  refine Gl.go (fun _ k => st2 _ k) ?_
  show Gl _ _ _ _ (T2.setTop (mkF m 19 #[.val (.ref a1), .val (.ref x1), .val (.int (Int32.ofNat cs.length))] [(.int (Int32.ofNat bs.length)), (.ref a1)]))
  refine Gl.go (fun _ k => XS.iloadN X2.here hx rfl (hb hby d17_19) rfl  k) ?_
  show Gl _ _ _ _ (T2.setTop (mkF m 20 #[.val (.ref a1), .val (.ref x1), .val (.int (Int32.ofNat cs.length))] [(.int (Int32.ofNat cs.length)), (.int (Int32.ofNat bs.length)), (.ref a1)]))
  refine Gl.go (fun _ k => XS.iadd X2.here hx rfl (hb hby d17_20) rfl k) ?_
  show Gl _ _ _ _ (T2.setTop (mkF m 21 #[.val (.ref a1), .val (.ref x1), .val (.int (Int32.ofNat cs.length))] [(.int ((Int32.ofNat bs.length) + (Int32.ofNat cs.length))), (.ref a1)]))
  obtain ⟨cq3, kq3, q3a, q3b, q3c⟩ := isOf hZ e2 Eb
  obtain ⟨_, _, ⟨T3, L3, k3, n3⟩, -, X3, ⟨Lc3, hQ3, l3, y3, z3⟩, st3⟩ := X2.virtualBack hx (y := (⟨"java/lang/AbstractStringBuilder", "ensureCapacityInternal", "(I)V"⟩ : MethodName)) (z := (⟨"java/lang/AbstractStringBuilder", "ensureCapacityInternal", "(I)V"⟩ : MethodName)) hown (mvT hZ (hw _ (List.mem_of_getElem? (i := 115) rfl))) (mvT hZ (declOf (hw _ (List.mem_of_getElem? (i := 116) rfl)) (hw _ (List.mem_of_getElem? (i := 119) rfl)))) (notFace_of_selects (args := #[]) (mvT hZ (hw _ (List.mem_of_getElem? (i := 118) rfl)))) (mvT hZ (hw _ (List.mem_of_getElem? (i := 118) rfl))) (mvT hZ (hw _ (List.mem_of_getElem? (i := 116) rfl))) (by decide) (backOf (W := 0) (rm_ens l Z a0 hw [] a1 bv k bs ((Int32.ofNat bs.length) + (Int32.ofNat cs.length)) h0 n0 Z0 B1 (own_cap hl)) hZ (hw _ (List.mem_of_getElem? (i := 119) rfl)) (hw _ (List.mem_of_getElem? (i := 85) rfl)) (by decide) (by decide)) q3a q3c (g := (mkF m 21 #[.val (.ref a1), .val (.ref x1), .val (.int (Int32.ofNat cs.length))] [(.int ((Int32.ofNat bs.length) + (Int32.ofNat cs.length))), (.ref a1)])) rfl (by rw [hml]; rfl) (Steps.refl _) (argsL := [(.int ((Int32.ofNat bs.length) + (Int32.ofNat cs.length)))]) (rest := []) (lenOf pd_2 rfl) rfl (by show 2 * 0 + _ ≤ _; exact Nat.le_of_eq rfl) (hb hby d17_21) (fun _ _ => ⟨rfl, e2, (by decide : 0 + 0 ≤ _), (by decide : 0 + 0 ≤ _)⟩)
  dsimp only [Pt.U, Pt.locs, Pt.cells, Pt.slots] at X3 l3 y3 z3 st3 hQ3
  subst y3 z3
  obtain ⟨rfl, Nq3, e3⟩ := hQ3
  have N3 : Fr n0 L3 := by rw [l3]; exact Fr.app N1 Nq3
  refine Gl.go (fun _ k => st3.trans k) ?_
  show Gl _ _ _ _ (T3.setTop (mkF m 24 #[.val (.ref a1), .val (.ref x1), .val (.int (Int32.ofNat cs.length))] []))
  refine Gl.go (fun _ k => XS.aloadN X3.here hx rfl (hb hby d17_24) rfl rfl  k) ?_
  show Gl _ _ _ _ (T3.setTop (mkF m 25 #[.val (.ref a1), .val (.ref x1), .val (.int (Int32.ofNat cs.length))] [(.ref a1)]))
  refine Gl.go (fun _ k => XS.aloadN X3.here hx rfl (hb hby d17_25) rfl rfl  k) ?_
  show Gl _ _ _ _ (T3.setTop (mkF m 26 #[.val (.ref a1), .val (.ref x1), .val (.int (Int32.ofNat cs.length))] [(.ref a1), (.ref a1)]))
  obtain ⟨T4, X4, e4, st4⟩ := getF X3 hx hZ hown (host := "") (Or.inl (hw _ (List.mem_of_getElem? (i := 113) rfl))) Via.refl e3 Nb (g := (mkF m 26 #[.val (.ref a1), .val (.ref x1), .val (.int (Int32.ofNat cs.length))] [(.ref a1), (.ref a1)])) rfl rfl (hb hby d17_26)
  refine Gl.go (fun _ k => st4 _ k) ?_
  show Gl _ _ _ _ (T4.setTop (mkF m 29 #[.val (.ref a1), .val (.ref x1), .val (.int (Int32.ofNat cs.length))] [(.int (Int32.ofNat bs.length)), (.ref a1)]))
  refine Gl.go (fun _ k => XS.aloadN X4.here hx rfl (hb hby d17_29) rfl rfl  k) ?_
  show Gl _ _ _ _ (T4.setTop (mkF m 30 #[.val (.ref a1), .val (.ref x1), .val (.int (Int32.ofNat cs.length))] [(.ref x1), (.int (Int32.ofNat bs.length)), (.ref a1)]))
  obtain ⟨cq5, kq5, q5a, q5b, q5c⟩ := isOf hZ e4 Eb
  obtain ⟨_, _, ⟨T5, L5, k5, n5⟩, -, X5, ⟨Lc5, hQ5, l5, y5, z5⟩, st5⟩ := X4.virtualBack hx (y := (⟨"java/lang/AbstractStringBuilder", "putStringAt", "(ILjava/lang/String;)V"⟩ : MethodName)) (z := (⟨"java/lang/AbstractStringBuilder", "putStringAt", "(ILjava/lang/String;)V"⟩ : MethodName)) hown (mvT hZ (hw _ (List.mem_of_getElem? (i := 120) rfl))) (mvT hZ (declOf (hw _ (List.mem_of_getElem? (i := 121) rfl)) (hw _ (List.mem_of_getElem? (i := 124) rfl)))) (notFace_of_selects (args := #[]) (mvT hZ (hw _ (List.mem_of_getElem? (i := 123) rfl)))) (mvT hZ (hw _ (List.mem_of_getElem? (i := 123) rfl))) (mvT hZ (hw _ (List.mem_of_getElem? (i := 121) rfl))) (by decide) (backOf (W := 0) (rm_psa l Z a0 hw [] a1 bv k bs x1 cs G1 h0 n0 Z0 B1 hl g_bv Sx SC P5) hZ (hw _ (List.mem_of_getElem? (i := 124) rfl)) (hw _ (List.mem_of_getElem? (i := 85) rfl)) (by decide) (by decide)) q5a q5c (g := (mkF m 30 #[.val (.ref a1), .val (.ref x1), .val (.int (Int32.ofNat cs.length))] [(.ref x1), (.int (Int32.ofNat bs.length)), (.ref a1)])) rfl (by rw [hml]; rfl) (Steps.refl _) (argsL := [(.int (Int32.ofNat bs.length)), (.ref x1)]) (rest := []) (lenOf pd_6 rfl) rfl (by show 2 * 0 + _ ≤ _; exact Nat.le_of_eq rfl) (hb hby d17_30) (fun _ _ => ⟨rfl, e4, (by decide : 0 + 0 ≤ _), (by decide : 0 + 0 ≤ _)⟩)
  dsimp only [Pt.U, Pt.locs, Pt.cells, Pt.slots] at X5 l5 y5 z5 st5 hQ5
  subst y5 z5
  obtain ⟨rfl, Nq5, Kc5, Ac5⟩ := hQ5
  have N5 : Fr n0 L5 := by rw [l5]; exact Fr.app N3 Nq5
  refine Gl.go (fun _ k => st5.trans k) ?_
  have E_a1_5 : Exa Z T5.heap a1 "java/lang/StringBuilder" := Eb.keep Kc5
  have F_a1_value_5 : Fld Z T5.heap a1 "java/lang/AbstractStringBuilder" "value" "[B" (.ref bv) := Vb.keep Kc5 (ninS hne nin0)
  have F_a1_coder_5 : Fld Z T5.heap a1 "java/lang/AbstractStringBuilder" "coder" "B" (.int (0 : Int32)) := Cb.keep Kc5 (ninS hne nin0)
  have F_a1_count_5 : Fld Z T5.heap a1 "java/lang/AbstractStringBuilder" "count" "I" (.int (Int32.ofNat bs.length)) := Nb.keep Kc5 (ninS hne nin0)
  have SZ5 : n0 ≤ T5.heap.size := Nat.le_trans Z0 Kc5.1
  have K5 : Keep h0 T5.heap [a1, bv] := K0.trans Kc5 (allS (Or.inl (List.mem_of_getElem? (i := 1) rfl)) all0)
  show Gl _ _ _ _ (T5.setTop (mkF m 33 #[.val (.ref a1), .val (.ref x1), .val (.int (Int32.ofNat cs.length))] []))
  refine Gl.go (fun _ k => XS.aloadN X5.here hx rfl (hb hby d17_33) rfl rfl  k) ?_
  show Gl _ _ _ _ (T5.setTop (mkF m 34 #[.val (.ref a1), .val (.ref x1), .val (.int (Int32.ofNat cs.length))] [(.ref a1)]))
  refine Gl.go (fun _ k => XS.dup X5.here hx rfl (hb hby d17_34) rfl rfl k) ?_
  show Gl _ _ _ _ (T5.setTop (mkF m 35 #[.val (.ref a1), .val (.ref x1), .val (.int (Int32.ofNat cs.length))] [(.ref a1), (.ref a1)]))
  obtain ⟨T6, X6, e6, st6⟩ := getF X5 hx hZ hown (host := "") (Or.inl (hw _ (List.mem_of_getElem? (i := 113) rfl))) Via.refl rfl F_a1_count_5 (g := (mkF m 35 #[.val (.ref a1), .val (.ref x1), .val (.int (Int32.ofNat cs.length))] [(.ref a1), (.ref a1)])) rfl rfl (hb hby d17_35)
  refine Gl.go (fun _ k => st6 _ k) ?_
  show Gl _ _ _ _ (T6.setTop (mkF m 38 #[.val (.ref a1), .val (.ref x1), .val (.int (Int32.ofNat cs.length))] [(.int (Int32.ofNat bs.length)), (.ref a1)]))
  refine Gl.go (fun _ k => XS.iloadN X6.here hx rfl (hb hby d17_38) rfl  k) ?_
  show Gl _ _ _ _ (T6.setTop (mkF m 39 #[.val (.ref a1), .val (.ref x1), .val (.int (Int32.ofNat cs.length))] [(.int (Int32.ofNat cs.length)), (.int (Int32.ofNat bs.length)), (.ref a1)]))
  refine Gl.go (fun _ k => XS.iadd X6.here hx rfl (hb hby d17_39) rfl k) ?_
  show Gl _ _ _ _ (T6.setTop (mkF m 40 #[.val (.ref a1), .val (.ref x1), .val (.int (Int32.ofNat cs.length))] [(.int ((Int32.ofNat bs.length) + (Int32.ofNat cs.length))), (.ref a1)]))
  obtain ⟨T7, h7, X7, e7, W7, st7⟩ := putF X6 hx hZ hown (host := "") (Or.inl (hw _ (List.mem_of_getElem? (i := 113) rfl))) Via.refl e6 F_a1_count_5 E_a1_5 (Or.inl (hw _ (List.mem_of_getElem? (i := 114) rfl))) (hw _ (List.mem_of_getElem? (i := 76) rfl)) (ty := .int) (by decide) rfl rfl (g := (mkF m 40 #[.val (.ref a1), .val (.ref x1), .val (.int (Int32.ofNat cs.length))] [(.int ((Int32.ofNat bs.length) + (Int32.ofNat cs.length))), (.ref a1)])) rfl rfl (hb hby d17_40)
  have E_a1_7 : Exa Z h7 a1 "java/lang/StringBuilder" := E_a1_5.wr W7
  have F_a1_value_7 : Fld Z h7 a1 "java/lang/AbstractStringBuilder" "value" "[B" (.ref bv) := F_a1_value_5.other W7 (Or.inr (slot_ne (t := (.array .byte)) (t' := .int) (Or.inl (hw _ (List.mem_of_getElem? (i := 90) rfl))) (Or.inl (hw _ (List.mem_of_getElem? (i := 114) rfl))) (by decide) (by decide) (by decide)))
  have F_a1_coder_7 : Fld Z h7 a1 "java/lang/AbstractStringBuilder" "coder" "B" (.int (0 : Int32)) := F_a1_coder_5.other W7 (Or.inr (slot_ne (t := .byte) (t' := .int) (Or.inl (hw _ (List.mem_of_getElem? (i := 92) rfl))) (Or.inl (hw _ (List.mem_of_getElem? (i := 114) rfl))) (by decide) (by decide) (by decide)))
  have F_a1_count_7 : Fld Z h7 a1 "java/lang/AbstractStringBuilder" "count" "I" (.int ((Int32.ofNat bs.length) + (Int32.ofNat cs.length))) := F_a1_count_5.same W7
  have V_bv_7 : Arv Z h7 bv k .byte (16 : Int32) ((bs ++ cs).map Value.int) (.int (0 : Int32)) := Ac5.other W7 (Ne.symm hne)
  have SZ7 : n0 ≤ h7.size := by rw [Wr.size W7]; exact SZ5
  have K7 : Keep h0 h7 [a1, bv] := K5.wr W7 (Or.inl (List.mem_of_getElem? (i := 0) rfl))
  have N7 := Fr.snoc X7 N5 g_a1
  refine Gl.go (fun _ k => st7 _ k) ?_
  show Gl _ _ _ _ (T7.setTop (mkF m 43 #[.val (.ref a1), .val (.ref x1), .val (.int (Int32.ofNat cs.length))] []))
  refine Gl.go (fun _ k => XS.aloadN X7.here hx rfl (hb hby d17_43) rfl rfl  k) ?_
  show Gl _ _ _ _ (T7.setTop (mkF m 44 #[.val (.ref a1), .val (.ref x1), .val (.int (Int32.ofNat cs.length))] [(.ref a1)]))
  refine leafA X7 hx hlk Bd.returns rfl rfl (hb hby d17_44) ?_ (by decide) (by decide)
  rw [e7]
  exact ⟨rfl, N7, K7, E_a1_7, F_a1_value_7, F_a1_coder_7, by rw [List.length_append, Int32.ofNat_add]; exact F_a1_count_7, V_bv_7⟩
def Q_app (Z : State) (a1 bv : Addr) (k : ClassId) (bs : List Int32) (x1 : Addr) (cs : List Int32) (G1 : Int32) (h0 : Heap) (n0 : Nat) (v : Option Value) (h : Heap) (L : List Loc) : Prop := v = some (.ref a1) ∧ Fr n0 L ∧ Keep h0 h [a1, bv] ∧ BldAt Z h a1 bv k (bs ++ cs)
set_option maxRecDepth 65536 in
set_option maxHeartbeats 40000000 in
theorem rm_app (l : Launch) (Z : State) (a0 : Array Value) (hw : ∀ d ∈ tables_1, d.before a0 Z = true) (ws : List Jvm.Cond) (a1 bv : Addr) (k : ClassId) (bs : List Int32) (x1 : Addr) (cs : List Int32) (G1 : Int32) (h0 : Heap) (n0 : Nat) (Z0 : n0 ≤ h0.size) (B1 : BldAt Z h0 a1 bv k bs) (hl : bs.length + cs.length ≤ 16) (g_a1 : n0 ≤ a1) (g_bv : n0 ≤ bv) (hne : a1 ≠ bv) (Sx : StrAt Z h0 x1 cs) (SC : Sta Z h0 "java/lang/String" "COMPACT_STRINGS" "Z" (.int G1)) (P5 : ¬ (G1 = (0 : Int32))) :
    MetFree l (⟨"java/lang/StringBuilder", "append", "(Ljava/lang/String;)Ljava/lang/StringBuilder;"⟩ : MethodName) (head1 (Jvm.Cond.code (⟨"java/lang/StringBuilder", "append", "(Ljava/lang/String;)Ljava/lang/StringBuilder;"⟩ : MethodName) jdk_67_method_7_code 2 (some (.object "java/lang/StringBuilder")) :: ws) ({ frames := 4, cells := 0, slots := 0, locals := 61 } : Room)) (fun aa U => aa = #[(.ref a1), (.ref x1)] ∧ Z.Warmed39 U.vm ∧ U.heap = h0) (fun _ _ _ _ _ => True) (fun _ U o U' => ∃ v L, o = .returned v ∧ Q_app Z a1 bv k bs x1 cs G1 h0 n0 v U'.heap L ∧ FrameEnd U o U' L ({ frames := 4, cells := 0, slots := 0, locals := 61 } : Room).cells ({ frames := 4, cells := 0, slots := 0, locals := 61 } : Room).slots) := by
  refine MetFree.of_bodySF (plainFor_of_name pn_3) hisR ?_
  intro p e s m args below meth c s₁ Bd hml0 hP hK
  obtain ⟨rfl, hZ, hh⟩ := hP
  have hx := Bd.exec
  have hby := Bd.bytes
  have hml : c.maxLocals = 2 := hml0
  have hown : s.vm.findClass "java/lang/StringBuilder" = some m.cls := findClass_of_methodNamed Bd.named
  have hnm := (name_of_methodNamed Bd.named Bd.method).1
  have hlk : meth.locks = false := BodyLoose.notSynchronized Bd
  have X0 : Stand p l e ({ frames := 4, cells := 0, slots := 0, locals := 61 } : Room) s m #[(.ref a1), (.ref x1)] below meth c s₁ [] 0 0 := Stand.of_body Bd
  have e0 : s₁.heap = h0 := by rw [← hh, Bd.state]; rfl
  have N0 := Fr.nil n0
  have K0 : Keep h0 h0 [a1, bv] := Keep.refl _ _
  show Gl p.tables e below (QQof s (Q_app Z a1 bv k bs x1 cs G1 h0 n0) 0 0) (s₁.setTop (entryFrame m #[(.ref a1), (.ref x1)] 2))
  refine Gl.go (fun t k => castTop (ef_app m a1 x1) k) ?_
  show Gl _ _ _ _ (s₁.setTop (mkF m 0 #[.val (.ref a1), .val (.ref x1)] []))
  refine Gl.go (fun _ k => XS.aloadN X0.here hx rfl (hb hby d16_0) rfl rfl  k) ?_
  show Gl _ _ _ _ (s₁.setTop (mkF m 1 #[.val (.ref a1), .val (.ref x1)] [(.ref a1)]))
  refine Gl.go (fun _ k => XS.aloadN X0.here hx rfl (hb hby d16_1) rfl rfl  k) ?_
  show Gl _ _ _ _ (s₁.setTop (mkF m 2 #[.val (.ref a1), .val (.ref x1)] [(.ref x1), (.ref a1)]))
  obtain ⟨_, _, ⟨T1, L1, k1, n1⟩, -, X1, ⟨Lc1, hQ1, l1, y1, z1⟩, st1⟩ := superBack X0 hx hZ (y := (⟨"java/lang/AbstractStringBuilder", "append", "(Ljava/lang/String;)Ljava/lang/AbstractStringBuilder;"⟩ : MethodName)) hown (hw _ (List.mem_of_getElem? (i := 98) rfl)) (sameOf (y' := (⟨"java/lang/AbstractStringBuilder", "ensureCapacityInternal", "(I)V"⟩ : MethodName)) rfl (by decide) (hw _ (List.mem_of_getElem? (i := 99) rfl)) (hw _ (List.mem_of_getElem? (i := 118) rfl))) (hw _ (List.mem_of_getElem? (i := 99) rfl)) (hw _ (List.mem_of_getElem? (i := 100) rfl)) (by decide) (backOf (W := 0) (rm_aap l Z a0 hw [] a1 bv k bs x1 cs G1 h0 n0 Z0 B1 hl g_a1 g_bv hne Sx SC P5) hZ (hw _ (List.mem_of_getElem? (i := 102) rfl)) (hw _ (List.mem_of_getElem? (i := 85) rfl)) (by decide) (by decide)) e0 (Ins.self B1.1) (g := (mkF m 2 #[.val (.ref a1), .val (.ref x1)] [(.ref x1), (.ref a1)])) rfl (by rw [hml]; rfl) (hw _ (List.mem_of_getElem? (i := 102) rfl)) (argsL := [(.ref x1)]) (rest := []) (lenOf pd_7 rfl) rfl (by show 2 * 0 + _ ≤ _; exact Nat.le_of_eq rfl) (hb hby d16_2) (fun _ _ => ⟨rfl, e0, (by decide : 0 + 0 ≤ _), (by decide : 0 + 0 ≤ _)⟩)
  dsimp only [Pt.U, Pt.locs, Pt.cells, Pt.slots] at X1 l1 y1 z1 st1 hQ1
  subst y1 z1
  obtain ⟨rfl, Nq1, Kc1, Bc1⟩ := hQ1
  have N1 : Fr n0 L1 := by rw [l1]; exact Fr.app N0 Nq1
  refine Gl.go (fun _ k => st1.trans k) ?_
  have SZ1 : n0 ≤ T1.heap.size := Nat.le_trans Z0 Kc1.1
  have K1 : Keep h0 T1.heap [a1, bv] := K0.trans Kc1 (allS (Or.inl (List.mem_of_getElem? (i := 0) rfl)) (allS (Or.inl (List.mem_of_getElem? (i := 1) rfl)) all0))
  show Gl _ _ _ _ (T1.setTop (mkF m 5 #[.val (.ref a1), .val (.ref x1)] [(.ref a1)]))
  refine Gl.go (fun _ k => XS.pop X1.here hx rfl (hb hby d16_5) rfl rfl k) ?_
  show Gl _ _ _ _ (T1.setTop (mkF m 6 #[.val (.ref a1), .val (.ref x1)] []))
  refine Gl.go (fun _ k => XS.aloadN X1.here hx rfl (hb hby d16_6) rfl rfl  k) ?_
  show Gl _ _ _ _ (T1.setTop (mkF m 7 #[.val (.ref a1), .val (.ref x1)] [(.ref a1)]))
  refine leafA X1 hx hlk Bd.returns rfl rfl (hb hby d16_7) ?_ (by decide) (by decide)
  exact ⟨rfl, N1, K1, Bc1⟩
def Q_gva (Z : State) (a1 bv : Addr) (k : ClassId) (bs : List Int32) (h0 : Heap) (n0 : Nat) (v : Option Value) (h : Heap) (L : List Loc) : Prop := v = some (.ref bv) ∧ Fr n0 L ∧ h = h0
set_option maxRecDepth 65536 in
set_option maxHeartbeats 40000000 in
theorem rm_gva (l : Launch) (Z : State) (a0 : Array Value) (hw : ∀ d ∈ tables_1, d.before a0 Z = true) (ws : List Jvm.Cond) (a1 bv : Addr) (k : ClassId) (bs : List Int32) (h0 : Heap) (n0 : Nat) (Z0 : n0 ≤ h0.size) (B1 : BldAt Z h0 a1 bv k bs) :
    MetFree l (⟨"java/lang/AbstractStringBuilder", "getValue", "()[B"⟩ : MethodName) (head1 (Jvm.Cond.code (⟨"java/lang/AbstractStringBuilder", "getValue", "()[B"⟩ : MethodName) jdk_68_method_64_code 1 (some (.array .byte)) :: ws) ({ frames := 0, cells := 0, slots := 0, locals := 0 } : Room)) (fun aa U => aa = #[(.ref a1)] ∧ Z.Warmed39 U.vm ∧ U.heap = h0) (fun _ _ _ _ _ => True) (fun _ U o U' => ∃ v L, o = .returned v ∧ Q_gva Z a1 bv k bs h0 n0 v U'.heap L ∧ FrameEnd U o U' L ({ frames := 0, cells := 0, slots := 0, locals := 0 } : Room).cells ({ frames := 0, cells := 0, slots := 0, locals := 0 } : Room).slots) := by
  refine MetFree.of_bodySF (plainFor_of_name pn_2) hisR ?_
  intro p e s m args below meth c s₁ Bd hml0 hP hK
  obtain ⟨rfl, hZ, hh⟩ := hP
  have hx := Bd.exec
  have hby := Bd.bytes
  have hml : c.maxLocals = 1 := hml0
  have hown : s.vm.findClass "java/lang/AbstractStringBuilder" = some m.cls := findClass_of_methodNamed Bd.named
  have hnm := (name_of_methodNamed Bd.named Bd.method).1
  have hlk : meth.locks = false := BodyLoose.notSynchronized Bd
  have X0 : Stand p l e ({ frames := 0, cells := 0, slots := 0, locals := 0 } : Room) s m #[(.ref a1)] below meth c s₁ [] 0 0 := Stand.of_body Bd
  have e0 : s₁.heap = h0 := by rw [← hh, Bd.state]; rfl
  have N0 := Fr.nil n0
  have K0 : Keep h0 h0 [] := Keep.refl _ _
  show Gl p.tables e below (QQof s (Q_gva Z a1 bv k bs h0 n0) 0 0) (s₁.setTop (entryFrame m #[(.ref a1)] 1))
  refine Gl.go (fun t k => castTop (ef_gva m a1) k) ?_
  show Gl _ _ _ _ (s₁.setTop (mkF m 0 #[.val (.ref a1)] []))
  obtain ⟨Eb, Vb, Cb, Nb, Ab⟩ := id B1
  refine Gl.go (fun _ k => XS.aloadN X0.here hx rfl (hb hby d27_0) rfl rfl  k) ?_
  show Gl _ _ _ _ (s₁.setTop (mkF m 1 #[.val (.ref a1)] [(.ref a1)]))
  obtain ⟨T1, X1, e1, st1⟩ := getF X0 hx hZ hown (host := "") (Or.inl (hw _ (List.mem_of_getElem? (i := 89) rfl))) Via.refl e0 Vb (g := (mkF m 1 #[.val (.ref a1)] [(.ref a1)])) rfl rfl (hb hby d27_1)
  refine Gl.go (fun _ k => st1 _ k) ?_
  show Gl _ _ _ _ (T1.setTop (mkF m 4 #[.val (.ref a1)] [(.ref bv)]))
  refine leafA X1 hx hlk Bd.returns rfl rfl (hb hby d27_4) ?_ (by decide) (by decide)
  exact ⟨rfl, N0, e1⟩
def Q_all (Z : State) (a1 bv : Addr) (k : ClassId) (bs : List Int32) (h0 : Heap) (n0 : Nat) (v : Option Value) (h : Heap) (L : List Loc) : Prop := v = some (.int (Int32.ofNat bs.length)) ∧ Fr n0 L ∧ h = h0
set_option maxRecDepth 65536 in
set_option maxHeartbeats 40000000 in
theorem rm_all (l : Launch) (Z : State) (a0 : Array Value) (hw : ∀ d ∈ tables_1, d.before a0 Z = true) (ws : List Jvm.Cond) (a1 bv : Addr) (k : ClassId) (bs : List Int32) (h0 : Heap) (n0 : Nat) (Z0 : n0 ≤ h0.size) (B1 : BldAt Z h0 a1 bv k bs) :
    MetFree l (⟨"java/lang/AbstractStringBuilder", "length", "()I"⟩ : MethodName) (head1 (Jvm.Cond.code (⟨"java/lang/AbstractStringBuilder", "length", "()I"⟩ : MethodName) jdk_68_method_6_code 1 (some .int) :: ws) ({ frames := 0, cells := 0, slots := 0, locals := 0 } : Room)) (fun aa U => aa = #[(.ref a1)] ∧ Z.Warmed39 U.vm ∧ U.heap = h0) (fun _ _ _ _ _ => True) (fun _ U o U' => ∃ v L, o = .returned v ∧ Q_all Z a1 bv k bs h0 n0 v U'.heap L ∧ FrameEnd U o U' L ({ frames := 0, cells := 0, slots := 0, locals := 0 } : Room).cells ({ frames := 0, cells := 0, slots := 0, locals := 0 } : Room).slots) := by
  refine MetFree.of_bodySF (plainFor_of_name pn_2) hisR ?_
  intro p e s m args below meth c s₁ Bd hml0 hP hK
  obtain ⟨rfl, hZ, hh⟩ := hP
  have hx := Bd.exec
  have hby := Bd.bytes
  have hml : c.maxLocals = 1 := hml0
  have hown : s.vm.findClass "java/lang/AbstractStringBuilder" = some m.cls := findClass_of_methodNamed Bd.named
  have hnm := (name_of_methodNamed Bd.named Bd.method).1
  have hlk : meth.locks = false := BodyLoose.notSynchronized Bd
  have X0 : Stand p l e ({ frames := 0, cells := 0, slots := 0, locals := 0 } : Room) s m #[(.ref a1)] below meth c s₁ [] 0 0 := Stand.of_body Bd
  have e0 : s₁.heap = h0 := by rw [← hh, Bd.state]; rfl
  have N0 := Fr.nil n0
  have K0 : Keep h0 h0 [] := Keep.refl _ _
  show Gl p.tables e below (QQof s (Q_all Z a1 bv k bs h0 n0) 0 0) (s₁.setTop (entryFrame m #[(.ref a1)] 1))
  refine Gl.go (fun t k => castTop (ef_all m a1) k) ?_
  show Gl _ _ _ _ (s₁.setTop (mkF m 0 #[.val (.ref a1)] []))
  obtain ⟨Eb, Vb, Cb, Nb, Ab⟩ := id B1
  refine Gl.go (fun _ k => XS.aloadN X0.here hx rfl (hb hby d29_0) rfl rfl  k) ?_
  show Gl _ _ _ _ (s₁.setTop (mkF m 1 #[.val (.ref a1)] [(.ref a1)]))
  obtain ⟨T1, X1, e1, st1⟩ := getF X0 hx hZ hown (host := "") (Or.inl (hw _ (List.mem_of_getElem? (i := 113) rfl))) Via.refl e0 Nb (g := (mkF m 1 #[.val (.ref a1)] [(.ref a1)])) rfl rfl (hb hby d29_1)
  refine Gl.go (fun _ k => st1 _ k) ?_
  show Gl _ _ _ _ (T1.setTop (mkF m 4 #[.val (.ref a1)] [(.int (Int32.ofNat bs.length))]))
  refine leafI X1 hx hlk Bd.returns (hb hby d29_4) ?_ (by decide) (by decide)
  exact ⟨rfl, N0, e1⟩
def Q_sbl (Z : State) (a1 bv : Addr) (k : ClassId) (bs : List Int32) (h0 : Heap) (n0 : Nat) (v : Option Value) (h : Heap) (L : List Loc) : Prop := v = some (.int (Int32.ofNat bs.length)) ∧ Fr n0 L ∧ h = h0
set_option maxRecDepth 65536 in
set_option maxHeartbeats 40000000 in
theorem rm_sbl (l : Launch) (Z : State) (a0 : Array Value) (hw : ∀ d ∈ tables_1, d.before a0 Z = true) (ws : List Jvm.Cond) (a1 bv : Addr) (k : ClassId) (bs : List Int32) (h0 : Heap) (n0 : Nat) (Z0 : n0 ≤ h0.size) (B1 : BldAt Z h0 a1 bv k bs) :
    MetFree l (⟨"java/lang/StringBuilder", "length", "()I"⟩ : MethodName) (head1 (Jvm.Cond.code (⟨"java/lang/StringBuilder", "length", "()I"⟩ : MethodName) jdk_67_method_93_code 1 (some .int) :: ws) ({ frames := 1, cells := 0, slots := 0, locals := 12 } : Room)) (fun aa U => aa = #[(.ref a1)] ∧ Z.Warmed39 U.vm ∧ U.heap = h0) (fun _ _ _ _ _ => True) (fun _ U o U' => ∃ v L, o = .returned v ∧ Q_sbl Z a1 bv k bs h0 n0 v U'.heap L ∧ FrameEnd U o U' L ({ frames := 1, cells := 0, slots := 0, locals := 12 } : Room).cells ({ frames := 1, cells := 0, slots := 0, locals := 12 } : Room).slots) := by
  refine MetFree.of_bodySF (plainFor_of_name pn_3) hisR ?_
  intro p e s m args below meth c s₁ Bd hml0 hP hK
  obtain ⟨rfl, hZ, hh⟩ := hP
  have hx := Bd.exec
  have hby := Bd.bytes
  have hml : c.maxLocals = 1 := hml0
  have hown : s.vm.findClass "java/lang/StringBuilder" = some m.cls := findClass_of_methodNamed Bd.named
  have hnm := (name_of_methodNamed Bd.named Bd.method).1
  have hlk : meth.locks = false := BodyLoose.notSynchronized Bd
  have X0 : Stand p l e ({ frames := 1, cells := 0, slots := 0, locals := 12 } : Room) s m #[(.ref a1)] below meth c s₁ [] 0 0 := Stand.of_body Bd
  have e0 : s₁.heap = h0 := by rw [← hh, Bd.state]; rfl
  have N0 := Fr.nil n0
  have K0 : Keep h0 h0 [] := Keep.refl _ _
  show Gl p.tables e below (QQof s (Q_sbl Z a1 bv k bs h0 n0) 0 0) (s₁.setTop (entryFrame m #[(.ref a1)] 1))
  refine Gl.go (fun t k => castTop (ef_sbl m a1) k) ?_
  show Gl _ _ _ _ (s₁.setTop (mkF m 0 #[.val (.ref a1)] []))
  refine Gl.go (fun _ k => XS.aloadN X0.here hx rfl (hb hby d28_0) rfl rfl  k) ?_
  show Gl _ _ _ _ (s₁.setTop (mkF m 1 #[.val (.ref a1)] [(.ref a1)]))
  obtain ⟨_, _, ⟨T1, L1, k1, n1⟩, -, X1, ⟨Lc1, hQ1, l1, y1, z1⟩, st1⟩ := superBack X0 hx hZ (y := (⟨"java/lang/AbstractStringBuilder", "length", "()I"⟩ : MethodName)) hown (hw _ (List.mem_of_getElem? (i := 166) rfl)) (sameOf (y' := (⟨"java/lang/AbstractStringBuilder", "ensureCapacityInternal", "(I)V"⟩ : MethodName)) rfl (by decide) (hw _ (List.mem_of_getElem? (i := 162) rfl)) (hw _ (List.mem_of_getElem? (i := 118) rfl))) (hw _ (List.mem_of_getElem? (i := 162) rfl)) (hw _ (List.mem_of_getElem? (i := 100) rfl)) (by decide) (backOf (W := 0) (rm_all l Z a0 hw [] a1 bv k bs h0 n0 Z0 B1) hZ (hw _ (List.mem_of_getElem? (i := 167) rfl)) (hw _ (List.mem_of_getElem? (i := 85) rfl)) (by decide) (by decide)) e0 (Ins.self B1.1) (g := (mkF m 1 #[.val (.ref a1)] [(.ref a1)])) rfl (by rw [hml]; rfl) (hw _ (List.mem_of_getElem? (i := 167) rfl)) (argsL := []) (rest := []) (lenOf pd_5 rfl) rfl (by show 2 * 0 + _ ≤ _; exact Nat.le_of_eq rfl) (hb hby d28_1) (fun _ _ => ⟨rfl, e0, (by decide : 0 + 0 ≤ _), (by decide : 0 + 0 ≤ _)⟩)
  dsimp only [Pt.U, Pt.locs, Pt.cells, Pt.slots] at X1 l1 y1 z1 st1 hQ1
  subst y1 z1
  obtain ⟨rfl, Nq1, e1⟩ := hQ1
  have N1 : Fr n0 L1 := by rw [l1]; exact Fr.app N0 Nq1
  refine Gl.go (fun _ k => st1.trans k) ?_
  show Gl _ _ _ _ (T1.setTop (mkF m 4 #[.val (.ref a1)] [(.int (Int32.ofNat bs.length))]))
  refine leafI X1 hx hlk Bd.returns (hb hby d28_4) ?_ (by decide) (by decide)
  exact ⟨rfl, N1, e1⟩
def Q_isl (Z : State) (a1 bv : Addr) (k : ClassId) (bs : List Int32) (G1 : Int32) (h0 : Heap) (n0 : Nat) (v : Option Value) (h : Heap) (L : List Loc) : Prop := v = some (.int (1 : Int32)) ∧ Fr n0 L ∧ h = h0
set_option maxRecDepth 65536 in
set_option maxHeartbeats 40000000 in
theorem rm_isl (l : Launch) (Z : State) (a0 : Array Value) (hw : ∀ d ∈ tables_1, d.before a0 Z = true) (ws : List Jvm.Cond) (a1 bv : Addr) (k : ClassId) (bs : List Int32) (G1 : Int32) (h0 : Heap) (n0 : Nat) (Z0 : n0 ≤ h0.size) (B1 : BldAt Z h0 a1 bv k bs) (SC : Sta Z h0 "java/lang/String" "COMPACT_STRINGS" "Z" (.int G1)) (P5 : ¬ (G1 = (0 : Int32))) :
    MetFree l (⟨"java/lang/AbstractStringBuilder", "isLatin1", "()Z"⟩ : MethodName) (head1 (Jvm.Cond.code (⟨"java/lang/AbstractStringBuilder", "isLatin1", "()Z"⟩ : MethodName) jdk_68_method_68_code 1 (some .boolean) :: ws) ({ frames := 0, cells := 0, slots := 0, locals := 0 } : Room)) (fun aa U => aa = #[(.ref a1)] ∧ Z.Warmed39 U.vm ∧ U.heap = h0) (fun _ _ _ _ _ => True) (fun _ U o U' => ∃ v L, o = .returned v ∧ Q_isl Z a1 bv k bs G1 h0 n0 v U'.heap L ∧ FrameEnd U o U' L ({ frames := 0, cells := 0, slots := 0, locals := 0 } : Room).cells ({ frames := 0, cells := 0, slots := 0, locals := 0 } : Room).slots) := by
  refine MetFree.of_bodySF (plainFor_of_name pn_2) hisR ?_
  intro p e s m args below meth c s₁ Bd hml0 hP hK
  obtain ⟨rfl, hZ, hh⟩ := hP
  have hx := Bd.exec
  have hby := Bd.bytes
  have hml : c.maxLocals = 1 := hml0
  have hown : s.vm.findClass "java/lang/AbstractStringBuilder" = some m.cls := findClass_of_methodNamed Bd.named
  have hnm := (name_of_methodNamed Bd.named Bd.method).1
  have hlk : meth.locks = false := BodyLoose.notSynchronized Bd
  have X0 : Stand p l e ({ frames := 0, cells := 0, slots := 0, locals := 0 } : Room) s m #[(.ref a1)] below meth c s₁ [] 0 0 := Stand.of_body Bd
  have e0 : s₁.heap = h0 := by rw [← hh, Bd.state]; rfl
  have N0 := Fr.nil n0
  have K0 : Keep h0 h0 [] := Keep.refl _ _
  show Gl p.tables e below (QQof s (Q_isl Z a1 bv k bs G1 h0 n0) 0 0) (s₁.setTop (entryFrame m #[(.ref a1)] 1))
  refine Gl.go (fun t k => castTop (ef_isl m a1) k) ?_
  show Gl _ _ _ _ (s₁.setTop (mkF m 0 #[.val (.ref a1)] []))
  obtain ⟨Eb, Vb, Cb, Nb, Ab⟩ := id B1
  obtain ⟨T1, X1, e1, st1⟩ := getS2 X0 hx hZ hown (host := "") (Or.inl (hw _ (List.mem_of_getElem? (i := 88) rfl))) Via.refl e0 SC (g := (mkF m 0 #[.val (.ref a1)] [])) rfl (hb hby d30_0)
  refine Gl.go (fun _ k => st1 _ k) ?_
  show Gl _ _ _ _ (T1.setTop (mkF m 3 #[.val (.ref a1)] [(.int G1)]))
  refine Gl.go (fun _ k => XS.ifNo X1.here hx rfl (hb hby d30_3) rfl ((if0 _ _).trans (feq P5).1) k) ?_
  show Gl _ _ _ _ (T1.setTop (mkF m 6 #[.val (.ref a1)] []))
  refine Gl.go (fun _ k => XS.aloadN X1.here hx rfl (hb hby d30_6) rfl rfl  k) ?_
  show Gl _ _ _ _ (T1.setTop (mkF m 7 #[.val (.ref a1)] [(.ref a1)]))
  obtain ⟨T2, X2, e2, st2⟩ := getF X1 hx hZ hown (host := "") (Or.inl (hw _ (List.mem_of_getElem? (i := 91) rfl))) Via.refl e1 Cb (g := (mkF m 7 #[.val (.ref a1)] [(.ref a1)])) rfl rfl (hb hby d30_7)
  refine Gl.go (fun _ k => st2 _ k) ?_
  show Gl _ _ _ _ (T2.setTop (mkF m 10 #[.val (.ref a1)] [(.int (0 : Int32))]))
  refine Gl.go (fun _ k => XS.ifNo X2.here hx rfl (hb hby d30_10) rfl ((if0 _ _).trans (teq rfl).2) k) ?_
  show Gl _ _ _ _ (T2.setTop (mkF m 13 #[.val (.ref a1)] []))
  refine Gl.go (fun _ k => XS.iconst X2.here hx rfl (hb hby d30_13) k) ?_
  show Gl _ _ _ _ (T2.setTop (mkF m 14 #[.val (.ref a1)] [(.int (1 : Int32))]))
  refine Gl.go (fun _ k => XS.goto X2.here hx rfl (pc0 := 14) (pc' := 18) rfl (hb hby d30_14) (by decide) (by decide) k) ?_
  show Gl _ _ _ _ (T2.setTop (mkF m 18 #[.val (.ref a1)] [(.int (1 : Int32))]))
  refine leafN X2 hx hlk (t := .boolean) Bd.returns (by simp) (hb hby d30_18) ?_ (by decide) (by decide)
  exact ⟨by rw [nar1], N0, e2⟩
def Q_chk (Z : State) (q1 : Int32) (h0 : Heap) (n0 : Nat) (v : Option Value) (h : Heap) (L : List Loc) : Prop := v = none ∧ Fr n0 L ∧ h = h0
set_option maxRecDepth 65536 in
set_option maxHeartbeats 40000000 in
theorem rm_chk (l : Launch) (Z : State) (a0 : Array Value) (hw : ∀ d ∈ tables_1, d.before a0 Z = true) (ws : List Jvm.Cond) (q1 : Int32) (h0 : Heap) (n0 : Nat) (Z0 : n0 ≤ h0.size) (hq : ¬ q1 < (0 : Int32)) :
    MetFree l (⟨"java/util/Arrays", "checkLength", "(II)V"⟩ : MethodName) (head1 (Jvm.Cond.code (⟨"java/util/Arrays", "checkLength", "(II)V"⟩ : MethodName) jdk_65_method_131_code 2 none :: ws) ({ frames := 0, cells := 0, slots := 0, locals := 0 } : Room)) (fun aa U => aa = #[(.int (0 : Int32)), (.int q1)] ∧ Z.Warmed39 U.vm ∧ U.heap = h0) (fun _ _ _ _ _ => True) (fun _ U o U' => ∃ v L, o = .returned v ∧ Q_chk Z q1 h0 n0 v U'.heap L ∧ FrameEnd U o U' L ({ frames := 0, cells := 0, slots := 0, locals := 0 } : Room).cells ({ frames := 0, cells := 0, slots := 0, locals := 0 } : Room).slots) := by
  refine MetFree.of_bodySF (plainFor_of_name pn_4) hisR ?_
  intro p e s m args below meth c s₁ Bd hml0 hP hK
  obtain ⟨rfl, hZ, hh⟩ := hP
  have hx := Bd.exec
  have hby := Bd.bytes
  have hml : c.maxLocals = 2 := hml0
  have hown : s.vm.findClass "java/util/Arrays" = some m.cls := findClass_of_methodNamed Bd.named
  have hnm := (name_of_methodNamed Bd.named Bd.method).1
  have hlk : meth.locks = false := BodyLoose.notSynchronized Bd
  have X0 : Stand p l e ({ frames := 0, cells := 0, slots := 0, locals := 0 } : Room) s m #[(.int (0 : Int32)), (.int q1)] below meth c s₁ [] 0 0 := Stand.of_body Bd
  have e0 : s₁.heap = h0 := by rw [← hh, Bd.state]; rfl
  have N0 := Fr.nil n0
  have K0 : Keep h0 h0 [] := Keep.refl _ _
  show Gl p.tables e below (QQof s (Q_chk Z q1 h0 n0) 0 0) (s₁.setTop (entryFrame m #[(.int (0 : Int32)), (.int q1)] 2))
  refine Gl.go (fun t k => castTop (ef_chk m (0 : Int32) q1) k) ?_
  show Gl _ _ _ _ (s₁.setTop (mkF m 0 #[.val (.int (0 : Int32)), .val (.int q1)] []))
  refine Gl.go (fun _ k => XS.iloadN X0.here hx rfl (hb hby d33_0) rfl  k) ?_
  show Gl _ _ _ _ (s₁.setTop (mkF m 1 #[.val (.int (0 : Int32)), .val (.int q1)] [(.int q1)]))
  refine Gl.go (fun _ k => XS.iloadN X0.here hx rfl (hb hby d33_1) rfl  k) ?_
  show Gl _ _ _ _ (s₁.setTop (mkF m 2 #[.val (.int (0 : Int32)), .val (.int q1)] [(.int (0 : Int32)), (.int q1)]))
  refine Gl.go (fun _ k => XS.icmpYes X0.here hx rfl (pc0 := 2) (pc' := 37) rfl (hb hby d33_2) rfl (flt hq).2.1 (by decide) (by decide) k) ?_
  show Gl _ _ _ _ (s₁.setTop (mkF m 37 #[.val (.int (0 : Int32)), .val (.int q1)] []))
  refine leafV X0 hx hlk Bd.returns (hb hby d33_37) ?_ (by decide) (by decide)
  exact ⟨rfl, N0, e0⟩
def Q_min (Z : State) (q1 q2 : Int32) (h0 : Heap) (n0 : Nat) (v : Option Value) (h : Heap) (L : List Loc) : Prop := v = some (.int (if q2 < q1 then q2 else q1)) ∧ Fr n0 L ∧ h = h0
set_option maxRecDepth 65536 in
set_option maxHeartbeats 40000000 in
theorem rm_min (l : Launch) (Z : State) (a0 : Array Value) (hw : ∀ d ∈ tables_1, d.before a0 Z = true) (ws : List Jvm.Cond) (q1 q2 : Int32) (h0 : Heap) (n0 : Nat) (Z0 : n0 ≤ h0.size)  :
    MetFree l (⟨"java/lang/Math", "min", "(II)I"⟩ : MethodName) (head1 (Jvm.Cond.code (⟨"java/lang/Math", "min", "(II)I"⟩ : MethodName) jdk_29_method_69_code 2 (some .int) :: ws) ({ frames := 0, cells := 0, slots := 0, locals := 0 } : Room)) (fun aa U => aa = #[(.int q1), (.int q2)] ∧ Z.Warmed39 U.vm ∧ U.heap = h0) (fun _ _ _ _ _ => True) (fun _ U o U' => ∃ v L, o = .returned v ∧ Q_min Z q1 q2 h0 n0 v U'.heap L ∧ FrameEnd U o U' L ({ frames := 0, cells := 0, slots := 0, locals := 0 } : Room).cells ({ frames := 0, cells := 0, slots := 0, locals := 0 } : Room).slots) := by
  refine MetFree.of_bodySF (by decide +kernel) hisR ?_
  intro p e s m args below meth c s₁ Bd hml0 hP hK
  obtain ⟨rfl, hZ, hh⟩ := hP
  have hx := Bd.exec
  have hby := Bd.bytes
  have hml : c.maxLocals = 2 := hml0
  have hown : s.vm.findClass "java/lang/Math" = some m.cls := findClass_of_methodNamed Bd.named
  have hnm := (name_of_methodNamed Bd.named Bd.method).1
  have hlk : meth.locks = false := BodyLoose.notSynchronized Bd
  have X0 : Stand p l e ({ frames := 0, cells := 0, slots := 0, locals := 0 } : Room) s m #[(.int q1), (.int q2)] below meth c s₁ [] 0 0 := Stand.of_body Bd
  have e0 : s₁.heap = h0 := by rw [← hh, Bd.state]; rfl
  have N0 := Fr.nil n0
  have K0 : Keep h0 h0 [] := Keep.refl _ _
  show Gl p.tables e below (QQof s (Q_min Z q1 q2 h0 n0) 0 0) (s₁.setTop (entryFrame m #[(.int q1), (.int q2)] 2))
  refine Gl.go (fun t k => castTop (ef_min m q1 q2) k) ?_
  show Gl _ _ _ _ (s₁.setTop (mkF m 0 #[.val (.int q1), .val (.int q2)] []))
  refine Gl.go (fun _ k => XS.iloadN X0.here hx rfl (hb hby d34_0) rfl  k) ?_
  show Gl _ _ _ _ (s₁.setTop (mkF m 1 #[.val (.int q1), .val (.int q2)] [(.int q1)]))
  refine Gl.go (fun _ k => XS.iloadN X0.here hx rfl (hb hby d34_1) rfl  k) ?_
  show Gl _ _ _ _ (s₁.setTop (mkF m 2 #[.val (.int q1), .val (.int q2)] [(.int q2), (.int q1)]))
  by_cases h2 : q2 < q1
  · skip
    refine Gl.go (fun _ k => XS.icmpYes X0.here hx rfl (pc0 := 2) (pc' := 9) rfl (hb hby d34_2) rfl (tlt h2).2.2.1 (by decide) (by decide) k) ?_
    show Gl _ _ _ _ (s₁.setTop (mkF m 9 #[.val (.int q1), .val (.int q2)] []))
    refine Gl.go (fun _ k => XS.iloadN X0.here hx rfl (hb hby d34_9) rfl  k) ?_
    show Gl _ _ _ _ (s₁.setTop (mkF m 10 #[.val (.int q1), .val (.int q2)] [(.int q2)]))
    refine leafI X0 hx hlk Bd.returns (hb hby d34_10) ?_ (by decide) (by decide)
    exact ⟨by rw [if_pos h2], N0, e0⟩
  · skip
    refine Gl.go (fun _ k => XS.icmpNo X0.here hx rfl (hb hby d34_2) rfl (flt h2).2.2.1 k) ?_
    show Gl _ _ _ _ (s₁.setTop (mkF m 5 #[.val (.int q1), .val (.int q2)] []))
    refine Gl.go (fun _ k => XS.iloadN X0.here hx rfl (hb hby d34_5) rfl  k) ?_
    show Gl _ _ _ _ (s₁.setTop (mkF m 6 #[.val (.int q1), .val (.int q2)] [(.int q1)]))
    refine Gl.go (fun _ k => XS.goto X0.here hx rfl (pc0 := 6) (pc' := 10) rfl (hb hby d34_6) (by decide) (by decide) k) ?_
    show Gl _ _ _ _ (s₁.setTop (mkF m 10 #[.val (.int q1), .val (.int q2)] [(.int q1)]))
    refine leafI X0 hx hlk Bd.returns (hb hby d34_10) ?_ (by decide) (by decide)
    exact ⟨by rw [if_neg h2], N0, e0⟩
def Q_crb (Z : State) (bv : Addr) (k : ClassId) (bs : List Int32) (h0 : Heap) (n0 : Nat) (v : Option Value) (h : Heap) (L : List Loc) : Prop := ∃ (b : Addr) (kb : ClassId), v = some (.ref b) ∧ Fr n0 L ∧ Keep h0 h [] ∧ h0.size ≤ b ∧ Arv Z h b kb .byte (Int32.ofNat bs.length) (bs.map Value.int) (.int (0 : Int32))
set_option maxRecDepth 65536 in
set_option maxHeartbeats 40000000 in
theorem rm_crb (l : Launch) (Z : State) (a0 : Array Value) (hw : ∀ d ∈ tables_1, d.before a0 Z = true) (ws : List Jvm.Cond) (bv : Addr) (k : ClassId) (bs : List Int32) (h0 : Heap) (n0 : Nat) (Z0 : n0 ≤ h0.size) (Ab : Arv Z h0 bv k .byte (16 : Int32) (bs.map Value.int) (.int (0 : Int32))) (hl : bs.length < 16) :
    MetFree l (⟨"java/util/Arrays", "copyOfRangeByte", "([BII)[B"⟩ : MethodName) (head1 (Jvm.Cond.code (⟨"java/util/Arrays", "copyOfRangeByte", "([BII)[B"⟩ : MethodName) jdk_65_method_133_code 5 (some (.array .byte)) :: ws) ({ frames := 1, cells := 1, slots := 16, locals := 18 } : Room)) (fun aa U => aa = #[(.ref bv), (.int (0 : Int32)), (.int (Int32.ofNat bs.length))] ∧ Z.Warmed39 U.vm ∧ U.heap = h0) (fun _ _ _ _ _ => True) (fun _ U o U' => ∃ v L, o = .returned v ∧ Q_crb Z bv k bs h0 n0 v U'.heap L ∧ FrameEnd U o U' L ({ frames := 1, cells := 1, slots := 16, locals := 18 } : Room).cells ({ frames := 1, cells := 1, slots := 16, locals := 18 } : Room).slots) := by
  refine MetFree.of_bodySF (plainFor_of_name pn_4) hisR ?_
  intro p e s m args below meth c s₁ Bd hml0 hP hK
  obtain ⟨rfl, hZ, hh⟩ := hP
  have hx := Bd.exec
  have hby := Bd.bytes
  have hml : c.maxLocals = 5 := hml0
  have hown : s.vm.findClass "java/util/Arrays" = some m.cls := findClass_of_methodNamed Bd.named
  have hnm := (name_of_methodNamed Bd.named Bd.method).1
  have hlk : meth.locks = false := BodyLoose.notSynchronized Bd
  have X0 : Stand p l e ({ frames := 1, cells := 1, slots := 16, locals := 18 } : Room) s m #[(.ref bv), (.int (0 : Int32)), (.int (Int32.ofNat bs.length))] below meth c s₁ [] 0 0 := Stand.of_body Bd
  have e0 : s₁.heap = h0 := by rw [← hh, Bd.state]; rfl
  have N0 := Fr.nil n0
  have K0 : Keep h0 h0 [] := Keep.refl _ _
  show Gl p.tables e below (QQof s (Q_crb Z bv k bs h0 n0) 1 16) (s₁.setTop (entryFrame m #[(.ref bv), (.int (0 : Int32)), (.int (Int32.ofNat bs.length))] 5))
  refine Gl.go (fun t k => castTop (ef_crb m bv (0 : Int32) (Int32.ofNat bs.length)) k) ?_
  show Gl _ _ _ _ (s₁.setTop (mkF m 0 #[.val (.ref bv), .val (.int (0 : Int32)), .val (.int (Int32.ofNat bs.length)), .unset, .unset] []))
  refine Gl.go (fun _ k => XS.iloadN X0.here hx rfl (hb hby d32_0) rfl  k) ?_
  show Gl _ _ _ _ (s₁.setTop (mkF m 1 #[.val (.ref bv), .val (.int (0 : Int32)), .val (.int (Int32.ofNat bs.length)), .unset, .unset] [(.int (0 : Int32))]))
  refine Gl.go (fun _ k => XS.iloadN X0.here hx rfl (hb hby d32_1) rfl  k) ?_
  show Gl _ _ _ _ (s₁.setTop (mkF m 2 #[.val (.ref bv), .val (.int (0 : Int32)), .val (.int (Int32.ofNat bs.length)), .unset, .unset] [(.int (Int32.ofNat bs.length)), (.int (0 : Int32))]))
  obtain ⟨_, _, ⟨T1, L1, k1, n1⟩, -, X1, ⟨Lc1, hQ1, l1, y1, z1⟩, st1⟩ := Jvm.LawKit.callS X0 hx (y := (⟨"java/util/Arrays", "checkLength", "(II)V"⟩ : MethodName)) hown (mvT hZ (hw _ (List.mem_of_getElem? (i := 180) rfl))) (mvT hZ (hw _ (List.mem_of_getElem? (i := 181) rfl))) (mvT hZ (hw _ (List.mem_of_getElem? (i := 175) rfl))) (mvT hZ (hw _ (List.mem_of_getElem? (i := 182) rfl))) (by decide) (backOf (W := 0) (rm_chk l Z a0 hw [] (Int32.ofNat bs.length) h0 n0 Z0 (i32_pos (by omega))) hZ (hw _ (List.mem_of_getElem? (i := 182) rfl)) (hw _ (List.mem_of_getElem? (i := 175) rfl)) (by decide) (by decide)) (g := (mkF m 2 #[.val (.ref bv), .val (.int (0 : Int32)), .val (.int (Int32.ofNat bs.length)), .unset, .unset] [(.int (Int32.ofNat bs.length)), (.int (0 : Int32))])) rfl (by rw [hml]; rfl) (argsL := [(.int (0 : Int32)), (.int (Int32.ofNat bs.length))]) (rest := []) (lenOf pd_8 rfl) rfl (by show 2 * 0 + _ ≤ _; exact Nat.le_of_eq rfl) (hb hby d32_2) (fun _ _ => ⟨rfl, e0, (by decide : 0 + 0 ≤ _), (by decide : 0 + 0 ≤ _)⟩)
  dsimp only [Pt.U, Pt.locs, Pt.cells, Pt.slots] at X1 l1 y1 z1 st1 hQ1
  subst y1 z1
  obtain ⟨rfl, Nq1, e1⟩ := hQ1
  have N1 : Fr n0 L1 := by rw [l1]; exact Fr.app N0 Nq1
  refine Gl.go (fun _ k => st1 _ k) ?_
  show Gl _ _ _ _ (T1.setTop (mkF m 5 #[.val (.ref bv), .val (.int (0 : Int32)), .val (.int (Int32.ofNat bs.length)), .unset, .unset] []))
  refine Gl.go (fun _ k => XS.iloadN X1.here hx rfl (hb hby d32_5) rfl  k) ?_
  show Gl _ _ _ _ (T1.setTop (mkF m 6 #[.val (.ref bv), .val (.int (0 : Int32)), .val (.int (Int32.ofNat bs.length)), .unset, .unset] [(.int (Int32.ofNat bs.length))]))
  refine Gl.go (fun _ k => XS.iloadN X1.here hx rfl (hb hby d32_6) rfl  k) ?_
  show Gl _ _ _ _ (T1.setTop (mkF m 7 #[.val (.ref bv), .val (.int (0 : Int32)), .val (.int (Int32.ofNat bs.length)), .unset, .unset] [(.int (0 : Int32)), (.int (Int32.ofNat bs.length))]))
  refine Gl.go (fun _ k => XS.isub X1.here hx rfl (hb hby d32_7) rfl k) ?_
  show Gl _ _ _ _ (T1.setTop (mkF m 8 #[.val (.ref bv), .val (.int (0 : Int32)), .val (.int (Int32.ofNat bs.length)), .unset, .unset] [(.int ((Int32.ofNat bs.length) - (0 : Int32)))]))
  rw [(own_zero _ : ((Int32.ofNat bs.length) - (0 : Int32)) = (Int32.ofNat bs.length))]
  show Gl _ _ _ _ (T1.setTop (mkF m 8 #[.val (.ref bv), .val (.int (0 : Int32)), .val (.int (Int32.ofNat bs.length)), .unset, .unset] [(.int (Int32.ofNat bs.length))]))
  refine Gl.go (fun _ k => XS.istoreN X1.here hx rfl (hb hby d32_8) rfl (l' := #[.val (.ref bv), .val (.int (0 : Int32)), .val (.int (Int32.ofNat bs.length)), .val (.int (Int32.ofNat bs.length)), .unset]) rfl k) ?_
  show Gl _ _ _ _ (T1.setTop (mkF m 9 #[.val (.ref bv), .val (.int (0 : Int32)), .val (.int (Int32.ofNat bs.length)), .val (.int (Int32.ofNat bs.length)), .unset] []))
  refine Gl.go (fun _ k => XS.iloadN X1.here hx rfl (hb hby d32_9) rfl  k) ?_
  show Gl _ _ _ _ (T1.setTop (mkF m 10 #[.val (.ref bv), .val (.int (0 : Int32)), .val (.int (Int32.ofNat bs.length)), .val (.int (Int32.ofNat bs.length)), .unset] [(.int (Int32.ofNat bs.length))]))
  obtain ⟨T2, h2, cA2, X2, e2, E2, A2, st2⟩ := newP X1 hx hZ (hw _ (List.mem_of_getElem? (i := 19) rfl)) e1 (g := (mkF m 10 #[.val (.ref bv), .val (.int (0 : Int32)), .val (.int (Int32.ofNat bs.length)), .val (.int (Int32.ofNat bs.length)), .unset] [(.int (Int32.ofNat bs.length))])) rfl (hb hby d32_10) rfl (i32_pos (by omega)) (cap := 16) (by rw [i32_nat (by omega)]; omega) (by decide) (by decide) (by decide)
  obtain ⟨b2, g2⟩ : ∃ z, z = h0.size := ⟨_, rfl⟩
  rw [← g2] at A2 st2
  have g_b2 : n0 ≤ b2 := Nat.le_trans Z0 (Nat.le_of_eq g2.symm)
  have sz_b2 : h0.size ≤ b2 := Nat.le_trans K0.1 (Nat.le_of_eq g2.symm)
  have ne_bv_b2 : bv ≠ b2 := Nat.ne_of_lt (Nat.lt_of_lt_of_le Ab.lt (Nat.le_of_eq g2.symm))
  have V_bv_2 : Arv Z h2 bv k .byte (16 : Int32) (bs.map Value.int) (.int (0 : Int32)) := Ab.ext E2
  have SZ2 : n0 ≤ h2.size := Nat.le_trans Z0 E2.1
  have K2 : Keep h0 h2 [] := K0.ext E2
  have V_b2_2 : Arv Z h2 b2 cA2 .byte (Int32.ofNat bs.length) [] (.int (0 : Int32)) := (Arv.new A2 (i32_pos (by omega))).pad (pad_rep [] _ 0)
  refine Gl.go (fun _ k => st2 _ k) ?_
  show Gl _ _ _ _ (T2.setTop (mkF m 12 #[.val (.ref bv), .val (.int (0 : Int32)), .val (.int (Int32.ofNat bs.length)), .val (.int (Int32.ofNat bs.length)), .unset] [(.ref b2)]))
  refine Gl.go (fun _ k => XS.astore X2.here hx rfl (hb hby d32_12) rfl rfl (l' := #[.val (.ref bv), .val (.int (0 : Int32)), .val (.int (Int32.ofNat bs.length)), .val (.int (Int32.ofNat bs.length)), .val (.ref b2)]) rfl k) ?_
  show Gl _ _ _ _ (T2.setTop (mkF m 14 #[.val (.ref bv), .val (.int (0 : Int32)), .val (.int (Int32.ofNat bs.length)), .val (.int (Int32.ofNat bs.length)), .val (.ref b2)] []))
  refine Gl.go (fun _ k => XS.aloadN X2.here hx rfl (hb hby d32_14) rfl rfl  k) ?_
  show Gl _ _ _ _ (T2.setTop (mkF m 15 #[.val (.ref bv), .val (.int (0 : Int32)), .val (.int (Int32.ofNat bs.length)), .val (.int (Int32.ofNat bs.length)), .val (.ref b2)] [(.ref bv)]))
  refine Gl.go (fun _ k => XS.iloadN X2.here hx rfl (hb hby d32_15) rfl  k) ?_
  show Gl _ _ _ _ (T2.setTop (mkF m 16 #[.val (.ref bv), .val (.int (0 : Int32)), .val (.int (Int32.ofNat bs.length)), .val (.int (Int32.ofNat bs.length)), .val (.ref b2)] [(.int (0 : Int32)), (.ref bv)]))
  refine Gl.go (fun _ k => XS.aload X2.here hx rfl (hb hby d32_16) rfl rfl  k) ?_
  show Gl _ _ _ _ (T2.setTop (mkF m 18 #[.val (.ref bv), .val (.int (0 : Int32)), .val (.int (Int32.ofNat bs.length)), .val (.int (Int32.ofNat bs.length)), .val (.ref b2)] [(.ref b2), (.int (0 : Int32)), (.ref bv)]))
  refine Gl.go (fun _ k => XS.iconst X2.here hx rfl (hb hby d32_18) k) ?_
  show Gl _ _ _ _ (T2.setTop (mkF m 19 #[.val (.ref bv), .val (.int (0 : Int32)), .val (.int (Int32.ofNat bs.length)), .val (.int (Int32.ofNat bs.length)), .val (.ref b2)] [(.int (0 : Int32)), (.ref b2), (.int (0 : Int32)), (.ref bv)]))
  refine Gl.go (fun _ k => XS.aloadN X2.here hx rfl (hb hby d32_19) rfl rfl  k) ?_
  show Gl _ _ _ _ (T2.setTop (mkF m 20 #[.val (.ref bv), .val (.int (0 : Int32)), .val (.int (Int32.ofNat bs.length)), .val (.int (Int32.ofNat bs.length)), .val (.ref b2)] [(.ref bv), (.int (0 : Int32)), (.ref b2), (.int (0 : Int32)), (.ref bv)]))
  obtain ⟨cl3, Ar3, qA3, SA3, NA3, HA3, GA3⟩ := id V_bv_2
  refine Gl.go (fun _ k => X2.arraylength hx (by rw [e2]; exact Ar3.1) (State.isArrayOf_alike hZ.alike Ar3.2.1) (g := (mkF m 20 #[.val (.ref bv), .val (.int (0 : Int32)), .val (.int (Int32.ofNat bs.length)), .val (.int (Int32.ofNat bs.length)), .val (.ref b2)] [(.ref bv), (.int (0 : Int32)), (.ref b2), (.int (0 : Int32)), (.ref bv)])) rfl rfl (hb hby d32_20) _ k) ?_
  rw [len_of SA3 NA3]
  show Gl _ _ _ _ (T2.setTop (mkF m 21 #[.val (.ref bv), .val (.int (0 : Int32)), .val (.int (Int32.ofNat bs.length)), .val (.int (Int32.ofNat bs.length)), .val (.ref b2)] [(.int (16 : Int32)), (.int (0 : Int32)), (.ref b2), (.int (0 : Int32)), (.ref bv)]))
  refine Gl.go (fun _ k => XS.iloadN X2.here hx rfl (hb hby d32_21) rfl  k) ?_
  show Gl _ _ _ _ (T2.setTop (mkF m 22 #[.val (.ref bv), .val (.int (0 : Int32)), .val (.int (Int32.ofNat bs.length)), .val (.int (Int32.ofNat bs.length)), .val (.ref b2)] [(.int (0 : Int32)), (.int (16 : Int32)), (.int (0 : Int32)), (.ref b2), (.int (0 : Int32)), (.ref bv)]))
  refine Gl.go (fun _ k => XS.isub X2.here hx rfl (hb hby d32_22) rfl k) ?_
  show Gl _ _ _ _ (T2.setTop (mkF m 23 #[.val (.ref bv), .val (.int (0 : Int32)), .val (.int (Int32.ofNat bs.length)), .val (.int (Int32.ofNat bs.length)), .val (.ref b2)] [(.int ((16 : Int32) - (0 : Int32))), (.int (0 : Int32)), (.ref b2), (.int (0 : Int32)), (.ref bv)]))
  rw [(own_zero _ : ((16 : Int32) - (0 : Int32)) = (16 : Int32))]
  show Gl _ _ _ _ (T2.setTop (mkF m 23 #[.val (.ref bv), .val (.int (0 : Int32)), .val (.int (Int32.ofNat bs.length)), .val (.int (Int32.ofNat bs.length)), .val (.ref b2)] [(.int (16 : Int32)), (.int (0 : Int32)), (.ref b2), (.int (0 : Int32)), (.ref bv)]))
  refine Gl.go (fun _ k => XS.iloadN X2.here hx rfl (hb hby d32_23) rfl  k) ?_
  show Gl _ _ _ _ (T2.setTop (mkF m 24 #[.val (.ref bv), .val (.int (0 : Int32)), .val (.int (Int32.ofNat bs.length)), .val (.int (Int32.ofNat bs.length)), .val (.ref b2)] [(.int (Int32.ofNat bs.length)), (.int (16 : Int32)), (.int (0 : Int32)), (.ref b2), (.int (0 : Int32)), (.ref bv)]))
  obtain ⟨_, _, ⟨T4, L4, k4, n4⟩, -, X4, ⟨Lc4, hQ4, l4, y4, z4⟩, st4⟩ := Jvm.LawKit.callS X2 hx (y := (⟨"java/lang/Math", "min", "(II)I"⟩ : MethodName)) hown (mvT hZ (hw _ (List.mem_of_getElem? (i := 183) rfl))) (mvT hZ (hw _ (List.mem_of_getElem? (i := 184) rfl))) (mvT hZ (hw _ (List.mem_of_getElem? (i := 185) rfl))) (mvT hZ (hw _ (List.mem_of_getElem? (i := 186) rfl))) (by decide) (backOf (W := 4) (rm_min l Z a0 hw [] (16 : Int32) (Int32.ofNat bs.length) h2 n0 SZ2 ) hZ (hw _ (List.mem_of_getElem? (i := 186) rfl)) (hw _ (List.mem_of_getElem? (i := 185) rfl)) (by decide) (by decide)) (g := (mkF m 24 #[.val (.ref bv), .val (.int (0 : Int32)), .val (.int (Int32.ofNat bs.length)), .val (.int (Int32.ofNat bs.length)), .val (.ref b2)] [(.int (Int32.ofNat bs.length)), (.int (16 : Int32)), (.int (0 : Int32)), (.ref b2), (.int (0 : Int32)), (.ref bv)])) rfl (by rw [hml]; rfl) (argsL := [(.int (16 : Int32)), (.int (Int32.ofNat bs.length))]) (rest := [(.int (0 : Int32)), (.ref b2), (.int (0 : Int32)), (.ref bv)]) (lenOf pd_9 rfl) rfl (by show 2 * 0 + _ ≤ _; exact Nat.le_of_eq rfl) (hb hby d32_24) (fun _ _ => ⟨rfl, e2, (by decide : 1 + 0 ≤ _), (by decide : 16 + 0 ≤ _)⟩)
  dsimp only [Pt.U, Pt.locs, Pt.cells, Pt.slots] at X4 l4 y4 z4 st4 hQ4
  subst y4 z4
  obtain ⟨rfl, Nq4, e4⟩ := hQ4
  have N4 : Fr n0 L4 := by rw [l4]; exact Fr.app N1 Nq4
  refine Gl.go (fun _ k => st4 _ k) ?_
  show Gl _ _ _ _ (T4.setTop (mkF m 27 #[.val (.ref bv), .val (.int (0 : Int32)), .val (.int (Int32.ofNat bs.length)), .val (.int (Int32.ofNat bs.length)), .val (.ref b2)] [(.int (if (Int32.ofNat bs.length) < (16 : Int32) then (Int32.ofNat bs.length) else (16 : Int32))), (.int (0 : Int32)), (.ref b2), (.int (0 : Int32)), (.ref bv)]))
  rw [(own_min (by omega) : (if (Int32.ofNat bs.length) < (16 : Int32) then (Int32.ofNat bs.length) else (16 : Int32)) = (Int32.ofNat bs.length))]
  show Gl _ _ _ _ (T4.setTop (mkF m 27 #[.val (.ref bv), .val (.int (0 : Int32)), .val (.int (Int32.ofNat bs.length)), .val (.int (Int32.ofNat bs.length)), .val (.ref b2)] [(.int (Int32.ofNat bs.length)), (.int (0 : Int32)), (.ref b2), (.int (0 : Int32)), (.ref bv)]))
  obtain ⟨T5, h5, L5, X5, e5, N5, K_5, A5, st5⟩ := cpA X4 hx hZ hown (hw _ (List.mem_of_getElem? (i := 187) rfl)) (hw _ (List.mem_of_getElem? (i := 139) rfl)) (hw _ (List.mem_of_getElem? (i := 137) rfl)) (hw _ (List.mem_of_getElem? (i := 138) rfl)) e4 (us := (bs.map Value.int)) V_bv_2 (V_b2_2.pad (pad_rep _ _ 16)) (Or.inl ⟨rfl, rfl⟩) (by decide) (by decide) (i32_pos (by omega)) (by rw [i32_nat (by omega)]; show 0 + _ ≤ 16; omega) (own_src bs) (own_us bs (by omega)) (by rw [i32_nat (by omega)]; show 0 + _ ≤ _; simp; omega) N4 g_b2 (g := (mkF m 27 #[.val (.ref bv), .val (.int (0 : Int32)), .val (.int (Int32.ofNat bs.length)), .val (.int (Int32.ofNat bs.length)), .val (.ref b2)] [(.int (Int32.ofNat bs.length)), (.int (0 : Int32)), (.ref b2), (.int (0 : Int32)), (.ref bv)])) rfl (by rw [hml]; rfl) (rest := []) rfl (hb hby d32_27) (by decide) (W := 0) (by show 2 * 0 + _ ≤ _; exact Nat.le_of_eq rfl) (by decide)
  refine Gl.go (fun _ k => st5 _ k) ?_
  have V_bv_5 : Arv Z h5 bv k .byte (16 : Int32) (bs.map Value.int) (.int (0 : Int32)) := V_bv_2.keep K_5 (ninS ne_bv_b2 nin0)
  have SZ5 : n0 ≤ h5.size := Nat.le_trans SZ2 K_5.1
  have K5 : Keep h0 h5 [] := K2.trans K_5 (allS (Or.inr sz_b2) all0)
  show Gl _ _ _ _ (T5.setTop (mkF m 30 #[.val (.ref bv), .val (.int (0 : Int32)), .val (.int (Int32.ofNat bs.length)), .val (.int (Int32.ofNat bs.length)), .val (.ref b2)] []))
  refine Gl.go (fun _ k => XS.aload X5.here hx rfl (hb hby d32_30) rfl rfl  k) ?_
  show Gl _ _ _ _ (T5.setTop (mkF m 32 #[.val (.ref bv), .val (.int (0 : Int32)), .val (.int (Int32.ofNat bs.length)), .val (.int (Int32.ofNat bs.length)), .val (.ref b2)] [(.ref b2)]))
  refine leafA X5 hx hlk Bd.returns rfl rfl (hb hby d32_32) ?_ (by decide) (by decide)
  rw [e5]
  exact ⟨b2, _, rfl, N5, K5, sz_b2, A5.pad (own_copy (bs := bs) (by omega))⟩
def Q_cor (Z : State) (bv : Addr) (k : ClassId) (bs : List Int32) (h0 : Heap) (n0 : Nat) (v : Option Value) (h : Heap) (L : List Loc) : Prop := ∃ (b : Addr) (kb : ClassId), v = some (.ref b) ∧ Fr n0 L ∧ Keep h0 h [] ∧ h0.size ≤ b ∧ Arv Z h b kb .byte (Int32.ofNat bs.length) (bs.map Value.int) (.int (0 : Int32))
set_option maxRecDepth 65536 in
set_option maxHeartbeats 40000000 in
theorem rm_cor (l : Launch) (Z : State) (a0 : Array Value) (hw : ∀ d ∈ tables_1, d.before a0 Z = true) (ws : List Jvm.Cond) (bv : Addr) (k : ClassId) (bs : List Int32) (h0 : Heap) (n0 : Nat) (Z0 : n0 ≤ h0.size) (Ab : Arv Z h0 bv k .byte (16 : Int32) (bs.map Value.int) (.int (0 : Int32))) (hl : bs.length < 16) :
    MetFree l (⟨"java/util/Arrays", "copyOfRange", "([BII)[B"⟩ : MethodName) (head1 (Jvm.Cond.code (⟨"java/util/Arrays", "copyOfRange", "([BII)[B"⟩ : MethodName) jdk_65_method_132_code 3 (some (.array .byte)) :: ws) ({ frames := 2, cells := 1, slots := 16, locals := 34 } : Room)) (fun aa U => aa = #[(.ref bv), (.int (0 : Int32)), (.int (Int32.ofNat bs.length))] ∧ Z.Warmed39 U.vm ∧ U.heap = h0) (fun _ _ _ _ _ => True) (fun _ U o U' => ∃ v L, o = .returned v ∧ Q_cor Z bv k bs h0 n0 v U'.heap L ∧ FrameEnd U o U' L ({ frames := 2, cells := 1, slots := 16, locals := 34 } : Room).cells ({ frames := 2, cells := 1, slots := 16, locals := 34 } : Room).slots) := by
  refine MetFree.of_bodySF (plainFor_of_name pn_4) hisR ?_
  intro p e s m args below meth c s₁ Bd hml0 hP hK
  obtain ⟨rfl, hZ, hh⟩ := hP
  have hx := Bd.exec
  have hby := Bd.bytes
  have hml : c.maxLocals = 3 := hml0
  have hown : s.vm.findClass "java/util/Arrays" = some m.cls := findClass_of_methodNamed Bd.named
  have hnm := (name_of_methodNamed Bd.named Bd.method).1
  have hlk : meth.locks = false := BodyLoose.notSynchronized Bd
  have X0 : Stand p l e ({ frames := 2, cells := 1, slots := 16, locals := 34 } : Room) s m #[(.ref bv), (.int (0 : Int32)), (.int (Int32.ofNat bs.length))] below meth c s₁ [] 0 0 := Stand.of_body Bd
  have e0 : s₁.heap = h0 := by rw [← hh, Bd.state]; rfl
  have N0 := Fr.nil n0
  have K0 : Keep h0 h0 [] := Keep.refl _ _
  show Gl p.tables e below (QQof s (Q_cor Z bv k bs h0 n0) 1 16) (s₁.setTop (entryFrame m #[(.ref bv), (.int (0 : Int32)), (.int (Int32.ofNat bs.length))] 3))
  refine Gl.go (fun t k => castTop (ef_cor m bv (0 : Int32) (Int32.ofNat bs.length)) k) ?_
  show Gl _ _ _ _ (s₁.setTop (mkF m 0 #[.val (.ref bv), .val (.int (0 : Int32)), .val (.int (Int32.ofNat bs.length))] []))
  refine Gl.go (fun _ k => XS.iloadN X0.here hx rfl (hb hby d31_0) rfl  k) ?_
  show Gl _ _ _ _ (s₁.setTop (mkF m 1 #[.val (.ref bv), .val (.int (0 : Int32)), .val (.int (Int32.ofNat bs.length))] [(.int (0 : Int32))]))
  refine Gl.go (fun _ k => XS.ifNo X0.here hx rfl (hb hby d31_1) rfl ((if0 _ _).trans (teq rfl).2) k) ?_
  show Gl _ _ _ _ (s₁.setTop (mkF m 4 #[.val (.ref bv), .val (.int (0 : Int32)), .val (.int (Int32.ofNat bs.length))] []))
  refine Gl.go (fun _ k => XS.iloadN X0.here hx rfl (hb hby d31_4) rfl  k) ?_
  show Gl _ _ _ _ (s₁.setTop (mkF m 5 #[.val (.ref bv), .val (.int (0 : Int32)), .val (.int (Int32.ofNat bs.length))] [(.int (Int32.ofNat bs.length))]))
  refine Gl.go (fun _ k => XS.aloadN X0.here hx rfl (hb hby d31_5) rfl rfl  k) ?_
  show Gl _ _ _ _ (s₁.setTop (mkF m 6 #[.val (.ref bv), .val (.int (0 : Int32)), .val (.int (Int32.ofNat bs.length))] [(.ref bv), (.int (Int32.ofNat bs.length))]))
  obtain ⟨cl1, Ar1, qA1, SA1, NA1, HA1, GA1⟩ := id Ab
  refine Gl.go (fun _ k => X0.arraylength hx (by rw [e0]; exact Ar1.1) (State.isArrayOf_alike hZ.alike Ar1.2.1) (g := (mkF m 6 #[.val (.ref bv), .val (.int (0 : Int32)), .val (.int (Int32.ofNat bs.length))] [(.ref bv), (.int (Int32.ofNat bs.length))])) rfl rfl (hb hby d31_6) _ k) ?_
  rw [len_of SA1 NA1]
  show Gl _ _ _ _ (s₁.setTop (mkF m 7 #[.val (.ref bv), .val (.int (0 : Int32)), .val (.int (Int32.ofNat bs.length))] [(.int (16 : Int32)), (.int (Int32.ofNat bs.length))]))
  refine Gl.go (fun _ k => XS.icmpNo X0.here hx rfl (hb hby d31_7) rfl (feq (own_ne16 hl)).1 k) ?_
  show Gl _ _ _ _ (s₁.setTop (mkF m 10 #[.val (.ref bv), .val (.int (0 : Int32)), .val (.int (Int32.ofNat bs.length))] []))
  refine Gl.go (fun _ k => XS.aloadN X0.here hx rfl (hb hby d31_10) rfl rfl  k) ?_
  show Gl _ _ _ _ (s₁.setTop (mkF m 11 #[.val (.ref bv), .val (.int (0 : Int32)), .val (.int (Int32.ofNat bs.length))] [(.ref bv)]))
  refine Gl.go (fun _ k => XS.iloadN X0.here hx rfl (hb hby d31_11) rfl  k) ?_
  show Gl _ _ _ _ (s₁.setTop (mkF m 12 #[.val (.ref bv), .val (.int (0 : Int32)), .val (.int (Int32.ofNat bs.length))] [(.int (0 : Int32)), (.ref bv)]))
  refine Gl.go (fun _ k => XS.iloadN X0.here hx rfl (hb hby d31_12) rfl  k) ?_
  show Gl _ _ _ _ (s₁.setTop (mkF m 13 #[.val (.ref bv), .val (.int (0 : Int32)), .val (.int (Int32.ofNat bs.length))] [(.int (Int32.ofNat bs.length)), (.int (0 : Int32)), (.ref bv)]))
  obtain ⟨_, _, ⟨T2, L2, k2, n2⟩, -, X2, ⟨Lc2, hQ2, l2, y2, z2⟩, st2⟩ := Jvm.LawKit.callS X0 hx (y := (⟨"java/util/Arrays", "copyOfRangeByte", "([BII)[B"⟩ : MethodName)) hown (mvT hZ (hw _ (List.mem_of_getElem? (i := 177) rfl))) (mvT hZ (hw _ (List.mem_of_getElem? (i := 178) rfl))) (mvT hZ (hw _ (List.mem_of_getElem? (i := 175) rfl))) (mvT hZ (hw _ (List.mem_of_getElem? (i := 179) rfl))) (by decide) (backOf (W := 0) (rm_crb l Z a0 hw [] bv k bs h0 n0 Z0 Ab hl) hZ (hw _ (List.mem_of_getElem? (i := 179) rfl)) (hw _ (List.mem_of_getElem? (i := 175) rfl)) (by decide) (by decide)) (g := (mkF m 13 #[.val (.ref bv), .val (.int (0 : Int32)), .val (.int (Int32.ofNat bs.length))] [(.int (Int32.ofNat bs.length)), (.int (0 : Int32)), (.ref bv)])) rfl (by rw [hml]; rfl) (argsL := [(.ref bv), (.int (0 : Int32)), (.int (Int32.ofNat bs.length))]) (rest := []) (lenOf pd_10 rfl) rfl (by show 2 * 0 + _ ≤ _; exact Nat.le_of_eq rfl) (hb hby d31_13) (fun _ _ => ⟨rfl, e0, (by decide : 0 + 1 ≤ _), (by decide : 0 + 16 ≤ _)⟩)
  dsimp only [Pt.U, Pt.locs, Pt.cells, Pt.slots] at X2 l2 y2 z2 st2 hQ2
  subst y2 z2
  obtain ⟨b2, k2', rfl, Nq2, Kc2, gz2, Ac2⟩ := hQ2
  have N2 : Fr n0 L2 := by rw [l2]; exact Fr.app N0 Nq2
  refine Gl.go (fun _ k => st2 _ k) ?_
  have Ex2 := ext_of_keep Kc2
  have V_bv_2 : Arv Z T2.heap bv k .byte (16 : Int32) (bs.map Value.int) (.int (0 : Int32)) := Ab.ext Ex2
  have SZ2 : n0 ≤ T2.heap.size := Nat.le_trans Z0 Ex2.1
  have K2 : Keep h0 T2.heap [] := K0.ext Ex2
  show Gl _ _ _ _ (T2.setTop (mkF m 16 #[.val (.ref bv), .val (.int (0 : Int32)), .val (.int (Int32.ofNat bs.length))] [(.ref b2)]))
  refine leafA X2 hx hlk Bd.returns rfl rfl (hb hby d31_16) ?_ (by decide) (by decide)
  exact ⟨b2, k2', rfl, N2, K2, gz2, Ac2⟩
def Q_sib (Z : State) (s1 a1 bv : Addr) (k : ClassId) (bs : List Int32) (u_value u_coder : Value) (G1 : Int32) (h0 : Heap) (n0 : Nat) (v : Option Value) (h : Heap) (L : List Loc) : Prop := v = none ∧ Fr n0 L ∧ Keep h0 h [s1] ∧ StrAt Z h s1 bs
set_option maxRecDepth 65536 in
set_option maxHeartbeats 40000000 in
theorem rm_sib (l : Launch) (Z : State) (a0 : Array Value) (hw : ∀ d ∈ tables_1, d.before a0 Z = true) (ws : List Jvm.Cond) (s1 a1 bv : Addr) (k : ClassId) (bs : List Int32) (u_value u_coder : Value) (G1 : Int32) (h0 : Heap) (n0 : Nat) (Z0 : n0 ≤ h0.size) (E_a1 : Exa Z h0 s1 "java/lang/String") (F_value : Fld Z h0 s1 "java/lang/String" "value" "[B" u_value) (F_coder : Fld Z h0 s1 "java/lang/String" "coder" "B" u_coder) (g_s1 : n0 ≤ s1) (B1 : BldAt Z h0 a1 bv k bs) (hl : bs.length < 16) (ne1 : bv ≠ s1) (SC : Sta Z h0 "java/lang/String" "COMPACT_STRINGS" "Z" (.int G1)) (P5 : ¬ (G1 = (0 : Int32))) :
    MetFree l (⟨"java/lang/String", "<init>", "(Ljava/lang/AbstractStringBuilder;Ljava/lang/Void;)V"⟩ : MethodName) (head1 (Jvm.Cond.code (⟨"java/lang/String", "<init>", "(Ljava/lang/AbstractStringBuilder;Ljava/lang/Void;)V"⟩ : MethodName) jdk_42_method_150_code 5 none :: ws) ({ frames := 3, cells := 1, slots := 16, locals := 49 } : Room)) (fun aa U => aa = #[(.ref s1), (.ref a1), .null] ∧ Z.Warmed39 U.vm ∧ U.heap = h0) (fun _ _ _ _ _ => True) (fun _ U o U' => ∃ v L, o = .returned v ∧ Q_sib Z s1 a1 bv k bs u_value u_coder G1 h0 n0 v U'.heap L ∧ FrameEnd U o U' L ({ frames := 3, cells := 1, slots := 16, locals := 49 } : Room).cells ({ frames := 3, cells := 1, slots := 16, locals := 49 } : Room).slots) := by
  refine MetFree.of_bodySF (plainFor_of_name pn_1) hisR ?_
  intro p e s m args below meth c s₁ Bd hml0 hP hK
  obtain ⟨rfl, hZ, hh⟩ := hP
  have hx := Bd.exec
  have hby := Bd.bytes
  have hml : c.maxLocals = 5 := hml0
  have hown : s.vm.findClass "java/lang/String" = some m.cls := findClass_of_methodNamed Bd.named
  have hnm := (name_of_methodNamed Bd.named Bd.method).1
  have hlk : meth.locks = false := BodyLoose.notSynchronized Bd
  have X0 : Stand p l e ({ frames := 3, cells := 1, slots := 16, locals := 49 } : Room) s m #[(.ref s1), (.ref a1), .null] below meth c s₁ [] 0 0 := Stand.of_body Bd
  have e0 : s₁.heap = h0 := by rw [← hh, Bd.state]; rfl
  have N0 := Fr.nil n0
  have K0 : Keep h0 h0 [s1] := Keep.refl _ _
  show Gl p.tables e below (QQof s (Q_sib Z s1 a1 bv k bs u_value u_coder G1 h0 n0) 1 16) (s₁.setTop (entryFrame m #[(.ref s1), (.ref a1), .null] 5))
  refine Gl.go (fun t k => castTop (ef_sib m s1 a1) k) ?_
  show Gl _ _ _ _ (s₁.setTop (mkF m 0 #[.val (.ref s1), .val (.ref a1), .val .null, .unset, .unset] []))
  obtain ⟨Eb, Vb, Cb, Nb, Ab⟩ := id B1
  refine Gl.go (fun _ k => XS.aloadN X0.here hx rfl (hb hby d26_0) rfl rfl  k) ?_
  show Gl _ _ _ _ (s₁.setTop (mkF m 1 #[.val (.ref s1), .val (.ref a1), .val .null, .unset, .unset] [(.ref s1)]))
  obtain ⟨T1, X1, e1, st1⟩ := initO X0 hx hZ hown (hw _ (List.mem_of_getElem? (i := 11) rfl)) (hw _ (List.mem_of_getElem? (i := 12) rfl)) (hw _ (List.mem_of_getElem? (i := 13) rfl)) e0 (g := (mkF m 1 #[.val (.ref s1), .val (.ref a1), .val .null, .unset, .unset] [(.ref s1)])) rfl (by rw [hml]; rfl) rfl (hb hby d26_1) (by decide) (W := 0) (by show 2 * 0 + _ ≤ _; exact Nat.le_of_eq rfl) (by decide)
  refine Gl.go (fun _ k => st1 _ k) ?_
  show Gl _ _ _ _ (T1.setTop (mkF m 4 #[.val (.ref s1), .val (.ref a1), .val .null, .unset, .unset] []))
  refine Gl.go (fun _ k => XS.aloadN X1.here hx rfl (hb hby d26_4) rfl rfl  k) ?_
  show Gl _ _ _ _ (T1.setTop (mkF m 5 #[.val (.ref s1), .val (.ref a1), .val .null, .unset, .unset] [(.ref a1)]))
  obtain ⟨cq2, kq2, q2a, q2b, q2c⟩ := isOf hZ e1 Eb
  obtain ⟨_, _, ⟨T2, L2, k2, n2⟩, -, X2, ⟨Lc2, hQ2, l2, y2, z2⟩, st2⟩ := X1.virtualBack hx (y := (⟨"java/lang/AbstractStringBuilder", "getValue", "()[B"⟩ : MethodName)) (z := (⟨"java/lang/AbstractStringBuilder", "getValue", "()[B"⟩ : MethodName)) hown (mvT hZ (hw _ (List.mem_of_getElem? (i := 155) rfl))) (mvT hZ (hw _ (List.mem_of_getElem? (i := 156) rfl))) (notFace_of_selects (args := #[]) (mvT hZ (hw _ (List.mem_of_getElem? (i := 158) rfl)))) (mvT hZ (hw _ (List.mem_of_getElem? (i := 158) rfl))) (mvT hZ (hw _ (List.mem_of_getElem? (i := 157) rfl))) (by decide) (backOf (W := 0) (rm_gva l Z a0 hw [] a1 bv k bs h0 n0 Z0 B1) hZ (hw _ (List.mem_of_getElem? (i := 159) rfl)) (hw _ (List.mem_of_getElem? (i := 85) rfl)) (by decide) (by decide)) q2a q2c (g := (mkF m 5 #[.val (.ref s1), .val (.ref a1), .val .null, .unset, .unset] [(.ref a1)])) rfl (by rw [hml]; rfl) (Steps.refl _) (argsL := []) (rest := []) (lenOf pd_11 rfl) rfl (by show 2 * 0 + _ ≤ _; exact Nat.le_of_eq rfl) (hb hby d26_5) (fun _ _ => ⟨rfl, e1, (by decide : 0 + 0 ≤ _), (by decide : 0 + 0 ≤ _)⟩)
  dsimp only [Pt.U, Pt.locs, Pt.cells, Pt.slots] at X2 l2 y2 z2 st2 hQ2
  subst y2 z2
  obtain ⟨rfl, Nq2, e2⟩ := hQ2
  have N2 : Fr n0 L2 := by rw [l2]; exact Fr.app N0 Nq2
  refine Gl.go (fun _ k => st2.trans k) ?_
  show Gl _ _ _ _ (T2.setTop (mkF m 8 #[.val (.ref s1), .val (.ref a1), .val .null, .unset, .unset] [(.ref bv)]))
  refine Gl.go (fun _ k => XS.astoreN X2.here hx rfl (hb hby d26_8) rfl rfl (l' := #[.val (.ref s1), .val (.ref a1), .val .null, .val (.ref bv), .unset]) rfl k) ?_
  show Gl _ _ _ _ (T2.setTop (mkF m 9 #[.val (.ref s1), .val (.ref a1), .val .null, .val (.ref bv), .unset] []))
  refine Gl.go (fun _ k => XS.aloadN X2.here hx rfl (hb hby d26_9) rfl rfl  k) ?_
  show Gl _ _ _ _ (T2.setTop (mkF m 10 #[.val (.ref s1), .val (.ref a1), .val .null, .val (.ref bv), .unset] [(.ref a1)]))
  obtain ⟨cq3, kq3, q3a, q3b, q3c⟩ := isOf hZ e2 Eb
  obtain ⟨_, _, ⟨T3, L3, k3, n3⟩, -, X3, ⟨Lc3, hQ3, l3, y3, z3⟩, st3⟩ := X2.virtualBack hx (y := (⟨"java/lang/AbstractStringBuilder", "length", "()I"⟩ : MethodName)) (z := (⟨"java/lang/StringBuilder", "length", "()I"⟩ : MethodName)) hown (mvT hZ (hw _ (List.mem_of_getElem? (i := 160) rfl))) (mvT hZ (hw _ (List.mem_of_getElem? (i := 161) rfl))) (nfOf (args := #[]) (y' := (⟨"java/lang/AbstractStringBuilder", "ensureCapacityInternal", "(I)V"⟩ : MethodName)) rfl (mvT hZ (hw _ (List.mem_of_getElem? (i := 118) rfl)))) (mvT hZ (hw _ (List.mem_of_getElem? (i := 163) rfl))) (mvT hZ (hw _ (List.mem_of_getElem? (i := 164) rfl))) (by decide) (backOf (W := 0) (rm_sbl l Z a0 hw [] a1 bv k bs h0 n0 Z0 B1) hZ (hw _ (List.mem_of_getElem? (i := 165) rfl)) (hw _ (List.mem_of_getElem? (i := 77) rfl)) (by decide) (by decide)) q3a q3c (g := (mkF m 10 #[.val (.ref s1), .val (.ref a1), .val .null, .val (.ref bv), .unset] [(.ref a1)])) rfl (by rw [hml]; rfl) (Steps.refl _) (argsL := []) (rest := []) (lenOf pd_5 rfl) rfl (by show 2 * 0 + _ ≤ _; exact Nat.le_of_eq rfl) (hb hby d26_10) (fun _ _ => ⟨rfl, e2, (by decide : 0 + 0 ≤ _), (by decide : 0 + 0 ≤ _)⟩)
  dsimp only [Pt.U, Pt.locs, Pt.cells, Pt.slots] at X3 l3 y3 z3 st3 hQ3
  subst y3 z3
  obtain ⟨rfl, Nq3, e3⟩ := hQ3
  have N3 : Fr n0 L3 := by rw [l3]; exact Fr.app N2 Nq3
  refine Gl.go (fun _ k => st3.trans k) ?_
  show Gl _ _ _ _ (T3.setTop (mkF m 13 #[.val (.ref s1), .val (.ref a1), .val .null, .val (.ref bv), .unset] [(.int (Int32.ofNat bs.length))]))
  refine Gl.go (fun _ k => XS.istore X3.here hx rfl (hb hby d26_13) rfl (l' := #[.val (.ref s1), .val (.ref a1), .val .null, .val (.ref bv), .val (.int (Int32.ofNat bs.length))]) rfl k) ?_
  show Gl _ _ _ _ (T3.setTop (mkF m 15 #[.val (.ref s1), .val (.ref a1), .val .null, .val (.ref bv), .val (.int (Int32.ofNat bs.length))] []))
  refine Gl.go (fun _ k => XS.aloadN X3.here hx rfl (hb hby d26_15) rfl rfl  k) ?_
  show Gl _ _ _ _ (T3.setTop (mkF m 16 #[.val (.ref s1), .val (.ref a1), .val .null, .val (.ref bv), .val (.int (Int32.ofNat bs.length))] [(.ref a1)]))
  obtain ⟨cq4, kq4, q4a, q4b, q4c⟩ := isOf hZ e3 Eb
  obtain ⟨_, _, ⟨T4, L4, k4, n4⟩, -, X4, ⟨Lc4, hQ4, l4, y4, z4⟩, st4⟩ := X3.virtualBack hx (y := (⟨"java/lang/AbstractStringBuilder", "isLatin1", "()Z"⟩ : MethodName)) (z := (⟨"java/lang/AbstractStringBuilder", "isLatin1", "()Z"⟩ : MethodName)) hown (mvT hZ (hw _ (List.mem_of_getElem? (i := 168) rfl))) (mvT hZ (hw _ (List.mem_of_getElem? (i := 169) rfl))) (notFace_of_selects (args := #[]) (mvT hZ (hw _ (List.mem_of_getElem? (i := 171) rfl)))) (mvT hZ (hw _ (List.mem_of_getElem? (i := 171) rfl))) (mvT hZ (hw _ (List.mem_of_getElem? (i := 170) rfl))) (by decide) (backOf (W := 0) (rm_isl l Z a0 hw [] a1 bv k bs G1 h0 n0 Z0 B1 SC P5) hZ (hw _ (List.mem_of_getElem? (i := 172) rfl)) (hw _ (List.mem_of_getElem? (i := 85) rfl)) (by decide) (by decide)) q4a q4c (g := (mkF m 16 #[.val (.ref s1), .val (.ref a1), .val .null, .val (.ref bv), .val (.int (Int32.ofNat bs.length))] [(.ref a1)])) rfl (by rw [hml]; rfl) (Steps.refl _) (argsL := []) (rest := []) (lenOf pd_12 rfl) rfl (by show 2 * 0 + _ ≤ _; exact Nat.le_of_eq rfl) (hb hby d26_16) (fun _ _ => ⟨rfl, e3, (by decide : 0 + 0 ≤ _), (by decide : 0 + 0 ≤ _)⟩)
  dsimp only [Pt.U, Pt.locs, Pt.cells, Pt.slots] at X4 l4 y4 z4 st4 hQ4
  subst y4 z4
  obtain ⟨rfl, Nq4, e4⟩ := hQ4
  have N4 : Fr n0 L4 := by rw [l4]; exact Fr.app N3 Nq4
  refine Gl.go (fun _ k => st4.trans k) ?_
  show Gl _ _ _ _ (T4.setTop (mkF m 19 #[.val (.ref s1), .val (.ref a1), .val .null, .val (.ref bv), .val (.int (Int32.ofNat bs.length))] [(.int (1 : Int32))]))
  refine Gl.go (fun _ k => XS.ifNo X4.here hx rfl (hb hby d26_19) rfl ((if0 _ _).trans (feq (by decide)).1) k) ?_
  show Gl _ _ _ _ (T4.setTop (mkF m 22 #[.val (.ref s1), .val (.ref a1), .val .null, .val (.ref bv), .val (.int (Int32.ofNat bs.length))] []))
  refine Gl.go (fun _ k => XS.aloadN X4.here hx rfl (hb hby d26_22) rfl rfl  k) ?_
  show Gl _ _ _ _ (T4.setTop (mkF m 23 #[.val (.ref s1), .val (.ref a1), .val .null, .val (.ref bv), .val (.int (Int32.ofNat bs.length))] [(.ref s1)]))
  refine Gl.go (fun _ k => XS.iconst X4.here hx rfl (hb hby d26_23) k) ?_
  show Gl _ _ _ _ (T4.setTop (mkF m 24 #[.val (.ref s1), .val (.ref a1), .val .null, .val (.ref bv), .val (.int (Int32.ofNat bs.length))] [(.int (0 : Int32)), (.ref s1)]))
  obtain ⟨T5, h5, X5, e5, W5, st5⟩ := putFN X4 hx hZ hown (hw _ (List.mem_of_getElem? (i := 26) rfl)) Via.refl e4 F_coder E_a1 (Or.inr ⟨(hw _ (List.mem_of_getElem? (i := 27) rfl)), rfl, hnm⟩) (hw _ (List.mem_of_getElem? (i := 1) rfl)) (ty := .byte) (v' := (.int (nar .byte (0 : Int32)))) (by decide) rfl (fits_nar_byte _) (g := (mkF m 24 #[.val (.ref s1), .val (.ref a1), .val .null, .val (.ref bv), .val (.int (Int32.ofNat bs.length))] [(.int (0 : Int32)), (.ref s1)])) rfl rfl (hb hby d26_24)
  have E_s1_5 : Exa Z h5 s1 "java/lang/String" := E_a1.wr W5
  have F_s1_value_5 : Fld Z h5 s1 "java/lang/String" "value" "[B" u_value := F_value.other W5 (Or.inr (slot_ne (t := (.array .byte)) (t' := .byte) (Or.inr (hw _ (List.mem_of_getElem? (i := 29) rfl))) (Or.inr (hw _ (List.mem_of_getElem? (i := 27) rfl))) (by decide) (by decide) (by decide)))
  have F_s1_coder_5 : Fld Z h5 s1 "java/lang/String" "coder" "B" (.int (nar .byte (0 : Int32))) := F_coder.same W5
  have V_bv_5 : Arv Z h5 bv k .byte (16 : Int32) (bs.map Value.int) (.int (0 : Int32)) := Ab.other W5 ne1
  have SZ5 : n0 ≤ h5.size := by rw [Wr.size W5]; exact Z0
  have K5 : Keep h0 h5 [s1] := K0.wr W5 (Or.inl (List.mem_of_getElem? (i := 0) rfl))
  have N5 := Fr.snoc X5 N4 g_s1
  refine Gl.go (fun _ k => st5 _ k) ?_
  show Gl _ _ _ _ (T5.setTop (mkF m 27 #[.val (.ref s1), .val (.ref a1), .val .null, .val (.ref bv), .val (.int (Int32.ofNat bs.length))] []))
  refine Gl.go (fun _ k => XS.aloadN X5.here hx rfl (hb hby d26_27) rfl rfl  k) ?_
  show Gl _ _ _ _ (T5.setTop (mkF m 28 #[.val (.ref s1), .val (.ref a1), .val .null, .val (.ref bv), .val (.int (Int32.ofNat bs.length))] [(.ref s1)]))
  refine Gl.go (fun _ k => XS.aloadN X5.here hx rfl (hb hby d26_28) rfl rfl  k) ?_
  show Gl _ _ _ _ (T5.setTop (mkF m 29 #[.val (.ref s1), .val (.ref a1), .val .null, .val (.ref bv), .val (.int (Int32.ofNat bs.length))] [(.ref bv), (.ref s1)]))
  refine Gl.go (fun _ k => XS.iconst X5.here hx rfl (hb hby d26_29) k) ?_
  show Gl _ _ _ _ (T5.setTop (mkF m 30 #[.val (.ref s1), .val (.ref a1), .val .null, .val (.ref bv), .val (.int (Int32.ofNat bs.length))] [(.int (0 : Int32)), (.ref bv), (.ref s1)]))
  refine Gl.go (fun _ k => XS.iload X5.here hx rfl (hb hby d26_30) rfl  k) ?_
  show Gl _ _ _ _ (T5.setTop (mkF m 32 #[.val (.ref s1), .val (.ref a1), .val .null, .val (.ref bv), .val (.int (Int32.ofNat bs.length))] [(.int (Int32.ofNat bs.length)), (.int (0 : Int32)), (.ref bv), (.ref s1)]))
  obtain ⟨_, _, ⟨T6, L6, k6, n6⟩, -, X6, ⟨Lc6, hQ6, l6, y6, z6⟩, st6⟩ := Jvm.LawKit.callS X5 hx (y := (⟨"java/util/Arrays", "copyOfRange", "([BII)[B"⟩ : MethodName)) hown (mvT hZ (hw _ (List.mem_of_getElem? (i := 173) rfl))) (mvT hZ (hw _ (List.mem_of_getElem? (i := 174) rfl))) (mvT hZ (hw _ (List.mem_of_getElem? (i := 175) rfl))) (mvT hZ (hw _ (List.mem_of_getElem? (i := 176) rfl))) (by decide) (backOf (W := 1) (rm_cor l Z a0 hw [] bv k bs h5 n0 SZ5 V_bv_5 hl) hZ (hw _ (List.mem_of_getElem? (i := 176) rfl)) (hw _ (List.mem_of_getElem? (i := 175) rfl)) (by decide) (by decide)) (g := (mkF m 32 #[.val (.ref s1), .val (.ref a1), .val .null, .val (.ref bv), .val (.int (Int32.ofNat bs.length))] [(.int (Int32.ofNat bs.length)), (.int (0 : Int32)), (.ref bv), (.ref s1)])) rfl (by rw [hml]; rfl) (argsL := [(.ref bv), (.int (0 : Int32)), (.int (Int32.ofNat bs.length))]) (rest := [(.ref s1)]) (lenOf pd_10 rfl) rfl (by show 2 * 0 + _ ≤ _; exact Nat.le_of_eq rfl) (hb hby d26_32) (fun _ _ => ⟨rfl, e5, (by decide : 0 + 1 ≤ _), (by decide : 0 + 16 ≤ _)⟩)
  dsimp only [Pt.U, Pt.locs, Pt.cells, Pt.slots] at X6 l6 y6 z6 st6 hQ6
  subst y6 z6
  obtain ⟨b6, k6', rfl, Nq6, Kc6, gz6, Ac6⟩ := hQ6
  have N6 : Fr n0 L6 := by rw [l6]; exact Fr.app N5 Nq6
  refine Gl.go (fun _ k => st6 _ k) ?_
  have Ex6 := ext_of_keep Kc6
  have E_s1_6 : Exa Z T6.heap s1 "java/lang/String" := E_s1_5.ext Ex6
  have F_s1_value_6 : Fld Z T6.heap s1 "java/lang/String" "value" "[B" u_value := F_s1_value_5.ext Ex6
  have F_s1_coder_6 : Fld Z T6.heap s1 "java/lang/String" "coder" "B" (.int (nar .byte (0 : Int32))) := F_s1_coder_5.ext Ex6
  have V_bv_6 : Arv Z T6.heap bv k .byte (16 : Int32) (bs.map Value.int) (.int (0 : Int32)) := V_bv_5.ext Ex6
  have SZ6 : n0 ≤ T6.heap.size := Nat.le_trans SZ5 Ex6.1
  have K6 : Keep h0 T6.heap [s1] := K5.ext Ex6
  show Gl _ _ _ _ (T6.setTop (mkF m 35 #[.val (.ref s1), .val (.ref a1), .val .null, .val (.ref bv), .val (.int (Int32.ofNat bs.length))] [(.ref b6), (.ref s1)]))
  have ne2 : b6 ≠ s1 := Nat.ne_of_gt (Nat.lt_of_lt_of_le E_s1_5.lt gz6)
  obtain ⟨T7, h7, X7, e7, W7, st7⟩ := putF X6 hx hZ hown (host := "") (Or.inl (hw _ (List.mem_of_getElem? (i := 28) rfl))) Via.refl rfl F_s1_value_6 E_s1_6 (Or.inr ⟨(hw _ (List.mem_of_getElem? (i := 29) rfl)), rfl, hnm⟩) (hw _ (List.mem_of_getElem? (i := 1) rfl)) (ty := (.array .byte)) (by decide) rfl rfl (g := (mkF m 35 #[.val (.ref s1), .val (.ref a1), .val .null, .val (.ref bv), .val (.int (Int32.ofNat bs.length))] [(.ref b6), (.ref s1)])) rfl rfl (hb hby d26_35)
  have E_s1_7 : Exa Z h7 s1 "java/lang/String" := E_s1_6.wr W7
  have F_s1_value_7 : Fld Z h7 s1 "java/lang/String" "value" "[B" (.ref b6) := F_s1_value_6.same W7
  have F_s1_coder_7 : Fld Z h7 s1 "java/lang/String" "coder" "B" (.int (nar .byte (0 : Int32))) := F_s1_coder_6.other W7 (Or.inr (slot_ne (t := .byte) (t' := (.array .byte)) (Or.inr (hw _ (List.mem_of_getElem? (i := 27) rfl))) (Or.inr (hw _ (List.mem_of_getElem? (i := 29) rfl))) (by decide) (by decide) (by decide)))
  have V_bv_7 : Arv Z h7 bv k .byte (16 : Int32) (bs.map Value.int) (.int (0 : Int32)) := V_bv_6.other W7 ne1
  have V_b6_7 : Arv Z h7 b6 k6' .byte (Int32.ofNat bs.length) (bs.map Value.int) (.int (0 : Int32)) := Ac6.other W7 ne2
  have SZ7 : n0 ≤ h7.size := by rw [Wr.size W7]; exact SZ6
  have K7 : Keep h0 h7 [s1] := K6.wr W7 (Or.inl (List.mem_of_getElem? (i := 0) rfl))
  have N7 := Fr.snoc X7 N6 g_s1
  refine Gl.go (fun _ k => st7 _ k) ?_
  show Gl _ _ _ _ (T7.setTop (mkF m 38 #[.val (.ref s1), .val (.ref a1), .val .null, .val (.ref bv), .val (.int (Int32.ofNat bs.length))] []))
  refine Gl.go (fun _ k => XS.goto X7.here hx rfl (pc0 := 38) (pc' := 97) rfl (hb hby d26_38) (by decide) (by decide) k) ?_
  show Gl _ _ _ _ (T7.setTop (mkF m 97 #[.val (.ref s1), .val (.ref a1), .val .null, .val (.ref bv), .val (.int (Int32.ofNat bs.length))] []))
  refine leafV X7 hx hlk Bd.returns (hb hby d26_97) ?_ (by decide) (by decide)
  rw [e7]
  exact ⟨rfl, N7, K7, E_s1_7, by rw [← own_nar0]; exact F_s1_coder_7, by omega, b6, _, F_s1_value_7, V_b6_7⟩
def Q_sis (Z : State) (s1 a1 bv : Addr) (k : ClassId) (bs : List Int32) (u_value u_coder : Value) (G1 : Int32) (h0 : Heap) (n0 : Nat) (v : Option Value) (h : Heap) (L : List Loc) : Prop := v = none ∧ Fr n0 L ∧ Keep h0 h [s1] ∧ StrAt Z h s1 bs
set_option maxRecDepth 65536 in
set_option maxHeartbeats 40000000 in
theorem rm_sis (l : Launch) (Z : State) (a0 : Array Value) (hw : ∀ d ∈ tables_1, d.before a0 Z = true) (ws : List Jvm.Cond) (s1 a1 bv : Addr) (k : ClassId) (bs : List Int32) (u_value u_coder : Value) (G1 : Int32) (h0 : Heap) (n0 : Nat) (Z0 : n0 ≤ h0.size) (E_a1 : Exa Z h0 s1 "java/lang/String") (F_value : Fld Z h0 s1 "java/lang/String" "value" "[B" u_value) (F_coder : Fld Z h0 s1 "java/lang/String" "coder" "B" u_coder) (g_s1 : n0 ≤ s1) (B1 : BldAt Z h0 a1 bv k bs) (hl : bs.length < 16) (ne1 : bv ≠ s1) (SC : Sta Z h0 "java/lang/String" "COMPACT_STRINGS" "Z" (.int G1)) (P5 : ¬ (G1 = (0 : Int32))) :
    MetFree l (⟨"java/lang/String", "<init>", "(Ljava/lang/StringBuilder;)V"⟩ : MethodName) (head1 (Jvm.Cond.code (⟨"java/lang/String", "<init>", "(Ljava/lang/StringBuilder;)V"⟩ : MethodName) jdk_42_method_53_code 2 none :: ws) ({ frames := 4, cells := 1, slots := 16, locals := 65 } : Room)) (fun aa U => aa = #[(.ref s1), (.ref a1)] ∧ Z.Warmed39 U.vm ∧ U.heap = h0) (fun _ _ _ _ _ => True) (fun _ U o U' => ∃ v L, o = .returned v ∧ Q_sis Z s1 a1 bv k bs u_value u_coder G1 h0 n0 v U'.heap L ∧ FrameEnd U o U' L ({ frames := 4, cells := 1, slots := 16, locals := 65 } : Room).cells ({ frames := 4, cells := 1, slots := 16, locals := 65 } : Room).slots) := by
  refine MetFree.of_bodySF (plainFor_of_name pn_1) hisR ?_
  intro p e s m args below meth c s₁ Bd hml0 hP hK
  obtain ⟨rfl, hZ, hh⟩ := hP
  have hx := Bd.exec
  have hby := Bd.bytes
  have hml : c.maxLocals = 2 := hml0
  have hown : s.vm.findClass "java/lang/String" = some m.cls := findClass_of_methodNamed Bd.named
  have hnm := (name_of_methodNamed Bd.named Bd.method).1
  have hlk : meth.locks = false := BodyLoose.notSynchronized Bd
  have X0 : Stand p l e ({ frames := 4, cells := 1, slots := 16, locals := 65 } : Room) s m #[(.ref s1), (.ref a1)] below meth c s₁ [] 0 0 := Stand.of_body Bd
  have e0 : s₁.heap = h0 := by rw [← hh, Bd.state]; rfl
  have N0 := Fr.nil n0
  have K0 : Keep h0 h0 [s1] := Keep.refl _ _
  show Gl p.tables e below (QQof s (Q_sis Z s1 a1 bv k bs u_value u_coder G1 h0 n0) 1 16) (s₁.setTop (entryFrame m #[(.ref s1), (.ref a1)] 2))
  refine Gl.go (fun t k => castTop (ef_sis m s1 a1) k) ?_
  show Gl _ _ _ _ (s₁.setTop (mkF m 0 #[.val (.ref s1), .val (.ref a1)] []))
  refine Gl.go (fun _ k => XS.aloadN X0.here hx rfl (hb hby d25_0) rfl rfl  k) ?_
  show Gl _ _ _ _ (s₁.setTop (mkF m 1 #[.val (.ref s1), .val (.ref a1)] [(.ref s1)]))
  refine Gl.go (fun _ k => XS.aloadN X0.here hx rfl (hb hby d25_1) rfl rfl  k) ?_
  show Gl _ _ _ _ (s₁.setTop (mkF m 2 #[.val (.ref s1), .val (.ref a1)] [(.ref a1), (.ref s1)]))
  refine Gl.go (fun _ k => XS.aconstNull X0.here hx rfl (hb hby d25_2) k) ?_
  show Gl _ _ _ _ (s₁.setTop (mkF m 3 #[.val (.ref s1), .val (.ref a1)] [.null, (.ref a1), (.ref s1)]))
  obtain ⟨_, _, ⟨T1, L1, k1, n1⟩, -, X1, ⟨Lc1, hQ1, l1, y1, z1⟩, st1⟩ := X0.specialBack hx (y := (⟨"java/lang/String", "<init>", "(Ljava/lang/AbstractStringBuilder;Ljava/lang/Void;)V"⟩ : MethodName)) rfl hown (mvT hZ (hw _ (List.mem_of_getElem? (i := 152) rfl))) (mvT hZ (hw _ (List.mem_of_getElem? (i := 153) rfl))) (mvT hZ (hw _ (List.mem_of_getElem? (i := 154) rfl))) (by decide) (backOf (W := 0) (rm_sib l Z a0 hw [] s1 a1 bv k bs u_value u_coder G1 h0 n0 Z0 E_a1 F_value F_coder g_s1 B1 hl ne1 SC P5) hZ (hw _ (List.mem_of_getElem? (i := 154) rfl)) (hw _ (List.mem_of_getElem? (i := 2) rfl)) (by decide) (by decide)) (g := (mkF m 3 #[.val (.ref s1), .val (.ref a1)] [.null, (.ref a1), (.ref s1)])) rfl (by rw [hml]; rfl) (Steps.refl _) (a := s1) (argsL := [(.ref a1), .null]) (rest := []) (lenOf pd_13 rfl) rfl (by show 2 * 0 + _ ≤ _; exact Nat.le_of_eq rfl) (hb hby d25_3) (fun _ _ => ⟨rfl, e0, (by decide : 0 + 1 ≤ _), (by decide : 0 + 16 ≤ _)⟩)
  dsimp only [Pt.U, Pt.locs, Pt.cells, Pt.slots] at X1 l1 y1 z1 st1 hQ1
  subst y1 z1
  obtain ⟨rfl, Nq1, Kc1, Sc1⟩ := hQ1
  have N1 : Fr n0 L1 := by rw [l1]; exact Fr.app N0 Nq1
  refine Gl.go (fun _ k => st1.trans k) ?_
  have SZ1 : n0 ≤ T1.heap.size := Nat.le_trans Z0 Kc1.1
  have K1 : Keep h0 T1.heap [s1] := K0.trans Kc1 (allS (Or.inl (List.mem_of_getElem? (i := 0) rfl)) all0)
  show Gl _ _ _ _ (T1.setTop (mkF m 6 #[.val (.ref s1), .val (.ref a1)] []))
  refine leafV X1 hx hlk Bd.returns (hb hby d25_6) ?_ (by decide) (by decide)
  exact ⟨rfl, N1, K1, Sc1⟩
def Q_tos (Z : State) (a1 bv : Addr) (k : ClassId) (bs : List Int32) (G1 : Int32) (h0 : Heap) (n0 : Nat) (v : Option Value) (h : Heap) (L : List Loc) : Prop := ∃ a : Addr, v = some (.ref a) ∧ Fr n0 L ∧ Keep h0 h [] ∧ h0.size ≤ a ∧ StrAt Z h a bs
set_option maxRecDepth 65536 in
set_option maxHeartbeats 40000000 in
theorem rm_tos (l : Launch) (Z : State) (a0 : Array Value) (hw : ∀ d ∈ tables_1, d.before a0 Z = true) (ws : List Jvm.Cond) (a1 bv : Addr) (k : ClassId) (bs : List Int32) (G1 : Int32) (h0 : Heap) (n0 : Nat) (Z0 : n0 ≤ h0.size) (B1 : BldAt Z h0 a1 bv k bs) (hl : bs.length < 16) (SC : Sta Z h0 "java/lang/String" "COMPACT_STRINGS" "Z" (.int G1)) (P5 : ¬ (G1 = (0 : Int32))) :
    MetFree l (⟨"java/lang/StringBuilder", "toString", "()Ljava/lang/String;"⟩ : MethodName) (head1 (Jvm.Cond.code (⟨"java/lang/StringBuilder", "toString", "()Ljava/lang/String;"⟩ : MethodName) jdk_67_method_42_code 1 (some (.object "java/lang/String")) :: ws) ({ frames := 5, cells := 2, slots := 20, locals := 79 } : Room)) (fun aa U => aa = #[(.ref a1)] ∧ Z.Warmed39 U.vm ∧ U.heap = h0) (fun _ _ _ _ _ => True) (fun _ U o U' => ∃ v L, o = .returned v ∧ Q_tos Z a1 bv k bs G1 h0 n0 v U'.heap L ∧ FrameEnd U o U' L ({ frames := 5, cells := 2, slots := 20, locals := 79 } : Room).cells ({ frames := 5, cells := 2, slots := 20, locals := 79 } : Room).slots) := by
  refine MetFree.of_bodySF (plainFor_of_name pn_3) hisR ?_
  intro p e s m args below meth c s₁ Bd hml0 hP hK
  obtain ⟨rfl, hZ, hh⟩ := hP
  have hx := Bd.exec
  have hby := Bd.bytes
  have hml : c.maxLocals = 1 := hml0
  have hown : s.vm.findClass "java/lang/StringBuilder" = some m.cls := findClass_of_methodNamed Bd.named
  have hnm := (name_of_methodNamed Bd.named Bd.method).1
  have hlk : meth.locks = false := BodyLoose.notSynchronized Bd
  have X0 : Stand p l e ({ frames := 5, cells := 2, slots := 20, locals := 79 } : Room) s m #[(.ref a1)] below meth c s₁ [] 0 0 := Stand.of_body Bd
  have e0 : s₁.heap = h0 := by rw [← hh, Bd.state]; rfl
  have N0 := Fr.nil n0
  have K0 : Keep h0 h0 [] := Keep.refl _ _
  show Gl p.tables e below (QQof s (Q_tos Z a1 bv k bs G1 h0 n0) 2 20) (s₁.setTop (entryFrame m #[(.ref a1)] 1))
  refine Gl.go (fun t k => castTop (ef_tos m a1) k) ?_
  show Gl _ _ _ _ (s₁.setTop (mkF m 0 #[.val (.ref a1)] []))
  have hlt := B1.2.2.2.2.lt
  obtain ⟨T1, h1, X1, e1, E1, A1, D1, -, st1⟩ := newO X0 hx hZ hown (hw _ (List.mem_of_getElem? (i := 148) rfl)) (hw _ (List.mem_of_getElem? (i := 1) rfl)) (hw _ (List.mem_of_getElem? (i := 2) rfl)) e0 (g := (mkF m 0 #[.val (.ref a1)] [])) rfl (hb hby d24_0) (by decide) (by decide)
  obtain ⟨b1, g1⟩ : ∃ z, z = h0.size := ⟨_, rfl⟩
  rw [← g1] at A1 D1 st1
  have g_b1 : n0 ≤ b1 := Nat.le_trans Z0 (Nat.le_of_eq g1.symm)
  have sz_b1 : h0.size ≤ b1 := Nat.le_trans K0.1 (Nat.le_of_eq g1.symm)
  have SZ1 : n0 ≤ h1.size := Nat.le_trans Z0 E1.1
  have K1 : Keep h0 h1 [] := K0.ext E1
  have F_b1_coder_1 : Fld Z h1 b1 "java/lang/String" "coder" "B" (.int (0 : Int32)) := D1 (Or.inr (hw _ (List.mem_of_getElem? (i := 27) rfl))) (ty := .byte) (by decide)
  have F_b1_value_1 : Fld Z h1 b1 "java/lang/String" "value" "[B" .null := D1 (Or.inr (hw _ (List.mem_of_getElem? (i := 29) rfl))) (ty := (.array .byte)) (by decide)
  refine Gl.go (fun _ k => st1 _ k) ?_
  show Gl _ _ _ _ (T1.setTop (mkF m 3 #[.val (.ref a1)] [(.ref b1)]))
  refine Gl.go (fun _ k => XS.dup X1.here hx rfl (hb hby d24_3) rfl rfl k) ?_
  show Gl _ _ _ _ (T1.setTop (mkF m 4 #[.val (.ref a1)] [(.ref b1), (.ref b1)]))
  refine Gl.go (fun _ k => XS.aloadN X1.here hx rfl (hb hby d24_4) rfl rfl  k) ?_
  show Gl _ _ _ _ (T1.setTop (mkF m 5 #[.val (.ref a1)] [(.ref a1), (.ref b1), (.ref b1)]))
  obtain ⟨_, _, ⟨T2, L2, k2, n2⟩, -, X2, ⟨Lc2, hQ2, l2, y2, z2⟩, st2⟩ := X1.specialBack hx (y := (⟨"java/lang/String", "<init>", "(Ljava/lang/StringBuilder;)V"⟩ : MethodName)) rfl hown (mvT hZ (hw _ (List.mem_of_getElem? (i := 149) rfl))) (mvT hZ (hw _ (List.mem_of_getElem? (i := 150) rfl))) (mvT hZ (hw _ (List.mem_of_getElem? (i := 151) rfl))) (by decide) (backOf (W := 1) (rm_sis l Z a0 hw [] b1 a1 bv k bs .null (.int 0) G1 h1 n0 SZ1 A1 F_b1_value_1 F_b1_coder_1 g_b1 (B1.ext E1) hl (Nat.ne_of_lt (Nat.lt_of_lt_of_le hlt sz_b1)) (SC.ext E1) P5) hZ (hw _ (List.mem_of_getElem? (i := 151) rfl)) (hw _ (List.mem_of_getElem? (i := 2) rfl)) (by decide) (by decide)) (g := (mkF m 5 #[.val (.ref a1)] [(.ref a1), (.ref b1), (.ref b1)])) rfl (by rw [hml]; rfl) (Steps.refl _) (a := b1) (argsL := [(.ref a1)]) (rest := [(.ref b1)]) (lenOf pd_14 rfl) rfl (by show 2 * 0 + _ ≤ _; exact Nat.le_of_eq rfl) (hb hby d24_5) (fun _ _ => ⟨rfl, e1, (by decide : 1 + 1 ≤ _), (by decide : 4 + 16 ≤ _)⟩)
  dsimp only [Pt.U, Pt.locs, Pt.cells, Pt.slots] at X2 l2 y2 z2 st2 hQ2
  subst y2 z2
  obtain ⟨rfl, Nq2, Kc2, Sc2⟩ := hQ2
  have N2 : Fr n0 L2 := by rw [l2]; exact Fr.app N0 Nq2
  refine Gl.go (fun _ k => st2.trans k) ?_
  have E_b1_2 : Exa Z T2.heap b1 "java/lang/String" := A1.keep Kc2
  have SZ2 : n0 ≤ T2.heap.size := Nat.le_trans SZ1 Kc2.1
  have K2 : Keep h0 T2.heap [] := K1.trans Kc2 (allS (Or.inr sz_b1) all0)
  show Gl _ _ _ _ (T2.setTop (mkF m 8 #[.val (.ref a1)] [(.ref b1)]))
  refine leafA X2 hx hlk Bd.returns rfl rfl (hb hby d24_8) ?_ (by decide) (by decide)
  exact ⟨b1, rfl, N2, K2, sz_b1, Sc2⟩
def Q_oin (Z : State) (a1 x1 x2 x5 : Addr) (u_name u_value u_required u_repeatable u_description : Value) (h0 : Heap) (n0 : Nat) (v : Option Value) (h : Heap) (L : List Loc) : Prop := v = none ∧ Fr n0 L ∧ Keep h0 h [a1] ∧ OptAt Z h a1 x1 x2 x5 (0 : Int32)
set_option maxRecDepth 65536 in
set_option maxHeartbeats 40000000 in
theorem rm_oin (l : Launch) (Z : State) (a0 : Array Value) (hw : ∀ d ∈ tables_1, d.before a0 Z = true) (ws : List Jvm.Cond) (a1 x1 x2 x5 : Addr) (u_name u_value u_required u_repeatable u_description : Value) (h0 : Heap) (n0 : Nat) (Z0 : n0 ≤ h0.size) (E_a1 : Exa Z h0 a1 "com/example/kontraktor/kontraktor/cli/Option") (F_name : Fld Z h0 a1 "com/example/kontraktor/kontraktor/cli/Option" "name" "Ljava/lang/String;" u_name) (F_value : Fld Z h0 a1 "com/example/kontraktor/kontraktor/cli/Option" "value" "Ljava/lang/String;" u_value) (F_required : Fld Z h0 a1 "com/example/kontraktor/kontraktor/cli/Option" "required" "Z" u_required) (F_repeatable : Fld Z h0 a1 "com/example/kontraktor/kontraktor/cli/Option" "repeatable" "Z" u_repeatable) (F_description : Fld Z h0 a1 "com/example/kontraktor/kontraktor/cli/Option" "description" "Ljava/lang/String;" u_description) (g_a1 : n0 ≤ a1) :
    MetFree l (⟨"com/example/kontraktor/kontraktor/cli/Option", "<init>", "(Ljava/lang/String;Ljava/lang/String;ZZLjava/lang/String;)V"⟩ : MethodName) (head1 (Jvm.Cond.code (⟨"com/example/kontraktor/kontraktor/cli/Option", "<init>", "(Ljava/lang/String;Ljava/lang/String;ZZLjava/lang/String;)V"⟩ : MethodName) prog_20_method_1_code 6 none :: ws) ({ frames := 1, cells := 0, slots := 0, locals := 12 } : Room)) (fun aa U => aa = #[(.ref a1), (.ref x1), (.ref x2), (.int (0 : Int32)), (.int (0 : Int32)), (.ref x5)] ∧ Z.Warmed39 U.vm ∧ U.heap = h0) (fun _ _ _ _ _ => True) (fun _ U o U' => ∃ v L, o = .returned v ∧ Q_oin Z a1 x1 x2 x5 u_name u_value u_required u_repeatable u_description h0 n0 v U'.heap L ∧ FrameEnd U o U' L ({ frames := 1, cells := 0, slots := 0, locals := 12 } : Room).cells ({ frames := 1, cells := 0, slots := 0, locals := 12 } : Room).slots) := by
  refine MetFree.of_bodySF (plainFor_of_name pn_5) hisR ?_
  intro p e s m args below meth c s₁ Bd hml0 hP hK
  obtain ⟨rfl, hZ, hh⟩ := hP
  have hx := Bd.exec
  have hby := Bd.bytes
  have hml : c.maxLocals = 6 := hml0
  have hown : s.vm.findClass "com/example/kontraktor/kontraktor/cli/Option" = some m.cls := findClass_of_methodNamed Bd.named
  have hnm := (name_of_methodNamed Bd.named Bd.method).1
  have hlk : meth.locks = false := BodyLoose.notSynchronized Bd
  have X0 : Stand p l e ({ frames := 1, cells := 0, slots := 0, locals := 12 } : Room) s m #[(.ref a1), (.ref x1), (.ref x2), (.int (0 : Int32)), (.int (0 : Int32)), (.ref x5)] below meth c s₁ [] 0 0 := Stand.of_body Bd
  have e0 : s₁.heap = h0 := by rw [← hh, Bd.state]; rfl
  have N0 := Fr.nil n0
  have K0 : Keep h0 h0 [a1] := Keep.refl _ _
  show Gl p.tables e below (QQof s (Q_oin Z a1 x1 x2 x5 u_name u_value u_required u_repeatable u_description h0 n0) 0 0) (s₁.setTop (entryFrame m #[(.ref a1), (.ref x1), (.ref x2), (.int (0 : Int32)), (.int (0 : Int32)), (.ref x5)] 6))
  refine Gl.go (fun t k => castTop (ef_oin m a1 x1 x2 (0 : Int32) (0 : Int32) x5) k) ?_
  show Gl _ _ _ _ (s₁.setTop (mkF m 0 #[.val (.ref a1), .val (.ref x1), .val (.ref x2), .val (.int (0 : Int32)), .val (.int (0 : Int32)), .val (.ref x5)] []))
  refine Gl.go (fun _ k => XS.aloadN X0.here hx rfl (hb hby d8_0) rfl rfl  k) ?_
  show Gl _ _ _ _ (s₁.setTop (mkF m 1 #[.val (.ref a1), .val (.ref x1), .val (.ref x2), .val (.int (0 : Int32)), .val (.int (0 : Int32)), .val (.ref x5)] [(.ref a1)]))
  obtain ⟨T1, X1, e1, st1⟩ := initO X0 hx hZ hown (hw _ (List.mem_of_getElem? (i := 39) rfl)) (hw _ (List.mem_of_getElem? (i := 12) rfl)) (hw _ (List.mem_of_getElem? (i := 13) rfl)) e0 (g := (mkF m 1 #[.val (.ref a1), .val (.ref x1), .val (.ref x2), .val (.int (0 : Int32)), .val (.int (0 : Int32)), .val (.ref x5)] [(.ref a1)])) rfl (by rw [hml]; rfl) rfl (hb hby d8_1) (by decide) (W := 0) (by show 2 * 0 + _ ≤ _; exact Nat.le_of_eq rfl) (by decide)
  refine Gl.go (fun _ k => st1 _ k) ?_
  show Gl _ _ _ _ (T1.setTop (mkF m 4 #[.val (.ref a1), .val (.ref x1), .val (.ref x2), .val (.int (0 : Int32)), .val (.int (0 : Int32)), .val (.ref x5)] []))
  refine Gl.go (fun _ k => XS.aloadN X1.here hx rfl (hb hby d8_4) rfl rfl  k) ?_
  show Gl _ _ _ _ (T1.setTop (mkF m 5 #[.val (.ref a1), .val (.ref x1), .val (.ref x2), .val (.int (0 : Int32)), .val (.int (0 : Int32)), .val (.ref x5)] [(.ref a1)]))
  refine Gl.go (fun _ k => XS.aloadN X1.here hx rfl (hb hby d8_5) rfl rfl  k) ?_
  show Gl _ _ _ _ (T1.setTop (mkF m 6 #[.val (.ref a1), .val (.ref x1), .val (.ref x2), .val (.int (0 : Int32)), .val (.int (0 : Int32)), .val (.ref x5)] [(.ref x1), (.ref a1)]))
  obtain ⟨T2, h2, X2, e2, W2, st2⟩ := putF X1 hx hZ hown (host := "") (Or.inl (hw _ (List.mem_of_getElem? (i := 40) rfl))) Via.refl e1 F_name E_a1 (Or.inr ⟨(hw _ (List.mem_of_getElem? (i := 41) rfl)), rfl, hnm⟩) (hw _ (List.mem_of_getElem? (i := 35) rfl)) (ty := (.object "java/lang/String")) (by decide) rfl rfl (g := (mkF m 6 #[.val (.ref a1), .val (.ref x1), .val (.ref x2), .val (.int (0 : Int32)), .val (.int (0 : Int32)), .val (.ref x5)] [(.ref x1), (.ref a1)])) rfl rfl (hb hby d8_6)
  have E_a1_2 : Exa Z h2 a1 "com/example/kontraktor/kontraktor/cli/Option" := E_a1.wr W2
  have F_a1_name_2 : Fld Z h2 a1 "com/example/kontraktor/kontraktor/cli/Option" "name" "Ljava/lang/String;" (.ref x1) := F_name.same W2
  have F_a1_value_2 : Fld Z h2 a1 "com/example/kontraktor/kontraktor/cli/Option" "value" "Ljava/lang/String;" u_value := F_value.other W2 (Or.inr (slot_ne (t := (.object "java/lang/String")) (t' := (.object "java/lang/String")) (Or.inr (hw _ (List.mem_of_getElem? (i := 43) rfl))) (Or.inr (hw _ (List.mem_of_getElem? (i := 41) rfl))) (by decide) (by decide) (by decide)))
  have F_a1_required_2 : Fld Z h2 a1 "com/example/kontraktor/kontraktor/cli/Option" "required" "Z" u_required := F_required.other W2 (Or.inr (slot_ne (t := .boolean) (t' := (.object "java/lang/String")) (Or.inr (hw _ (List.mem_of_getElem? (i := 45) rfl))) (Or.inr (hw _ (List.mem_of_getElem? (i := 41) rfl))) (by decide) (by decide) (by decide)))
  have F_a1_repeatable_2 : Fld Z h2 a1 "com/example/kontraktor/kontraktor/cli/Option" "repeatable" "Z" u_repeatable := F_repeatable.other W2 (Or.inr (slot_ne (t := .boolean) (t' := (.object "java/lang/String")) (Or.inr (hw _ (List.mem_of_getElem? (i := 47) rfl))) (Or.inr (hw _ (List.mem_of_getElem? (i := 41) rfl))) (by decide) (by decide) (by decide)))
  have F_a1_description_2 : Fld Z h2 a1 "com/example/kontraktor/kontraktor/cli/Option" "description" "Ljava/lang/String;" u_description := F_description.other W2 (Or.inr (slot_ne (t := (.object "java/lang/String")) (t' := (.object "java/lang/String")) (Or.inr (hw _ (List.mem_of_getElem? (i := 49) rfl))) (Or.inr (hw _ (List.mem_of_getElem? (i := 41) rfl))) (by decide) (by decide) (by decide)))
  have SZ2 : n0 ≤ h2.size := by rw [Wr.size W2]; exact Z0
  have K2 : Keep h0 h2 [a1] := K0.wr W2 (Or.inl (List.mem_of_getElem? (i := 0) rfl))
  have N2 := Fr.snoc X2 N0 g_a1
  refine Gl.go (fun _ k => st2 _ k) ?_
  show Gl _ _ _ _ (T2.setTop (mkF m 9 #[.val (.ref a1), .val (.ref x1), .val (.ref x2), .val (.int (0 : Int32)), .val (.int (0 : Int32)), .val (.ref x5)] []))
  refine Gl.go (fun _ k => XS.aloadN X2.here hx rfl (hb hby d8_9) rfl rfl  k) ?_
  show Gl _ _ _ _ (T2.setTop (mkF m 10 #[.val (.ref a1), .val (.ref x1), .val (.ref x2), .val (.int (0 : Int32)), .val (.int (0 : Int32)), .val (.ref x5)] [(.ref a1)]))
  refine Gl.go (fun _ k => XS.aloadN X2.here hx rfl (hb hby d8_10) rfl rfl  k) ?_
  show Gl _ _ _ _ (T2.setTop (mkF m 11 #[.val (.ref a1), .val (.ref x1), .val (.ref x2), .val (.int (0 : Int32)), .val (.int (0 : Int32)), .val (.ref x5)] [(.ref x2), (.ref a1)]))
  obtain ⟨T3, h3, X3, e3, W3, st3⟩ := putF X2 hx hZ hown (host := "") (Or.inl (hw _ (List.mem_of_getElem? (i := 42) rfl))) Via.refl e2 F_a1_value_2 E_a1_2 (Or.inr ⟨(hw _ (List.mem_of_getElem? (i := 43) rfl)), rfl, hnm⟩) (hw _ (List.mem_of_getElem? (i := 35) rfl)) (ty := (.object "java/lang/String")) (by decide) rfl rfl (g := (mkF m 11 #[.val (.ref a1), .val (.ref x1), .val (.ref x2), .val (.int (0 : Int32)), .val (.int (0 : Int32)), .val (.ref x5)] [(.ref x2), (.ref a1)])) rfl rfl (hb hby d8_11)
  have E_a1_3 : Exa Z h3 a1 "com/example/kontraktor/kontraktor/cli/Option" := E_a1_2.wr W3
  have F_a1_name_3 : Fld Z h3 a1 "com/example/kontraktor/kontraktor/cli/Option" "name" "Ljava/lang/String;" (.ref x1) := F_a1_name_2.other W3 (Or.inr (slot_ne (t := (.object "java/lang/String")) (t' := (.object "java/lang/String")) (Or.inr (hw _ (List.mem_of_getElem? (i := 41) rfl))) (Or.inr (hw _ (List.mem_of_getElem? (i := 43) rfl))) (by decide) (by decide) (by decide)))
  have F_a1_value_3 : Fld Z h3 a1 "com/example/kontraktor/kontraktor/cli/Option" "value" "Ljava/lang/String;" (.ref x2) := F_a1_value_2.same W3
  have F_a1_required_3 : Fld Z h3 a1 "com/example/kontraktor/kontraktor/cli/Option" "required" "Z" u_required := F_a1_required_2.other W3 (Or.inr (slot_ne (t := .boolean) (t' := (.object "java/lang/String")) (Or.inr (hw _ (List.mem_of_getElem? (i := 45) rfl))) (Or.inr (hw _ (List.mem_of_getElem? (i := 43) rfl))) (by decide) (by decide) (by decide)))
  have F_a1_repeatable_3 : Fld Z h3 a1 "com/example/kontraktor/kontraktor/cli/Option" "repeatable" "Z" u_repeatable := F_a1_repeatable_2.other W3 (Or.inr (slot_ne (t := .boolean) (t' := (.object "java/lang/String")) (Or.inr (hw _ (List.mem_of_getElem? (i := 47) rfl))) (Or.inr (hw _ (List.mem_of_getElem? (i := 43) rfl))) (by decide) (by decide) (by decide)))
  have F_a1_description_3 : Fld Z h3 a1 "com/example/kontraktor/kontraktor/cli/Option" "description" "Ljava/lang/String;" u_description := F_a1_description_2.other W3 (Or.inr (slot_ne (t := (.object "java/lang/String")) (t' := (.object "java/lang/String")) (Or.inr (hw _ (List.mem_of_getElem? (i := 49) rfl))) (Or.inr (hw _ (List.mem_of_getElem? (i := 43) rfl))) (by decide) (by decide) (by decide)))
  have SZ3 : n0 ≤ h3.size := by rw [Wr.size W3]; exact SZ2
  have K3 : Keep h0 h3 [a1] := K2.wr W3 (Or.inl (List.mem_of_getElem? (i := 0) rfl))
  have N3 := Fr.snoc X3 N2 g_a1
  refine Gl.go (fun _ k => st3 _ k) ?_
  show Gl _ _ _ _ (T3.setTop (mkF m 14 #[.val (.ref a1), .val (.ref x1), .val (.ref x2), .val (.int (0 : Int32)), .val (.int (0 : Int32)), .val (.ref x5)] []))
  refine Gl.go (fun _ k => XS.aloadN X3.here hx rfl (hb hby d8_14) rfl rfl  k) ?_
  show Gl _ _ _ _ (T3.setTop (mkF m 15 #[.val (.ref a1), .val (.ref x1), .val (.ref x2), .val (.int (0 : Int32)), .val (.int (0 : Int32)), .val (.ref x5)] [(.ref a1)]))
  refine Gl.go (fun _ k => XS.iloadN X3.here hx rfl (hb hby d8_15) rfl  k) ?_
  show Gl _ _ _ _ (T3.setTop (mkF m 16 #[.val (.ref a1), .val (.ref x1), .val (.ref x2), .val (.int (0 : Int32)), .val (.int (0 : Int32)), .val (.ref x5)] [(.int (0 : Int32)), (.ref a1)]))
  obtain ⟨T4, h4, X4, e4, W4, st4⟩ := putFN X3 hx hZ hown (hw _ (List.mem_of_getElem? (i := 44) rfl)) Via.refl e3 F_a1_required_3 E_a1_3 (Or.inr ⟨(hw _ (List.mem_of_getElem? (i := 45) rfl)), rfl, hnm⟩) (hw _ (List.mem_of_getElem? (i := 35) rfl)) (ty := .boolean) (v' := (.int (nar .boolean (0 : Int32)))) (by decide) rfl (fits_nar_bool _) (g := (mkF m 16 #[.val (.ref a1), .val (.ref x1), .val (.ref x2), .val (.int (0 : Int32)), .val (.int (0 : Int32)), .val (.ref x5)] [(.int (0 : Int32)), (.ref a1)])) rfl rfl (hb hby d8_16)
  have E_a1_4 : Exa Z h4 a1 "com/example/kontraktor/kontraktor/cli/Option" := E_a1_3.wr W4
  have F_a1_name_4 : Fld Z h4 a1 "com/example/kontraktor/kontraktor/cli/Option" "name" "Ljava/lang/String;" (.ref x1) := F_a1_name_3.other W4 (Or.inr (slot_ne (t := (.object "java/lang/String")) (t' := .boolean) (Or.inr (hw _ (List.mem_of_getElem? (i := 41) rfl))) (Or.inr (hw _ (List.mem_of_getElem? (i := 45) rfl))) (by decide) (by decide) (by decide)))
  have F_a1_value_4 : Fld Z h4 a1 "com/example/kontraktor/kontraktor/cli/Option" "value" "Ljava/lang/String;" (.ref x2) := F_a1_value_3.other W4 (Or.inr (slot_ne (t := (.object "java/lang/String")) (t' := .boolean) (Or.inr (hw _ (List.mem_of_getElem? (i := 43) rfl))) (Or.inr (hw _ (List.mem_of_getElem? (i := 45) rfl))) (by decide) (by decide) (by decide)))
  have F_a1_required_4 : Fld Z h4 a1 "com/example/kontraktor/kontraktor/cli/Option" "required" "Z" (.int (nar .boolean (0 : Int32))) := F_a1_required_3.same W4
  have F_a1_repeatable_4 : Fld Z h4 a1 "com/example/kontraktor/kontraktor/cli/Option" "repeatable" "Z" u_repeatable := F_a1_repeatable_3.other W4 (Or.inr (slot_ne (t := .boolean) (t' := .boolean) (Or.inr (hw _ (List.mem_of_getElem? (i := 47) rfl))) (Or.inr (hw _ (List.mem_of_getElem? (i := 45) rfl))) (by decide) (by decide) (by decide)))
  have F_a1_description_4 : Fld Z h4 a1 "com/example/kontraktor/kontraktor/cli/Option" "description" "Ljava/lang/String;" u_description := F_a1_description_3.other W4 (Or.inr (slot_ne (t := (.object "java/lang/String")) (t' := .boolean) (Or.inr (hw _ (List.mem_of_getElem? (i := 49) rfl))) (Or.inr (hw _ (List.mem_of_getElem? (i := 45) rfl))) (by decide) (by decide) (by decide)))
  have SZ4 : n0 ≤ h4.size := by rw [Wr.size W4]; exact SZ3
  have K4 : Keep h0 h4 [a1] := K3.wr W4 (Or.inl (List.mem_of_getElem? (i := 0) rfl))
  have N4 := Fr.snoc X4 N3 g_a1
  refine Gl.go (fun _ k => st4 _ k) ?_
  show Gl _ _ _ _ (T4.setTop (mkF m 19 #[.val (.ref a1), .val (.ref x1), .val (.ref x2), .val (.int (0 : Int32)), .val (.int (0 : Int32)), .val (.ref x5)] []))
  refine Gl.go (fun _ k => XS.aloadN X4.here hx rfl (hb hby d8_19) rfl rfl  k) ?_
  show Gl _ _ _ _ (T4.setTop (mkF m 20 #[.val (.ref a1), .val (.ref x1), .val (.ref x2), .val (.int (0 : Int32)), .val (.int (0 : Int32)), .val (.ref x5)] [(.ref a1)]))
  refine Gl.go (fun _ k => XS.iload X4.here hx rfl (hb hby d8_20) rfl  k) ?_
  show Gl _ _ _ _ (T4.setTop (mkF m 22 #[.val (.ref a1), .val (.ref x1), .val (.ref x2), .val (.int (0 : Int32)), .val (.int (0 : Int32)), .val (.ref x5)] [(.int (0 : Int32)), (.ref a1)]))
  obtain ⟨T5, h5, X5, e5, W5, st5⟩ := putFN X4 hx hZ hown (hw _ (List.mem_of_getElem? (i := 46) rfl)) Via.refl e4 F_a1_repeatable_4 E_a1_4 (Or.inr ⟨(hw _ (List.mem_of_getElem? (i := 47) rfl)), rfl, hnm⟩) (hw _ (List.mem_of_getElem? (i := 35) rfl)) (ty := .boolean) (v' := (.int (nar .boolean (0 : Int32)))) (by decide) rfl (fits_nar_bool _) (g := (mkF m 22 #[.val (.ref a1), .val (.ref x1), .val (.ref x2), .val (.int (0 : Int32)), .val (.int (0 : Int32)), .val (.ref x5)] [(.int (0 : Int32)), (.ref a1)])) rfl rfl (hb hby d8_22)
  have E_a1_5 : Exa Z h5 a1 "com/example/kontraktor/kontraktor/cli/Option" := E_a1_4.wr W5
  have F_a1_name_5 : Fld Z h5 a1 "com/example/kontraktor/kontraktor/cli/Option" "name" "Ljava/lang/String;" (.ref x1) := F_a1_name_4.other W5 (Or.inr (slot_ne (t := (.object "java/lang/String")) (t' := .boolean) (Or.inr (hw _ (List.mem_of_getElem? (i := 41) rfl))) (Or.inr (hw _ (List.mem_of_getElem? (i := 47) rfl))) (by decide) (by decide) (by decide)))
  have F_a1_value_5 : Fld Z h5 a1 "com/example/kontraktor/kontraktor/cli/Option" "value" "Ljava/lang/String;" (.ref x2) := F_a1_value_4.other W5 (Or.inr (slot_ne (t := (.object "java/lang/String")) (t' := .boolean) (Or.inr (hw _ (List.mem_of_getElem? (i := 43) rfl))) (Or.inr (hw _ (List.mem_of_getElem? (i := 47) rfl))) (by decide) (by decide) (by decide)))
  have F_a1_required_5 : Fld Z h5 a1 "com/example/kontraktor/kontraktor/cli/Option" "required" "Z" (.int (nar .boolean (0 : Int32))) := F_a1_required_4.other W5 (Or.inr (slot_ne (t := .boolean) (t' := .boolean) (Or.inr (hw _ (List.mem_of_getElem? (i := 45) rfl))) (Or.inr (hw _ (List.mem_of_getElem? (i := 47) rfl))) (by decide) (by decide) (by decide)))
  have F_a1_repeatable_5 : Fld Z h5 a1 "com/example/kontraktor/kontraktor/cli/Option" "repeatable" "Z" (.int (nar .boolean (0 : Int32))) := F_a1_repeatable_4.same W5
  have F_a1_description_5 : Fld Z h5 a1 "com/example/kontraktor/kontraktor/cli/Option" "description" "Ljava/lang/String;" u_description := F_a1_description_4.other W5 (Or.inr (slot_ne (t := (.object "java/lang/String")) (t' := .boolean) (Or.inr (hw _ (List.mem_of_getElem? (i := 49) rfl))) (Or.inr (hw _ (List.mem_of_getElem? (i := 47) rfl))) (by decide) (by decide) (by decide)))
  have SZ5 : n0 ≤ h5.size := by rw [Wr.size W5]; exact SZ4
  have K5 : Keep h0 h5 [a1] := K4.wr W5 (Or.inl (List.mem_of_getElem? (i := 0) rfl))
  have N5 := Fr.snoc X5 N4 g_a1
  refine Gl.go (fun _ k => st5 _ k) ?_
  show Gl _ _ _ _ (T5.setTop (mkF m 25 #[.val (.ref a1), .val (.ref x1), .val (.ref x2), .val (.int (0 : Int32)), .val (.int (0 : Int32)), .val (.ref x5)] []))
  refine Gl.go (fun _ k => XS.aloadN X5.here hx rfl (hb hby d8_25) rfl rfl  k) ?_
  show Gl _ _ _ _ (T5.setTop (mkF m 26 #[.val (.ref a1), .val (.ref x1), .val (.ref x2), .val (.int (0 : Int32)), .val (.int (0 : Int32)), .val (.ref x5)] [(.ref a1)]))
  refine Gl.go (fun _ k => XS.aload X5.here hx rfl (hb hby d8_26) rfl rfl  k) ?_
  show Gl _ _ _ _ (T5.setTop (mkF m 28 #[.val (.ref a1), .val (.ref x1), .val (.ref x2), .val (.int (0 : Int32)), .val (.int (0 : Int32)), .val (.ref x5)] [(.ref x5), (.ref a1)]))
  obtain ⟨T6, h6, X6, e6, W6, st6⟩ := putF X5 hx hZ hown (host := "") (Or.inl (hw _ (List.mem_of_getElem? (i := 48) rfl))) Via.refl e5 F_a1_description_5 E_a1_5 (Or.inr ⟨(hw _ (List.mem_of_getElem? (i := 49) rfl)), rfl, hnm⟩) (hw _ (List.mem_of_getElem? (i := 35) rfl)) (ty := (.object "java/lang/String")) (by decide) rfl rfl (g := (mkF m 28 #[.val (.ref a1), .val (.ref x1), .val (.ref x2), .val (.int (0 : Int32)), .val (.int (0 : Int32)), .val (.ref x5)] [(.ref x5), (.ref a1)])) rfl rfl (hb hby d8_28)
  have E_a1_6 : Exa Z h6 a1 "com/example/kontraktor/kontraktor/cli/Option" := E_a1_5.wr W6
  have F_a1_name_6 : Fld Z h6 a1 "com/example/kontraktor/kontraktor/cli/Option" "name" "Ljava/lang/String;" (.ref x1) := F_a1_name_5.other W6 (Or.inr (slot_ne (t := (.object "java/lang/String")) (t' := (.object "java/lang/String")) (Or.inr (hw _ (List.mem_of_getElem? (i := 41) rfl))) (Or.inr (hw _ (List.mem_of_getElem? (i := 49) rfl))) (by decide) (by decide) (by decide)))
  have F_a1_value_6 : Fld Z h6 a1 "com/example/kontraktor/kontraktor/cli/Option" "value" "Ljava/lang/String;" (.ref x2) := F_a1_value_5.other W6 (Or.inr (slot_ne (t := (.object "java/lang/String")) (t' := (.object "java/lang/String")) (Or.inr (hw _ (List.mem_of_getElem? (i := 43) rfl))) (Or.inr (hw _ (List.mem_of_getElem? (i := 49) rfl))) (by decide) (by decide) (by decide)))
  have F_a1_required_6 : Fld Z h6 a1 "com/example/kontraktor/kontraktor/cli/Option" "required" "Z" (.int (nar .boolean (0 : Int32))) := F_a1_required_5.other W6 (Or.inr (slot_ne (t := .boolean) (t' := (.object "java/lang/String")) (Or.inr (hw _ (List.mem_of_getElem? (i := 45) rfl))) (Or.inr (hw _ (List.mem_of_getElem? (i := 49) rfl))) (by decide) (by decide) (by decide)))
  have F_a1_repeatable_6 : Fld Z h6 a1 "com/example/kontraktor/kontraktor/cli/Option" "repeatable" "Z" (.int (nar .boolean (0 : Int32))) := F_a1_repeatable_5.other W6 (Or.inr (slot_ne (t := .boolean) (t' := (.object "java/lang/String")) (Or.inr (hw _ (List.mem_of_getElem? (i := 47) rfl))) (Or.inr (hw _ (List.mem_of_getElem? (i := 49) rfl))) (by decide) (by decide) (by decide)))
  have F_a1_description_6 : Fld Z h6 a1 "com/example/kontraktor/kontraktor/cli/Option" "description" "Ljava/lang/String;" (.ref x5) := F_a1_description_5.same W6
  have SZ6 : n0 ≤ h6.size := by rw [Wr.size W6]; exact SZ5
  have K6 : Keep h0 h6 [a1] := K5.wr W6 (Or.inl (List.mem_of_getElem? (i := 0) rfl))
  have N6 := Fr.snoc X6 N5 g_a1
  refine Gl.go (fun _ k => st6 _ k) ?_
  show Gl _ _ _ _ (T6.setTop (mkF m 31 #[.val (.ref a1), .val (.ref x1), .val (.ref x2), .val (.int (0 : Int32)), .val (.int (0 : Int32)), .val (.ref x5)] []))
  refine leafV X6 hx hlk Bd.returns (hb hby d8_31) ?_ (by decide) (by decide)
  rw [e6]
  exact ⟨rfl, N6, K6, E_a1_6, F_a1_name_6, F_a1_value_6, by rw [← own_narb0]; exact F_a1_required_6, by rw [← own_narb0]; exact F_a1_repeatable_6, F_a1_description_6⟩
def Q_fac (Z : State) (x1 x2 x5 : Addr) (h0 : Heap) (n0 : Nat) (v : Option Value) (h : Heap) (L : List Loc) : Prop := ∃ a : Addr, v = some (.ref a) ∧ Fr n0 L ∧ Keep h0 h [] ∧ OptAt Z h a x1 x2 x5 (0 : Int32)
set_option maxRecDepth 65536 in
set_option maxHeartbeats 40000000 in
theorem rm_fac (l : Launch) (Z : State) (a0 : Array Value) (hw : ∀ d ∈ tables_1, d.before a0 Z = true) (ws : List Jvm.Cond) (x1 x2 x5 : Addr) (h0 : Heap) (n0 : Nat) (Z0 : n0 ≤ h0.size)  :
    MetFree l (⟨"com/example/kontraktor/kontraktor/cli/Option", "optional", "(Ljava/lang/String;Ljava/lang/String;Ljava/lang/String;)Lcom/example/kontraktor/kontraktor/cli/Option;"⟩ : MethodName) (head1 (Jvm.Cond.code (⟨"com/example/kontraktor/kontraktor/cli/Option", "optional", "(Ljava/lang/String;Ljava/lang/String;Ljava/lang/String;)Lcom/example/kontraktor/kontraktor/cli/Option;"⟩ : MethodName) prog_20_method_3_code 3 (some (.object "com/example/kontraktor/kontraktor/cli/Option")) :: ws) ({ frames := 2, cells := 1, slots := 5, locals := 30 } : Room)) (fun aa U => aa = #[(.ref x1), (.ref x2), (.ref x5)] ∧ Z.Warmed39 U.vm ∧ U.heap = h0) (fun _ _ _ _ _ => True) (fun _ U o U' => ∃ v L, o = .returned v ∧ Q_fac Z x1 x2 x5 h0 n0 v U'.heap L ∧ FrameEnd U o U' L ({ frames := 2, cells := 1, slots := 5, locals := 30 } : Room).cells ({ frames := 2, cells := 1, slots := 5, locals := 30 } : Room).slots) := by
  refine MetFree.of_bodySF (plainFor_of_name pn_5) hisR ?_
  intro p e s m args below meth c s₁ Bd hml0 hP hK
  obtain ⟨rfl, hZ, hh⟩ := hP
  have hx := Bd.exec
  have hby := Bd.bytes
  have hml : c.maxLocals = 3 := hml0
  have hown : s.vm.findClass "com/example/kontraktor/kontraktor/cli/Option" = some m.cls := findClass_of_methodNamed Bd.named
  have hnm := (name_of_methodNamed Bd.named Bd.method).1
  have hlk : meth.locks = false := BodyLoose.notSynchronized Bd
  have X0 : Stand p l e ({ frames := 2, cells := 1, slots := 5, locals := 30 } : Room) s m #[(.ref x1), (.ref x2), (.ref x5)] below meth c s₁ [] 0 0 := Stand.of_body Bd
  have e0 : s₁.heap = h0 := by rw [← hh, Bd.state]; rfl
  have N0 := Fr.nil n0
  have K0 : Keep h0 h0 [] := Keep.refl _ _
  show Gl p.tables e below (QQof s (Q_fac Z x1 x2 x5 h0 n0) 1 5) (s₁.setTop (entryFrame m #[(.ref x1), (.ref x2), (.ref x5)] 3))
  refine Gl.go (fun t k => castTop (ef_fac m x1 x2 x5) k) ?_
  show Gl _ _ _ _ (s₁.setTop (mkF m 0 #[.val (.ref x1), .val (.ref x2), .val (.ref x5)] []))
  obtain ⟨T1, h1, X1, e1, E1, A1, D1, -, st1⟩ := newO X0 hx hZ hown (hw _ (List.mem_of_getElem? (i := 34) rfl)) (hw _ (List.mem_of_getElem? (i := 35) rfl)) (hw _ (List.mem_of_getElem? (i := 32) rfl)) e0 (g := (mkF m 0 #[.val (.ref x1), .val (.ref x2), .val (.ref x5)] [])) rfl (hb hby d7_0) (by decide) (by decide)
  obtain ⟨b1, g1⟩ : ∃ z, z = h0.size := ⟨_, rfl⟩
  rw [← g1] at A1 D1 st1
  have g_b1 : n0 ≤ b1 := Nat.le_trans Z0 (Nat.le_of_eq g1.symm)
  have sz_b1 : h0.size ≤ b1 := Nat.le_trans K0.1 (Nat.le_of_eq g1.symm)
  have SZ1 : n0 ≤ h1.size := Nat.le_trans Z0 E1.1
  have K1 : Keep h0 h1 [] := K0.ext E1
  have F_b1_name_1 : Fld Z h1 b1 "com/example/kontraktor/kontraktor/cli/Option" "name" "Ljava/lang/String;" .null := D1 (Or.inr (hw _ (List.mem_of_getElem? (i := 41) rfl))) (ty := (.object "java/lang/String")) (by decide)
  have F_b1_value_1 : Fld Z h1 b1 "com/example/kontraktor/kontraktor/cli/Option" "value" "Ljava/lang/String;" .null := D1 (Or.inr (hw _ (List.mem_of_getElem? (i := 43) rfl))) (ty := (.object "java/lang/String")) (by decide)
  have F_b1_required_1 : Fld Z h1 b1 "com/example/kontraktor/kontraktor/cli/Option" "required" "Z" (.int (0 : Int32)) := D1 (Or.inr (hw _ (List.mem_of_getElem? (i := 45) rfl))) (ty := .boolean) (by decide)
  have F_b1_repeatable_1 : Fld Z h1 b1 "com/example/kontraktor/kontraktor/cli/Option" "repeatable" "Z" (.int (0 : Int32)) := D1 (Or.inr (hw _ (List.mem_of_getElem? (i := 47) rfl))) (ty := .boolean) (by decide)
  have F_b1_description_1 : Fld Z h1 b1 "com/example/kontraktor/kontraktor/cli/Option" "description" "Ljava/lang/String;" .null := D1 (Or.inr (hw _ (List.mem_of_getElem? (i := 49) rfl))) (ty := (.object "java/lang/String")) (by decide)
  refine Gl.go (fun _ k => st1 _ k) ?_
  show Gl _ _ _ _ (T1.setTop (mkF m 3 #[.val (.ref x1), .val (.ref x2), .val (.ref x5)] [(.ref b1)]))
  refine Gl.go (fun _ k => XS.dup X1.here hx rfl (hb hby d7_3) rfl rfl k) ?_
  show Gl _ _ _ _ (T1.setTop (mkF m 4 #[.val (.ref x1), .val (.ref x2), .val (.ref x5)] [(.ref b1), (.ref b1)]))
  refine Gl.go (fun _ k => XS.aloadN X1.here hx rfl (hb hby d7_4) rfl rfl  k) ?_
  show Gl _ _ _ _ (T1.setTop (mkF m 5 #[.val (.ref x1), .val (.ref x2), .val (.ref x5)] [(.ref x1), (.ref b1), (.ref b1)]))
  refine Gl.go (fun _ k => XS.aloadN X1.here hx rfl (hb hby d7_5) rfl rfl  k) ?_
  show Gl _ _ _ _ (T1.setTop (mkF m 6 #[.val (.ref x1), .val (.ref x2), .val (.ref x5)] [(.ref x2), (.ref x1), (.ref b1), (.ref b1)]))
  refine Gl.go (fun _ k => XS.iconst X1.here hx rfl (hb hby d7_6) k) ?_
  show Gl _ _ _ _ (T1.setTop (mkF m 7 #[.val (.ref x1), .val (.ref x2), .val (.ref x5)] [(.int (0 : Int32)), (.ref x2), (.ref x1), (.ref b1), (.ref b1)]))
  refine Gl.go (fun _ k => XS.iconst X1.here hx rfl (hb hby d7_7) k) ?_
  show Gl _ _ _ _ (T1.setTop (mkF m 8 #[.val (.ref x1), .val (.ref x2), .val (.ref x5)] [(.int (0 : Int32)), (.int (0 : Int32)), (.ref x2), (.ref x1), (.ref b1), (.ref b1)]))
  refine Gl.go (fun _ k => XS.aloadN X1.here hx rfl (hb hby d7_8) rfl rfl  k) ?_
  show Gl _ _ _ _ (T1.setTop (mkF m 9 #[.val (.ref x1), .val (.ref x2), .val (.ref x5)] [(.ref x5), (.int (0 : Int32)), (.int (0 : Int32)), (.ref x2), (.ref x1), (.ref b1), (.ref b1)]))
  obtain ⟨_, _, ⟨T2, L2, k2, n2⟩, -, X2, ⟨Lc2, hQ2, l2, y2, z2⟩, st2⟩ := X1.specialBack hx (y := (⟨"com/example/kontraktor/kontraktor/cli/Option", "<init>", "(Ljava/lang/String;Ljava/lang/String;ZZLjava/lang/String;)V"⟩ : MethodName)) rfl hown (mvT hZ (hw _ (List.mem_of_getElem? (i := 36) rfl))) (mvT hZ (hw _ (List.mem_of_getElem? (i := 37) rfl))) (mvT hZ (hw _ (List.mem_of_getElem? (i := 38) rfl))) (by decide) (backOf (W := 1) (rm_oin l Z a0 hw [] b1 x1 x2 x5 .null .null (.int 0) (.int 0) .null h1 n0 SZ1 A1 F_b1_name_1 F_b1_value_1 F_b1_required_1 F_b1_repeatable_1 F_b1_description_1 g_b1) hZ (hw _ (List.mem_of_getElem? (i := 38) rfl)) (hw _ (List.mem_of_getElem? (i := 32) rfl)) (by decide) (by decide)) (g := (mkF m 9 #[.val (.ref x1), .val (.ref x2), .val (.ref x5)] [(.ref x5), (.int (0 : Int32)), (.int (0 : Int32)), (.ref x2), (.ref x1), (.ref b1), (.ref b1)])) rfl (by rw [hml]; rfl) (Steps.refl _) (a := b1) (argsL := [(.ref x1), (.ref x2), (.int (0 : Int32)), (.int (0 : Int32)), (.ref x5)]) (rest := [(.ref b1)]) (lenOf pd_15 rfl) rfl (by show 2 * 0 + _ ≤ _; exact Nat.le_of_eq rfl) (hb hby d7_9) (fun _ _ => ⟨rfl, e1, (by decide : 1 + 0 ≤ _), (by decide : 5 + 0 ≤ _)⟩)
  dsimp only [Pt.U, Pt.locs, Pt.cells, Pt.slots] at X2 l2 y2 z2 st2 hQ2
  subst y2 z2
  obtain ⟨rfl, Nq2, Kc2, Oc2⟩ := hQ2
  have N2 : Fr n0 L2 := by rw [l2]; exact Fr.app N0 Nq2
  refine Gl.go (fun _ k => st2.trans k) ?_
  have E_b1_2 : Exa Z T2.heap b1 "com/example/kontraktor/kontraktor/cli/Option" := A1.keep Kc2
  have SZ2 : n0 ≤ T2.heap.size := Nat.le_trans SZ1 Kc2.1
  have K2 : Keep h0 T2.heap [] := K1.trans Kc2 (allS (Or.inr sz_b1) all0)
  show Gl _ _ _ _ (T2.setTop (mkF m 12 #[.val (.ref x1), .val (.ref x2), .val (.ref x5)] [(.ref b1)]))
  refine leafA X2 hx hlk Bd.returns rfl rfl (hb hby d7_12) ?_ (by decide) (by decide)
  exact ⟨b1, rfl, N2, K2, Oc2⟩
def Q_gna (Z : State) (a1 x1 x2 x5 : Addr) (h0 : Heap) (n0 : Nat) (v : Option Value) (h : Heap) (L : List Loc) : Prop := v = some (.ref x1) ∧ Fr n0 L ∧ h = h0
set_option maxRecDepth 65536 in
set_option maxHeartbeats 40000000 in
theorem rm_gna (l : Launch) (Z : State) (a0 : Array Value) (hw : ∀ d ∈ tables_1, d.before a0 Z = true) (ws : List Jvm.Cond) (a1 x1 x2 x5 : Addr) (h0 : Heap) (n0 : Nat) (Z0 : n0 ≤ h0.size) (O1 : OptAt Z h0 a1 x1 x2 x5 (0 : Int32)) :
    MetFree l (⟨"com/example/kontraktor/kontraktor/cli/Option", "getName", "()Ljava/lang/String;"⟩ : MethodName) (head1 (Jvm.Cond.code (⟨"com/example/kontraktor/kontraktor/cli/Option", "getName", "()Ljava/lang/String;"⟩ : MethodName) prog_20_method_5_code 1 (some (.object "java/lang/String")) :: ws) ({ frames := 0, cells := 0, slots := 0, locals := 0 } : Room)) (fun aa U => aa = #[(.ref a1)] ∧ Z.Warmed39 U.vm ∧ U.heap = h0) (fun _ _ _ _ _ => True) (fun _ U o U' => ∃ v L, o = .returned v ∧ Q_gna Z a1 x1 x2 x5 h0 n0 v U'.heap L ∧ FrameEnd U o U' L ({ frames := 0, cells := 0, slots := 0, locals := 0 } : Room).cells ({ frames := 0, cells := 0, slots := 0, locals := 0 } : Room).slots) := by
  refine MetFree.of_bodySF (plainFor_of_name pn_5) hisR ?_
  intro p e s m args below meth c s₁ Bd hml0 hP hK
  obtain ⟨rfl, hZ, hh⟩ := hP
  have hx := Bd.exec
  have hby := Bd.bytes
  have hml : c.maxLocals = 1 := hml0
  have hown : s.vm.findClass "com/example/kontraktor/kontraktor/cli/Option" = some m.cls := findClass_of_methodNamed Bd.named
  have hnm := (name_of_methodNamed Bd.named Bd.method).1
  have hlk : meth.locks = false := BodyLoose.notSynchronized Bd
  have X0 : Stand p l e ({ frames := 0, cells := 0, slots := 0, locals := 0 } : Room) s m #[(.ref a1)] below meth c s₁ [] 0 0 := Stand.of_body Bd
  have e0 : s₁.heap = h0 := by rw [← hh, Bd.state]; rfl
  have N0 := Fr.nil n0
  have K0 : Keep h0 h0 [] := Keep.refl _ _
  show Gl p.tables e below (QQof s (Q_gna Z a1 x1 x2 x5 h0 n0) 0 0) (s₁.setTop (entryFrame m #[(.ref a1)] 1))
  refine Gl.go (fun t k => castTop (ef_gna m a1) k) ?_
  show Gl _ _ _ _ (s₁.setTop (mkF m 0 #[.val (.ref a1)] []))
  refine Gl.go (fun _ k => XS.aloadN X0.here hx rfl (hb hby d9_0) rfl rfl  k) ?_
  show Gl _ _ _ _ (s₁.setTop (mkF m 1 #[.val (.ref a1)] [(.ref a1)]))
  obtain ⟨T1, X1, e1, st1⟩ := getF X0 hx hZ hown (host := "") (Or.inl (hw _ (List.mem_of_getElem? (i := 40) rfl))) Via.refl e0 O1.2.1 (g := (mkF m 1 #[.val (.ref a1)] [(.ref a1)])) rfl rfl (hb hby d9_1)
  refine Gl.go (fun _ k => st1 _ k) ?_
  show Gl _ _ _ _ (T1.setTop (mkF m 4 #[.val (.ref a1)] [(.ref x1)]))
  refine leafA X1 hx hlk Bd.returns rfl rfl (hb hby d9_4) ?_ (by decide) (by decide)
  exact ⟨rfl, N0, e1⟩
def Q_gde (Z : State) (a1 x1 x2 x5 : Addr) (h0 : Heap) (n0 : Nat) (v : Option Value) (h : Heap) (L : List Loc) : Prop := v = some (.ref x5) ∧ Fr n0 L ∧ h = h0
set_option maxRecDepth 65536 in
set_option maxHeartbeats 40000000 in
theorem rm_gde (l : Launch) (Z : State) (a0 : Array Value) (hw : ∀ d ∈ tables_1, d.before a0 Z = true) (ws : List Jvm.Cond) (a1 x1 x2 x5 : Addr) (h0 : Heap) (n0 : Nat) (Z0 : n0 ≤ h0.size) (O1 : OptAt Z h0 a1 x1 x2 x5 (0 : Int32)) :
    MetFree l (⟨"com/example/kontraktor/kontraktor/cli/Option", "getDescription", "()Ljava/lang/String;"⟩ : MethodName) (head1 (Jvm.Cond.code (⟨"com/example/kontraktor/kontraktor/cli/Option", "getDescription", "()Ljava/lang/String;"⟩ : MethodName) prog_20_method_7_code 1 (some (.object "java/lang/String")) :: ws) ({ frames := 0, cells := 0, slots := 0, locals := 0 } : Room)) (fun aa U => aa = #[(.ref a1)] ∧ Z.Warmed39 U.vm ∧ U.heap = h0) (fun _ _ _ _ _ => True) (fun _ U o U' => ∃ v L, o = .returned v ∧ Q_gde Z a1 x1 x2 x5 h0 n0 v U'.heap L ∧ FrameEnd U o U' L ({ frames := 0, cells := 0, slots := 0, locals := 0 } : Room).cells ({ frames := 0, cells := 0, slots := 0, locals := 0 } : Room).slots) := by
  refine MetFree.of_bodySF (plainFor_of_name pn_5) hisR ?_
  intro p e s m args below meth c s₁ Bd hml0 hP hK
  obtain ⟨rfl, hZ, hh⟩ := hP
  have hx := Bd.exec
  have hby := Bd.bytes
  have hml : c.maxLocals = 1 := hml0
  have hown : s.vm.findClass "com/example/kontraktor/kontraktor/cli/Option" = some m.cls := findClass_of_methodNamed Bd.named
  have hnm := (name_of_methodNamed Bd.named Bd.method).1
  have hlk : meth.locks = false := BodyLoose.notSynchronized Bd
  have X0 : Stand p l e ({ frames := 0, cells := 0, slots := 0, locals := 0 } : Room) s m #[(.ref a1)] below meth c s₁ [] 0 0 := Stand.of_body Bd
  have e0 : s₁.heap = h0 := by rw [← hh, Bd.state]; rfl
  have N0 := Fr.nil n0
  have K0 : Keep h0 h0 [] := Keep.refl _ _
  show Gl p.tables e below (QQof s (Q_gde Z a1 x1 x2 x5 h0 n0) 0 0) (s₁.setTop (entryFrame m #[(.ref a1)] 1))
  refine Gl.go (fun t k => castTop (ef_gde m a1) k) ?_
  show Gl _ _ _ _ (s₁.setTop (mkF m 0 #[.val (.ref a1)] []))
  refine Gl.go (fun _ k => XS.aloadN X0.here hx rfl (hb hby d11_0) rfl rfl  k) ?_
  show Gl _ _ _ _ (s₁.setTop (mkF m 1 #[.val (.ref a1)] [(.ref a1)]))
  obtain ⟨T1, X1, e1, st1⟩ := getF X0 hx hZ hown (host := "") (Or.inl (hw _ (List.mem_of_getElem? (i := 48) rfl))) Via.refl e0 O1.2.2.2.2.2 (g := (mkF m 1 #[.val (.ref a1)] [(.ref a1)])) rfl rfl (hb hby d11_1)
  refine Gl.go (fun _ k => st1 _ k) ?_
  show Gl _ _ _ _ (T1.setTop (mkF m 4 #[.val (.ref a1)] [(.ref x5)]))
  refine leafA X1 hx hlk Bd.returns rfl rfl (hb hby d11_4) ?_ (by decide) (by decide)
  exact ⟨rfl, N0, e1⟩
def Q_ire (Z : State) (a1 x1 x2 x5 : Addr) (h0 : Heap) (n0 : Nat) (v : Option Value) (h : Heap) (L : List Loc) : Prop := v = some (.int (0 : Int32)) ∧ Fr n0 L ∧ h = h0
set_option maxRecDepth 65536 in
set_option maxHeartbeats 40000000 in
theorem rm_ire (l : Launch) (Z : State) (a0 : Array Value) (hw : ∀ d ∈ tables_1, d.before a0 Z = true) (ws : List Jvm.Cond) (a1 x1 x2 x5 : Addr) (h0 : Heap) (n0 : Nat) (Z0 : n0 ≤ h0.size) (O1 : OptAt Z h0 a1 x1 x2 x5 (0 : Int32)) :
    MetFree l (⟨"com/example/kontraktor/kontraktor/cli/Option", "isRepeatable", "()Z"⟩ : MethodName) (head1 (Jvm.Cond.code (⟨"com/example/kontraktor/kontraktor/cli/Option", "isRepeatable", "()Z"⟩ : MethodName) prog_20_method_6_code 1 (some .boolean) :: ws) ({ frames := 0, cells := 0, slots := 0, locals := 0 } : Room)) (fun aa U => aa = #[(.ref a1)] ∧ Z.Warmed39 U.vm ∧ U.heap = h0) (fun _ _ _ _ _ => True) (fun _ U o U' => ∃ v L, o = .returned v ∧ Q_ire Z a1 x1 x2 x5 h0 n0 v U'.heap L ∧ FrameEnd U o U' L ({ frames := 0, cells := 0, slots := 0, locals := 0 } : Room).cells ({ frames := 0, cells := 0, slots := 0, locals := 0 } : Room).slots) := by
  refine MetFree.of_bodySF (plainFor_of_name pn_5) hisR ?_
  intro p e s m args below meth c s₁ Bd hml0 hP hK
  obtain ⟨rfl, hZ, hh⟩ := hP
  have hx := Bd.exec
  have hby := Bd.bytes
  have hml : c.maxLocals = 1 := hml0
  have hown : s.vm.findClass "com/example/kontraktor/kontraktor/cli/Option" = some m.cls := findClass_of_methodNamed Bd.named
  have hnm := (name_of_methodNamed Bd.named Bd.method).1
  have hlk : meth.locks = false := BodyLoose.notSynchronized Bd
  have X0 : Stand p l e ({ frames := 0, cells := 0, slots := 0, locals := 0 } : Room) s m #[(.ref a1)] below meth c s₁ [] 0 0 := Stand.of_body Bd
  have e0 : s₁.heap = h0 := by rw [← hh, Bd.state]; rfl
  have N0 := Fr.nil n0
  have K0 : Keep h0 h0 [] := Keep.refl _ _
  show Gl p.tables e below (QQof s (Q_ire Z a1 x1 x2 x5 h0 n0) 0 0) (s₁.setTop (entryFrame m #[(.ref a1)] 1))
  refine Gl.go (fun t k => castTop (ef_ire m a1) k) ?_
  show Gl _ _ _ _ (s₁.setTop (mkF m 0 #[.val (.ref a1)] []))
  refine Gl.go (fun _ k => XS.aloadN X0.here hx rfl (hb hby d12_0) rfl rfl  k) ?_
  show Gl _ _ _ _ (s₁.setTop (mkF m 1 #[.val (.ref a1)] [(.ref a1)]))
  obtain ⟨T1, X1, e1, st1⟩ := getF X0 hx hZ hown (host := "") (Or.inl (hw _ (List.mem_of_getElem? (i := 46) rfl))) Via.refl e0 O1.2.2.2.2.1 (g := (mkF m 1 #[.val (.ref a1)] [(.ref a1)])) rfl rfl (hb hby d12_1)
  refine Gl.go (fun _ k => st1 _ k) ?_
  show Gl _ _ _ _ (T1.setTop (mkF m 4 #[.val (.ref a1)] [(.int (0 : Int32))]))
  refine leafN X1 hx hlk (t := .boolean) Bd.returns (by simp) (hb hby d12_4) ?_ (by decide) (by decide)
  exact ⟨by rw [own_narb0], N0, e1⟩
def Q_giv (Z : State) (a1 x1 x2 x5 : Addr) (ns vs : List Int32) (G1 : Int32) (h0 : Heap) (n0 : Nat) (v : Option Value) (h : Heap) (L : List Loc) : Prop := ∃ a : Addr, v = some (.ref a) ∧ Fr n0 L ∧ Keep h0 h [] ∧ StrAt Z h a (gvV ns vs)
set_option maxRecDepth 65536 in
set_option maxHeartbeats 40000000 in
theorem rm_giv (l : Launch) (Z : State) (a0 : Array Value) (hw : ∀ d ∈ tables_1, d.before a0 Z = true) (ws : List Jvm.Cond) (a1 x1 x2 x5 : Addr) (ns vs : List Int32) (G1 : Int32) (h0 : Heap) (n0 : Nat) (Z0 : n0 ≤ h0.size) (hEL : EW Z a0 elL) (hSA : ∀ a ∈ Bundle.stringAtoms, a.before a0 Z = true) (O1 : OptAt Z h0 a1 x1 x2 x5 (0 : Int32)) (S1 : StrAt Z h0 x1 ns) (S2 : StrAt Z h0 x2 vs) (hl : ns.length + vs.length ≤ 8) (O2 : Sta Z Z.heap "java/lang/String" "COMPACT_STRINGS" "Z" (.int G1)) (P5 : ¬ (G1 = (0 : Int32))) (X00 : Old Z n0 h0) :
    MetFree l (⟨"com/example/kontraktor/kontraktor/cli/Option", "given", "()Ljava/lang/String;"⟩ : MethodName) (head1 (Jvm.Cond.code (⟨"com/example/kontraktor/kontraktor/cli/Option", "given", "()Ljava/lang/String;"⟩ : MethodName) prog_20_method_8_code 1 (some (.object "java/lang/String")) :: ws) ({ frames := 6, cells := 6, slots := 48, locals := 91 } : Room)) (fun aa U => aa = #[(.ref a1)] ∧ Z.Warmed39 U.vm ∧ U.heap = h0 ∧ CHv Z elL U.vm h0) (fun _ _ _ _ _ => True) (fun _ U o U' => ∃ v L, o = .returned v ∧ Q_giv Z a1 x1 x2 x5 ns vs G1 h0 n0 v U'.heap L ∧ CHr Z elL U.vm U.heap U'.vm U'.heap ∧ ReturnedEndW U o U' L ({ frames := 6, cells := 6, slots := 48, locals := 91 } : Room).cells ({ frames := 6, cells := 6, slots := 48, locals := 91 } : Room).slots) := by
  refine MetFree.of_bodySF (plainFor_of_name pn_5) hisR ?_
  intro p e s m args below meth c s₁ Bd hml0 hP hK
  obtain ⟨rfl, hZ, hh, hCH⟩ := hP
  have hx := Bd.exec
  have hby := Bd.bytes
  have hml : c.maxLocals = 1 := hml0
  have hown : s.vm.findClass "com/example/kontraktor/kontraktor/cli/Option" = some m.cls := findClass_of_methodNamed Bd.named
  have hnm := (name_of_methodNamed Bd.named Bd.method).1
  have hlk : meth.locks = false := BodyLoose.notSynchronized Bd
  have X0 : Stand p l e ({ frames := 6, cells := 6, slots := 48, locals := 91 } : Room) (s.setVm s.vm) m #[(.ref a1)] below meth c s₁ [] 0 0 := Stand.of_body Bd
  have hS : s.Since s.vm 0 := (State.WarmedH.refl s).since 0
  have hk : 0 ≤ h0.size := Nat.zero_le _
  have CR0 : CHr Z elL s.vm h0 s.vm h0 := CHr.refl hCH
  have e0 : s₁.heap = h0 := by rw [← hh, Bd.state]; rfl
  have N0 := Fr.nil n0
  have K0 : Keep h0 h0 [] := Keep.refl _ _
  show Gl p.tables e below (QQofW Z elL s (Q_giv Z a1 x1 x2 x5 ns vs G1 h0 n0) 6 48) (s₁.setTop (entryFrame m #[(.ref a1)] 1))
  refine Gl.go (fun t k => castTop (ef_giv m a1) k) ?_
  show Gl _ _ _ _ (s₁.setTop (mkF m 0 #[.val (.ref a1)] []))
  obtain ⟨T1, h1, X1, e1, E1, A1, D1, -, st1⟩ := newO X0 hx hZ hown (hw _ (List.mem_of_getElem? (i := 75) rfl)) (hw _ (List.mem_of_getElem? (i := 76) rfl)) (hw _ (List.mem_of_getElem? (i := 77) rfl)) e0 (g := (mkF m 0 #[.val (.ref a1)] [])) rfl (hb hby d13_0) (by decide) (by decide)
  obtain ⟨b1, g1⟩ : ∃ z, z = h0.size := ⟨_, rfl⟩
  rw [← g1] at A1 D1 st1
  have g_b1 : n0 ≤ b1 := Nat.le_trans Z0 (Nat.le_of_eq g1.symm)
  have sz_b1 : h0.size ≤ b1 := Nat.le_trans K0.1 (Nat.le_of_eq g1.symm)
  have O__1 : Old Z n0 h1 := X00.ext E1
  have SZ1 : n0 ≤ h1.size := Nat.le_trans Z0 E1.1
  have K1 : Keep h0 h1 [] := K0.ext E1
  have hk := Nat.le_trans hk E1.1
  have CR1 : CHr Z elL s.vm h0 s.vm h1 := CR0.trans (CHr.ext E1 CR0.1)
  have F_b1_value_1 : Fld Z h1 b1 "java/lang/AbstractStringBuilder" "value" "[B" .null := D1 (Or.inl (hw _ (List.mem_of_getElem? (i := 90) rfl))) (ty := (.array .byte)) (by decide)
  have F_b1_coder_1 : Fld Z h1 b1 "java/lang/AbstractStringBuilder" "coder" "B" (.int (0 : Int32)) := D1 (Or.inl (hw _ (List.mem_of_getElem? (i := 92) rfl))) (ty := .byte) (by decide)
  have F_b1_count_1 : Fld Z h1 b1 "java/lang/AbstractStringBuilder" "count" "I" (.int (0 : Int32)) := D1 (Or.inl (hw _ (List.mem_of_getElem? (i := 114) rfl))) (ty := .int) (by decide)
  refine Gl.go (fun _ k => st1 _ k) ?_
  show Gl _ _ _ _ (T1.setTop (mkF m 3 #[.val (.ref a1)] [(.ref b1)]))
  refine Gl.go (fun _ k => XS.dup X1.here hx rfl (hb hby d13_3) rfl rfl k) ?_
  show Gl _ _ _ _ (T1.setTop (mkF m 4 #[.val (.ref a1)] [(.ref b1), (.ref b1)]))
  obtain ⟨_, _, ⟨T2, L2, k2, n2⟩, -, X2, ⟨Lc2, hQ2, l2, y2, z2⟩, st2⟩ := X1.specialBack hx (y := (⟨"java/lang/StringBuilder", "<init>", "()V"⟩ : MethodName)) rfl hown (mvT hZ (hw _ (List.mem_of_getElem? (i := 78) rfl))) (mvT hZ (hw _ (List.mem_of_getElem? (i := 79) rfl))) (mvT hZ (hw _ (List.mem_of_getElem? (i := 80) rfl))) (by decide) (backOf (W := 1) (rm_sbi l Z a0 hw [] b1 .null (.int 0) G1 h1 n0 SZ1 A1 F_b1_value_1 F_b1_coder_1 F_b1_count_1 g_b1 (O2.ext O__1.2) P5) hZ (hw _ (List.mem_of_getElem? (i := 80) rfl)) (hw _ (List.mem_of_getElem? (i := 77) rfl)) (by decide) (by decide)) (g := (mkF m 4 #[.val (.ref a1)] [(.ref b1), (.ref b1)])) rfl (by rw [hml]; rfl) (Steps.refl _) (a := b1) (argsL := []) (rest := [(.ref b1)]) (lenOf pd_16 rfl) rfl (by show 2 * 0 + _ ≤ _; exact Nat.le_of_eq rfl) (hb hby d13_4) (fun _ _ => ⟨rfl, e1, (by decide : 1 + 1 ≤ _), (by decide : 4 + 16 ≤ _)⟩)
  dsimp only [Pt.U, Pt.locs, Pt.cells, Pt.slots] at X2 l2 y2 z2 st2 hQ2
  subst y2 z2
  obtain ⟨bv2, k2', rfl, Nq2, Kc2, gz2, Bc2⟩ := hQ2
  have N2 : Fr n0 L2 := by rw [l2]; exact Fr.app N0 Nq2
  refine Gl.go (fun _ k => st2.trans k) ?_
  have O__2 : Old Z n0 T2.heap := O__1.keep Kc2 (allS g_b1 all0)
  have E_b1_2 : Exa Z T2.heap b1 "java/lang/StringBuilder" := A1.keep Kc2
  have SZ2 : n0 ≤ T2.heap.size := Nat.le_trans SZ1 Kc2.1
  have K2 : Keep h0 T2.heap [] := K1.trans Kc2 (allS (Or.inr sz_b1) all0)
  have hk := Nat.le_trans hk Kc2.1
  have CR2 : CHr Z elL s.vm h0 s.vm T2.heap := CR1.trans (CHr.keep Kc2 (sfS (Safe.exa hZ.alike A1 (by decide) (by decide)) sf0) CR1.1)
  show Gl _ _ _ _ (T2.setTop (mkF m 7 #[.val (.ref a1)] [(.ref b1)]))
  have g_bv2 : n0 ≤ bv2 := Nat.le_trans SZ1 gz2
  have sz_bv2 : h0.size ≤ bv2 := Nat.le_trans K1.1 gz2
  have ne_b1_bv2 : b1 ≠ bv2 := Nat.ne_of_lt (Nat.lt_of_lt_of_le A1.lt gz2)
  have Zs_bv2 : Safe Z elL s.vm T2.heap bv2 := Safe.keep Kc2 (sfS (Safe.exa hZ.alike A1 (by decide) (by decide)) sf0) CR1.1 (Safe.new gz2)
  refine Gl.go (fun _ k => XS.aloadN X2.here hx rfl (hb hby d13_7) rfl rfl  k) ?_
  show Gl _ _ _ _ (T2.setTop (mkF m 8 #[.val (.ref a1)] [(.ref a1), (.ref b1)]))
  obtain ⟨T3, X3, e3, st3⟩ := getF X2 hx hZ hown (host := "") (Or.inl (hw _ (List.mem_of_getElem? (i := 40) rfl))) Via.refl rfl (O1.ext (ext_of_keep K2)).2.1 (g := (mkF m 8 #[.val (.ref a1)] [(.ref a1), (.ref b1)])) rfl rfl (hb hby d13_8)
  refine Gl.go (fun _ k => st3 _ k) ?_
  show Gl _ _ _ _ (T3.setTop (mkF m 11 #[.val (.ref a1)] [(.ref x1), (.ref b1)]))
  obtain ⟨cq4, kq4, q4a, q4b, q4c⟩ := isOf (s := s.setVm s.vm) hZ e3 E_b1_2
  obtain ⟨_, _, ⟨T4, L4, k4, n4⟩, -, X4, ⟨Lc4, hQ4, l4, y4, z4⟩, st4⟩ := X3.virtualBack hx (y := (⟨"java/lang/StringBuilder", "append", "(Ljava/lang/String;)Ljava/lang/StringBuilder;"⟩ : MethodName)) (z := (⟨"java/lang/StringBuilder", "append", "(Ljava/lang/String;)Ljava/lang/StringBuilder;"⟩ : MethodName)) hown (mvT hZ (hw _ (List.mem_of_getElem? (i := 93) rfl))) (mvT hZ (hw _ (List.mem_of_getElem? (i := 94) rfl))) (notFace_of_selects (args := #[]) (mvT hZ (hw _ (List.mem_of_getElem? (i := 96) rfl)))) (mvT hZ (hw _ (List.mem_of_getElem? (i := 96) rfl))) (mvT hZ (hw _ (List.mem_of_getElem? (i := 95) rfl))) (by decide) (backOf (W := 0) (rm_app l Z a0 hw [] b1 bv2 k2' ([] : List Int32) x1 ns G1 T2.heap n0 SZ2 ⟨E_b1_2, Bc2.2.1, Bc2.2.2.1, Bc2.2.2.2.1, Bc2.2.2.2.2⟩ (by simp [gvV, sp1] at hl ⊢ <;> omega) g_b1 g_bv2 ne_b1_bv2 (S1.ext (ext_of_keep K2)) (O2.ext O__2.2) P5) hZ (hw _ (List.mem_of_getElem? (i := 97) rfl)) (hw _ (List.mem_of_getElem? (i := 77) rfl)) (by decide) (by decide)) q4a q4c (g := (mkF m 11 #[.val (.ref a1)] [(.ref x1), (.ref b1)])) rfl (by rw [hml]; rfl) (Steps.refl _) (argsL := [(.ref x1)]) (rest := []) (lenOf pd_17 rfl) rfl (by show 2 * 0 + _ ≤ _; exact Nat.le_of_eq rfl) (hb hby d13_11) (fun _ _ => ⟨rfl, e3, (by decide : 2 + 0 ≤ _), (by decide : 20 + 0 ≤ _)⟩)
  dsimp only [Pt.U, Pt.locs, Pt.cells, Pt.slots] at X4 l4 y4 z4 st4 hQ4
  subst y4 z4
  obtain ⟨rfl, Nq4, Kc4, Bc4⟩ := hQ4
  have N4 : Fr n0 L4 := by rw [l4]; exact Fr.app N2 Nq4
  refine Gl.go (fun _ k => st4.trans k) ?_
  have Zs_bv2_4 : Safe Z elL s.vm T4.heap bv2 := Safe.keep Kc4 (sfS (Safe.exa hZ.alike E_b1_2 (by decide) (by decide)) (sfS Zs_bv2 sf0)) CR2.1 Zs_bv2
  have O__4 : Old Z n0 T4.heap := O__2.keep Kc4 (allS g_b1 (allS g_bv2 all0))
  have E_b1_4 : Exa Z T4.heap b1 "java/lang/StringBuilder" := E_b1_2.keep Kc4
  have SZ4 : n0 ≤ T4.heap.size := Nat.le_trans SZ2 Kc4.1
  have K4 : Keep h0 T4.heap [] := K2.trans Kc4 (allS (Or.inr sz_b1) (allS (Or.inr sz_bv2) all0))
  have hk := Nat.le_trans hk Kc4.1
  have CR4 : CHr Z elL s.vm h0 s.vm T4.heap := CR2.trans (CHr.keep Kc4 (sfS (Safe.exa hZ.alike E_b1_2 (by decide) (by decide)) (sfS Zs_bv2 sf0)) CR2.1)
  show Gl _ _ _ _ (T4.setTop (mkF m 14 #[.val (.ref a1)] [(.ref b1)]))
  obtain ⟨sa5, T5, h5, k15, sb5, kb5, X5, e5, E5, hS, hk5, hZ5, hown, Es5, Cs5, Vs5, Ks5, -, -, hC5, -, -, st5⟩ := ldcCH (EL := elL) X4 hx hZ hown (hw _ (List.mem_of_getElem? (i := 140) rfl)) hSA rfl hS hk hEL (by decide) CR4.1 (vs := [(.int (32 : Int32))]) (z := (1 : Int32)) ⟨by decide, by decide⟩ (by decide) rfl (g := (mkF m 14 #[.val (.ref a1)] [(.ref b1)])) rfl (hb hby d13_14) (n := 4) (by decide) (by decide) (by decide) (by decide)
  have hZ : Z.Warmed39 T5.vm := hZ5
  have hk := hk5
  have CR5 : CHr Z elL s.vm h0 T5.vm h5 := CR4.trans hC5
  have Zs_bv2_5 : Safe Z elL T5.vm h5 bv2 := hC5.safe Bc4.2.2.2.2.lt Zs_bv2_4
  have O__5 : Old Z n0 h5 := O__4.ext E5
  have E_b1_5 : Exa Z h5 b1 "java/lang/StringBuilder" := E_b1_4.ext E5
  have F_b1_value_5 : Fld Z h5 b1 "java/lang/AbstractStringBuilder" "value" "[B" (.ref bv2) := Bc4.2.1.ext E5
  have F_b1_coder_5 : Fld Z h5 b1 "java/lang/AbstractStringBuilder" "coder" "B" (.int (0 : Int32)) := Bc4.2.2.1.ext E5
  have F_b1_count_5 : Fld Z h5 b1 "java/lang/AbstractStringBuilder" "count" "I" (.int (Int32.ofNat (([] : List Int32) ++ ns).length)) := Bc4.2.2.2.1.ext E5
  have V_bv2_5 : Arv Z h5 bv2 k2' .byte (16 : Int32) ((([] : List Int32) ++ ns).map Value.int) (.int (0 : Int32)) := Bc4.2.2.2.2.ext E5
  have SZ5 : n0 ≤ h5.size := Nat.le_trans SZ4 E5.1
  have K5 : Keep h0 h5 [] := K4.ext E5
  refine Gl.go (fun _ k => st5 _ k) ?_
  show Gl _ _ _ _ (T5.setTop (mkF m 16 #[.val (.ref a1)] [(.ref sa5), (.ref b1)]))
  obtain ⟨cq6, kq6, q6a, q6b, q6c⟩ := isOf (s := s.setVm T5.vm) hZ e5 E_b1_5
  obtain ⟨_, _, ⟨T6, L6, k6, n6⟩, -, X6, ⟨Lc6, hQ6, l6, y6, z6⟩, st6⟩ := X5.virtualBack hx (y := (⟨"java/lang/StringBuilder", "append", "(Ljava/lang/String;)Ljava/lang/StringBuilder;"⟩ : MethodName)) (z := (⟨"java/lang/StringBuilder", "append", "(Ljava/lang/String;)Ljava/lang/StringBuilder;"⟩ : MethodName)) hown (mvT hZ (hw _ (List.mem_of_getElem? (i := 93) rfl))) (mvT hZ (hw _ (List.mem_of_getElem? (i := 94) rfl))) (notFace_of_selects (args := #[]) (mvT hZ (hw _ (List.mem_of_getElem? (i := 96) rfl)))) (mvT hZ (hw _ (List.mem_of_getElem? (i := 96) rfl))) (mvT hZ (hw _ (List.mem_of_getElem? (i := 95) rfl))) (by decide) (backOf (W := 0) (rm_app l Z a0 hw [] b1 bv2 k2' (([] : List Int32) ++ ns) sa5 [(32 : Int32)] G1 h5 n0 SZ5 ⟨E_b1_5, F_b1_value_5, F_b1_coder_5, F_b1_count_5, V_bv2_5⟩ (by simp [gvV, sp1] at hl ⊢ <;> omega) g_b1 g_bv2 ne_b1_bv2 ⟨Es5, Cs5, by decide, sb5, kb5, Vs5, Ks5⟩ (O2.ext O__5.2) P5) hZ (hw _ (List.mem_of_getElem? (i := 97) rfl)) (hw _ (List.mem_of_getElem? (i := 77) rfl)) (by decide) (by decide)) q6a q6c (g := (mkF m 16 #[.val (.ref a1)] [(.ref sa5), (.ref b1)])) rfl (by rw [hml]; rfl) (Steps.refl _) (argsL := [(.ref sa5)]) (rest := []) (lenOf pd_17 rfl) rfl (by show 2 * 0 + _ ≤ _; exact Nat.le_of_eq rfl) (hb hby d13_16) (fun _ _ => ⟨rfl, e5, (by decide : 4 + 0 ≤ _), (by decide : 28 + 0 ≤ _)⟩)
  dsimp only [Pt.U, Pt.locs, Pt.cells, Pt.slots] at X6 l6 y6 z6 st6 hQ6
  subst y6 z6
  obtain ⟨rfl, Nq6, Kc6, Bc6⟩ := hQ6
  have N6 : Fr n0 L6 := by rw [l6]; exact Fr.app N4 Nq6
  refine Gl.go (fun _ k => st6.trans k) ?_
  have Zs_bv2_6 : Safe Z elL T5.vm T6.heap bv2 := Safe.keep Kc6 (sfS (Safe.exa hZ.alike E_b1_5 (by decide) (by decide)) (sfS Zs_bv2_5 sf0)) CR5.1 Zs_bv2_5
  have O__6 : Old Z n0 T6.heap := O__5.keep Kc6 (allS g_b1 (allS g_bv2 all0))
  have E_b1_6 : Exa Z T6.heap b1 "java/lang/StringBuilder" := E_b1_5.keep Kc6
  have SZ6 : n0 ≤ T6.heap.size := Nat.le_trans SZ5 Kc6.1
  have K6 : Keep h0 T6.heap [] := K5.trans Kc6 (allS (Or.inr sz_b1) (allS (Or.inr sz_bv2) all0))
  have hk := Nat.le_trans hk Kc6.1
  have CR6 : CHr Z elL s.vm h0 T5.vm T6.heap := CR5.trans (CHr.keep Kc6 (sfS (Safe.exa hZ.alike E_b1_5 (by decide) (by decide)) (sfS Zs_bv2_5 sf0)) CR5.1)
  show Gl _ _ _ _ (T6.setTop (mkF m 19 #[.val (.ref a1)] [(.ref b1)]))
  refine Gl.go (fun _ k => XS.aloadN X6.here hx rfl (hb hby d13_19) rfl rfl  k) ?_
  show Gl _ _ _ _ (T6.setTop (mkF m 20 #[.val (.ref a1)] [(.ref a1), (.ref b1)]))
  obtain ⟨T7, X7, e7, st7⟩ := getF X6 hx hZ hown (host := "") (Or.inl (hw _ (List.mem_of_getElem? (i := 42) rfl))) Via.refl rfl (O1.ext (ext_of_keep K6)).2.2.1 (g := (mkF m 20 #[.val (.ref a1)] [(.ref a1), (.ref b1)])) rfl rfl (hb hby d13_20)
  refine Gl.go (fun _ k => st7 _ k) ?_
  show Gl _ _ _ _ (T7.setTop (mkF m 23 #[.val (.ref a1)] [(.ref x2), (.ref b1)]))
  obtain ⟨cq8, kq8, q8a, q8b, q8c⟩ := isOf (s := s.setVm T5.vm) hZ e7 E_b1_6
  obtain ⟨_, _, ⟨T8, L8, k8, n8⟩, -, X8, ⟨Lc8, hQ8, l8, y8, z8⟩, st8⟩ := X7.virtualBack hx (y := (⟨"java/lang/StringBuilder", "append", "(Ljava/lang/String;)Ljava/lang/StringBuilder;"⟩ : MethodName)) (z := (⟨"java/lang/StringBuilder", "append", "(Ljava/lang/String;)Ljava/lang/StringBuilder;"⟩ : MethodName)) hown (mvT hZ (hw _ (List.mem_of_getElem? (i := 93) rfl))) (mvT hZ (hw _ (List.mem_of_getElem? (i := 94) rfl))) (notFace_of_selects (args := #[]) (mvT hZ (hw _ (List.mem_of_getElem? (i := 96) rfl)))) (mvT hZ (hw _ (List.mem_of_getElem? (i := 96) rfl))) (mvT hZ (hw _ (List.mem_of_getElem? (i := 95) rfl))) (by decide) (backOf (W := 0) (rm_app l Z a0 hw [] b1 bv2 k2' ((([] : List Int32) ++ ns) ++ [(32 : Int32)]) x2 vs G1 T6.heap n0 SZ6 ⟨E_b1_6, Bc6.2.1, Bc6.2.2.1, Bc6.2.2.2.1, Bc6.2.2.2.2⟩ (by simp [gvV, sp1] at hl ⊢ <;> omega) g_b1 g_bv2 ne_b1_bv2 (S2.ext (ext_of_keep K6)) (O2.ext O__6.2) P5) hZ (hw _ (List.mem_of_getElem? (i := 97) rfl)) (hw _ (List.mem_of_getElem? (i := 77) rfl)) (by decide) (by decide)) q8a q8c (g := (mkF m 23 #[.val (.ref a1)] [(.ref x2), (.ref b1)])) rfl (by rw [hml]; rfl) (Steps.refl _) (argsL := [(.ref x2)]) (rest := []) (lenOf pd_17 rfl) rfl (by show 2 * 0 + _ ≤ _; exact Nat.le_of_eq rfl) (hb hby d13_23) (fun _ _ => ⟨rfl, e7, (by decide : 4 + 0 ≤ _), (by decide : 28 + 0 ≤ _)⟩)
  dsimp only [Pt.U, Pt.locs, Pt.cells, Pt.slots] at X8 l8 y8 z8 st8 hQ8
  subst y8 z8
  obtain ⟨rfl, Nq8, Kc8, Bc8⟩ := hQ8
  have N8 : Fr n0 L8 := by rw [l8]; exact Fr.app N6 Nq8
  refine Gl.go (fun _ k => st8.trans k) ?_
  have Zs_bv2_8 : Safe Z elL T5.vm T8.heap bv2 := Safe.keep Kc8 (sfS (Safe.exa hZ.alike E_b1_6 (by decide) (by decide)) (sfS Zs_bv2_6 sf0)) CR6.1 Zs_bv2_6
  have O__8 : Old Z n0 T8.heap := O__6.keep Kc8 (allS g_b1 (allS g_bv2 all0))
  have E_b1_8 : Exa Z T8.heap b1 "java/lang/StringBuilder" := E_b1_6.keep Kc8
  have SZ8 : n0 ≤ T8.heap.size := Nat.le_trans SZ6 Kc8.1
  have K8 : Keep h0 T8.heap [] := K6.trans Kc8 (allS (Or.inr sz_b1) (allS (Or.inr sz_bv2) all0))
  have hk := Nat.le_trans hk Kc8.1
  have CR8 : CHr Z elL s.vm h0 T5.vm T8.heap := CR6.trans (CHr.keep Kc8 (sfS (Safe.exa hZ.alike E_b1_6 (by decide) (by decide)) (sfS Zs_bv2_6 sf0)) CR6.1)
  show Gl _ _ _ _ (T8.setTop (mkF m 26 #[.val (.ref a1)] [(.ref b1)]))
  obtain ⟨cq9, kq9, q9a, q9b, q9c⟩ := isOf (s := s.setVm T5.vm) hZ rfl E_b1_8
  obtain ⟨_, _, ⟨T9, L9, k9, n9⟩, -, X9, ⟨Lc9, hQ9, l9, y9, z9⟩, st9⟩ := X8.virtualBack hx (y := (⟨"java/lang/StringBuilder", "toString", "()Ljava/lang/String;"⟩ : MethodName)) (z := (⟨"java/lang/StringBuilder", "toString", "()Ljava/lang/String;"⟩ : MethodName)) hown (mvT hZ (hw _ (List.mem_of_getElem? (i := 143) rfl))) (mvT hZ (hw _ (List.mem_of_getElem? (i := 144) rfl))) (notFace_of_selects (args := #[]) (mvT hZ (hw _ (List.mem_of_getElem? (i := 146) rfl)))) (mvT hZ (hw _ (List.mem_of_getElem? (i := 146) rfl))) (mvT hZ (hw _ (List.mem_of_getElem? (i := 145) rfl))) (by decide) (backOf (W := 0) (rm_tos l Z a0 hw [] b1 bv2 k2' (((([] : List Int32) ++ ns) ++ [(32 : Int32)]) ++ vs) G1 T8.heap n0 SZ8 ⟨E_b1_8, Bc8.2.1, Bc8.2.2.1, Bc8.2.2.2.1, Bc8.2.2.2.2⟩ (by simp [gvV, sp1] at hl ⊢ <;> omega) (O2.ext O__8.2) P5) hZ (hw _ (List.mem_of_getElem? (i := 147) rfl)) (hw _ (List.mem_of_getElem? (i := 77) rfl)) (by decide) (by decide)) q9a q9c (g := (mkF m 26 #[.val (.ref a1)] [(.ref b1)])) rfl (by rw [hml]; rfl) (Steps.refl _) (argsL := []) (rest := []) (lenOf pd_18 rfl) rfl (by show 2 * 0 + _ ≤ _; exact Nat.le_of_eq rfl) (hb hby d13_26) (fun _ _ => ⟨rfl, rfl, (by decide : 4 + 2 ≤ _), (by decide : 28 + 20 ≤ _)⟩)
  dsimp only [Pt.U, Pt.locs, Pt.cells, Pt.slots] at X9 l9 y9 z9 st9 hQ9
  subst y9 z9
  obtain ⟨a9, rfl, Nq9, Kc9, gz9, Sc9⟩ := hQ9
  have N9 : Fr n0 L9 := by rw [l9]; exact Fr.app N8 Nq9
  refine Gl.go (fun _ k => st9.trans k) ?_
  have Ex9 := ext_of_keep Kc9
  have Zs_bv2_9 : Safe Z elL T5.vm T9.heap bv2 := Safe.ext Ex9 CR8.1 Zs_bv2_8
  have O__9 : Old Z n0 T9.heap := O__8.ext Ex9
  have E_b1_9 : Exa Z T9.heap b1 "java/lang/StringBuilder" := E_b1_8.ext Ex9
  have F_b1_value_9 : Fld Z T9.heap b1 "java/lang/AbstractStringBuilder" "value" "[B" (.ref bv2) := Bc8.2.1.ext Ex9
  have F_b1_coder_9 : Fld Z T9.heap b1 "java/lang/AbstractStringBuilder" "coder" "B" (.int (0 : Int32)) := Bc8.2.2.1.ext Ex9
  have F_b1_count_9 : Fld Z T9.heap b1 "java/lang/AbstractStringBuilder" "count" "I" (.int (Int32.ofNat (((([] : List Int32) ++ ns) ++ [(32 : Int32)]) ++ vs).length)) := Bc8.2.2.2.1.ext Ex9
  have V_bv2_9 : Arv Z T9.heap bv2 k2' .byte (16 : Int32) ((((([] : List Int32) ++ ns) ++ [(32 : Int32)]) ++ vs).map Value.int) (.int (0 : Int32)) := Bc8.2.2.2.2.ext Ex9
  have SZ9 : n0 ≤ T9.heap.size := Nat.le_trans SZ8 Ex9.1
  have K9 : Keep h0 T9.heap [] := K8.ext Ex9
  have hk := Nat.le_trans hk Ex9.1
  have CR9 : CHr Z elL s.vm h0 T5.vm T9.heap := CR8.trans (CHr.ext Ex9 CR8.1)
  show Gl _ _ _ _ (T9.setTop (mkF m 29 #[.val (.ref a1)] [(.ref a9)]))
  refine leafWA X9 hS hk hx hlk Bd.returns rfl rfl (hb hby d13_29) (CR9.trans (CHv.at X9 hZ hEL CR9.1)) hh ?_ (by decide) (by decide)
  exact ⟨a9, rfl, N9, K9, Sc9⟩
def Q_usa (Z : State) (a1 x1 x2 x5 : Addr) (ns vs : List Int32) (G1 : Int32) (h0 : Heap) (n0 : Nat) (v : Option Value) (h : Heap) (L : List Loc) : Prop := ∃ a : Addr, v = some (.ref a) ∧ Fr n0 L ∧ Keep h0 h [] ∧ StrAt Z h a ((((([] : List Int32) ++ [(91 : Int32)]) ++ ((([] : List Int32) ++ (gvV ns vs)) ++ ([] : List Int32))) ++ [(93 : Int32)]))
set_option maxRecDepth 65536 in
set_option maxHeartbeats 40000000 in
theorem rm_usa (l : Launch) (Z : State) (a0 : Array Value) (hw : ∀ d ∈ tables_1, d.before a0 Z = true) (ws : List Jvm.Cond) (a1 x1 x2 x5 : Addr) (ns vs : List Int32) (G1 : Int32) (h0 : Heap) (n0 : Nat) (Z0 : n0 ≤ h0.size) (hEL : EW Z a0 elL) (hSA : ∀ a ∈ Bundle.stringAtoms, a.before a0 Z = true) (O1 : OptAt Z h0 a1 x1 x2 x5 (0 : Int32)) (S1 : StrAt Z h0 x1 ns) (S2 : StrAt Z h0 x2 vs) (hl : ns.length + vs.length ≤ 8) (O2 : Sta Z Z.heap "java/lang/String" "COMPACT_STRINGS" "Z" (.int G1)) (P5 : ¬ (G1 = (0 : Int32))) (X00 : Old Z n0 h0) :
    MetFree l (⟨"com/example/kontraktor/kontraktor/cli/Option", "usage", "()Ljava/lang/String;"⟩ : MethodName) (head1 (Jvm.Cond.code (⟨"com/example/kontraktor/kontraktor/cli/Option", "usage", "()Ljava/lang/String;"⟩ : MethodName) prog_20_method_9_code 2 (some (.object "java/lang/String")) :: ws) ({ frames := 7, cells := 20, slots := 148, locals := 104 } : Room)) (fun aa U => aa = #[(.ref a1)] ∧ Z.Warmed39 U.vm ∧ U.heap = h0 ∧ CHv Z elL U.vm h0) (fun _ _ _ _ _ => True) (fun _ U o U' => ∃ v L, o = .returned v ∧ Q_usa Z a1 x1 x2 x5 ns vs G1 h0 n0 v U'.heap L ∧ CHr Z elL U.vm U.heap U'.vm U'.heap ∧ ReturnedEndW U o U' L ({ frames := 7, cells := 20, slots := 148, locals := 104 } : Room).cells ({ frames := 7, cells := 20, slots := 148, locals := 104 } : Room).slots) := by
  refine MetFree.of_bodySF (plainFor_of_name pn_5) hisR ?_
  intro p e s m args below meth c s₁ Bd hml0 hP hK
  obtain ⟨rfl, hZ, hh, hCH⟩ := hP
  have hx := Bd.exec
  have hby := Bd.bytes
  have hml : c.maxLocals = 2 := hml0
  have hown : s.vm.findClass "com/example/kontraktor/kontraktor/cli/Option" = some m.cls := findClass_of_methodNamed Bd.named
  have hnm := (name_of_methodNamed Bd.named Bd.method).1
  have hlk : meth.locks = false := BodyLoose.notSynchronized Bd
  have X0 : Stand p l e ({ frames := 7, cells := 20, slots := 148, locals := 104 } : Room) (s.setVm s.vm) m #[(.ref a1)] below meth c s₁ [] 0 0 := Stand.of_body Bd
  have hS : s.Since s.vm 0 := (State.WarmedH.refl s).since 0
  have hk : 0 ≤ h0.size := Nat.zero_le _
  have CR0 : CHr Z elL s.vm h0 s.vm h0 := CHr.refl hCH
  have e0 : s₁.heap = h0 := by rw [← hh, Bd.state]; rfl
  have N0 := Fr.nil n0
  have K0 : Keep h0 h0 [] := Keep.refl _ _
  show Gl p.tables e below (QQofW Z elL s (Q_usa Z a1 x1 x2 x5 ns vs G1 h0 n0) 20 148) (s₁.setTop (entryFrame m #[(.ref a1)] 2))
  refine Gl.go (fun t k => castTop (ef_usa m a1) k) ?_
  show Gl _ _ _ _ (s₁.setTop (mkF m 0 #[.val (.ref a1), .unset] []))
  obtain ⟨T1, h1, X1, e1, E1, A1, D1, -, st1⟩ := newO X0 hx hZ hown (hw _ (List.mem_of_getElem? (i := 75) rfl)) (hw _ (List.mem_of_getElem? (i := 76) rfl)) (hw _ (List.mem_of_getElem? (i := 77) rfl)) e0 (g := (mkF m 0 #[.val (.ref a1), .unset] [])) rfl (hb hby d36_0) (by decide) (by decide)
  obtain ⟨b1, g1⟩ : ∃ z, z = h0.size := ⟨_, rfl⟩
  rw [← g1] at A1 D1 st1
  have g_b1 : n0 ≤ b1 := Nat.le_trans Z0 (Nat.le_of_eq g1.symm)
  have sz_b1 : h0.size ≤ b1 := Nat.le_trans K0.1 (Nat.le_of_eq g1.symm)
  have O__1 : Old Z n0 h1 := X00.ext E1
  have SZ1 : n0 ≤ h1.size := Nat.le_trans Z0 E1.1
  have K1 : Keep h0 h1 [] := K0.ext E1
  have hk := Nat.le_trans hk E1.1
  have CR1 : CHr Z elL s.vm h0 s.vm h1 := CR0.trans (CHr.ext E1 CR0.1)
  have F_b1_value_1 : Fld Z h1 b1 "java/lang/AbstractStringBuilder" "value" "[B" .null := D1 (Or.inl (hw _ (List.mem_of_getElem? (i := 90) rfl))) (ty := (.array .byte)) (by decide)
  have F_b1_coder_1 : Fld Z h1 b1 "java/lang/AbstractStringBuilder" "coder" "B" (.int (0 : Int32)) := D1 (Or.inl (hw _ (List.mem_of_getElem? (i := 92) rfl))) (ty := .byte) (by decide)
  have F_b1_count_1 : Fld Z h1 b1 "java/lang/AbstractStringBuilder" "count" "I" (.int (0 : Int32)) := D1 (Or.inl (hw _ (List.mem_of_getElem? (i := 114) rfl))) (ty := .int) (by decide)
  refine Gl.go (fun _ k => st1 _ k) ?_
  show Gl _ _ _ _ (T1.setTop (mkF m 3 #[.val (.ref a1), .unset] [(.ref b1)]))
  refine Gl.go (fun _ k => XS.dup X1.here hx rfl (hb hby d36_3) rfl rfl k) ?_
  show Gl _ _ _ _ (T1.setTop (mkF m 4 #[.val (.ref a1), .unset] [(.ref b1), (.ref b1)]))
  obtain ⟨_, _, ⟨T2, L2, k2, n2⟩, -, X2, ⟨Lc2, hQ2, l2, y2, z2⟩, st2⟩ := X1.specialBack hx (y := (⟨"java/lang/StringBuilder", "<init>", "()V"⟩ : MethodName)) rfl hown (mvT hZ (hw _ (List.mem_of_getElem? (i := 78) rfl))) (mvT hZ (hw _ (List.mem_of_getElem? (i := 79) rfl))) (mvT hZ (hw _ (List.mem_of_getElem? (i := 80) rfl))) (by decide) (backOf (W := 1) (rm_sbi l Z a0 hw [] b1 .null (.int 0) G1 h1 n0 SZ1 A1 F_b1_value_1 F_b1_coder_1 F_b1_count_1 g_b1 (O2.ext O__1.2) P5) hZ (hw _ (List.mem_of_getElem? (i := 80) rfl)) (hw _ (List.mem_of_getElem? (i := 77) rfl)) (by decide) (by decide)) (g := (mkF m 4 #[.val (.ref a1), .unset] [(.ref b1), (.ref b1)])) rfl (by rw [hml]; rfl) (Steps.refl _) (a := b1) (argsL := []) (rest := [(.ref b1)]) (lenOf pd_16 rfl) rfl (by show 2 * 0 + _ ≤ _; exact Nat.le_of_eq rfl) (hb hby d36_4) (fun _ _ => ⟨rfl, e1, (by decide : 1 + 1 ≤ _), (by decide : 4 + 16 ≤ _)⟩)
  dsimp only [Pt.U, Pt.locs, Pt.cells, Pt.slots] at X2 l2 y2 z2 st2 hQ2
  subst y2 z2
  obtain ⟨bv2, k2', rfl, Nq2, Kc2, gz2, Bc2⟩ := hQ2
  have N2 : Fr n0 L2 := by rw [l2]; exact Fr.app N0 Nq2
  refine Gl.go (fun _ k => st2.trans k) ?_
  have O__2 : Old Z n0 T2.heap := O__1.keep Kc2 (allS g_b1 all0)
  have E_b1_2 : Exa Z T2.heap b1 "java/lang/StringBuilder" := A1.keep Kc2
  have SZ2 : n0 ≤ T2.heap.size := Nat.le_trans SZ1 Kc2.1
  have K2 : Keep h0 T2.heap [] := K1.trans Kc2 (allS (Or.inr sz_b1) all0)
  have hk := Nat.le_trans hk Kc2.1
  have CR2 : CHr Z elL s.vm h0 s.vm T2.heap := CR1.trans (CHr.keep Kc2 (sfS (Safe.exa hZ.alike A1 (by decide) (by decide)) sf0) CR1.1)
  show Gl _ _ _ _ (T2.setTop (mkF m 7 #[.val (.ref a1), .unset] [(.ref b1)]))
  have g_bv2 : n0 ≤ bv2 := Nat.le_trans SZ1 gz2
  have sz_bv2 : h0.size ≤ bv2 := Nat.le_trans K1.1 gz2
  have ne_b1_bv2 : b1 ≠ bv2 := Nat.ne_of_lt (Nat.lt_of_lt_of_le A1.lt gz2)
  have Zs_bv2 : Safe Z elL s.vm T2.heap bv2 := Safe.keep Kc2 (sfS (Safe.exa hZ.alike A1 (by decide) (by decide)) sf0) CR1.1 (Safe.new gz2)
  refine Gl.go (fun _ k => XS.aloadN X2.here hx rfl (hb hby d36_7) rfl rfl  k) ?_
  show Gl _ _ _ _ (T2.setTop (mkF m 8 #[.val (.ref a1), .unset] [(.ref a1), (.ref b1)]))
  obtain ⟨cq3, kq3, q3a, q3b, q3c⟩ := isOf (s := s.setVm s.vm) hZ rfl (O1.ext (ext_of_keep K2)).1
  obtain ⟨_, _, ⟨T3, L3, k3, n3⟩, -, X3, hS3, hg3, ⟨Lc3, hQ3, l3, y3, z3, hC3⟩, st3⟩ := X2.virtualBackS hx (y := (⟨"com/example/kontraktor/kontraktor/cli/Option", "given", "()Ljava/lang/String;"⟩ : MethodName)) (z := (⟨"com/example/kontraktor/kontraktor/cli/Option", "given", "()Ljava/lang/String;"⟩ : MethodName)) hown (mvT hZ (hw _ (List.mem_of_getElem? (i := 198) rfl))) (mvT hZ (hw _ (List.mem_of_getElem? (i := 71) rfl))) (notFace_of_selects (args := #[]) (mvT hZ (hw _ (List.mem_of_getElem? (i := 73) rfl)))) (mvT hZ (hw _ (List.mem_of_getElem? (i := 73) rfl))) (mvT hZ (hw _ (List.mem_of_getElem? (i := 72) rfl))) (by decide) (backOfSH (EL := elL) (W := 1) (rm_giv l Z a0 hw [] a1 x1 x2 x5 ns vs G1 T2.heap n0 SZ2 hEL hSA (O1.ext (ext_of_keep K2)) (S1.ext (ext_of_keep K2)) (S2.ext (ext_of_keep K2)) hl O2 P5 O__2) hZ (hw _ (List.mem_of_getElem? (i := 74) rfl)) (hw _ (List.mem_of_getElem? (i := 32) rfl)) (by decide) (by decide) hEL CR2.1) q3a q3c (g := (mkF m 8 #[.val (.ref a1), .unset] [(.ref a1), (.ref b1)])) rfl (by rw [hml]; rfl) (Steps.refl _) (argsL := []) (rest := [(.ref b1)]) (lenOf pd_18 rfl) rfl (by show 2 * 0 + _ ≤ _; exact Nat.le_of_eq rfl) (hb hby d36_8) (fun _ _ => ⟨rfl, rfl, (by decide : 2 + 6 ≤ _), (by decide : 20 + 48 ≤ _)⟩)
  dsimp only [Pt.U, Pt.locs, Pt.cells, Pt.slots] at X3 hS3 hg3 l3 y3 z3 st3 hQ3 hC3
  subst y3 z3
  have X3 : Stand p l e _ (s.setVm T3.vm) m _ below meth c T3 L3 _ _ := X3
  have hZo := hZ
  have hS : s.Since T3.vm T3.heap.size := foldS hS hk hS3 hg3
  have hk : T3.heap.size ≤ T3.heap.size := Nat.le_refl _
  have hZ : Z.Warmed39 T3.vm := State.Warmed39.trans (t := s.setVm s.vm) hZo hS3.1
  have hown : T3.vm.findClass "com/example/kontraktor/kontraktor/cli/Option" = some m.cls := by rw [hS3.1.alike.findClass]; exact hown
  have CR3 : CHr Z elL s.vm h0 T3.vm T3.heap := CR2.trans hC3
  obtain ⟨a3, rfl, Nq3, Kc3, Sc3⟩ := hQ3
  have N3 : Fr n0 L3 := by rw [l3]; exact Fr.app N2 Nq3
  refine Gl.go (fun _ k => st3.trans k) ?_
  have Ex3 := ext_of_keep Kc3
  have Zs_bv2_3 : Safe Z elL T3.vm T3.heap bv2 := hC3.safe Bc2.2.2.2.2.lt Zs_bv2
  have O__3 : Old Z n0 T3.heap := O__2.ext Ex3
  have E_b1_3 : Exa Z T3.heap b1 "java/lang/StringBuilder" := E_b1_2.ext Ex3
  have F_b1_value_3 : Fld Z T3.heap b1 "java/lang/AbstractStringBuilder" "value" "[B" (.ref bv2) := Bc2.2.1.ext Ex3
  have F_b1_coder_3 : Fld Z T3.heap b1 "java/lang/AbstractStringBuilder" "coder" "B" (.int (0 : Int32)) := Bc2.2.2.1.ext Ex3
  have F_b1_count_3 : Fld Z T3.heap b1 "java/lang/AbstractStringBuilder" "count" "I" (.int (Int32.ofNat ([] : List Int32).length)) := Bc2.2.2.2.1.ext Ex3
  have V_bv2_3 : Arv Z T3.heap bv2 k2' .byte (16 : Int32) (([] : List Int32).map Value.int) (.int (0 : Int32)) := Bc2.2.2.2.2.ext Ex3
  have SZ3 : n0 ≤ T3.heap.size := Nat.le_trans SZ2 Ex3.1
  have K3 : Keep h0 T3.heap [] := K2.ext Ex3
  show Gl _ _ _ _ (T3.setTop (mkF m 11 #[.val (.ref a1), .unset] [(.ref a3), (.ref b1)]))
  obtain ⟨cq4, kq4, q4a, q4b, q4c⟩ := isOf (s := s.setVm T3.vm) hZ rfl E_b1_3
  obtain ⟨_, _, ⟨T4, L4, k4, n4⟩, -, X4, ⟨Lc4, hQ4, l4, y4, z4⟩, st4⟩ := X3.virtualBack hx (y := (⟨"java/lang/StringBuilder", "append", "(Ljava/lang/String;)Ljava/lang/StringBuilder;"⟩ : MethodName)) (z := (⟨"java/lang/StringBuilder", "append", "(Ljava/lang/String;)Ljava/lang/StringBuilder;"⟩ : MethodName)) hown (mvT hZ (hw _ (List.mem_of_getElem? (i := 93) rfl))) (mvT hZ (hw _ (List.mem_of_getElem? (i := 94) rfl))) (notFace_of_selects (args := #[]) (mvT hZ (hw _ (List.mem_of_getElem? (i := 96) rfl)))) (mvT hZ (hw _ (List.mem_of_getElem? (i := 96) rfl))) (mvT hZ (hw _ (List.mem_of_getElem? (i := 95) rfl))) (by decide) (backOf (W := 0) (rm_app l Z a0 hw [] b1 bv2 k2' ([] : List Int32) a3 (gvV ns vs) G1 T3.heap n0 SZ3 ⟨E_b1_3, F_b1_value_3, F_b1_coder_3, F_b1_count_3, V_bv2_3⟩ (by simp [gvV, sp1] at hl ⊢ <;> omega) g_b1 g_bv2 ne_b1_bv2 Sc3 (O2.ext O__3.2) P5) hZ (hw _ (List.mem_of_getElem? (i := 97) rfl)) (hw _ (List.mem_of_getElem? (i := 77) rfl)) (by decide) (by decide)) q4a q4c (g := (mkF m 11 #[.val (.ref a1), .unset] [(.ref a3), (.ref b1)])) rfl (by rw [hml]; rfl) (Steps.refl _) (argsL := [(.ref a3)]) (rest := []) (lenOf pd_17 rfl) rfl (by show 2 * 0 + _ ≤ _; exact Nat.le_of_eq rfl) (hb hby d36_11) (fun _ _ => ⟨rfl, rfl, (by decide : 8 + 0 ≤ _), (by decide : 68 + 0 ≤ _)⟩)
  dsimp only [Pt.U, Pt.locs, Pt.cells, Pt.slots] at X4 l4 y4 z4 st4 hQ4
  subst y4 z4
  obtain ⟨rfl, Nq4, Kc4, Bc4⟩ := hQ4
  have N4 : Fr n0 L4 := by rw [l4]; exact Fr.app N3 Nq4
  refine Gl.go (fun _ k => st4.trans k) ?_
  have Zs_bv2_4 : Safe Z elL T3.vm T4.heap bv2 := Safe.keep Kc4 (sfS (Safe.exa hZ.alike E_b1_3 (by decide) (by decide)) (sfS Zs_bv2_3 sf0)) CR3.1 Zs_bv2_3
  have O__4 : Old Z n0 T4.heap := O__3.keep Kc4 (allS g_b1 (allS g_bv2 all0))
  have E_b1_4 : Exa Z T4.heap b1 "java/lang/StringBuilder" := E_b1_3.keep Kc4
  have SZ4 : n0 ≤ T4.heap.size := Nat.le_trans SZ3 Kc4.1
  have K4 : Keep h0 T4.heap [] := K3.trans Kc4 (allS (Or.inr sz_b1) (allS (Or.inr sz_bv2) all0))
  have hk := Nat.le_trans hk Kc4.1
  have CR4 : CHr Z elL s.vm h0 T3.vm T4.heap := CR3.trans (CHr.keep Kc4 (sfS (Safe.exa hZ.alike E_b1_3 (by decide) (by decide)) (sfS Zs_bv2_3 sf0)) CR3.1)
  show Gl _ _ _ _ (T4.setTop (mkF m 14 #[.val (.ref a1), .unset] [(.ref b1)]))
  refine Gl.go (fun _ k => XS.aloadN X4.here hx rfl (hb hby d36_14) rfl rfl  k) ?_
  show Gl _ _ _ _ (T4.setTop (mkF m 15 #[.val (.ref a1), .unset] [(.ref a1), (.ref b1)]))
  obtain ⟨T5, X5, e5, st5⟩ := getF X4 hx hZ hown (host := "") (Or.inl (hw _ (List.mem_of_getElem? (i := 46) rfl))) Via.refl rfl (O1.ext (ext_of_keep K4)).2.2.2.2.1 (g := (mkF m 15 #[.val (.ref a1), .unset] [(.ref a1), (.ref b1)])) rfl rfl (hb hby d36_15)
  refine Gl.go (fun _ k => st5 _ k) ?_
  show Gl _ _ _ _ (T5.setTop (mkF m 18 #[.val (.ref a1), .unset] [(.int (0 : Int32)), (.ref b1)]))
  refine Gl.go (fun _ k => XS.ifYes X5.here hx rfl (pc0 := 18) (pc' := 26) rfl (hb hby d36_18) rfl ((if0 _ _).trans (teq rfl).1) (by decide) (by decide) k) ?_
  show Gl _ _ _ _ (T5.setTop (mkF m 26 #[.val (.ref a1), .unset] [(.ref b1)]))
  obtain ⟨sa6, T6, h6, k16, sb6, kb6, X6, e6, E6, hS, hk6, hZ6, hown, Es6, Cs6, Vs6, Ks6, -, -, hC6, -, -, st6⟩ := ldcCH (EL := elL) X5 hx hZ hown (hw _ (List.mem_of_getElem? (i := 199) rfl)) hSA e5 hS hk hEL (by decide) CR4.1 (vs := []) (z := (0 : Int32)) ⟨by decide, by decide⟩ (by decide) rfl (g := (mkF m 26 #[.val (.ref a1), .unset] [(.ref b1)])) rfl (hb hby d36_26) (n := 0) (by decide) (by decide) (by decide) (by decide)
  have hZ : Z.Warmed39 T6.vm := hZ6
  have hk := hk6
  have CR6 : CHr Z elL s.vm h0 T6.vm h6 := CR4.trans hC6
  have Zs_bv2_6 : Safe Z elL T6.vm h6 bv2 := hC6.safe Bc4.2.2.2.2.lt Zs_bv2_4
  have O__6 : Old Z n0 h6 := O__4.ext E6
  have E_b1_6 : Exa Z h6 b1 "java/lang/StringBuilder" := E_b1_4.ext E6
  have F_b1_value_6 : Fld Z h6 b1 "java/lang/AbstractStringBuilder" "value" "[B" (.ref bv2) := Bc4.2.1.ext E6
  have F_b1_coder_6 : Fld Z h6 b1 "java/lang/AbstractStringBuilder" "coder" "B" (.int (0 : Int32)) := Bc4.2.2.1.ext E6
  have F_b1_count_6 : Fld Z h6 b1 "java/lang/AbstractStringBuilder" "count" "I" (.int (Int32.ofNat (([] : List Int32) ++ (gvV ns vs)).length)) := Bc4.2.2.2.1.ext E6
  have V_bv2_6 : Arv Z h6 bv2 k2' .byte (16 : Int32) ((([] : List Int32) ++ (gvV ns vs)).map Value.int) (.int (0 : Int32)) := Bc4.2.2.2.2.ext E6
  have SZ6 : n0 ≤ h6.size := Nat.le_trans SZ4 E6.1
  have K6 : Keep h0 h6 [] := K4.ext E6
  refine Gl.go (fun _ k => st6 _ k) ?_
  show Gl _ _ _ _ (T6.setTop (mkF m 28 #[.val (.ref a1), .unset] [(.ref sa6), (.ref b1)]))
  obtain ⟨cq7, kq7, q7a, q7b, q7c⟩ := isOf (s := s.setVm T6.vm) hZ e6 E_b1_6
  obtain ⟨_, _, ⟨T7, L7, k7, n7⟩, -, X7, ⟨Lc7, hQ7, l7, y7, z7⟩, st7⟩ := X6.virtualBack hx (y := (⟨"java/lang/StringBuilder", "append", "(Ljava/lang/String;)Ljava/lang/StringBuilder;"⟩ : MethodName)) (z := (⟨"java/lang/StringBuilder", "append", "(Ljava/lang/String;)Ljava/lang/StringBuilder;"⟩ : MethodName)) hown (mvT hZ (hw _ (List.mem_of_getElem? (i := 93) rfl))) (mvT hZ (hw _ (List.mem_of_getElem? (i := 94) rfl))) (notFace_of_selects (args := #[]) (mvT hZ (hw _ (List.mem_of_getElem? (i := 96) rfl)))) (mvT hZ (hw _ (List.mem_of_getElem? (i := 96) rfl))) (mvT hZ (hw _ (List.mem_of_getElem? (i := 95) rfl))) (by decide) (backOf (W := 0) (rm_app l Z a0 hw [] b1 bv2 k2' (([] : List Int32) ++ (gvV ns vs)) sa6 ([] : List Int32) G1 h6 n0 SZ6 ⟨E_b1_6, F_b1_value_6, F_b1_coder_6, F_b1_count_6, V_bv2_6⟩ (by simp [gvV, sp1] at hl ⊢ <;> omega) g_b1 g_bv2 ne_b1_bv2 ⟨Es6, Cs6, by decide, sb6, kb6, Vs6, Ks6⟩ (O2.ext O__6.2) P5) hZ (hw _ (List.mem_of_getElem? (i := 97) rfl)) (hw _ (List.mem_of_getElem? (i := 77) rfl)) (by decide) (by decide)) q7a q7c (g := (mkF m 28 #[.val (.ref a1), .unset] [(.ref sa6), (.ref b1)])) rfl (by rw [hml]; rfl) (Steps.refl _) (argsL := [(.ref sa6)]) (rest := []) (lenOf pd_17 rfl) rfl (by show 2 * 0 + _ ≤ _; exact Nat.le_of_eq rfl) (hb hby d36_28) (fun _ _ => ⟨rfl, e6, (by decide : 10 + 0 ≤ _), (by decide : 72 + 0 ≤ _)⟩)
  dsimp only [Pt.U, Pt.locs, Pt.cells, Pt.slots] at X7 l7 y7 z7 st7 hQ7
  subst y7 z7
  obtain ⟨rfl, Nq7, Kc7, Bc7⟩ := hQ7
  have N7 : Fr n0 L7 := by rw [l7]; exact Fr.app N4 Nq7
  refine Gl.go (fun _ k => st7.trans k) ?_
  have Zs_bv2_7 : Safe Z elL T6.vm T7.heap bv2 := Safe.keep Kc7 (sfS (Safe.exa hZ.alike E_b1_6 (by decide) (by decide)) (sfS Zs_bv2_6 sf0)) CR6.1 Zs_bv2_6
  have O__7 : Old Z n0 T7.heap := O__6.keep Kc7 (allS g_b1 (allS g_bv2 all0))
  have E_b1_7 : Exa Z T7.heap b1 "java/lang/StringBuilder" := E_b1_6.keep Kc7
  have SZ7 : n0 ≤ T7.heap.size := Nat.le_trans SZ6 Kc7.1
  have K7 : Keep h0 T7.heap [] := K6.trans Kc7 (allS (Or.inr sz_b1) (allS (Or.inr sz_bv2) all0))
  have hk := Nat.le_trans hk Kc7.1
  have CR7 : CHr Z elL s.vm h0 T6.vm T7.heap := CR6.trans (CHr.keep Kc7 (sfS (Safe.exa hZ.alike E_b1_6 (by decide) (by decide)) (sfS Zs_bv2_6 sf0)) CR6.1)
  show Gl _ _ _ _ (T7.setTop (mkF m 31 #[.val (.ref a1), .unset] [(.ref b1)]))
  obtain ⟨cq8, kq8, q8a, q8b, q8c⟩ := isOf (s := s.setVm T6.vm) hZ rfl E_b1_7
  obtain ⟨_, _, ⟨T8, L8, k8, n8⟩, -, X8, ⟨Lc8, hQ8, l8, y8, z8⟩, st8⟩ := X7.virtualBack hx (y := (⟨"java/lang/StringBuilder", "toString", "()Ljava/lang/String;"⟩ : MethodName)) (z := (⟨"java/lang/StringBuilder", "toString", "()Ljava/lang/String;"⟩ : MethodName)) hown (mvT hZ (hw _ (List.mem_of_getElem? (i := 143) rfl))) (mvT hZ (hw _ (List.mem_of_getElem? (i := 144) rfl))) (notFace_of_selects (args := #[]) (mvT hZ (hw _ (List.mem_of_getElem? (i := 146) rfl)))) (mvT hZ (hw _ (List.mem_of_getElem? (i := 146) rfl))) (mvT hZ (hw _ (List.mem_of_getElem? (i := 145) rfl))) (by decide) (backOf (W := 0) (rm_tos l Z a0 hw [] b1 bv2 k2' ((([] : List Int32) ++ (gvV ns vs)) ++ ([] : List Int32)) G1 T7.heap n0 SZ7 ⟨E_b1_7, Bc7.2.1, Bc7.2.2.1, Bc7.2.2.2.1, Bc7.2.2.2.2⟩ (by simp [gvV, sp1] at hl ⊢ <;> omega) (O2.ext O__7.2) P5) hZ (hw _ (List.mem_of_getElem? (i := 147) rfl)) (hw _ (List.mem_of_getElem? (i := 77) rfl)) (by decide) (by decide)) q8a q8c (g := (mkF m 31 #[.val (.ref a1), .unset] [(.ref b1)])) rfl (by rw [hml]; rfl) (Steps.refl _) (argsL := []) (rest := []) (lenOf pd_18 rfl) rfl (by show 2 * 0 + _ ≤ _; exact Nat.le_of_eq rfl) (hb hby d36_31) (fun _ _ => ⟨rfl, rfl, (by decide : 10 + 2 ≤ _), (by decide : 72 + 20 ≤ _)⟩)
  dsimp only [Pt.U, Pt.locs, Pt.cells, Pt.slots] at X8 l8 y8 z8 st8 hQ8
  subst y8 z8
  obtain ⟨a8, rfl, Nq8, Kc8, gz8, Sc8⟩ := hQ8
  have N8 : Fr n0 L8 := by rw [l8]; exact Fr.app N7 Nq8
  refine Gl.go (fun _ k => st8.trans k) ?_
  have Ex8 := ext_of_keep Kc8
  have Zs_bv2_8 : Safe Z elL T6.vm T8.heap bv2 := Safe.ext Ex8 CR7.1 Zs_bv2_7
  have O__8 : Old Z n0 T8.heap := O__7.ext Ex8
  have E_b1_8 : Exa Z T8.heap b1 "java/lang/StringBuilder" := E_b1_7.ext Ex8
  have F_b1_value_8 : Fld Z T8.heap b1 "java/lang/AbstractStringBuilder" "value" "[B" (.ref bv2) := Bc7.2.1.ext Ex8
  have F_b1_coder_8 : Fld Z T8.heap b1 "java/lang/AbstractStringBuilder" "coder" "B" (.int (0 : Int32)) := Bc7.2.2.1.ext Ex8
  have F_b1_count_8 : Fld Z T8.heap b1 "java/lang/AbstractStringBuilder" "count" "I" (.int (Int32.ofNat ((([] : List Int32) ++ (gvV ns vs)) ++ ([] : List Int32)).length)) := Bc7.2.2.2.1.ext Ex8
  have V_bv2_8 : Arv Z T8.heap bv2 k2' .byte (16 : Int32) (((([] : List Int32) ++ (gvV ns vs)) ++ ([] : List Int32)).map Value.int) (.int (0 : Int32)) := Bc7.2.2.2.2.ext Ex8
  have SZ8 : n0 ≤ T8.heap.size := Nat.le_trans SZ7 Ex8.1
  have K8 : Keep h0 T8.heap [] := K7.ext Ex8
  have hk := Nat.le_trans hk Ex8.1
  have CR8 : CHr Z elL s.vm h0 T6.vm T8.heap := CR7.trans (CHr.ext Ex8 CR7.1)
  show Gl _ _ _ _ (T8.setTop (mkF m 34 #[.val (.ref a1), .unset] [(.ref a8)]))
  have KBU : Keep T8.heap T8.heap [] := Keep.refl _ _
  refine Gl.go (fun _ k => XS.astoreN X8.here hx rfl (hb hby d36_34) rfl rfl (l' := #[.val (.ref a1), .val (.ref a8)]) rfl k) ?_
  show Gl _ _ _ _ (T8.setTop (mkF m 35 #[.val (.ref a1), .val (.ref a8)] []))
  refine Gl.go (fun _ k => XS.aloadN X8.here hx rfl (hb hby d36_35) rfl rfl  k) ?_
  show Gl _ _ _ _ (T8.setTop (mkF m 36 #[.val (.ref a1), .val (.ref a8)] [(.ref a1)]))
  obtain ⟨T9, X9, e9, st9⟩ := getF X8 hx hZ hown (host := "") (Or.inl (hw _ (List.mem_of_getElem? (i := 44) rfl))) Via.refl rfl (O1.ext (ext_of_keep K8)).2.2.2.1 (g := (mkF m 36 #[.val (.ref a1), .val (.ref a8)] [(.ref a1)])) rfl rfl (hb hby d36_36)
  refine Gl.go (fun _ k => st9 _ k) ?_
  show Gl _ _ _ _ (T9.setTop (mkF m 39 #[.val (.ref a1), .val (.ref a8)] [(.int (0 : Int32))]))
  refine Gl.go (fun _ k => XS.ifYes X9.here hx rfl (pc0 := 39) (pc' := 46) rfl (hb hby d36_39) rfl ((if0 _ _).trans (teq rfl).1) (by decide) (by decide) k) ?_
  show Gl _ _ _ _ (T9.setTop (mkF m 46 #[.val (.ref a1), .val (.ref a8)] []))
  obtain ⟨T10, h10, X10, e10, E10, A10, D10, -, st10⟩ := newO X9 hx hZ hown (hw _ (List.mem_of_getElem? (i := 75) rfl)) (hw _ (List.mem_of_getElem? (i := 76) rfl)) (hw _ (List.mem_of_getElem? (i := 77) rfl)) e9 (g := (mkF m 46 #[.val (.ref a1), .val (.ref a8)] [])) rfl (hb hby d36_46) (by decide) (by decide)
  obtain ⟨b10, g10⟩ : ∃ z, z = T8.heap.size := ⟨_, rfl⟩
  rw [← g10] at A10 D10 st10
  have g_b10 : n0 ≤ b10 := Nat.le_trans SZ8 (Nat.le_of_eq g10.symm)
  have sz_b10 : h0.size ≤ b10 := Nat.le_trans K8.1 (Nat.le_of_eq g10.symm)
  have szb_U_b10 : T8.heap.size ≤ b10 := Nat.le_trans KBU.1 (Nat.le_of_eq g10.symm)
  have O__10 : Old Z n0 h10 := O__8.ext E10
  have SZ10 : n0 ≤ h10.size := Nat.le_trans SZ8 E10.1
  have K10 : Keep h0 h10 [] := K8.ext E10
  have KBU_10 : Keep T8.heap h10 [] := KBU.ext E10
  have hk := Nat.le_trans hk E10.1
  have CR10 : CHr Z elL s.vm h0 T6.vm h10 := CR8.trans (CHr.ext E10 CR8.1)
  have F_b10_value_10 : Fld Z h10 b10 "java/lang/AbstractStringBuilder" "value" "[B" .null := D10 (Or.inl (hw _ (List.mem_of_getElem? (i := 90) rfl))) (ty := (.array .byte)) (by decide)
  have F_b10_coder_10 : Fld Z h10 b10 "java/lang/AbstractStringBuilder" "coder" "B" (.int (0 : Int32)) := D10 (Or.inl (hw _ (List.mem_of_getElem? (i := 92) rfl))) (ty := .byte) (by decide)
  have F_b10_count_10 : Fld Z h10 b10 "java/lang/AbstractStringBuilder" "count" "I" (.int (0 : Int32)) := D10 (Or.inl (hw _ (List.mem_of_getElem? (i := 114) rfl))) (ty := .int) (by decide)
  refine Gl.go (fun _ k => st10 _ k) ?_
  show Gl _ _ _ _ (T10.setTop (mkF m 49 #[.val (.ref a1), .val (.ref a8)] [(.ref b10)]))
  refine Gl.go (fun _ k => XS.dup X10.here hx rfl (hb hby d36_49) rfl rfl k) ?_
  show Gl _ _ _ _ (T10.setTop (mkF m 50 #[.val (.ref a1), .val (.ref a8)] [(.ref b10), (.ref b10)]))
  obtain ⟨_, _, ⟨T11, L11, k11, n11⟩, -, X11, ⟨Lc11, hQ11, l11, y11, z11⟩, st11⟩ := X10.specialBack hx (y := (⟨"java/lang/StringBuilder", "<init>", "()V"⟩ : MethodName)) rfl hown (mvT hZ (hw _ (List.mem_of_getElem? (i := 78) rfl))) (mvT hZ (hw _ (List.mem_of_getElem? (i := 79) rfl))) (mvT hZ (hw _ (List.mem_of_getElem? (i := 80) rfl))) (by decide) (backOf (W := 1) (rm_sbi l Z a0 hw [] b10 .null (.int 0) G1 h10 n0 SZ10 A10 F_b10_value_10 F_b10_coder_10 F_b10_count_10 g_b10 (O2.ext O__10.2) P5) hZ (hw _ (List.mem_of_getElem? (i := 80) rfl)) (hw _ (List.mem_of_getElem? (i := 77) rfl)) (by decide) (by decide)) (g := (mkF m 50 #[.val (.ref a1), .val (.ref a8)] [(.ref b10), (.ref b10)])) rfl (by rw [hml]; rfl) (Steps.refl _) (a := b10) (argsL := []) (rest := [(.ref b10)]) (lenOf pd_16 rfl) rfl (by show 2 * 0 + _ ≤ _; exact Nat.le_of_eq rfl) (hb hby d36_50) (fun _ _ => ⟨rfl, e10, (by decide : 13 + 1 ≤ _), (by decide : 96 + 16 ≤ _)⟩)
  dsimp only [Pt.U, Pt.locs, Pt.cells, Pt.slots] at X11 l11 y11 z11 st11 hQ11
  subst y11 z11
  obtain ⟨bv11, k11', rfl, Nq11, Kc11, gz11, Bc11⟩ := hQ11
  have N11 : Fr n0 L11 := by rw [l11]; exact Fr.app N8 Nq11
  refine Gl.go (fun _ k => st11.trans k) ?_
  have O__11 : Old Z n0 T11.heap := O__10.keep Kc11 (allS g_b10 all0)
  have E_b10_11 : Exa Z T11.heap b10 "java/lang/StringBuilder" := A10.keep Kc11
  have SZ11 : n0 ≤ T11.heap.size := Nat.le_trans SZ10 Kc11.1
  have K11 : Keep h0 T11.heap [] := K10.trans Kc11 (allS (Or.inr sz_b10) all0)
  have KBU_11 : Keep T8.heap T11.heap [] := KBU_10.trans Kc11 (allS (Or.inr szb_U_b10) all0)
  have hk := Nat.le_trans hk Kc11.1
  have CR11 : CHr Z elL s.vm h0 T6.vm T11.heap := CR10.trans (CHr.keep Kc11 (sfS (Safe.exa hZ.alike A10 (by decide) (by decide)) sf0) CR10.1)
  show Gl _ _ _ _ (T11.setTop (mkF m 53 #[.val (.ref a1), .val (.ref a8)] [(.ref b10)]))
  have g_bv11 : n0 ≤ bv11 := Nat.le_trans SZ10 gz11
  have sz_bv11 : h0.size ≤ bv11 := Nat.le_trans K10.1 gz11
  have ne_b10_bv11 : b10 ≠ bv11 := Nat.ne_of_lt (Nat.lt_of_lt_of_le A10.lt gz11)
  have szb_U_bv11 : T8.heap.size ≤ bv11 := Nat.le_trans KBU_10.1 gz11
  have Zs_bv11 : Safe Z elL T6.vm T11.heap bv11 := Safe.keep Kc11 (sfS (Safe.exa hZ.alike A10 (by decide) (by decide)) sf0) CR10.1 (Safe.new gz11)
  obtain ⟨sa12, T12, h12, k112, sb12, kb12, X12, e12, E12, hS, hk12, hZ12, hown, Es12, Cs12, Vs12, Ks12, -, -, hC12, -, -, st12⟩ := ldcCH (EL := elL) X11 hx hZ hown (hw _ (List.mem_of_getElem? (i := 200) rfl)) hSA rfl hS hk hEL (by decide) CR11.1 (vs := [(.int (91 : Int32))]) (z := (1 : Int32)) ⟨by decide, by decide⟩ (by decide) rfl (g := (mkF m 53 #[.val (.ref a1), .val (.ref a8)] [(.ref b10)])) rfl (hb hby d36_53) (n := 4) (by decide) (by decide) (by decide) (by decide)
  have hZ : Z.Warmed39 T12.vm := hZ12
  have hk := hk12
  have CR12 : CHr Z elL s.vm h0 T12.vm h12 := CR11.trans hC12
  have Zs_bv11_12 : Safe Z elL T12.vm h12 bv11 := hC12.safe Bc11.2.2.2.2.lt Zs_bv11
  have O__12 : Old Z n0 h12 := O__11.ext E12
  have E_b10_12 : Exa Z h12 b10 "java/lang/StringBuilder" := E_b10_11.ext E12
  have F_b10_value_12 : Fld Z h12 b10 "java/lang/AbstractStringBuilder" "value" "[B" (.ref bv11) := Bc11.2.1.ext E12
  have F_b10_coder_12 : Fld Z h12 b10 "java/lang/AbstractStringBuilder" "coder" "B" (.int (0 : Int32)) := Bc11.2.2.1.ext E12
  have F_b10_count_12 : Fld Z h12 b10 "java/lang/AbstractStringBuilder" "count" "I" (.int (Int32.ofNat ([] : List Int32).length)) := Bc11.2.2.2.1.ext E12
  have V_bv11_12 : Arv Z h12 bv11 k11' .byte (16 : Int32) (([] : List Int32).map Value.int) (.int (0 : Int32)) := Bc11.2.2.2.2.ext E12
  have SZ12 : n0 ≤ h12.size := Nat.le_trans SZ11 E12.1
  have K12 : Keep h0 h12 [] := K11.ext E12
  have KBU_12 : Keep T8.heap h12 [] := KBU_11.ext E12
  refine Gl.go (fun _ k => st12 _ k) ?_
  show Gl _ _ _ _ (T12.setTop (mkF m 55 #[.val (.ref a1), .val (.ref a8)] [(.ref sa12), (.ref b10)]))
  obtain ⟨cq13, kq13, q13a, q13b, q13c⟩ := isOf (s := s.setVm T12.vm) hZ e12 E_b10_12
  obtain ⟨_, _, ⟨T13, L13, k13, n13⟩, -, X13, ⟨Lc13, hQ13, l13, y13, z13⟩, st13⟩ := X12.virtualBack hx (y := (⟨"java/lang/StringBuilder", "append", "(Ljava/lang/String;)Ljava/lang/StringBuilder;"⟩ : MethodName)) (z := (⟨"java/lang/StringBuilder", "append", "(Ljava/lang/String;)Ljava/lang/StringBuilder;"⟩ : MethodName)) hown (mvT hZ (hw _ (List.mem_of_getElem? (i := 93) rfl))) (mvT hZ (hw _ (List.mem_of_getElem? (i := 94) rfl))) (notFace_of_selects (args := #[]) (mvT hZ (hw _ (List.mem_of_getElem? (i := 96) rfl)))) (mvT hZ (hw _ (List.mem_of_getElem? (i := 96) rfl))) (mvT hZ (hw _ (List.mem_of_getElem? (i := 95) rfl))) (by decide) (backOf (W := 0) (rm_app l Z a0 hw [] b10 bv11 k11' ([] : List Int32) sa12 [(91 : Int32)] G1 h12 n0 SZ12 ⟨E_b10_12, F_b10_value_12, F_b10_coder_12, F_b10_count_12, V_bv11_12⟩ (by simp [gvV, sp1] at hl ⊢ <;> omega) g_b10 g_bv11 ne_b10_bv11 ⟨Es12, Cs12, by decide, sb12, kb12, Vs12, Ks12⟩ (O2.ext O__12.2) P5) hZ (hw _ (List.mem_of_getElem? (i := 97) rfl)) (hw _ (List.mem_of_getElem? (i := 77) rfl)) (by decide) (by decide)) q13a q13c (g := (mkF m 55 #[.val (.ref a1), .val (.ref a8)] [(.ref sa12), (.ref b10)])) rfl (by rw [hml]; rfl) (Steps.refl _) (argsL := [(.ref sa12)]) (rest := []) (lenOf pd_17 rfl) rfl (by show 2 * 0 + _ ≤ _; exact Nat.le_of_eq rfl) (hb hby d36_55) (fun _ _ => ⟨rfl, e12, (by decide : 16 + 0 ≤ _), (by decide : 120 + 0 ≤ _)⟩)
  dsimp only [Pt.U, Pt.locs, Pt.cells, Pt.slots] at X13 l13 y13 z13 st13 hQ13
  subst y13 z13
  obtain ⟨rfl, Nq13, Kc13, Bc13⟩ := hQ13
  have N13 : Fr n0 L13 := by rw [l13]; exact Fr.app N11 Nq13
  refine Gl.go (fun _ k => st13.trans k) ?_
  have Zs_bv11_13 : Safe Z elL T12.vm T13.heap bv11 := Safe.keep Kc13 (sfS (Safe.exa hZ.alike E_b10_12 (by decide) (by decide)) (sfS Zs_bv11_12 sf0)) CR12.1 Zs_bv11_12
  have O__13 : Old Z n0 T13.heap := O__12.keep Kc13 (allS g_b10 (allS g_bv11 all0))
  have E_b10_13 : Exa Z T13.heap b10 "java/lang/StringBuilder" := E_b10_12.keep Kc13
  have SZ13 : n0 ≤ T13.heap.size := Nat.le_trans SZ12 Kc13.1
  have K13 : Keep h0 T13.heap [] := K12.trans Kc13 (allS (Or.inr sz_b10) (allS (Or.inr sz_bv11) all0))
  have KBU_13 : Keep T8.heap T13.heap [] := KBU_12.trans Kc13 (allS (Or.inr szb_U_b10) (allS (Or.inr szb_U_bv11) all0))
  have hk := Nat.le_trans hk Kc13.1
  have CR13 : CHr Z elL s.vm h0 T12.vm T13.heap := CR12.trans (CHr.keep Kc13 (sfS (Safe.exa hZ.alike E_b10_12 (by decide) (by decide)) (sfS Zs_bv11_12 sf0)) CR12.1)
  show Gl _ _ _ _ (T13.setTop (mkF m 58 #[.val (.ref a1), .val (.ref a8)] [(.ref b10)]))
  refine Gl.go (fun _ k => XS.aloadN X13.here hx rfl (hb hby d36_58) rfl rfl  k) ?_
  show Gl _ _ _ _ (T13.setTop (mkF m 59 #[.val (.ref a1), .val (.ref a8)] [(.ref a8), (.ref b10)]))
  obtain ⟨cq14, kq14, q14a, q14b, q14c⟩ := isOf (s := s.setVm T12.vm) hZ rfl E_b10_13
  obtain ⟨_, _, ⟨T14, L14, k14, n14⟩, -, X14, ⟨Lc14, hQ14, l14, y14, z14⟩, st14⟩ := X13.virtualBack hx (y := (⟨"java/lang/StringBuilder", "append", "(Ljava/lang/String;)Ljava/lang/StringBuilder;"⟩ : MethodName)) (z := (⟨"java/lang/StringBuilder", "append", "(Ljava/lang/String;)Ljava/lang/StringBuilder;"⟩ : MethodName)) hown (mvT hZ (hw _ (List.mem_of_getElem? (i := 93) rfl))) (mvT hZ (hw _ (List.mem_of_getElem? (i := 94) rfl))) (notFace_of_selects (args := #[]) (mvT hZ (hw _ (List.mem_of_getElem? (i := 96) rfl)))) (mvT hZ (hw _ (List.mem_of_getElem? (i := 96) rfl))) (mvT hZ (hw _ (List.mem_of_getElem? (i := 95) rfl))) (by decide) (backOf (W := 0) (rm_app l Z a0 hw [] b10 bv11 k11' (([] : List Int32) ++ [(91 : Int32)]) a8 ((([] : List Int32) ++ (gvV ns vs)) ++ ([] : List Int32)) G1 T13.heap n0 SZ13 ⟨E_b10_13, Bc13.2.1, Bc13.2.2.1, Bc13.2.2.2.1, Bc13.2.2.2.2⟩ (by simp [gvV, sp1] at hl ⊢ <;> omega) g_b10 g_bv11 ne_b10_bv11 (Sc8.ext (ext_of_keep KBU_13)) (O2.ext O__13.2) P5) hZ (hw _ (List.mem_of_getElem? (i := 97) rfl)) (hw _ (List.mem_of_getElem? (i := 77) rfl)) (by decide) (by decide)) q14a q14c (g := (mkF m 59 #[.val (.ref a1), .val (.ref a8)] [(.ref a8), (.ref b10)])) rfl (by rw [hml]; rfl) (Steps.refl _) (argsL := [(.ref a8)]) (rest := []) (lenOf pd_17 rfl) rfl (by show 2 * 0 + _ ≤ _; exact Nat.le_of_eq rfl) (hb hby d36_59) (fun _ _ => ⟨rfl, rfl, (by decide : 16 + 0 ≤ _), (by decide : 120 + 0 ≤ _)⟩)
  dsimp only [Pt.U, Pt.locs, Pt.cells, Pt.slots] at X14 l14 y14 z14 st14 hQ14
  subst y14 z14
  obtain ⟨rfl, Nq14, Kc14, Bc14⟩ := hQ14
  have N14 : Fr n0 L14 := by rw [l14]; exact Fr.app N13 Nq14
  refine Gl.go (fun _ k => st14.trans k) ?_
  have Zs_bv11_14 : Safe Z elL T12.vm T14.heap bv11 := Safe.keep Kc14 (sfS (Safe.exa hZ.alike E_b10_13 (by decide) (by decide)) (sfS Zs_bv11_13 sf0)) CR13.1 Zs_bv11_13
  have O__14 : Old Z n0 T14.heap := O__13.keep Kc14 (allS g_b10 (allS g_bv11 all0))
  have E_b10_14 : Exa Z T14.heap b10 "java/lang/StringBuilder" := E_b10_13.keep Kc14
  have SZ14 : n0 ≤ T14.heap.size := Nat.le_trans SZ13 Kc14.1
  have K14 : Keep h0 T14.heap [] := K13.trans Kc14 (allS (Or.inr sz_b10) (allS (Or.inr sz_bv11) all0))
  have KBU_14 : Keep T8.heap T14.heap [] := KBU_13.trans Kc14 (allS (Or.inr szb_U_b10) (allS (Or.inr szb_U_bv11) all0))
  have hk := Nat.le_trans hk Kc14.1
  have CR14 : CHr Z elL s.vm h0 T12.vm T14.heap := CR13.trans (CHr.keep Kc14 (sfS (Safe.exa hZ.alike E_b10_13 (by decide) (by decide)) (sfS Zs_bv11_13 sf0)) CR13.1)
  show Gl _ _ _ _ (T14.setTop (mkF m 62 #[.val (.ref a1), .val (.ref a8)] [(.ref b10)]))
  obtain ⟨sa15, T15, h15, k115, sb15, kb15, X15, e15, E15, hS, hk15, hZ15, hown, Es15, Cs15, Vs15, Ks15, -, -, hC15, -, -, st15⟩ := ldcCH (EL := elL) X14 hx hZ hown (hw _ (List.mem_of_getElem? (i := 201) rfl)) hSA rfl hS hk hEL (by decide) CR14.1 (vs := [(.int (93 : Int32))]) (z := (1 : Int32)) ⟨by decide, by decide⟩ (by decide) rfl (g := (mkF m 62 #[.val (.ref a1), .val (.ref a8)] [(.ref b10)])) rfl (hb hby d36_62) (n := 4) (by decide) (by decide) (by decide) (by decide)
  have hZ : Z.Warmed39 T15.vm := hZ15
  have hk := hk15
  have CR15 : CHr Z elL s.vm h0 T15.vm h15 := CR14.trans hC15
  have Zs_bv11_15 : Safe Z elL T15.vm h15 bv11 := hC15.safe Bc14.2.2.2.2.lt Zs_bv11_14
  have O__15 : Old Z n0 h15 := O__14.ext E15
  have E_b10_15 : Exa Z h15 b10 "java/lang/StringBuilder" := E_b10_14.ext E15
  have F_b10_value_15 : Fld Z h15 b10 "java/lang/AbstractStringBuilder" "value" "[B" (.ref bv11) := Bc14.2.1.ext E15
  have F_b10_coder_15 : Fld Z h15 b10 "java/lang/AbstractStringBuilder" "coder" "B" (.int (0 : Int32)) := Bc14.2.2.1.ext E15
  have F_b10_count_15 : Fld Z h15 b10 "java/lang/AbstractStringBuilder" "count" "I" (.int (Int32.ofNat ((([] : List Int32) ++ [(91 : Int32)]) ++ ((([] : List Int32) ++ (gvV ns vs)) ++ ([] : List Int32))).length)) := Bc14.2.2.2.1.ext E15
  have V_bv11_15 : Arv Z h15 bv11 k11' .byte (16 : Int32) (((([] : List Int32) ++ [(91 : Int32)]) ++ ((([] : List Int32) ++ (gvV ns vs)) ++ ([] : List Int32))).map Value.int) (.int (0 : Int32)) := Bc14.2.2.2.2.ext E15
  have SZ15 : n0 ≤ h15.size := Nat.le_trans SZ14 E15.1
  have K15 : Keep h0 h15 [] := K14.ext E15
  have KBU_15 : Keep T8.heap h15 [] := KBU_14.ext E15
  refine Gl.go (fun _ k => st15 _ k) ?_
  show Gl _ _ _ _ (T15.setTop (mkF m 64 #[.val (.ref a1), .val (.ref a8)] [(.ref sa15), (.ref b10)]))
  obtain ⟨cq16, kq16, q16a, q16b, q16c⟩ := isOf (s := s.setVm T15.vm) hZ e15 E_b10_15
  obtain ⟨_, _, ⟨T16, L16, k16, n16⟩, -, X16, ⟨Lc16, hQ16, l16, y16, z16⟩, st16⟩ := X15.virtualBack hx (y := (⟨"java/lang/StringBuilder", "append", "(Ljava/lang/String;)Ljava/lang/StringBuilder;"⟩ : MethodName)) (z := (⟨"java/lang/StringBuilder", "append", "(Ljava/lang/String;)Ljava/lang/StringBuilder;"⟩ : MethodName)) hown (mvT hZ (hw _ (List.mem_of_getElem? (i := 93) rfl))) (mvT hZ (hw _ (List.mem_of_getElem? (i := 94) rfl))) (notFace_of_selects (args := #[]) (mvT hZ (hw _ (List.mem_of_getElem? (i := 96) rfl)))) (mvT hZ (hw _ (List.mem_of_getElem? (i := 96) rfl))) (mvT hZ (hw _ (List.mem_of_getElem? (i := 95) rfl))) (by decide) (backOf (W := 0) (rm_app l Z a0 hw [] b10 bv11 k11' ((([] : List Int32) ++ [(91 : Int32)]) ++ ((([] : List Int32) ++ (gvV ns vs)) ++ ([] : List Int32))) sa15 [(93 : Int32)] G1 h15 n0 SZ15 ⟨E_b10_15, F_b10_value_15, F_b10_coder_15, F_b10_count_15, V_bv11_15⟩ (by simp [gvV, sp1] at hl ⊢ <;> omega) g_b10 g_bv11 ne_b10_bv11 ⟨Es15, Cs15, by decide, sb15, kb15, Vs15, Ks15⟩ (O2.ext O__15.2) P5) hZ (hw _ (List.mem_of_getElem? (i := 97) rfl)) (hw _ (List.mem_of_getElem? (i := 77) rfl)) (by decide) (by decide)) q16a q16c (g := (mkF m 64 #[.val (.ref a1), .val (.ref a8)] [(.ref sa15), (.ref b10)])) rfl (by rw [hml]; rfl) (Steps.refl _) (argsL := [(.ref sa15)]) (rest := []) (lenOf pd_17 rfl) rfl (by show 2 * 0 + _ ≤ _; exact Nat.le_of_eq rfl) (hb hby d36_64) (fun _ _ => ⟨rfl, e15, (by decide : 18 + 0 ≤ _), (by decide : 128 + 0 ≤ _)⟩)
  dsimp only [Pt.U, Pt.locs, Pt.cells, Pt.slots] at X16 l16 y16 z16 st16 hQ16
  subst y16 z16
  obtain ⟨rfl, Nq16, Kc16, Bc16⟩ := hQ16
  have N16 : Fr n0 L16 := by rw [l16]; exact Fr.app N14 Nq16
  refine Gl.go (fun _ k => st16.trans k) ?_
  have Zs_bv11_16 : Safe Z elL T15.vm T16.heap bv11 := Safe.keep Kc16 (sfS (Safe.exa hZ.alike E_b10_15 (by decide) (by decide)) (sfS Zs_bv11_15 sf0)) CR15.1 Zs_bv11_15
  have O__16 : Old Z n0 T16.heap := O__15.keep Kc16 (allS g_b10 (allS g_bv11 all0))
  have E_b10_16 : Exa Z T16.heap b10 "java/lang/StringBuilder" := E_b10_15.keep Kc16
  have SZ16 : n0 ≤ T16.heap.size := Nat.le_trans SZ15 Kc16.1
  have K16 : Keep h0 T16.heap [] := K15.trans Kc16 (allS (Or.inr sz_b10) (allS (Or.inr sz_bv11) all0))
  have KBU_16 : Keep T8.heap T16.heap [] := KBU_15.trans Kc16 (allS (Or.inr szb_U_b10) (allS (Or.inr szb_U_bv11) all0))
  have hk := Nat.le_trans hk Kc16.1
  have CR16 : CHr Z elL s.vm h0 T15.vm T16.heap := CR15.trans (CHr.keep Kc16 (sfS (Safe.exa hZ.alike E_b10_15 (by decide) (by decide)) (sfS Zs_bv11_15 sf0)) CR15.1)
  show Gl _ _ _ _ (T16.setTop (mkF m 67 #[.val (.ref a1), .val (.ref a8)] [(.ref b10)]))
  obtain ⟨cq17, kq17, q17a, q17b, q17c⟩ := isOf (s := s.setVm T15.vm) hZ rfl E_b10_16
  obtain ⟨_, _, ⟨T17, L17, k17, n17⟩, -, X17, ⟨Lc17, hQ17, l17, y17, z17⟩, st17⟩ := X16.virtualBack hx (y := (⟨"java/lang/StringBuilder", "toString", "()Ljava/lang/String;"⟩ : MethodName)) (z := (⟨"java/lang/StringBuilder", "toString", "()Ljava/lang/String;"⟩ : MethodName)) hown (mvT hZ (hw _ (List.mem_of_getElem? (i := 143) rfl))) (mvT hZ (hw _ (List.mem_of_getElem? (i := 144) rfl))) (notFace_of_selects (args := #[]) (mvT hZ (hw _ (List.mem_of_getElem? (i := 146) rfl)))) (mvT hZ (hw _ (List.mem_of_getElem? (i := 146) rfl))) (mvT hZ (hw _ (List.mem_of_getElem? (i := 145) rfl))) (by decide) (backOf (W := 0) (rm_tos l Z a0 hw [] b10 bv11 k11' (((([] : List Int32) ++ [(91 : Int32)]) ++ ((([] : List Int32) ++ (gvV ns vs)) ++ ([] : List Int32))) ++ [(93 : Int32)]) G1 T16.heap n0 SZ16 ⟨E_b10_16, Bc16.2.1, Bc16.2.2.1, Bc16.2.2.2.1, Bc16.2.2.2.2⟩ (by simp [gvV, sp1] at hl ⊢ <;> omega) (O2.ext O__16.2) P5) hZ (hw _ (List.mem_of_getElem? (i := 147) rfl)) (hw _ (List.mem_of_getElem? (i := 77) rfl)) (by decide) (by decide)) q17a q17c (g := (mkF m 67 #[.val (.ref a1), .val (.ref a8)] [(.ref b10)])) rfl (by rw [hml]; rfl) (Steps.refl _) (argsL := []) (rest := []) (lenOf pd_18 rfl) rfl (by show 2 * 0 + _ ≤ _; exact Nat.le_of_eq rfl) (hb hby d36_67) (fun _ _ => ⟨rfl, rfl, (by decide : 18 + 2 ≤ _), (by decide : 128 + 20 ≤ _)⟩)
  dsimp only [Pt.U, Pt.locs, Pt.cells, Pt.slots] at X17 l17 y17 z17 st17 hQ17
  subst y17 z17
  obtain ⟨a17, rfl, Nq17, Kc17, gz17, Sc17⟩ := hQ17
  have N17 : Fr n0 L17 := by rw [l17]; exact Fr.app N16 Nq17
  refine Gl.go (fun _ k => st17.trans k) ?_
  have Ex17 := ext_of_keep Kc17
  have Zs_bv11_17 : Safe Z elL T15.vm T17.heap bv11 := Safe.ext Ex17 CR16.1 Zs_bv11_16
  have O__17 : Old Z n0 T17.heap := O__16.ext Ex17
  have E_b10_17 : Exa Z T17.heap b10 "java/lang/StringBuilder" := E_b10_16.ext Ex17
  have F_b10_value_17 : Fld Z T17.heap b10 "java/lang/AbstractStringBuilder" "value" "[B" (.ref bv11) := Bc16.2.1.ext Ex17
  have F_b10_coder_17 : Fld Z T17.heap b10 "java/lang/AbstractStringBuilder" "coder" "B" (.int (0 : Int32)) := Bc16.2.2.1.ext Ex17
  have F_b10_count_17 : Fld Z T17.heap b10 "java/lang/AbstractStringBuilder" "count" "I" (.int (Int32.ofNat (((([] : List Int32) ++ [(91 : Int32)]) ++ ((([] : List Int32) ++ (gvV ns vs)) ++ ([] : List Int32))) ++ [(93 : Int32)]).length)) := Bc16.2.2.2.1.ext Ex17
  have V_bv11_17 : Arv Z T17.heap bv11 k11' .byte (16 : Int32) ((((([] : List Int32) ++ [(91 : Int32)]) ++ ((([] : List Int32) ++ (gvV ns vs)) ++ ([] : List Int32))) ++ [(93 : Int32)]).map Value.int) (.int (0 : Int32)) := Bc16.2.2.2.2.ext Ex17
  have SZ17 : n0 ≤ T17.heap.size := Nat.le_trans SZ16 Ex17.1
  have K17 : Keep h0 T17.heap [] := K16.ext Ex17
  have KBU_17 : Keep T8.heap T17.heap [] := KBU_16.ext Ex17
  have hk := Nat.le_trans hk Ex17.1
  have CR17 : CHr Z elL s.vm h0 T15.vm T17.heap := CR16.trans (CHr.ext Ex17 CR16.1)
  show Gl _ _ _ _ (T17.setTop (mkF m 70 #[.val (.ref a1), .val (.ref a8)] [(.ref a17)]))
  refine leafWA X17 hS hk hx hlk Bd.returns rfl rfl (hb hby d36_70) (CR17.trans (CHv.at X17 hZ hEL CR17.1)) hh ?_ (by decide) (by decide)
  exact ⟨a17, rfl, N17, K17, Sc17⟩
def Q_law (Z : State) (a b c_ : Int32) (G1 : Int32) (h0 : Heap) (n0 : Nat) (v : Option Value) (h : Heap) (L : List Loc) : Prop := v = some (.int 1) ∧ Fr n0 L
set_option maxRecDepth 65536 in
set_option maxHeartbeats 40000000 in
theorem rm_law (l : Launch) (Z : State) (a0 : Array Value) (hw : ∀ d ∈ tables_1, d.before a0 Z = true) (ws : List Jvm.Cond) (a b c_ : Int32) (G1 : Int32) (h0 : Heap) (n0 : Nat) (Z0 : n0 ≤ h0.size) (hEL : EW Z a0 elL) (hSA : ∀ a ∈ Bundle.stringAtoms, a.before a0 Z = true) (O2 : Sta Z Z.heap "java/lang/String" "COMPACT_STRINGS" "Z" (.int G1)) (P5 : ¬ (G1 = (0 : Int32))) (X00 : Old Z n0 h0) :
    MetFree l x (head1 (Jvm.Cond.code x code maxLocals ret :: ws) room_1) (fun aa U => aa = #[(.int a), (.int b), (.int c_)] ∧ Z.Warmed39 U.vm ∧ U.heap = h0 ∧ CHv Z elL U.vm h0) (fun _ _ _ _ _ => True) (fun _ U o U' => ∃ v L, o = .returned v ∧ Q_law Z a b c_ G1 h0 n0 v U'.heap L ∧ CHr Z elL U.vm U.heap U'.vm U'.heap ∧ ReturnedEndW U o U' L 80 4544) := by
  refine MetFree.of_bodySF (plainFor_of_name pn_6) hisR ?_
  intro p e s m args below meth c s₁ Bd hml0 hP hK
  obtain ⟨rfl, hZ, hh, hCH⟩ := hP
  have hx := Bd.exec
  have hby := Bd.bytes
  have hml : c.maxLocals = 15 := hml0
  have hown : s.vm.findClass "com/example/kontraktor/kontraktor/cli/OptionOptionalPinLaw" = some m.cls := findClass_of_methodNamed Bd.named
  have hnm := (name_of_methodNamed Bd.named Bd.method).1
  have hlk : meth.locks = false := BodyLoose.notSynchronized Bd
  have X0 : Stand p l e room_1 (s.setVm s.vm) m #[(.int a), (.int b), (.int c_)] below meth c s₁ [] 0 0 := Stand.of_body Bd
  have hS : s.Since s.vm 0 := (State.WarmedH.refl s).since 0
  have hk : 0 ≤ h0.size := Nat.zero_le _
  have CR0 : CHr Z elL s.vm h0 s.vm h0 := CHr.refl hCH
  have e0 : s₁.heap = h0 := by rw [← hh, Bd.state]; rfl
  have N0 := Fr.nil n0
  have K0 : Keep h0 h0 [] := Keep.refl _ _
  show Gl p.tables e below (QQofW Z elL s (Q_law Z a b c_ G1 h0 n0) 80 4544) (s₁.setTop (entryFrame m #[(.int a), (.int b), (.int c_)] maxLocals))
  refine Gl.go (fun t k => castTop (ef_law m a b c_) k) ?_
  show Gl _ _ _ _ (s₁.setTop (mkF m 0 #[.val (.int a), .val (.int b), .val (.int c_), .unset, .unset, .unset, .unset, .unset, .unset, .unset, .unset, .unset, .unset, .unset, .unset] []))
  have hws : ∀ d ∈ StrChars.Road.words, d.before a0 Z = true := fun d hd => hw d ((by decide +kernel : ∀ d ∈ StrChars.Road.words, d ∈ tables_1) d hd)
  refine Gl.go (fun _ k => XS.iloadN X0.here hx rfl (hb hby at_0) rfl  k) ?_
  show Gl _ _ _ _ (s₁.setTop (mkF m 1 #[.val (.int a), .val (.int b), .val (.int c_), .unset, .unset, .unset, .unset, .unset, .unset, .unset, .unset, .unset, .unset, .unset, .unset] [(.int a)]))
  refine Gl.go (fun _ k => XS.sipush X0.here hx rfl (hb hby at_1) k) ?_
  show Gl _ _ _ _ (s₁.setTop (mkF m 4 #[.val (.int a), .val (.int b), .val (.int c_), .unset, .unset, .unset, .unset, .unset, .unset, .unset, .unset, .unset, .unset, .unset, .unset] [(.int (255 : Int32)), (.int a)]))
  refine Gl.go (fun _ k => XS.iand X0.here hx rfl (hb hby at_4) rfl k) ?_
  show Gl _ _ _ _ (s₁.setTop (mkF m 5 #[.val (.int a), .val (.int b), .val (.int c_), .unset, .unset, .unset, .unset, .unset, .unset, .unset, .unset, .unset, .unset, .unset, .unset] [(.int (a &&& (255 : Int32)))]))
  refine Gl.go (fun _ k => XS.i2c X0.here hx rfl (hb hby at_5) rfl k) ?_
  show Gl _ _ _ _ (s₁.setTop (mkF m 6 #[.val (.int a), .val (.int b), .val (.int c_), .unset, .unset, .unset, .unset, .unset, .unset, .unset, .unset, .unset, .unset, .unset, .unset] [(.int ((a &&& (255 : Int32)).toUInt32.toUInt16.toUInt32.toInt32))]))
  refine Gl.go (fun _ k => XS.istoreN X0.here hx rfl (hb hby at_6) rfl (l' := #[.val (.int a), .val (.int b), .val (.int c_), .val (.int ((a &&& (255 : Int32)).toUInt32.toUInt16.toUInt32.toInt32)), .unset, .unset, .unset, .unset, .unset, .unset, .unset, .unset, .unset, .unset, .unset]) rfl k) ?_
  show Gl _ _ _ _ (s₁.setTop (mkF m 7 #[.val (.int a), .val (.int b), .val (.int c_), .val (.int ((a &&& (255 : Int32)).toUInt32.toUInt16.toUInt32.toInt32)), .unset, .unset, .unset, .unset, .unset, .unset, .unset, .unset, .unset, .unset, .unset] []))
  refine Gl.go (fun _ k => XS.iloadN X0.here hx rfl (hb hby at_7) rfl  k) ?_
  show Gl _ _ _ _ (s₁.setTop (mkF m 8 #[.val (.int a), .val (.int b), .val (.int c_), .val (.int ((a &&& (255 : Int32)).toUInt32.toUInt16.toUInt32.toInt32)), .unset, .unset, .unset, .unset, .unset, .unset, .unset, .unset, .unset, .unset, .unset] [(.int a)]))
  refine Gl.go (fun _ k => XS.bipush X0.here hx rfl (hb hby at_8) k) ?_
  show Gl _ _ _ _ (s₁.setTop (mkF m 10 #[.val (.int a), .val (.int b), .val (.int c_), .val (.int ((a &&& (255 : Int32)).toUInt32.toUInt16.toUInt32.toInt32)), .unset, .unset, .unset, .unset, .unset, .unset, .unset, .unset, .unset, .unset, .unset] [(.int (8 : Int32)), (.int a)]))
  refine Gl.go (fun _ k => XS.iushr X0.here hx rfl (hb hby at_10) rfl k) ?_
  show Gl _ _ _ _ (s₁.setTop (mkF m 11 #[.val (.int a), .val (.int b), .val (.int c_), .val (.int ((a &&& (255 : Int32)).toUInt32.toUInt16.toUInt32.toInt32)), .unset, .unset, .unset, .unset, .unset, .unset, .unset, .unset, .unset, .unset, .unset] [(.int ((a.toUInt32 >>> ((8 : Int32) &&& 31).toUInt32).toInt32))]))
  refine Gl.go (fun _ k => XS.sipush X0.here hx rfl (hb hby at_11) k) ?_
  show Gl _ _ _ _ (s₁.setTop (mkF m 14 #[.val (.int a), .val (.int b), .val (.int c_), .val (.int ((a &&& (255 : Int32)).toUInt32.toUInt16.toUInt32.toInt32)), .unset, .unset, .unset, .unset, .unset, .unset, .unset, .unset, .unset, .unset, .unset] [(.int (255 : Int32)), (.int ((a.toUInt32 >>> ((8 : Int32) &&& 31).toUInt32).toInt32))]))
  refine Gl.go (fun _ k => XS.iand X0.here hx rfl (hb hby at_14) rfl k) ?_
  show Gl _ _ _ _ (s₁.setTop (mkF m 15 #[.val (.int a), .val (.int b), .val (.int c_), .val (.int ((a &&& (255 : Int32)).toUInt32.toUInt16.toUInt32.toInt32)), .unset, .unset, .unset, .unset, .unset, .unset, .unset, .unset, .unset, .unset, .unset] [(.int (((a.toUInt32 >>> ((8 : Int32) &&& 31).toUInt32).toInt32) &&& (255 : Int32)))]))
  refine Gl.go (fun _ k => XS.i2c X0.here hx rfl (hb hby at_15) rfl k) ?_
  show Gl _ _ _ _ (s₁.setTop (mkF m 16 #[.val (.int a), .val (.int b), .val (.int c_), .val (.int ((a &&& (255 : Int32)).toUInt32.toUInt16.toUInt32.toInt32)), .unset, .unset, .unset, .unset, .unset, .unset, .unset, .unset, .unset, .unset, .unset] [(.int ((((a.toUInt32 >>> ((8 : Int32) &&& 31).toUInt32).toInt32) &&& (255 : Int32)).toUInt32.toUInt16.toUInt32.toInt32))]))
  refine Gl.go (fun _ k => XS.istore X0.here hx rfl (hb hby at_16) rfl (l' := #[.val (.int a), .val (.int b), .val (.int c_), .val (.int ((a &&& (255 : Int32)).toUInt32.toUInt16.toUInt32.toInt32)), .val (.int ((((a.toUInt32 >>> ((8 : Int32) &&& 31).toUInt32).toInt32) &&& (255 : Int32)).toUInt32.toUInt16.toUInt32.toInt32)), .unset, .unset, .unset, .unset, .unset, .unset, .unset, .unset, .unset, .unset]) rfl k) ?_
  show Gl _ _ _ _ (s₁.setTop (mkF m 18 #[.val (.int a), .val (.int b), .val (.int c_), .val (.int ((a &&& (255 : Int32)).toUInt32.toUInt16.toUInt32.toInt32)), .val (.int ((((a.toUInt32 >>> ((8 : Int32) &&& 31).toUInt32).toInt32) &&& (255 : Int32)).toUInt32.toUInt16.toUInt32.toInt32)), .unset, .unset, .unset, .unset, .unset, .unset, .unset, .unset, .unset, .unset] []))
  refine Gl.go (fun _ k => XS.iloadN X0.here hx rfl (hb hby at_18) rfl  k) ?_
  show Gl _ _ _ _ (s₁.setTop (mkF m 19 #[.val (.int a), .val (.int b), .val (.int c_), .val (.int ((a &&& (255 : Int32)).toUInt32.toUInt16.toUInt32.toInt32)), .val (.int ((((a.toUInt32 >>> ((8 : Int32) &&& 31).toUInt32).toInt32) &&& (255 : Int32)).toUInt32.toUInt16.toUInt32.toInt32)), .unset, .unset, .unset, .unset, .unset, .unset, .unset, .unset, .unset, .unset] [(.int b)]))
  refine Gl.go (fun _ k => XS.sipush X0.here hx rfl (hb hby at_19) k) ?_
  show Gl _ _ _ _ (s₁.setTop (mkF m 22 #[.val (.int a), .val (.int b), .val (.int c_), .val (.int ((a &&& (255 : Int32)).toUInt32.toUInt16.toUInt32.toInt32)), .val (.int ((((a.toUInt32 >>> ((8 : Int32) &&& 31).toUInt32).toInt32) &&& (255 : Int32)).toUInt32.toUInt16.toUInt32.toInt32)), .unset, .unset, .unset, .unset, .unset, .unset, .unset, .unset, .unset, .unset] [(.int (255 : Int32)), (.int b)]))
  refine Gl.go (fun _ k => XS.iand X0.here hx rfl (hb hby at_22) rfl k) ?_
  show Gl _ _ _ _ (s₁.setTop (mkF m 23 #[.val (.int a), .val (.int b), .val (.int c_), .val (.int ((a &&& (255 : Int32)).toUInt32.toUInt16.toUInt32.toInt32)), .val (.int ((((a.toUInt32 >>> ((8 : Int32) &&& 31).toUInt32).toInt32) &&& (255 : Int32)).toUInt32.toUInt16.toUInt32.toInt32)), .unset, .unset, .unset, .unset, .unset, .unset, .unset, .unset, .unset, .unset] [(.int (b &&& (255 : Int32)))]))
  refine Gl.go (fun _ k => XS.i2c X0.here hx rfl (hb hby at_23) rfl k) ?_
  show Gl _ _ _ _ (s₁.setTop (mkF m 24 #[.val (.int a), .val (.int b), .val (.int c_), .val (.int ((a &&& (255 : Int32)).toUInt32.toUInt16.toUInt32.toInt32)), .val (.int ((((a.toUInt32 >>> ((8 : Int32) &&& 31).toUInt32).toInt32) &&& (255 : Int32)).toUInt32.toUInt16.toUInt32.toInt32)), .unset, .unset, .unset, .unset, .unset, .unset, .unset, .unset, .unset, .unset] [(.int ((b &&& (255 : Int32)).toUInt32.toUInt16.toUInt32.toInt32))]))
  refine Gl.go (fun _ k => XS.istore X0.here hx rfl (hb hby at_24) rfl (l' := #[.val (.int a), .val (.int b), .val (.int c_), .val (.int ((a &&& (255 : Int32)).toUInt32.toUInt16.toUInt32.toInt32)), .val (.int ((((a.toUInt32 >>> ((8 : Int32) &&& 31).toUInt32).toInt32) &&& (255 : Int32)).toUInt32.toUInt16.toUInt32.toInt32)), .val (.int ((b &&& (255 : Int32)).toUInt32.toUInt16.toUInt32.toInt32)), .unset, .unset, .unset, .unset, .unset, .unset, .unset, .unset, .unset]) rfl k) ?_
  show Gl _ _ _ _ (s₁.setTop (mkF m 26 #[.val (.int a), .val (.int b), .val (.int c_), .val (.int ((a &&& (255 : Int32)).toUInt32.toUInt16.toUInt32.toInt32)), .val (.int ((((a.toUInt32 >>> ((8 : Int32) &&& 31).toUInt32).toInt32) &&& (255 : Int32)).toUInt32.toUInt16.toUInt32.toInt32)), .val (.int ((b &&& (255 : Int32)).toUInt32.toUInt16.toUInt32.toInt32)), .unset, .unset, .unset, .unset, .unset, .unset, .unset, .unset, .unset] []))
  refine Gl.go (fun _ k => XS.iloadN X0.here hx rfl (hb hby at_26) rfl  k) ?_
  show Gl _ _ _ _ (s₁.setTop (mkF m 27 #[.val (.int a), .val (.int b), .val (.int c_), .val (.int ((a &&& (255 : Int32)).toUInt32.toUInt16.toUInt32.toInt32)), .val (.int ((((a.toUInt32 >>> ((8 : Int32) &&& 31).toUInt32).toInt32) &&& (255 : Int32)).toUInt32.toUInt16.toUInt32.toInt32)), .val (.int ((b &&& (255 : Int32)).toUInt32.toUInt16.toUInt32.toInt32)), .unset, .unset, .unset, .unset, .unset, .unset, .unset, .unset, .unset] [(.int b)]))
  refine Gl.go (fun _ k => XS.bipush X0.here hx rfl (hb hby at_27) k) ?_
  show Gl _ _ _ _ (s₁.setTop (mkF m 29 #[.val (.int a), .val (.int b), .val (.int c_), .val (.int ((a &&& (255 : Int32)).toUInt32.toUInt16.toUInt32.toInt32)), .val (.int ((((a.toUInt32 >>> ((8 : Int32) &&& 31).toUInt32).toInt32) &&& (255 : Int32)).toUInt32.toUInt16.toUInt32.toInt32)), .val (.int ((b &&& (255 : Int32)).toUInt32.toUInt16.toUInt32.toInt32)), .unset, .unset, .unset, .unset, .unset, .unset, .unset, .unset, .unset] [(.int (8 : Int32)), (.int b)]))
  refine Gl.go (fun _ k => XS.iushr X0.here hx rfl (hb hby at_29) rfl k) ?_
  show Gl _ _ _ _ (s₁.setTop (mkF m 30 #[.val (.int a), .val (.int b), .val (.int c_), .val (.int ((a &&& (255 : Int32)).toUInt32.toUInt16.toUInt32.toInt32)), .val (.int ((((a.toUInt32 >>> ((8 : Int32) &&& 31).toUInt32).toInt32) &&& (255 : Int32)).toUInt32.toUInt16.toUInt32.toInt32)), .val (.int ((b &&& (255 : Int32)).toUInt32.toUInt16.toUInt32.toInt32)), .unset, .unset, .unset, .unset, .unset, .unset, .unset, .unset, .unset] [(.int ((b.toUInt32 >>> ((8 : Int32) &&& 31).toUInt32).toInt32))]))
  refine Gl.go (fun _ k => XS.sipush X0.here hx rfl (hb hby at_30) k) ?_
  show Gl _ _ _ _ (s₁.setTop (mkF m 33 #[.val (.int a), .val (.int b), .val (.int c_), .val (.int ((a &&& (255 : Int32)).toUInt32.toUInt16.toUInt32.toInt32)), .val (.int ((((a.toUInt32 >>> ((8 : Int32) &&& 31).toUInt32).toInt32) &&& (255 : Int32)).toUInt32.toUInt16.toUInt32.toInt32)), .val (.int ((b &&& (255 : Int32)).toUInt32.toUInt16.toUInt32.toInt32)), .unset, .unset, .unset, .unset, .unset, .unset, .unset, .unset, .unset] [(.int (255 : Int32)), (.int ((b.toUInt32 >>> ((8 : Int32) &&& 31).toUInt32).toInt32))]))
  refine Gl.go (fun _ k => XS.iand X0.here hx rfl (hb hby at_33) rfl k) ?_
  show Gl _ _ _ _ (s₁.setTop (mkF m 34 #[.val (.int a), .val (.int b), .val (.int c_), .val (.int ((a &&& (255 : Int32)).toUInt32.toUInt16.toUInt32.toInt32)), .val (.int ((((a.toUInt32 >>> ((8 : Int32) &&& 31).toUInt32).toInt32) &&& (255 : Int32)).toUInt32.toUInt16.toUInt32.toInt32)), .val (.int ((b &&& (255 : Int32)).toUInt32.toUInt16.toUInt32.toInt32)), .unset, .unset, .unset, .unset, .unset, .unset, .unset, .unset, .unset] [(.int (((b.toUInt32 >>> ((8 : Int32) &&& 31).toUInt32).toInt32) &&& (255 : Int32)))]))
  refine Gl.go (fun _ k => XS.i2c X0.here hx rfl (hb hby at_34) rfl k) ?_
  show Gl _ _ _ _ (s₁.setTop (mkF m 35 #[.val (.int a), .val (.int b), .val (.int c_), .val (.int ((a &&& (255 : Int32)).toUInt32.toUInt16.toUInt32.toInt32)), .val (.int ((((a.toUInt32 >>> ((8 : Int32) &&& 31).toUInt32).toInt32) &&& (255 : Int32)).toUInt32.toUInt16.toUInt32.toInt32)), .val (.int ((b &&& (255 : Int32)).toUInt32.toUInt16.toUInt32.toInt32)), .unset, .unset, .unset, .unset, .unset, .unset, .unset, .unset, .unset] [(.int ((((b.toUInt32 >>> ((8 : Int32) &&& 31).toUInt32).toInt32) &&& (255 : Int32)).toUInt32.toUInt16.toUInt32.toInt32))]))
  refine Gl.go (fun _ k => XS.istore X0.here hx rfl (hb hby at_35) rfl (l' := #[.val (.int a), .val (.int b), .val (.int c_), .val (.int ((a &&& (255 : Int32)).toUInt32.toUInt16.toUInt32.toInt32)), .val (.int ((((a.toUInt32 >>> ((8 : Int32) &&& 31).toUInt32).toInt32) &&& (255 : Int32)).toUInt32.toUInt16.toUInt32.toInt32)), .val (.int ((b &&& (255 : Int32)).toUInt32.toUInt16.toUInt32.toInt32)), .val (.int ((((b.toUInt32 >>> ((8 : Int32) &&& 31).toUInt32).toInt32) &&& (255 : Int32)).toUInt32.toUInt16.toUInt32.toInt32)), .unset, .unset, .unset, .unset, .unset, .unset, .unset, .unset]) rfl k) ?_
  show Gl _ _ _ _ (s₁.setTop (mkF m 37 #[.val (.int a), .val (.int b), .val (.int c_), .val (.int ((a &&& (255 : Int32)).toUInt32.toUInt16.toUInt32.toInt32)), .val (.int ((((a.toUInt32 >>> ((8 : Int32) &&& 31).toUInt32).toInt32) &&& (255 : Int32)).toUInt32.toUInt16.toUInt32.toInt32)), .val (.int ((b &&& (255 : Int32)).toUInt32.toUInt16.toUInt32.toInt32)), .val (.int ((((b.toUInt32 >>> ((8 : Int32) &&& 31).toUInt32).toInt32) &&& (255 : Int32)).toUInt32.toUInt16.toUInt32.toInt32)), .unset, .unset, .unset, .unset, .unset, .unset, .unset, .unset] []))
  refine Gl.go (fun _ k => XS.iloadN X0.here hx rfl (hb hby at_37) rfl  k) ?_
  show Gl _ _ _ _ (s₁.setTop (mkF m 38 #[.val (.int a), .val (.int b), .val (.int c_), .val (.int ((a &&& (255 : Int32)).toUInt32.toUInt16.toUInt32.toInt32)), .val (.int ((((a.toUInt32 >>> ((8 : Int32) &&& 31).toUInt32).toInt32) &&& (255 : Int32)).toUInt32.toUInt16.toUInt32.toInt32)), .val (.int ((b &&& (255 : Int32)).toUInt32.toUInt16.toUInt32.toInt32)), .val (.int ((((b.toUInt32 >>> ((8 : Int32) &&& 31).toUInt32).toInt32) &&& (255 : Int32)).toUInt32.toUInt16.toUInt32.toInt32)), .unset, .unset, .unset, .unset, .unset, .unset, .unset, .unset] [(.int c_)]))
  refine Gl.go (fun _ k => XS.sipush X0.here hx rfl (hb hby at_38) k) ?_
  show Gl _ _ _ _ (s₁.setTop (mkF m 41 #[.val (.int a), .val (.int b), .val (.int c_), .val (.int ((a &&& (255 : Int32)).toUInt32.toUInt16.toUInt32.toInt32)), .val (.int ((((a.toUInt32 >>> ((8 : Int32) &&& 31).toUInt32).toInt32) &&& (255 : Int32)).toUInt32.toUInt16.toUInt32.toInt32)), .val (.int ((b &&& (255 : Int32)).toUInt32.toUInt16.toUInt32.toInt32)), .val (.int ((((b.toUInt32 >>> ((8 : Int32) &&& 31).toUInt32).toInt32) &&& (255 : Int32)).toUInt32.toUInt16.toUInt32.toInt32)), .unset, .unset, .unset, .unset, .unset, .unset, .unset, .unset] [(.int (255 : Int32)), (.int c_)]))
  refine Gl.go (fun _ k => XS.iand X0.here hx rfl (hb hby at_41) rfl k) ?_
  show Gl _ _ _ _ (s₁.setTop (mkF m 42 #[.val (.int a), .val (.int b), .val (.int c_), .val (.int ((a &&& (255 : Int32)).toUInt32.toUInt16.toUInt32.toInt32)), .val (.int ((((a.toUInt32 >>> ((8 : Int32) &&& 31).toUInt32).toInt32) &&& (255 : Int32)).toUInt32.toUInt16.toUInt32.toInt32)), .val (.int ((b &&& (255 : Int32)).toUInt32.toUInt16.toUInt32.toInt32)), .val (.int ((((b.toUInt32 >>> ((8 : Int32) &&& 31).toUInt32).toInt32) &&& (255 : Int32)).toUInt32.toUInt16.toUInt32.toInt32)), .unset, .unset, .unset, .unset, .unset, .unset, .unset, .unset] [(.int (c_ &&& (255 : Int32)))]))
  refine Gl.go (fun _ k => XS.i2c X0.here hx rfl (hb hby at_42) rfl k) ?_
  show Gl _ _ _ _ (s₁.setTop (mkF m 43 #[.val (.int a), .val (.int b), .val (.int c_), .val (.int ((a &&& (255 : Int32)).toUInt32.toUInt16.toUInt32.toInt32)), .val (.int ((((a.toUInt32 >>> ((8 : Int32) &&& 31).toUInt32).toInt32) &&& (255 : Int32)).toUInt32.toUInt16.toUInt32.toInt32)), .val (.int ((b &&& (255 : Int32)).toUInt32.toUInt16.toUInt32.toInt32)), .val (.int ((((b.toUInt32 >>> ((8 : Int32) &&& 31).toUInt32).toInt32) &&& (255 : Int32)).toUInt32.toUInt16.toUInt32.toInt32)), .unset, .unset, .unset, .unset, .unset, .unset, .unset, .unset] [(.int ((c_ &&& (255 : Int32)).toUInt32.toUInt16.toUInt32.toInt32))]))
  refine Gl.go (fun _ k => XS.istore X0.here hx rfl (hb hby at_43) rfl (l' := #[.val (.int a), .val (.int b), .val (.int c_), .val (.int ((a &&& (255 : Int32)).toUInt32.toUInt16.toUInt32.toInt32)), .val (.int ((((a.toUInt32 >>> ((8 : Int32) &&& 31).toUInt32).toInt32) &&& (255 : Int32)).toUInt32.toUInt16.toUInt32.toInt32)), .val (.int ((b &&& (255 : Int32)).toUInt32.toUInt16.toUInt32.toInt32)), .val (.int ((((b.toUInt32 >>> ((8 : Int32) &&& 31).toUInt32).toInt32) &&& (255 : Int32)).toUInt32.toUInt16.toUInt32.toInt32)), .val (.int ((c_ &&& (255 : Int32)).toUInt32.toUInt16.toUInt32.toInt32)), .unset, .unset, .unset, .unset, .unset, .unset, .unset]) rfl k) ?_
  show Gl _ _ _ _ (s₁.setTop (mkF m 45 #[.val (.int a), .val (.int b), .val (.int c_), .val (.int ((a &&& (255 : Int32)).toUInt32.toUInt16.toUInt32.toInt32)), .val (.int ((((a.toUInt32 >>> ((8 : Int32) &&& 31).toUInt32).toInt32) &&& (255 : Int32)).toUInt32.toUInt16.toUInt32.toInt32)), .val (.int ((b &&& (255 : Int32)).toUInt32.toUInt16.toUInt32.toInt32)), .val (.int ((((b.toUInt32 >>> ((8 : Int32) &&& 31).toUInt32).toInt32) &&& (255 : Int32)).toUInt32.toUInt16.toUInt32.toInt32)), .val (.int ((c_ &&& (255 : Int32)).toUInt32.toUInt16.toUInt32.toInt32)), .unset, .unset, .unset, .unset, .unset, .unset, .unset] []))
  refine Gl.go (fun _ k => XS.iloadN X0.here hx rfl (hb hby at_45) rfl  k) ?_
  show Gl _ _ _ _ (s₁.setTop (mkF m 46 #[.val (.int a), .val (.int b), .val (.int c_), .val (.int ((a &&& (255 : Int32)).toUInt32.toUInt16.toUInt32.toInt32)), .val (.int ((((a.toUInt32 >>> ((8 : Int32) &&& 31).toUInt32).toInt32) &&& (255 : Int32)).toUInt32.toUInt16.toUInt32.toInt32)), .val (.int ((b &&& (255 : Int32)).toUInt32.toUInt16.toUInt32.toInt32)), .val (.int ((((b.toUInt32 >>> ((8 : Int32) &&& 31).toUInt32).toInt32) &&& (255 : Int32)).toUInt32.toUInt16.toUInt32.toInt32)), .val (.int ((c_ &&& (255 : Int32)).toUInt32.toUInt16.toUInt32.toInt32)), .unset, .unset, .unset, .unset, .unset, .unset, .unset] [(.int c_)]))
  refine Gl.go (fun _ k => XS.bipush X0.here hx rfl (hb hby at_46) k) ?_
  show Gl _ _ _ _ (s₁.setTop (mkF m 48 #[.val (.int a), .val (.int b), .val (.int c_), .val (.int ((a &&& (255 : Int32)).toUInt32.toUInt16.toUInt32.toInt32)), .val (.int ((((a.toUInt32 >>> ((8 : Int32) &&& 31).toUInt32).toInt32) &&& (255 : Int32)).toUInt32.toUInt16.toUInt32.toInt32)), .val (.int ((b &&& (255 : Int32)).toUInt32.toUInt16.toUInt32.toInt32)), .val (.int ((((b.toUInt32 >>> ((8 : Int32) &&& 31).toUInt32).toInt32) &&& (255 : Int32)).toUInt32.toUInt16.toUInt32.toInt32)), .val (.int ((c_ &&& (255 : Int32)).toUInt32.toUInt16.toUInt32.toInt32)), .unset, .unset, .unset, .unset, .unset, .unset, .unset] [(.int (8 : Int32)), (.int c_)]))
  refine Gl.go (fun _ k => XS.iushr X0.here hx rfl (hb hby at_48) rfl k) ?_
  show Gl _ _ _ _ (s₁.setTop (mkF m 49 #[.val (.int a), .val (.int b), .val (.int c_), .val (.int ((a &&& (255 : Int32)).toUInt32.toUInt16.toUInt32.toInt32)), .val (.int ((((a.toUInt32 >>> ((8 : Int32) &&& 31).toUInt32).toInt32) &&& (255 : Int32)).toUInt32.toUInt16.toUInt32.toInt32)), .val (.int ((b &&& (255 : Int32)).toUInt32.toUInt16.toUInt32.toInt32)), .val (.int ((((b.toUInt32 >>> ((8 : Int32) &&& 31).toUInt32).toInt32) &&& (255 : Int32)).toUInt32.toUInt16.toUInt32.toInt32)), .val (.int ((c_ &&& (255 : Int32)).toUInt32.toUInt16.toUInt32.toInt32)), .unset, .unset, .unset, .unset, .unset, .unset, .unset] [(.int ((c_.toUInt32 >>> ((8 : Int32) &&& 31).toUInt32).toInt32))]))
  refine Gl.go (fun _ k => XS.sipush X0.here hx rfl (hb hby at_49) k) ?_
  show Gl _ _ _ _ (s₁.setTop (mkF m 52 #[.val (.int a), .val (.int b), .val (.int c_), .val (.int ((a &&& (255 : Int32)).toUInt32.toUInt16.toUInt32.toInt32)), .val (.int ((((a.toUInt32 >>> ((8 : Int32) &&& 31).toUInt32).toInt32) &&& (255 : Int32)).toUInt32.toUInt16.toUInt32.toInt32)), .val (.int ((b &&& (255 : Int32)).toUInt32.toUInt16.toUInt32.toInt32)), .val (.int ((((b.toUInt32 >>> ((8 : Int32) &&& 31).toUInt32).toInt32) &&& (255 : Int32)).toUInt32.toUInt16.toUInt32.toInt32)), .val (.int ((c_ &&& (255 : Int32)).toUInt32.toUInt16.toUInt32.toInt32)), .unset, .unset, .unset, .unset, .unset, .unset, .unset] [(.int (255 : Int32)), (.int ((c_.toUInt32 >>> ((8 : Int32) &&& 31).toUInt32).toInt32))]))
  refine Gl.go (fun _ k => XS.iand X0.here hx rfl (hb hby at_52) rfl k) ?_
  show Gl _ _ _ _ (s₁.setTop (mkF m 53 #[.val (.int a), .val (.int b), .val (.int c_), .val (.int ((a &&& (255 : Int32)).toUInt32.toUInt16.toUInt32.toInt32)), .val (.int ((((a.toUInt32 >>> ((8 : Int32) &&& 31).toUInt32).toInt32) &&& (255 : Int32)).toUInt32.toUInt16.toUInt32.toInt32)), .val (.int ((b &&& (255 : Int32)).toUInt32.toUInt16.toUInt32.toInt32)), .val (.int ((((b.toUInt32 >>> ((8 : Int32) &&& 31).toUInt32).toInt32) &&& (255 : Int32)).toUInt32.toUInt16.toUInt32.toInt32)), .val (.int ((c_ &&& (255 : Int32)).toUInt32.toUInt16.toUInt32.toInt32)), .unset, .unset, .unset, .unset, .unset, .unset, .unset] [(.int (((c_.toUInt32 >>> ((8 : Int32) &&& 31).toUInt32).toInt32) &&& (255 : Int32)))]))
  refine Gl.go (fun _ k => XS.i2c X0.here hx rfl (hb hby at_53) rfl k) ?_
  show Gl _ _ _ _ (s₁.setTop (mkF m 54 #[.val (.int a), .val (.int b), .val (.int c_), .val (.int ((a &&& (255 : Int32)).toUInt32.toUInt16.toUInt32.toInt32)), .val (.int ((((a.toUInt32 >>> ((8 : Int32) &&& 31).toUInt32).toInt32) &&& (255 : Int32)).toUInt32.toUInt16.toUInt32.toInt32)), .val (.int ((b &&& (255 : Int32)).toUInt32.toUInt16.toUInt32.toInt32)), .val (.int ((((b.toUInt32 >>> ((8 : Int32) &&& 31).toUInt32).toInt32) &&& (255 : Int32)).toUInt32.toUInt16.toUInt32.toInt32)), .val (.int ((c_ &&& (255 : Int32)).toUInt32.toUInt16.toUInt32.toInt32)), .unset, .unset, .unset, .unset, .unset, .unset, .unset] [(.int ((((c_.toUInt32 >>> ((8 : Int32) &&& 31).toUInt32).toInt32) &&& (255 : Int32)).toUInt32.toUInt16.toUInt32.toInt32))]))
  refine Gl.go (fun _ k => XS.istore X0.here hx rfl (hb hby at_54) rfl (l' := #[.val (.int a), .val (.int b), .val (.int c_), .val (.int ((a &&& (255 : Int32)).toUInt32.toUInt16.toUInt32.toInt32)), .val (.int ((((a.toUInt32 >>> ((8 : Int32) &&& 31).toUInt32).toInt32) &&& (255 : Int32)).toUInt32.toUInt16.toUInt32.toInt32)), .val (.int ((b &&& (255 : Int32)).toUInt32.toUInt16.toUInt32.toInt32)), .val (.int ((((b.toUInt32 >>> ((8 : Int32) &&& 31).toUInt32).toInt32) &&& (255 : Int32)).toUInt32.toUInt16.toUInt32.toInt32)), .val (.int ((c_ &&& (255 : Int32)).toUInt32.toUInt16.toUInt32.toInt32)), .val (.int ((((c_.toUInt32 >>> ((8 : Int32) &&& 31).toUInt32).toInt32) &&& (255 : Int32)).toUInt32.toUInt16.toUInt32.toInt32)), .unset, .unset, .unset, .unset, .unset, .unset]) rfl k) ?_
  show Gl _ _ _ _ (s₁.setTop (mkF m 56 #[.val (.int a), .val (.int b), .val (.int c_), .val (.int ((a &&& (255 : Int32)).toUInt32.toUInt16.toUInt32.toInt32)), .val (.int ((((a.toUInt32 >>> ((8 : Int32) &&& 31).toUInt32).toInt32) &&& (255 : Int32)).toUInt32.toUInt16.toUInt32.toInt32)), .val (.int ((b &&& (255 : Int32)).toUInt32.toUInt16.toUInt32.toInt32)), .val (.int ((((b.toUInt32 >>> ((8 : Int32) &&& 31).toUInt32).toInt32) &&& (255 : Int32)).toUInt32.toUInt16.toUInt32.toInt32)), .val (.int ((c_ &&& (255 : Int32)).toUInt32.toUInt16.toUInt32.toInt32)), .val (.int ((((c_.toUInt32 >>> ((8 : Int32) &&& 31).toUInt32).toInt32) &&& (255 : Int32)).toUInt32.toUInt16.toUInt32.toInt32)), .unset, .unset, .unset, .unset, .unset, .unset] []))
  have p_c0 : ¬ nar .char ((a &&& (255 : Int32)).toUInt32.toUInt16.toUInt32.toInt32) < 0 ∧ ¬ (255 : Int32) < nar .char ((a &&& (255 : Int32)).toUInt32.toUInt16.toUInt32.toInt32) := own_chr _
  generalize ((a &&& (255 : Int32)).toUInt32.toUInt16.toUInt32.toInt32) = c0 at p_c0 ⊢
  show Gl _ _ _ _ (s₁.setTop (mkF m 56 #[.val (.int a), .val (.int b), .val (.int c_), .val (.int c0), .val (.int ((((a.toUInt32 >>> ((8 : Int32) &&& 31).toUInt32).toInt32) &&& (255 : Int32)).toUInt32.toUInt16.toUInt32.toInt32)), .val (.int ((b &&& (255 : Int32)).toUInt32.toUInt16.toUInt32.toInt32)), .val (.int ((((b.toUInt32 >>> ((8 : Int32) &&& 31).toUInt32).toInt32) &&& (255 : Int32)).toUInt32.toUInt16.toUInt32.toInt32)), .val (.int ((c_ &&& (255 : Int32)).toUInt32.toUInt16.toUInt32.toInt32)), .val (.int ((((c_.toUInt32 >>> ((8 : Int32) &&& 31).toUInt32).toInt32) &&& (255 : Int32)).toUInt32.toUInt16.toUInt32.toInt32)), .unset, .unset, .unset, .unset, .unset, .unset] []))
  have p_c1 : ¬ nar .char ((((a.toUInt32 >>> ((8 : Int32) &&& 31).toUInt32).toInt32) &&& (255 : Int32)).toUInt32.toUInt16.toUInt32.toInt32) < 0 ∧ ¬ (255 : Int32) < nar .char ((((a.toUInt32 >>> ((8 : Int32) &&& 31).toUInt32).toInt32) &&& (255 : Int32)).toUInt32.toUInt16.toUInt32.toInt32) := own_chr _
  generalize ((((a.toUInt32 >>> ((8 : Int32) &&& 31).toUInt32).toInt32) &&& (255 : Int32)).toUInt32.toUInt16.toUInt32.toInt32) = c1 at p_c1 ⊢
  show Gl _ _ _ _ (s₁.setTop (mkF m 56 #[.val (.int a), .val (.int b), .val (.int c_), .val (.int c0), .val (.int c1), .val (.int ((b &&& (255 : Int32)).toUInt32.toUInt16.toUInt32.toInt32)), .val (.int ((((b.toUInt32 >>> ((8 : Int32) &&& 31).toUInt32).toInt32) &&& (255 : Int32)).toUInt32.toUInt16.toUInt32.toInt32)), .val (.int ((c_ &&& (255 : Int32)).toUInt32.toUInt16.toUInt32.toInt32)), .val (.int ((((c_.toUInt32 >>> ((8 : Int32) &&& 31).toUInt32).toInt32) &&& (255 : Int32)).toUInt32.toUInt16.toUInt32.toInt32)), .unset, .unset, .unset, .unset, .unset, .unset] []))
  have p_d0 : ¬ nar .char ((b &&& (255 : Int32)).toUInt32.toUInt16.toUInt32.toInt32) < 0 ∧ ¬ (255 : Int32) < nar .char ((b &&& (255 : Int32)).toUInt32.toUInt16.toUInt32.toInt32) := own_chr _
  generalize ((b &&& (255 : Int32)).toUInt32.toUInt16.toUInt32.toInt32) = d0 at p_d0 ⊢
  show Gl _ _ _ _ (s₁.setTop (mkF m 56 #[.val (.int a), .val (.int b), .val (.int c_), .val (.int c0), .val (.int c1), .val (.int d0), .val (.int ((((b.toUInt32 >>> ((8 : Int32) &&& 31).toUInt32).toInt32) &&& (255 : Int32)).toUInt32.toUInt16.toUInt32.toInt32)), .val (.int ((c_ &&& (255 : Int32)).toUInt32.toUInt16.toUInt32.toInt32)), .val (.int ((((c_.toUInt32 >>> ((8 : Int32) &&& 31).toUInt32).toInt32) &&& (255 : Int32)).toUInt32.toUInt16.toUInt32.toInt32)), .unset, .unset, .unset, .unset, .unset, .unset] []))
  have p_d1 : ¬ nar .char ((((b.toUInt32 >>> ((8 : Int32) &&& 31).toUInt32).toInt32) &&& (255 : Int32)).toUInt32.toUInt16.toUInt32.toInt32) < 0 ∧ ¬ (255 : Int32) < nar .char ((((b.toUInt32 >>> ((8 : Int32) &&& 31).toUInt32).toInt32) &&& (255 : Int32)).toUInt32.toUInt16.toUInt32.toInt32) := own_chr _
  generalize ((((b.toUInt32 >>> ((8 : Int32) &&& 31).toUInt32).toInt32) &&& (255 : Int32)).toUInt32.toUInt16.toUInt32.toInt32) = d1 at p_d1 ⊢
  show Gl _ _ _ _ (s₁.setTop (mkF m 56 #[.val (.int a), .val (.int b), .val (.int c_), .val (.int c0), .val (.int c1), .val (.int d0), .val (.int d1), .val (.int ((c_ &&& (255 : Int32)).toUInt32.toUInt16.toUInt32.toInt32)), .val (.int ((((c_.toUInt32 >>> ((8 : Int32) &&& 31).toUInt32).toInt32) &&& (255 : Int32)).toUInt32.toUInt16.toUInt32.toInt32)), .unset, .unset, .unset, .unset, .unset, .unset] []))
  have p_e0_ : ¬ nar .char ((c_ &&& (255 : Int32)).toUInt32.toUInt16.toUInt32.toInt32) < 0 ∧ ¬ (255 : Int32) < nar .char ((c_ &&& (255 : Int32)).toUInt32.toUInt16.toUInt32.toInt32) := own_chr _
  generalize ((c_ &&& (255 : Int32)).toUInt32.toUInt16.toUInt32.toInt32) = e0_ at p_e0_ ⊢
  show Gl _ _ _ _ (s₁.setTop (mkF m 56 #[.val (.int a), .val (.int b), .val (.int c_), .val (.int c0), .val (.int c1), .val (.int d0), .val (.int d1), .val (.int e0_), .val (.int ((((c_.toUInt32 >>> ((8 : Int32) &&& 31).toUInt32).toInt32) &&& (255 : Int32)).toUInt32.toUInt16.toUInt32.toInt32)), .unset, .unset, .unset, .unset, .unset, .unset] []))
  have p_e1_ : ¬ nar .char ((((c_.toUInt32 >>> ((8 : Int32) &&& 31).toUInt32).toInt32) &&& (255 : Int32)).toUInt32.toUInt16.toUInt32.toInt32) < 0 ∧ ¬ (255 : Int32) < nar .char ((((c_.toUInt32 >>> ((8 : Int32) &&& 31).toUInt32).toInt32) &&& (255 : Int32)).toUInt32.toUInt16.toUInt32.toInt32) := own_chr _
  generalize ((((c_.toUInt32 >>> ((8 : Int32) &&& 31).toUInt32).toInt32) &&& (255 : Int32)).toUInt32.toUInt16.toUInt32.toInt32) = e1_ at p_e1_ ⊢
  show Gl _ _ _ _ (s₁.setTop (mkF m 56 #[.val (.int a), .val (.int b), .val (.int c_), .val (.int c0), .val (.int c1), .val (.int d0), .val (.int d1), .val (.int e0_), .val (.int e1_), .unset, .unset, .unset, .unset, .unset, .unset] []))
  obtain ⟨l32, h_l32⟩ : ∃ l : Int32, (32 : Int32) = l := ⟨_, rfl⟩
  have p_32 : ¬ nar .char l32 < 0 ∧ ¬ (255 : Int32) < nar .char l32 := by rw [← h_l32]; decide
  have q_32 : (nar .char l32).toInt8.toInt32 = (32 : Int32) := by rw [← h_l32]; decide
  obtain ⟨l91, h_l91⟩ : ∃ l : Int32, (91 : Int32) = l := ⟨_, rfl⟩
  have p_91 : ¬ nar .char l91 < 0 ∧ ¬ (255 : Int32) < nar .char l91 := by rw [← h_l91]; decide
  have q_91 : (nar .char l91).toInt8.toInt32 = (91 : Int32) := by rw [← h_l91]; decide
  obtain ⟨l93, h_l93⟩ : ∃ l : Int32, (93 : Int32) = l := ⟨_, rfl⟩
  have p_93 : ¬ nar .char l93 < 0 ∧ ¬ (255 : Int32) < nar .char l93 := by rw [← h_l93]; decide
  have q_93 : (nar .char l93).toInt8.toInt32 = (93 : Int32) := by rw [← h_l93]; decide
  obtain ⟨T1, h1, X1, e1, E1, A1, D1, -, st1⟩ := newO X0 hx hZ hown (hw _ (List.mem_of_getElem? (i := 0) rfl)) (hw _ (List.mem_of_getElem? (i := 1) rfl)) (hw _ (List.mem_of_getElem? (i := 2) rfl)) e0 (g := (mkF m 56 #[.val (.int a), .val (.int b), .val (.int c_), .val (.int c0), .val (.int c1), .val (.int d0), .val (.int d1), .val (.int e0_), .val (.int e1_), .unset, .unset, .unset, .unset, .unset, .unset] [])) rfl (hb hby at_56) (by decide) (by decide)
  obtain ⟨b1, g1⟩ : ∃ z, z = h0.size := ⟨_, rfl⟩
  rw [← g1] at A1 D1 st1
  have g_b1 : n0 ≤ b1 := Nat.le_trans Z0 (Nat.le_of_eq g1.symm)
  have sz_b1 : h0.size ≤ b1 := Nat.le_trans K0.1 (Nat.le_of_eq g1.symm)
  have Zs_b1 : Safe Z elL s.vm h1 b1 := Safe.ext E1 CR0.1 (Safe.new (Nat.le_of_eq g1.symm))
  have O__1 : Old Z n0 h1 := X00.ext E1
  have SZ1 : n0 ≤ h1.size := Nat.le_trans Z0 E1.1
  have K1 : Keep h0 h1 [] := K0.ext E1
  have hk := Nat.le_trans hk E1.1
  have CR1 : CHr Z elL s.vm h0 s.vm h1 := CR0.trans (CHr.ext E1 CR0.1)
  have F_b1_coder_1 : Fld Z h1 b1 "java/lang/String" "coder" "B" (.int (0 : Int32)) := D1 (Or.inr (hw _ (List.mem_of_getElem? (i := 27) rfl))) (ty := .byte) (by decide)
  have F_b1_value_1 : Fld Z h1 b1 "java/lang/String" "value" "[B" .null := D1 (Or.inr (hw _ (List.mem_of_getElem? (i := 29) rfl))) (ty := (.array .byte)) (by decide)
  refine Gl.go (fun _ k => st1 _ k) ?_
  show Gl _ _ _ _ (T1.setTop (mkF m 59 #[.val (.int a), .val (.int b), .val (.int c_), .val (.int c0), .val (.int c1), .val (.int d0), .val (.int d1), .val (.int e0_), .val (.int e1_), .unset, .unset, .unset, .unset, .unset, .unset] [(.ref b1)]))
  refine Gl.go (fun _ k => XS.dup X1.here hx rfl (hb hby at_59) rfl rfl k) ?_
  show Gl _ _ _ _ (T1.setTop (mkF m 60 #[.val (.int a), .val (.int b), .val (.int c_), .val (.int c0), .val (.int c1), .val (.int d0), .val (.int d1), .val (.int e0_), .val (.int e1_), .unset, .unset, .unset, .unset, .unset, .unset] [(.ref b1), (.ref b1)]))
  refine Gl.go (fun _ k => XS.iconst X1.here hx rfl (hb hby at_60) k) ?_
  show Gl _ _ _ _ (T1.setTop (mkF m 61 #[.val (.int a), .val (.int b), .val (.int c_), .val (.int c0), .val (.int c1), .val (.int d0), .val (.int d1), .val (.int e0_), .val (.int e1_), .unset, .unset, .unset, .unset, .unset, .unset] [(.int (2 : Int32)), (.ref b1), (.ref b1)]))
  obtain ⟨T2, h2, cA2, X2, e2, E2, A2, st2⟩ := newP X1 hx hZ (hw _ (List.mem_of_getElem? (i := 3) rfl)) e1 (g := (mkF m 61 #[.val (.int a), .val (.int b), .val (.int c_), .val (.int c0), .val (.int c1), .val (.int d0), .val (.int d1), .val (.int e0_), .val (.int e1_), .unset, .unset, .unset, .unset, .unset, .unset] [(.int (2 : Int32)), (.ref b1), (.ref b1)])) rfl (hb hby at_61) rfl (by decide) (cap := 2) (by decide) (by decide) (by decide) (by decide)
  obtain ⟨b2, g2⟩ : ∃ z, z = h1.size := ⟨_, rfl⟩
  rw [← g2] at A2 st2
  have g_b2 : n0 ≤ b2 := Nat.le_trans SZ1 (Nat.le_of_eq g2.symm)
  have sz_b2 : h0.size ≤ b2 := Nat.le_trans K1.1 (Nat.le_of_eq g2.symm)
  have ne_b1_b2 : b1 ≠ b2 := Nat.ne_of_lt (Nat.lt_of_lt_of_le A1.lt (Nat.le_of_eq g2.symm))
  have Zs_b1_2 : Safe Z elL s.vm h2 b1 := Safe.ext E2 CR1.1 Zs_b1
  have O__2 : Old Z n0 h2 := O__1.ext E2
  have E_b1_2 : Exa Z h2 b1 "java/lang/String" := A1.ext E2
  have F_b1_coder_2 : Fld Z h2 b1 "java/lang/String" "coder" "B" (.int (0 : Int32)) := F_b1_coder_1.ext E2
  have F_b1_value_2 : Fld Z h2 b1 "java/lang/String" "value" "[B" .null := F_b1_value_1.ext E2
  have SZ2 : n0 ≤ h2.size := Nat.le_trans SZ1 E2.1
  have K2 : Keep h0 h2 [] := K1.ext E2
  have hk := Nat.le_trans hk E2.1
  have CR2 : CHr Z elL s.vm h0 s.vm h2 := CR1.trans (CHr.ext E2 CR1.1)
  have V_b2_2 : Arv Z h2 b2 cA2 .char (2 : Int32) [(.int (0 : Int32)), (.int (0 : Int32))] (.int (0 : Int32)) := (Arv.new A2 (by decide)).pad (pad_rep [] _ 2)
  refine Gl.go (fun _ k => st2 _ k) ?_
  show Gl _ _ _ _ (T2.setTop (mkF m 63 #[.val (.int a), .val (.int b), .val (.int c_), .val (.int c0), .val (.int c1), .val (.int d0), .val (.int d1), .val (.int e0_), .val (.int e1_), .unset, .unset, .unset, .unset, .unset, .unset] [(.ref b2), (.ref b1), (.ref b1)]))
  refine Gl.go (fun _ k => XS.dup X2.here hx rfl (hb hby at_63) rfl rfl k) ?_
  show Gl _ _ _ _ (T2.setTop (mkF m 64 #[.val (.int a), .val (.int b), .val (.int c_), .val (.int c0), .val (.int c1), .val (.int d0), .val (.int d1), .val (.int e0_), .val (.int e1_), .unset, .unset, .unset, .unset, .unset, .unset] [(.ref b2), (.ref b2), (.ref b1), (.ref b1)]))
  refine Gl.go (fun _ k => XS.iconst X2.here hx rfl (hb hby at_64) k) ?_
  show Gl _ _ _ _ (T2.setTop (mkF m 65 #[.val (.int a), .val (.int b), .val (.int c_), .val (.int c0), .val (.int c1), .val (.int d0), .val (.int d1), .val (.int e0_), .val (.int e1_), .unset, .unset, .unset, .unset, .unset, .unset] [(.int (0 : Int32)), (.ref b2), (.ref b2), (.ref b1), (.ref b1)]))
  refine Gl.go (fun _ k => XS.iloadN X2.here hx rfl (hb hby at_65) rfl  k) ?_
  show Gl _ _ _ _ (T2.setTop (mkF m 66 #[.val (.int a), .val (.int b), .val (.int c_), .val (.int c0), .val (.int c1), .val (.int d0), .val (.int d1), .val (.int e0_), .val (.int e1_), .unset, .unset, .unset, .unset, .unset, .unset] [(.int c0), (.int (0 : Int32)), (.ref b2), (.ref b2), (.ref b1), (.ref b1)]))
  obtain ⟨cl3, Ar3, qA3, SA3, NA3, HA3, GA3⟩ := id V_b2_2
  obtain ⟨T3, h3, X3, e3, W3, st3⟩ := stC X2 hx hZ e2 Ar3 (j := (0 : Int32)) (inb_of SA3 ⟨by decide, by decide⟩) (g := (mkF m 66 #[.val (.int a), .val (.int b), .val (.int c_), .val (.int c0), .val (.int c1), .val (.int d0), .val (.int d1), .val (.int e0_), .val (.int e1_), .unset, .unset, .unset, .unset, .unset, .unset] [(.int c0), (.int (0 : Int32)), (.ref b2), (.ref b2), (.ref b1), (.ref b1)])) rfl rfl (hb hby at_66)
  have Zs_b1_3 : Safe Z elL s.vm h3 b1 := Safe.wr W3 (Safe.arv hZ.alike V_b2_2 (by decide)) CR2.1 Zs_b1_2
  have O__3 : Old Z n0 h3 := O__2.wr W3 g_b2
  have E_b1_3 : Exa Z h3 b1 "java/lang/String" := E_b1_2.wr W3
  have F_b1_coder_3 : Fld Z h3 b1 "java/lang/String" "coder" "B" (.int (0 : Int32)) := F_b1_coder_2.other W3 (Or.inl ne_b1_b2)
  have F_b1_value_3 : Fld Z h3 b1 "java/lang/String" "value" "[B" .null := F_b1_value_2.other W3 (Or.inl ne_b1_b2)
  have SZ3 : n0 ≤ h3.size := by rw [Wr.size W3]; exact SZ2
  have K3 : Keep h0 h3 [] := K2.wr W3 (Or.inr sz_b2)
  have N3 := Fr.snoc X3 N0 g_b2
  have hk := Nat.le_trans hk (Nat.le_of_eq (Wr.size W3).symm)
  have CR3 : CHr Z elL s.vm h0 s.vm h3 := CR2.trans (CHr.wr W3 (Safe.arv hZ.alike V_b2_2 (by decide)) CR2.1)
  have V_b2_3 : Arv Z h3 b2 cA2 .char (2 : Int32) [(.int (nar .char c0)), (.int (0 : Int32))] (.int (0 : Int32)) := Arv.set Ar3 qA3 SA3 NA3 HA3 GA3 (fits_nar_char _) W3 0 rfl (Nat.le_of_ble_eq_true rfl)
  refine Gl.go (fun _ k => st3 _ k) ?_
  show Gl _ _ _ _ (T3.setTop (mkF m 67 #[.val (.int a), .val (.int b), .val (.int c_), .val (.int c0), .val (.int c1), .val (.int d0), .val (.int d1), .val (.int e0_), .val (.int e1_), .unset, .unset, .unset, .unset, .unset, .unset] [(.ref b2), (.ref b1), (.ref b1)]))
  refine Gl.go (fun _ k => XS.dup X3.here hx rfl (hb hby at_67) rfl rfl k) ?_
  show Gl _ _ _ _ (T3.setTop (mkF m 68 #[.val (.int a), .val (.int b), .val (.int c_), .val (.int c0), .val (.int c1), .val (.int d0), .val (.int d1), .val (.int e0_), .val (.int e1_), .unset, .unset, .unset, .unset, .unset, .unset] [(.ref b2), (.ref b2), (.ref b1), (.ref b1)]))
  refine Gl.go (fun _ k => XS.iconst X3.here hx rfl (hb hby at_68) k) ?_
  show Gl _ _ _ _ (T3.setTop (mkF m 69 #[.val (.int a), .val (.int b), .val (.int c_), .val (.int c0), .val (.int c1), .val (.int d0), .val (.int d1), .val (.int e0_), .val (.int e1_), .unset, .unset, .unset, .unset, .unset, .unset] [(.int (1 : Int32)), (.ref b2), (.ref b2), (.ref b1), (.ref b1)]))
  refine Gl.go (fun _ k => XS.iload X3.here hx rfl (hb hby at_69) rfl  k) ?_
  show Gl _ _ _ _ (T3.setTop (mkF m 71 #[.val (.int a), .val (.int b), .val (.int c_), .val (.int c0), .val (.int c1), .val (.int d0), .val (.int d1), .val (.int e0_), .val (.int e1_), .unset, .unset, .unset, .unset, .unset, .unset] [(.int c1), (.int (1 : Int32)), (.ref b2), (.ref b2), (.ref b1), (.ref b1)]))
  obtain ⟨cl4, Ar4, qA4, SA4, NA4, HA4, GA4⟩ := id V_b2_3
  obtain ⟨T4, h4, X4, e4, W4, st4⟩ := stC X3 hx hZ e3 Ar4 (j := (1 : Int32)) (inb_of SA4 ⟨by decide, by decide⟩) (g := (mkF m 71 #[.val (.int a), .val (.int b), .val (.int c_), .val (.int c0), .val (.int c1), .val (.int d0), .val (.int d1), .val (.int e0_), .val (.int e1_), .unset, .unset, .unset, .unset, .unset, .unset] [(.int c1), (.int (1 : Int32)), (.ref b2), (.ref b2), (.ref b1), (.ref b1)])) rfl rfl (hb hby at_71)
  have Zs_b1_4 : Safe Z elL s.vm h4 b1 := Safe.wr W4 (Safe.arv hZ.alike V_b2_3 (by decide)) CR3.1 Zs_b1_3
  have O__4 : Old Z n0 h4 := O__3.wr W4 g_b2
  have E_b1_4 : Exa Z h4 b1 "java/lang/String" := E_b1_3.wr W4
  have F_b1_coder_4 : Fld Z h4 b1 "java/lang/String" "coder" "B" (.int (0 : Int32)) := F_b1_coder_3.other W4 (Or.inl ne_b1_b2)
  have F_b1_value_4 : Fld Z h4 b1 "java/lang/String" "value" "[B" .null := F_b1_value_3.other W4 (Or.inl ne_b1_b2)
  have SZ4 : n0 ≤ h4.size := by rw [Wr.size W4]; exact SZ3
  have K4 : Keep h0 h4 [] := K3.wr W4 (Or.inr sz_b2)
  have N4 := Fr.snoc X4 N3 g_b2
  have hk := Nat.le_trans hk (Nat.le_of_eq (Wr.size W4).symm)
  have CR4 : CHr Z elL s.vm h0 s.vm h4 := CR3.trans (CHr.wr W4 (Safe.arv hZ.alike V_b2_3 (by decide)) CR3.1)
  have V_b2_4 : Arv Z h4 b2 cA2 .char (2 : Int32) [(.int (nar .char c0)), (.int (nar .char c1))] (.int (0 : Int32)) := Arv.set Ar4 qA4 SA4 NA4 HA4 GA4 (fits_nar_char _) W4 1 rfl (Nat.le_of_ble_eq_true rfl)
  refine Gl.go (fun _ k => st4 _ k) ?_
  show Gl _ _ _ _ (T4.setTop (mkF m 72 #[.val (.int a), .val (.int b), .val (.int c_), .val (.int c0), .val (.int c1), .val (.int d0), .val (.int d1), .val (.int e0_), .val (.int e1_), .unset, .unset, .unset, .unset, .unset, .unset] [(.ref b2), (.ref b1), (.ref b1)]))
  have hp : ∀ c ∈ ([nar .char c0, nar .char c1] : List Int32), ¬ c < 0 ∧ ¬ (255 : Int32) < c := by
    intro c hc
    simp only [List.mem_cons, List.not_mem_nil, or_false] at hc
    rcases hc with rfl | rfl
    · exact p_c0
    · exact p_c1
  obtain ⟨_, _, ⟨T5, L5, k5, n5⟩, -, X5, ⟨Lc5, hQ5, l5, y5, z5⟩, st5⟩ := X4.specialBack hx (y := (⟨"java/lang/String", "<init>", "([C)V"⟩ : MethodName)) rfl hown (mvT hZ (hw _ (List.mem_of_getElem? (i := 4) rfl))) (mvT hZ (hw _ (List.mem_of_getElem? (i := 5) rfl))) (mvT hZ (hw _ (List.mem_of_getElem? (i := 6) rfl))) (by decide) (StrChars.Road.backV (W := 1) hZ hws (kI := 4) (hw _ (List.mem_of_getElem? (i := 1) rfl)) (cs := ([nar .char c0, nar .char c1] : List Int32)) (bs := (([nar .char c0, nar .char c1] : List Int32)).map (fun c => c.toInt8.toInt32)) (n := 2) g_b1 SZ4 E_b1_4 F_b1_value_4 F_b1_coder_4 V_b2_4 (O2.ext O__4.2) P5 rfl rfl (by decide) (by decide) hp rfl (by decide) (by decide)) (g := (mkF m 72 #[.val (.int a), .val (.int b), .val (.int c_), .val (.int c0), .val (.int c1), .val (.int d0), .val (.int d1), .val (.int e0_), .val (.int e1_), .unset, .unset, .unset, .unset, .unset, .unset] [(.ref b2), (.ref b1), (.ref b1)])) rfl (by rw [hml]; rfl) (Steps.refl _) (a := b1) (argsL := [(.ref b2)]) (rest := [(.ref b1)]) (lenOf pd_19 rfl) rfl (by show 2 * 0 + _ ≤ _; exact Nat.le_of_eq rfl) (hb hby at_72) (fun _ _ => ⟨rfl, e4, (by decide : 2 + 1 ≤ _), (by decide : 6 + 2 ≤ _)⟩)
  dsimp only [Pt.U, Pt.locs, Pt.cells, Pt.slots] at X5 l5 y5 z5 st5
  subst y5 z5
  obtain ⟨rfl, Nq5, Kc5, Es5, Cs5, ta5, kb5, -, -, -, Vs5, Ks5⟩ := hQ5
  have N5 : Fr n0 L5 := by rw [l5]; exact Fr.app N4 Nq5
  refine Gl.go (fun _ k => st5.trans k) ?_
  have Zs_b1_5 : Safe Z elL s.vm T5.heap b1 := Safe.keep Kc5 (sfS Zs_b1_4 sf0) CR4.1 Zs_b1_4
  have O__5 : Old Z n0 T5.heap := O__4.keep Kc5 (allS g_b1 all0)
  have E_b1_5 : Exa Z T5.heap b1 "java/lang/String" := E_b1_4.keep Kc5
  have V_b2_5 : Arv Z T5.heap b2 cA2 .char (2 : Int32) [(.int (nar .char c0)), (.int (nar .char c1))] (.int (0 : Int32)) := V_b2_4.keep Kc5 (ninS (Ne.symm ne_b1_b2) nin0)
  have SZ5 : n0 ≤ T5.heap.size := Nat.le_trans SZ4 Kc5.1
  have K5 : Keep h0 T5.heap [] := K4.trans Kc5 (allS (Or.inr sz_b1) all0)
  have hk := Nat.le_trans hk Kc5.1
  have CR5 : CHr Z elL s.vm h0 s.vm T5.heap := CR4.trans (CHr.keep Kc5 (sfS Zs_b1_4 sf0) CR4.1)
  show Gl _ _ _ _ (T5.setTop (mkF m 75 #[.val (.int a), .val (.int b), .val (.int c_), .val (.int c0), .val (.int c1), .val (.int d0), .val (.int d1), .val (.int e0_), .val (.int e1_), .unset, .unset, .unset, .unset, .unset, .unset] [(.ref b1)]))
  have S_0 : StrAt Z T5.heap b1 ((([nar .char c0, nar .char c1] : List Int32)).map (fun c => c.toInt8.toInt32)) := ⟨Es5, Cs5, Nat.lt_of_lt_of_le (Nat.lt_succ_self 2) (by decide), ta5, kb5, Vs5, Ks5⟩
  have KBB0 : Keep T5.heap T5.heap [] := Keep.refl _ _
  refine Gl.go (fun _ k => XS.astore X5.here hx rfl (hb hby at_75) rfl rfl (l' := #[.val (.int a), .val (.int b), .val (.int c_), .val (.int c0), .val (.int c1), .val (.int d0), .val (.int d1), .val (.int e0_), .val (.int e1_), .val (.ref b1), .unset, .unset, .unset, .unset, .unset]) rfl k) ?_
  show Gl _ _ _ _ (T5.setTop (mkF m 77 #[.val (.int a), .val (.int b), .val (.int c_), .val (.int c0), .val (.int c1), .val (.int d0), .val (.int d1), .val (.int e0_), .val (.int e1_), .val (.ref b1), .unset, .unset, .unset, .unset, .unset] []))
  obtain ⟨T6, h6, X6, e6, E6, A6, D6, -, st6⟩ := newO X5 hx hZ hown (hw _ (List.mem_of_getElem? (i := 0) rfl)) (hw _ (List.mem_of_getElem? (i := 1) rfl)) (hw _ (List.mem_of_getElem? (i := 2) rfl)) rfl (g := (mkF m 77 #[.val (.int a), .val (.int b), .val (.int c_), .val (.int c0), .val (.int c1), .val (.int d0), .val (.int d1), .val (.int e0_), .val (.int e1_), .val (.ref b1), .unset, .unset, .unset, .unset, .unset] [])) rfl (hb hby at_77) (by decide) (by decide)
  obtain ⟨b6, g6⟩ : ∃ z, z = T5.heap.size := ⟨_, rfl⟩
  rw [← g6] at A6 D6 st6
  have g_b6 : n0 ≤ b6 := Nat.le_trans SZ5 (Nat.le_of_eq g6.symm)
  have sz_b6 : h0.size ≤ b6 := Nat.le_trans K5.1 (Nat.le_of_eq g6.symm)
  have szb_B0_b6 : T5.heap.size ≤ b6 := Nat.le_trans KBB0.1 (Nat.le_of_eq g6.symm)
  have Zs_b6 : Safe Z elL s.vm h6 b6 := Safe.ext E6 CR5.1 (Safe.new (Nat.le_of_eq g6.symm))
  have O__6 : Old Z n0 h6 := O__5.ext E6
  have SZ6 : n0 ≤ h6.size := Nat.le_trans SZ5 E6.1
  have K6 : Keep h0 h6 [] := K5.ext E6
  have KBB0_6 : Keep T5.heap h6 [] := KBB0.ext E6
  have hk := Nat.le_trans hk E6.1
  have CR6 : CHr Z elL s.vm h0 s.vm h6 := CR5.trans (CHr.ext E6 CR5.1)
  have F_b6_coder_6 : Fld Z h6 b6 "java/lang/String" "coder" "B" (.int (0 : Int32)) := D6 (Or.inr (hw _ (List.mem_of_getElem? (i := 27) rfl))) (ty := .byte) (by decide)
  have F_b6_value_6 : Fld Z h6 b6 "java/lang/String" "value" "[B" .null := D6 (Or.inr (hw _ (List.mem_of_getElem? (i := 29) rfl))) (ty := (.array .byte)) (by decide)
  refine Gl.go (fun _ k => st6 _ k) ?_
  show Gl _ _ _ _ (T6.setTop (mkF m 80 #[.val (.int a), .val (.int b), .val (.int c_), .val (.int c0), .val (.int c1), .val (.int d0), .val (.int d1), .val (.int e0_), .val (.int e1_), .val (.ref b1), .unset, .unset, .unset, .unset, .unset] [(.ref b6)]))
  refine Gl.go (fun _ k => XS.dup X6.here hx rfl (hb hby at_80) rfl rfl k) ?_
  show Gl _ _ _ _ (T6.setTop (mkF m 81 #[.val (.int a), .val (.int b), .val (.int c_), .val (.int c0), .val (.int c1), .val (.int d0), .val (.int d1), .val (.int e0_), .val (.int e1_), .val (.ref b1), .unset, .unset, .unset, .unset, .unset] [(.ref b6), (.ref b6)]))
  refine Gl.go (fun _ k => XS.iconst X6.here hx rfl (hb hby at_81) k) ?_
  show Gl _ _ _ _ (T6.setTop (mkF m 82 #[.val (.int a), .val (.int b), .val (.int c_), .val (.int c0), .val (.int c1), .val (.int d0), .val (.int d1), .val (.int e0_), .val (.int e1_), .val (.ref b1), .unset, .unset, .unset, .unset, .unset] [(.int (2 : Int32)), (.ref b6), (.ref b6)]))
  obtain ⟨T7, h7, cA7, X7, e7, E7, A7, st7⟩ := newP X6 hx hZ (hw _ (List.mem_of_getElem? (i := 3) rfl)) e6 (g := (mkF m 82 #[.val (.int a), .val (.int b), .val (.int c_), .val (.int c0), .val (.int c1), .val (.int d0), .val (.int d1), .val (.int e0_), .val (.int e1_), .val (.ref b1), .unset, .unset, .unset, .unset, .unset] [(.int (2 : Int32)), (.ref b6), (.ref b6)])) rfl (hb hby at_82) rfl (by decide) (cap := 2) (by decide) (by decide) (by decide) (by decide)
  obtain ⟨b7, g7⟩ : ∃ z, z = h6.size := ⟨_, rfl⟩
  rw [← g7] at A7 st7
  have g_b7 : n0 ≤ b7 := Nat.le_trans SZ6 (Nat.le_of_eq g7.symm)
  have sz_b7 : h0.size ≤ b7 := Nat.le_trans K6.1 (Nat.le_of_eq g7.symm)
  have szb_B0_b7 : T5.heap.size ≤ b7 := Nat.le_trans KBB0_6.1 (Nat.le_of_eq g7.symm)
  have ne_b6_b7 : b6 ≠ b7 := Nat.ne_of_lt (Nat.lt_of_lt_of_le A6.lt (Nat.le_of_eq g7.symm))
  have Zs_b6_7 : Safe Z elL s.vm h7 b6 := Safe.ext E7 CR6.1 Zs_b6
  have O__7 : Old Z n0 h7 := O__6.ext E7
  have E_b6_7 : Exa Z h7 b6 "java/lang/String" := A6.ext E7
  have F_b6_coder_7 : Fld Z h7 b6 "java/lang/String" "coder" "B" (.int (0 : Int32)) := F_b6_coder_6.ext E7
  have F_b6_value_7 : Fld Z h7 b6 "java/lang/String" "value" "[B" .null := F_b6_value_6.ext E7
  have SZ7 : n0 ≤ h7.size := Nat.le_trans SZ6 E7.1
  have K7 : Keep h0 h7 [] := K6.ext E7
  have KBB0_7 : Keep T5.heap h7 [] := KBB0_6.ext E7
  have hk := Nat.le_trans hk E7.1
  have CR7 : CHr Z elL s.vm h0 s.vm h7 := CR6.trans (CHr.ext E7 CR6.1)
  have V_b7_7 : Arv Z h7 b7 cA7 .char (2 : Int32) [(.int (0 : Int32)), (.int (0 : Int32))] (.int (0 : Int32)) := (Arv.new A7 (by decide)).pad (pad_rep [] _ 2)
  refine Gl.go (fun _ k => st7 _ k) ?_
  show Gl _ _ _ _ (T7.setTop (mkF m 84 #[.val (.int a), .val (.int b), .val (.int c_), .val (.int c0), .val (.int c1), .val (.int d0), .val (.int d1), .val (.int e0_), .val (.int e1_), .val (.ref b1), .unset, .unset, .unset, .unset, .unset] [(.ref b7), (.ref b6), (.ref b6)]))
  refine Gl.go (fun _ k => XS.dup X7.here hx rfl (hb hby at_84) rfl rfl k) ?_
  show Gl _ _ _ _ (T7.setTop (mkF m 85 #[.val (.int a), .val (.int b), .val (.int c_), .val (.int c0), .val (.int c1), .val (.int d0), .val (.int d1), .val (.int e0_), .val (.int e1_), .val (.ref b1), .unset, .unset, .unset, .unset, .unset] [(.ref b7), (.ref b7), (.ref b6), (.ref b6)]))
  refine Gl.go (fun _ k => XS.iconst X7.here hx rfl (hb hby at_85) k) ?_
  show Gl _ _ _ _ (T7.setTop (mkF m 86 #[.val (.int a), .val (.int b), .val (.int c_), .val (.int c0), .val (.int c1), .val (.int d0), .val (.int d1), .val (.int e0_), .val (.int e1_), .val (.ref b1), .unset, .unset, .unset, .unset, .unset] [(.int (0 : Int32)), (.ref b7), (.ref b7), (.ref b6), (.ref b6)]))
  refine Gl.go (fun _ k => XS.iload X7.here hx rfl (hb hby at_86) rfl  k) ?_
  show Gl _ _ _ _ (T7.setTop (mkF m 88 #[.val (.int a), .val (.int b), .val (.int c_), .val (.int c0), .val (.int c1), .val (.int d0), .val (.int d1), .val (.int e0_), .val (.int e1_), .val (.ref b1), .unset, .unset, .unset, .unset, .unset] [(.int d0), (.int (0 : Int32)), (.ref b7), (.ref b7), (.ref b6), (.ref b6)]))
  obtain ⟨cl8, Ar8, qA8, SA8, NA8, HA8, GA8⟩ := id V_b7_7
  obtain ⟨T8, h8, X8, e8, W8, st8⟩ := stC X7 hx hZ e7 Ar8 (j := (0 : Int32)) (inb_of SA8 ⟨by decide, by decide⟩) (g := (mkF m 88 #[.val (.int a), .val (.int b), .val (.int c_), .val (.int c0), .val (.int c1), .val (.int d0), .val (.int d1), .val (.int e0_), .val (.int e1_), .val (.ref b1), .unset, .unset, .unset, .unset, .unset] [(.int d0), (.int (0 : Int32)), (.ref b7), (.ref b7), (.ref b6), (.ref b6)])) rfl rfl (hb hby at_88)
  have Zs_b6_8 : Safe Z elL s.vm h8 b6 := Safe.wr W8 (Safe.arv hZ.alike V_b7_7 (by decide)) CR7.1 Zs_b6_7
  have O__8 : Old Z n0 h8 := O__7.wr W8 g_b7
  have E_b6_8 : Exa Z h8 b6 "java/lang/String" := E_b6_7.wr W8
  have F_b6_coder_8 : Fld Z h8 b6 "java/lang/String" "coder" "B" (.int (0 : Int32)) := F_b6_coder_7.other W8 (Or.inl ne_b6_b7)
  have F_b6_value_8 : Fld Z h8 b6 "java/lang/String" "value" "[B" .null := F_b6_value_7.other W8 (Or.inl ne_b6_b7)
  have SZ8 : n0 ≤ h8.size := by rw [Wr.size W8]; exact SZ7
  have K8 : Keep h0 h8 [] := K7.wr W8 (Or.inr sz_b7)
  have N8 := Fr.snoc X8 N5 g_b7
  have KBB0_8 : Keep T5.heap h8 [] := KBB0_7.wr W8 (Or.inr szb_B0_b7)
  have hk := Nat.le_trans hk (Nat.le_of_eq (Wr.size W8).symm)
  have CR8 : CHr Z elL s.vm h0 s.vm h8 := CR7.trans (CHr.wr W8 (Safe.arv hZ.alike V_b7_7 (by decide)) CR7.1)
  have V_b7_8 : Arv Z h8 b7 cA7 .char (2 : Int32) [(.int (nar .char d0)), (.int (0 : Int32))] (.int (0 : Int32)) := Arv.set Ar8 qA8 SA8 NA8 HA8 GA8 (fits_nar_char _) W8 0 rfl (Nat.le_of_ble_eq_true rfl)
  refine Gl.go (fun _ k => st8 _ k) ?_
  show Gl _ _ _ _ (T8.setTop (mkF m 89 #[.val (.int a), .val (.int b), .val (.int c_), .val (.int c0), .val (.int c1), .val (.int d0), .val (.int d1), .val (.int e0_), .val (.int e1_), .val (.ref b1), .unset, .unset, .unset, .unset, .unset] [(.ref b7), (.ref b6), (.ref b6)]))
  refine Gl.go (fun _ k => XS.dup X8.here hx rfl (hb hby at_89) rfl rfl k) ?_
  show Gl _ _ _ _ (T8.setTop (mkF m 90 #[.val (.int a), .val (.int b), .val (.int c_), .val (.int c0), .val (.int c1), .val (.int d0), .val (.int d1), .val (.int e0_), .val (.int e1_), .val (.ref b1), .unset, .unset, .unset, .unset, .unset] [(.ref b7), (.ref b7), (.ref b6), (.ref b6)]))
  refine Gl.go (fun _ k => XS.iconst X8.here hx rfl (hb hby at_90) k) ?_
  show Gl _ _ _ _ (T8.setTop (mkF m 91 #[.val (.int a), .val (.int b), .val (.int c_), .val (.int c0), .val (.int c1), .val (.int d0), .val (.int d1), .val (.int e0_), .val (.int e1_), .val (.ref b1), .unset, .unset, .unset, .unset, .unset] [(.int (1 : Int32)), (.ref b7), (.ref b7), (.ref b6), (.ref b6)]))
  refine Gl.go (fun _ k => XS.iload X8.here hx rfl (hb hby at_91) rfl  k) ?_
  show Gl _ _ _ _ (T8.setTop (mkF m 93 #[.val (.int a), .val (.int b), .val (.int c_), .val (.int c0), .val (.int c1), .val (.int d0), .val (.int d1), .val (.int e0_), .val (.int e1_), .val (.ref b1), .unset, .unset, .unset, .unset, .unset] [(.int d1), (.int (1 : Int32)), (.ref b7), (.ref b7), (.ref b6), (.ref b6)]))
  obtain ⟨cl9, Ar9, qA9, SA9, NA9, HA9, GA9⟩ := id V_b7_8
  obtain ⟨T9, h9, X9, e9, W9, st9⟩ := stC X8 hx hZ e8 Ar9 (j := (1 : Int32)) (inb_of SA9 ⟨by decide, by decide⟩) (g := (mkF m 93 #[.val (.int a), .val (.int b), .val (.int c_), .val (.int c0), .val (.int c1), .val (.int d0), .val (.int d1), .val (.int e0_), .val (.int e1_), .val (.ref b1), .unset, .unset, .unset, .unset, .unset] [(.int d1), (.int (1 : Int32)), (.ref b7), (.ref b7), (.ref b6), (.ref b6)])) rfl rfl (hb hby at_93)
  have Zs_b6_9 : Safe Z elL s.vm h9 b6 := Safe.wr W9 (Safe.arv hZ.alike V_b7_8 (by decide)) CR8.1 Zs_b6_8
  have O__9 : Old Z n0 h9 := O__8.wr W9 g_b7
  have E_b6_9 : Exa Z h9 b6 "java/lang/String" := E_b6_8.wr W9
  have F_b6_coder_9 : Fld Z h9 b6 "java/lang/String" "coder" "B" (.int (0 : Int32)) := F_b6_coder_8.other W9 (Or.inl ne_b6_b7)
  have F_b6_value_9 : Fld Z h9 b6 "java/lang/String" "value" "[B" .null := F_b6_value_8.other W9 (Or.inl ne_b6_b7)
  have SZ9 : n0 ≤ h9.size := by rw [Wr.size W9]; exact SZ8
  have K9 : Keep h0 h9 [] := K8.wr W9 (Or.inr sz_b7)
  have N9 := Fr.snoc X9 N8 g_b7
  have KBB0_9 : Keep T5.heap h9 [] := KBB0_8.wr W9 (Or.inr szb_B0_b7)
  have hk := Nat.le_trans hk (Nat.le_of_eq (Wr.size W9).symm)
  have CR9 : CHr Z elL s.vm h0 s.vm h9 := CR8.trans (CHr.wr W9 (Safe.arv hZ.alike V_b7_8 (by decide)) CR8.1)
  have V_b7_9 : Arv Z h9 b7 cA7 .char (2 : Int32) [(.int (nar .char d0)), (.int (nar .char d1))] (.int (0 : Int32)) := Arv.set Ar9 qA9 SA9 NA9 HA9 GA9 (fits_nar_char _) W9 1 rfl (Nat.le_of_ble_eq_true rfl)
  refine Gl.go (fun _ k => st9 _ k) ?_
  show Gl _ _ _ _ (T9.setTop (mkF m 94 #[.val (.int a), .val (.int b), .val (.int c_), .val (.int c0), .val (.int c1), .val (.int d0), .val (.int d1), .val (.int e0_), .val (.int e1_), .val (.ref b1), .unset, .unset, .unset, .unset, .unset] [(.ref b7), (.ref b6), (.ref b6)]))
  have hp : ∀ c ∈ ([nar .char d0, nar .char d1] : List Int32), ¬ c < 0 ∧ ¬ (255 : Int32) < c := by
    intro c hc
    simp only [List.mem_cons, List.not_mem_nil, or_false] at hc
    rcases hc with rfl | rfl
    · exact p_d0
    · exact p_d1
  obtain ⟨_, _, ⟨T10, L10, k10, n10⟩, -, X10, ⟨Lc10, hQ10, l10, y10, z10⟩, st10⟩ := X9.specialBack hx (y := (⟨"java/lang/String", "<init>", "([C)V"⟩ : MethodName)) rfl hown (mvT hZ (hw _ (List.mem_of_getElem? (i := 4) rfl))) (mvT hZ (hw _ (List.mem_of_getElem? (i := 5) rfl))) (mvT hZ (hw _ (List.mem_of_getElem? (i := 6) rfl))) (by decide) (StrChars.Road.backV (W := 1) hZ hws (kI := 4) (hw _ (List.mem_of_getElem? (i := 1) rfl)) (cs := ([nar .char d0, nar .char d1] : List Int32)) (bs := (([nar .char d0, nar .char d1] : List Int32)).map (fun c => c.toInt8.toInt32)) (n := 2) g_b6 SZ9 E_b6_9 F_b6_value_9 F_b6_coder_9 V_b7_9 (O2.ext O__9.2) P5 rfl rfl (by decide) (by decide) hp rfl (by decide) (by decide)) (g := (mkF m 94 #[.val (.int a), .val (.int b), .val (.int c_), .val (.int c0), .val (.int c1), .val (.int d0), .val (.int d1), .val (.int e0_), .val (.int e1_), .val (.ref b1), .unset, .unset, .unset, .unset, .unset] [(.ref b7), (.ref b6), (.ref b6)])) rfl (by rw [hml]; rfl) (Steps.refl _) (a := b6) (argsL := [(.ref b7)]) (rest := [(.ref b6)]) (lenOf pd_19 rfl) rfl (by show 2 * 0 + _ ≤ _; exact Nat.le_of_eq rfl) (hb hby at_94) (fun _ _ => ⟨rfl, e9, (by decide : 5 + 1 ≤ _), (by decide : 14 + 2 ≤ _)⟩)
  dsimp only [Pt.U, Pt.locs, Pt.cells, Pt.slots] at X10 l10 y10 z10 st10
  subst y10 z10
  obtain ⟨rfl, Nq10, Kc10, Es10, Cs10, ta10, kb10, -, -, -, Vs10, Ks10⟩ := hQ10
  have N10 : Fr n0 L10 := by rw [l10]; exact Fr.app N9 Nq10
  refine Gl.go (fun _ k => st10.trans k) ?_
  have Zs_b6_10 : Safe Z elL s.vm T10.heap b6 := Safe.keep Kc10 (sfS Zs_b6_9 sf0) CR9.1 Zs_b6_9
  have O__10 : Old Z n0 T10.heap := O__9.keep Kc10 (allS g_b6 all0)
  have E_b6_10 : Exa Z T10.heap b6 "java/lang/String" := E_b6_9.keep Kc10
  have V_b7_10 : Arv Z T10.heap b7 cA7 .char (2 : Int32) [(.int (nar .char d0)), (.int (nar .char d1))] (.int (0 : Int32)) := V_b7_9.keep Kc10 (ninS (Ne.symm ne_b6_b7) nin0)
  have SZ10 : n0 ≤ T10.heap.size := Nat.le_trans SZ9 Kc10.1
  have K10 : Keep h0 T10.heap [] := K9.trans Kc10 (allS (Or.inr sz_b6) all0)
  have KBB0_10 : Keep T5.heap T10.heap [] := KBB0_9.trans Kc10 (allS (Or.inr szb_B0_b6) all0)
  have hk := Nat.le_trans hk Kc10.1
  have CR10 : CHr Z elL s.vm h0 s.vm T10.heap := CR9.trans (CHr.keep Kc10 (sfS Zs_b6_9 sf0) CR9.1)
  show Gl _ _ _ _ (T10.setTop (mkF m 97 #[.val (.int a), .val (.int b), .val (.int c_), .val (.int c0), .val (.int c1), .val (.int d0), .val (.int d1), .val (.int e0_), .val (.int e1_), .val (.ref b1), .unset, .unset, .unset, .unset, .unset] [(.ref b6)]))
  have S_1 : StrAt Z T10.heap b6 ((([nar .char d0, nar .char d1] : List Int32)).map (fun c => c.toInt8.toInt32)) := ⟨Es10, Cs10, Nat.lt_of_lt_of_le (Nat.lt_succ_self 2) (by decide), ta10, kb10, Vs10, Ks10⟩
  have KBB1 : Keep T10.heap T10.heap [] := Keep.refl _ _
  refine Gl.go (fun _ k => XS.astore X10.here hx rfl (hb hby at_97) rfl rfl (l' := #[.val (.int a), .val (.int b), .val (.int c_), .val (.int c0), .val (.int c1), .val (.int d0), .val (.int d1), .val (.int e0_), .val (.int e1_), .val (.ref b1), .val (.ref b6), .unset, .unset, .unset, .unset]) rfl k) ?_
  show Gl _ _ _ _ (T10.setTop (mkF m 99 #[.val (.int a), .val (.int b), .val (.int c_), .val (.int c0), .val (.int c1), .val (.int d0), .val (.int d1), .val (.int e0_), .val (.int e1_), .val (.ref b1), .val (.ref b6), .unset, .unset, .unset, .unset] []))
  obtain ⟨T11, h11, X11, e11, E11, A11, D11, -, st11⟩ := newO X10 hx hZ hown (hw _ (List.mem_of_getElem? (i := 0) rfl)) (hw _ (List.mem_of_getElem? (i := 1) rfl)) (hw _ (List.mem_of_getElem? (i := 2) rfl)) rfl (g := (mkF m 99 #[.val (.int a), .val (.int b), .val (.int c_), .val (.int c0), .val (.int c1), .val (.int d0), .val (.int d1), .val (.int e0_), .val (.int e1_), .val (.ref b1), .val (.ref b6), .unset, .unset, .unset, .unset] [])) rfl (hb hby at_99) (by decide) (by decide)
  obtain ⟨b11, g11⟩ : ∃ z, z = T10.heap.size := ⟨_, rfl⟩
  rw [← g11] at A11 D11 st11
  have g_b11 : n0 ≤ b11 := Nat.le_trans SZ10 (Nat.le_of_eq g11.symm)
  have sz_b11 : h0.size ≤ b11 := Nat.le_trans K10.1 (Nat.le_of_eq g11.symm)
  have szb_B0_b11 : T5.heap.size ≤ b11 := Nat.le_trans KBB0_10.1 (Nat.le_of_eq g11.symm)
  have szb_B1_b11 : T10.heap.size ≤ b11 := Nat.le_trans KBB1.1 (Nat.le_of_eq g11.symm)
  have Zs_b11 : Safe Z elL s.vm h11 b11 := Safe.ext E11 CR10.1 (Safe.new (Nat.le_of_eq g11.symm))
  have O__11 : Old Z n0 h11 := O__10.ext E11
  have SZ11 : n0 ≤ h11.size := Nat.le_trans SZ10 E11.1
  have K11 : Keep h0 h11 [] := K10.ext E11
  have KBB0_11 : Keep T5.heap h11 [] := KBB0_10.ext E11
  have KBB1_11 : Keep T10.heap h11 [] := KBB1.ext E11
  have hk := Nat.le_trans hk E11.1
  have CR11 : CHr Z elL s.vm h0 s.vm h11 := CR10.trans (CHr.ext E11 CR10.1)
  have F_b11_coder_11 : Fld Z h11 b11 "java/lang/String" "coder" "B" (.int (0 : Int32)) := D11 (Or.inr (hw _ (List.mem_of_getElem? (i := 27) rfl))) (ty := .byte) (by decide)
  have F_b11_value_11 : Fld Z h11 b11 "java/lang/String" "value" "[B" .null := D11 (Or.inr (hw _ (List.mem_of_getElem? (i := 29) rfl))) (ty := (.array .byte)) (by decide)
  refine Gl.go (fun _ k => st11 _ k) ?_
  show Gl _ _ _ _ (T11.setTop (mkF m 102 #[.val (.int a), .val (.int b), .val (.int c_), .val (.int c0), .val (.int c1), .val (.int d0), .val (.int d1), .val (.int e0_), .val (.int e1_), .val (.ref b1), .val (.ref b6), .unset, .unset, .unset, .unset] [(.ref b11)]))
  refine Gl.go (fun _ k => XS.dup X11.here hx rfl (hb hby at_102) rfl rfl k) ?_
  show Gl _ _ _ _ (T11.setTop (mkF m 103 #[.val (.int a), .val (.int b), .val (.int c_), .val (.int c0), .val (.int c1), .val (.int d0), .val (.int d1), .val (.int e0_), .val (.int e1_), .val (.ref b1), .val (.ref b6), .unset, .unset, .unset, .unset] [(.ref b11), (.ref b11)]))
  refine Gl.go (fun _ k => XS.iconst X11.here hx rfl (hb hby at_103) k) ?_
  show Gl _ _ _ _ (T11.setTop (mkF m 104 #[.val (.int a), .val (.int b), .val (.int c_), .val (.int c0), .val (.int c1), .val (.int d0), .val (.int d1), .val (.int e0_), .val (.int e1_), .val (.ref b1), .val (.ref b6), .unset, .unset, .unset, .unset] [(.int (2 : Int32)), (.ref b11), (.ref b11)]))
  obtain ⟨T12, h12, cA12, X12, e12, E12, A12, st12⟩ := newP X11 hx hZ (hw _ (List.mem_of_getElem? (i := 3) rfl)) e11 (g := (mkF m 104 #[.val (.int a), .val (.int b), .val (.int c_), .val (.int c0), .val (.int c1), .val (.int d0), .val (.int d1), .val (.int e0_), .val (.int e1_), .val (.ref b1), .val (.ref b6), .unset, .unset, .unset, .unset] [(.int (2 : Int32)), (.ref b11), (.ref b11)])) rfl (hb hby at_104) rfl (by decide) (cap := 2) (by decide) (by decide) (by decide) (by decide)
  obtain ⟨b12, g12⟩ : ∃ z, z = h11.size := ⟨_, rfl⟩
  rw [← g12] at A12 st12
  have g_b12 : n0 ≤ b12 := Nat.le_trans SZ11 (Nat.le_of_eq g12.symm)
  have sz_b12 : h0.size ≤ b12 := Nat.le_trans K11.1 (Nat.le_of_eq g12.symm)
  have szb_B0_b12 : T5.heap.size ≤ b12 := Nat.le_trans KBB0_11.1 (Nat.le_of_eq g12.symm)
  have szb_B1_b12 : T10.heap.size ≤ b12 := Nat.le_trans KBB1_11.1 (Nat.le_of_eq g12.symm)
  have ne_b11_b12 : b11 ≠ b12 := Nat.ne_of_lt (Nat.lt_of_lt_of_le A11.lt (Nat.le_of_eq g12.symm))
  have Zs_b11_12 : Safe Z elL s.vm h12 b11 := Safe.ext E12 CR11.1 Zs_b11
  have O__12 : Old Z n0 h12 := O__11.ext E12
  have E_b11_12 : Exa Z h12 b11 "java/lang/String" := A11.ext E12
  have F_b11_coder_12 : Fld Z h12 b11 "java/lang/String" "coder" "B" (.int (0 : Int32)) := F_b11_coder_11.ext E12
  have F_b11_value_12 : Fld Z h12 b11 "java/lang/String" "value" "[B" .null := F_b11_value_11.ext E12
  have SZ12 : n0 ≤ h12.size := Nat.le_trans SZ11 E12.1
  have K12 : Keep h0 h12 [] := K11.ext E12
  have KBB0_12 : Keep T5.heap h12 [] := KBB0_11.ext E12
  have KBB1_12 : Keep T10.heap h12 [] := KBB1_11.ext E12
  have hk := Nat.le_trans hk E12.1
  have CR12 : CHr Z elL s.vm h0 s.vm h12 := CR11.trans (CHr.ext E12 CR11.1)
  have V_b12_12 : Arv Z h12 b12 cA12 .char (2 : Int32) [(.int (0 : Int32)), (.int (0 : Int32))] (.int (0 : Int32)) := (Arv.new A12 (by decide)).pad (pad_rep [] _ 2)
  refine Gl.go (fun _ k => st12 _ k) ?_
  show Gl _ _ _ _ (T12.setTop (mkF m 106 #[.val (.int a), .val (.int b), .val (.int c_), .val (.int c0), .val (.int c1), .val (.int d0), .val (.int d1), .val (.int e0_), .val (.int e1_), .val (.ref b1), .val (.ref b6), .unset, .unset, .unset, .unset] [(.ref b12), (.ref b11), (.ref b11)]))
  refine Gl.go (fun _ k => XS.dup X12.here hx rfl (hb hby at_106) rfl rfl k) ?_
  show Gl _ _ _ _ (T12.setTop (mkF m 107 #[.val (.int a), .val (.int b), .val (.int c_), .val (.int c0), .val (.int c1), .val (.int d0), .val (.int d1), .val (.int e0_), .val (.int e1_), .val (.ref b1), .val (.ref b6), .unset, .unset, .unset, .unset] [(.ref b12), (.ref b12), (.ref b11), (.ref b11)]))
  refine Gl.go (fun _ k => XS.iconst X12.here hx rfl (hb hby at_107) k) ?_
  show Gl _ _ _ _ (T12.setTop (mkF m 108 #[.val (.int a), .val (.int b), .val (.int c_), .val (.int c0), .val (.int c1), .val (.int d0), .val (.int d1), .val (.int e0_), .val (.int e1_), .val (.ref b1), .val (.ref b6), .unset, .unset, .unset, .unset] [(.int (0 : Int32)), (.ref b12), (.ref b12), (.ref b11), (.ref b11)]))
  refine Gl.go (fun _ k => XS.iload X12.here hx rfl (hb hby at_108) rfl  k) ?_
  show Gl _ _ _ _ (T12.setTop (mkF m 110 #[.val (.int a), .val (.int b), .val (.int c_), .val (.int c0), .val (.int c1), .val (.int d0), .val (.int d1), .val (.int e0_), .val (.int e1_), .val (.ref b1), .val (.ref b6), .unset, .unset, .unset, .unset] [(.int e0_), (.int (0 : Int32)), (.ref b12), (.ref b12), (.ref b11), (.ref b11)]))
  obtain ⟨cl13, Ar13, qA13, SA13, NA13, HA13, GA13⟩ := id V_b12_12
  obtain ⟨T13, h13, X13, e13, W13, st13⟩ := stC X12 hx hZ e12 Ar13 (j := (0 : Int32)) (inb_of SA13 ⟨by decide, by decide⟩) (g := (mkF m 110 #[.val (.int a), .val (.int b), .val (.int c_), .val (.int c0), .val (.int c1), .val (.int d0), .val (.int d1), .val (.int e0_), .val (.int e1_), .val (.ref b1), .val (.ref b6), .unset, .unset, .unset, .unset] [(.int e0_), (.int (0 : Int32)), (.ref b12), (.ref b12), (.ref b11), (.ref b11)])) rfl rfl (hb hby at_110)
  have Zs_b11_13 : Safe Z elL s.vm h13 b11 := Safe.wr W13 (Safe.arv hZ.alike V_b12_12 (by decide)) CR12.1 Zs_b11_12
  have O__13 : Old Z n0 h13 := O__12.wr W13 g_b12
  have E_b11_13 : Exa Z h13 b11 "java/lang/String" := E_b11_12.wr W13
  have F_b11_coder_13 : Fld Z h13 b11 "java/lang/String" "coder" "B" (.int (0 : Int32)) := F_b11_coder_12.other W13 (Or.inl ne_b11_b12)
  have F_b11_value_13 : Fld Z h13 b11 "java/lang/String" "value" "[B" .null := F_b11_value_12.other W13 (Or.inl ne_b11_b12)
  have SZ13 : n0 ≤ h13.size := by rw [Wr.size W13]; exact SZ12
  have K13 : Keep h0 h13 [] := K12.wr W13 (Or.inr sz_b12)
  have N13 := Fr.snoc X13 N10 g_b12
  have KBB0_13 : Keep T5.heap h13 [] := KBB0_12.wr W13 (Or.inr szb_B0_b12)
  have KBB1_13 : Keep T10.heap h13 [] := KBB1_12.wr W13 (Or.inr szb_B1_b12)
  have hk := Nat.le_trans hk (Nat.le_of_eq (Wr.size W13).symm)
  have CR13 : CHr Z elL s.vm h0 s.vm h13 := CR12.trans (CHr.wr W13 (Safe.arv hZ.alike V_b12_12 (by decide)) CR12.1)
  have V_b12_13 : Arv Z h13 b12 cA12 .char (2 : Int32) [(.int (nar .char e0_)), (.int (0 : Int32))] (.int (0 : Int32)) := Arv.set Ar13 qA13 SA13 NA13 HA13 GA13 (fits_nar_char _) W13 0 rfl (Nat.le_of_ble_eq_true rfl)
  refine Gl.go (fun _ k => st13 _ k) ?_
  show Gl _ _ _ _ (T13.setTop (mkF m 111 #[.val (.int a), .val (.int b), .val (.int c_), .val (.int c0), .val (.int c1), .val (.int d0), .val (.int d1), .val (.int e0_), .val (.int e1_), .val (.ref b1), .val (.ref b6), .unset, .unset, .unset, .unset] [(.ref b12), (.ref b11), (.ref b11)]))
  refine Gl.go (fun _ k => XS.dup X13.here hx rfl (hb hby at_111) rfl rfl k) ?_
  show Gl _ _ _ _ (T13.setTop (mkF m 112 #[.val (.int a), .val (.int b), .val (.int c_), .val (.int c0), .val (.int c1), .val (.int d0), .val (.int d1), .val (.int e0_), .val (.int e1_), .val (.ref b1), .val (.ref b6), .unset, .unset, .unset, .unset] [(.ref b12), (.ref b12), (.ref b11), (.ref b11)]))
  refine Gl.go (fun _ k => XS.iconst X13.here hx rfl (hb hby at_112) k) ?_
  show Gl _ _ _ _ (T13.setTop (mkF m 113 #[.val (.int a), .val (.int b), .val (.int c_), .val (.int c0), .val (.int c1), .val (.int d0), .val (.int d1), .val (.int e0_), .val (.int e1_), .val (.ref b1), .val (.ref b6), .unset, .unset, .unset, .unset] [(.int (1 : Int32)), (.ref b12), (.ref b12), (.ref b11), (.ref b11)]))
  refine Gl.go (fun _ k => XS.iload X13.here hx rfl (hb hby at_113) rfl  k) ?_
  show Gl _ _ _ _ (T13.setTop (mkF m 115 #[.val (.int a), .val (.int b), .val (.int c_), .val (.int c0), .val (.int c1), .val (.int d0), .val (.int d1), .val (.int e0_), .val (.int e1_), .val (.ref b1), .val (.ref b6), .unset, .unset, .unset, .unset] [(.int e1_), (.int (1 : Int32)), (.ref b12), (.ref b12), (.ref b11), (.ref b11)]))
  obtain ⟨cl14, Ar14, qA14, SA14, NA14, HA14, GA14⟩ := id V_b12_13
  obtain ⟨T14, h14, X14, e14, W14, st14⟩ := stC X13 hx hZ e13 Ar14 (j := (1 : Int32)) (inb_of SA14 ⟨by decide, by decide⟩) (g := (mkF m 115 #[.val (.int a), .val (.int b), .val (.int c_), .val (.int c0), .val (.int c1), .val (.int d0), .val (.int d1), .val (.int e0_), .val (.int e1_), .val (.ref b1), .val (.ref b6), .unset, .unset, .unset, .unset] [(.int e1_), (.int (1 : Int32)), (.ref b12), (.ref b12), (.ref b11), (.ref b11)])) rfl rfl (hb hby at_115)
  have Zs_b11_14 : Safe Z elL s.vm h14 b11 := Safe.wr W14 (Safe.arv hZ.alike V_b12_13 (by decide)) CR13.1 Zs_b11_13
  have O__14 : Old Z n0 h14 := O__13.wr W14 g_b12
  have E_b11_14 : Exa Z h14 b11 "java/lang/String" := E_b11_13.wr W14
  have F_b11_coder_14 : Fld Z h14 b11 "java/lang/String" "coder" "B" (.int (0 : Int32)) := F_b11_coder_13.other W14 (Or.inl ne_b11_b12)
  have F_b11_value_14 : Fld Z h14 b11 "java/lang/String" "value" "[B" .null := F_b11_value_13.other W14 (Or.inl ne_b11_b12)
  have SZ14 : n0 ≤ h14.size := by rw [Wr.size W14]; exact SZ13
  have K14 : Keep h0 h14 [] := K13.wr W14 (Or.inr sz_b12)
  have N14 := Fr.snoc X14 N13 g_b12
  have KBB0_14 : Keep T5.heap h14 [] := KBB0_13.wr W14 (Or.inr szb_B0_b12)
  have KBB1_14 : Keep T10.heap h14 [] := KBB1_13.wr W14 (Or.inr szb_B1_b12)
  have hk := Nat.le_trans hk (Nat.le_of_eq (Wr.size W14).symm)
  have CR14 : CHr Z elL s.vm h0 s.vm h14 := CR13.trans (CHr.wr W14 (Safe.arv hZ.alike V_b12_13 (by decide)) CR13.1)
  have V_b12_14 : Arv Z h14 b12 cA12 .char (2 : Int32) [(.int (nar .char e0_)), (.int (nar .char e1_))] (.int (0 : Int32)) := Arv.set Ar14 qA14 SA14 NA14 HA14 GA14 (fits_nar_char _) W14 1 rfl (Nat.le_of_ble_eq_true rfl)
  refine Gl.go (fun _ k => st14 _ k) ?_
  show Gl _ _ _ _ (T14.setTop (mkF m 116 #[.val (.int a), .val (.int b), .val (.int c_), .val (.int c0), .val (.int c1), .val (.int d0), .val (.int d1), .val (.int e0_), .val (.int e1_), .val (.ref b1), .val (.ref b6), .unset, .unset, .unset, .unset] [(.ref b12), (.ref b11), (.ref b11)]))
  have hp : ∀ c ∈ ([nar .char e0_, nar .char e1_] : List Int32), ¬ c < 0 ∧ ¬ (255 : Int32) < c := by
    intro c hc
    simp only [List.mem_cons, List.not_mem_nil, or_false] at hc
    rcases hc with rfl | rfl
    · exact p_e0_
    · exact p_e1_
  obtain ⟨_, _, ⟨T15, L15, k15, n15⟩, -, X15, ⟨Lc15, hQ15, l15, y15, z15⟩, st15⟩ := X14.specialBack hx (y := (⟨"java/lang/String", "<init>", "([C)V"⟩ : MethodName)) rfl hown (mvT hZ (hw _ (List.mem_of_getElem? (i := 4) rfl))) (mvT hZ (hw _ (List.mem_of_getElem? (i := 5) rfl))) (mvT hZ (hw _ (List.mem_of_getElem? (i := 6) rfl))) (by decide) (StrChars.Road.backV (W := 1) hZ hws (kI := 4) (hw _ (List.mem_of_getElem? (i := 1) rfl)) (cs := ([nar .char e0_, nar .char e1_] : List Int32)) (bs := (([nar .char e0_, nar .char e1_] : List Int32)).map (fun c => c.toInt8.toInt32)) (n := 2) g_b11 SZ14 E_b11_14 F_b11_value_14 F_b11_coder_14 V_b12_14 (O2.ext O__14.2) P5 rfl rfl (by decide) (by decide) hp rfl (by decide) (by decide)) (g := (mkF m 116 #[.val (.int a), .val (.int b), .val (.int c_), .val (.int c0), .val (.int c1), .val (.int d0), .val (.int d1), .val (.int e0_), .val (.int e1_), .val (.ref b1), .val (.ref b6), .unset, .unset, .unset, .unset] [(.ref b12), (.ref b11), (.ref b11)])) rfl (by rw [hml]; rfl) (Steps.refl _) (a := b11) (argsL := [(.ref b12)]) (rest := [(.ref b11)]) (lenOf pd_19 rfl) rfl (by show 2 * 0 + _ ≤ _; exact Nat.le_of_eq rfl) (hb hby at_116) (fun _ _ => ⟨rfl, e14, (by decide : 8 + 1 ≤ _), (by decide : 22 + 2 ≤ _)⟩)
  dsimp only [Pt.U, Pt.locs, Pt.cells, Pt.slots] at X15 l15 y15 z15 st15
  subst y15 z15
  obtain ⟨rfl, Nq15, Kc15, Es15, Cs15, ta15, kb15, -, -, -, Vs15, Ks15⟩ := hQ15
  have N15 : Fr n0 L15 := by rw [l15]; exact Fr.app N14 Nq15
  refine Gl.go (fun _ k => st15.trans k) ?_
  have Zs_b11_15 : Safe Z elL s.vm T15.heap b11 := Safe.keep Kc15 (sfS Zs_b11_14 sf0) CR14.1 Zs_b11_14
  have O__15 : Old Z n0 T15.heap := O__14.keep Kc15 (allS g_b11 all0)
  have E_b11_15 : Exa Z T15.heap b11 "java/lang/String" := E_b11_14.keep Kc15
  have V_b12_15 : Arv Z T15.heap b12 cA12 .char (2 : Int32) [(.int (nar .char e0_)), (.int (nar .char e1_))] (.int (0 : Int32)) := V_b12_14.keep Kc15 (ninS (Ne.symm ne_b11_b12) nin0)
  have SZ15 : n0 ≤ T15.heap.size := Nat.le_trans SZ14 Kc15.1
  have K15 : Keep h0 T15.heap [] := K14.trans Kc15 (allS (Or.inr sz_b11) all0)
  have KBB0_15 : Keep T5.heap T15.heap [] := KBB0_14.trans Kc15 (allS (Or.inr szb_B0_b11) all0)
  have KBB1_15 : Keep T10.heap T15.heap [] := KBB1_14.trans Kc15 (allS (Or.inr szb_B1_b11) all0)
  have hk := Nat.le_trans hk Kc15.1
  have CR15 : CHr Z elL s.vm h0 s.vm T15.heap := CR14.trans (CHr.keep Kc15 (sfS Zs_b11_14 sf0) CR14.1)
  show Gl _ _ _ _ (T15.setTop (mkF m 119 #[.val (.int a), .val (.int b), .val (.int c_), .val (.int c0), .val (.int c1), .val (.int d0), .val (.int d1), .val (.int e0_), .val (.int e1_), .val (.ref b1), .val (.ref b6), .unset, .unset, .unset, .unset] [(.ref b11)]))
  have S_2 : StrAt Z T15.heap b11 ((([nar .char e0_, nar .char e1_] : List Int32)).map (fun c => c.toInt8.toInt32)) := ⟨Es15, Cs15, Nat.lt_of_lt_of_le (Nat.lt_succ_self 2) (by decide), ta15, kb15, Vs15, Ks15⟩
  have KBB2 : Keep T15.heap T15.heap [] := Keep.refl _ _
  refine Gl.go (fun _ k => XS.astore X15.here hx rfl (hb hby at_119) rfl rfl (l' := #[.val (.int a), .val (.int b), .val (.int c_), .val (.int c0), .val (.int c1), .val (.int d0), .val (.int d1), .val (.int e0_), .val (.int e1_), .val (.ref b1), .val (.ref b6), .val (.ref b11), .unset, .unset, .unset]) rfl k) ?_
  show Gl _ _ _ _ (T15.setTop (mkF m 121 #[.val (.int a), .val (.int b), .val (.int c_), .val (.int c0), .val (.int c1), .val (.int d0), .val (.int d1), .val (.int e0_), .val (.int e1_), .val (.ref b1), .val (.ref b6), .val (.ref b11), .unset, .unset, .unset] []))
  obtain ⟨T16, h16, X16, e16, E16, A16, D16, -, st16⟩ := newO X15 hx hZ hown (hw _ (List.mem_of_getElem? (i := 0) rfl)) (hw _ (List.mem_of_getElem? (i := 1) rfl)) (hw _ (List.mem_of_getElem? (i := 2) rfl)) rfl (g := (mkF m 121 #[.val (.int a), .val (.int b), .val (.int c_), .val (.int c0), .val (.int c1), .val (.int d0), .val (.int d1), .val (.int e0_), .val (.int e1_), .val (.ref b1), .val (.ref b6), .val (.ref b11), .unset, .unset, .unset] [])) rfl (hb hby at_121) (by decide) (by decide)
  obtain ⟨b16, g16⟩ : ∃ z, z = T15.heap.size := ⟨_, rfl⟩
  rw [← g16] at A16 D16 st16
  have g_b16 : n0 ≤ b16 := Nat.le_trans SZ15 (Nat.le_of_eq g16.symm)
  have sz_b16 : h0.size ≤ b16 := Nat.le_trans K15.1 (Nat.le_of_eq g16.symm)
  have szb_B0_b16 : T5.heap.size ≤ b16 := Nat.le_trans KBB0_15.1 (Nat.le_of_eq g16.symm)
  have szb_B1_b16 : T10.heap.size ≤ b16 := Nat.le_trans KBB1_15.1 (Nat.le_of_eq g16.symm)
  have szb_B2_b16 : T15.heap.size ≤ b16 := Nat.le_trans KBB2.1 (Nat.le_of_eq g16.symm)
  have Zs_b16 : Safe Z elL s.vm h16 b16 := Safe.ext E16 CR15.1 (Safe.new (Nat.le_of_eq g16.symm))
  have O__16 : Old Z n0 h16 := O__15.ext E16
  have SZ16 : n0 ≤ h16.size := Nat.le_trans SZ15 E16.1
  have K16 : Keep h0 h16 [] := K15.ext E16
  have KBB0_16 : Keep T5.heap h16 [] := KBB0_15.ext E16
  have KBB1_16 : Keep T10.heap h16 [] := KBB1_15.ext E16
  have KBB2_16 : Keep T15.heap h16 [] := KBB2.ext E16
  have hk := Nat.le_trans hk E16.1
  have CR16 : CHr Z elL s.vm h0 s.vm h16 := CR15.trans (CHr.ext E16 CR15.1)
  have F_b16_coder_16 : Fld Z h16 b16 "java/lang/String" "coder" "B" (.int (0 : Int32)) := D16 (Or.inr (hw _ (List.mem_of_getElem? (i := 27) rfl))) (ty := .byte) (by decide)
  have F_b16_value_16 : Fld Z h16 b16 "java/lang/String" "value" "[B" .null := D16 (Or.inr (hw _ (List.mem_of_getElem? (i := 29) rfl))) (ty := (.array .byte)) (by decide)
  refine Gl.go (fun _ k => st16 _ k) ?_
  show Gl _ _ _ _ (T16.setTop (mkF m 124 #[.val (.int a), .val (.int b), .val (.int c_), .val (.int c0), .val (.int c1), .val (.int d0), .val (.int d1), .val (.int e0_), .val (.int e1_), .val (.ref b1), .val (.ref b6), .val (.ref b11), .unset, .unset, .unset] [(.ref b16)]))
  refine Gl.go (fun _ k => XS.dup X16.here hx rfl (hb hby at_124) rfl rfl k) ?_
  show Gl _ _ _ _ (T16.setTop (mkF m 125 #[.val (.int a), .val (.int b), .val (.int c_), .val (.int c0), .val (.int c1), .val (.int d0), .val (.int d1), .val (.int e0_), .val (.int e1_), .val (.ref b1), .val (.ref b6), .val (.ref b11), .unset, .unset, .unset] [(.ref b16), (.ref b16)]))
  refine Gl.go (fun _ k => XS.iconst X16.here hx rfl (hb hby at_125) k) ?_
  show Gl _ _ _ _ (T16.setTop (mkF m 126 #[.val (.int a), .val (.int b), .val (.int c_), .val (.int c0), .val (.int c1), .val (.int d0), .val (.int d1), .val (.int e0_), .val (.int e1_), .val (.ref b1), .val (.ref b6), .val (.ref b11), .unset, .unset, .unset] [(.int (5 : Int32)), (.ref b16), (.ref b16)]))
  obtain ⟨T17, h17, cA17, X17, e17, E17, A17, st17⟩ := newP X16 hx hZ (hw _ (List.mem_of_getElem? (i := 3) rfl)) e16 (g := (mkF m 126 #[.val (.int a), .val (.int b), .val (.int c_), .val (.int c0), .val (.int c1), .val (.int d0), .val (.int d1), .val (.int e0_), .val (.int e1_), .val (.ref b1), .val (.ref b6), .val (.ref b11), .unset, .unset, .unset] [(.int (5 : Int32)), (.ref b16), (.ref b16)])) rfl (hb hby at_126) rfl (by decide) (cap := 5) (by decide) (by decide) (by decide) (by decide)
  obtain ⟨b17, g17⟩ : ∃ z, z = h16.size := ⟨_, rfl⟩
  rw [← g17] at A17 st17
  have g_b17 : n0 ≤ b17 := Nat.le_trans SZ16 (Nat.le_of_eq g17.symm)
  have sz_b17 : h0.size ≤ b17 := Nat.le_trans K16.1 (Nat.le_of_eq g17.symm)
  have szb_B0_b17 : T5.heap.size ≤ b17 := Nat.le_trans KBB0_16.1 (Nat.le_of_eq g17.symm)
  have szb_B1_b17 : T10.heap.size ≤ b17 := Nat.le_trans KBB1_16.1 (Nat.le_of_eq g17.symm)
  have szb_B2_b17 : T15.heap.size ≤ b17 := Nat.le_trans KBB2_16.1 (Nat.le_of_eq g17.symm)
  have ne_b16_b17 : b16 ≠ b17 := Nat.ne_of_lt (Nat.lt_of_lt_of_le A16.lt (Nat.le_of_eq g17.symm))
  have Zs_b16_17 : Safe Z elL s.vm h17 b16 := Safe.ext E17 CR16.1 Zs_b16
  have O__17 : Old Z n0 h17 := O__16.ext E17
  have E_b16_17 : Exa Z h17 b16 "java/lang/String" := A16.ext E17
  have F_b16_coder_17 : Fld Z h17 b16 "java/lang/String" "coder" "B" (.int (0 : Int32)) := F_b16_coder_16.ext E17
  have F_b16_value_17 : Fld Z h17 b16 "java/lang/String" "value" "[B" .null := F_b16_value_16.ext E17
  have SZ17 : n0 ≤ h17.size := Nat.le_trans SZ16 E17.1
  have K17 : Keep h0 h17 [] := K16.ext E17
  have KBB0_17 : Keep T5.heap h17 [] := KBB0_16.ext E17
  have KBB1_17 : Keep T10.heap h17 [] := KBB1_16.ext E17
  have KBB2_17 : Keep T15.heap h17 [] := KBB2_16.ext E17
  have hk := Nat.le_trans hk E17.1
  have CR17 : CHr Z elL s.vm h0 s.vm h17 := CR16.trans (CHr.ext E17 CR16.1)
  have V_b17_17 : Arv Z h17 b17 cA17 .char (5 : Int32) [(.int (0 : Int32)), (.int (0 : Int32)), (.int (0 : Int32)), (.int (0 : Int32)), (.int (0 : Int32))] (.int (0 : Int32)) := (Arv.new A17 (by decide)).pad (pad_rep [] _ 5)
  refine Gl.go (fun _ k => st17 _ k) ?_
  show Gl _ _ _ _ (T17.setTop (mkF m 128 #[.val (.int a), .val (.int b), .val (.int c_), .val (.int c0), .val (.int c1), .val (.int d0), .val (.int d1), .val (.int e0_), .val (.int e1_), .val (.ref b1), .val (.ref b6), .val (.ref b11), .unset, .unset, .unset] [(.ref b17), (.ref b16), (.ref b16)]))
  refine Gl.go (fun _ k => XS.dup X17.here hx rfl (hb hby at_128) rfl rfl k) ?_
  show Gl _ _ _ _ (T17.setTop (mkF m 129 #[.val (.int a), .val (.int b), .val (.int c_), .val (.int c0), .val (.int c1), .val (.int d0), .val (.int d1), .val (.int e0_), .val (.int e1_), .val (.ref b1), .val (.ref b6), .val (.ref b11), .unset, .unset, .unset] [(.ref b17), (.ref b17), (.ref b16), (.ref b16)]))
  refine Gl.go (fun _ k => XS.iconst X17.here hx rfl (hb hby at_129) k) ?_
  show Gl _ _ _ _ (T17.setTop (mkF m 130 #[.val (.int a), .val (.int b), .val (.int c_), .val (.int c0), .val (.int c1), .val (.int d0), .val (.int d1), .val (.int e0_), .val (.int e1_), .val (.ref b1), .val (.ref b6), .val (.ref b11), .unset, .unset, .unset] [(.int (0 : Int32)), (.ref b17), (.ref b17), (.ref b16), (.ref b16)]))
  refine Gl.go (fun _ k => XS.iloadN X17.here hx rfl (hb hby at_130) rfl  k) ?_
  show Gl _ _ _ _ (T17.setTop (mkF m 131 #[.val (.int a), .val (.int b), .val (.int c_), .val (.int c0), .val (.int c1), .val (.int d0), .val (.int d1), .val (.int e0_), .val (.int e1_), .val (.ref b1), .val (.ref b6), .val (.ref b11), .unset, .unset, .unset] [(.int c0), (.int (0 : Int32)), (.ref b17), (.ref b17), (.ref b16), (.ref b16)]))
  obtain ⟨cl18, Ar18, qA18, SA18, NA18, HA18, GA18⟩ := id V_b17_17
  obtain ⟨T18, h18, X18, e18, W18, st18⟩ := stC X17 hx hZ e17 Ar18 (j := (0 : Int32)) (inb_of SA18 ⟨by decide, by decide⟩) (g := (mkF m 131 #[.val (.int a), .val (.int b), .val (.int c_), .val (.int c0), .val (.int c1), .val (.int d0), .val (.int d1), .val (.int e0_), .val (.int e1_), .val (.ref b1), .val (.ref b6), .val (.ref b11), .unset, .unset, .unset] [(.int c0), (.int (0 : Int32)), (.ref b17), (.ref b17), (.ref b16), (.ref b16)])) rfl rfl (hb hby at_131)
  have Zs_b16_18 : Safe Z elL s.vm h18 b16 := Safe.wr W18 (Safe.arv hZ.alike V_b17_17 (by decide)) CR17.1 Zs_b16_17
  have O__18 : Old Z n0 h18 := O__17.wr W18 g_b17
  have E_b16_18 : Exa Z h18 b16 "java/lang/String" := E_b16_17.wr W18
  have F_b16_coder_18 : Fld Z h18 b16 "java/lang/String" "coder" "B" (.int (0 : Int32)) := F_b16_coder_17.other W18 (Or.inl ne_b16_b17)
  have F_b16_value_18 : Fld Z h18 b16 "java/lang/String" "value" "[B" .null := F_b16_value_17.other W18 (Or.inl ne_b16_b17)
  have SZ18 : n0 ≤ h18.size := by rw [Wr.size W18]; exact SZ17
  have K18 : Keep h0 h18 [] := K17.wr W18 (Or.inr sz_b17)
  have N18 := Fr.snoc X18 N15 g_b17
  have KBB0_18 : Keep T5.heap h18 [] := KBB0_17.wr W18 (Or.inr szb_B0_b17)
  have KBB1_18 : Keep T10.heap h18 [] := KBB1_17.wr W18 (Or.inr szb_B1_b17)
  have KBB2_18 : Keep T15.heap h18 [] := KBB2_17.wr W18 (Or.inr szb_B2_b17)
  have hk := Nat.le_trans hk (Nat.le_of_eq (Wr.size W18).symm)
  have CR18 : CHr Z elL s.vm h0 s.vm h18 := CR17.trans (CHr.wr W18 (Safe.arv hZ.alike V_b17_17 (by decide)) CR17.1)
  have V_b17_18 : Arv Z h18 b17 cA17 .char (5 : Int32) [(.int (nar .char c0)), (.int (0 : Int32)), (.int (0 : Int32)), (.int (0 : Int32)), (.int (0 : Int32))] (.int (0 : Int32)) := Arv.set Ar18 qA18 SA18 NA18 HA18 GA18 (fits_nar_char _) W18 0 rfl (Nat.le_of_ble_eq_true rfl)
  refine Gl.go (fun _ k => st18 _ k) ?_
  show Gl _ _ _ _ (T18.setTop (mkF m 132 #[.val (.int a), .val (.int b), .val (.int c_), .val (.int c0), .val (.int c1), .val (.int d0), .val (.int d1), .val (.int e0_), .val (.int e1_), .val (.ref b1), .val (.ref b6), .val (.ref b11), .unset, .unset, .unset] [(.ref b17), (.ref b16), (.ref b16)]))
  refine Gl.go (fun _ k => XS.dup X18.here hx rfl (hb hby at_132) rfl rfl k) ?_
  show Gl _ _ _ _ (T18.setTop (mkF m 133 #[.val (.int a), .val (.int b), .val (.int c_), .val (.int c0), .val (.int c1), .val (.int d0), .val (.int d1), .val (.int e0_), .val (.int e1_), .val (.ref b1), .val (.ref b6), .val (.ref b11), .unset, .unset, .unset] [(.ref b17), (.ref b17), (.ref b16), (.ref b16)]))
  refine Gl.go (fun _ k => XS.iconst X18.here hx rfl (hb hby at_133) k) ?_
  show Gl _ _ _ _ (T18.setTop (mkF m 134 #[.val (.int a), .val (.int b), .val (.int c_), .val (.int c0), .val (.int c1), .val (.int d0), .val (.int d1), .val (.int e0_), .val (.int e1_), .val (.ref b1), .val (.ref b6), .val (.ref b11), .unset, .unset, .unset] [(.int (1 : Int32)), (.ref b17), (.ref b17), (.ref b16), (.ref b16)]))
  refine Gl.go (fun _ k => XS.iload X18.here hx rfl (hb hby at_134) rfl  k) ?_
  show Gl _ _ _ _ (T18.setTop (mkF m 136 #[.val (.int a), .val (.int b), .val (.int c_), .val (.int c0), .val (.int c1), .val (.int d0), .val (.int d1), .val (.int e0_), .val (.int e1_), .val (.ref b1), .val (.ref b6), .val (.ref b11), .unset, .unset, .unset] [(.int c1), (.int (1 : Int32)), (.ref b17), (.ref b17), (.ref b16), (.ref b16)]))
  obtain ⟨cl19, Ar19, qA19, SA19, NA19, HA19, GA19⟩ := id V_b17_18
  obtain ⟨T19, h19, X19, e19, W19, st19⟩ := stC X18 hx hZ e18 Ar19 (j := (1 : Int32)) (inb_of SA19 ⟨by decide, by decide⟩) (g := (mkF m 136 #[.val (.int a), .val (.int b), .val (.int c_), .val (.int c0), .val (.int c1), .val (.int d0), .val (.int d1), .val (.int e0_), .val (.int e1_), .val (.ref b1), .val (.ref b6), .val (.ref b11), .unset, .unset, .unset] [(.int c1), (.int (1 : Int32)), (.ref b17), (.ref b17), (.ref b16), (.ref b16)])) rfl rfl (hb hby at_136)
  have Zs_b16_19 : Safe Z elL s.vm h19 b16 := Safe.wr W19 (Safe.arv hZ.alike V_b17_18 (by decide)) CR18.1 Zs_b16_18
  have O__19 : Old Z n0 h19 := O__18.wr W19 g_b17
  have E_b16_19 : Exa Z h19 b16 "java/lang/String" := E_b16_18.wr W19
  have F_b16_coder_19 : Fld Z h19 b16 "java/lang/String" "coder" "B" (.int (0 : Int32)) := F_b16_coder_18.other W19 (Or.inl ne_b16_b17)
  have F_b16_value_19 : Fld Z h19 b16 "java/lang/String" "value" "[B" .null := F_b16_value_18.other W19 (Or.inl ne_b16_b17)
  have SZ19 : n0 ≤ h19.size := by rw [Wr.size W19]; exact SZ18
  have K19 : Keep h0 h19 [] := K18.wr W19 (Or.inr sz_b17)
  have N19 := Fr.snoc X19 N18 g_b17
  have KBB0_19 : Keep T5.heap h19 [] := KBB0_18.wr W19 (Or.inr szb_B0_b17)
  have KBB1_19 : Keep T10.heap h19 [] := KBB1_18.wr W19 (Or.inr szb_B1_b17)
  have KBB2_19 : Keep T15.heap h19 [] := KBB2_18.wr W19 (Or.inr szb_B2_b17)
  have hk := Nat.le_trans hk (Nat.le_of_eq (Wr.size W19).symm)
  have CR19 : CHr Z elL s.vm h0 s.vm h19 := CR18.trans (CHr.wr W19 (Safe.arv hZ.alike V_b17_18 (by decide)) CR18.1)
  have V_b17_19 : Arv Z h19 b17 cA17 .char (5 : Int32) [(.int (nar .char c0)), (.int (nar .char c1)), (.int (0 : Int32)), (.int (0 : Int32)), (.int (0 : Int32))] (.int (0 : Int32)) := Arv.set Ar19 qA19 SA19 NA19 HA19 GA19 (fits_nar_char _) W19 1 rfl (Nat.le_of_ble_eq_true rfl)
  refine Gl.go (fun _ k => st19 _ k) ?_
  show Gl _ _ _ _ (T19.setTop (mkF m 137 #[.val (.int a), .val (.int b), .val (.int c_), .val (.int c0), .val (.int c1), .val (.int d0), .val (.int d1), .val (.int e0_), .val (.int e1_), .val (.ref b1), .val (.ref b6), .val (.ref b11), .unset, .unset, .unset] [(.ref b17), (.ref b16), (.ref b16)]))
  refine Gl.go (fun _ k => XS.dup X19.here hx rfl (hb hby at_137) rfl rfl k) ?_
  show Gl _ _ _ _ (T19.setTop (mkF m 138 #[.val (.int a), .val (.int b), .val (.int c_), .val (.int c0), .val (.int c1), .val (.int d0), .val (.int d1), .val (.int e0_), .val (.int e1_), .val (.ref b1), .val (.ref b6), .val (.ref b11), .unset, .unset, .unset] [(.ref b17), (.ref b17), (.ref b16), (.ref b16)]))
  refine Gl.go (fun _ k => XS.iconst X19.here hx rfl (hb hby at_138) k) ?_
  show Gl _ _ _ _ (T19.setTop (mkF m 139 #[.val (.int a), .val (.int b), .val (.int c_), .val (.int c0), .val (.int c1), .val (.int d0), .val (.int d1), .val (.int e0_), .val (.int e1_), .val (.ref b1), .val (.ref b6), .val (.ref b11), .unset, .unset, .unset] [(.int (2 : Int32)), (.ref b17), (.ref b17), (.ref b16), (.ref b16)]))
  refine Gl.go (fun _ k => XS.bipush X19.here hx rfl (hb hby at_139) k) ?_
  show Gl _ _ _ _ (T19.setTop (mkF m 141 #[.val (.int a), .val (.int b), .val (.int c_), .val (.int c0), .val (.int c1), .val (.int d0), .val (.int d1), .val (.int e0_), .val (.int e1_), .val (.ref b1), .val (.ref b6), .val (.ref b11), .unset, .unset, .unset] [(.int (32 : Int32)), (.int (2 : Int32)), (.ref b17), (.ref b17), (.ref b16), (.ref b16)]))
  rw [(h_l32 : (32 : Int32) = l32)]
  show Gl _ _ _ _ (T19.setTop (mkF m 141 #[.val (.int a), .val (.int b), .val (.int c_), .val (.int c0), .val (.int c1), .val (.int d0), .val (.int d1), .val (.int e0_), .val (.int e1_), .val (.ref b1), .val (.ref b6), .val (.ref b11), .unset, .unset, .unset] [(.int l32), (.int (2 : Int32)), (.ref b17), (.ref b17), (.ref b16), (.ref b16)]))
  obtain ⟨cl20, Ar20, qA20, SA20, NA20, HA20, GA20⟩ := id V_b17_19
  obtain ⟨T20, h20, X20, e20, W20, st20⟩ := stC X19 hx hZ e19 Ar20 (j := (2 : Int32)) (inb_of SA20 ⟨by decide, by decide⟩) (g := (mkF m 141 #[.val (.int a), .val (.int b), .val (.int c_), .val (.int c0), .val (.int c1), .val (.int d0), .val (.int d1), .val (.int e0_), .val (.int e1_), .val (.ref b1), .val (.ref b6), .val (.ref b11), .unset, .unset, .unset] [(.int l32), (.int (2 : Int32)), (.ref b17), (.ref b17), (.ref b16), (.ref b16)])) rfl rfl (hb hby at_141)
  have Zs_b16_20 : Safe Z elL s.vm h20 b16 := Safe.wr W20 (Safe.arv hZ.alike V_b17_19 (by decide)) CR19.1 Zs_b16_19
  have O__20 : Old Z n0 h20 := O__19.wr W20 g_b17
  have E_b16_20 : Exa Z h20 b16 "java/lang/String" := E_b16_19.wr W20
  have F_b16_coder_20 : Fld Z h20 b16 "java/lang/String" "coder" "B" (.int (0 : Int32)) := F_b16_coder_19.other W20 (Or.inl ne_b16_b17)
  have F_b16_value_20 : Fld Z h20 b16 "java/lang/String" "value" "[B" .null := F_b16_value_19.other W20 (Or.inl ne_b16_b17)
  have SZ20 : n0 ≤ h20.size := by rw [Wr.size W20]; exact SZ19
  have K20 : Keep h0 h20 [] := K19.wr W20 (Or.inr sz_b17)
  have N20 := Fr.snoc X20 N19 g_b17
  have KBB0_20 : Keep T5.heap h20 [] := KBB0_19.wr W20 (Or.inr szb_B0_b17)
  have KBB1_20 : Keep T10.heap h20 [] := KBB1_19.wr W20 (Or.inr szb_B1_b17)
  have KBB2_20 : Keep T15.heap h20 [] := KBB2_19.wr W20 (Or.inr szb_B2_b17)
  have hk := Nat.le_trans hk (Nat.le_of_eq (Wr.size W20).symm)
  have CR20 : CHr Z elL s.vm h0 s.vm h20 := CR19.trans (CHr.wr W20 (Safe.arv hZ.alike V_b17_19 (by decide)) CR19.1)
  have V_b17_20 : Arv Z h20 b17 cA17 .char (5 : Int32) [(.int (nar .char c0)), (.int (nar .char c1)), (.int (nar .char l32)), (.int (0 : Int32)), (.int (0 : Int32))] (.int (0 : Int32)) := Arv.set Ar20 qA20 SA20 NA20 HA20 GA20 (fits_nar_char _) W20 2 rfl (Nat.le_of_ble_eq_true rfl)
  refine Gl.go (fun _ k => st20 _ k) ?_
  show Gl _ _ _ _ (T20.setTop (mkF m 142 #[.val (.int a), .val (.int b), .val (.int c_), .val (.int c0), .val (.int c1), .val (.int d0), .val (.int d1), .val (.int e0_), .val (.int e1_), .val (.ref b1), .val (.ref b6), .val (.ref b11), .unset, .unset, .unset] [(.ref b17), (.ref b16), (.ref b16)]))
  refine Gl.go (fun _ k => XS.dup X20.here hx rfl (hb hby at_142) rfl rfl k) ?_
  show Gl _ _ _ _ (T20.setTop (mkF m 143 #[.val (.int a), .val (.int b), .val (.int c_), .val (.int c0), .val (.int c1), .val (.int d0), .val (.int d1), .val (.int e0_), .val (.int e1_), .val (.ref b1), .val (.ref b6), .val (.ref b11), .unset, .unset, .unset] [(.ref b17), (.ref b17), (.ref b16), (.ref b16)]))
  refine Gl.go (fun _ k => XS.iconst X20.here hx rfl (hb hby at_143) k) ?_
  show Gl _ _ _ _ (T20.setTop (mkF m 144 #[.val (.int a), .val (.int b), .val (.int c_), .val (.int c0), .val (.int c1), .val (.int d0), .val (.int d1), .val (.int e0_), .val (.int e1_), .val (.ref b1), .val (.ref b6), .val (.ref b11), .unset, .unset, .unset] [(.int (3 : Int32)), (.ref b17), (.ref b17), (.ref b16), (.ref b16)]))
  refine Gl.go (fun _ k => XS.iload X20.here hx rfl (hb hby at_144) rfl  k) ?_
  show Gl _ _ _ _ (T20.setTop (mkF m 146 #[.val (.int a), .val (.int b), .val (.int c_), .val (.int c0), .val (.int c1), .val (.int d0), .val (.int d1), .val (.int e0_), .val (.int e1_), .val (.ref b1), .val (.ref b6), .val (.ref b11), .unset, .unset, .unset] [(.int d0), (.int (3 : Int32)), (.ref b17), (.ref b17), (.ref b16), (.ref b16)]))
  obtain ⟨cl21, Ar21, qA21, SA21, NA21, HA21, GA21⟩ := id V_b17_20
  obtain ⟨T21, h21, X21, e21, W21, st21⟩ := stC X20 hx hZ e20 Ar21 (j := (3 : Int32)) (inb_of SA21 ⟨by decide, by decide⟩) (g := (mkF m 146 #[.val (.int a), .val (.int b), .val (.int c_), .val (.int c0), .val (.int c1), .val (.int d0), .val (.int d1), .val (.int e0_), .val (.int e1_), .val (.ref b1), .val (.ref b6), .val (.ref b11), .unset, .unset, .unset] [(.int d0), (.int (3 : Int32)), (.ref b17), (.ref b17), (.ref b16), (.ref b16)])) rfl rfl (hb hby at_146)
  have Zs_b16_21 : Safe Z elL s.vm h21 b16 := Safe.wr W21 (Safe.arv hZ.alike V_b17_20 (by decide)) CR20.1 Zs_b16_20
  have O__21 : Old Z n0 h21 := O__20.wr W21 g_b17
  have E_b16_21 : Exa Z h21 b16 "java/lang/String" := E_b16_20.wr W21
  have F_b16_coder_21 : Fld Z h21 b16 "java/lang/String" "coder" "B" (.int (0 : Int32)) := F_b16_coder_20.other W21 (Or.inl ne_b16_b17)
  have F_b16_value_21 : Fld Z h21 b16 "java/lang/String" "value" "[B" .null := F_b16_value_20.other W21 (Or.inl ne_b16_b17)
  have SZ21 : n0 ≤ h21.size := by rw [Wr.size W21]; exact SZ20
  have K21 : Keep h0 h21 [] := K20.wr W21 (Or.inr sz_b17)
  have N21 := Fr.snoc X21 N20 g_b17
  have KBB0_21 : Keep T5.heap h21 [] := KBB0_20.wr W21 (Or.inr szb_B0_b17)
  have KBB1_21 : Keep T10.heap h21 [] := KBB1_20.wr W21 (Or.inr szb_B1_b17)
  have KBB2_21 : Keep T15.heap h21 [] := KBB2_20.wr W21 (Or.inr szb_B2_b17)
  have hk := Nat.le_trans hk (Nat.le_of_eq (Wr.size W21).symm)
  have CR21 : CHr Z elL s.vm h0 s.vm h21 := CR20.trans (CHr.wr W21 (Safe.arv hZ.alike V_b17_20 (by decide)) CR20.1)
  have V_b17_21 : Arv Z h21 b17 cA17 .char (5 : Int32) [(.int (nar .char c0)), (.int (nar .char c1)), (.int (nar .char l32)), (.int (nar .char d0)), (.int (0 : Int32))] (.int (0 : Int32)) := Arv.set Ar21 qA21 SA21 NA21 HA21 GA21 (fits_nar_char _) W21 3 rfl (Nat.le_of_ble_eq_true rfl)
  refine Gl.go (fun _ k => st21 _ k) ?_
  show Gl _ _ _ _ (T21.setTop (mkF m 147 #[.val (.int a), .val (.int b), .val (.int c_), .val (.int c0), .val (.int c1), .val (.int d0), .val (.int d1), .val (.int e0_), .val (.int e1_), .val (.ref b1), .val (.ref b6), .val (.ref b11), .unset, .unset, .unset] [(.ref b17), (.ref b16), (.ref b16)]))
  refine Gl.go (fun _ k => XS.dup X21.here hx rfl (hb hby at_147) rfl rfl k) ?_
  show Gl _ _ _ _ (T21.setTop (mkF m 148 #[.val (.int a), .val (.int b), .val (.int c_), .val (.int c0), .val (.int c1), .val (.int d0), .val (.int d1), .val (.int e0_), .val (.int e1_), .val (.ref b1), .val (.ref b6), .val (.ref b11), .unset, .unset, .unset] [(.ref b17), (.ref b17), (.ref b16), (.ref b16)]))
  refine Gl.go (fun _ k => XS.iconst X21.here hx rfl (hb hby at_148) k) ?_
  show Gl _ _ _ _ (T21.setTop (mkF m 149 #[.val (.int a), .val (.int b), .val (.int c_), .val (.int c0), .val (.int c1), .val (.int d0), .val (.int d1), .val (.int e0_), .val (.int e1_), .val (.ref b1), .val (.ref b6), .val (.ref b11), .unset, .unset, .unset] [(.int (4 : Int32)), (.ref b17), (.ref b17), (.ref b16), (.ref b16)]))
  refine Gl.go (fun _ k => XS.iload X21.here hx rfl (hb hby at_149) rfl  k) ?_
  show Gl _ _ _ _ (T21.setTop (mkF m 151 #[.val (.int a), .val (.int b), .val (.int c_), .val (.int c0), .val (.int c1), .val (.int d0), .val (.int d1), .val (.int e0_), .val (.int e1_), .val (.ref b1), .val (.ref b6), .val (.ref b11), .unset, .unset, .unset] [(.int d1), (.int (4 : Int32)), (.ref b17), (.ref b17), (.ref b16), (.ref b16)]))
  obtain ⟨cl22, Ar22, qA22, SA22, NA22, HA22, GA22⟩ := id V_b17_21
  obtain ⟨T22, h22, X22, e22, W22, st22⟩ := stC X21 hx hZ e21 Ar22 (j := (4 : Int32)) (inb_of SA22 ⟨by decide, by decide⟩) (g := (mkF m 151 #[.val (.int a), .val (.int b), .val (.int c_), .val (.int c0), .val (.int c1), .val (.int d0), .val (.int d1), .val (.int e0_), .val (.int e1_), .val (.ref b1), .val (.ref b6), .val (.ref b11), .unset, .unset, .unset] [(.int d1), (.int (4 : Int32)), (.ref b17), (.ref b17), (.ref b16), (.ref b16)])) rfl rfl (hb hby at_151)
  have Zs_b16_22 : Safe Z elL s.vm h22 b16 := Safe.wr W22 (Safe.arv hZ.alike V_b17_21 (by decide)) CR21.1 Zs_b16_21
  have O__22 : Old Z n0 h22 := O__21.wr W22 g_b17
  have E_b16_22 : Exa Z h22 b16 "java/lang/String" := E_b16_21.wr W22
  have F_b16_coder_22 : Fld Z h22 b16 "java/lang/String" "coder" "B" (.int (0 : Int32)) := F_b16_coder_21.other W22 (Or.inl ne_b16_b17)
  have F_b16_value_22 : Fld Z h22 b16 "java/lang/String" "value" "[B" .null := F_b16_value_21.other W22 (Or.inl ne_b16_b17)
  have SZ22 : n0 ≤ h22.size := by rw [Wr.size W22]; exact SZ21
  have K22 : Keep h0 h22 [] := K21.wr W22 (Or.inr sz_b17)
  have N22 := Fr.snoc X22 N21 g_b17
  have KBB0_22 : Keep T5.heap h22 [] := KBB0_21.wr W22 (Or.inr szb_B0_b17)
  have KBB1_22 : Keep T10.heap h22 [] := KBB1_21.wr W22 (Or.inr szb_B1_b17)
  have KBB2_22 : Keep T15.heap h22 [] := KBB2_21.wr W22 (Or.inr szb_B2_b17)
  have hk := Nat.le_trans hk (Nat.le_of_eq (Wr.size W22).symm)
  have CR22 : CHr Z elL s.vm h0 s.vm h22 := CR21.trans (CHr.wr W22 (Safe.arv hZ.alike V_b17_21 (by decide)) CR21.1)
  have V_b17_22 : Arv Z h22 b17 cA17 .char (5 : Int32) [(.int (nar .char c0)), (.int (nar .char c1)), (.int (nar .char l32)), (.int (nar .char d0)), (.int (nar .char d1))] (.int (0 : Int32)) := Arv.set Ar22 qA22 SA22 NA22 HA22 GA22 (fits_nar_char _) W22 4 rfl (Nat.le_of_ble_eq_true rfl)
  refine Gl.go (fun _ k => st22 _ k) ?_
  show Gl _ _ _ _ (T22.setTop (mkF m 152 #[.val (.int a), .val (.int b), .val (.int c_), .val (.int c0), .val (.int c1), .val (.int d0), .val (.int d1), .val (.int e0_), .val (.int e1_), .val (.ref b1), .val (.ref b6), .val (.ref b11), .unset, .unset, .unset] [(.ref b17), (.ref b16), (.ref b16)]))
  have hp : ∀ c ∈ ([nar .char c0, nar .char c1, nar .char l32, nar .char d0, nar .char d1] : List Int32), ¬ c < 0 ∧ ¬ (255 : Int32) < c := by
    intro c hc
    simp only [List.mem_cons, List.not_mem_nil, or_false] at hc
    rcases hc with rfl | rfl | rfl | rfl | rfl
    · exact p_c0
    · exact p_c1
    · exact p_32
    · exact p_d0
    · exact p_d1
  obtain ⟨_, _, ⟨T23, L23, k23, n23⟩, -, X23, ⟨Lc23, hQ23, l23, y23, z23⟩, st23⟩ := X22.specialBack hx (y := (⟨"java/lang/String", "<init>", "([C)V"⟩ : MethodName)) rfl hown (mvT hZ (hw _ (List.mem_of_getElem? (i := 4) rfl))) (mvT hZ (hw _ (List.mem_of_getElem? (i := 5) rfl))) (mvT hZ (hw _ (List.mem_of_getElem? (i := 6) rfl))) (by decide) (StrChars.Road.backV (W := 1) hZ hws (kI := 4) (hw _ (List.mem_of_getElem? (i := 1) rfl)) (cs := ([nar .char c0, nar .char c1, nar .char l32, nar .char d0, nar .char d1] : List Int32)) (bs := (([nar .char c0, nar .char c1, nar .char l32, nar .char d0, nar .char d1] : List Int32)).map (fun c => c.toInt8.toInt32)) (n := 5) g_b16 SZ22 E_b16_22 F_b16_value_22 F_b16_coder_22 V_b17_22 (O2.ext O__22.2) P5 rfl rfl (by decide) (by decide) hp rfl (by decide) (by decide)) (g := (mkF m 152 #[.val (.int a), .val (.int b), .val (.int c_), .val (.int c0), .val (.int c1), .val (.int d0), .val (.int d1), .val (.int e0_), .val (.int e1_), .val (.ref b1), .val (.ref b6), .val (.ref b11), .unset, .unset, .unset] [(.ref b17), (.ref b16), (.ref b16)])) rfl (by rw [hml]; rfl) (Steps.refl _) (a := b16) (argsL := [(.ref b17)]) (rest := [(.ref b16)]) (lenOf pd_19 rfl) rfl (by show 2 * 0 + _ ≤ _; exact Nat.le_of_eq rfl) (hb hby at_152) (fun _ _ => ⟨rfl, e22, (by decide : 11 + 1 ≤ _), (by decide : 33 + 5 ≤ _)⟩)
  dsimp only [Pt.U, Pt.locs, Pt.cells, Pt.slots] at X23 l23 y23 z23 st23
  subst y23 z23
  obtain ⟨rfl, Nq23, Kc23, Es23, Cs23, ta23, kb23, -, -, -, Vs23, Ks23⟩ := hQ23
  have N23 : Fr n0 L23 := by rw [l23]; exact Fr.app N22 Nq23
  refine Gl.go (fun _ k => st23.trans k) ?_
  have Zs_b16_23 : Safe Z elL s.vm T23.heap b16 := Safe.keep Kc23 (sfS Zs_b16_22 sf0) CR22.1 Zs_b16_22
  have O__23 : Old Z n0 T23.heap := O__22.keep Kc23 (allS g_b16 all0)
  have E_b16_23 : Exa Z T23.heap b16 "java/lang/String" := E_b16_22.keep Kc23
  have V_b17_23 : Arv Z T23.heap b17 cA17 .char (5 : Int32) [(.int (nar .char c0)), (.int (nar .char c1)), (.int (nar .char l32)), (.int (nar .char d0)), (.int (nar .char d1))] (.int (0 : Int32)) := V_b17_22.keep Kc23 (ninS (Ne.symm ne_b16_b17) nin0)
  have SZ23 : n0 ≤ T23.heap.size := Nat.le_trans SZ22 Kc23.1
  have K23 : Keep h0 T23.heap [] := K22.trans Kc23 (allS (Or.inr sz_b16) all0)
  have KBB0_23 : Keep T5.heap T23.heap [] := KBB0_22.trans Kc23 (allS (Or.inr szb_B0_b16) all0)
  have KBB1_23 : Keep T10.heap T23.heap [] := KBB1_22.trans Kc23 (allS (Or.inr szb_B1_b16) all0)
  have KBB2_23 : Keep T15.heap T23.heap [] := KBB2_22.trans Kc23 (allS (Or.inr szb_B2_b16) all0)
  have hk := Nat.le_trans hk Kc23.1
  have CR23 : CHr Z elL s.vm h0 s.vm T23.heap := CR22.trans (CHr.keep Kc23 (sfS Zs_b16_22 sf0) CR22.1)
  show Gl _ _ _ _ (T23.setTop (mkF m 155 #[.val (.int a), .val (.int b), .val (.int c_), .val (.int c0), .val (.int c1), .val (.int d0), .val (.int d1), .val (.int e0_), .val (.int e1_), .val (.ref b1), .val (.ref b6), .val (.ref b11), .unset, .unset, .unset] [(.ref b16)]))
  have S_3 : StrAt Z T23.heap b16 ((([nar .char c0, nar .char c1, nar .char l32, nar .char d0, nar .char d1] : List Int32)).map (fun c => c.toInt8.toInt32)) := ⟨Es23, Cs23, Nat.lt_of_lt_of_le (Nat.lt_succ_self 5) (by decide), ta23, kb23, Vs23, Ks23⟩
  have KBB3 : Keep T23.heap T23.heap [] := Keep.refl _ _
  refine Gl.go (fun _ k => XS.astore X23.here hx rfl (hb hby at_155) rfl rfl (l' := #[.val (.int a), .val (.int b), .val (.int c_), .val (.int c0), .val (.int c1), .val (.int d0), .val (.int d1), .val (.int e0_), .val (.int e1_), .val (.ref b1), .val (.ref b6), .val (.ref b11), .val (.ref b16), .unset, .unset]) rfl k) ?_
  show Gl _ _ _ _ (T23.setTop (mkF m 157 #[.val (.int a), .val (.int b), .val (.int c_), .val (.int c0), .val (.int c1), .val (.int d0), .val (.int d1), .val (.int e0_), .val (.int e1_), .val (.ref b1), .val (.ref b6), .val (.ref b11), .val (.ref b16), .unset, .unset] []))
  obtain ⟨T24, h24, X24, e24, E24, A24, D24, -, st24⟩ := newO X23 hx hZ hown (hw _ (List.mem_of_getElem? (i := 0) rfl)) (hw _ (List.mem_of_getElem? (i := 1) rfl)) (hw _ (List.mem_of_getElem? (i := 2) rfl)) rfl (g := (mkF m 157 #[.val (.int a), .val (.int b), .val (.int c_), .val (.int c0), .val (.int c1), .val (.int d0), .val (.int d1), .val (.int e0_), .val (.int e1_), .val (.ref b1), .val (.ref b6), .val (.ref b11), .val (.ref b16), .unset, .unset] [])) rfl (hb hby at_157) (by decide) (by decide)
  obtain ⟨b24, g24⟩ : ∃ z, z = T23.heap.size := ⟨_, rfl⟩
  rw [← g24] at A24 D24 st24
  have g_b24 : n0 ≤ b24 := Nat.le_trans SZ23 (Nat.le_of_eq g24.symm)
  have sz_b24 : h0.size ≤ b24 := Nat.le_trans K23.1 (Nat.le_of_eq g24.symm)
  have szb_B0_b24 : T5.heap.size ≤ b24 := Nat.le_trans KBB0_23.1 (Nat.le_of_eq g24.symm)
  have szb_B1_b24 : T10.heap.size ≤ b24 := Nat.le_trans KBB1_23.1 (Nat.le_of_eq g24.symm)
  have szb_B2_b24 : T15.heap.size ≤ b24 := Nat.le_trans KBB2_23.1 (Nat.le_of_eq g24.symm)
  have szb_B3_b24 : T23.heap.size ≤ b24 := Nat.le_trans KBB3.1 (Nat.le_of_eq g24.symm)
  have Zs_b24 : Safe Z elL s.vm h24 b24 := Safe.ext E24 CR23.1 (Safe.new (Nat.le_of_eq g24.symm))
  have O__24 : Old Z n0 h24 := O__23.ext E24
  have SZ24 : n0 ≤ h24.size := Nat.le_trans SZ23 E24.1
  have K24 : Keep h0 h24 [] := K23.ext E24
  have KBB0_24 : Keep T5.heap h24 [] := KBB0_23.ext E24
  have KBB1_24 : Keep T10.heap h24 [] := KBB1_23.ext E24
  have KBB2_24 : Keep T15.heap h24 [] := KBB2_23.ext E24
  have KBB3_24 : Keep T23.heap h24 [] := KBB3.ext E24
  have hk := Nat.le_trans hk E24.1
  have CR24 : CHr Z elL s.vm h0 s.vm h24 := CR23.trans (CHr.ext E24 CR23.1)
  have F_b24_coder_24 : Fld Z h24 b24 "java/lang/String" "coder" "B" (.int (0 : Int32)) := D24 (Or.inr (hw _ (List.mem_of_getElem? (i := 27) rfl))) (ty := .byte) (by decide)
  have F_b24_value_24 : Fld Z h24 b24 "java/lang/String" "value" "[B" .null := D24 (Or.inr (hw _ (List.mem_of_getElem? (i := 29) rfl))) (ty := (.array .byte)) (by decide)
  refine Gl.go (fun _ k => st24 _ k) ?_
  show Gl _ _ _ _ (T24.setTop (mkF m 160 #[.val (.int a), .val (.int b), .val (.int c_), .val (.int c0), .val (.int c1), .val (.int d0), .val (.int d1), .val (.int e0_), .val (.int e1_), .val (.ref b1), .val (.ref b6), .val (.ref b11), .val (.ref b16), .unset, .unset] [(.ref b24)]))
  refine Gl.go (fun _ k => XS.dup X24.here hx rfl (hb hby at_160) rfl rfl k) ?_
  show Gl _ _ _ _ (T24.setTop (mkF m 161 #[.val (.int a), .val (.int b), .val (.int c_), .val (.int c0), .val (.int c1), .val (.int d0), .val (.int d1), .val (.int e0_), .val (.int e1_), .val (.ref b1), .val (.ref b6), .val (.ref b11), .val (.ref b16), .unset, .unset] [(.ref b24), (.ref b24)]))
  refine Gl.go (fun _ k => XS.bipush X24.here hx rfl (hb hby at_161) k) ?_
  show Gl _ _ _ _ (T24.setTop (mkF m 163 #[.val (.int a), .val (.int b), .val (.int c_), .val (.int c0), .val (.int c1), .val (.int d0), .val (.int d1), .val (.int e0_), .val (.int e1_), .val (.ref b1), .val (.ref b6), .val (.ref b11), .val (.ref b16), .unset, .unset] [(.int (7 : Int32)), (.ref b24), (.ref b24)]))
  obtain ⟨T25, h25, cA25, X25, e25, E25, A25, st25⟩ := newP X24 hx hZ (hw _ (List.mem_of_getElem? (i := 3) rfl)) e24 (g := (mkF m 163 #[.val (.int a), .val (.int b), .val (.int c_), .val (.int c0), .val (.int c1), .val (.int d0), .val (.int d1), .val (.int e0_), .val (.int e1_), .val (.ref b1), .val (.ref b6), .val (.ref b11), .val (.ref b16), .unset, .unset] [(.int (7 : Int32)), (.ref b24), (.ref b24)])) rfl (hb hby at_163) rfl (by decide) (cap := 7) (by decide) (by decide) (by decide) (by decide)
  obtain ⟨b25, g25⟩ : ∃ z, z = h24.size := ⟨_, rfl⟩
  rw [← g25] at A25 st25
  have g_b25 : n0 ≤ b25 := Nat.le_trans SZ24 (Nat.le_of_eq g25.symm)
  have sz_b25 : h0.size ≤ b25 := Nat.le_trans K24.1 (Nat.le_of_eq g25.symm)
  have szb_B0_b25 : T5.heap.size ≤ b25 := Nat.le_trans KBB0_24.1 (Nat.le_of_eq g25.symm)
  have szb_B1_b25 : T10.heap.size ≤ b25 := Nat.le_trans KBB1_24.1 (Nat.le_of_eq g25.symm)
  have szb_B2_b25 : T15.heap.size ≤ b25 := Nat.le_trans KBB2_24.1 (Nat.le_of_eq g25.symm)
  have szb_B3_b25 : T23.heap.size ≤ b25 := Nat.le_trans KBB3_24.1 (Nat.le_of_eq g25.symm)
  have ne_b24_b25 : b24 ≠ b25 := Nat.ne_of_lt (Nat.lt_of_lt_of_le A24.lt (Nat.le_of_eq g25.symm))
  have Zs_b24_25 : Safe Z elL s.vm h25 b24 := Safe.ext E25 CR24.1 Zs_b24
  have O__25 : Old Z n0 h25 := O__24.ext E25
  have E_b24_25 : Exa Z h25 b24 "java/lang/String" := A24.ext E25
  have F_b24_coder_25 : Fld Z h25 b24 "java/lang/String" "coder" "B" (.int (0 : Int32)) := F_b24_coder_24.ext E25
  have F_b24_value_25 : Fld Z h25 b24 "java/lang/String" "value" "[B" .null := F_b24_value_24.ext E25
  have SZ25 : n0 ≤ h25.size := Nat.le_trans SZ24 E25.1
  have K25 : Keep h0 h25 [] := K24.ext E25
  have KBB0_25 : Keep T5.heap h25 [] := KBB0_24.ext E25
  have KBB1_25 : Keep T10.heap h25 [] := KBB1_24.ext E25
  have KBB2_25 : Keep T15.heap h25 [] := KBB2_24.ext E25
  have KBB3_25 : Keep T23.heap h25 [] := KBB3_24.ext E25
  have hk := Nat.le_trans hk E25.1
  have CR25 : CHr Z elL s.vm h0 s.vm h25 := CR24.trans (CHr.ext E25 CR24.1)
  have V_b25_25 : Arv Z h25 b25 cA25 .char (7 : Int32) [(.int (0 : Int32)), (.int (0 : Int32)), (.int (0 : Int32)), (.int (0 : Int32)), (.int (0 : Int32)), (.int (0 : Int32)), (.int (0 : Int32))] (.int (0 : Int32)) := (Arv.new A25 (by decide)).pad (pad_rep [] _ 7)
  refine Gl.go (fun _ k => st25 _ k) ?_
  show Gl _ _ _ _ (T25.setTop (mkF m 165 #[.val (.int a), .val (.int b), .val (.int c_), .val (.int c0), .val (.int c1), .val (.int d0), .val (.int d1), .val (.int e0_), .val (.int e1_), .val (.ref b1), .val (.ref b6), .val (.ref b11), .val (.ref b16), .unset, .unset] [(.ref b25), (.ref b24), (.ref b24)]))
  refine Gl.go (fun _ k => XS.dup X25.here hx rfl (hb hby at_165) rfl rfl k) ?_
  show Gl _ _ _ _ (T25.setTop (mkF m 166 #[.val (.int a), .val (.int b), .val (.int c_), .val (.int c0), .val (.int c1), .val (.int d0), .val (.int d1), .val (.int e0_), .val (.int e1_), .val (.ref b1), .val (.ref b6), .val (.ref b11), .val (.ref b16), .unset, .unset] [(.ref b25), (.ref b25), (.ref b24), (.ref b24)]))
  refine Gl.go (fun _ k => XS.iconst X25.here hx rfl (hb hby at_166) k) ?_
  show Gl _ _ _ _ (T25.setTop (mkF m 167 #[.val (.int a), .val (.int b), .val (.int c_), .val (.int c0), .val (.int c1), .val (.int d0), .val (.int d1), .val (.int e0_), .val (.int e1_), .val (.ref b1), .val (.ref b6), .val (.ref b11), .val (.ref b16), .unset, .unset] [(.int (0 : Int32)), (.ref b25), (.ref b25), (.ref b24), (.ref b24)]))
  refine Gl.go (fun _ k => XS.bipush X25.here hx rfl (hb hby at_167) k) ?_
  show Gl _ _ _ _ (T25.setTop (mkF m 169 #[.val (.int a), .val (.int b), .val (.int c_), .val (.int c0), .val (.int c1), .val (.int d0), .val (.int d1), .val (.int e0_), .val (.int e1_), .val (.ref b1), .val (.ref b6), .val (.ref b11), .val (.ref b16), .unset, .unset] [(.int (91 : Int32)), (.int (0 : Int32)), (.ref b25), (.ref b25), (.ref b24), (.ref b24)]))
  rw [(h_l91 : (91 : Int32) = l91)]
  show Gl _ _ _ _ (T25.setTop (mkF m 169 #[.val (.int a), .val (.int b), .val (.int c_), .val (.int c0), .val (.int c1), .val (.int d0), .val (.int d1), .val (.int e0_), .val (.int e1_), .val (.ref b1), .val (.ref b6), .val (.ref b11), .val (.ref b16), .unset, .unset] [(.int l91), (.int (0 : Int32)), (.ref b25), (.ref b25), (.ref b24), (.ref b24)]))
  obtain ⟨cl26, Ar26, qA26, SA26, NA26, HA26, GA26⟩ := id V_b25_25
  obtain ⟨T26, h26, X26, e26, W26, st26⟩ := stC X25 hx hZ e25 Ar26 (j := (0 : Int32)) (inb_of SA26 ⟨by decide, by decide⟩) (g := (mkF m 169 #[.val (.int a), .val (.int b), .val (.int c_), .val (.int c0), .val (.int c1), .val (.int d0), .val (.int d1), .val (.int e0_), .val (.int e1_), .val (.ref b1), .val (.ref b6), .val (.ref b11), .val (.ref b16), .unset, .unset] [(.int l91), (.int (0 : Int32)), (.ref b25), (.ref b25), (.ref b24), (.ref b24)])) rfl rfl (hb hby at_169)
  have Zs_b24_26 : Safe Z elL s.vm h26 b24 := Safe.wr W26 (Safe.arv hZ.alike V_b25_25 (by decide)) CR25.1 Zs_b24_25
  have O__26 : Old Z n0 h26 := O__25.wr W26 g_b25
  have E_b24_26 : Exa Z h26 b24 "java/lang/String" := E_b24_25.wr W26
  have F_b24_coder_26 : Fld Z h26 b24 "java/lang/String" "coder" "B" (.int (0 : Int32)) := F_b24_coder_25.other W26 (Or.inl ne_b24_b25)
  have F_b24_value_26 : Fld Z h26 b24 "java/lang/String" "value" "[B" .null := F_b24_value_25.other W26 (Or.inl ne_b24_b25)
  have SZ26 : n0 ≤ h26.size := by rw [Wr.size W26]; exact SZ25
  have K26 : Keep h0 h26 [] := K25.wr W26 (Or.inr sz_b25)
  have N26 := Fr.snoc X26 N23 g_b25
  have KBB0_26 : Keep T5.heap h26 [] := KBB0_25.wr W26 (Or.inr szb_B0_b25)
  have KBB1_26 : Keep T10.heap h26 [] := KBB1_25.wr W26 (Or.inr szb_B1_b25)
  have KBB2_26 : Keep T15.heap h26 [] := KBB2_25.wr W26 (Or.inr szb_B2_b25)
  have KBB3_26 : Keep T23.heap h26 [] := KBB3_25.wr W26 (Or.inr szb_B3_b25)
  have hk := Nat.le_trans hk (Nat.le_of_eq (Wr.size W26).symm)
  have CR26 : CHr Z elL s.vm h0 s.vm h26 := CR25.trans (CHr.wr W26 (Safe.arv hZ.alike V_b25_25 (by decide)) CR25.1)
  have V_b25_26 : Arv Z h26 b25 cA25 .char (7 : Int32) [(.int (nar .char l91)), (.int (0 : Int32)), (.int (0 : Int32)), (.int (0 : Int32)), (.int (0 : Int32)), (.int (0 : Int32)), (.int (0 : Int32))] (.int (0 : Int32)) := Arv.set Ar26 qA26 SA26 NA26 HA26 GA26 (fits_nar_char _) W26 0 rfl (Nat.le_of_ble_eq_true rfl)
  refine Gl.go (fun _ k => st26 _ k) ?_
  show Gl _ _ _ _ (T26.setTop (mkF m 170 #[.val (.int a), .val (.int b), .val (.int c_), .val (.int c0), .val (.int c1), .val (.int d0), .val (.int d1), .val (.int e0_), .val (.int e1_), .val (.ref b1), .val (.ref b6), .val (.ref b11), .val (.ref b16), .unset, .unset] [(.ref b25), (.ref b24), (.ref b24)]))
  refine Gl.go (fun _ k => XS.dup X26.here hx rfl (hb hby at_170) rfl rfl k) ?_
  show Gl _ _ _ _ (T26.setTop (mkF m 171 #[.val (.int a), .val (.int b), .val (.int c_), .val (.int c0), .val (.int c1), .val (.int d0), .val (.int d1), .val (.int e0_), .val (.int e1_), .val (.ref b1), .val (.ref b6), .val (.ref b11), .val (.ref b16), .unset, .unset] [(.ref b25), (.ref b25), (.ref b24), (.ref b24)]))
  refine Gl.go (fun _ k => XS.iconst X26.here hx rfl (hb hby at_171) k) ?_
  show Gl _ _ _ _ (T26.setTop (mkF m 172 #[.val (.int a), .val (.int b), .val (.int c_), .val (.int c0), .val (.int c1), .val (.int d0), .val (.int d1), .val (.int e0_), .val (.int e1_), .val (.ref b1), .val (.ref b6), .val (.ref b11), .val (.ref b16), .unset, .unset] [(.int (1 : Int32)), (.ref b25), (.ref b25), (.ref b24), (.ref b24)]))
  refine Gl.go (fun _ k => XS.iloadN X26.here hx rfl (hb hby at_172) rfl  k) ?_
  show Gl _ _ _ _ (T26.setTop (mkF m 173 #[.val (.int a), .val (.int b), .val (.int c_), .val (.int c0), .val (.int c1), .val (.int d0), .val (.int d1), .val (.int e0_), .val (.int e1_), .val (.ref b1), .val (.ref b6), .val (.ref b11), .val (.ref b16), .unset, .unset] [(.int c0), (.int (1 : Int32)), (.ref b25), (.ref b25), (.ref b24), (.ref b24)]))
  obtain ⟨cl27, Ar27, qA27, SA27, NA27, HA27, GA27⟩ := id V_b25_26
  obtain ⟨T27, h27, X27, e27, W27, st27⟩ := stC X26 hx hZ e26 Ar27 (j := (1 : Int32)) (inb_of SA27 ⟨by decide, by decide⟩) (g := (mkF m 173 #[.val (.int a), .val (.int b), .val (.int c_), .val (.int c0), .val (.int c1), .val (.int d0), .val (.int d1), .val (.int e0_), .val (.int e1_), .val (.ref b1), .val (.ref b6), .val (.ref b11), .val (.ref b16), .unset, .unset] [(.int c0), (.int (1 : Int32)), (.ref b25), (.ref b25), (.ref b24), (.ref b24)])) rfl rfl (hb hby at_173)
  have Zs_b24_27 : Safe Z elL s.vm h27 b24 := Safe.wr W27 (Safe.arv hZ.alike V_b25_26 (by decide)) CR26.1 Zs_b24_26
  have O__27 : Old Z n0 h27 := O__26.wr W27 g_b25
  have E_b24_27 : Exa Z h27 b24 "java/lang/String" := E_b24_26.wr W27
  have F_b24_coder_27 : Fld Z h27 b24 "java/lang/String" "coder" "B" (.int (0 : Int32)) := F_b24_coder_26.other W27 (Or.inl ne_b24_b25)
  have F_b24_value_27 : Fld Z h27 b24 "java/lang/String" "value" "[B" .null := F_b24_value_26.other W27 (Or.inl ne_b24_b25)
  have SZ27 : n0 ≤ h27.size := by rw [Wr.size W27]; exact SZ26
  have K27 : Keep h0 h27 [] := K26.wr W27 (Or.inr sz_b25)
  have N27 := Fr.snoc X27 N26 g_b25
  have KBB0_27 : Keep T5.heap h27 [] := KBB0_26.wr W27 (Or.inr szb_B0_b25)
  have KBB1_27 : Keep T10.heap h27 [] := KBB1_26.wr W27 (Or.inr szb_B1_b25)
  have KBB2_27 : Keep T15.heap h27 [] := KBB2_26.wr W27 (Or.inr szb_B2_b25)
  have KBB3_27 : Keep T23.heap h27 [] := KBB3_26.wr W27 (Or.inr szb_B3_b25)
  have hk := Nat.le_trans hk (Nat.le_of_eq (Wr.size W27).symm)
  have CR27 : CHr Z elL s.vm h0 s.vm h27 := CR26.trans (CHr.wr W27 (Safe.arv hZ.alike V_b25_26 (by decide)) CR26.1)
  have V_b25_27 : Arv Z h27 b25 cA25 .char (7 : Int32) [(.int (nar .char l91)), (.int (nar .char c0)), (.int (0 : Int32)), (.int (0 : Int32)), (.int (0 : Int32)), (.int (0 : Int32)), (.int (0 : Int32))] (.int (0 : Int32)) := Arv.set Ar27 qA27 SA27 NA27 HA27 GA27 (fits_nar_char _) W27 1 rfl (Nat.le_of_ble_eq_true rfl)
  refine Gl.go (fun _ k => st27 _ k) ?_
  show Gl _ _ _ _ (T27.setTop (mkF m 174 #[.val (.int a), .val (.int b), .val (.int c_), .val (.int c0), .val (.int c1), .val (.int d0), .val (.int d1), .val (.int e0_), .val (.int e1_), .val (.ref b1), .val (.ref b6), .val (.ref b11), .val (.ref b16), .unset, .unset] [(.ref b25), (.ref b24), (.ref b24)]))
  refine Gl.go (fun _ k => XS.dup X27.here hx rfl (hb hby at_174) rfl rfl k) ?_
  show Gl _ _ _ _ (T27.setTop (mkF m 175 #[.val (.int a), .val (.int b), .val (.int c_), .val (.int c0), .val (.int c1), .val (.int d0), .val (.int d1), .val (.int e0_), .val (.int e1_), .val (.ref b1), .val (.ref b6), .val (.ref b11), .val (.ref b16), .unset, .unset] [(.ref b25), (.ref b25), (.ref b24), (.ref b24)]))
  refine Gl.go (fun _ k => XS.iconst X27.here hx rfl (hb hby at_175) k) ?_
  show Gl _ _ _ _ (T27.setTop (mkF m 176 #[.val (.int a), .val (.int b), .val (.int c_), .val (.int c0), .val (.int c1), .val (.int d0), .val (.int d1), .val (.int e0_), .val (.int e1_), .val (.ref b1), .val (.ref b6), .val (.ref b11), .val (.ref b16), .unset, .unset] [(.int (2 : Int32)), (.ref b25), (.ref b25), (.ref b24), (.ref b24)]))
  refine Gl.go (fun _ k => XS.iload X27.here hx rfl (hb hby at_176) rfl  k) ?_
  show Gl _ _ _ _ (T27.setTop (mkF m 178 #[.val (.int a), .val (.int b), .val (.int c_), .val (.int c0), .val (.int c1), .val (.int d0), .val (.int d1), .val (.int e0_), .val (.int e1_), .val (.ref b1), .val (.ref b6), .val (.ref b11), .val (.ref b16), .unset, .unset] [(.int c1), (.int (2 : Int32)), (.ref b25), (.ref b25), (.ref b24), (.ref b24)]))
  obtain ⟨cl28, Ar28, qA28, SA28, NA28, HA28, GA28⟩ := id V_b25_27
  obtain ⟨T28, h28, X28, e28, W28, st28⟩ := stC X27 hx hZ e27 Ar28 (j := (2 : Int32)) (inb_of SA28 ⟨by decide, by decide⟩) (g := (mkF m 178 #[.val (.int a), .val (.int b), .val (.int c_), .val (.int c0), .val (.int c1), .val (.int d0), .val (.int d1), .val (.int e0_), .val (.int e1_), .val (.ref b1), .val (.ref b6), .val (.ref b11), .val (.ref b16), .unset, .unset] [(.int c1), (.int (2 : Int32)), (.ref b25), (.ref b25), (.ref b24), (.ref b24)])) rfl rfl (hb hby at_178)
  have Zs_b24_28 : Safe Z elL s.vm h28 b24 := Safe.wr W28 (Safe.arv hZ.alike V_b25_27 (by decide)) CR27.1 Zs_b24_27
  have O__28 : Old Z n0 h28 := O__27.wr W28 g_b25
  have E_b24_28 : Exa Z h28 b24 "java/lang/String" := E_b24_27.wr W28
  have F_b24_coder_28 : Fld Z h28 b24 "java/lang/String" "coder" "B" (.int (0 : Int32)) := F_b24_coder_27.other W28 (Or.inl ne_b24_b25)
  have F_b24_value_28 : Fld Z h28 b24 "java/lang/String" "value" "[B" .null := F_b24_value_27.other W28 (Or.inl ne_b24_b25)
  have SZ28 : n0 ≤ h28.size := by rw [Wr.size W28]; exact SZ27
  have K28 : Keep h0 h28 [] := K27.wr W28 (Or.inr sz_b25)
  have N28 := Fr.snoc X28 N27 g_b25
  have KBB0_28 : Keep T5.heap h28 [] := KBB0_27.wr W28 (Or.inr szb_B0_b25)
  have KBB1_28 : Keep T10.heap h28 [] := KBB1_27.wr W28 (Or.inr szb_B1_b25)
  have KBB2_28 : Keep T15.heap h28 [] := KBB2_27.wr W28 (Or.inr szb_B2_b25)
  have KBB3_28 : Keep T23.heap h28 [] := KBB3_27.wr W28 (Or.inr szb_B3_b25)
  have hk := Nat.le_trans hk (Nat.le_of_eq (Wr.size W28).symm)
  have CR28 : CHr Z elL s.vm h0 s.vm h28 := CR27.trans (CHr.wr W28 (Safe.arv hZ.alike V_b25_27 (by decide)) CR27.1)
  have V_b25_28 : Arv Z h28 b25 cA25 .char (7 : Int32) [(.int (nar .char l91)), (.int (nar .char c0)), (.int (nar .char c1)), (.int (0 : Int32)), (.int (0 : Int32)), (.int (0 : Int32)), (.int (0 : Int32))] (.int (0 : Int32)) := Arv.set Ar28 qA28 SA28 NA28 HA28 GA28 (fits_nar_char _) W28 2 rfl (Nat.le_of_ble_eq_true rfl)
  refine Gl.go (fun _ k => st28 _ k) ?_
  show Gl _ _ _ _ (T28.setTop (mkF m 179 #[.val (.int a), .val (.int b), .val (.int c_), .val (.int c0), .val (.int c1), .val (.int d0), .val (.int d1), .val (.int e0_), .val (.int e1_), .val (.ref b1), .val (.ref b6), .val (.ref b11), .val (.ref b16), .unset, .unset] [(.ref b25), (.ref b24), (.ref b24)]))
  refine Gl.go (fun _ k => XS.dup X28.here hx rfl (hb hby at_179) rfl rfl k) ?_
  show Gl _ _ _ _ (T28.setTop (mkF m 180 #[.val (.int a), .val (.int b), .val (.int c_), .val (.int c0), .val (.int c1), .val (.int d0), .val (.int d1), .val (.int e0_), .val (.int e1_), .val (.ref b1), .val (.ref b6), .val (.ref b11), .val (.ref b16), .unset, .unset] [(.ref b25), (.ref b25), (.ref b24), (.ref b24)]))
  refine Gl.go (fun _ k => XS.iconst X28.here hx rfl (hb hby at_180) k) ?_
  show Gl _ _ _ _ (T28.setTop (mkF m 181 #[.val (.int a), .val (.int b), .val (.int c_), .val (.int c0), .val (.int c1), .val (.int d0), .val (.int d1), .val (.int e0_), .val (.int e1_), .val (.ref b1), .val (.ref b6), .val (.ref b11), .val (.ref b16), .unset, .unset] [(.int (3 : Int32)), (.ref b25), (.ref b25), (.ref b24), (.ref b24)]))
  refine Gl.go (fun _ k => XS.bipush X28.here hx rfl (hb hby at_181) k) ?_
  show Gl _ _ _ _ (T28.setTop (mkF m 183 #[.val (.int a), .val (.int b), .val (.int c_), .val (.int c0), .val (.int c1), .val (.int d0), .val (.int d1), .val (.int e0_), .val (.int e1_), .val (.ref b1), .val (.ref b6), .val (.ref b11), .val (.ref b16), .unset, .unset] [(.int (32 : Int32)), (.int (3 : Int32)), (.ref b25), (.ref b25), (.ref b24), (.ref b24)]))
  rw [(h_l32 : (32 : Int32) = l32)]
  show Gl _ _ _ _ (T28.setTop (mkF m 183 #[.val (.int a), .val (.int b), .val (.int c_), .val (.int c0), .val (.int c1), .val (.int d0), .val (.int d1), .val (.int e0_), .val (.int e1_), .val (.ref b1), .val (.ref b6), .val (.ref b11), .val (.ref b16), .unset, .unset] [(.int l32), (.int (3 : Int32)), (.ref b25), (.ref b25), (.ref b24), (.ref b24)]))
  obtain ⟨cl29, Ar29, qA29, SA29, NA29, HA29, GA29⟩ := id V_b25_28
  obtain ⟨T29, h29, X29, e29, W29, st29⟩ := stC X28 hx hZ e28 Ar29 (j := (3 : Int32)) (inb_of SA29 ⟨by decide, by decide⟩) (g := (mkF m 183 #[.val (.int a), .val (.int b), .val (.int c_), .val (.int c0), .val (.int c1), .val (.int d0), .val (.int d1), .val (.int e0_), .val (.int e1_), .val (.ref b1), .val (.ref b6), .val (.ref b11), .val (.ref b16), .unset, .unset] [(.int l32), (.int (3 : Int32)), (.ref b25), (.ref b25), (.ref b24), (.ref b24)])) rfl rfl (hb hby at_183)
  have Zs_b24_29 : Safe Z elL s.vm h29 b24 := Safe.wr W29 (Safe.arv hZ.alike V_b25_28 (by decide)) CR28.1 Zs_b24_28
  have O__29 : Old Z n0 h29 := O__28.wr W29 g_b25
  have E_b24_29 : Exa Z h29 b24 "java/lang/String" := E_b24_28.wr W29
  have F_b24_coder_29 : Fld Z h29 b24 "java/lang/String" "coder" "B" (.int (0 : Int32)) := F_b24_coder_28.other W29 (Or.inl ne_b24_b25)
  have F_b24_value_29 : Fld Z h29 b24 "java/lang/String" "value" "[B" .null := F_b24_value_28.other W29 (Or.inl ne_b24_b25)
  have SZ29 : n0 ≤ h29.size := by rw [Wr.size W29]; exact SZ28
  have K29 : Keep h0 h29 [] := K28.wr W29 (Or.inr sz_b25)
  have N29 := Fr.snoc X29 N28 g_b25
  have KBB0_29 : Keep T5.heap h29 [] := KBB0_28.wr W29 (Or.inr szb_B0_b25)
  have KBB1_29 : Keep T10.heap h29 [] := KBB1_28.wr W29 (Or.inr szb_B1_b25)
  have KBB2_29 : Keep T15.heap h29 [] := KBB2_28.wr W29 (Or.inr szb_B2_b25)
  have KBB3_29 : Keep T23.heap h29 [] := KBB3_28.wr W29 (Or.inr szb_B3_b25)
  have hk := Nat.le_trans hk (Nat.le_of_eq (Wr.size W29).symm)
  have CR29 : CHr Z elL s.vm h0 s.vm h29 := CR28.trans (CHr.wr W29 (Safe.arv hZ.alike V_b25_28 (by decide)) CR28.1)
  have V_b25_29 : Arv Z h29 b25 cA25 .char (7 : Int32) [(.int (nar .char l91)), (.int (nar .char c0)), (.int (nar .char c1)), (.int (nar .char l32)), (.int (0 : Int32)), (.int (0 : Int32)), (.int (0 : Int32))] (.int (0 : Int32)) := Arv.set Ar29 qA29 SA29 NA29 HA29 GA29 (fits_nar_char _) W29 3 rfl (Nat.le_of_ble_eq_true rfl)
  refine Gl.go (fun _ k => st29 _ k) ?_
  show Gl _ _ _ _ (T29.setTop (mkF m 184 #[.val (.int a), .val (.int b), .val (.int c_), .val (.int c0), .val (.int c1), .val (.int d0), .val (.int d1), .val (.int e0_), .val (.int e1_), .val (.ref b1), .val (.ref b6), .val (.ref b11), .val (.ref b16), .unset, .unset] [(.ref b25), (.ref b24), (.ref b24)]))
  refine Gl.go (fun _ k => XS.dup X29.here hx rfl (hb hby at_184) rfl rfl k) ?_
  show Gl _ _ _ _ (T29.setTop (mkF m 185 #[.val (.int a), .val (.int b), .val (.int c_), .val (.int c0), .val (.int c1), .val (.int d0), .val (.int d1), .val (.int e0_), .val (.int e1_), .val (.ref b1), .val (.ref b6), .val (.ref b11), .val (.ref b16), .unset, .unset] [(.ref b25), (.ref b25), (.ref b24), (.ref b24)]))
  refine Gl.go (fun _ k => XS.iconst X29.here hx rfl (hb hby at_185) k) ?_
  show Gl _ _ _ _ (T29.setTop (mkF m 186 #[.val (.int a), .val (.int b), .val (.int c_), .val (.int c0), .val (.int c1), .val (.int d0), .val (.int d1), .val (.int e0_), .val (.int e1_), .val (.ref b1), .val (.ref b6), .val (.ref b11), .val (.ref b16), .unset, .unset] [(.int (4 : Int32)), (.ref b25), (.ref b25), (.ref b24), (.ref b24)]))
  refine Gl.go (fun _ k => XS.iload X29.here hx rfl (hb hby at_186) rfl  k) ?_
  show Gl _ _ _ _ (T29.setTop (mkF m 188 #[.val (.int a), .val (.int b), .val (.int c_), .val (.int c0), .val (.int c1), .val (.int d0), .val (.int d1), .val (.int e0_), .val (.int e1_), .val (.ref b1), .val (.ref b6), .val (.ref b11), .val (.ref b16), .unset, .unset] [(.int d0), (.int (4 : Int32)), (.ref b25), (.ref b25), (.ref b24), (.ref b24)]))
  obtain ⟨cl30, Ar30, qA30, SA30, NA30, HA30, GA30⟩ := id V_b25_29
  obtain ⟨T30, h30, X30, e30, W30, st30⟩ := stC X29 hx hZ e29 Ar30 (j := (4 : Int32)) (inb_of SA30 ⟨by decide, by decide⟩) (g := (mkF m 188 #[.val (.int a), .val (.int b), .val (.int c_), .val (.int c0), .val (.int c1), .val (.int d0), .val (.int d1), .val (.int e0_), .val (.int e1_), .val (.ref b1), .val (.ref b6), .val (.ref b11), .val (.ref b16), .unset, .unset] [(.int d0), (.int (4 : Int32)), (.ref b25), (.ref b25), (.ref b24), (.ref b24)])) rfl rfl (hb hby at_188)
  have Zs_b24_30 : Safe Z elL s.vm h30 b24 := Safe.wr W30 (Safe.arv hZ.alike V_b25_29 (by decide)) CR29.1 Zs_b24_29
  have O__30 : Old Z n0 h30 := O__29.wr W30 g_b25
  have E_b24_30 : Exa Z h30 b24 "java/lang/String" := E_b24_29.wr W30
  have F_b24_coder_30 : Fld Z h30 b24 "java/lang/String" "coder" "B" (.int (0 : Int32)) := F_b24_coder_29.other W30 (Or.inl ne_b24_b25)
  have F_b24_value_30 : Fld Z h30 b24 "java/lang/String" "value" "[B" .null := F_b24_value_29.other W30 (Or.inl ne_b24_b25)
  have SZ30 : n0 ≤ h30.size := by rw [Wr.size W30]; exact SZ29
  have K30 : Keep h0 h30 [] := K29.wr W30 (Or.inr sz_b25)
  have N30 := Fr.snoc X30 N29 g_b25
  have KBB0_30 : Keep T5.heap h30 [] := KBB0_29.wr W30 (Or.inr szb_B0_b25)
  have KBB1_30 : Keep T10.heap h30 [] := KBB1_29.wr W30 (Or.inr szb_B1_b25)
  have KBB2_30 : Keep T15.heap h30 [] := KBB2_29.wr W30 (Or.inr szb_B2_b25)
  have KBB3_30 : Keep T23.heap h30 [] := KBB3_29.wr W30 (Or.inr szb_B3_b25)
  have hk := Nat.le_trans hk (Nat.le_of_eq (Wr.size W30).symm)
  have CR30 : CHr Z elL s.vm h0 s.vm h30 := CR29.trans (CHr.wr W30 (Safe.arv hZ.alike V_b25_29 (by decide)) CR29.1)
  have V_b25_30 : Arv Z h30 b25 cA25 .char (7 : Int32) [(.int (nar .char l91)), (.int (nar .char c0)), (.int (nar .char c1)), (.int (nar .char l32)), (.int (nar .char d0)), (.int (0 : Int32)), (.int (0 : Int32))] (.int (0 : Int32)) := Arv.set Ar30 qA30 SA30 NA30 HA30 GA30 (fits_nar_char _) W30 4 rfl (Nat.le_of_ble_eq_true rfl)
  refine Gl.go (fun _ k => st30 _ k) ?_
  show Gl _ _ _ _ (T30.setTop (mkF m 189 #[.val (.int a), .val (.int b), .val (.int c_), .val (.int c0), .val (.int c1), .val (.int d0), .val (.int d1), .val (.int e0_), .val (.int e1_), .val (.ref b1), .val (.ref b6), .val (.ref b11), .val (.ref b16), .unset, .unset] [(.ref b25), (.ref b24), (.ref b24)]))
  refine Gl.go (fun _ k => XS.dup X30.here hx rfl (hb hby at_189) rfl rfl k) ?_
  show Gl _ _ _ _ (T30.setTop (mkF m 190 #[.val (.int a), .val (.int b), .val (.int c_), .val (.int c0), .val (.int c1), .val (.int d0), .val (.int d1), .val (.int e0_), .val (.int e1_), .val (.ref b1), .val (.ref b6), .val (.ref b11), .val (.ref b16), .unset, .unset] [(.ref b25), (.ref b25), (.ref b24), (.ref b24)]))
  refine Gl.go (fun _ k => XS.iconst X30.here hx rfl (hb hby at_190) k) ?_
  show Gl _ _ _ _ (T30.setTop (mkF m 191 #[.val (.int a), .val (.int b), .val (.int c_), .val (.int c0), .val (.int c1), .val (.int d0), .val (.int d1), .val (.int e0_), .val (.int e1_), .val (.ref b1), .val (.ref b6), .val (.ref b11), .val (.ref b16), .unset, .unset] [(.int (5 : Int32)), (.ref b25), (.ref b25), (.ref b24), (.ref b24)]))
  refine Gl.go (fun _ k => XS.iload X30.here hx rfl (hb hby at_191) rfl  k) ?_
  show Gl _ _ _ _ (T30.setTop (mkF m 193 #[.val (.int a), .val (.int b), .val (.int c_), .val (.int c0), .val (.int c1), .val (.int d0), .val (.int d1), .val (.int e0_), .val (.int e1_), .val (.ref b1), .val (.ref b6), .val (.ref b11), .val (.ref b16), .unset, .unset] [(.int d1), (.int (5 : Int32)), (.ref b25), (.ref b25), (.ref b24), (.ref b24)]))
  obtain ⟨cl31, Ar31, qA31, SA31, NA31, HA31, GA31⟩ := id V_b25_30
  obtain ⟨T31, h31, X31, e31, W31, st31⟩ := stC X30 hx hZ e30 Ar31 (j := (5 : Int32)) (inb_of SA31 ⟨by decide, by decide⟩) (g := (mkF m 193 #[.val (.int a), .val (.int b), .val (.int c_), .val (.int c0), .val (.int c1), .val (.int d0), .val (.int d1), .val (.int e0_), .val (.int e1_), .val (.ref b1), .val (.ref b6), .val (.ref b11), .val (.ref b16), .unset, .unset] [(.int d1), (.int (5 : Int32)), (.ref b25), (.ref b25), (.ref b24), (.ref b24)])) rfl rfl (hb hby at_193)
  have Zs_b24_31 : Safe Z elL s.vm h31 b24 := Safe.wr W31 (Safe.arv hZ.alike V_b25_30 (by decide)) CR30.1 Zs_b24_30
  have O__31 : Old Z n0 h31 := O__30.wr W31 g_b25
  have E_b24_31 : Exa Z h31 b24 "java/lang/String" := E_b24_30.wr W31
  have F_b24_coder_31 : Fld Z h31 b24 "java/lang/String" "coder" "B" (.int (0 : Int32)) := F_b24_coder_30.other W31 (Or.inl ne_b24_b25)
  have F_b24_value_31 : Fld Z h31 b24 "java/lang/String" "value" "[B" .null := F_b24_value_30.other W31 (Or.inl ne_b24_b25)
  have SZ31 : n0 ≤ h31.size := by rw [Wr.size W31]; exact SZ30
  have K31 : Keep h0 h31 [] := K30.wr W31 (Or.inr sz_b25)
  have N31 := Fr.snoc X31 N30 g_b25
  have KBB0_31 : Keep T5.heap h31 [] := KBB0_30.wr W31 (Or.inr szb_B0_b25)
  have KBB1_31 : Keep T10.heap h31 [] := KBB1_30.wr W31 (Or.inr szb_B1_b25)
  have KBB2_31 : Keep T15.heap h31 [] := KBB2_30.wr W31 (Or.inr szb_B2_b25)
  have KBB3_31 : Keep T23.heap h31 [] := KBB3_30.wr W31 (Or.inr szb_B3_b25)
  have hk := Nat.le_trans hk (Nat.le_of_eq (Wr.size W31).symm)
  have CR31 : CHr Z elL s.vm h0 s.vm h31 := CR30.trans (CHr.wr W31 (Safe.arv hZ.alike V_b25_30 (by decide)) CR30.1)
  have V_b25_31 : Arv Z h31 b25 cA25 .char (7 : Int32) [(.int (nar .char l91)), (.int (nar .char c0)), (.int (nar .char c1)), (.int (nar .char l32)), (.int (nar .char d0)), (.int (nar .char d1)), (.int (0 : Int32))] (.int (0 : Int32)) := Arv.set Ar31 qA31 SA31 NA31 HA31 GA31 (fits_nar_char _) W31 5 rfl (Nat.le_of_ble_eq_true rfl)
  refine Gl.go (fun _ k => st31 _ k) ?_
  show Gl _ _ _ _ (T31.setTop (mkF m 194 #[.val (.int a), .val (.int b), .val (.int c_), .val (.int c0), .val (.int c1), .val (.int d0), .val (.int d1), .val (.int e0_), .val (.int e1_), .val (.ref b1), .val (.ref b6), .val (.ref b11), .val (.ref b16), .unset, .unset] [(.ref b25), (.ref b24), (.ref b24)]))
  refine Gl.go (fun _ k => XS.dup X31.here hx rfl (hb hby at_194) rfl rfl k) ?_
  show Gl _ _ _ _ (T31.setTop (mkF m 195 #[.val (.int a), .val (.int b), .val (.int c_), .val (.int c0), .val (.int c1), .val (.int d0), .val (.int d1), .val (.int e0_), .val (.int e1_), .val (.ref b1), .val (.ref b6), .val (.ref b11), .val (.ref b16), .unset, .unset] [(.ref b25), (.ref b25), (.ref b24), (.ref b24)]))
  refine Gl.go (fun _ k => XS.bipush X31.here hx rfl (hb hby at_195) k) ?_
  show Gl _ _ _ _ (T31.setTop (mkF m 197 #[.val (.int a), .val (.int b), .val (.int c_), .val (.int c0), .val (.int c1), .val (.int d0), .val (.int d1), .val (.int e0_), .val (.int e1_), .val (.ref b1), .val (.ref b6), .val (.ref b11), .val (.ref b16), .unset, .unset] [(.int (6 : Int32)), (.ref b25), (.ref b25), (.ref b24), (.ref b24)]))
  refine Gl.go (fun _ k => XS.bipush X31.here hx rfl (hb hby at_197) k) ?_
  show Gl _ _ _ _ (T31.setTop (mkF m 199 #[.val (.int a), .val (.int b), .val (.int c_), .val (.int c0), .val (.int c1), .val (.int d0), .val (.int d1), .val (.int e0_), .val (.int e1_), .val (.ref b1), .val (.ref b6), .val (.ref b11), .val (.ref b16), .unset, .unset] [(.int (93 : Int32)), (.int (6 : Int32)), (.ref b25), (.ref b25), (.ref b24), (.ref b24)]))
  rw [(h_l93 : (93 : Int32) = l93)]
  show Gl _ _ _ _ (T31.setTop (mkF m 199 #[.val (.int a), .val (.int b), .val (.int c_), .val (.int c0), .val (.int c1), .val (.int d0), .val (.int d1), .val (.int e0_), .val (.int e1_), .val (.ref b1), .val (.ref b6), .val (.ref b11), .val (.ref b16), .unset, .unset] [(.int l93), (.int (6 : Int32)), (.ref b25), (.ref b25), (.ref b24), (.ref b24)]))
  obtain ⟨cl32, Ar32, qA32, SA32, NA32, HA32, GA32⟩ := id V_b25_31
  obtain ⟨T32, h32, X32, e32, W32, st32⟩ := stC X31 hx hZ e31 Ar32 (j := (6 : Int32)) (inb_of SA32 ⟨by decide, by decide⟩) (g := (mkF m 199 #[.val (.int a), .val (.int b), .val (.int c_), .val (.int c0), .val (.int c1), .val (.int d0), .val (.int d1), .val (.int e0_), .val (.int e1_), .val (.ref b1), .val (.ref b6), .val (.ref b11), .val (.ref b16), .unset, .unset] [(.int l93), (.int (6 : Int32)), (.ref b25), (.ref b25), (.ref b24), (.ref b24)])) rfl rfl (hb hby at_199)
  have Zs_b24_32 : Safe Z elL s.vm h32 b24 := Safe.wr W32 (Safe.arv hZ.alike V_b25_31 (by decide)) CR31.1 Zs_b24_31
  have O__32 : Old Z n0 h32 := O__31.wr W32 g_b25
  have E_b24_32 : Exa Z h32 b24 "java/lang/String" := E_b24_31.wr W32
  have F_b24_coder_32 : Fld Z h32 b24 "java/lang/String" "coder" "B" (.int (0 : Int32)) := F_b24_coder_31.other W32 (Or.inl ne_b24_b25)
  have F_b24_value_32 : Fld Z h32 b24 "java/lang/String" "value" "[B" .null := F_b24_value_31.other W32 (Or.inl ne_b24_b25)
  have SZ32 : n0 ≤ h32.size := by rw [Wr.size W32]; exact SZ31
  have K32 : Keep h0 h32 [] := K31.wr W32 (Or.inr sz_b25)
  have N32 := Fr.snoc X32 N31 g_b25
  have KBB0_32 : Keep T5.heap h32 [] := KBB0_31.wr W32 (Or.inr szb_B0_b25)
  have KBB1_32 : Keep T10.heap h32 [] := KBB1_31.wr W32 (Or.inr szb_B1_b25)
  have KBB2_32 : Keep T15.heap h32 [] := KBB2_31.wr W32 (Or.inr szb_B2_b25)
  have KBB3_32 : Keep T23.heap h32 [] := KBB3_31.wr W32 (Or.inr szb_B3_b25)
  have hk := Nat.le_trans hk (Nat.le_of_eq (Wr.size W32).symm)
  have CR32 : CHr Z elL s.vm h0 s.vm h32 := CR31.trans (CHr.wr W32 (Safe.arv hZ.alike V_b25_31 (by decide)) CR31.1)
  have V_b25_32 : Arv Z h32 b25 cA25 .char (7 : Int32) [(.int (nar .char l91)), (.int (nar .char c0)), (.int (nar .char c1)), (.int (nar .char l32)), (.int (nar .char d0)), (.int (nar .char d1)), (.int (nar .char l93))] (.int (0 : Int32)) := Arv.set Ar32 qA32 SA32 NA32 HA32 GA32 (fits_nar_char _) W32 6 rfl (Nat.le_of_ble_eq_true rfl)
  refine Gl.go (fun _ k => st32 _ k) ?_
  show Gl _ _ _ _ (T32.setTop (mkF m 200 #[.val (.int a), .val (.int b), .val (.int c_), .val (.int c0), .val (.int c1), .val (.int d0), .val (.int d1), .val (.int e0_), .val (.int e1_), .val (.ref b1), .val (.ref b6), .val (.ref b11), .val (.ref b16), .unset, .unset] [(.ref b25), (.ref b24), (.ref b24)]))
  have hp : ∀ c ∈ ([nar .char l91, nar .char c0, nar .char c1, nar .char l32, nar .char d0, nar .char d1, nar .char l93] : List Int32), ¬ c < 0 ∧ ¬ (255 : Int32) < c := by
    intro c hc
    simp only [List.mem_cons, List.not_mem_nil, or_false] at hc
    rcases hc with rfl | rfl | rfl | rfl | rfl | rfl | rfl
    · exact p_91
    · exact p_c0
    · exact p_c1
    · exact p_32
    · exact p_d0
    · exact p_d1
    · exact p_93
  obtain ⟨_, _, ⟨T33, L33, k33, n33⟩, -, X33, ⟨Lc33, hQ33, l33, y33, z33⟩, st33⟩ := X32.specialBack hx (y := (⟨"java/lang/String", "<init>", "([C)V"⟩ : MethodName)) rfl hown (mvT hZ (hw _ (List.mem_of_getElem? (i := 4) rfl))) (mvT hZ (hw _ (List.mem_of_getElem? (i := 5) rfl))) (mvT hZ (hw _ (List.mem_of_getElem? (i := 6) rfl))) (by decide) (StrChars.Road.backV (W := 1) hZ hws (kI := 4) (hw _ (List.mem_of_getElem? (i := 1) rfl)) (cs := ([nar .char l91, nar .char c0, nar .char c1, nar .char l32, nar .char d0, nar .char d1, nar .char l93] : List Int32)) (bs := (([nar .char l91, nar .char c0, nar .char c1, nar .char l32, nar .char d0, nar .char d1, nar .char l93] : List Int32)).map (fun c => c.toInt8.toInt32)) (n := 7) g_b24 SZ32 E_b24_32 F_b24_value_32 F_b24_coder_32 V_b25_32 (O2.ext O__32.2) P5 rfl rfl (by decide) (by decide) hp rfl (by decide) (by decide)) (g := (mkF m 200 #[.val (.int a), .val (.int b), .val (.int c_), .val (.int c0), .val (.int c1), .val (.int d0), .val (.int d1), .val (.int e0_), .val (.int e1_), .val (.ref b1), .val (.ref b6), .val (.ref b11), .val (.ref b16), .unset, .unset] [(.ref b25), (.ref b24), (.ref b24)])) rfl (by rw [hml]; rfl) (Steps.refl _) (a := b24) (argsL := [(.ref b25)]) (rest := [(.ref b24)]) (lenOf pd_19 rfl) rfl (by show 2 * 0 + _ ≤ _; exact Nat.le_of_eq rfl) (hb hby at_200) (fun _ _ => ⟨rfl, e32, (by decide : 14 + 1 ≤ _), (by decide : 49 + 7 ≤ _)⟩)
  dsimp only [Pt.U, Pt.locs, Pt.cells, Pt.slots] at X33 l33 y33 z33 st33
  subst y33 z33
  obtain ⟨rfl, Nq33, Kc33, Es33, Cs33, ta33, kb33, -, -, -, Vs33, Ks33⟩ := hQ33
  have N33 : Fr n0 L33 := by rw [l33]; exact Fr.app N32 Nq33
  refine Gl.go (fun _ k => st33.trans k) ?_
  have Zs_b24_33 : Safe Z elL s.vm T33.heap b24 := Safe.keep Kc33 (sfS Zs_b24_32 sf0) CR32.1 Zs_b24_32
  have O__33 : Old Z n0 T33.heap := O__32.keep Kc33 (allS g_b24 all0)
  have E_b24_33 : Exa Z T33.heap b24 "java/lang/String" := E_b24_32.keep Kc33
  have V_b25_33 : Arv Z T33.heap b25 cA25 .char (7 : Int32) [(.int (nar .char l91)), (.int (nar .char c0)), (.int (nar .char c1)), (.int (nar .char l32)), (.int (nar .char d0)), (.int (nar .char d1)), (.int (nar .char l93))] (.int (0 : Int32)) := V_b25_32.keep Kc33 (ninS (Ne.symm ne_b24_b25) nin0)
  have SZ33 : n0 ≤ T33.heap.size := Nat.le_trans SZ32 Kc33.1
  have K33 : Keep h0 T33.heap [] := K32.trans Kc33 (allS (Or.inr sz_b24) all0)
  have KBB0_33 : Keep T5.heap T33.heap [] := KBB0_32.trans Kc33 (allS (Or.inr szb_B0_b24) all0)
  have KBB1_33 : Keep T10.heap T33.heap [] := KBB1_32.trans Kc33 (allS (Or.inr szb_B1_b24) all0)
  have KBB2_33 : Keep T15.heap T33.heap [] := KBB2_32.trans Kc33 (allS (Or.inr szb_B2_b24) all0)
  have KBB3_33 : Keep T23.heap T33.heap [] := KBB3_32.trans Kc33 (allS (Or.inr szb_B3_b24) all0)
  have hk := Nat.le_trans hk Kc33.1
  have CR33 : CHr Z elL s.vm h0 s.vm T33.heap := CR32.trans (CHr.keep Kc33 (sfS Zs_b24_32 sf0) CR32.1)
  show Gl _ _ _ _ (T33.setTop (mkF m 203 #[.val (.int a), .val (.int b), .val (.int c_), .val (.int c0), .val (.int c1), .val (.int d0), .val (.int d1), .val (.int e0_), .val (.int e1_), .val (.ref b1), .val (.ref b6), .val (.ref b11), .val (.ref b16), .unset, .unset] [(.ref b24)]))
  have S_4 : StrAt Z T33.heap b24 ((([nar .char l91, nar .char c0, nar .char c1, nar .char l32, nar .char d0, nar .char d1, nar .char l93] : List Int32)).map (fun c => c.toInt8.toInt32)) := ⟨Es33, Cs33, Nat.lt_of_lt_of_le (Nat.lt_succ_self 7) (by decide), ta33, kb33, Vs33, Ks33⟩
  have KBB4 : Keep T33.heap T33.heap [] := Keep.refl _ _
  refine Gl.go (fun _ k => XS.astore X33.here hx rfl (hb hby at_203) rfl rfl (l' := #[.val (.int a), .val (.int b), .val (.int c_), .val (.int c0), .val (.int c1), .val (.int d0), .val (.int d1), .val (.int e0_), .val (.int e1_), .val (.ref b1), .val (.ref b6), .val (.ref b11), .val (.ref b16), .val (.ref b24), .unset]) rfl k) ?_
  show Gl _ _ _ _ (T33.setTop (mkF m 205 #[.val (.int a), .val (.int b), .val (.int c_), .val (.int c0), .val (.int c1), .val (.int d0), .val (.int d1), .val (.int e0_), .val (.int e1_), .val (.ref b1), .val (.ref b6), .val (.ref b11), .val (.ref b16), .val (.ref b24), .unset] []))
  refine Gl.go (fun _ k => XS.aload X33.here hx rfl (hb hby at_205) rfl rfl  k) ?_
  show Gl _ _ _ _ (T33.setTop (mkF m 207 #[.val (.int a), .val (.int b), .val (.int c_), .val (.int c0), .val (.int c1), .val (.int d0), .val (.int d1), .val (.int e0_), .val (.int e1_), .val (.ref b1), .val (.ref b6), .val (.ref b11), .val (.ref b16), .val (.ref b24), .unset] [(.ref b1)]))
  refine Gl.go (fun _ k => XS.aload X33.here hx rfl (hb hby at_207) rfl rfl  k) ?_
  show Gl _ _ _ _ (T33.setTop (mkF m 209 #[.val (.int a), .val (.int b), .val (.int c_), .val (.int c0), .val (.int c1), .val (.int d0), .val (.int d1), .val (.int e0_), .val (.int e1_), .val (.ref b1), .val (.ref b6), .val (.ref b11), .val (.ref b16), .val (.ref b24), .unset] [(.ref b6), (.ref b1)]))
  refine Gl.go (fun _ k => XS.aload X33.here hx rfl (hb hby at_209) rfl rfl  k) ?_
  show Gl _ _ _ _ (T33.setTop (mkF m 211 #[.val (.int a), .val (.int b), .val (.int c_), .val (.int c0), .val (.int c1), .val (.int d0), .val (.int d1), .val (.int e0_), .val (.int e1_), .val (.ref b1), .val (.ref b6), .val (.ref b11), .val (.ref b16), .val (.ref b24), .unset] [(.ref b11), (.ref b6), (.ref b1)]))
  obtain ⟨_, _, ⟨T34, L34, k34, n34⟩, -, X34, ⟨Lc34, hQ34, l34, y34, z34⟩, st34⟩ := Jvm.LawKit.callS X33 hx (y := (⟨"com/example/kontraktor/kontraktor/cli/Option", "optional", "(Ljava/lang/String;Ljava/lang/String;Ljava/lang/String;)Lcom/example/kontraktor/kontraktor/cli/Option;"⟩ : MethodName)) hown (mvT hZ (hw _ (List.mem_of_getElem? (i := 30) rfl))) (mvT hZ (hw _ (List.mem_of_getElem? (i := 31) rfl))) (mvT hZ (hw _ (List.mem_of_getElem? (i := 32) rfl))) (mvT hZ (hw _ (List.mem_of_getElem? (i := 33) rfl))) (by decide) (backOf (W := 0) (rm_fac l Z a0 hw [] b1 b6 b11 T33.heap n0 SZ33 ) hZ (hw _ (List.mem_of_getElem? (i := 33) rfl)) (hw _ (List.mem_of_getElem? (i := 32) rfl)) (by decide) (by decide)) (g := (mkF m 211 #[.val (.int a), .val (.int b), .val (.int c_), .val (.int c0), .val (.int c1), .val (.int d0), .val (.int d1), .val (.int e0_), .val (.int e1_), .val (.ref b1), .val (.ref b6), .val (.ref b11), .val (.ref b16), .val (.ref b24), .unset] [(.ref b11), (.ref b6), (.ref b1)])) rfl (by rw [hml]; rfl) (argsL := [(.ref b1), (.ref b6), (.ref b11)]) (rest := []) (lenOf pd_20 rfl) rfl (by show 2 * 0 + _ ≤ _; exact Nat.le_of_eq rfl) (hb hby at_211) (fun _ _ => ⟨rfl, rfl, (by decide : 15 + 1 ≤ _), (by decide : 56 + 5 ≤ _)⟩)
  dsimp only [Pt.U, Pt.locs, Pt.cells, Pt.slots] at X34 l34 y34 z34 st34 hQ34
  subst y34 z34
  obtain ⟨a34, rfl, Nq34, Kc34, Oc34⟩ := hQ34
  have N34 : Fr n0 L34 := by rw [l34]; exact Fr.app N33 Nq34
  refine Gl.go (fun _ k => st34 _ k) ?_
  have Ex34 := ext_of_keep Kc34
  have O__34 : Old Z n0 T34.heap := O__33.ext Ex34
  have SZ34 : n0 ≤ T34.heap.size := Nat.le_trans SZ33 Ex34.1
  have K34 : Keep h0 T34.heap [] := K33.ext Ex34
  have KBB0_34 : Keep T5.heap T34.heap [] := KBB0_33.ext Ex34
  have KBB1_34 : Keep T10.heap T34.heap [] := KBB1_33.ext Ex34
  have KBB2_34 : Keep T15.heap T34.heap [] := KBB2_33.ext Ex34
  have KBB3_34 : Keep T23.heap T34.heap [] := KBB3_33.ext Ex34
  have KBB4_34 : Keep T33.heap T34.heap [] := KBB4.ext Ex34
  have hk := Nat.le_trans hk Ex34.1
  have CR34 : CHr Z elL s.vm h0 s.vm T34.heap := CR33.trans (CHr.ext Ex34 CR33.1)
  show Gl _ _ _ _ (T34.setTop (mkF m 214 #[.val (.int a), .val (.int b), .val (.int c_), .val (.int c0), .val (.int c1), .val (.int d0), .val (.int d1), .val (.int e0_), .val (.int e1_), .val (.ref b1), .val (.ref b6), .val (.ref b11), .val (.ref b16), .val (.ref b24), .unset] [(.ref a34)]))
  have KBO : Keep T34.heap T34.heap [] := Keep.refl _ _
  refine Gl.go (fun _ k => XS.astore X34.here hx rfl (hb hby at_214) rfl rfl (l' := #[.val (.int a), .val (.int b), .val (.int c_), .val (.int c0), .val (.int c1), .val (.int d0), .val (.int d1), .val (.int e0_), .val (.int e1_), .val (.ref b1), .val (.ref b6), .val (.ref b11), .val (.ref b16), .val (.ref b24), .val (.ref a34)]) rfl k) ?_
  show Gl _ _ _ _ (T34.setTop (mkF m 216 #[.val (.int a), .val (.int b), .val (.int c_), .val (.int c0), .val (.int c1), .val (.int d0), .val (.int d1), .val (.int e0_), .val (.int e1_), .val (.ref b1), .val (.ref b6), .val (.ref b11), .val (.ref b16), .val (.ref b24), .val (.ref a34)] []))
  refine Gl.go (fun _ k => XS.aload X34.here hx rfl (hb hby at_216) rfl rfl  k) ?_
  show Gl _ _ _ _ (T34.setTop (mkF m 218 #[.val (.int a), .val (.int b), .val (.int c_), .val (.int c0), .val (.int c1), .val (.int d0), .val (.int d1), .val (.int e0_), .val (.int e1_), .val (.ref b1), .val (.ref b6), .val (.ref b11), .val (.ref b16), .val (.ref b24), .val (.ref a34)] [(.ref a34)]))
  obtain ⟨cq35, kq35, q35a, q35b, q35c⟩ := isOf (s := s.setVm s.vm) hZ rfl (Oc34.ext (ext_of_keep KBO)).1
  obtain ⟨_, _, ⟨T35, L35, k35, n35⟩, -, X35, ⟨Lc35, hQ35, l35, y35, z35⟩, st35⟩ := X34.virtualBack hx (y := (⟨"com/example/kontraktor/kontraktor/cli/Option", "getName", "()Ljava/lang/String;"⟩ : MethodName)) (z := (⟨"com/example/kontraktor/kontraktor/cli/Option", "getName", "()Ljava/lang/String;"⟩ : MethodName)) hown (mvT hZ (hw _ (List.mem_of_getElem? (i := 50) rfl))) (mvT hZ (hw _ (List.mem_of_getElem? (i := 51) rfl))) (notFace_of_selects (args := #[]) (mvT hZ (hw _ (List.mem_of_getElem? (i := 53) rfl)))) (mvT hZ (hw _ (List.mem_of_getElem? (i := 53) rfl))) (mvT hZ (hw _ (List.mem_of_getElem? (i := 52) rfl))) (by decide) (backOf (W := 0) (rm_gna l Z a0 hw [] a34 b1 b6 b11 T34.heap n0 SZ34 (Oc34.ext (ext_of_keep KBO))) hZ (hw _ (List.mem_of_getElem? (i := 54) rfl)) (hw _ (List.mem_of_getElem? (i := 32) rfl)) (by decide) (by decide)) q35a q35c (g := (mkF m 218 #[.val (.int a), .val (.int b), .val (.int c_), .val (.int c0), .val (.int c1), .val (.int d0), .val (.int d1), .val (.int e0_), .val (.int e1_), .val (.ref b1), .val (.ref b6), .val (.ref b11), .val (.ref b16), .val (.ref b24), .val (.ref a34)] [(.ref a34)])) rfl (by rw [hml]; rfl) (Steps.refl _) (argsL := []) (rest := []) (lenOf pd_18 rfl) rfl (by show 2 * 0 + _ ≤ _; exact Nat.le_of_eq rfl) (hb hby at_218) (fun _ _ => ⟨rfl, rfl, (by decide : 16 + 0 ≤ _), (by decide : 61 + 0 ≤ _)⟩)
  dsimp only [Pt.U, Pt.locs, Pt.cells, Pt.slots] at X35 l35 y35 z35 st35 hQ35
  subst y35 z35
  obtain ⟨rfl, Nq35, e35⟩ := hQ35
  have N35 : Fr n0 L35 := by rw [l35]; exact Fr.app N34 Nq35
  refine Gl.go (fun _ k => st35.trans k) ?_
  show Gl _ _ _ _ (T35.setTop (mkF m 221 #[.val (.int a), .val (.int b), .val (.int c_), .val (.int c0), .val (.int c1), .val (.int d0), .val (.int d1), .val (.int e0_), .val (.int e1_), .val (.ref b1), .val (.ref b6), .val (.ref b11), .val (.ref b16), .val (.ref b24), .val (.ref a34)] [(.ref b1)]))
  refine Gl.go (fun _ k => XS.aload X35.here hx rfl (hb hby at_221) rfl rfl  k) ?_
  show Gl _ _ _ _ (T35.setTop (mkF m 223 #[.val (.int a), .val (.int b), .val (.int c_), .val (.int c0), .val (.int c1), .val (.int d0), .val (.int d1), .val (.int e0_), .val (.int e1_), .val (.ref b1), .val (.ref b6), .val (.ref b11), .val (.ref b16), .val (.ref b24), .val (.ref a34)] [(.ref b1), (.ref b1)]))
  obtain ⟨cq36, kq36, q36a, q36b, q36c⟩ := isOf (s := s.setVm s.vm) hZ e35 (S_0.ext (ext_of_keep KBB0_34)).1
  obtain ⟨_, _, ⟨T36, L36, k36, n36⟩, -, X36, ⟨Lc36, hQ36, l36, y36, z36⟩, st36⟩ := X35.virtualBack hx (y := (⟨"java/lang/String", "equals", "(Ljava/lang/Object;)Z"⟩ : MethodName)) (z := (⟨"java/lang/String", "equals", "(Ljava/lang/Object;)Z"⟩ : MethodName)) hown (mvT hZ (hw _ (List.mem_of_getElem? (i := 55) rfl))) (mvT hZ (hw _ (List.mem_of_getElem? (i := 56) rfl))) (notFace_of_selects (args := #[]) (mvT hZ (hw _ (List.mem_of_getElem? (i := 58) rfl)))) (mvT hZ (hw _ (List.mem_of_getElem? (i := 58) rfl))) (mvT hZ (hw _ (List.mem_of_getElem? (i := 57) rfl))) (by decide) (backOf (W := 0) (rm_seq l Z a0 hw [] b1 b1 ((([nar .char c0, nar .char c1] : List Int32)).map (fun c => c.toInt8.toInt32)) ((([nar .char c0, nar .char c1] : List Int32)).map (fun c => c.toInt8.toInt32)) G1 T34.heap n0 SZ34 (S_0.ext (ext_of_keep KBB0_34)) (S_0.ext (ext_of_keep KBB0_34)) (O2.ext O__34.2) P5) hZ (hw _ (List.mem_of_getElem? (i := 59) rfl)) (hw _ (List.mem_of_getElem? (i := 2) rfl)) (by decide) (by decide)) q36a q36c (g := (mkF m 223 #[.val (.int a), .val (.int b), .val (.int c_), .val (.int c0), .val (.int c1), .val (.int d0), .val (.int d1), .val (.int e0_), .val (.int e1_), .val (.ref b1), .val (.ref b6), .val (.ref b11), .val (.ref b16), .val (.ref b24), .val (.ref a34)] [(.ref b1), (.ref b1)])) rfl (by rw [hml]; rfl) (Steps.refl _) (argsL := [(.ref b1)]) (rest := []) (lenOf pd_21 rfl) rfl (by show 2 * 0 + _ ≤ _; exact Nat.le_of_eq rfl) (hb hby at_223) (fun _ _ => ⟨rfl, e35, (by decide : 16 + 0 ≤ _), (by decide : 61 + 0 ≤ _)⟩)
  dsimp only [Pt.U, Pt.locs, Pt.cells, Pt.slots] at X36 l36 y36 z36 st36 hQ36
  subst y36 z36
  obtain ⟨rfl, Nq36, e36⟩ := hQ36
  have N36 : Fr n0 L36 := by rw [l36]; exact Fr.app N35 Nq36
  refine Gl.go (fun _ k => st36.trans k) ?_
  show Gl _ _ _ _ (T36.setTop (mkF m 226 #[.val (.int a), .val (.int b), .val (.int c_), .val (.int c0), .val (.int c1), .val (.int d0), .val (.int d1), .val (.int e0_), .val (.int e1_), .val (.ref b1), .val (.ref b6), .val (.ref b11), .val (.ref b16), .val (.ref b24), .val (.ref a34)] [(.int (eqI ((([nar .char c0, nar .char c1] : List Int32)).map (fun c => c.toInt8.toInt32)) ((([nar .char c0, nar .char c1] : List Int32)).map (fun c => c.toInt8.toInt32))))]))
  rw [(eqI_yes (rfl) : (eqI ((([nar .char c0, nar .char c1] : List Int32)).map (fun c => c.toInt8.toInt32)) ((([nar .char c0, nar .char c1] : List Int32)).map (fun c => c.toInt8.toInt32))) = (1 : Int32))]
  show Gl _ _ _ _ (T36.setTop (mkF m 226 #[.val (.int a), .val (.int b), .val (.int c_), .val (.int c0), .val (.int c1), .val (.int d0), .val (.int d1), .val (.int e0_), .val (.int e1_), .val (.ref b1), .val (.ref b6), .val (.ref b11), .val (.ref b16), .val (.ref b24), .val (.ref a34)] [(.int (1 : Int32))]))
  refine Gl.go (fun _ k => XS.ifNo X36.here hx rfl (hb hby at_226) rfl ((if0 _ _).trans (feq (by decide)).1) k) ?_
  show Gl _ _ _ _ (T36.setTop (mkF m 229 #[.val (.int a), .val (.int b), .val (.int c_), .val (.int c0), .val (.int c1), .val (.int d0), .val (.int d1), .val (.int e0_), .val (.int e1_), .val (.ref b1), .val (.ref b6), .val (.ref b11), .val (.ref b16), .val (.ref b24), .val (.ref a34)] []))
  refine Gl.go (fun _ k => XS.aload X36.here hx rfl (hb hby at_229) rfl rfl  k) ?_
  show Gl _ _ _ _ (T36.setTop (mkF m 231 #[.val (.int a), .val (.int b), .val (.int c_), .val (.int c0), .val (.int c1), .val (.int d0), .val (.int d1), .val (.int e0_), .val (.int e1_), .val (.ref b1), .val (.ref b6), .val (.ref b11), .val (.ref b16), .val (.ref b24), .val (.ref a34)] [(.ref a34)]))
  obtain ⟨cq37, kq37, q37a, q37b, q37c⟩ := isOf (s := s.setVm s.vm) hZ e36 (Oc34.ext (ext_of_keep KBO)).1
  obtain ⟨_, _, ⟨T37, L37, k37, n37⟩, -, X37, ⟨Lc37, hQ37, l37, y37, z37⟩, st37⟩ := X36.virtualBack hx (y := (⟨"com/example/kontraktor/kontraktor/cli/Option", "getDescription", "()Ljava/lang/String;"⟩ : MethodName)) (z := (⟨"com/example/kontraktor/kontraktor/cli/Option", "getDescription", "()Ljava/lang/String;"⟩ : MethodName)) hown (mvT hZ (hw _ (List.mem_of_getElem? (i := 60) rfl))) (mvT hZ (hw _ (List.mem_of_getElem? (i := 61) rfl))) (notFace_of_selects (args := #[]) (mvT hZ (hw _ (List.mem_of_getElem? (i := 63) rfl)))) (mvT hZ (hw _ (List.mem_of_getElem? (i := 63) rfl))) (mvT hZ (hw _ (List.mem_of_getElem? (i := 62) rfl))) (by decide) (backOf (W := 0) (rm_gde l Z a0 hw [] a34 b1 b6 b11 T34.heap n0 SZ34 (Oc34.ext (ext_of_keep KBO))) hZ (hw _ (List.mem_of_getElem? (i := 64) rfl)) (hw _ (List.mem_of_getElem? (i := 32) rfl)) (by decide) (by decide)) q37a q37c (g := (mkF m 231 #[.val (.int a), .val (.int b), .val (.int c_), .val (.int c0), .val (.int c1), .val (.int d0), .val (.int d1), .val (.int e0_), .val (.int e1_), .val (.ref b1), .val (.ref b6), .val (.ref b11), .val (.ref b16), .val (.ref b24), .val (.ref a34)] [(.ref a34)])) rfl (by rw [hml]; rfl) (Steps.refl _) (argsL := []) (rest := []) (lenOf pd_18 rfl) rfl (by show 2 * 0 + _ ≤ _; exact Nat.le_of_eq rfl) (hb hby at_231) (fun _ _ => ⟨rfl, e36, (by decide : 16 + 0 ≤ _), (by decide : 61 + 0 ≤ _)⟩)
  dsimp only [Pt.U, Pt.locs, Pt.cells, Pt.slots] at X37 l37 y37 z37 st37 hQ37
  subst y37 z37
  obtain ⟨rfl, Nq37, e37⟩ := hQ37
  have N37 : Fr n0 L37 := by rw [l37]; exact Fr.app N36 Nq37
  refine Gl.go (fun _ k => st37.trans k) ?_
  show Gl _ _ _ _ (T37.setTop (mkF m 234 #[.val (.int a), .val (.int b), .val (.int c_), .val (.int c0), .val (.int c1), .val (.int d0), .val (.int d1), .val (.int e0_), .val (.int e1_), .val (.ref b1), .val (.ref b6), .val (.ref b11), .val (.ref b16), .val (.ref b24), .val (.ref a34)] [(.ref b11)]))
  refine Gl.go (fun _ k => XS.aload X37.here hx rfl (hb hby at_234) rfl rfl  k) ?_
  show Gl _ _ _ _ (T37.setTop (mkF m 236 #[.val (.int a), .val (.int b), .val (.int c_), .val (.int c0), .val (.int c1), .val (.int d0), .val (.int d1), .val (.int e0_), .val (.int e1_), .val (.ref b1), .val (.ref b6), .val (.ref b11), .val (.ref b16), .val (.ref b24), .val (.ref a34)] [(.ref b11), (.ref b11)]))
  obtain ⟨cq38, kq38, q38a, q38b, q38c⟩ := isOf (s := s.setVm s.vm) hZ e37 (S_2.ext (ext_of_keep KBB2_34)).1
  obtain ⟨_, _, ⟨T38, L38, k38, n38⟩, -, X38, ⟨Lc38, hQ38, l38, y38, z38⟩, st38⟩ := X37.virtualBack hx (y := (⟨"java/lang/String", "equals", "(Ljava/lang/Object;)Z"⟩ : MethodName)) (z := (⟨"java/lang/String", "equals", "(Ljava/lang/Object;)Z"⟩ : MethodName)) hown (mvT hZ (hw _ (List.mem_of_getElem? (i := 55) rfl))) (mvT hZ (hw _ (List.mem_of_getElem? (i := 56) rfl))) (notFace_of_selects (args := #[]) (mvT hZ (hw _ (List.mem_of_getElem? (i := 58) rfl)))) (mvT hZ (hw _ (List.mem_of_getElem? (i := 58) rfl))) (mvT hZ (hw _ (List.mem_of_getElem? (i := 57) rfl))) (by decide) (backOf (W := 0) (rm_seq l Z a0 hw [] b11 b11 ((([nar .char e0_, nar .char e1_] : List Int32)).map (fun c => c.toInt8.toInt32)) ((([nar .char e0_, nar .char e1_] : List Int32)).map (fun c => c.toInt8.toInt32)) G1 T34.heap n0 SZ34 (S_2.ext (ext_of_keep KBB2_34)) (S_2.ext (ext_of_keep KBB2_34)) (O2.ext O__34.2) P5) hZ (hw _ (List.mem_of_getElem? (i := 59) rfl)) (hw _ (List.mem_of_getElem? (i := 2) rfl)) (by decide) (by decide)) q38a q38c (g := (mkF m 236 #[.val (.int a), .val (.int b), .val (.int c_), .val (.int c0), .val (.int c1), .val (.int d0), .val (.int d1), .val (.int e0_), .val (.int e1_), .val (.ref b1), .val (.ref b6), .val (.ref b11), .val (.ref b16), .val (.ref b24), .val (.ref a34)] [(.ref b11), (.ref b11)])) rfl (by rw [hml]; rfl) (Steps.refl _) (argsL := [(.ref b11)]) (rest := []) (lenOf pd_21 rfl) rfl (by show 2 * 0 + _ ≤ _; exact Nat.le_of_eq rfl) (hb hby at_236) (fun _ _ => ⟨rfl, e37, (by decide : 16 + 0 ≤ _), (by decide : 61 + 0 ≤ _)⟩)
  dsimp only [Pt.U, Pt.locs, Pt.cells, Pt.slots] at X38 l38 y38 z38 st38 hQ38
  subst y38 z38
  obtain ⟨rfl, Nq38, e38⟩ := hQ38
  have N38 : Fr n0 L38 := by rw [l38]; exact Fr.app N37 Nq38
  refine Gl.go (fun _ k => st38.trans k) ?_
  show Gl _ _ _ _ (T38.setTop (mkF m 239 #[.val (.int a), .val (.int b), .val (.int c_), .val (.int c0), .val (.int c1), .val (.int d0), .val (.int d1), .val (.int e0_), .val (.int e1_), .val (.ref b1), .val (.ref b6), .val (.ref b11), .val (.ref b16), .val (.ref b24), .val (.ref a34)] [(.int (eqI ((([nar .char e0_, nar .char e1_] : List Int32)).map (fun c => c.toInt8.toInt32)) ((([nar .char e0_, nar .char e1_] : List Int32)).map (fun c => c.toInt8.toInt32))))]))
  rw [(eqI_yes (rfl) : (eqI ((([nar .char e0_, nar .char e1_] : List Int32)).map (fun c => c.toInt8.toInt32)) ((([nar .char e0_, nar .char e1_] : List Int32)).map (fun c => c.toInt8.toInt32))) = (1 : Int32))]
  show Gl _ _ _ _ (T38.setTop (mkF m 239 #[.val (.int a), .val (.int b), .val (.int c_), .val (.int c0), .val (.int c1), .val (.int d0), .val (.int d1), .val (.int e0_), .val (.int e1_), .val (.ref b1), .val (.ref b6), .val (.ref b11), .val (.ref b16), .val (.ref b24), .val (.ref a34)] [(.int (1 : Int32))]))
  refine Gl.go (fun _ k => XS.ifNo X38.here hx rfl (hb hby at_239) rfl ((if0 _ _).trans (feq (by decide)).1) k) ?_
  show Gl _ _ _ _ (T38.setTop (mkF m 242 #[.val (.int a), .val (.int b), .val (.int c_), .val (.int c0), .val (.int c1), .val (.int d0), .val (.int d1), .val (.int e0_), .val (.int e1_), .val (.ref b1), .val (.ref b6), .val (.ref b11), .val (.ref b16), .val (.ref b24), .val (.ref a34)] []))
  refine Gl.go (fun _ k => XS.aload X38.here hx rfl (hb hby at_242) rfl rfl  k) ?_
  show Gl _ _ _ _ (T38.setTop (mkF m 244 #[.val (.int a), .val (.int b), .val (.int c_), .val (.int c0), .val (.int c1), .val (.int d0), .val (.int d1), .val (.int e0_), .val (.int e1_), .val (.ref b1), .val (.ref b6), .val (.ref b11), .val (.ref b16), .val (.ref b24), .val (.ref a34)] [(.ref a34)]))
  obtain ⟨cq39, kq39, q39a, q39b, q39c⟩ := isOf (s := s.setVm s.vm) hZ e38 (Oc34.ext (ext_of_keep KBO)).1
  obtain ⟨_, _, ⟨T39, L39, k39, n39⟩, -, X39, ⟨Lc39, hQ39, l39, y39, z39⟩, st39⟩ := X38.virtualBack hx (y := (⟨"com/example/kontraktor/kontraktor/cli/Option", "isRepeatable", "()Z"⟩ : MethodName)) (z := (⟨"com/example/kontraktor/kontraktor/cli/Option", "isRepeatable", "()Z"⟩ : MethodName)) hown (mvT hZ (hw _ (List.mem_of_getElem? (i := 65) rfl))) (mvT hZ (hw _ (List.mem_of_getElem? (i := 66) rfl))) (notFace_of_selects (args := #[]) (mvT hZ (hw _ (List.mem_of_getElem? (i := 68) rfl)))) (mvT hZ (hw _ (List.mem_of_getElem? (i := 68) rfl))) (mvT hZ (hw _ (List.mem_of_getElem? (i := 67) rfl))) (by decide) (backOf (W := 0) (rm_ire l Z a0 hw [] a34 b1 b6 b11 T34.heap n0 SZ34 (Oc34.ext (ext_of_keep KBO))) hZ (hw _ (List.mem_of_getElem? (i := 69) rfl)) (hw _ (List.mem_of_getElem? (i := 32) rfl)) (by decide) (by decide)) q39a q39c (g := (mkF m 244 #[.val (.int a), .val (.int b), .val (.int c_), .val (.int c0), .val (.int c1), .val (.int d0), .val (.int d1), .val (.int e0_), .val (.int e1_), .val (.ref b1), .val (.ref b6), .val (.ref b11), .val (.ref b16), .val (.ref b24), .val (.ref a34)] [(.ref a34)])) rfl (by rw [hml]; rfl) (Steps.refl _) (argsL := []) (rest := []) (lenOf pd_12 rfl) rfl (by show 2 * 0 + _ ≤ _; exact Nat.le_of_eq rfl) (hb hby at_244) (fun _ _ => ⟨rfl, e38, (by decide : 16 + 0 ≤ _), (by decide : 61 + 0 ≤ _)⟩)
  dsimp only [Pt.U, Pt.locs, Pt.cells, Pt.slots] at X39 l39 y39 z39 st39 hQ39
  subst y39 z39
  obtain ⟨rfl, Nq39, e39⟩ := hQ39
  have N39 : Fr n0 L39 := by rw [l39]; exact Fr.app N38 Nq39
  refine Gl.go (fun _ k => st39.trans k) ?_
  show Gl _ _ _ _ (T39.setTop (mkF m 247 #[.val (.int a), .val (.int b), .val (.int c_), .val (.int c0), .val (.int c1), .val (.int d0), .val (.int d1), .val (.int e0_), .val (.int e1_), .val (.ref b1), .val (.ref b6), .val (.ref b11), .val (.ref b16), .val (.ref b24), .val (.ref a34)] [(.int (0 : Int32))]))
  refine Gl.go (fun _ k => XS.ifNo X39.here hx rfl (hb hby at_247) rfl ((if0 _ _).trans (teq rfl).2) k) ?_
  show Gl _ _ _ _ (T39.setTop (mkF m 250 #[.val (.int a), .val (.int b), .val (.int c_), .val (.int c0), .val (.int c1), .val (.int d0), .val (.int d1), .val (.int e0_), .val (.int e1_), .val (.ref b1), .val (.ref b6), .val (.ref b11), .val (.ref b16), .val (.ref b24), .val (.ref a34)] []))
  refine Gl.go (fun _ k => XS.aload X39.here hx rfl (hb hby at_250) rfl rfl  k) ?_
  show Gl _ _ _ _ (T39.setTop (mkF m 252 #[.val (.int a), .val (.int b), .val (.int c_), .val (.int c0), .val (.int c1), .val (.int d0), .val (.int d1), .val (.int e0_), .val (.int e1_), .val (.ref b1), .val (.ref b6), .val (.ref b11), .val (.ref b16), .val (.ref b24), .val (.ref a34)] [(.ref a34)]))
  obtain ⟨cq40, kq40, q40a, q40b, q40c⟩ := isOf (s := s.setVm s.vm) hZ e39 (Oc34.ext (ext_of_keep KBO)).1
  obtain ⟨_, _, ⟨T40, L40, k40, n40⟩, -, X40, hS40, hg40, ⟨Lc40, hQ40, l40, y40, z40, hC40⟩, st40⟩ := X39.virtualBackS hx (y := (⟨"com/example/kontraktor/kontraktor/cli/Option", "given", "()Ljava/lang/String;"⟩ : MethodName)) (z := (⟨"com/example/kontraktor/kontraktor/cli/Option", "given", "()Ljava/lang/String;"⟩ : MethodName)) hown (mvT hZ (hw _ (List.mem_of_getElem? (i := 70) rfl))) (mvT hZ (hw _ (List.mem_of_getElem? (i := 71) rfl))) (notFace_of_selects (args := #[]) (mvT hZ (hw _ (List.mem_of_getElem? (i := 73) rfl)))) (mvT hZ (hw _ (List.mem_of_getElem? (i := 73) rfl))) (mvT hZ (hw _ (List.mem_of_getElem? (i := 72) rfl))) (by decide) (backOfSH (EL := elL) (W := 0) (rm_giv l Z a0 hw [] a34 b1 b6 b11 ((([nar .char c0, nar .char c1] : List Int32)).map (fun c => c.toInt8.toInt32)) ((([nar .char d0, nar .char d1] : List Int32)).map (fun c => c.toInt8.toInt32)) G1 T34.heap n0 SZ34 hEL hSA (Oc34.ext (ext_of_keep KBO)) (S_0.ext (ext_of_keep KBB0_34)) (S_1.ext (ext_of_keep KBB1_34)) (Nat.le_of_ble_eq_true rfl) O2 P5 O__34) hZ (hw _ (List.mem_of_getElem? (i := 74) rfl)) (hw _ (List.mem_of_getElem? (i := 32) rfl)) (by decide) (by decide) hEL CR34.1) q40a q40c (g := (mkF m 252 #[.val (.int a), .val (.int b), .val (.int c_), .val (.int c0), .val (.int c1), .val (.int d0), .val (.int d1), .val (.int e0_), .val (.int e1_), .val (.ref b1), .val (.ref b6), .val (.ref b11), .val (.ref b16), .val (.ref b24), .val (.ref a34)] [(.ref a34)])) rfl (by rw [hml]; rfl) (Steps.refl _) (argsL := []) (rest := []) (lenOf pd_18 rfl) rfl (by show 2 * 0 + _ ≤ _; exact Nat.le_of_eq rfl) (hb hby at_252) (fun _ _ => ⟨rfl, e39, (by decide : 16 + 6 ≤ _), (by decide : 61 + 48 ≤ _)⟩)
  dsimp only [Pt.U, Pt.locs, Pt.cells, Pt.slots] at X40 hS40 hg40 l40 y40 z40 st40 hQ40 hC40
  subst y40 z40
  have X40 : Stand p l e _ (s.setVm T40.vm) m _ below meth c T40 L40 _ _ := X40
  have hZo := hZ
  have hS : s.Since T40.vm T40.heap.size := foldS hS (by rw [e39]; exact hk) hS40 hg40
  have hk : T40.heap.size ≤ T40.heap.size := Nat.le_refl _
  have hZ : Z.Warmed39 T40.vm := State.Warmed39.trans (t := s.setVm s.vm) hZo hS40.1
  have hown : T40.vm.findClass "com/example/kontraktor/kontraktor/cli/OptionOptionalPinLaw" = some m.cls := by rw [hS40.1.alike.findClass]; exact hown
  have CR40 : CHr Z elL s.vm h0 T40.vm T40.heap := CR34.trans hC40
  obtain ⟨a40, rfl, Nq40, Kc40, Sc40⟩ := hQ40
  have N40 : Fr n0 L40 := by rw [l40]; exact Fr.app N39 Nq40
  refine Gl.go (fun _ k => st40.trans k) ?_
  have Ex40 := ext_of_keep Kc40
  have O__40 : Old Z n0 T40.heap := O__34.ext Ex40
  have SZ40 : n0 ≤ T40.heap.size := Nat.le_trans SZ34 Ex40.1
  have K40 : Keep h0 T40.heap [] := K34.ext Ex40
  have KBB0_40 : Keep T5.heap T40.heap [] := KBB0_34.ext Ex40
  have KBB1_40 : Keep T10.heap T40.heap [] := KBB1_34.ext Ex40
  have KBB2_40 : Keep T15.heap T40.heap [] := KBB2_34.ext Ex40
  have KBB3_40 : Keep T23.heap T40.heap [] := KBB3_34.ext Ex40
  have KBB4_40 : Keep T33.heap T40.heap [] := KBB4_34.ext Ex40
  have KBO_40 : Keep T34.heap T40.heap [] := KBO.ext Ex40
  show Gl _ _ _ _ (T40.setTop (mkF m 255 #[.val (.int a), .val (.int b), .val (.int c_), .val (.int c0), .val (.int c1), .val (.int d0), .val (.int d1), .val (.int e0_), .val (.int e1_), .val (.ref b1), .val (.ref b6), .val (.ref b11), .val (.ref b16), .val (.ref b24), .val (.ref a34)] [(.ref a40)]))
  refine Gl.go (fun _ k => XS.aload X40.here hx rfl (hb hby at_255) rfl rfl  k) ?_
  show Gl _ _ _ _ (T40.setTop (mkF m 257 #[.val (.int a), .val (.int b), .val (.int c_), .val (.int c0), .val (.int c1), .val (.int d0), .val (.int d1), .val (.int e0_), .val (.int e1_), .val (.ref b1), .val (.ref b6), .val (.ref b11), .val (.ref b16), .val (.ref b24), .val (.ref a34)] [(.ref b16), (.ref a40)]))
  obtain ⟨cq41, kq41, q41a, q41b, q41c⟩ := isOf (s := s.setVm T40.vm) hZ rfl Sc40.1
  obtain ⟨_, _, ⟨T41, L41, k41, n41⟩, -, X41, ⟨Lc41, hQ41, l41, y41, z41⟩, st41⟩ := X40.virtualBack hx (y := (⟨"java/lang/String", "equals", "(Ljava/lang/Object;)Z"⟩ : MethodName)) (z := (⟨"java/lang/String", "equals", "(Ljava/lang/Object;)Z"⟩ : MethodName)) hown (mvT hZ (hw _ (List.mem_of_getElem? (i := 55) rfl))) (mvT hZ (hw _ (List.mem_of_getElem? (i := 56) rfl))) (notFace_of_selects (args := #[]) (mvT hZ (hw _ (List.mem_of_getElem? (i := 58) rfl)))) (mvT hZ (hw _ (List.mem_of_getElem? (i := 58) rfl))) (mvT hZ (hw _ (List.mem_of_getElem? (i := 57) rfl))) (by decide) (backOf (W := 0) (rm_seq l Z a0 hw [] a40 b16 (gvV ((([nar .char c0, nar .char c1] : List Int32)).map (fun c => c.toInt8.toInt32)) ((([nar .char d0, nar .char d1] : List Int32)).map (fun c => c.toInt8.toInt32))) ((([nar .char c0, nar .char c1, nar .char l32, nar .char d0, nar .char d1] : List Int32)).map (fun c => c.toInt8.toInt32)) G1 T40.heap n0 SZ40 Sc40 (S_3.ext (ext_of_keep KBB3_40)) (O2.ext O__40.2) P5) hZ (hw _ (List.mem_of_getElem? (i := 59) rfl)) (hw _ (List.mem_of_getElem? (i := 2) rfl)) (by decide) (by decide)) q41a q41c (g := (mkF m 257 #[.val (.int a), .val (.int b), .val (.int c_), .val (.int c0), .val (.int c1), .val (.int d0), .val (.int d1), .val (.int e0_), .val (.int e1_), .val (.ref b1), .val (.ref b6), .val (.ref b11), .val (.ref b16), .val (.ref b24), .val (.ref a34)] [(.ref b16), (.ref a40)])) rfl (by rw [hml]; rfl) (Steps.refl _) (argsL := [(.ref b16)]) (rest := []) (lenOf pd_21 rfl) rfl (by show 2 * 0 + _ ≤ _; exact Nat.le_of_eq rfl) (hb hby at_257) (fun _ _ => ⟨rfl, rfl, (by decide : 22 + 0 ≤ _), (by decide : 109 + 0 ≤ _)⟩)
  dsimp only [Pt.U, Pt.locs, Pt.cells, Pt.slots] at X41 l41 y41 z41 st41 hQ41
  subst y41 z41
  obtain ⟨rfl, Nq41, e41⟩ := hQ41
  have N41 : Fr n0 L41 := by rw [l41]; exact Fr.app N40 Nq41
  refine Gl.go (fun _ k => st41.trans k) ?_
  show Gl _ _ _ _ (T41.setTop (mkF m 260 #[.val (.int a), .val (.int b), .val (.int c_), .val (.int c0), .val (.int c1), .val (.int d0), .val (.int d1), .val (.int e0_), .val (.int e1_), .val (.ref b1), .val (.ref b6), .val (.ref b11), .val (.ref b16), .val (.ref b24), .val (.ref a34)] [(.int (eqI (gvV ((([nar .char c0, nar .char c1] : List Int32)).map (fun c => c.toInt8.toInt32)) ((([nar .char d0, nar .char d1] : List Int32)).map (fun c => c.toInt8.toInt32))) ((([nar .char c0, nar .char c1, nar .char l32, nar .char d0, nar .char d1] : List Int32)).map (fun c => c.toInt8.toInt32))))]))
  rw [(eqI_yes (by simp only [gvV, List.map_cons, List.map_nil, List.nil_append, List.cons_append, List.append_nil, q_32, q_91, q_93]) : (eqI (gvV ((([nar .char c0, nar .char c1] : List Int32)).map (fun c => c.toInt8.toInt32)) ((([nar .char d0, nar .char d1] : List Int32)).map (fun c => c.toInt8.toInt32))) ((([nar .char c0, nar .char c1, nar .char l32, nar .char d0, nar .char d1] : List Int32)).map (fun c => c.toInt8.toInt32))) = (1 : Int32))]
  show Gl _ _ _ _ (T41.setTop (mkF m 260 #[.val (.int a), .val (.int b), .val (.int c_), .val (.int c0), .val (.int c1), .val (.int d0), .val (.int d1), .val (.int e0_), .val (.int e1_), .val (.ref b1), .val (.ref b6), .val (.ref b11), .val (.ref b16), .val (.ref b24), .val (.ref a34)] [(.int (1 : Int32))]))
  refine Gl.go (fun _ k => XS.ifNo X41.here hx rfl (hb hby at_260) rfl ((if0 _ _).trans (feq (by decide)).1) k) ?_
  show Gl _ _ _ _ (T41.setTop (mkF m 263 #[.val (.int a), .val (.int b), .val (.int c_), .val (.int c0), .val (.int c1), .val (.int d0), .val (.int d1), .val (.int e0_), .val (.int e1_), .val (.ref b1), .val (.ref b6), .val (.ref b11), .val (.ref b16), .val (.ref b24), .val (.ref a34)] []))
  refine Gl.go (fun _ k => XS.aload X41.here hx rfl (hb hby at_263) rfl rfl  k) ?_
  show Gl _ _ _ _ (T41.setTop (mkF m 265 #[.val (.int a), .val (.int b), .val (.int c_), .val (.int c0), .val (.int c1), .val (.int d0), .val (.int d1), .val (.int e0_), .val (.int e1_), .val (.ref b1), .val (.ref b6), .val (.ref b11), .val (.ref b16), .val (.ref b24), .val (.ref a34)] [(.ref a34)]))
  obtain ⟨cq42, kq42, q42a, q42b, q42c⟩ := isOf (s := s.setVm T40.vm) hZ e41 (Oc34.ext (ext_of_keep KBO_40)).1
  obtain ⟨_, _, ⟨T42, L42, k42, n42⟩, -, X42, hS42, hg42, ⟨Lc42, hQ42, l42, y42, z42, hC42⟩, st42⟩ := X41.virtualBackS hx (y := (⟨"com/example/kontraktor/kontraktor/cli/Option", "usage", "()Ljava/lang/String;"⟩ : MethodName)) (z := (⟨"com/example/kontraktor/kontraktor/cli/Option", "usage", "()Ljava/lang/String;"⟩ : MethodName)) hown (mvT hZ (hw _ (List.mem_of_getElem? (i := 193) rfl))) (mvT hZ (hw _ (List.mem_of_getElem? (i := 194) rfl))) (notFace_of_selects (args := #[]) (mvT hZ (hw _ (List.mem_of_getElem? (i := 196) rfl)))) (mvT hZ (hw _ (List.mem_of_getElem? (i := 196) rfl))) (mvT hZ (hw _ (List.mem_of_getElem? (i := 195) rfl))) (by decide) (backOfSH (EL := elL) (W := 0) (rm_usa l Z a0 hw [] a34 b1 b6 b11 ((([nar .char c0, nar .char c1] : List Int32)).map (fun c => c.toInt8.toInt32)) ((([nar .char d0, nar .char d1] : List Int32)).map (fun c => c.toInt8.toInt32)) G1 T40.heap n0 SZ40 hEL hSA (Oc34.ext (ext_of_keep KBO_40)) (S_0.ext (ext_of_keep KBB0_40)) (S_1.ext (ext_of_keep KBB1_40)) (Nat.le_of_ble_eq_true rfl) O2 P5 O__40) hZ (hw _ (List.mem_of_getElem? (i := 197) rfl)) (hw _ (List.mem_of_getElem? (i := 32) rfl)) (by decide) (by decide) hEL CR40.1) q42a q42c (g := (mkF m 265 #[.val (.int a), .val (.int b), .val (.int c_), .val (.int c0), .val (.int c1), .val (.int d0), .val (.int d1), .val (.int e0_), .val (.int e1_), .val (.ref b1), .val (.ref b6), .val (.ref b11), .val (.ref b16), .val (.ref b24), .val (.ref a34)] [(.ref a34)])) rfl (by rw [hml]; rfl) (Steps.refl _) (argsL := []) (rest := []) (lenOf pd_18 rfl) rfl (by show 2 * 0 + _ ≤ _; exact Nat.le_of_eq rfl) (hb hby at_265) (fun _ _ => ⟨rfl, e41, (by decide : 22 + 20 ≤ _), (by decide : 109 + 148 ≤ _)⟩)
  dsimp only [Pt.U, Pt.locs, Pt.cells, Pt.slots] at X42 hS42 hg42 l42 y42 z42 st42 hQ42 hC42
  subst y42 z42
  have X42 : Stand p l e _ (s.setVm T42.vm) m _ below meth c T42 L42 _ _ := X42
  have hZo := hZ
  have hS : s.Since T42.vm T42.heap.size := foldS hS (by rw [e41]; exact hk) hS42 hg42
  have hk : T42.heap.size ≤ T42.heap.size := Nat.le_refl _
  have hZ : Z.Warmed39 T42.vm := State.Warmed39.trans (t := s.setVm T40.vm) hZo hS42.1
  have hown : T42.vm.findClass "com/example/kontraktor/kontraktor/cli/OptionOptionalPinLaw" = some m.cls := by rw [hS42.1.alike.findClass]; exact hown
  have CR42 : CHr Z elL s.vm h0 T42.vm T42.heap := CR40.trans hC42
  obtain ⟨a42, rfl, Nq42, Kc42, Sc42⟩ := hQ42
  have N42 : Fr n0 L42 := by rw [l42]; exact Fr.app N41 Nq42
  refine Gl.go (fun _ k => st42.trans k) ?_
  have Ex42 := ext_of_keep Kc42
  have O__42 : Old Z n0 T42.heap := O__40.ext Ex42
  have SZ42 : n0 ≤ T42.heap.size := Nat.le_trans SZ40 Ex42.1
  have K42 : Keep h0 T42.heap [] := K40.ext Ex42
  have KBB0_42 : Keep T5.heap T42.heap [] := KBB0_40.ext Ex42
  have KBB1_42 : Keep T10.heap T42.heap [] := KBB1_40.ext Ex42
  have KBB2_42 : Keep T15.heap T42.heap [] := KBB2_40.ext Ex42
  have KBB3_42 : Keep T23.heap T42.heap [] := KBB3_40.ext Ex42
  have KBB4_42 : Keep T33.heap T42.heap [] := KBB4_40.ext Ex42
  have KBO_42 : Keep T34.heap T42.heap [] := KBO_40.ext Ex42
  show Gl _ _ _ _ (T42.setTop (mkF m 268 #[.val (.int a), .val (.int b), .val (.int c_), .val (.int c0), .val (.int c1), .val (.int d0), .val (.int d1), .val (.int e0_), .val (.int e1_), .val (.ref b1), .val (.ref b6), .val (.ref b11), .val (.ref b16), .val (.ref b24), .val (.ref a34)] [(.ref a42)]))
  refine Gl.go (fun _ k => XS.aload X42.here hx rfl (hb hby at_268) rfl rfl  k) ?_
  show Gl _ _ _ _ (T42.setTop (mkF m 270 #[.val (.int a), .val (.int b), .val (.int c_), .val (.int c0), .val (.int c1), .val (.int d0), .val (.int d1), .val (.int e0_), .val (.int e1_), .val (.ref b1), .val (.ref b6), .val (.ref b11), .val (.ref b16), .val (.ref b24), .val (.ref a34)] [(.ref b24), (.ref a42)]))
  obtain ⟨cq43, kq43, q43a, q43b, q43c⟩ := isOf (s := s.setVm T42.vm) hZ rfl Sc42.1
  obtain ⟨_, _, ⟨T43, L43, k43, n43⟩, -, X43, ⟨Lc43, hQ43, l43, y43, z43⟩, st43⟩ := X42.virtualBack hx (y := (⟨"java/lang/String", "equals", "(Ljava/lang/Object;)Z"⟩ : MethodName)) (z := (⟨"java/lang/String", "equals", "(Ljava/lang/Object;)Z"⟩ : MethodName)) hown (mvT hZ (hw _ (List.mem_of_getElem? (i := 55) rfl))) (mvT hZ (hw _ (List.mem_of_getElem? (i := 56) rfl))) (notFace_of_selects (args := #[]) (mvT hZ (hw _ (List.mem_of_getElem? (i := 58) rfl)))) (mvT hZ (hw _ (List.mem_of_getElem? (i := 58) rfl))) (mvT hZ (hw _ (List.mem_of_getElem? (i := 57) rfl))) (by decide) (backOf (W := 0) (rm_seq l Z a0 hw [] a42 b24 ((((([] : List Int32) ++ [(91 : Int32)]) ++ ((([] : List Int32) ++ (gvV ((([nar .char c0, nar .char c1] : List Int32)).map (fun c => c.toInt8.toInt32)) ((([nar .char d0, nar .char d1] : List Int32)).map (fun c => c.toInt8.toInt32)))) ++ ([] : List Int32))) ++ [(93 : Int32)])) ((([nar .char l91, nar .char c0, nar .char c1, nar .char l32, nar .char d0, nar .char d1, nar .char l93] : List Int32)).map (fun c => c.toInt8.toInt32)) G1 T42.heap n0 SZ42 Sc42 (S_4.ext (ext_of_keep KBB4_42)) (O2.ext O__42.2) P5) hZ (hw _ (List.mem_of_getElem? (i := 59) rfl)) (hw _ (List.mem_of_getElem? (i := 2) rfl)) (by decide) (by decide)) q43a q43c (g := (mkF m 270 #[.val (.int a), .val (.int b), .val (.int c_), .val (.int c0), .val (.int c1), .val (.int d0), .val (.int d1), .val (.int e0_), .val (.int e1_), .val (.ref b1), .val (.ref b6), .val (.ref b11), .val (.ref b16), .val (.ref b24), .val (.ref a34)] [(.ref b24), (.ref a42)])) rfl (by rw [hml]; rfl) (Steps.refl _) (argsL := [(.ref b24)]) (rest := []) (lenOf pd_21 rfl) rfl (by show 2 * 0 + _ ≤ _; exact Nat.le_of_eq rfl) (hb hby at_270) (fun _ _ => ⟨rfl, rfl, (by decide : 42 + 0 ≤ _), (by decide : 257 + 0 ≤ _)⟩)
  dsimp only [Pt.U, Pt.locs, Pt.cells, Pt.slots] at X43 l43 y43 z43 st43 hQ43
  subst y43 z43
  obtain ⟨rfl, Nq43, e43⟩ := hQ43
  have N43 : Fr n0 L43 := by rw [l43]; exact Fr.app N42 Nq43
  refine Gl.go (fun _ k => st43.trans k) ?_
  show Gl _ _ _ _ (T43.setTop (mkF m 273 #[.val (.int a), .val (.int b), .val (.int c_), .val (.int c0), .val (.int c1), .val (.int d0), .val (.int d1), .val (.int e0_), .val (.int e1_), .val (.ref b1), .val (.ref b6), .val (.ref b11), .val (.ref b16), .val (.ref b24), .val (.ref a34)] [(.int (eqI ((((([] : List Int32) ++ [(91 : Int32)]) ++ ((([] : List Int32) ++ (gvV ((([nar .char c0, nar .char c1] : List Int32)).map (fun c => c.toInt8.toInt32)) ((([nar .char d0, nar .char d1] : List Int32)).map (fun c => c.toInt8.toInt32)))) ++ ([] : List Int32))) ++ [(93 : Int32)])) ((([nar .char l91, nar .char c0, nar .char c1, nar .char l32, nar .char d0, nar .char d1, nar .char l93] : List Int32)).map (fun c => c.toInt8.toInt32))))]))
  rw [(eqI_yes (by simp only [gvV, List.map_cons, List.map_nil, List.nil_append, List.cons_append, List.append_nil, q_32, q_91, q_93]) : (eqI ((((([] : List Int32) ++ [(91 : Int32)]) ++ ((([] : List Int32) ++ (gvV ((([nar .char c0, nar .char c1] : List Int32)).map (fun c => c.toInt8.toInt32)) ((([nar .char d0, nar .char d1] : List Int32)).map (fun c => c.toInt8.toInt32)))) ++ ([] : List Int32))) ++ [(93 : Int32)])) ((([nar .char l91, nar .char c0, nar .char c1, nar .char l32, nar .char d0, nar .char d1, nar .char l93] : List Int32)).map (fun c => c.toInt8.toInt32))) = (1 : Int32))]
  show Gl _ _ _ _ (T43.setTop (mkF m 273 #[.val (.int a), .val (.int b), .val (.int c_), .val (.int c0), .val (.int c1), .val (.int d0), .val (.int d1), .val (.int e0_), .val (.int e1_), .val (.ref b1), .val (.ref b6), .val (.ref b11), .val (.ref b16), .val (.ref b24), .val (.ref a34)] [(.int (1 : Int32))]))
  refine Gl.go (fun _ k => XS.ifNo X43.here hx rfl (hb hby at_273) rfl ((if0 _ _).trans (feq (by decide)).1) k) ?_
  show Gl _ _ _ _ (T43.setTop (mkF m 276 #[.val (.int a), .val (.int b), .val (.int c_), .val (.int c0), .val (.int c1), .val (.int d0), .val (.int d1), .val (.int e0_), .val (.int e1_), .val (.ref b1), .val (.ref b6), .val (.ref b11), .val (.ref b16), .val (.ref b24), .val (.ref a34)] []))
  refine Gl.go (fun _ k => XS.iconst X43.here hx rfl (hb hby at_276) k) ?_
  show Gl _ _ _ _ (T43.setTop (mkF m 277 #[.val (.int a), .val (.int b), .val (.int c_), .val (.int c0), .val (.int c1), .val (.int d0), .val (.int d1), .val (.int e0_), .val (.int e1_), .val (.ref b1), .val (.ref b6), .val (.ref b11), .val (.ref b16), .val (.ref b24), .val (.ref a34)] [(.int (1 : Int32))]))
  refine Gl.go (fun _ k => XS.goto X43.here hx rfl (pc0 := 277) (pc' := 281) rfl (hb hby at_277) (by decide) (by decide) k) ?_
  show Gl _ _ _ _ (T43.setTop (mkF m 281 #[.val (.int a), .val (.int b), .val (.int c_), .val (.int c0), .val (.int c1), .val (.int d0), .val (.int d1), .val (.int e0_), .val (.int e1_), .val (.ref b1), .val (.ref b6), .val (.ref b11), .val (.ref b16), .val (.ref b24), .val (.ref a34)] [(.int (1 : Int32))]))
  refine leafWN X43 hS (by rw [e43]; exact hk) hx hlk (t := .boolean) Bd.returns (by simp) (hb hby at_281) (by rw [e43]; exact (CR42.trans (CHv.at X43 hZ hEL CR42.1))) hh ?_ (by decide) (by decide)
  exact ⟨rfl, N43⟩
set_option maxRecDepth 65536 in
set_option maxHeartbeats 40000000 in
theorem comes_1 {Post : Tables → Env → Array Value → State → Outcome → State → Prop} (hpost : ∀ tb e args s v u, (limb_1_1.after args s (.returned v) u = true ∧ limb_1_2.after args s (.returned v) u = true ∧ True) → ReturnedEndW s (.returned v) u (Jvm.fieldLocs frame_1_writes args s ++ Jvm.arrayLocs frame_1_arrays args s ++ Jvm.staticLocs frame_1_statics s) 80 4544 → Post tb e args s (.returned v) u) :
    ArmFor flags0 classFile x code maxLocals ret World_1 tables_1 room_1 Calls_1 rest_1 Pre_1 Post := by
  intro l hfl _ _ p e ha hc hk s m args below hf hA hF happ hP
  obtain ⟨hcalls, hrest, hpre⟩ := hP
  obtain ⟨-, -, -, hnamed, -, -, -, hat⟩ := (Spec.applies_iff hf).mp happ
  obtain ⟨hg, hn⟩ := and_e (Cond.before_iff.mp (show (Jvm.Cond.and given_1 narrow_1).before args s = true from hpre))
  obtain ⟨hcount, hg0⟩ := and_e hg
  obtain ⟨hk0, hg1⟩ := and_e hg0
  obtain ⟨hk1, hg2⟩ := and_e hg1
  have hk2 := hg2
  obtain ⟨w0, w1, w2, rfl⟩ : ∃ w0 w1 w2 : Value, args = #[w0, w1, w2] := by
    have hs : args.size = 3 := by simpa [Cond.value, given_1] using hcount
    obtain ⟨L⟩ := args
    match L, hs with
    | [w0, w1, w2], _ => exact ⟨w0, w1, w2, rfl⟩
  have hw := fun d (hd : d ∈ tables_1) => atoms_spec (ws := Jvm.Cond.code x code maxLocals ret :: tables_1) hat d (List.mem_cons_of_mem _ hd)
  obtain ⟨hsets, hown0⟩ := atoms_of _ (rest_1_c_eq ▸ (show rest_1_c.before _ s = true from hrest))
  have hfit : Fit s := fun {y c} hc i hi => by
    obtain ⟨ha, rfl⟩ := Array.getElem?_eq_some_iff.mp hc
    have q := List.all_eq_true.mp ((Array.all_eq_true_iff_forall_mem.mp hF) _ (Array.getElem_mem ha)) i (List.mem_range.mpr hi)
    simpa [Array.getElem?_eq_getElem hi] using q
  obtain ⟨i0, ei0⟩ := is_v hk0
  obtain rfl : w0 = (.int i0) := Option.some.inj ei0
  obtain ⟨i1, ei1⟩ := is_v hk1
  obtain rfl : w1 = (.int i1) := Option.some.inj ei1
  obtain ⟨i2, ei2⟩ := is_v hk2
  obtain rfl : w2 = (.int i2) := Option.some.inj ei2
  have n5 := not_v (Cond.before_iff.mp (hsets _ (List.mem_of_getElem? (i := 2) rfl)))
  obtain ⟨i11, e10⟩ := is_v (Cond.before_iff.mp (hsets _ (List.mem_of_getElem? (i := 1) rfl)))
  have S12 : Sta s s.heap "java/lang/String" "COMPACT_STRINGS" "Z" (.int i11) := Sta.start e10 (Or.inl (hsets _ (List.mem_of_getElem? (i := 0) rfl)))
  have c17 : ¬ (i11 = (0 : Int32)) := gotF (Cond.eq_ints e10 (Term.int_eval (0))) n5
  have hSA : ∀ d ∈ Bundle.stringAtoms, d.before _ s = true := fun d hd => hw d ((by decide +kernel : ∀ d ∈ Bundle.stringAtoms, d ∈ tables_1) d hd)
  have hEL : EW s _ elL := (EW.cons (hw _ (List.mem_of_getElem? (i := 140) rfl)) (by decide) (EW.cons (hw _ (List.mem_of_getElem? (i := 199) rfl)) (by decide) (EW.cons (hw _ (List.mem_of_getElem? (i := 200) rfl)) (by decide) (EW.cons (hw _ (List.mem_of_getElem? (i := 201) rfl)) (by decide) EW.nil))))
  have hCH : CHv s elL s.vm s.heap := CHv.start hEL (fun p hp => hcalls.1 p hp) (hsets _ (List.mem_of_getElem? (i := 2) rfl)) (hw _ (List.mem_of_getElem? (i := 19) rfl)) (hw _ (List.mem_of_getElem? (i := 1) rfl))
  obtain ⟨n, o, h1, h2, h3, _, L, rfl, ⟨rfl, N⟩, -, hq⟩ := rm_law l s _ hw tables_1 i0 i1 i2 i11 s.heap s.heap.size (Nat.le_refl _) hEL hSA S12 c17 (Old.start s) p e ha hc hk s m _ below hf ((Spec.applies_iff_loose hf).mp happ).1 ⟨rfl, State.Warmed39.refl s, rfl, hCH⟩ trivial
  refine ⟨n, _, h1, h2, h3, hpost _ _ _ _ _ _ ⟨Cond.after_iff.mpr rfl, Cond.after_iff.mpr (eq_i res_at (Term.int_eval (1)) rfl), trivial⟩ ⟨hq.1, hq.2.1, hq.2.2.1, (hq.2.2.2.sift fun y hy => Or.inr (N y hy)).mono (by decide) (by decide)⟩⟩
theorem main_1_1 : Claimed_1_1 := comes_1 fun _ _ _ _ _ _ h hF => ⟨h.1, hF⟩
theorem main_1_2 : Claimed_1_2 := comes_1 fun _ _ _ _ _ _ h hF => ⟨h.2.1, hF⟩
end Jvm.Pilot.@@N@@
namespace Jvm.Pilot.@@N@@
open Jvm Jvm.ClassFile Sem Op Lib Jvm.Free Jvm.Stand Jvm.Pilot.@@N@@.Jvm.D
/-! MADE BY PROGRAM (witnessworld.py) out of the Statement's table words and the real class files: 26 classes; the members and pool entries that the words name. The judged class is class 1, her method 1. -/
namespace start1
open Jvm.ClassFile
def u (s : String) : CpInfo := .utf8 (stringToUtf16 s)
/-- a pool by its gaps: so many unusable entries, then the entry; so many at the end -/
def gap : Nat → List CpInfo → List CpInfo
  | 0, r => r
  | n + 1, r => .unusable :: gap n r
def poolList (es : List (Nat × CpInfo)) (last : Nat) : List CpInfo := es.foldr (fun e r => gap e.1 (e.2 :: r)) (gap last [])
def pool (es : List (Nat × CpInfo)) (last : Nat) : Array CpInfo := ⟨poolList es last⟩
def fileOf (pool : Array CpInfo) (this : Nat) (attrs : Array Attribute := #[]) (ms : Array MethodInfo := #[]) (fl : Nat := 33) (sup : Nat := 0) (ifs : Array Nat := #[]) (fds : Array FieldInfo := #[]) : ClassFile where
  minorVersion := 0
  majorVersion := 65
  constantPool := pool
  accessFlags := fl
  thisClass := this
  superClass := sup
  interfaces := ifs
  fields := fds
  methods := ms
  attributes := attrs
def plain (name : String) (sup : Option ClassId) : Class where
  name := name
  kind := .ordinary
  loader := none
  accessFlags := 33
  super := sup
  interfaces := #[]
  cf := none
  fields := #[]
  methods := #[]
  instanceTypes := #[]
  staticTypes := #[]
  resolved := #[]
  callSites := []
  init := .initialized
  statics := none
  mirror := none

def pool0 : Array CpInfo := pool [(5, u "<init>"), (0, u "()V"), (1, .class_ 10), (1, u "java/lang/Object")] 113

def k0c0 : Code := { maxStack := 0, maxLocals := 1, code := object_method_1_code, exceptionTable := #[], attributes := #[] }
def k0m0 : Method := { name := "<init>", desc := "()V", sig := { parameters := [], returnType := none }, accessFlags := 1, code := some k0c0 }
/-- java/lang/Object -/
def k0 : Class := { plain "java/lang/Object" none with
  accessFlags := 33
  interfaces := #[]
  cf := some (fileOf pool0 8 #[] #[{ accessFlags := 1, nameIndex := 5, descriptorIndex := 6, attributes := #[] }] 33 0 #[] #[])
  fields := #[]
  methods := #[k0m0]
  instanceTypes := #[]
  staticTypes := #[]
  resolved := Array.replicate 124 none
  statics := none }

def pool1 : Array CpInfo := pool [(2, .class_ 4), (1, u "java/lang/Object"), (0, u "<init>"), (0, u "()V"), (0, .class_ 8), (0, u "java/lang/String"), (0, .methodref 7 10), (0, .nameAndType 5 11), (0, u "([C)V"), (0, .methodref 13 14), (0, .class_ 15), (0, .nameAndType 16 17), (0, u "com/example/kontraktor/kontraktor/cli/Option"), (0, u "optional"), (0, u "(Ljava/lang/String;Ljava/lang/String;Ljava/lang/String;)Lcom/example/kontraktor/kontraktor/cli/Option;"), (0, .methodref 13 19), (0, .nameAndType 20 21), (0, u "getName"), (0, u "()Ljava/lang/String;"), (0, .methodref 7 23), (0, .nameAndType 24 25), (0, u "equals"), (0, u "(Ljava/lang/Object;)Z"), (0, .methodref 13 27), (0, .nameAndType 28 21), (0, u "getDescription"), (0, .methodref 13 30), (0, .nameAndType 31 32), (0, u "isRepeatable"), (0, u "()Z"), (0, .methodref 13 34), (0, .nameAndType 35 21), (0, u "given"), (0, .methodref 13 37), (0, .nameAndType 38 21), (0, u "usage"), (0, .class_ 40), (0, u "com/example/kontraktor/kontraktor/cli/OptionOptionalPinLaw"), (2, u "law"), (0, u "(III)Z")] 3

def k1m0 : Method := { name := "<init>", desc := "()V", sig := { parameters := [], returnType := none }, accessFlags := 1, code := none }
def k1c1 : Code := { maxStack := 6, maxLocals := 15, code := code, exceptionTable := #[], attributes := #[] }
def k1m1 : Method := { name := "law", desc := "(III)Z", sig := { parameters := [.int, .int, .int], returnType := some .boolean }, accessFlags := 9, code := some k1c1 }
/-- com/example/kontraktor/kontraktor/cli/OptionOptionalPinLaw -/
def k1 : Class := { plain "com/example/kontraktor/kontraktor/cli/OptionOptionalPinLaw" (some 0) with
  accessFlags := 49
  interfaces := #[]
  cf := some (fileOf pool1 39 #[] #[{ accessFlags := 1, nameIndex := 5, descriptorIndex := 6, attributes := #[] }, { accessFlags := 9, nameIndex := 43, descriptorIndex := 44, attributes := #[] }] 49 2 #[] #[])
  fields := #[]
  methods := #[k1m0, k1m1]
  instanceTypes := #[]
  staticTypes := #[]
  resolved := Array.replicate 48 none
  statics := none }

def pool2 : Array CpInfo := pool [(1, .class_ 2), (0, u "java/io/Serializable"), (0, .class_ 4), (0, u "java/lang/Object")] 2

/-- java/io/Serializable -/
def k2 : Class := { plain "java/io/Serializable" (some 0) with
  accessFlags := 1537
  interfaces := #[]
  cf := some (fileOf pool2 1 #[] #[] 1537 3 #[] #[])
  fields := #[]
  methods := #[]
  instanceTypes := #[]
  staticTypes := #[]
  resolved := Array.replicate 7 none
  statics := none }

def pool3 : Array CpInfo := pool [(1, .class_ 2), (0, u "java/lang/Comparable"), (0, .class_ 4), (0, u "java/lang/Object")] 7

/-- java/lang/Comparable -/
def k3 : Class := { plain "java/lang/Comparable" (some 0) with
  accessFlags := 1537
  interfaces := #[]
  cf := some (fileOf pool3 1 #[] #[] 1537 3 #[] #[])
  fields := #[]
  methods := #[]
  instanceTypes := #[]
  staticTypes := #[]
  resolved := Array.replicate 12 none
  statics := none }

def pool4 : Array CpInfo := pool [(2, .class_ 4), (1, u "java/lang/CharSequence"), (42, .class_ 48), (0, u "java/lang/CharSequence$1CodePointIterator"), (10, .class_ 60), (0, u "java/lang/CharSequence$1CharIterator"), (5, .class_ 67), (0, u "java/lang/Object")] 63

/-- java/lang/CharSequence -/
def k4 : Class := { plain "java/lang/CharSequence" (some 0) with
  accessFlags := 1537
  interfaces := #[]
  cf := some (fileOf pool4 2 #[.nestMembers #[47, 59]] #[] 1537 66 #[] #[])
  fields := #[]
  methods := #[]
  instanceTypes := #[]
  staticTypes := #[]
  resolved := Array.replicate 131 none
  statics := none }

def pool5 : Array CpInfo := pool [(1, .class_ 2), (0, u "java/lang/constant/Constable"), (0, .class_ 4), (0, u "java/lang/Object")] 6

/-- java/lang/constant/Constable -/
def k5 : Class := { plain "java/lang/constant/Constable" (some 0) with
  accessFlags := 1537
  interfaces := #[]
  cf := some (fileOf pool5 1 #[] #[] 1537 3 #[] #[])
  fields := #[]
  methods := #[]
  instanceTypes := #[]
  staticTypes := #[]
  resolved := Array.replicate 11 none
  statics := none }

def pool6 : Array CpInfo := pool [(1, .class_ 2), (0, u "java/lang/constant/ConstantDesc"), (0, .class_ 4), (0, u "java/lang/Object")] 32

/-- java/lang/constant/ConstantDesc -/
def k6 : Class := { plain "java/lang/constant/ConstantDesc" (some 0) with
  accessFlags := 1537
  interfaces := #[]
  cf := some (fileOf pool6 1 #[] #[] 1537 3 #[] #[])
  fields := #[]
  methods := #[]
  instanceTypes := #[]
  staticTypes := #[]
  resolved := Array.replicate 37 none
  statics := none }

def pool7 : Array CpInfo := pool [(1, .methodref 2 3), (0, .class_ 4), (0, .nameAndType 5 6), (0, u "java/lang/Object"), (0, u "<init>"), (0, u "()V"), (2, .fieldref 10 11), (0, .class_ 12), (0, .nameAndType 13 14), (0, u "java/lang/String"), (0, u "value"), (0, u "[B"), (0, .fieldref 10 16), (0, .nameAndType 17 18), (0, u "coder"), (0, u "B"), (2, u "hash"), (0, u "I"), (2, u "hashIsZero"), (0, u "Z"), (0, .methodref 10 28), (0, .nameAndType 5 29), (0, u "([CIILjava/lang/Void;)V"), (8, .fieldref 10 39), (0, .nameAndType 40 26), (0, u "COMPACT_STRINGS"), (1, .class_ 44), (1, u "java/lang/StringUTF16"), (0, u "compress"), (1, .methodref 42 48), (0, .nameAndType 49 50), (0, u "coderFromArrayLen"), (0, u "([BI)B"), (3, .methodref 55 56), (0, .class_ 57), (0, .nameAndType 58 59), (0, u "java/util/Arrays"), (0, u "copyOfRange"), (0, u "([BII)[B"), (47, .class_ 109), (1, u "java/lang/StringLatin1"), (32, u "()Z"), (34, .methodref 42 178), (0, .nameAndType 45 179), (0, u "([CII)[B"), (13, .class_ 195), (1, u "java/lang/System"), (16, .methodref 193 213), (0, .nameAndType 214 215), (0, u "arraycopy"), (0, u "(Ljava/lang/Object;ILjava/lang/Object;II)V"), (118, u "()I"), (0, .methodref 10 336), (0, .nameAndType 17 337), (0, u "()B"), (2, u "()[B"), (148, .methodref 10 490), (0, .nameAndType 5 491), (0, u "(Ljava/lang/AbstractStringBuilder;Ljava/lang/Void;)V"), (1, .nameAndType 494 142), (0, u "isLatin1"), (11, .nameAndType 507 334), (0, u "length"), (24, u "getBytes"), (8, .methodref 107 542), (0, .nameAndType 543 544), (0, u "equals"), (0, u "([B[B)Z"), (4, .methodref 550 506), (0, .class_ 551), (0, u "java/lang/AbstractStringBuilder"), (0, .methodref 550 553), (0, .nameAndType 554 340), (0, u "getValue"), (18, u "(Ljava/lang/Object;)Z"), (1, .class_ 576), (0, u "java/lang/CharSequence"), (22, u "CASE_INSENSITIVE_ORDER"), (0, u "Ljava/util/Comparator;"), (220, u "([BIB)V"), (188, u "([C)V"), (36, .methodref 550 493), (53, u "serialPersistentFields"), (0, u "[Ljava/io/ObjectStreamField;"), (0, .class_ 1104), (0, u "java/lang/String$CaseInsensitiveComparator"), (1, .class_ 1107), (0, u "java/io/Serializable"), (0, .class_ 1109), (0, u "java/lang/Comparable"), (0, .class_ 1111), (0, u "java/lang/constant/Constable"), (0, .class_ 1113), (0, u "java/lang/constant/ConstantDesc"), (2, u "serialVersionUID"), (0, u "J"), (3, u "REPL"), (0, u "C"), (2, u "LATIN1"), (1, u "UTF16"), (105, u "(Ljava/lang/StringBuilder;)V")] 217

def k7m0 : Method := { name := "<init>", desc := "()V", sig := { parameters := [], returnType := none }, accessFlags := 1, code := none }
def k7c1 : Code := { maxStack := 5, maxLocals := 2, code := jdk_42_method_3_code, exceptionTable := #[], attributes := #[] }
def k7m1 : Method := { name := "<init>", desc := "([C)V", sig := { parameters := [(.array .char)], returnType := none }, accessFlags := 1, code := some k7c1 }
def k7c2 : Code := { maxStack := 3, maxLocals := 2, code := jdk_42_method_53_code, exceptionTable := #[], attributes := #[] }
def k7m2 : Method := { name := "<init>", desc := "(Ljava/lang/StringBuilder;)V", sig := { parameters := [(.object "java/lang/StringBuilder")], returnType := none }, accessFlags := 1, code := some k7c2 }
def k7c3 : Code := { maxStack := 2, maxLocals := 1, code := jdk_42_method_54_code, exceptionTable := #[], attributes := #[] }
def k7m3 : Method := { name := "length", desc := "()I", sig := { parameters := [], returnType := some .int }, accessFlags := 1, code := some k7c3 }
def k7c4 : Code := { maxStack := 2, maxLocals := 3, code := jdk_42_method_66_code, exceptionTable := #[], attributes := #[] }
def k7m4 : Method := { name := "equals", desc := "(Ljava/lang/Object;)Z", sig := { parameters := [(.object "java/lang/Object")], returnType := some .boolean }, accessFlags := 1, code := some k7c4 }
def k7c5 : Code := { maxStack := 5, maxLocals := 4, code := jdk_42_method_147_code, exceptionTable := #[], attributes := #[] }
def k7m5 : Method := { name := "getBytes", desc := "([BIB)V", sig := { parameters := [(.array .byte), .int, .byte], returnType := none }, accessFlags := 0, code := some k7c5 }
def k7c6 : Code := { maxStack := 4, maxLocals := 6, code := jdk_42_method_149_code, exceptionTable := #[], attributes := #[] }
def k7m6 : Method := { name := "<init>", desc := "([CIILjava/lang/Void;)V", sig := { parameters := [(.array .char), .int, .int, (.object "java/lang/Void")], returnType := none }, accessFlags := 2, code := some k7c6 }
def k7c7 : Code := { maxStack := 5, maxLocals := 5, code := jdk_42_method_150_code, exceptionTable := #[], attributes := #[] }
def k7m7 : Method := { name := "<init>", desc := "(Ljava/lang/AbstractStringBuilder;Ljava/lang/Void;)V", sig := { parameters := [(.object "java/lang/AbstractStringBuilder"), (.object "java/lang/Void")], returnType := none }, accessFlags := 0, code := some k7c7 }
def k7c8 : Code := { maxStack := 1, maxLocals := 1, code := jdk_42_method_152_code, exceptionTable := #[], attributes := #[] }
def k7m8 : Method := { name := "coder", desc := "()B", sig := { parameters := [], returnType := some .byte }, accessFlags := 0, code := some k7c8 }
/-- java/lang/String -/
def k7 : Class := { plain "java/lang/String" (some 0) with
  accessFlags := 49
  interfaces := #[2, 3, 4, 5, 6]
  cf := some (fileOf pool7 10 #[.nestMembers #[1103]] #[{ accessFlags := 1, nameIndex := 5, descriptorIndex := 6, attributes := #[] }, { accessFlags := 1, nameIndex := 5, descriptorIndex := 1010, attributes := #[] }, { accessFlags := 1, nameIndex := 5, descriptorIndex := 1233, attributes := #[] }, { accessFlags := 1, nameIndex := 507, descriptorIndex := 334, attributes := #[] }, { accessFlags := 1, nameIndex := 543, descriptorIndex := 573, attributes := #[] }, { accessFlags := 0, nameIndex := 532, descriptorIndex := 821, attributes := #[] }, { accessFlags := 2, nameIndex := 5, descriptorIndex := 29, attributes := #[] }, { accessFlags := 0, nameIndex := 5, descriptorIndex := 491, attributes := #[] }, { accessFlags := 0, nameIndex := 17, descriptorIndex := 337, attributes := #[] }] 49 2 #[1106, 1108, 575, 1110, 1112] #[{ accessFlags := 18, nameIndex := 13, descriptorIndex := 14, attributes := #[] }, { accessFlags := 18, nameIndex := 17, descriptorIndex := 18, attributes := #[] }, { accessFlags := 2, nameIndex := 21, descriptorIndex := 22, attributes := #[] }, { accessFlags := 2, nameIndex := 25, descriptorIndex := 26, attributes := #[] }, { accessFlags := 26, nameIndex := 1116, descriptorIndex := 1117, attributes := #[] }, { accessFlags := 24, nameIndex := 40, descriptorIndex := 26, attributes := #[] }, { accessFlags := 26, nameIndex := 1101, descriptorIndex := 1102, attributes := #[] }, { accessFlags := 26, nameIndex := 1121, descriptorIndex := 1122, attributes := #[] }, { accessFlags := 25, nameIndex := 599, descriptorIndex := 600, attributes := #[] }, { accessFlags := 24, nameIndex := 1125, descriptorIndex := 18, attributes := #[] }, { accessFlags := 24, nameIndex := 1127, descriptorIndex := 18, attributes := #[] }])
  fields := #[{ name := "value", type := (.array .byte), accessFlags := 18, slot := 0, constantValue := 0 }, { name := "coder", type := .byte, accessFlags := 18, slot := 1, constantValue := 0 }, { name := "hash", type := .int, accessFlags := 2, slot := 2, constantValue := 0 }, { name := "hashIsZero", type := .boolean, accessFlags := 2, slot := 3, constantValue := 0 }, { name := "serialVersionUID", type := .long, accessFlags := 26, slot := 0, constantValue := 0 }, { name := "COMPACT_STRINGS", type := .boolean, accessFlags := 24, slot := 1, constantValue := 0 }, { name := "serialPersistentFields", type := (.array (.object "java/io/ObjectStreamField")), accessFlags := 26, slot := 2, constantValue := 0 }, { name := "REPL", type := .char, accessFlags := 26, slot := 3, constantValue := 0 }, { name := "CASE_INSENSITIVE_ORDER", type := (.object "java/util/Comparator"), accessFlags := 25, slot := 4, constantValue := 0 }, { name := "LATIN1", type := .byte, accessFlags := 24, slot := 5, constantValue := 0 }, { name := "UTF16", type := .byte, accessFlags := 24, slot := 6, constantValue := 0 }]
  methods := #[k7m0, k7m1, k7m2, k7m3, k7m4, k7m5, k7m6, k7m7, k7m8]
  instanceTypes := #[(.array .byte), .byte, .int, .boolean]
  staticTypes := #[.long, .boolean, (.array (.object "java/io/ObjectStreamField")), .char, (.object "java/util/Comparator"), .byte, .byte]
  resolved := Array.replicate 1451 none
  statics := some 0 }

def pool8 : Array CpInfo := pool [(6, .class_ 8), (1, u "java/lang/Object"), (0, u "<init>"), (0, u "()V"), (1, .class_ 14), (1, u "java/lang/StringUTF16"), (31, u "$assertionsDisabled"), (0, u "Z"), (13, u "HI_BYTE_SHIFT"), (0, u "I"), (2, u "LO_BYTE_SHIFT"), (49, .methodref 12 116), (0, .nameAndType 117 118), (0, u "compress"), (0, u "([CI[BII)I"), (3, u "([CII)[B"), (138, u "coderFromArrayLen"), (0, u "([BI)B"), (106, .class_ 371), (1, u "java/lang/StringUTF16$LinesSpliterator"), (58, u "MAX_LENGTH"), (196, .class_ 628), (0, u "java/lang/StringUTF16$CodePointsSpliterator"), (0, .class_ 630), (0, u "java/lang/StringUTF16$CharsSpliterator")] 4

def k8m0 : Method := { name := "<init>", desc := "()V", sig := { parameters := [], returnType := none }, accessFlags := 0, code := none }
def k8c1 : Code := { maxStack := 2, maxLocals := 2, code := jdk_52_method_15_code, exceptionTable := #[], attributes := #[] }
def k8m1 : Method := { name := "coderFromArrayLen", desc := "([BI)B", sig := { parameters := [(.array .byte), .int], returnType := some .byte }, accessFlags := 8, code := some k8c1 }
def k8c2 : Code := { maxStack := 5, maxLocals := 6, code := jdk_52_method_16_code, exceptionTable := #[], attributes := #[] }
def k8m2 : Method := { name := "compress", desc := "([CII)[B", sig := { parameters := [(.array .char), .int, .int], returnType := some (.array .byte) }, accessFlags := 9, code := some k8c2 }
def k8c3 : Code := { maxStack := 3, maxLocals := 7, code := jdk_52_method_21_code, exceptionTable := #[], attributes := #[] }
def k8m3 : Method := { name := "compress", desc := "([CI[BII)I", sig := { parameters := [(.array .char), .int, (.array .byte), .int, .int], returnType := some .int }, accessFlags := 9, code := some k8c3 }
/-- java/lang/StringUTF16 -/
def k8 : Class := { plain "java/lang/StringUTF16" (some 0) with
  accessFlags := 48
  interfaces := #[]
  cf := some (fileOf pool8 12 #[.nestMembers #[627, 629, 369]] #[{ accessFlags := 0, nameIndex := 9, descriptorIndex := 10, attributes := #[] }, { accessFlags := 8, nameIndex := 261, descriptorIndex := 262, attributes := #[] }, { accessFlags := 9, nameIndex := 117, descriptorIndex := 122, attributes := #[] }, { accessFlags := 9, nameIndex := 117, descriptorIndex := 118, attributes := #[] }] 48 6 #[] #[{ accessFlags := 26, nameIndex := 61, descriptorIndex := 62, attributes := #[] }, { accessFlags := 26, nameIndex := 65, descriptorIndex := 62, attributes := #[] }, { accessFlags := 24, nameIndex := 430, descriptorIndex := 62, attributes := #[] }, { accessFlags := 4120, nameIndex := 46, descriptorIndex := 47, attributes := #[] }])
  fields := #[{ name := "HI_BYTE_SHIFT", type := .int, accessFlags := 26, slot := 0, constantValue := 0 }, { name := "LO_BYTE_SHIFT", type := .int, accessFlags := 26, slot := 1, constantValue := 0 }, { name := "MAX_LENGTH", type := .int, accessFlags := 24, slot := 2, constantValue := 0 }, { name := "$assertionsDisabled", type := .boolean, accessFlags := 4120, slot := 3, constantValue := 0 }]
  methods := #[k8m0, k8m1, k8m2, k8m3]
  instanceTypes := #[]
  staticTypes := #[.int, .int, .int, .boolean]
  resolved := Array.replicate 635 none
  statics := none }

def pool9 : Array CpInfo := pool [(1, .methodref 2 3), (0, .class_ 4), (0, .nameAndType 5 6), (0, u "java/lang/Object"), (0, u "<init>"), (0, u "()V"), (0, .fieldref 8 9), (0, .class_ 10), (0, .nameAndType 11 12), (0, u "com/example/kontraktor/kontraktor/cli/Option"), (0, u "name"), (0, u "Ljava/lang/String;"), (0, .fieldref 8 14), (0, .nameAndType 15 12), (0, u "value"), (0, .fieldref 8 17), (0, .nameAndType 18 19), (0, u "required"), (0, u "Z"), (0, .fieldref 8 21), (0, .nameAndType 22 19), (0, u "repeatable"), (0, .fieldref 8 24), (0, .nameAndType 25 12), (0, u "description"), (0, .methodref 8 27), (0, .nameAndType 5 28), (0, u "(Ljava/lang/String;Ljava/lang/String;ZZLjava/lang/String;)V"), (0, .class_ 30), (0, u "java/lang/StringBuilder"), (0, .methodref 29 3), (0, .methodref 29 33), (0, .nameAndType 34 35), (0, u "append"), (0, u "(Ljava/lang/String;)Ljava/lang/StringBuilder;"), (0, .string 37), (0, u " "), (0, .methodref 29 39), (0, .nameAndType 40 41), (0, u "toString"), (0, u "()Ljava/lang/String;"), (0, .methodref 8 43), (0, .nameAndType 44 41), (0, u "given"), (2, .string 48), (0, u ""), (0, .string 50), (0, u "["), (0, .string 52), (0, u "]"), (2, u "(Ljava/lang/String;Ljava/lang/String;Ljava/lang/String;)Lcom/example/kontraktor/kontraktor/cli/Option;"), (0, u "optional"), (0, u "getName"), (0, u "isRepeatable"), (0, u "()Z"), (0, u "getDescription"), (0, u "usage")] 5

def k9c0 : Code := { maxStack := 2, maxLocals := 6, code := prog_20_method_1_code, exceptionTable := #[], attributes := #[] }
def k9m0 : Method := { name := "<init>", desc := "(Ljava/lang/String;Ljava/lang/String;ZZLjava/lang/String;)V", sig := { parameters := [(.object "java/lang/String"), (.object "java/lang/String"), .boolean, .boolean, (.object "java/lang/String")], returnType := none }, accessFlags := 2, code := some k9c0 }
def k9c1 : Code := { maxStack := 7, maxLocals := 3, code := prog_20_method_3_code, exceptionTable := #[], attributes := #[] }
def k9m1 : Method := { name := "optional", desc := "(Ljava/lang/String;Ljava/lang/String;Ljava/lang/String;)Lcom/example/kontraktor/kontraktor/cli/Option;", sig := { parameters := [(.object "java/lang/String"), (.object "java/lang/String"), (.object "java/lang/String")], returnType := some (.object "com/example/kontraktor/kontraktor/cli/Option") }, accessFlags := 8, code := some k9c1 }
def k9c2 : Code := { maxStack := 1, maxLocals := 1, code := prog_20_method_5_code, exceptionTable := #[], attributes := #[] }
def k9m2 : Method := { name := "getName", desc := "()Ljava/lang/String;", sig := { parameters := [], returnType := some (.object "java/lang/String") }, accessFlags := 0, code := some k9c2 }
def k9c3 : Code := { maxStack := 1, maxLocals := 1, code := prog_20_method_6_code, exceptionTable := #[], attributes := #[] }
def k9m3 : Method := { name := "isRepeatable", desc := "()Z", sig := { parameters := [], returnType := some .boolean }, accessFlags := 0, code := some k9c3 }
def k9c4 : Code := { maxStack := 1, maxLocals := 1, code := prog_20_method_7_code, exceptionTable := #[], attributes := #[] }
def k9m4 : Method := { name := "getDescription", desc := "()Ljava/lang/String;", sig := { parameters := [], returnType := some (.object "java/lang/String") }, accessFlags := 0, code := some k9c4 }
def k9c5 : Code := { maxStack := 2, maxLocals := 1, code := prog_20_method_8_code, exceptionTable := #[], attributes := #[] }
def k9m5 : Method := { name := "given", desc := "()Ljava/lang/String;", sig := { parameters := [], returnType := some (.object "java/lang/String") }, accessFlags := 0, code := some k9c5 }
def k9c6 : Code := { maxStack := 2, maxLocals := 2, code := prog_20_method_9_code, exceptionTable := #[], attributes := #[] }
def k9m6 : Method := { name := "usage", desc := "()Ljava/lang/String;", sig := { parameters := [], returnType := some (.object "java/lang/String") }, accessFlags := 0, code := some k9c6 }
/-- com/example/kontraktor/kontraktor/cli/Option -/
def k9 : Class := { plain "com/example/kontraktor/kontraktor/cli/Option" (some 0) with
  accessFlags := 48
  interfaces := #[]
  cf := some (fileOf pool9 8 #[] #[{ accessFlags := 2, nameIndex := 5, descriptorIndex := 28, attributes := #[] }, { accessFlags := 8, nameIndex := 56, descriptorIndex := 55, attributes := #[] }, { accessFlags := 0, nameIndex := 57, descriptorIndex := 41, attributes := #[] }, { accessFlags := 0, nameIndex := 58, descriptorIndex := 59, attributes := #[] }, { accessFlags := 0, nameIndex := 60, descriptorIndex := 41, attributes := #[] }, { accessFlags := 0, nameIndex := 44, descriptorIndex := 41, attributes := #[] }, { accessFlags := 0, nameIndex := 61, descriptorIndex := 41, attributes := #[] }] 48 2 #[] #[{ accessFlags := 18, nameIndex := 11, descriptorIndex := 12, attributes := #[] }, { accessFlags := 18, nameIndex := 15, descriptorIndex := 12, attributes := #[] }, { accessFlags := 18, nameIndex := 18, descriptorIndex := 19, attributes := #[] }, { accessFlags := 18, nameIndex := 22, descriptorIndex := 19, attributes := #[] }, { accessFlags := 18, nameIndex := 25, descriptorIndex := 12, attributes := #[] }])
  fields := #[{ name := "name", type := (.object "java/lang/String"), accessFlags := 18, slot := 0, constantValue := 0 }, { name := "value", type := (.object "java/lang/String"), accessFlags := 18, slot := 1, constantValue := 0 }, { name := "required", type := .boolean, accessFlags := 18, slot := 2, constantValue := 0 }, { name := "repeatable", type := .boolean, accessFlags := 18, slot := 3, constantValue := 0 }, { name := "description", type := (.object "java/lang/String"), accessFlags := 18, slot := 4, constantValue := 0 }]
  methods := #[k9m0, k9m1, k9m2, k9m3, k9m4, k9m5, k9m6]
  instanceTypes := #[(.object "java/lang/String"), (.object "java/lang/String"), .boolean, .boolean, (.object "java/lang/String")]
  staticTypes := #[]
  resolved := Array.replicate 67 none
  statics := none }

def pool10 : Array CpInfo := pool [(1, .class_ 2), (0, u "java/lang/Appendable"), (0, .class_ 4), (0, u "java/lang/Object")] 9

/-- java/lang/Appendable -/
def k10 : Class := { plain "java/lang/Appendable" (some 0) with
  accessFlags := 1537
  interfaces := #[]
  cf := some (fileOf pool10 1 #[] #[] 1537 3 #[] #[])
  fields := #[]
  methods := #[]
  instanceTypes := #[]
  staticTypes := #[]
  resolved := Array.replicate 14 none
  statics := none }

def pool11 : Array CpInfo := pool [(1, .class_ 2), (0, u "java/lang/String"), (0, .methodref 4 5), (0, .class_ 6), (0, .nameAndType 7 8), (0, u "java/lang/Object"), (0, u "<init>"), (0, u "()V"), (1, .class_ 12), (1, u "java/lang/AbstractStringBuilder"), (0, u "EMPTYVALUE"), (0, u "[B"), (0, .fieldref 10 16), (0, .nameAndType 17 14), (0, u "value"), (0, .fieldref 1 19), (0, .nameAndType 20 21), (0, u "COMPACT_STRINGS"), (0, u "Z"), (0, .fieldref 10 23), (0, .nameAndType 24 25), (0, u "coder"), (0, u "B"), (6, .methodref 1 33), (0, .nameAndType 34 35), (0, u "length"), (0, u "()I"), (4, .methodref 1 41), (0, .nameAndType 24 42), (0, u "()B"), (2, u "append"), (0, u "(Ljava/lang/String;)Ljava/lang/AbstractStringBuilder;"), (1, .class_ 49), (0, u "java/lang/CharSequence"), (19, u "(Ljava/lang/String;)V"), (5, u "maybeLatin1"), (3, .fieldref 10 80), (0, .nameAndType 81 82), (0, u "count"), (0, u "I"), (2, u "isLatin1"), (0, u "()Z"), (13, .methodref 10 101), (0, .nameAndType 102 103), (0, u "ensureCapacityInternal"), (0, u "(I)V"), (104, .methodref 10 209), (0, .nameAndType 210 211), (0, u "putStringAt"), (0, u "(ILjava/lang/String;)V"), (5, u "inflateIfNeededFor"), (2, .nameAndType 221 222), (0, u "getBytes"), (0, u "([BIB)V"), (174, .methodref 10 398), (0, .nameAndType 217 69), (0, .methodref 1 220), (3, u "()[B"), (40, .class_ 445), (0, u "java/lang/Appendable"), (106, u "getValue")] 56

def k11m0 : Method := { name := "<init>", desc := "()V", sig := { parameters := [], returnType := none }, accessFlags := 0, code := none }
def k11c1 : Code := { maxStack := 2, maxLocals := 2, code := jdk_68_method_2_code, exceptionTable := #[], attributes := #[] }
def k11m1 : Method := { name := "<init>", desc := "(I)V", sig := { parameters := [.int], returnType := none }, accessFlags := 0, code := some k11c1 }
def k11c2 : Code := { maxStack := 1, maxLocals := 1, code := jdk_68_method_6_code, exceptionTable := #[], attributes := #[] }
def k11m2 : Method := { name := "length", desc := "()I", sig := { parameters := [], returnType := some .int }, accessFlags := 1, code := some k11c2 }
def k11c3 : Code := { maxStack := 4, maxLocals := 3, code := jdk_68_method_9_code, exceptionTable := #[], attributes := #[] }
def k11m3 : Method := { name := "ensureCapacityInternal", desc := "(I)V", sig := { parameters := [.int], returnType := none }, accessFlags := 2, code := some k11c3 }
def k11c4 : Code := { maxStack := 3, maxLocals := 3, code := jdk_68_method_22_code, exceptionTable := #[], attributes := #[] }
def k11m4 : Method := { name := "append", desc := "(Ljava/lang/String;)Ljava/lang/AbstractStringBuilder;", sig := { parameters := [(.object "java/lang/String")], returnType := some (.object "java/lang/AbstractStringBuilder") }, accessFlags := 1, code := some k11c4 }
def k11c5 : Code := { maxStack := 1, maxLocals := 1, code := jdk_68_method_64_code, exceptionTable := #[], attributes := #[] }
def k11m5 : Method := { name := "getValue", desc := "()[B", sig := { parameters := [], returnType := some (.array .byte) }, accessFlags := 16, code := some k11c5 }
def k11c6 : Code := { maxStack := 1, maxLocals := 1, code := jdk_68_method_68_code, exceptionTable := #[], attributes := #[] }
def k11m6 : Method := { name := "isLatin1", desc := "()Z", sig := { parameters := [], returnType := some .boolean }, accessFlags := 16, code := some k11c6 }
def k11c7 : Code := { maxStack := 2, maxLocals := 2, code := jdk_68_method_71_code, exceptionTable := #[], attributes := #[] }
def k11m7 : Method := { name := "inflateIfNeededFor", desc := "(Ljava/lang/String;)V", sig := { parameters := [(.object "java/lang/String")], returnType := none }, accessFlags := 2, code := some k11c7 }
def k11c8 : Code := { maxStack := 4, maxLocals := 3, code := jdk_68_method_73_code, exceptionTable := #[], attributes := #[] }
def k11m8 : Method := { name := "putStringAt", desc := "(ILjava/lang/String;)V", sig := { parameters := [.int, (.object "java/lang/String")], returnType := none }, accessFlags := 2, code := some k11c8 }
/-- java/lang/AbstractStringBuilder -/
def k11 : Class := { plain "java/lang/AbstractStringBuilder" (some 0) with
  accessFlags := 1056
  interfaces := #[10, 4]
  cf := some (fileOf pool11 10 #[] #[{ accessFlags := 0, nameIndex := 7, descriptorIndex := 8, attributes := #[] }, { accessFlags := 0, nameIndex := 7, descriptorIndex := 103, attributes := #[] }, { accessFlags := 1, nameIndex := 34, descriptorIndex := 35, attributes := #[] }, { accessFlags := 2, nameIndex := 102, descriptorIndex := 103, attributes := #[] }, { accessFlags := 1, nameIndex := 45, descriptorIndex := 46, attributes := #[] }, { accessFlags := 16, nameIndex := 552, descriptorIndex := 403, attributes := #[] }, { accessFlags := 16, nameIndex := 85, descriptorIndex := 86, attributes := #[] }, { accessFlags := 2, nameIndex := 217, descriptorIndex := 69, attributes := #[] }, { accessFlags := 2, nameIndex := 210, descriptorIndex := 211, attributes := #[] }] 1056 4 #[444, 48] #[{ accessFlags := 0, nameIndex := 17, descriptorIndex := 14, attributes := #[] }, { accessFlags := 0, nameIndex := 24, descriptorIndex := 25, attributes := #[] }, { accessFlags := 0, nameIndex := 75, descriptorIndex := 21, attributes := #[] }, { accessFlags := 0, nameIndex := 81, descriptorIndex := 82, attributes := #[] }, { accessFlags := 26, nameIndex := 13, descriptorIndex := 14, attributes := #[] }])
  fields := #[{ name := "value", type := (.array .byte), accessFlags := 0, slot := 0, constantValue := 0 }, { name := "coder", type := .byte, accessFlags := 0, slot := 1, constantValue := 0 }, { name := "maybeLatin1", type := .boolean, accessFlags := 0, slot := 2, constantValue := 0 }, { name := "count", type := .int, accessFlags := 0, slot := 3, constantValue := 0 }, { name := "EMPTYVALUE", type := (.array .byte), accessFlags := 26, slot := 0, constantValue := 0 }]
  methods := #[k11m0, k11m1, k11m2, k11m3, k11m4, k11m5, k11m6, k11m7, k11m8]
  instanceTypes := #[(.array .byte), .byte, .boolean, .int]
  staticTypes := #[(.array .byte)]
  resolved := Array.replicate 609 none
  statics := none }

def pool12 : Array CpInfo := pool [(1, .methodref 2 3), (0, .class_ 4), (0, .nameAndType 5 6), (0, u "java/lang/AbstractStringBuilder"), (0, u "<init>"), (0, u "(I)V"), (11, .class_ 20), (1, u "java/lang/String"), (3, .class_ 26), (1, u "java/lang/StringBuilder"), (0, u "append"), (0, u "(Ljava/lang/String;)Ljava/lang/StringBuilder;"), (0, .methodref 2 30), (0, .nameAndType 27 31), (0, u "(Ljava/lang/String;)Ljava/lang/AbstractStringBuilder;"), (105, .methodref 18 138), (0, .nameAndType 5 139), (0, u "(Ljava/lang/StringBuilder;)V"), (5, u "()V"), (10, u "()I"), (186, .methodref 2 344), (0, .nameAndType 345 156), (0, u "length"), (3, .class_ 350), (0, u "java/lang/Appendable"), (0, .class_ 352), (0, u "java/io/Serializable"), (0, .class_ 354), (0, u "java/lang/Comparable"), (0, .class_ 356), (0, u "java/lang/CharSequence"), (0, u "serialVersionUID"), (0, u "J"), (40, u "toString"), (0, u "()Ljava/lang/String;")] 21

def k12c0 : Code := { maxStack := 2, maxLocals := 1, code := jdk_67_method_1_code, exceptionTable := #[], attributes := #[] }
def k12m0 : Method := { name := "<init>", desc := "()V", sig := { parameters := [], returnType := none }, accessFlags := 1, code := some k12c0 }
def k12c1 : Code := { maxStack := 2, maxLocals := 2, code := jdk_67_method_7_code, exceptionTable := #[], attributes := #[] }
def k12m1 : Method := { name := "append", desc := "(Ljava/lang/String;)Ljava/lang/StringBuilder;", sig := { parameters := [(.object "java/lang/String")], returnType := some (.object "java/lang/StringBuilder") }, accessFlags := 1, code := some k12c1 }
def k12c2 : Code := { maxStack := 3, maxLocals := 1, code := jdk_67_method_42_code, exceptionTable := #[], attributes := #[] }
def k12m2 : Method := { name := "toString", desc := "()Ljava/lang/String;", sig := { parameters := [], returnType := some (.object "java/lang/String") }, accessFlags := 1, code := some k12c2 }
def k12c3 : Code := { maxStack := 1, maxLocals := 1, code := jdk_67_method_93_code, exceptionTable := #[], attributes := #[] }
def k12m3 : Method := { name := "length", desc := "()I", sig := { parameters := [], returnType := some .int }, accessFlags := 4161, code := some k12c3 }
/-- java/lang/StringBuilder -/
def k12 : Class := { plain "java/lang/StringBuilder" (some 11) with
  accessFlags := 49
  interfaces := #[10, 2, 3, 4]
  cf := some (fileOf pool12 24 #[] #[{ accessFlags := 1, nameIndex := 5, descriptorIndex := 145, attributes := #[] }, { accessFlags := 1, nameIndex := 27, descriptorIndex := 28, attributes := #[] }, { accessFlags := 1, nameIndex := 399, descriptorIndex := 400, attributes := #[] }, { accessFlags := 4161, nameIndex := 345, descriptorIndex := 156, attributes := #[] }] 49 2 #[349, 351, 353, 355] #[{ accessFlags := 24, nameIndex := 357, descriptorIndex := 358, attributes := #[] }])
  fields := #[{ name := "serialVersionUID", type := .long, accessFlags := 24, slot := 0, constantValue := 0 }]
  methods := #[k12m0, k12m1, k12m2, k12m3]
  instanceTypes := #[(.array .byte), .byte, .boolean, .int]
  staticTypes := #[.long]
  resolved := Array.replicate 422 none
  statics := none }

def pool13 : Array CpInfo := pool [(2, .class_ 4), (1, u "java/lang/Object"), (0, u "<init>"), (0, u "()V"), (1, .class_ 10), (1, u "java/lang/System"), (0, u "allowSecurityManager"), (0, u "I"), (16, u "cons"), (0, u "Ljava/io/Console;"), (77, .class_ 110), (1, u "java/lang/System$CallersHolder"), (43, u "initialErrStream"), (0, u "Ljava/io/PrintStream;"), (19, u "security"), (0, u "Ljava/lang/SecurityManager;"), (31, .class_ 209), (0, u "java/lang/System$1"), (7, u "props"), (0, u "Ljava/util/Properties;"), (2, u "lineSeparator"), (0, u "Ljava/lang/String;"), (96, .class_ 321), (1, u "java/lang/System$LoggerFinder"), (5, .class_ 328), (0, u "java/lang/System$Logger"), (67, u "err"), (2, u "out"), (91, u "notSupportedJnuEncoding"), (15, u "in"), (17, u "initialIn"), (0, u "Ljava/io/InputStream;"), (35, u "bootLayer"), (0, u "Ljava/lang/ModuleLayer;"), (99, .class_ 664), (0, u "java/lang/System$2"), (9, u "NEVER"), (2, u "MAYBE"), (49, u "arraycopy"), (0, u "(Ljava/lang/Object;ILjava/lang/Object;II)V"), (72, .class_ 802), (0, u "java/lang/System$Logger$Level")] 31

def k13m0 : Method := { name := "<init>", desc := "()V", sig := { parameters := [], returnType := none }, accessFlags := 2, code := none }
def k13m1 : Method := { name := "arraycopy", desc := "(Ljava/lang/Object;ILjava/lang/Object;II)V", sig := { parameters := [(.object "java/lang/Object"), .int, (.object "java/lang/Object"), .int, .int], returnType := none }, accessFlags := 265, code := none }
/-- java/lang/System -/
def k13 : Class := { plain "java/lang/System" (some 0) with
  accessFlags := 49
  interfaces := #[]
  cf := some (fileOf pool13 8 #[.nestMembers #[319, 327, 801, 108, 663, 208]] #[{ accessFlags := 2, nameIndex := 5, descriptorIndex := 6, attributes := #[] }, { accessFlags := 265, nameIndex := 727, descriptorIndex := 728, attributes := #[] }] 49 2 #[] #[{ accessFlags := 25, nameIndex := 507, descriptorIndex := 526, attributes := #[] }, { accessFlags := 25, nameIndex := 399, descriptorIndex := 155, attributes := #[] }, { accessFlags := 25, nameIndex := 396, descriptorIndex := 155, attributes := #[] }, { accessFlags := 10, nameIndex := 525, descriptorIndex := 526, attributes := #[] }, { accessFlags := 26, nameIndex := 674, descriptorIndex := 12, attributes := #[] }, { accessFlags := 26, nameIndex := 677, descriptorIndex := 12, attributes := #[] }, { accessFlags := 10, nameIndex := 11, descriptorIndex := 12, attributes := #[] }, { accessFlags := 74, nameIndex := 175, descriptorIndex := 176, attributes := #[] }, { accessFlags := 10, nameIndex := 491, descriptorIndex := 222, attributes := #[] }, { accessFlags := 74, nameIndex := 29, descriptorIndex := 30, attributes := #[] }, { accessFlags := 74, nameIndex := 154, descriptorIndex := 155, attributes := #[] }, { accessFlags := 10, nameIndex := 217, descriptorIndex := 218, attributes := #[] }, { accessFlags := 10, nameIndex := 221, descriptorIndex := 222, attributes := #[] }, { accessFlags := 8, nameIndex := 562, descriptorIndex := 563, attributes := #[] }])
  fields := #[{ name := "in", type := (.object "java/io/InputStream"), accessFlags := 25, slot := 0, constantValue := 0 }, { name := "out", type := (.object "java/io/PrintStream"), accessFlags := 25, slot := 1, constantValue := 0 }, { name := "err", type := (.object "java/io/PrintStream"), accessFlags := 25, slot := 2, constantValue := 0 }, { name := "initialIn", type := (.object "java/io/InputStream"), accessFlags := 10, slot := 3, constantValue := 0 }, { name := "NEVER", type := .int, accessFlags := 26, slot := 4, constantValue := 0 }, { name := "MAYBE", type := .int, accessFlags := 26, slot := 5, constantValue := 0 }, { name := "allowSecurityManager", type := .int, accessFlags := 10, slot := 6, constantValue := 0 }, { name := "security", type := (.object "java/lang/SecurityManager"), accessFlags := 74, slot := 7, constantValue := 0 }, { name := "notSupportedJnuEncoding", type := (.object "java/lang/String"), accessFlags := 10, slot := 8, constantValue := 0 }, { name := "cons", type := (.object "java/io/Console"), accessFlags := 74, slot := 9, constantValue := 0 }, { name := "initialErrStream", type := (.object "java/io/PrintStream"), accessFlags := 74, slot := 10, constantValue := 0 }, { name := "props", type := (.object "java/util/Properties"), accessFlags := 10, slot := 11, constantValue := 0 }, { name := "lineSeparator", type := (.object "java/lang/String"), accessFlags := 10, slot := 12, constantValue := 0 }, { name := "bootLayer", type := (.object "java/lang/ModuleLayer"), accessFlags := 8, slot := 13, constantValue := 0 }]
  methods := #[k13m0, k13m1]
  instanceTypes := #[]
  staticTypes := #[(.object "java/io/InputStream"), (.object "java/io/PrintStream"), (.object "java/io/PrintStream"), (.object "java/io/InputStream"), .int, .int, .int, (.object "java/lang/SecurityManager"), (.object "java/lang/String"), (.object "java/io/Console"), (.object "java/io/PrintStream"), (.object "java/util/Properties"), (.object "java/lang/String"), (.object "java/lang/ModuleLayer")]
  resolved := Array.replicate 834 none
  statics := none }

def pool14 : Array CpInfo := pool [(2, .class_ 4), (1, u "java/lang/Object"), (0, u "<init>"), (0, u "()V"), (7, .class_ 16), (1, u "java/util/Arrays"), (57, .class_ 76), (1, u "java/util/Arrays$NaturalOrder"), (36, .class_ 115), (1, u "java/util/Arrays$LegacyMergeSort"), (1, u "Z"), (21, u "copyOfRange"), (10, .methodref 151 152), (0, .class_ 153), (0, .nameAndType 154 155), (0, u "java/lang/System"), (0, u "arraycopy"), (0, u "(Ljava/lang/Object;ILjava/lang/Object;II)V"), (148, .methodref 305 306), (0, .class_ 307), (0, .nameAndType 308 309), (0, u "java/lang/Math"), (0, u "min"), (0, u "(II)I"), (29, .methodref 14 340), (0, .nameAndType 341 342), (0, u "copyOfRangeByte"), (0, u "([BII)[B"), (0, .methodref 14 344), (0, .nameAndType 345 346), (0, u "checkLength"), (0, u "(II)V"), (28, .class_ 376), (0, u "java/util/Arrays$ArrayList"), (68, u "$assertionsDisabled"), (269, u "MIN_ARRAY_SORT_GRAN"), (0, u "I"), (2, u "INSERTIONSORT_THRESHOLD"), (255, .class_ 976), (0, u "java/util/Arrays$ArrayItr")] 52

def k14m0 : Method := { name := "<init>", desc := "()V", sig := { parameters := [], returnType := none }, accessFlags := 2, code := none }
def k14c1 : Code := { maxStack := 4, maxLocals := 2, code := jdk_65_method_131_code, exceptionTable := #[], attributes := #[] }
def k14m1 : Method := { name := "checkLength", desc := "(II)V", sig := { parameters := [.int, .int], returnType := none }, accessFlags := 10, code := some k14c1 }
def k14c2 : Code := { maxStack := 3, maxLocals := 3, code := jdk_65_method_132_code, exceptionTable := #[], attributes := #[] }
def k14m2 : Method := { name := "copyOfRange", desc := "([BII)[B", sig := { parameters := [(.array .byte), .int, .int], returnType := some (.array .byte) }, accessFlags := 9, code := some k14c2 }
def k14c3 : Code := { maxStack := 6, maxLocals := 5, code := jdk_65_method_133_code, exceptionTable := #[], attributes := #[] }
def k14m3 : Method := { name := "copyOfRangeByte", desc := "([BII)[B", sig := { parameters := [(.array .byte), .int, .int], returnType := some (.array .byte) }, accessFlags := 10, code := some k14c3 }
/-- java/util/Arrays -/
def k14 : Class := { plain "java/util/Arrays" (some 0) with
  accessFlags := 49
  interfaces := #[]
  cf := some (fileOf pool14 14 #[.nestMembers #[975, 375, 113, 74]] #[{ accessFlags := 2, nameIndex := 5, descriptorIndex := 6, attributes := #[] }, { accessFlags := 10, nameIndex := 345, descriptorIndex := 346, attributes := #[] }, { accessFlags := 9, nameIndex := 139, descriptorIndex := 342, attributes := #[] }, { accessFlags := 10, nameIndex := 341, descriptorIndex := 342, attributes := #[] }] 49 2 #[] #[{ accessFlags := 26, nameIndex := 715, descriptorIndex := 716, attributes := #[] }, { accessFlags := 26, nameIndex := 719, descriptorIndex := 716, attributes := #[] }, { accessFlags := 4120, nameIndex := 445, descriptorIndex := 117, attributes := #[] }])
  fields := #[{ name := "MIN_ARRAY_SORT_GRAN", type := .int, accessFlags := 26, slot := 0, constantValue := 0 }, { name := "INSERTIONSORT_THRESHOLD", type := .int, accessFlags := 26, slot := 1, constantValue := 0 }, { name := "$assertionsDisabled", type := .boolean, accessFlags := 4120, slot := 2, constantValue := 0 }]
  methods := #[k14m0, k14m1, k14m2, k14m3]
  instanceTypes := #[]
  staticTypes := #[.int, .int, .boolean]
  resolved := Array.replicate 1029 none
  statics := none }

def pool15 : Array CpInfo := pool [(1, .class_ 2), (0, u "java/lang/Math"), (1, .class_ 6), (1, u "java/lang/Object"), (0, u "<init>"), (0, u "()V"), (89, .class_ 100), (1, u "java/lang/Math$RandomNumberGeneratorHolder"), (71, u "negativeZeroFloatBits"), (0, u "J"), (2, u "negativeZeroDoubleBits"), (24, u "min"), (43, u "$assertionsDisabled"), (0, u "Z"), (88, u "(II)I"), (2, u "twoToTheDoubleScaleDown"), (0, u "D"), (4, u "twoToTheDoubleScaleUp"), (9, u "E"), (3, u "PI"), (2, u "TAU"), (2, u "DEGREES_TO_RADIANS"), (0, u "RADIANS_TO_DEGREES")] 94

def k15m0 : Method := { name := "<init>", desc := "()V", sig := { parameters := [], returnType := none }, accessFlags := 2, code := none }
def k15c1 : Code := { maxStack := 2, maxLocals := 2, code := jdk_29_method_69_code, exceptionTable := #[], attributes := #[] }
def k15m1 : Method := { name := "min", desc := "(II)I", sig := { parameters := [.int, .int], returnType := some .int }, accessFlags := 9, code := some k15c1 }
/-- java/lang/Math -/
def k15 : Class := { plain "java/lang/Math" (some 0) with
  accessFlags := 49
  interfaces := #[]
  cf := some (fileOf pool15 1 #[.nestMembers #[98]] #[{ accessFlags := 2, nameIndex := 7, descriptorIndex := 8, attributes := #[] }, { accessFlags := 9, nameIndex := 201, descriptorIndex := 335, attributes := #[] }] 49 4 #[] #[{ accessFlags := 25, nameIndex := 354, descriptorIndex := 339, attributes := #[] }, { accessFlags := 25, nameIndex := 358, descriptorIndex := 339, attributes := #[] }, { accessFlags := 25, nameIndex := 361, descriptorIndex := 339, attributes := #[] }, { accessFlags := 26, nameIndex := 364, descriptorIndex := 339, attributes := #[] }, { accessFlags := 26, nameIndex := 365, descriptorIndex := 339, attributes := #[] }, { accessFlags := 26, nameIndex := 172, descriptorIndex := 173, attributes := #[] }, { accessFlags := 26, nameIndex := 176, descriptorIndex := 173, attributes := #[] }, { accessFlags := 8, nameIndex := 344, descriptorIndex := 339, attributes := #[] }, { accessFlags := 8, nameIndex := 338, descriptorIndex := 339, attributes := #[] }, { accessFlags := 4120, nameIndex := 245, descriptorIndex := 246, attributes := #[] }])
  fields := #[{ name := "E", type := .double, accessFlags := 25, slot := 0, constantValue := 0 }, { name := "PI", type := .double, accessFlags := 25, slot := 1, constantValue := 0 }, { name := "TAU", type := .double, accessFlags := 25, slot := 2, constantValue := 0 }, { name := "DEGREES_TO_RADIANS", type := .double, accessFlags := 26, slot := 3, constantValue := 0 }, { name := "RADIANS_TO_DEGREES", type := .double, accessFlags := 26, slot := 4, constantValue := 0 }, { name := "negativeZeroFloatBits", type := .long, accessFlags := 26, slot := 5, constantValue := 0 }, { name := "negativeZeroDoubleBits", type := .long, accessFlags := 26, slot := 6, constantValue := 0 }, { name := "twoToTheDoubleScaleUp", type := .double, accessFlags := 8, slot := 7, constantValue := 0 }, { name := "twoToTheDoubleScaleDown", type := .double, accessFlags := 8, slot := 8, constantValue := 0 }, { name := "$assertionsDisabled", type := .boolean, accessFlags := 4120, slot := 9, constantValue := 0 }]
  methods := #[k15m0, k15m1]
  instanceTypes := #[]
  staticTypes := #[.double, .double, .double, .double, .double, .long, .long, .double, .double, .boolean]
  resolved := Array.replicate 460 none
  statics := none }

def pool16 : Array CpInfo := pool [(4, .class_ 6), (1, u "java/lang/Object"), (0, u "<init>"), (0, u "()V"), (5, .class_ 16), (1, u "java/lang/StringLatin1"), (104, u "$assertionsDisabled"), (0, u "Z"), (98, .class_ 223), (1, u "java/lang/StringLatin1$LinesSpliterator"), (57, u "equals"), (0, u "([B[B)Z"), (107, .class_ 391), (0, u "java/lang/StringLatin1$CharsSpliterator")] 3

def k16m0 : Method := { name := "<init>", desc := "()V", sig := { parameters := [], returnType := none }, accessFlags := 0, code := none }
def k16c1 : Code := { maxStack := 3, maxLocals := 3, code := jdk_43_method_13_code, exceptionTable := #[], attributes := #[] }
def k16m1 : Method := { name := "equals", desc := "([B[B)Z", sig := { parameters := [(.array .byte), (.array .byte)], returnType := some .boolean }, accessFlags := 9, code := some k16c1 }
/-- java/lang/StringLatin1 -/
def k16 : Class := { plain "java/lang/StringLatin1" (some 0) with
  accessFlags := 48
  interfaces := #[]
  cf := some (fileOf pool16 14 #[.nestMembers #[390, 221]] #[{ accessFlags := 0, nameIndex := 7, descriptorIndex := 8, attributes := #[] }, { accessFlags := 9, nameIndex := 281, descriptorIndex := 282, attributes := #[] }] 48 4 #[] #[{ accessFlags := 4120, nameIndex := 121, descriptorIndex := 122, attributes := #[] }])
  fields := #[{ name := "$assertionsDisabled", type := .boolean, accessFlags := 4120, slot := 0, constantValue := 0 }]
  methods := #[k16m0, k16m1]
  instanceTypes := #[]
  staticTypes := #[.boolean]
  resolved := Array.replicate 395 none
  statics := none }

def pool17 : Array CpInfo := pool [(2, .class_ 4), (1, u "java/lang/Object"), (0, u "<init>"), (0, u "()V"), (17, .class_ 26), (1, u "jdk/internal/util/Preconditions"), (28, .class_ 56), (0, u "jdk/internal/util/Preconditions$4"), (57, .class_ 115), (0, u "jdk/internal/util/Preconditions$1"), (7, u "SIOOBE_FORMATTER"), (0, u "Ljava/util/function/BiFunction;"), (0, .class_ 126), (0, u "jdk/internal/util/Preconditions$2"), (3, u "AIOOBE_FORMATTER"), (0, .class_ 132), (0, u "jdk/internal/util/Preconditions$3"), (3, u "IOOBE_FORMATTER")] 57

def k17m0 : Method := { name := "<init>", desc := "()V", sig := { parameters := [], returnType := none }, accessFlags := 1, code := none }
/-- jdk/internal/util/Preconditions -/
def k17 : Class := { plain "jdk/internal/util/Preconditions" (some 0) with
  accessFlags := 33
  interfaces := #[]
  cf := some (fileOf pool17 24 #[.nestMembers #[55, 131, 125, 114]] #[{ accessFlags := 1, nameIndex := 5, descriptorIndex := 6, attributes := #[] }] 33 2 #[] #[{ accessFlags := 25, nameIndex := 123, descriptorIndex := 124, attributes := #[] }, { accessFlags := 25, nameIndex := 130, descriptorIndex := 124, attributes := #[] }, { accessFlags := 25, nameIndex := 136, descriptorIndex := 124, attributes := #[] }])
  fields := #[{ name := "SIOOBE_FORMATTER", type := (.object "java/util/function/BiFunction"), accessFlags := 25, slot := 0, constantValue := 0 }, { name := "AIOOBE_FORMATTER", type := (.object "java/util/function/BiFunction"), accessFlags := 25, slot := 1, constantValue := 0 }, { name := "IOOBE_FORMATTER", type := (.object "java/util/function/BiFunction"), accessFlags := 25, slot := 2, constantValue := 0 }]
  methods := #[k17m0]
  instanceTypes := #[]
  staticTypes := #[(.object "java/util/function/BiFunction"), (.object "java/util/function/BiFunction"), (.object "java/util/function/BiFunction")]
  resolved := Array.replicate 194 none
  statics := some 1 }

def pool18 : Array CpInfo := pool [(9, u "<init>"), (6, .class_ 18), (1, u "java/lang/Object"), (0, u "()V"), (1, .class_ 23), (1, u "jdk/internal/util/ArraysSupport"), (0, u "LOG2_ARRAY_LONG_INDEX_SCALE"), (0, u "I"), (2, u "U"), (0, u "Ljdk/internal/misc/Unsafe;"), (8, u "BIG_ENDIAN"), (0, u "Z"), (8, u "LOG2_BYTE_BIT_SIZE"), (4, u "LOG2_ARRAY_INT_INDEX_SCALE"), (54, u "JLA"), (0, u "Ljdk/internal/access/JavaLangAccess;"), (11, u "LOG2_ARRAY_BOOLEAN_INDEX_SCALE"), (9, u "LOG2_ARRAY_BYTE_INDEX_SCALE"), (5, u "LOG2_ARRAY_CHAR_INDEX_SCALE"), (5, u "LOG2_ARRAY_SHORT_INDEX_SCALE"), (18, u "LOG2_ARRAY_FLOAT_INDEX_SCALE"), (24, u "LOG2_ARRAY_DOUBLE_INDEX_SCALE"), (89, u "T_BOOLEAN"), (2, u "T_CHAR"), (1, u "T_FLOAT"), (1, u "T_DOUBLE"), (1, u "T_BYTE"), (1, u "T_SHORT"), (1, u "T_INT"), (1, u "T_LONG"), (1, u "SOFT_MAX_ARRAY_LENGTH")] 83

def k18m0 : Method := { name := "<init>", desc := "()V", sig := { parameters := [], returnType := none }, accessFlags := 2, code := none }
/-- jdk/internal/util/ArraysSupport -/
def k18 : Class := { plain "jdk/internal/util/ArraysSupport" (some 0) with
  accessFlags := 33
  interfaces := #[]
  cf := some (fileOf pool18 21 #[] #[{ accessFlags := 2, nameIndex := 9, descriptorIndex := 19, attributes := #[] }] 33 16 #[] #[{ accessFlags := 24, nameIndex := 28, descriptorIndex := 29, attributes := #[] }, { accessFlags := 26, nameIndex := 38, descriptorIndex := 39, attributes := #[] }, { accessFlags := 25, nameIndex := 121, descriptorIndex := 25, attributes := #[] }, { accessFlags := 25, nameIndex := 131, descriptorIndex := 25, attributes := #[] }, { accessFlags := 25, nameIndex := 137, descriptorIndex := 25, attributes := #[] }, { accessFlags := 25, nameIndex := 143, descriptorIndex := 25, attributes := #[] }, { accessFlags := 25, nameIndex := 53, descriptorIndex := 25, attributes := #[] }, { accessFlags := 25, nameIndex := 24, descriptorIndex := 25, attributes := #[] }, { accessFlags := 25, nameIndex := 162, descriptorIndex := 25, attributes := #[] }, { accessFlags := 25, nameIndex := 187, descriptorIndex := 25, attributes := #[] }, { accessFlags := 26, nameIndex := 48, descriptorIndex := 25, attributes := #[] }, { accessFlags := 25, nameIndex := 277, descriptorIndex := 25, attributes := #[] }, { accessFlags := 25, nameIndex := 280, descriptorIndex := 25, attributes := #[] }, { accessFlags := 25, nameIndex := 282, descriptorIndex := 25, attributes := #[] }, { accessFlags := 25, nameIndex := 284, descriptorIndex := 25, attributes := #[] }, { accessFlags := 25, nameIndex := 286, descriptorIndex := 25, attributes := #[] }, { accessFlags := 25, nameIndex := 288, descriptorIndex := 25, attributes := #[] }, { accessFlags := 25, nameIndex := 290, descriptorIndex := 25, attributes := #[] }, { accessFlags := 25, nameIndex := 292, descriptorIndex := 25, attributes := #[] }, { accessFlags := 26, nameIndex := 108, descriptorIndex := 109, attributes := #[] }, { accessFlags := 25, nameIndex := 294, descriptorIndex := 25, attributes := #[] }])
  fields := #[{ name := "U", type := (.object "jdk/internal/misc/Unsafe"), accessFlags := 24, slot := 0, constantValue := 0 }, { name := "BIG_ENDIAN", type := .boolean, accessFlags := 26, slot := 1, constantValue := 0 }, { name := "LOG2_ARRAY_BOOLEAN_INDEX_SCALE", type := .int, accessFlags := 25, slot := 2, constantValue := 0 }, { name := "LOG2_ARRAY_BYTE_INDEX_SCALE", type := .int, accessFlags := 25, slot := 3, constantValue := 0 }, { name := "LOG2_ARRAY_CHAR_INDEX_SCALE", type := .int, accessFlags := 25, slot := 4, constantValue := 0 }, { name := "LOG2_ARRAY_SHORT_INDEX_SCALE", type := .int, accessFlags := 25, slot := 5, constantValue := 0 }, { name := "LOG2_ARRAY_INT_INDEX_SCALE", type := .int, accessFlags := 25, slot := 6, constantValue := 0 }, { name := "LOG2_ARRAY_LONG_INDEX_SCALE", type := .int, accessFlags := 25, slot := 7, constantValue := 0 }, { name := "LOG2_ARRAY_FLOAT_INDEX_SCALE", type := .int, accessFlags := 25, slot := 8, constantValue := 0 }, { name := "LOG2_ARRAY_DOUBLE_INDEX_SCALE", type := .int, accessFlags := 25, slot := 9, constantValue := 0 }, { name := "LOG2_BYTE_BIT_SIZE", type := .int, accessFlags := 26, slot := 10, constantValue := 0 }, { name := "T_BOOLEAN", type := .int, accessFlags := 25, slot := 11, constantValue := 0 }, { name := "T_CHAR", type := .int, accessFlags := 25, slot := 12, constantValue := 0 }, { name := "T_FLOAT", type := .int, accessFlags := 25, slot := 13, constantValue := 0 }, { name := "T_DOUBLE", type := .int, accessFlags := 25, slot := 14, constantValue := 0 }, { name := "T_BYTE", type := .int, accessFlags := 25, slot := 15, constantValue := 0 }, { name := "T_SHORT", type := .int, accessFlags := 25, slot := 16, constantValue := 0 }, { name := "T_INT", type := .int, accessFlags := 25, slot := 17, constantValue := 0 }, { name := "T_LONG", type := .int, accessFlags := 25, slot := 18, constantValue := 0 }, { name := "JLA", type := (.object "jdk/internal/access/JavaLangAccess"), accessFlags := 26, slot := 19, constantValue := 0 }, { name := "SOFT_MAX_ARRAY_LENGTH", type := .int, accessFlags := 25, slot := 20, constantValue := 0 }]
  methods := #[k18m0]
  instanceTypes := #[]
  staticTypes := #[(.object "jdk/internal/misc/Unsafe"), .boolean, .int, .int, .int, .int, .int, .int, .int, .int, .int, .int, .int, .int, .int, .int, .int, .int, .int, (.object "jdk/internal/access/JavaLangAccess"), .int]
  resolved := Array.replicate 378 none
  statics := none }

def pool19 : Array CpInfo := pool [(1, u "java/lang/Cloneable"), (0, .class_ 1), (0, u "java/lang/Object"), (0, .class_ 3)] 3

/-- java/lang/Cloneable -/
def k19 : Class := { plain "java/lang/Cloneable" (some 0) with
  accessFlags := 1537
  interfaces := #[]
  cf := some (fileOf pool19 2 #[] #[] 1537 4 #[] #[])
  fields := #[]
  methods := #[]
  instanceTypes := #[]
  staticTypes := #[]
  resolved := Array.replicate 8 none
  statics := none }

/-- the primitive byte -/
def k20 : Class := { plain "byte" none with kind := .primitive 'B', accessFlags := 0x411 }
/-- [B -/
def k21 : Class := { plain "[B" (some 0) with kind := .array 20 .byte, interfaces := #[19, 2], accessFlags := 1041 }

/-- the primitive char -/
def k22 : Class := { plain "char" none with kind := .primitive 'C', accessFlags := 0x411 }
/-- [C -/
def k23 : Class := { plain "[C" (some 0) with kind := .array 22 .char, interfaces := #[19, 2], accessFlags := 1041 }

/-- the primitive int -/
def k24 : Class := { plain "int" none with kind := .primitive 'I', accessFlags := 0x411 }
/-- [I -/
def k25 : Class := { plain "[I" (some 0) with kind := .array 24 .int, interfaces := #[19, 2], accessFlags := 1041 }

def heap : Heap := #[{ cls := 7, slots := #[.long 0, .int 1, .null, .int 0, .null, .int 0, .int 0], vm := .statics 7 },
  { cls := 17, slots := #[.null, .null, .null], vm := .statics 17 }]
def classes : Array Class := #[k0, k1, k2, k3, k4, k5, k6, k7, k8, k9, k10, k11, k12, k13, k14, k15, k16, k17, k18, k19, k20, k21, k22, k23, k24, k25]
def interned : List (Array UInt16 × Addr) := []
def slotsUsed : Nat := 10
def theMethod : MethodId := ⟨1, 1⟩
def args0 : Array Value := #[.int 5, .int 7, .int 9]
def aboutOver (below : List Frame) : State where
  vm := { classes := classes, interned := interned.toArray }
  heap := heap
  slotsUsed := slotsUsed
  threads := #[{ frames := .invoking theMethod args0 :: below }]
def below0 : List Frame := [.native { method := ⟨0, 0⟩, args := #[] }]
def about1 : State := aboutOver below0
def p0 : Program := .bare "" "" ""
def e0 : Env := launch0.env 0 0 0
theorem w_frames : about1.frames = Frame.invoking theMethod args0 :: below0 := rfl
set_option maxRecDepth 65536 in
theorem w_args : argsFit about1.vm theMethod args0 = true := by decide +kernel
set_option maxRecDepth 65536 in
theorem w_heap : heapFits about1 = true := by decide +kernel
set_option maxRecDepth 65536 in
theorem w_runnable : about1.curStatus? = some .runnable := by decide +kernel
set_option maxRecDepth 65536 in
theorem w_alone : about1.alone = true := by decide +kernel
set_option maxRecDepth 65536 in
theorem w_named : about1.methodNamed? x = some theMethod := by decide +kernel
set_option maxRecDepth 65536 in
theorem w_hears : about1.hears theMethod below0 = true := by decide +kernel
set_option maxRecDepth 65536 in
theorem w_ripe : about1.ripe theMethod args0 below0 = true := by decide +kernel
theorem w_running : about1.status = .running := rfl
set_option maxRecDepth 65536 in
theorem w_room : about1.hasRoom e0.platform room_1 = true :=
  launch0.hasRoom_least _ room_1 (by decide +kernel) (by decide +kernel) (by decide +kernel) (by decide +kernel) (by decide +kernel) (by decide +kernel)
theorem allAtoms_all (ts : List Jvm.Cond) (a : Array Jvm.Value) (st : Jvm.State) : (allAtoms ts).before a st = ts.all (fun c => c.before a st) := by
  induction ts with
  | nil => rfl
  | cons c t ih =>
    show (Jvm.Cond.and c (allAtoms t)).before a st = _
    rw [Jvm.Cond.before_and, ih, List.all_cons]
def words1 : List Jvm.Cond := Jvm.Cond.code x code maxLocals ret :: tables_1
/-- a 'code' word, met by the world's own term for the bytes: nothing is compared byte by byte -/
theorem code_word {y : MethodName} {bytes : ByteArray} {mx : Nat} {rt : Option FieldType} {a : Array Value} {s : State} {m : MethodId} {meth : Method} {c : Code} (h1 : s.methodNamed? y = some m) (h2 : s.vm.method? m = some meth) (h3 : meth.code = some c) (h4 : c.code = bytes)
    (h5 : (c.maxLocals == mx && c.exceptionTable.isEmpty && decide (c.maxStack ≤ mostOperands) && decide (meth.sig.returnType = rt) && !meth.locks && decide (parseMethodDescriptor y.desc = some meth.sig)) = true) : (Jvm.Cond.code y bytes mx rt).before a s = true := by
  simp only [Bool.and_eq_true, beq_iff_eq, Bool.not_eq_true', decide_eq_true_eq] at h5
  obtain ⟨⟨⟨⟨⟨g1, g2⟩, g3⟩, g4⟩, g5⟩, g6⟩ := h5
  simp [Cond.before, Cond.holds, Cond.value, h1, h2, h3, h4, g1, g2, g3, g4, g5, g6]
def isCode : Jvm.Cond → Bool
  | .code _ _ _ _ => true
  | _ => false
theorem all_split {L : List Jvm.Cond} {P : Jvm.Cond → Bool} (h1 : L.all (fun c => isCode c || P c) = true) (h2 : ∀ c ∈ L.filter isCode, P c = true) : L.all P = true := by
  refine List.all_eq_true.mpr fun c hc => ?_
  have h := List.all_eq_true.mp h1 c hc
  rcases Bool.eq_false_or_eq_true (isCode c) with hi | hi
  · exact h2 c (List.mem_filter.mpr ⟨hc, hi⟩)
  · simpa [hi] using h
set_option maxRecDepth 65536 in
theorem w_c0 : (Jvm.Cond.code x code maxLocals ret).before args0 about1 = true := code_word (m := ⟨1, 1⟩) (meth := k1m1) (c := k1c1) (by decide +kernel) rfl rfl rfl (by decide +kernel)
set_option maxRecDepth 65536 in
theorem w_c1 : (Jvm.Cond.code ({ cls := "java/lang/String", name := "<init>", desc := "([C)V" } : Jvm.MethodName) jdk_42_method_3_code (2 : Nat) (Option.none : Option Jvm.ClassFile.FieldType)).before args0 about1 = true := code_word (m := ⟨7, 1⟩) (meth := k7m1) (c := k7c1) (by decide +kernel) rfl rfl rfl (by decide +kernel)
set_option maxRecDepth 65536 in
theorem w_c2 : (Jvm.Cond.code ({ cls := "java/lang/String", name := "<init>", desc := "([CIILjava/lang/Void;)V" } : Jvm.MethodName) jdk_42_method_149_code (6 : Nat) (Option.none : Option Jvm.ClassFile.FieldType)).before args0 about1 = true := code_word (m := ⟨7, 6⟩) (meth := k7m6) (c := k7c6) (by decide +kernel) rfl rfl rfl (by decide +kernel)
set_option maxRecDepth 65536 in
theorem w_c3 : (Jvm.Cond.code ({ cls := "java/lang/Object", name := "<init>", desc := "()V" } : Jvm.MethodName) object_method_1_code (1 : Nat) (Option.none : Option Jvm.ClassFile.FieldType)).before args0 about1 = true := code_word (m := ⟨0, 0⟩) (meth := k0m0) (c := k0c0) (by decide +kernel) rfl rfl rfl (by decide +kernel)
set_option maxRecDepth 65536 in
theorem w_c4 : (Jvm.Cond.code ({ cls := "java/lang/StringUTF16", name := "compress", desc := "([CII)[B" } : Jvm.MethodName) jdk_52_method_16_code (6 : Nat) (Option.some (Jvm.ClassFile.FieldType.array Jvm.ClassFile.FieldType.byte))).before args0 about1 = true := code_word (m := ⟨8, 2⟩) (meth := k8m2) (c := k8c2) (by decide +kernel) rfl rfl rfl (by decide +kernel)
set_option maxRecDepth 65536 in
theorem w_c5 : (Jvm.Cond.code ({ cls := "java/lang/StringUTF16", name := "compress", desc := "([CI[BII)I" } : Jvm.MethodName) jdk_52_method_21_code (7 : Nat) (Option.some Jvm.ClassFile.FieldType.int)).before args0 about1 = true := code_word (m := ⟨8, 3⟩) (meth := k8m3) (c := k8c3) (by decide +kernel) rfl rfl rfl (by decide +kernel)
set_option maxRecDepth 65536 in
theorem w_c6 : (Jvm.Cond.code ({ cls := "java/lang/StringUTF16", name := "coderFromArrayLen", desc := "([BI)B" } : Jvm.MethodName) jdk_52_method_15_code (2 : Nat) (Option.some Jvm.ClassFile.FieldType.byte)).before args0 about1 = true := code_word (m := ⟨8, 1⟩) (meth := k8m1) (c := k8c1) (by decide +kernel) rfl rfl rfl (by decide +kernel)
set_option maxRecDepth 65536 in
theorem w_c7 : (Jvm.Cond.code ({ cls := "com/example/kontraktor/kontraktor/cli/Option", name := "optional", desc := "(Ljava/lang/String;Ljava/lang/String;Ljava/lang/String;)Lcom/example/kontraktor/kontraktor/cli/Option;" } : Jvm.MethodName) prog_20_method_3_code (3 : Nat) (Option.some (Jvm.ClassFile.FieldType.object "com/example/kontraktor/kontraktor/cli/Option"))).before args0 about1 = true := code_word (m := ⟨9, 1⟩) (meth := k9m1) (c := k9c1) (by decide +kernel) rfl rfl rfl (by decide +kernel)
set_option maxRecDepth 65536 in
theorem w_c8 : (Jvm.Cond.code ({ cls := "com/example/kontraktor/kontraktor/cli/Option", name := "<init>", desc := "(Ljava/lang/String;Ljava/lang/String;ZZLjava/lang/String;)V" } : Jvm.MethodName) prog_20_method_1_code (6 : Nat) (Option.none : Option Jvm.ClassFile.FieldType)).before args0 about1 = true := code_word (m := ⟨9, 0⟩) (meth := k9m0) (c := k9c0) (by decide +kernel) rfl rfl rfl (by decide +kernel)
set_option maxRecDepth 65536 in
theorem w_c9 : (Jvm.Cond.code ({ cls := "com/example/kontraktor/kontraktor/cli/Option", name := "getName", desc := "()Ljava/lang/String;" } : Jvm.MethodName) prog_20_method_5_code (1 : Nat) (Option.some (Jvm.ClassFile.FieldType.object "java/lang/String"))).before args0 about1 = true := code_word (m := ⟨9, 2⟩) (meth := k9m2) (c := k9c2) (by decide +kernel) rfl rfl rfl (by decide +kernel)
set_option maxRecDepth 65536 in
theorem w_c10 : (Jvm.Cond.code ({ cls := "java/lang/String", name := "equals", desc := "(Ljava/lang/Object;)Z" } : Jvm.MethodName) jdk_42_method_66_code (3 : Nat) (Option.some Jvm.ClassFile.FieldType.boolean)).before args0 about1 = true := code_word (m := ⟨7, 4⟩) (meth := k7m4) (c := k7c4) (by decide +kernel) rfl rfl rfl (by decide +kernel)
set_option maxRecDepth 65536 in
theorem w_c11 : (Jvm.Cond.code ({ cls := "com/example/kontraktor/kontraktor/cli/Option", name := "getDescription", desc := "()Ljava/lang/String;" } : Jvm.MethodName) prog_20_method_7_code (1 : Nat) (Option.some (Jvm.ClassFile.FieldType.object "java/lang/String"))).before args0 about1 = true := code_word (m := ⟨9, 4⟩) (meth := k9m4) (c := k9c4) (by decide +kernel) rfl rfl rfl (by decide +kernel)
set_option maxRecDepth 65536 in
theorem w_c12 : (Jvm.Cond.code ({ cls := "com/example/kontraktor/kontraktor/cli/Option", name := "isRepeatable", desc := "()Z" } : Jvm.MethodName) prog_20_method_6_code (1 : Nat) (Option.some Jvm.ClassFile.FieldType.boolean)).before args0 about1 = true := code_word (m := ⟨9, 3⟩) (meth := k9m3) (c := k9c3) (by decide +kernel) rfl rfl rfl (by decide +kernel)
set_option maxRecDepth 65536 in
theorem w_c13 : (Jvm.Cond.code ({ cls := "com/example/kontraktor/kontraktor/cli/Option", name := "given", desc := "()Ljava/lang/String;" } : Jvm.MethodName) prog_20_method_8_code (1 : Nat) (Option.some (Jvm.ClassFile.FieldType.object "java/lang/String"))).before args0 about1 = true := code_word (m := ⟨9, 5⟩) (meth := k9m5) (c := k9c5) (by decide +kernel) rfl rfl rfl (by decide +kernel)
set_option maxRecDepth 65536 in
theorem w_c14 : (Jvm.Cond.code ({ cls := "java/lang/StringBuilder", name := "<init>", desc := "()V" } : Jvm.MethodName) jdk_67_method_1_code (1 : Nat) (Option.none : Option Jvm.ClassFile.FieldType)).before args0 about1 = true := code_word (m := ⟨12, 0⟩) (meth := k12m0) (c := k12c0) (by decide +kernel) rfl rfl rfl (by decide +kernel)
set_option maxRecDepth 65536 in
theorem w_c15 : (Jvm.Cond.code ({ cls := "java/lang/AbstractStringBuilder", name := "<init>", desc := "(I)V" } : Jvm.MethodName) jdk_68_method_2_code (2 : Nat) (Option.none : Option Jvm.ClassFile.FieldType)).before args0 about1 = true := code_word (m := ⟨11, 1⟩) (meth := k11m1) (c := k11c1) (by decide +kernel) rfl rfl rfl (by decide +kernel)
set_option maxRecDepth 65536 in
theorem w_c16 : (Jvm.Cond.code ({ cls := "java/lang/StringBuilder", name := "append", desc := "(Ljava/lang/String;)Ljava/lang/StringBuilder;" } : Jvm.MethodName) jdk_67_method_7_code (2 : Nat) (Option.some (Jvm.ClassFile.FieldType.object "java/lang/StringBuilder"))).before args0 about1 = true := code_word (m := ⟨12, 1⟩) (meth := k12m1) (c := k12c1) (by decide +kernel) rfl rfl rfl (by decide +kernel)
set_option maxRecDepth 65536 in
theorem w_c17 : (Jvm.Cond.code ({ cls := "java/lang/AbstractStringBuilder", name := "append", desc := "(Ljava/lang/String;)Ljava/lang/AbstractStringBuilder;" } : Jvm.MethodName) jdk_68_method_22_code (3 : Nat) (Option.some (Jvm.ClassFile.FieldType.object "java/lang/AbstractStringBuilder"))).before args0 about1 = true := code_word (m := ⟨11, 4⟩) (meth := k11m4) (c := k11c4) (by decide +kernel) rfl rfl rfl (by decide +kernel)
set_option maxRecDepth 65536 in
theorem w_c18 : (Jvm.Cond.code ({ cls := "java/lang/String", name := "length", desc := "()I" } : Jvm.MethodName) jdk_42_method_54_code (1 : Nat) (Option.some Jvm.ClassFile.FieldType.int)).before args0 about1 = true := code_word (m := ⟨7, 3⟩) (meth := k7m3) (c := k7c3) (by decide +kernel) rfl rfl rfl (by decide +kernel)
set_option maxRecDepth 65536 in
theorem w_c19 : (Jvm.Cond.code ({ cls := "java/lang/String", name := "coder", desc := "()B" } : Jvm.MethodName) jdk_42_method_152_code (1 : Nat) (Option.some Jvm.ClassFile.FieldType.byte)).before args0 about1 = true := code_word (m := ⟨7, 8⟩) (meth := k7m8) (c := k7c8) (by decide +kernel) rfl rfl rfl (by decide +kernel)
set_option maxRecDepth 65536 in
theorem w_c20 : (Jvm.Cond.code ({ cls := "java/lang/AbstractStringBuilder", name := "ensureCapacityInternal", desc := "(I)V" } : Jvm.MethodName) jdk_68_method_9_code (3 : Nat) (Option.none : Option Jvm.ClassFile.FieldType)).before args0 about1 = true := code_word (m := ⟨11, 3⟩) (meth := k11m3) (c := k11c3) (by decide +kernel) rfl rfl rfl (by decide +kernel)
set_option maxRecDepth 65536 in
theorem w_c21 : (Jvm.Cond.code ({ cls := "java/lang/AbstractStringBuilder", name := "putStringAt", desc := "(ILjava/lang/String;)V" } : Jvm.MethodName) jdk_68_method_73_code (3 : Nat) (Option.none : Option Jvm.ClassFile.FieldType)).before args0 about1 = true := code_word (m := ⟨11, 8⟩) (meth := k11m8) (c := k11c8) (by decide +kernel) rfl rfl rfl (by decide +kernel)
set_option maxRecDepth 65536 in
theorem w_c22 : (Jvm.Cond.code ({ cls := "java/lang/AbstractStringBuilder", name := "inflateIfNeededFor", desc := "(Ljava/lang/String;)V" } : Jvm.MethodName) jdk_68_method_71_code (2 : Nat) (Option.none : Option Jvm.ClassFile.FieldType)).before args0 about1 = true := code_word (m := ⟨11, 7⟩) (meth := k11m7) (c := k11c7) (by decide +kernel) rfl rfl rfl (by decide +kernel)
set_option maxRecDepth 65536 in
theorem w_c23 : (Jvm.Cond.code ({ cls := "java/lang/String", name := "getBytes", desc := "([BIB)V" } : Jvm.MethodName) jdk_42_method_147_code (4 : Nat) (Option.none : Option Jvm.ClassFile.FieldType)).before args0 about1 = true := code_word (m := ⟨7, 5⟩) (meth := k7m5) (c := k7c5) (by decide +kernel) rfl rfl rfl (by decide +kernel)
set_option maxRecDepth 65536 in
theorem w_c24 : (Jvm.Cond.code ({ cls := "java/lang/StringBuilder", name := "toString", desc := "()Ljava/lang/String;" } : Jvm.MethodName) jdk_67_method_42_code (1 : Nat) (Option.some (Jvm.ClassFile.FieldType.object "java/lang/String"))).before args0 about1 = true := code_word (m := ⟨12, 2⟩) (meth := k12m2) (c := k12c2) (by decide +kernel) rfl rfl rfl (by decide +kernel)
set_option maxRecDepth 65536 in
theorem w_c25 : (Jvm.Cond.code ({ cls := "java/lang/String", name := "<init>", desc := "(Ljava/lang/StringBuilder;)V" } : Jvm.MethodName) jdk_42_method_53_code (2 : Nat) (Option.none : Option Jvm.ClassFile.FieldType)).before args0 about1 = true := code_word (m := ⟨7, 2⟩) (meth := k7m2) (c := k7c2) (by decide +kernel) rfl rfl rfl (by decide +kernel)
set_option maxRecDepth 65536 in
theorem w_c26 : (Jvm.Cond.code ({ cls := "java/lang/String", name := "<init>", desc := "(Ljava/lang/AbstractStringBuilder;Ljava/lang/Void;)V" } : Jvm.MethodName) jdk_42_method_150_code (5 : Nat) (Option.none : Option Jvm.ClassFile.FieldType)).before args0 about1 = true := code_word (m := ⟨7, 7⟩) (meth := k7m7) (c := k7c7) (by decide +kernel) rfl rfl rfl (by decide +kernel)
set_option maxRecDepth 65536 in
theorem w_c27 : (Jvm.Cond.code ({ cls := "java/lang/AbstractStringBuilder", name := "getValue", desc := "()[B" } : Jvm.MethodName) jdk_68_method_64_code (1 : Nat) (Option.some (Jvm.ClassFile.FieldType.array Jvm.ClassFile.FieldType.byte))).before args0 about1 = true := code_word (m := ⟨11, 5⟩) (meth := k11m5) (c := k11c5) (by decide +kernel) rfl rfl rfl (by decide +kernel)
set_option maxRecDepth 65536 in
theorem w_c28 : (Jvm.Cond.code ({ cls := "java/lang/StringBuilder", name := "length", desc := "()I" } : Jvm.MethodName) jdk_67_method_93_code (1 : Nat) (Option.some Jvm.ClassFile.FieldType.int)).before args0 about1 = true := code_word (m := ⟨12, 3⟩) (meth := k12m3) (c := k12c3) (by decide +kernel) rfl rfl rfl (by decide +kernel)
set_option maxRecDepth 65536 in
theorem w_c29 : (Jvm.Cond.code ({ cls := "java/lang/AbstractStringBuilder", name := "length", desc := "()I" } : Jvm.MethodName) jdk_68_method_6_code (1 : Nat) (Option.some Jvm.ClassFile.FieldType.int)).before args0 about1 = true := code_word (m := ⟨11, 2⟩) (meth := k11m2) (c := k11c2) (by decide +kernel) rfl rfl rfl (by decide +kernel)
set_option maxRecDepth 65536 in
theorem w_c30 : (Jvm.Cond.code ({ cls := "java/lang/AbstractStringBuilder", name := "isLatin1", desc := "()Z" } : Jvm.MethodName) jdk_68_method_68_code (1 : Nat) (Option.some Jvm.ClassFile.FieldType.boolean)).before args0 about1 = true := code_word (m := ⟨11, 6⟩) (meth := k11m6) (c := k11c6) (by decide +kernel) rfl rfl rfl (by decide +kernel)
set_option maxRecDepth 65536 in
theorem w_c31 : (Jvm.Cond.code ({ cls := "java/util/Arrays", name := "copyOfRange", desc := "([BII)[B" } : Jvm.MethodName) jdk_65_method_132_code (3 : Nat) (Option.some (Jvm.ClassFile.FieldType.array Jvm.ClassFile.FieldType.byte))).before args0 about1 = true := code_word (m := ⟨14, 2⟩) (meth := k14m2) (c := k14c2) (by decide +kernel) rfl rfl rfl (by decide +kernel)
set_option maxRecDepth 65536 in
theorem w_c32 : (Jvm.Cond.code ({ cls := "java/util/Arrays", name := "copyOfRangeByte", desc := "([BII)[B" } : Jvm.MethodName) jdk_65_method_133_code (5 : Nat) (Option.some (Jvm.ClassFile.FieldType.array Jvm.ClassFile.FieldType.byte))).before args0 about1 = true := code_word (m := ⟨14, 3⟩) (meth := k14m3) (c := k14c3) (by decide +kernel) rfl rfl rfl (by decide +kernel)
set_option maxRecDepth 65536 in
theorem w_c33 : (Jvm.Cond.code ({ cls := "java/util/Arrays", name := "checkLength", desc := "(II)V" } : Jvm.MethodName) jdk_65_method_131_code (2 : Nat) (Option.none : Option Jvm.ClassFile.FieldType)).before args0 about1 = true := code_word (m := ⟨14, 1⟩) (meth := k14m1) (c := k14c1) (by decide +kernel) rfl rfl rfl (by decide +kernel)
set_option maxRecDepth 65536 in
theorem w_c34 : (Jvm.Cond.code ({ cls := "java/lang/Math", name := "min", desc := "(II)I" } : Jvm.MethodName) jdk_29_method_69_code (2 : Nat) (Option.some Jvm.ClassFile.FieldType.int)).before args0 about1 = true := code_word (m := ⟨15, 1⟩) (meth := k15m1) (c := k15c1) (by decide +kernel) rfl rfl rfl (by decide +kernel)
set_option maxRecDepth 65536 in
theorem w_c35 : (Jvm.Cond.code ({ cls := "java/lang/StringLatin1", name := "equals", desc := "([B[B)Z" } : Jvm.MethodName) jdk_43_method_13_code (3 : Nat) (Option.some Jvm.ClassFile.FieldType.boolean)).before args0 about1 = true := code_word (m := ⟨16, 1⟩) (meth := k16m1) (c := k16c1) (by decide +kernel) rfl rfl rfl (by decide +kernel)
set_option maxRecDepth 65536 in
theorem w_c36 : (Jvm.Cond.code ({ cls := "com/example/kontraktor/kontraktor/cli/Option", name := "usage", desc := "()Ljava/lang/String;" } : Jvm.MethodName) prog_20_method_9_code (2 : Nat) (Option.some (Jvm.ClassFile.FieldType.object "java/lang/String"))).before args0 about1 = true := code_word (m := ⟨9, 6⟩) (meth := k9m6) (c := k9c6) (by decide +kernel) rfl rfl rfl (by decide +kernel)
def codes1 : List Jvm.Cond := [Jvm.Cond.code x code maxLocals ret, Jvm.Cond.code ({ cls := "java/lang/String", name := "<init>", desc := "([C)V" } : Jvm.MethodName) jdk_42_method_3_code (2 : Nat) (Option.none : Option Jvm.ClassFile.FieldType), Jvm.Cond.code ({ cls := "java/lang/String", name := "<init>", desc := "([CIILjava/lang/Void;)V" } : Jvm.MethodName) jdk_42_method_149_code (6 : Nat) (Option.none : Option Jvm.ClassFile.FieldType), Jvm.Cond.code ({ cls := "java/lang/Object", name := "<init>", desc := "()V" } : Jvm.MethodName) object_method_1_code (1 : Nat) (Option.none : Option Jvm.ClassFile.FieldType), Jvm.Cond.code ({ cls := "java/lang/StringUTF16", name := "compress", desc := "([CII)[B" } : Jvm.MethodName) jdk_52_method_16_code (6 : Nat) (Option.some (Jvm.ClassFile.FieldType.array Jvm.ClassFile.FieldType.byte)), Jvm.Cond.code ({ cls := "java/lang/StringUTF16", name := "compress", desc := "([CI[BII)I" } : Jvm.MethodName) jdk_52_method_21_code (7 : Nat) (Option.some Jvm.ClassFile.FieldType.int), Jvm.Cond.code ({ cls := "java/lang/StringUTF16", name := "coderFromArrayLen", desc := "([BI)B" } : Jvm.MethodName) jdk_52_method_15_code (2 : Nat) (Option.some Jvm.ClassFile.FieldType.byte), Jvm.Cond.code ({ cls := "com/example/kontraktor/kontraktor/cli/Option", name := "optional", desc := "(Ljava/lang/String;Ljava/lang/String;Ljava/lang/String;)Lcom/example/kontraktor/kontraktor/cli/Option;" } : Jvm.MethodName) prog_20_method_3_code (3 : Nat) (Option.some (Jvm.ClassFile.FieldType.object "com/example/kontraktor/kontraktor/cli/Option")), Jvm.Cond.code ({ cls := "com/example/kontraktor/kontraktor/cli/Option", name := "<init>", desc := "(Ljava/lang/String;Ljava/lang/String;ZZLjava/lang/String;)V" } : Jvm.MethodName) prog_20_method_1_code (6 : Nat) (Option.none : Option Jvm.ClassFile.FieldType), Jvm.Cond.code ({ cls := "com/example/kontraktor/kontraktor/cli/Option", name := "getName", desc := "()Ljava/lang/String;" } : Jvm.MethodName) prog_20_method_5_code (1 : Nat) (Option.some (Jvm.ClassFile.FieldType.object "java/lang/String")), Jvm.Cond.code ({ cls := "java/lang/String", name := "equals", desc := "(Ljava/lang/Object;)Z" } : Jvm.MethodName) jdk_42_method_66_code (3 : Nat) (Option.some Jvm.ClassFile.FieldType.boolean), Jvm.Cond.code ({ cls := "com/example/kontraktor/kontraktor/cli/Option", name := "getDescription", desc := "()Ljava/lang/String;" } : Jvm.MethodName) prog_20_method_7_code (1 : Nat) (Option.some (Jvm.ClassFile.FieldType.object "java/lang/String")), Jvm.Cond.code ({ cls := "com/example/kontraktor/kontraktor/cli/Option", name := "isRepeatable", desc := "()Z" } : Jvm.MethodName) prog_20_method_6_code (1 : Nat) (Option.some Jvm.ClassFile.FieldType.boolean), Jvm.Cond.code ({ cls := "com/example/kontraktor/kontraktor/cli/Option", name := "given", desc := "()Ljava/lang/String;" } : Jvm.MethodName) prog_20_method_8_code (1 : Nat) (Option.some (Jvm.ClassFile.FieldType.object "java/lang/String")), Jvm.Cond.code ({ cls := "java/lang/StringBuilder", name := "<init>", desc := "()V" } : Jvm.MethodName) jdk_67_method_1_code (1 : Nat) (Option.none : Option Jvm.ClassFile.FieldType), Jvm.Cond.code ({ cls := "java/lang/AbstractStringBuilder", name := "<init>", desc := "(I)V" } : Jvm.MethodName) jdk_68_method_2_code (2 : Nat) (Option.none : Option Jvm.ClassFile.FieldType), Jvm.Cond.code ({ cls := "java/lang/StringBuilder", name := "append", desc := "(Ljava/lang/String;)Ljava/lang/StringBuilder;" } : Jvm.MethodName) jdk_67_method_7_code (2 : Nat) (Option.some (Jvm.ClassFile.FieldType.object "java/lang/StringBuilder")), Jvm.Cond.code ({ cls := "java/lang/AbstractStringBuilder", name := "append", desc := "(Ljava/lang/String;)Ljava/lang/AbstractStringBuilder;" } : Jvm.MethodName) jdk_68_method_22_code (3 : Nat) (Option.some (Jvm.ClassFile.FieldType.object "java/lang/AbstractStringBuilder")), Jvm.Cond.code ({ cls := "java/lang/String", name := "length", desc := "()I" } : Jvm.MethodName) jdk_42_method_54_code (1 : Nat) (Option.some Jvm.ClassFile.FieldType.int), Jvm.Cond.code ({ cls := "java/lang/String", name := "coder", desc := "()B" } : Jvm.MethodName) jdk_42_method_152_code (1 : Nat) (Option.some Jvm.ClassFile.FieldType.byte), Jvm.Cond.code ({ cls := "java/lang/AbstractStringBuilder", name := "ensureCapacityInternal", desc := "(I)V" } : Jvm.MethodName) jdk_68_method_9_code (3 : Nat) (Option.none : Option Jvm.ClassFile.FieldType), Jvm.Cond.code ({ cls := "java/lang/AbstractStringBuilder", name := "putStringAt", desc := "(ILjava/lang/String;)V" } : Jvm.MethodName) jdk_68_method_73_code (3 : Nat) (Option.none : Option Jvm.ClassFile.FieldType), Jvm.Cond.code ({ cls := "java/lang/AbstractStringBuilder", name := "inflateIfNeededFor", desc := "(Ljava/lang/String;)V" } : Jvm.MethodName) jdk_68_method_71_code (2 : Nat) (Option.none : Option Jvm.ClassFile.FieldType), Jvm.Cond.code ({ cls := "java/lang/String", name := "getBytes", desc := "([BIB)V" } : Jvm.MethodName) jdk_42_method_147_code (4 : Nat) (Option.none : Option Jvm.ClassFile.FieldType), Jvm.Cond.code ({ cls := "java/lang/StringBuilder", name := "toString", desc := "()Ljava/lang/String;" } : Jvm.MethodName) jdk_67_method_42_code (1 : Nat) (Option.some (Jvm.ClassFile.FieldType.object "java/lang/String")), Jvm.Cond.code ({ cls := "java/lang/String", name := "<init>", desc := "(Ljava/lang/StringBuilder;)V" } : Jvm.MethodName) jdk_42_method_53_code (2 : Nat) (Option.none : Option Jvm.ClassFile.FieldType), Jvm.Cond.code ({ cls := "java/lang/String", name := "<init>", desc := "(Ljava/lang/AbstractStringBuilder;Ljava/lang/Void;)V" } : Jvm.MethodName) jdk_42_method_150_code (5 : Nat) (Option.none : Option Jvm.ClassFile.FieldType), Jvm.Cond.code ({ cls := "java/lang/AbstractStringBuilder", name := "getValue", desc := "()[B" } : Jvm.MethodName) jdk_68_method_64_code (1 : Nat) (Option.some (Jvm.ClassFile.FieldType.array Jvm.ClassFile.FieldType.byte)), Jvm.Cond.code ({ cls := "java/lang/StringBuilder", name := "length", desc := "()I" } : Jvm.MethodName) jdk_67_method_93_code (1 : Nat) (Option.some Jvm.ClassFile.FieldType.int), Jvm.Cond.code ({ cls := "java/lang/AbstractStringBuilder", name := "length", desc := "()I" } : Jvm.MethodName) jdk_68_method_6_code (1 : Nat) (Option.some Jvm.ClassFile.FieldType.int), Jvm.Cond.code ({ cls := "java/lang/AbstractStringBuilder", name := "isLatin1", desc := "()Z" } : Jvm.MethodName) jdk_68_method_68_code (1 : Nat) (Option.some Jvm.ClassFile.FieldType.boolean), Jvm.Cond.code ({ cls := "java/util/Arrays", name := "copyOfRange", desc := "([BII)[B" } : Jvm.MethodName) jdk_65_method_132_code (3 : Nat) (Option.some (Jvm.ClassFile.FieldType.array Jvm.ClassFile.FieldType.byte)), Jvm.Cond.code ({ cls := "java/util/Arrays", name := "copyOfRangeByte", desc := "([BII)[B" } : Jvm.MethodName) jdk_65_method_133_code (5 : Nat) (Option.some (Jvm.ClassFile.FieldType.array Jvm.ClassFile.FieldType.byte)), Jvm.Cond.code ({ cls := "java/util/Arrays", name := "checkLength", desc := "(II)V" } : Jvm.MethodName) jdk_65_method_131_code (2 : Nat) (Option.none : Option Jvm.ClassFile.FieldType), Jvm.Cond.code ({ cls := "java/lang/Math", name := "min", desc := "(II)I" } : Jvm.MethodName) jdk_29_method_69_code (2 : Nat) (Option.some Jvm.ClassFile.FieldType.int), Jvm.Cond.code ({ cls := "java/lang/StringLatin1", name := "equals", desc := "([B[B)Z" } : Jvm.MethodName) jdk_43_method_13_code (3 : Nat) (Option.some Jvm.ClassFile.FieldType.boolean), Jvm.Cond.code ({ cls := "com/example/kontraktor/kontraktor/cli/Option", name := "usage", desc := "()Ljava/lang/String;" } : Jvm.MethodName) prog_20_method_9_code (2 : Nat) (Option.some (Jvm.ClassFile.FieldType.object "java/lang/String"))]
set_option maxRecDepth 65536 in
theorem codes_eq : words1.filter isCode = codes1 := rfl
theorem w_codes : ∀ c ∈ words1.filter isCode, c.before args0 about1 = true := by
  rw [codes_eq]
  intro c hc
  simp only [codes1, List.mem_cons, List.not_mem_nil, or_false] at hc
  rcases hc with rfl | rfl | rfl | rfl | rfl | rfl | rfl | rfl | rfl | rfl | rfl | rfl | rfl | rfl | rfl | rfl | rfl | rfl | rfl | rfl | rfl | rfl | rfl | rfl | rfl | rfl | rfl | rfl | rfl | rfl | rfl | rfl | rfl | rfl | rfl | rfl | rfl
  · exact w_c0
  · exact w_c1
  · exact w_c2
  · exact w_c3
  · exact w_c4
  · exact w_c5
  · exact w_c6
  · exact w_c7
  · exact w_c8
  · exact w_c9
  · exact w_c10
  · exact w_c11
  · exact w_c12
  · exact w_c13
  · exact w_c14
  · exact w_c15
  · exact w_c16
  · exact w_c17
  · exact w_c18
  · exact w_c19
  · exact w_c20
  · exact w_c21
  · exact w_c22
  · exact w_c23
  · exact w_c24
  · exact w_c25
  · exact w_c26
  · exact w_c27
  · exact w_c28
  · exact w_c29
  · exact w_c30
  · exact w_c31
  · exact w_c32
  · exact w_c33
  · exact w_c34
  · exact w_c35
  · exact w_c36
set_option maxRecDepth 65536 in
theorem w_t1 : (words1.take 24).all (fun c => isCode c || c.before args0 about1) = true := by decide +kernel
set_option maxRecDepth 65536 in
theorem w_t2 : ((words1.drop 24).take 24).all (fun c => isCode c || c.before args0 about1) = true := by decide +kernel
set_option maxRecDepth 65536 in
theorem w_t3 : (((words1.drop 24).drop 24).take 24).all (fun c => isCode c || c.before args0 about1) = true := by decide +kernel
set_option maxRecDepth 65536 in
theorem w_t4 : ((((words1.drop 24).drop 24).drop 24).take 24).all (fun c => isCode c || c.before args0 about1) = true := by decide +kernel
set_option maxRecDepth 65536 in
theorem w_t5 : (((((words1.drop 24).drop 24).drop 24).drop 24).take 24).all (fun c => isCode c || c.before args0 about1) = true := by decide +kernel
set_option maxRecDepth 65536 in
theorem w_t6 : ((((((words1.drop 24).drop 24).drop 24).drop 24).drop 24).take 24).all (fun c => isCode c || c.before args0 about1) = true := by decide +kernel
set_option maxRecDepth 65536 in
theorem w_t7 : (((((((words1.drop 24).drop 24).drop 24).drop 24).drop 24).drop 24).take 24).all (fun c => isCode c || c.before args0 about1) = true := by decide +kernel
set_option maxRecDepth 65536 in
theorem w_t8 : ((((((((words1.drop 24).drop 24).drop 24).drop 24).drop 24).drop 24).drop 24).take 24).all (fun c => isCode c || c.before args0 about1) = true := by decide +kernel
set_option maxRecDepth 65536 in
theorem w_t9 : ((((((((words1.drop 24).drop 24).drop 24).drop 24).drop 24).drop 24).drop 24).drop 24).all (fun c => isCode c || c.before args0 about1) = true := by decide +kernel
theorem w_tables : (allAtoms (Jvm.Cond.code x code maxLocals ret :: tables_1)).before args0 about1 = true := by
  rw [allAtoms_all]
  show words1.all (fun c => c.before args0 about1) = true
  refine all_split ?_ w_codes
  rw [← List.take_append_drop 24 words1, List.all_append, w_t1, ← List.take_append_drop 24 (words1.drop 24), List.all_append, w_t2, ← List.take_append_drop 24 ((words1.drop 24).drop 24), List.all_append, w_t3, ← List.take_append_drop 24 (((words1.drop 24).drop 24).drop 24), List.all_append, w_t4, ← List.take_append_drop 24 ((((words1.drop 24).drop 24).drop 24).drop 24), List.all_append, w_t5, ← List.take_append_drop 24 (((((words1.drop 24).drop 24).drop 24).drop 24).drop 24), List.all_append, w_t6, ← List.take_append_drop 24 ((((((words1.drop 24).drop 24).drop 24).drop 24).drop 24).drop 24), List.all_append, w_t7, ← List.take_append_drop 24 (((((((words1.drop 24).drop 24).drop 24).drop 24).drop 24).drop 24).drop 24), List.all_append, w_t8, w_t9]
  rfl
set_option maxRecDepth 65536 in
theorem w_rest : rest_1_c.before args0 about1 = true := by decide +kernel
set_option maxRecDepth 65536 in
theorem w_case : (Jvm.Cond.and given_1 narrow_1).before args0 about1 = true := by decide +kernel
set_option maxRecDepth 65536 in
theorem w_consts : constsHeld consts_1 about1 := Jvm.Lit.constsHeldB_iff.mp (by decide +kernel)
theorem w_applies : (headSpec (Jvm.Cond.code x code maxLocals ret :: tables_1) room_1).applies x e0.platform about1 = true :=
  (Spec.applies_iff w_frames).mpr ⟨w_running, w_runnable, w_alone, w_named, w_hears, w_ripe, w_room, w_tables⟩
theorem atStart : AtStart classFile x code maxLocals ret World_1 tables_1 room_1 Calls_1 rest_1 Pre_1 launch0 p0 e0 about1 theMethod args0 below0 :=
  ⟨lists_1, trivial, launch0.admits_env _ _ _, launch0.least_env, fairChoices_fair.cas, fairChoices_fair.clock, w_frames, w_args, w_heap, w_applies, ⟨w_consts, trivial⟩, w_rest, w_case⟩
end start1
theorem witness_1 : WitnessClaimed_1 := ⟨start1.p0, start1.e0, start1.about1, start1.theMethod, start1.args0, start1.below0, start1.atStart⟩
end Jvm.Pilot.@@N@@
