import JvmDerived
import JvmDerived.Pilot.@@N@@Statement
import JvmDerived.Pilot.@@N@@Code
set_option linter.unusedVariables false
set_option linter.unusedSimpArgs false
namespace Jvm.Pilot.@@N@@
open Jvm Jvm.ClassFile Sem Op Lib Jvm.Free Jvm.Stand Jvm.LawKit Jvm.RoadKit Bundle Jvm.Pilot.@@N@@.Jvm.D
/-! own small kit: the goal of a walk, backward; the leaves -/
def Gl (tb : Tables) (e : Env) (below : List Frame) (QQ : Outcome → State → Prop) (st : State) : Prop := ∃ s₂ o, Steps tb e below st s₂ ∧ s₂.status = .running ∧ Ended s₂ below o ∧ QQ o s₂
theorem Gl.go {tb : Tables} {e : Env} {below : List Frame} {QQ : Outcome → State → Prop} {st st' : State} (h : ∀ t, Steps tb e below st' t → Steps tb e below st t) (g : Gl tb e below QQ st') : Gl tb e below QQ st := by
  obtain ⟨s2, o, h1, h2⟩ := g
  exact ⟨s2, o, h _ h1, h2⟩
def QQof (s : State) (Q : Option Value → Heap → List Loc → Prop) (k n : Nat) : Outcome → State → Prop := fun o U => ∃ v L, o = .returned v ∧ Q v U.heap L ∧ FrameEnd s o U L k n
section Leaf
variable {p : Program} {l : Launch} {e : Env} {R : Room} {s : State} {m : MethodId} {args : Array Value} {below : List Frame} {meth : Method} {c : Code} {T : State} {locs : List Loc} {cells slots : Nat} {pc : Nat} {Ls : Array Slot} {rest : List Value} {Q : Option Value → Heap → List Loc → Prop} {k n : Nat}
theorem leafN (X : Stand p l e R s m args below meth c T locs cells slots) (hx : p.tables.exec = Jvm.exec) (hlk : meth.locks = false) {z : Int32} {t : FieldType} (hret : meth.sig.returnType = some t) (ht : t = .boolean ∨ t = .byte ∨ t = .char ∨ t = .short) (hd : decode c.code pc = .ok (.ireturn, 1))
    (hq : Q (some (.int (nar t z))) T.heap locs) (hk : cells ≤ k) (hn : slots ≤ n) : Gl p.tables e below (QQof s Q k n) (T.setTop (mkF m pc Ls (.int z :: rest))) := by
  obtain ⟨fs, hr, hrun, hended, hW, hsame⟩ := X.leave (v := some (.int (nar t z))) (fun h => by rw [hret] at h; cases h) hlk
  exact ⟨_, _, retN X hx hret ht hd hr, hrun, hended, _, _, rfl, hq, ⟨_, rfl⟩, hW, hsame.mono hk hn⟩
theorem leafI (X : Stand p l e R s m args below meth c T locs cells slots) (hx : p.tables.exec = Jvm.exec) (hlk : meth.locks = false) {z : Int32} (hret : meth.sig.returnType = some .int) (hd : decode c.code pc = .ok (.ireturn, 1))
    (hq : Q (some (.int z)) T.heap locs) (hk : cells ≤ k) (hn : slots ≤ n) : Gl p.tables e below (QQof s Q k n) (T.setTop (mkF m pc Ls (.int z :: rest))) := by
  obtain ⟨fs, hr, hrun, hended, hW, hsame⟩ := X.leave (v := some (.int z)) (fun h => by rw [hret] at h; cases h) hlk
  exact ⟨_, _, retOut X hx hret rfl (Or.inl ⟨rfl, Or.inl rfl, _, rfl⟩) hd hr, hrun, hended, _, _, rfl, hq, ⟨_, rfl⟩, hW, hsame.mono hk hn⟩
theorem leafL (X : Stand p l e R s m args below meth c T locs cells slots) (hx : p.tables.exec = Jvm.exec) (hlk : meth.locks = false) {z : Int64} (hret : meth.sig.returnType = some .long) (hd : decode c.code pc = .ok (.lreturn, 1))
    (hq : Q (some (.long z)) T.heap locs) (hk : cells ≤ k) (hn : slots ≤ n) : Gl p.tables e below (QQof s Q k n) (T.setTop (mkF m pc Ls (.long z :: rest))) := by
  obtain ⟨fs, hr, hrun, hended, hW, hsame⟩ := X.leave (v := some (.long z)) (fun h => by rw [hret] at h; cases h) hlk
  exact ⟨_, _, retOut X hx hret rfl (Or.inr (Or.inl ⟨rfl, rfl, _, rfl⟩)) hd hr, hrun, hended, _, _, rfl, hq, ⟨_, rfl⟩, hW, hsame.mono hk hn⟩
theorem leafD (X : Stand p l e R s m args below meth c T locs cells slots) (hx : p.tables.exec = Jvm.exec) (hlk : meth.locks = false) {z : UInt64} (hret : meth.sig.returnType = some .double) (hd : decode c.code pc = .ok (.dreturn, 1))
    (hq : Q (some (.double z)) T.heap locs) (hk : cells ≤ k) (hn : slots ≤ n) : Gl p.tables e below (QQof s Q k n) (T.setTop (mkF m pc Ls (.double z :: rest))) := by
  obtain ⟨fs, hr, hrun, hended, hW, hsame⟩ := X.leave (v := some (.double z)) (fun h => by rw [hret] at h; cases h) hlk
  exact ⟨_, _, retOut X hx hret rfl (Or.inr (Or.inr (Or.inl ⟨rfl, rfl, _, rfl⟩))) hd hr, hrun, hended, _, _, rfl, hq, ⟨_, rfl⟩, hW, hsame.mono hk hn⟩
theorem narrowR {t : FieldType} {w : Value} (ht : t.isReference = true) (hw : w.isRef = true) : narrow t w = w := by
  cases w <;> simp [Value.isRef] at hw <;> cases t <;> simp [FieldType.isReference] at ht <;> rfl
theorem leafA (X : Stand p l e R s m args below meth c T locs cells slots) (hx : p.tables.exec = Jvm.exec) (hlk : meth.locks = false) {w : Value} {t : FieldType} (hret : meth.sig.returnType = some t) (ht : t.isReference = true) (hw : w.isRef = true) (hd : decode c.code pc = .ok (.areturn, 1))
    (hq : Q (some w) T.heap locs) (hk : cells ≤ k) (hn : slots ≤ n) : Gl p.tables e below (QQof s Q k n) (T.setTop (mkF m pc Ls (w :: rest))) := by
  obtain ⟨fs, hr, hrun, hended, hW, hsame⟩ := X.leave (v := some w) (fun h => by rw [hret] at h; cases h) hlk
  exact ⟨_, _, retOut X hx hret (narrowR ht hw) (Or.inr (Or.inr (Or.inr (Or.inr ⟨rfl, ht, hw⟩)))) hd hr, hrun, hended, _, _, rfl, hq, ⟨_, rfl⟩, hW, hsame.mono hk hn⟩
theorem leafV (X : Stand p l e R s m args below meth c T locs cells slots) (hx : p.tables.exec = Jvm.exec) (hlk : meth.locks = false) (hret : meth.sig.returnType = none) (hd : decode c.code pc = .ok (.return_, 1))
    (hq : Q none T.heap locs) (hk : cells ≤ k) (hn : slots ≤ n) : Gl p.tables e below (QQof s Q k n) (T.setTop (mkF m pc Ls [])) := by
  obtain ⟨fs, hr, hrun, hended, hW, hsame⟩ := X.leave (v := none) (fun _ => rfl) hlk
  exact ⟨_, _, X.returnOut hx hret hd hr, hrun, hended, _, _, rfl, hq, ⟨_, rfl⟩, hW, hsame.mono hk hn⟩
end Leaf
theorem fitsR {t : FieldType} {w : Value} (ht : t.isReference = true) (hw : w.isRef = true) : fits t w = true := by
  cases w <;> simp [Value.isRef] at hw <;> cases t <;> simp [FieldType.isReference] at ht <;> rfl
theorem nar1 : nar .boolean (1 : Int32) = 1 := by decide
theorem nar0 : nar .boolean (0 : Int32) = 0 := by decide
theorem int_at {args : Array Value} {s : State} {t : Term} {k : Int32} (h : (Jvm.Cond.eq t (.int k)).value args s none s [] = some true) : t.eval args s none [] s = some (.int k) := by
  obtain ⟨x, y, hx, hy, kx, ky⟩ := cmp_v (Or.inl h)
  have hk : y = .int k := Option.some.inj (hy.symm.trans (Term.int_eval k))
  subst hk
  obtain ⟨z, rfl⟩ := ky
  have hz := gotT (Cond.eq_ints hx (Term.int_eval k)) h
  rw [hx, hz]
theorem fld_int {args : Array Value} {s : State} {t : Term} {C n d : String} {k : Int32} {x : Addr} (ht : t.eval args s none [] s = some (.ref x)) (h : (Jvm.Cond.eq (.field t C n d) (.int k)).value args s none s [] = some true) : Fld s s.heap x C n d (.int k) := Fld.start ((fld_at ht).symm.trans (int_at h))
theorem ref_at {args : Array Value} {s : State} {a b : Term} {x : Addr} (hb : b.eval args s none [] s = some (.ref x)) (h : (Jvm.Cond.eq a b).value args s none s [] = some true) : a.eval args s none [] s = some (.ref x) := by
  obtain ⟨y, z, hy, hz, ky, kz⟩ := cmp_v (Or.inl h)
  have hk : z = .ref x := Option.some.inj (hz.symm.trans hb)
  subst hk
  have hr : y.isRef = true := kz.2
  have he := gotT (eq_R hy hb hr rfl) h
  rw [hy, he]
theorem ext_of_keep {h h' : Heap} (K : Keep h h' []) : Ext h h' := ⟨K.1, fun a c q => K.2.1 a c q nin0⟩
theorem arr_len {args : Array Value} {s : State} {t : Term} {a : Addr} {cl : Cell} {ty : FieldType} {k : Int32} (ev : t.eval args s none [] s = some (.ref a)) (A : Arr s s.heap a cl ty) (h : (Jvm.Cond.eq (.length t) (.int k)).value args s none s [] = some true) : cl.slots.size < 2 ^ 31 ∧ cl.slots.size.toInt32 = k := by
  obtain ⟨b, cell, e1, e2, e3, e4⟩ := Jvm.Lib.length_spec (int_at h)
  have hb : a = b := Value.ref.inj (Option.some.inj (ev.symm.trans e1))
  subst hb
  have hc : cl = cell := Option.some.inj ((A.fin (Vm.Alike.refl _)).symm.trans e2)
  subst hc
  exact ⟨e3, (Value.int.inj e4).symm⟩
theorem arr_elem {args : Array Value} {s : State} {t : Term} {a : Addr} {cl : Cell} {ty : FieldType} {j : Int32} {v : Value} (ev : t.eval args s none [] s = some (.ref a)) (A : Arr s s.heap a cl ty) (h : (Term.elem t (.int j)).eval args s none [] s = some v) : cl.slots[j.toNatClampNeg]? = some v := (elem_in h ev (Term.int_eval j) A.1).2

def shrL (y : Int64) (k : Int32) : Int64 := ((y.toUInt64 >>> (k &&& 0x3f).toInt64.toUInt64).toInt64)
def stepL (a x : Int64) : Int64 := (x * ((2 : Int64) - (a * x)))
def invL (a : Int64) : Int64 := stepL a (stepL a (stepL a (stepL a (stepL a a))))
def baseL (a b : Int64) : Int64 := (a + ((b + (1 : Int64)) * (-7046029254386353131 : Int64)))
def mx (k : Int32) (c y : Int64) : Int64 := ((y ^^^ shrL y k) * c)
def xo (k : Int32) (y : Int64) : Int64 := (y ^^^ shrL y k)
def mixL (m : Int64) : Int64 := xo 31 (mx 27 (-7723592293110705685 : Int64) (mx 30 (-4658895280553007687 : Int64) m))
def un2 (k k2 : Int32) (y : Int64) : Int64 := ((y ^^^ shrL y k) ^^^ shrL y k2)
def unmixL (y : Int64) : Int64 := un2 30 60 ((un2 27 54 ((un2 31 62 y) * (invL (-7723592293110705685 : Int64)))) * (invL (-4658895280553007687 : Int64)))
def derL (a b : Int64) : Int64 := (mixL (baseL a b) &&& (9223372036854775807 : Int64))
theorem shr_31 (y : Int64) : (shrL y 31).toBitVec = y.toBitVec >>> (31 : Nat) := rfl
theorem shr_62 (y : Int64) : (shrL y 62).toBitVec = y.toBitVec >>> (62 : Nat) := rfl
theorem shr_27 (y : Int64) : (shrL y 27).toBitVec = y.toBitVec >>> (27 : Nat) := rfl
theorem shr_54 (y : Int64) : (shrL y 54).toBitVec = y.toBitVec >>> (54 : Nat) := rfl
theorem shr_30 (y : Int64) : (shrL y 30).toBitVec = y.toBitVec >>> (30 : Nat) := rfl
theorem shr_60 (y : Int64) : (shrL y 60).toBitVec = y.toBitVec >>> (60 : Nat) := rfl
theorem own_bits (x : BitVec 64) (k : Nat) (hk : 64 ≤ 3 * k) : ((x ^^^ (x >>> k)) ^^^ ((x ^^^ (x >>> k)) >>> k)) ^^^ ((x ^^^ (x >>> k)) >>> (2 * k)) = x := by
  apply BitVec.eq_of_getLsbD_eq
  intro i hi
  have h3 : x.getLsbD (k + (2 * k + i)) = false := BitVec.getLsbD_of_ge _ _ (by omega)
  have e1 : k + (k + i) = 2 * k + i := by omega
  simp only [BitVec.getLsbD_xor, BitVec.getLsbD_ushiftRight, e1, h3]
  cases x.getLsbD i <;> cases x.getLsbD (k + i) <;> cases x.getLsbD (2 * k + i) <;> rfl
theorem own_u31 (y : Int64) : un2 31 62 (xo 31 y) = y := by
  apply Int64.toBitVec_inj.mp
  simp only [un2, xo, Int64.toBitVec_xor, shr_31, shr_62]
  exact own_bits _ 31 (by decide)
theorem own_u27 (y : Int64) : un2 27 54 (xo 27 y) = y := by
  apply Int64.toBitVec_inj.mp
  simp only [un2, xo, Int64.toBitVec_xor, shr_27, shr_54]
  exact own_bits _ 27 (by decide)
theorem own_u30 (y : Int64) : un2 30 60 (xo 30 y) = y := by
  apply Int64.toBitVec_inj.mp
  simp only [un2, xo, Int64.toBitVec_xor, shr_30, shr_60]
  exact own_bits _ 30 (by decide)
theorem own_c1 : (-4658895280553007687 : Int64) * invL (-4658895280553007687 : Int64) = 1 := by decide +kernel
theorem own_c2 : (-7723592293110705685 : Int64) * invL (-7723592293110705685 : Int64) = 1 := by decide +kernel
theorem own_m1 (y : Int64) : mx 30 (-4658895280553007687 : Int64) y * invL (-4658895280553007687 : Int64) = xo 30 y := by
  show (xo 30 y * (-4658895280553007687 : Int64)) * invL (-4658895280553007687 : Int64) = xo 30 y
  rw [Int64.mul_assoc, own_c1, Int64.mul_one]
theorem own_m2 (y : Int64) : mx 27 (-7723592293110705685 : Int64) y * invL (-7723592293110705685 : Int64) = xo 27 y := by
  show (xo 27 y * (-7723592293110705685 : Int64)) * invL (-7723592293110705685 : Int64) = xo 27 y
  rw [Int64.mul_assoc, own_c2, Int64.mul_one]
theorem own_unmix (m : Int64) : unmixL (mixL m) = m := by
  unfold unmixL mixL
  rw [own_u31, own_m2, own_u27, own_m1, own_u30]
theorem own_top (z : Int64) : (z &&& (9223372036854775807 : Int64)) = z ∨ ((z &&& (9223372036854775807 : Int64)) ||| (-9223372036854775808 : Int64)) = z := by
  have hz : (z.toBitVec &&& 9223372036854775807#64) ||| (z.toBitVec &&& 9223372036854775808#64) = z.toBitVec := by
    rw [← BitVec.and_or_distrib_left]
    show z.toBitVec &&& BitVec.allOnes 64 = z.toBitVec
    exact BitVec.and_allOnes
  have hm : z.toBitVec &&& 9223372036854775808#64 = if z.toBitVec.getLsbD 63 then 9223372036854775808#64 else 0#64 := BitVec.and_twoPow z.toBitVec 63
  cases hb : z.toBitVec.getLsbD 63
  · refine Or.inl (Int64.toBitVec_inj.mp ?_)
    rw [hb] at hm
    rw [hm] at hz
    show z.toBitVec &&& 9223372036854775807#64 = z.toBitVec
    simpa using hz
  · refine Or.inr (Int64.toBitVec_inj.mp ?_)
    rw [hb] at hm
    rw [hm] at hz
    show (z.toBitVec &&& 9223372036854775807#64) ||| 9223372036854775808#64 = z.toBitVec
    simpa using hz
theorem own_nonneg (z : Int64) : ¬ (z &&& (9223372036854775807 : Int64)) < 0 := by
  intro h
  rw [Int64.lt_iff_toInt_lt] at h
  have hm : (z &&& (9223372036854775807 : Int64)).toBitVec.msb = false := by
    show (z.toBitVec &&& 9223372036854775807#64).msb = false
    rw [BitVec.msb_and]
    have : (9223372036854775807#64).msb = false := by decide
    rw [this, Bool.and_false]
  rw [BitVec.msb_eq_toInt] at hm
  have h' : (z &&& (9223372036854775807 : Int64)).toBitVec.toInt < 0 := h
  exact absurd h' (of_decide_eq_false hm)
theorem own_law (a b : Int64) : unmixL (derL a b) = baseL a b ∨ unmixL (derL a b ||| (-9223372036854775808 : Int64)) = baseL a b := by
  unfold derL
  rcases own_top (mixL (baseL a b)) with h | h
  · exact Or.inl (by rw [h, own_unmix])
  · exact Or.inr (by rw [h, own_unmix])
theorem pn_0 : plainName "com/example/cornice/cornice/core/GameRandomDerivePinLaw" = true := by first | (simp [plainName, overriddenIn]; done) | decide +kernel
theorem ef_inv (m : MethodId) (x0 : Int64) : entryFrame m #[(.long x0)] 4 = mkF m 0 #[.val (.long x0), .second, .unset, .unset] [] := by first | (simp [entryFrame, mkF, argsToLocals, Value.category]; done) | rfl
theorem d3_0 : decode method_2_code 0 = .ok (.lload_n 0, 1) := by decide +kernel
theorem d3_1 : decode method_2_code 1 = .ok (.lstore_n 2, 1) := by decide +kernel
theorem d3_2 : decode method_2_code 2 = .ok (.lload_n 2, 1) := by decide +kernel
theorem d3_3 : decode method_2_code 3 = .ok (.ldc2_w 7, 3) := by decide +kernel
theorem d3_6 : decode method_2_code 6 = .ok (.lload_n 0, 1) := by decide +kernel
theorem d3_7 : decode method_2_code 7 = .ok (.lload_n 2, 1) := by decide +kernel
theorem d3_8 : decode method_2_code 8 = .ok (.lmul, 1) := by decide +kernel
theorem d3_9 : decode method_2_code 9 = .ok (.lsub, 1) := by decide +kernel
theorem d3_10 : decode method_2_code 10 = .ok (.lmul, 1) := by decide +kernel
theorem d3_11 : decode method_2_code 11 = .ok (.lstore_n 2, 1) := by decide +kernel
theorem d3_12 : decode method_2_code 12 = .ok (.lload_n 2, 1) := by decide +kernel
theorem d3_13 : decode method_2_code 13 = .ok (.ldc2_w 7, 3) := by decide +kernel
theorem d3_16 : decode method_2_code 16 = .ok (.lload_n 0, 1) := by decide +kernel
theorem d3_17 : decode method_2_code 17 = .ok (.lload_n 2, 1) := by decide +kernel
theorem d3_18 : decode method_2_code 18 = .ok (.lmul, 1) := by decide +kernel
theorem d3_19 : decode method_2_code 19 = .ok (.lsub, 1) := by decide +kernel
theorem d3_20 : decode method_2_code 20 = .ok (.lmul, 1) := by decide +kernel
theorem d3_21 : decode method_2_code 21 = .ok (.lstore_n 2, 1) := by decide +kernel
theorem d3_22 : decode method_2_code 22 = .ok (.lload_n 2, 1) := by decide +kernel
theorem d3_23 : decode method_2_code 23 = .ok (.ldc2_w 7, 3) := by decide +kernel
theorem d3_26 : decode method_2_code 26 = .ok (.lload_n 0, 1) := by decide +kernel
theorem d3_27 : decode method_2_code 27 = .ok (.lload_n 2, 1) := by decide +kernel
theorem d3_28 : decode method_2_code 28 = .ok (.lmul, 1) := by decide +kernel
theorem d3_29 : decode method_2_code 29 = .ok (.lsub, 1) := by decide +kernel
theorem d3_30 : decode method_2_code 30 = .ok (.lmul, 1) := by decide +kernel
theorem d3_31 : decode method_2_code 31 = .ok (.lstore_n 2, 1) := by decide +kernel
theorem d3_32 : decode method_2_code 32 = .ok (.lload_n 2, 1) := by decide +kernel
theorem d3_33 : decode method_2_code 33 = .ok (.ldc2_w 7, 3) := by decide +kernel
theorem d3_36 : decode method_2_code 36 = .ok (.lload_n 0, 1) := by decide +kernel
theorem d3_37 : decode method_2_code 37 = .ok (.lload_n 2, 1) := by decide +kernel
theorem d3_38 : decode method_2_code 38 = .ok (.lmul, 1) := by decide +kernel
theorem d3_39 : decode method_2_code 39 = .ok (.lsub, 1) := by decide +kernel
theorem d3_40 : decode method_2_code 40 = .ok (.lmul, 1) := by decide +kernel
theorem d3_41 : decode method_2_code 41 = .ok (.lstore_n 2, 1) := by decide +kernel
theorem d3_42 : decode method_2_code 42 = .ok (.lload_n 2, 1) := by decide +kernel
theorem d3_43 : decode method_2_code 43 = .ok (.ldc2_w 7, 3) := by decide +kernel
theorem d3_46 : decode method_2_code 46 = .ok (.lload_n 0, 1) := by decide +kernel
theorem d3_47 : decode method_2_code 47 = .ok (.lload_n 2, 1) := by decide +kernel
theorem d3_48 : decode method_2_code 48 = .ok (.lmul, 1) := by decide +kernel
theorem d3_49 : decode method_2_code 49 = .ok (.lsub, 1) := by decide +kernel
theorem d3_50 : decode method_2_code 50 = .ok (.lmul, 1) := by decide +kernel
theorem d3_51 : decode method_2_code 51 = .ok (.lstore_n 2, 1) := by decide +kernel
theorem d3_52 : decode method_2_code 52 = .ok (.lload_n 2, 1) := by decide +kernel
theorem d3_53 : decode method_2_code 53 = .ok (.lreturn, 1) := by decide +kernel
theorem pn_1 : plainName "com/example/cornice/cornice/core/GameRandom" = true := by first | (simp [plainName, overriddenIn]; done) | decide +kernel
theorem ef_der (m : MethodId) (x0 : Int64) (x1 : Int64) : entryFrame m #[(.long x0), (.long x1)] 6 = mkF m 0 #[.val (.long x0), .second, .val (.long x1), .second, .unset, .unset] [] := by first | (simp [entryFrame, mkF, argsToLocals, Value.category]; done) | rfl
theorem d1_0 : decode prog_1_method_2_code 0 = .ok (.lload_n 0, 1) := by decide +kernel
theorem d1_1 : decode prog_1_method_2_code 1 = .ok (.lload_n 2, 1) := by decide +kernel
theorem d1_2 : decode prog_1_method_2_code 2 = .ok (.lconst 1, 1) := by decide +kernel
theorem d1_3 : decode prog_1_method_2_code 3 = .ok (.ladd, 1) := by decide +kernel
theorem d1_4 : decode prog_1_method_2_code 4 = .ok (.ldc2_w 17, 3) := by decide +kernel
theorem d1_7 : decode prog_1_method_2_code 7 = .ok (.lmul, 1) := by decide +kernel
theorem d1_8 : decode prog_1_method_2_code 8 = .ok (.ladd, 1) := by decide +kernel
theorem d1_9 : decode prog_1_method_2_code 9 = .ok (.lstore 4, 2) := by decide +kernel
theorem d1_11 : decode prog_1_method_2_code 11 = .ok (.lload 4, 2) := by decide +kernel
theorem d1_13 : decode prog_1_method_2_code 13 = .ok (.lload 4, 2) := by decide +kernel
theorem d1_15 : decode prog_1_method_2_code 15 = .ok (.bipush 30, 2) := by decide +kernel
theorem d1_17 : decode prog_1_method_2_code 17 = .ok (.lushr, 1) := by decide +kernel
theorem d1_18 : decode prog_1_method_2_code 18 = .ok (.lxor, 1) := by decide +kernel
theorem d1_19 : decode prog_1_method_2_code 19 = .ok (.ldc2_w 19, 3) := by decide +kernel
theorem d1_22 : decode prog_1_method_2_code 22 = .ok (.lmul, 1) := by decide +kernel
theorem d1_23 : decode prog_1_method_2_code 23 = .ok (.lstore 4, 2) := by decide +kernel
theorem d1_25 : decode prog_1_method_2_code 25 = .ok (.lload 4, 2) := by decide +kernel
theorem d1_27 : decode prog_1_method_2_code 27 = .ok (.lload 4, 2) := by decide +kernel
theorem d1_29 : decode prog_1_method_2_code 29 = .ok (.bipush 27, 2) := by decide +kernel
theorem d1_31 : decode prog_1_method_2_code 31 = .ok (.lushr, 1) := by decide +kernel
theorem d1_32 : decode prog_1_method_2_code 32 = .ok (.lxor, 1) := by decide +kernel
theorem d1_33 : decode prog_1_method_2_code 33 = .ok (.ldc2_w 21, 3) := by decide +kernel
theorem d1_36 : decode prog_1_method_2_code 36 = .ok (.lmul, 1) := by decide +kernel
theorem d1_37 : decode prog_1_method_2_code 37 = .ok (.lstore 4, 2) := by decide +kernel
theorem d1_39 : decode prog_1_method_2_code 39 = .ok (.lload 4, 2) := by decide +kernel
theorem d1_41 : decode prog_1_method_2_code 41 = .ok (.lload 4, 2) := by decide +kernel
theorem d1_43 : decode prog_1_method_2_code 43 = .ok (.bipush 31, 2) := by decide +kernel
theorem d1_45 : decode prog_1_method_2_code 45 = .ok (.lushr, 1) := by decide +kernel
theorem d1_46 : decode prog_1_method_2_code 46 = .ok (.lxor, 1) := by decide +kernel
theorem d1_47 : decode prog_1_method_2_code 47 = .ok (.ldc2_w 25, 3) := by decide +kernel
theorem d1_50 : decode prog_1_method_2_code 50 = .ok (.land, 1) := by decide +kernel
theorem d1_51 : decode prog_1_method_2_code 51 = .ok (.lreturn, 1) := by decide +kernel
theorem ef_um (m : MethodId) (x0 : Int64) : entryFrame m #[(.long x0)] 4 = mkF m 0 #[.val (.long x0), .second, .unset, .unset] [] := by first | (simp [entryFrame, mkF, argsToLocals, Value.category]; done) | rfl
theorem d2_0 : decode method_3_code 0 = .ok (.lload_n 0, 1) := by decide +kernel
theorem d2_1 : decode method_3_code 1 = .ok (.lstore_n 2, 1) := by decide +kernel
theorem d2_2 : decode method_3_code 2 = .ok (.lload_n 2, 1) := by decide +kernel
theorem d2_3 : decode method_3_code 3 = .ok (.lload_n 2, 1) := by decide +kernel
theorem d2_4 : decode method_3_code 4 = .ok (.bipush 31, 2) := by decide +kernel
theorem d2_6 : decode method_3_code 6 = .ok (.lushr, 1) := by decide +kernel
theorem d2_7 : decode method_3_code 7 = .ok (.lxor, 1) := by decide +kernel
theorem d2_8 : decode method_3_code 8 = .ok (.lload_n 2, 1) := by decide +kernel
theorem d2_9 : decode method_3_code 9 = .ok (.bipush 62, 2) := by decide +kernel
theorem d2_11 : decode method_3_code 11 = .ok (.lushr, 1) := by decide +kernel
theorem d2_12 : decode method_3_code 12 = .ok (.lxor, 1) := by decide +kernel
theorem d2_13 : decode method_3_code 13 = .ok (.lstore_n 2, 1) := by decide +kernel
theorem d2_14 : decode method_3_code 14 = .ok (.lload_n 2, 1) := by decide +kernel
theorem d2_15 : decode method_3_code 15 = .ok (.ldc2_w 11, 3) := by decide +kernel
theorem pd_0 : parseMethodDescriptor "(J)J" = some ⟨[.long], some .long⟩ := by decide +kernel
theorem d2_18 : decode method_3_code 18 = .ok (.invokestatic 13, 3) := by decide +kernel
theorem d2_21 : decode method_3_code 21 = .ok (.lmul, 1) := by decide +kernel
theorem d2_22 : decode method_3_code 22 = .ok (.lstore_n 2, 1) := by decide +kernel
theorem d2_23 : decode method_3_code 23 = .ok (.lload_n 2, 1) := by decide +kernel
theorem d2_24 : decode method_3_code 24 = .ok (.lload_n 2, 1) := by decide +kernel
theorem d2_25 : decode method_3_code 25 = .ok (.bipush 27, 2) := by decide +kernel
theorem d2_27 : decode method_3_code 27 = .ok (.lushr, 1) := by decide +kernel
theorem d2_28 : decode method_3_code 28 = .ok (.lxor, 1) := by decide +kernel
theorem d2_29 : decode method_3_code 29 = .ok (.lload_n 2, 1) := by decide +kernel
theorem d2_30 : decode method_3_code 30 = .ok (.bipush 54, 2) := by decide +kernel
theorem d2_32 : decode method_3_code 32 = .ok (.lushr, 1) := by decide +kernel
theorem d2_33 : decode method_3_code 33 = .ok (.lxor, 1) := by decide +kernel
theorem d2_34 : decode method_3_code 34 = .ok (.lstore_n 2, 1) := by decide +kernel
theorem d2_35 : decode method_3_code 35 = .ok (.lload_n 2, 1) := by decide +kernel
theorem d2_36 : decode method_3_code 36 = .ok (.ldc2_w 17, 3) := by decide +kernel
theorem d2_39 : decode method_3_code 39 = .ok (.invokestatic 13, 3) := by decide +kernel
theorem d2_42 : decode method_3_code 42 = .ok (.lmul, 1) := by decide +kernel
theorem d2_43 : decode method_3_code 43 = .ok (.lstore_n 2, 1) := by decide +kernel
theorem d2_44 : decode method_3_code 44 = .ok (.lload_n 2, 1) := by decide +kernel
theorem d2_45 : decode method_3_code 45 = .ok (.lload_n 2, 1) := by decide +kernel
theorem d2_46 : decode method_3_code 46 = .ok (.bipush 30, 2) := by decide +kernel
theorem d2_48 : decode method_3_code 48 = .ok (.lushr, 1) := by decide +kernel
theorem d2_49 : decode method_3_code 49 = .ok (.lxor, 1) := by decide +kernel
theorem d2_50 : decode method_3_code 50 = .ok (.lload_n 2, 1) := by decide +kernel
theorem d2_51 : decode method_3_code 51 = .ok (.bipush 60, 2) := by decide +kernel
theorem d2_53 : decode method_3_code 53 = .ok (.lushr, 1) := by decide +kernel
theorem d2_54 : decode method_3_code 54 = .ok (.lxor, 1) := by decide +kernel
theorem d2_55 : decode method_3_code 55 = .ok (.lstore_n 2, 1) := by decide +kernel
theorem d2_56 : decode method_3_code 56 = .ok (.lload_n 2, 1) := by decide +kernel
theorem d2_57 : decode method_3_code 57 = .ok (.lreturn, 1) := by decide +kernel
theorem ef_law (m : MethodId) (x0 : Int64) (x1 : Int64) : entryFrame m #[(.long x0), (.long x1)] maxLocals = mkF m 0 #[.val (.long x0), .second, .val (.long x1), .second, .unset, .unset, .unset, .unset] [] := by first | (simp [entryFrame, mkF, argsToLocals, Value.category, maxLocals]; done) | rfl
theorem pd_1 : parseMethodDescriptor "(JJ)J" = some ⟨[.long, .long], some .long⟩ := by decide +kernel
def Q_inv (Z : State) (q1 : Int64) (h0 : Heap) (n0 : Nat) (v : Option Value) (h : Heap) (L : List Loc) : Prop := v = some (.long (invL q1)) ∧ Fr n0 L ∧ h = h0
set_option maxRecDepth 65536 in
set_option maxHeartbeats 40000000 in
theorem rm_inv (l : Launch) (Z : State) (a0 : Array Value) (hw : ∀ d ∈ tables_1, d.before a0 Z = true) (ws : List Jvm.Cond) (q1 : Int64) (h0 : Heap) (n0 : Nat) (Z0 : n0 ≤ h0.size)  :
    MetFree l (⟨"com/example/cornice/cornice/core/GameRandomDerivePinLaw", "inverse", "(J)J"⟩ : MethodName) (head1 (Jvm.Cond.code (⟨"com/example/cornice/cornice/core/GameRandomDerivePinLaw", "inverse", "(J)J"⟩ : MethodName) method_2_code 4 (some .long) :: ws) ({ frames := 0, cells := 0, slots := 0, locals := 0 } : Room)) (fun aa U => aa = #[(.long q1)] ∧ Z.Warmed39 U.vm ∧ U.heap = h0) (fun _ _ _ _ _ => True) (fun _ U o U' => ∃ v L, o = .returned v ∧ Q_inv Z q1 h0 n0 v U'.heap L ∧ FrameEnd U o U' L ({ frames := 0, cells := 0, slots := 0, locals := 0 } : Room).cells ({ frames := 0, cells := 0, slots := 0, locals := 0 } : Room).slots) := by
  refine MetFree.of_bodySF (plainFor_of_name pn_0) hisR ?_
  intro p e s m args below meth c s₁ Bd hml0 hP hK
  obtain ⟨rfl, hZ, hh⟩ := hP
  have hx := Bd.exec
  have hby := Bd.bytes
  have hml : c.maxLocals = 4 := hml0
  have hown : s.vm.findClass "com/example/cornice/cornice/core/GameRandomDerivePinLaw" = some m.cls := findClass_of_methodNamed Bd.named
  have hnm := (name_of_methodNamed Bd.named Bd.method).1
  have hlk : meth.locks = false := BodyLoose.notSynchronized Bd
  have X0 : Stand p l e ({ frames := 0, cells := 0, slots := 0, locals := 0 } : Room) s m #[(.long q1)] below meth c s₁ [] 0 0 := Stand.of_body Bd
  have e0 : s₁.heap = h0 := by rw [← hh, Bd.state]; rfl
  have N0 := Fr.nil n0
  have K0 : Keep h0 h0 [] := Keep.refl _ _
  show Gl p.tables e below (QQof s (Q_inv Z q1 h0 n0) 0 0) (s₁.setTop (entryFrame m #[(.long q1)] 4))
  refine Gl.go (fun t k => castTop (ef_inv m q1) k) ?_
  show Gl p.tables e below (QQof s (Q_inv Z q1 h0 n0) 0 0) (s₁.setTop (mkF m 0 #[.val (.long q1), .second, .unset, .unset] []))
  refine Gl.go (fun _ k => XS.lloadN X0.here hx rfl (hb hby d3_0) rfl  k) ?_
  show Gl p.tables e below (QQof s (Q_inv Z q1 h0 n0) 0 0) (s₁.setTop (mkF m 1 #[.val (.long q1), .second, .unset, .unset] [(.long q1)]))
  refine Gl.go (fun _ k => XS.lstoreN X0.here hx rfl (hb hby d3_1) rfl (l' := #[.val (.long q1), .second, .val (.long q1), .second]) rfl k) ?_
  show Gl p.tables e below (QQof s (Q_inv Z q1 h0 n0) 0 0) (s₁.setTop (mkF m 2 #[.val (.long q1), .second, .val (.long q1), .second] []))
  refine Gl.go (fun _ k => XS.lloadN X0.here hx rfl (hb hby d3_2) rfl  k) ?_
  show Gl p.tables e below (QQof s (Q_inv Z q1 h0 n0) 0 0) (s₁.setTop (mkF m 3 #[.val (.long q1), .second, .val (.long q1), .second] [(.long q1)]))
  refine Gl.go (fun _ k => X0.ldc2Long hx hown (mvT hZ (hw _ (List.mem_of_getElem? (i := 17) rfl))) (g := (mkF m 3 #[.val (.long q1), .second, .val (.long q1), .second] [(.long q1)])) rfl (hb hby d3_3) _ k) ?_
  show Gl p.tables e below (QQof s (Q_inv Z q1 h0 n0) 0 0) (s₁.setTop (mkF m 6 #[.val (.long q1), .second, .val (.long q1), .second] [(.long (2 : Int64)), (.long q1)]))
  refine Gl.go (fun _ k => XS.lloadN X0.here hx rfl (hb hby d3_6) rfl  k) ?_
  show Gl p.tables e below (QQof s (Q_inv Z q1 h0 n0) 0 0) (s₁.setTop (mkF m 7 #[.val (.long q1), .second, .val (.long q1), .second] [(.long q1), (.long (2 : Int64)), (.long q1)]))
  refine Gl.go (fun _ k => XS.lloadN X0.here hx rfl (hb hby d3_7) rfl  k) ?_
  show Gl p.tables e below (QQof s (Q_inv Z q1 h0 n0) 0 0) (s₁.setTop (mkF m 8 #[.val (.long q1), .second, .val (.long q1), .second] [(.long q1), (.long q1), (.long (2 : Int64)), (.long q1)]))
  refine Gl.go (fun _ k => XS.lmul X0.here hx rfl (hb hby d3_8) rfl k) ?_
  show Gl p.tables e below (QQof s (Q_inv Z q1 h0 n0) 0 0) (s₁.setTop (mkF m 9 #[.val (.long q1), .second, .val (.long q1), .second] [(.long (q1 * q1)), (.long (2 : Int64)), (.long q1)]))
  refine Gl.go (fun _ k => XS.lsub X0.here hx rfl (hb hby d3_9) rfl k) ?_
  show Gl p.tables e below (QQof s (Q_inv Z q1 h0 n0) 0 0) (s₁.setTop (mkF m 10 #[.val (.long q1), .second, .val (.long q1), .second] [(.long ((2 : Int64) - (q1 * q1))), (.long q1)]))
  refine Gl.go (fun _ k => XS.lmul X0.here hx rfl (hb hby d3_10) rfl k) ?_
  show Gl p.tables e below (QQof s (Q_inv Z q1 h0 n0) 0 0) (s₁.setTop (mkF m 11 #[.val (.long q1), .second, .val (.long q1), .second] [(.long (q1 * ((2 : Int64) - (q1 * q1))))]))
  show Gl p.tables e below (QQof s (Q_inv Z q1 h0 n0) 0 0) (s₁.setTop (mkF m 11 #[.val (.long q1), .second, .val (.long q1), .second] [(.long (stepL q1 q1))]))
  refine Gl.go (fun _ k => XS.lstoreN X0.here hx rfl (hb hby d3_11) rfl (l' := #[.val (.long q1), .second, .val (.long (stepL q1 q1)), .second]) rfl k) ?_
  show Gl p.tables e below (QQof s (Q_inv Z q1 h0 n0) 0 0) (s₁.setTop (mkF m 12 #[.val (.long q1), .second, .val (.long (stepL q1 q1)), .second] []))
  refine Gl.go (fun _ k => XS.lloadN X0.here hx rfl (hb hby d3_12) rfl  k) ?_
  show Gl p.tables e below (QQof s (Q_inv Z q1 h0 n0) 0 0) (s₁.setTop (mkF m 13 #[.val (.long q1), .second, .val (.long (stepL q1 q1)), .second] [(.long (stepL q1 q1))]))
  refine Gl.go (fun _ k => X0.ldc2Long hx hown (mvT hZ (hw _ (List.mem_of_getElem? (i := 17) rfl))) (g := (mkF m 13 #[.val (.long q1), .second, .val (.long (stepL q1 q1)), .second] [(.long (stepL q1 q1))])) rfl (hb hby d3_13) _ k) ?_
  show Gl p.tables e below (QQof s (Q_inv Z q1 h0 n0) 0 0) (s₁.setTop (mkF m 16 #[.val (.long q1), .second, .val (.long (stepL q1 q1)), .second] [(.long (2 : Int64)), (.long (stepL q1 q1))]))
  refine Gl.go (fun _ k => XS.lloadN X0.here hx rfl (hb hby d3_16) rfl  k) ?_
  show Gl p.tables e below (QQof s (Q_inv Z q1 h0 n0) 0 0) (s₁.setTop (mkF m 17 #[.val (.long q1), .second, .val (.long (stepL q1 q1)), .second] [(.long q1), (.long (2 : Int64)), (.long (stepL q1 q1))]))
  refine Gl.go (fun _ k => XS.lloadN X0.here hx rfl (hb hby d3_17) rfl  k) ?_
  show Gl p.tables e below (QQof s (Q_inv Z q1 h0 n0) 0 0) (s₁.setTop (mkF m 18 #[.val (.long q1), .second, .val (.long (stepL q1 q1)), .second] [(.long (stepL q1 q1)), (.long q1), (.long (2 : Int64)), (.long (stepL q1 q1))]))
  refine Gl.go (fun _ k => XS.lmul X0.here hx rfl (hb hby d3_18) rfl k) ?_
  show Gl p.tables e below (QQof s (Q_inv Z q1 h0 n0) 0 0) (s₁.setTop (mkF m 19 #[.val (.long q1), .second, .val (.long (stepL q1 q1)), .second] [(.long (q1 * (stepL q1 q1))), (.long (2 : Int64)), (.long (stepL q1 q1))]))
  refine Gl.go (fun _ k => XS.lsub X0.here hx rfl (hb hby d3_19) rfl k) ?_
  show Gl p.tables e below (QQof s (Q_inv Z q1 h0 n0) 0 0) (s₁.setTop (mkF m 20 #[.val (.long q1), .second, .val (.long (stepL q1 q1)), .second] [(.long ((2 : Int64) - (q1 * (stepL q1 q1)))), (.long (stepL q1 q1))]))
  refine Gl.go (fun _ k => XS.lmul X0.here hx rfl (hb hby d3_20) rfl k) ?_
  show Gl p.tables e below (QQof s (Q_inv Z q1 h0 n0) 0 0) (s₁.setTop (mkF m 21 #[.val (.long q1), .second, .val (.long (stepL q1 q1)), .second] [(.long ((stepL q1 q1) * ((2 : Int64) - (q1 * (stepL q1 q1)))))]))
  show Gl p.tables e below (QQof s (Q_inv Z q1 h0 n0) 0 0) (s₁.setTop (mkF m 21 #[.val (.long q1), .second, .val (.long (stepL q1 q1)), .second] [(.long (stepL q1 (stepL q1 q1)))]))
  refine Gl.go (fun _ k => XS.lstoreN X0.here hx rfl (hb hby d3_21) rfl (l' := #[.val (.long q1), .second, .val (.long (stepL q1 (stepL q1 q1))), .second]) rfl k) ?_
  show Gl p.tables e below (QQof s (Q_inv Z q1 h0 n0) 0 0) (s₁.setTop (mkF m 22 #[.val (.long q1), .second, .val (.long (stepL q1 (stepL q1 q1))), .second] []))
  refine Gl.go (fun _ k => XS.lloadN X0.here hx rfl (hb hby d3_22) rfl  k) ?_
  show Gl p.tables e below (QQof s (Q_inv Z q1 h0 n0) 0 0) (s₁.setTop (mkF m 23 #[.val (.long q1), .second, .val (.long (stepL q1 (stepL q1 q1))), .second] [(.long (stepL q1 (stepL q1 q1)))]))
  refine Gl.go (fun _ k => X0.ldc2Long hx hown (mvT hZ (hw _ (List.mem_of_getElem? (i := 17) rfl))) (g := (mkF m 23 #[.val (.long q1), .second, .val (.long (stepL q1 (stepL q1 q1))), .second] [(.long (stepL q1 (stepL q1 q1)))])) rfl (hb hby d3_23) _ k) ?_
  show Gl p.tables e below (QQof s (Q_inv Z q1 h0 n0) 0 0) (s₁.setTop (mkF m 26 #[.val (.long q1), .second, .val (.long (stepL q1 (stepL q1 q1))), .second] [(.long (2 : Int64)), (.long (stepL q1 (stepL q1 q1)))]))
  refine Gl.go (fun _ k => XS.lloadN X0.here hx rfl (hb hby d3_26) rfl  k) ?_
  show Gl p.tables e below (QQof s (Q_inv Z q1 h0 n0) 0 0) (s₁.setTop (mkF m 27 #[.val (.long q1), .second, .val (.long (stepL q1 (stepL q1 q1))), .second] [(.long q1), (.long (2 : Int64)), (.long (stepL q1 (stepL q1 q1)))]))
  refine Gl.go (fun _ k => XS.lloadN X0.here hx rfl (hb hby d3_27) rfl  k) ?_
  show Gl p.tables e below (QQof s (Q_inv Z q1 h0 n0) 0 0) (s₁.setTop (mkF m 28 #[.val (.long q1), .second, .val (.long (stepL q1 (stepL q1 q1))), .second] [(.long (stepL q1 (stepL q1 q1))), (.long q1), (.long (2 : Int64)), (.long (stepL q1 (stepL q1 q1)))]))
  refine Gl.go (fun _ k => XS.lmul X0.here hx rfl (hb hby d3_28) rfl k) ?_
  show Gl p.tables e below (QQof s (Q_inv Z q1 h0 n0) 0 0) (s₁.setTop (mkF m 29 #[.val (.long q1), .second, .val (.long (stepL q1 (stepL q1 q1))), .second] [(.long (q1 * (stepL q1 (stepL q1 q1)))), (.long (2 : Int64)), (.long (stepL q1 (stepL q1 q1)))]))
  refine Gl.go (fun _ k => XS.lsub X0.here hx rfl (hb hby d3_29) rfl k) ?_
  show Gl p.tables e below (QQof s (Q_inv Z q1 h0 n0) 0 0) (s₁.setTop (mkF m 30 #[.val (.long q1), .second, .val (.long (stepL q1 (stepL q1 q1))), .second] [(.long ((2 : Int64) - (q1 * (stepL q1 (stepL q1 q1))))), (.long (stepL q1 (stepL q1 q1)))]))
  refine Gl.go (fun _ k => XS.lmul X0.here hx rfl (hb hby d3_30) rfl k) ?_
  show Gl p.tables e below (QQof s (Q_inv Z q1 h0 n0) 0 0) (s₁.setTop (mkF m 31 #[.val (.long q1), .second, .val (.long (stepL q1 (stepL q1 q1))), .second] [(.long ((stepL q1 (stepL q1 q1)) * ((2 : Int64) - (q1 * (stepL q1 (stepL q1 q1))))))]))
  show Gl p.tables e below (QQof s (Q_inv Z q1 h0 n0) 0 0) (s₁.setTop (mkF m 31 #[.val (.long q1), .second, .val (.long (stepL q1 (stepL q1 q1))), .second] [(.long (stepL q1 (stepL q1 (stepL q1 q1))))]))
  refine Gl.go (fun _ k => XS.lstoreN X0.here hx rfl (hb hby d3_31) rfl (l' := #[.val (.long q1), .second, .val (.long (stepL q1 (stepL q1 (stepL q1 q1)))), .second]) rfl k) ?_
  show Gl p.tables e below (QQof s (Q_inv Z q1 h0 n0) 0 0) (s₁.setTop (mkF m 32 #[.val (.long q1), .second, .val (.long (stepL q1 (stepL q1 (stepL q1 q1)))), .second] []))
  refine Gl.go (fun _ k => XS.lloadN X0.here hx rfl (hb hby d3_32) rfl  k) ?_
  show Gl p.tables e below (QQof s (Q_inv Z q1 h0 n0) 0 0) (s₁.setTop (mkF m 33 #[.val (.long q1), .second, .val (.long (stepL q1 (stepL q1 (stepL q1 q1)))), .second] [(.long (stepL q1 (stepL q1 (stepL q1 q1))))]))
  refine Gl.go (fun _ k => X0.ldc2Long hx hown (mvT hZ (hw _ (List.mem_of_getElem? (i := 17) rfl))) (g := (mkF m 33 #[.val (.long q1), .second, .val (.long (stepL q1 (stepL q1 (stepL q1 q1)))), .second] [(.long (stepL q1 (stepL q1 (stepL q1 q1))))])) rfl (hb hby d3_33) _ k) ?_
  show Gl p.tables e below (QQof s (Q_inv Z q1 h0 n0) 0 0) (s₁.setTop (mkF m 36 #[.val (.long q1), .second, .val (.long (stepL q1 (stepL q1 (stepL q1 q1)))), .second] [(.long (2 : Int64)), (.long (stepL q1 (stepL q1 (stepL q1 q1))))]))
  refine Gl.go (fun _ k => XS.lloadN X0.here hx rfl (hb hby d3_36) rfl  k) ?_
  show Gl p.tables e below (QQof s (Q_inv Z q1 h0 n0) 0 0) (s₁.setTop (mkF m 37 #[.val (.long q1), .second, .val (.long (stepL q1 (stepL q1 (stepL q1 q1)))), .second] [(.long q1), (.long (2 : Int64)), (.long (stepL q1 (stepL q1 (stepL q1 q1))))]))
  refine Gl.go (fun _ k => XS.lloadN X0.here hx rfl (hb hby d3_37) rfl  k) ?_
  show Gl p.tables e below (QQof s (Q_inv Z q1 h0 n0) 0 0) (s₁.setTop (mkF m 38 #[.val (.long q1), .second, .val (.long (stepL q1 (stepL q1 (stepL q1 q1)))), .second] [(.long (stepL q1 (stepL q1 (stepL q1 q1)))), (.long q1), (.long (2 : Int64)), (.long (stepL q1 (stepL q1 (stepL q1 q1))))]))
  refine Gl.go (fun _ k => XS.lmul X0.here hx rfl (hb hby d3_38) rfl k) ?_
  show Gl p.tables e below (QQof s (Q_inv Z q1 h0 n0) 0 0) (s₁.setTop (mkF m 39 #[.val (.long q1), .second, .val (.long (stepL q1 (stepL q1 (stepL q1 q1)))), .second] [(.long (q1 * (stepL q1 (stepL q1 (stepL q1 q1))))), (.long (2 : Int64)), (.long (stepL q1 (stepL q1 (stepL q1 q1))))]))
  refine Gl.go (fun _ k => XS.lsub X0.here hx rfl (hb hby d3_39) rfl k) ?_
  show Gl p.tables e below (QQof s (Q_inv Z q1 h0 n0) 0 0) (s₁.setTop (mkF m 40 #[.val (.long q1), .second, .val (.long (stepL q1 (stepL q1 (stepL q1 q1)))), .second] [(.long ((2 : Int64) - (q1 * (stepL q1 (stepL q1 (stepL q1 q1)))))), (.long (stepL q1 (stepL q1 (stepL q1 q1))))]))
  refine Gl.go (fun _ k => XS.lmul X0.here hx rfl (hb hby d3_40) rfl k) ?_
  show Gl p.tables e below (QQof s (Q_inv Z q1 h0 n0) 0 0) (s₁.setTop (mkF m 41 #[.val (.long q1), .second, .val (.long (stepL q1 (stepL q1 (stepL q1 q1)))), .second] [(.long ((stepL q1 (stepL q1 (stepL q1 q1))) * ((2 : Int64) - (q1 * (stepL q1 (stepL q1 (stepL q1 q1)))))))]))
  show Gl p.tables e below (QQof s (Q_inv Z q1 h0 n0) 0 0) (s₁.setTop (mkF m 41 #[.val (.long q1), .second, .val (.long (stepL q1 (stepL q1 (stepL q1 q1)))), .second] [(.long (stepL q1 (stepL q1 (stepL q1 (stepL q1 q1)))))]))
  refine Gl.go (fun _ k => XS.lstoreN X0.here hx rfl (hb hby d3_41) rfl (l' := #[.val (.long q1), .second, .val (.long (stepL q1 (stepL q1 (stepL q1 (stepL q1 q1))))), .second]) rfl k) ?_
  show Gl p.tables e below (QQof s (Q_inv Z q1 h0 n0) 0 0) (s₁.setTop (mkF m 42 #[.val (.long q1), .second, .val (.long (stepL q1 (stepL q1 (stepL q1 (stepL q1 q1))))), .second] []))
  refine Gl.go (fun _ k => XS.lloadN X0.here hx rfl (hb hby d3_42) rfl  k) ?_
  show Gl p.tables e below (QQof s (Q_inv Z q1 h0 n0) 0 0) (s₁.setTop (mkF m 43 #[.val (.long q1), .second, .val (.long (stepL q1 (stepL q1 (stepL q1 (stepL q1 q1))))), .second] [(.long (stepL q1 (stepL q1 (stepL q1 (stepL q1 q1)))))]))
  refine Gl.go (fun _ k => X0.ldc2Long hx hown (mvT hZ (hw _ (List.mem_of_getElem? (i := 17) rfl))) (g := (mkF m 43 #[.val (.long q1), .second, .val (.long (stepL q1 (stepL q1 (stepL q1 (stepL q1 q1))))), .second] [(.long (stepL q1 (stepL q1 (stepL q1 (stepL q1 q1)))))])) rfl (hb hby d3_43) _ k) ?_
  show Gl p.tables e below (QQof s (Q_inv Z q1 h0 n0) 0 0) (s₁.setTop (mkF m 46 #[.val (.long q1), .second, .val (.long (stepL q1 (stepL q1 (stepL q1 (stepL q1 q1))))), .second] [(.long (2 : Int64)), (.long (stepL q1 (stepL q1 (stepL q1 (stepL q1 q1)))))]))
  refine Gl.go (fun _ k => XS.lloadN X0.here hx rfl (hb hby d3_46) rfl  k) ?_
  show Gl p.tables e below (QQof s (Q_inv Z q1 h0 n0) 0 0) (s₁.setTop (mkF m 47 #[.val (.long q1), .second, .val (.long (stepL q1 (stepL q1 (stepL q1 (stepL q1 q1))))), .second] [(.long q1), (.long (2 : Int64)), (.long (stepL q1 (stepL q1 (stepL q1 (stepL q1 q1)))))]))
  refine Gl.go (fun _ k => XS.lloadN X0.here hx rfl (hb hby d3_47) rfl  k) ?_
  show Gl p.tables e below (QQof s (Q_inv Z q1 h0 n0) 0 0) (s₁.setTop (mkF m 48 #[.val (.long q1), .second, .val (.long (stepL q1 (stepL q1 (stepL q1 (stepL q1 q1))))), .second] [(.long (stepL q1 (stepL q1 (stepL q1 (stepL q1 q1))))), (.long q1), (.long (2 : Int64)), (.long (stepL q1 (stepL q1 (stepL q1 (stepL q1 q1)))))]))
  refine Gl.go (fun _ k => XS.lmul X0.here hx rfl (hb hby d3_48) rfl k) ?_
  show Gl p.tables e below (QQof s (Q_inv Z q1 h0 n0) 0 0) (s₁.setTop (mkF m 49 #[.val (.long q1), .second, .val (.long (stepL q1 (stepL q1 (stepL q1 (stepL q1 q1))))), .second] [(.long (q1 * (stepL q1 (stepL q1 (stepL q1 (stepL q1 q1)))))), (.long (2 : Int64)), (.long (stepL q1 (stepL q1 (stepL q1 (stepL q1 q1)))))]))
  refine Gl.go (fun _ k => XS.lsub X0.here hx rfl (hb hby d3_49) rfl k) ?_
  show Gl p.tables e below (QQof s (Q_inv Z q1 h0 n0) 0 0) (s₁.setTop (mkF m 50 #[.val (.long q1), .second, .val (.long (stepL q1 (stepL q1 (stepL q1 (stepL q1 q1))))), .second] [(.long ((2 : Int64) - (q1 * (stepL q1 (stepL q1 (stepL q1 (stepL q1 q1))))))), (.long (stepL q1 (stepL q1 (stepL q1 (stepL q1 q1)))))]))
  refine Gl.go (fun _ k => XS.lmul X0.here hx rfl (hb hby d3_50) rfl k) ?_
  show Gl p.tables e below (QQof s (Q_inv Z q1 h0 n0) 0 0) (s₁.setTop (mkF m 51 #[.val (.long q1), .second, .val (.long (stepL q1 (stepL q1 (stepL q1 (stepL q1 q1))))), .second] [(.long ((stepL q1 (stepL q1 (stepL q1 (stepL q1 q1)))) * ((2 : Int64) - (q1 * (stepL q1 (stepL q1 (stepL q1 (stepL q1 q1))))))))]))
  show Gl p.tables e below (QQof s (Q_inv Z q1 h0 n0) 0 0) (s₁.setTop (mkF m 51 #[.val (.long q1), .second, .val (.long (stepL q1 (stepL q1 (stepL q1 (stepL q1 q1))))), .second] [(.long (stepL q1 (stepL q1 (stepL q1 (stepL q1 (stepL q1 q1))))))]))
  refine Gl.go (fun _ k => XS.lstoreN X0.here hx rfl (hb hby d3_51) rfl (l' := #[.val (.long q1), .second, .val (.long (stepL q1 (stepL q1 (stepL q1 (stepL q1 (stepL q1 q1)))))), .second]) rfl k) ?_
  show Gl p.tables e below (QQof s (Q_inv Z q1 h0 n0) 0 0) (s₁.setTop (mkF m 52 #[.val (.long q1), .second, .val (.long (stepL q1 (stepL q1 (stepL q1 (stepL q1 (stepL q1 q1)))))), .second] []))
  refine Gl.go (fun _ k => XS.lloadN X0.here hx rfl (hb hby d3_52) rfl  k) ?_
  show Gl p.tables e below (QQof s (Q_inv Z q1 h0 n0) 0 0) (s₁.setTop (mkF m 53 #[.val (.long q1), .second, .val (.long (stepL q1 (stepL q1 (stepL q1 (stepL q1 (stepL q1 q1)))))), .second] [(.long (stepL q1 (stepL q1 (stepL q1 (stepL q1 (stepL q1 q1))))))]))
  refine leafL X0 hx hlk Bd.returns (hb hby d3_53) ?_ (by decide) (by decide)
  exact ⟨rfl, N0, e0⟩
def Q_der (Z : State) (q1 : Int64) (q2 : Int64) (h0 : Heap) (n0 : Nat) (v : Option Value) (h : Heap) (L : List Loc) : Prop := v = some (.long (derL q1 q2)) ∧ Fr n0 L ∧ h = h0
set_option maxRecDepth 65536 in
set_option maxHeartbeats 40000000 in
theorem rm_der (l : Launch) (Z : State) (a0 : Array Value) (hw : ∀ d ∈ tables_1, d.before a0 Z = true) (ws : List Jvm.Cond) (q1 : Int64) (q2 : Int64) (h0 : Heap) (n0 : Nat) (Z0 : n0 ≤ h0.size)  :
    MetFree l (⟨"com/example/cornice/cornice/core/GameRandom", "derive", "(JJ)J"⟩ : MethodName) (head1 (Jvm.Cond.code (⟨"com/example/cornice/cornice/core/GameRandom", "derive", "(JJ)J"⟩ : MethodName) prog_1_method_2_code 6 (some .long) :: ws) ({ frames := 0, cells := 0, slots := 0, locals := 0 } : Room)) (fun aa U => aa = #[(.long q1), (.long q2)] ∧ Z.Warmed39 U.vm ∧ U.heap = h0) (fun _ _ _ _ _ => True) (fun _ U o U' => ∃ v L, o = .returned v ∧ Q_der Z q1 q2 h0 n0 v U'.heap L ∧ FrameEnd U o U' L ({ frames := 0, cells := 0, slots := 0, locals := 0 } : Room).cells ({ frames := 0, cells := 0, slots := 0, locals := 0 } : Room).slots) := by
  refine MetFree.of_bodySF (plainFor_of_name pn_1) hisR ?_
  intro p e s m args below meth c s₁ Bd hml0 hP hK
  obtain ⟨rfl, hZ, hh⟩ := hP
  have hx := Bd.exec
  have hby := Bd.bytes
  have hml : c.maxLocals = 6 := hml0
  have hown : s.vm.findClass "com/example/cornice/cornice/core/GameRandom" = some m.cls := findClass_of_methodNamed Bd.named
  have hnm := (name_of_methodNamed Bd.named Bd.method).1
  have hlk : meth.locks = false := BodyLoose.notSynchronized Bd
  have X0 : Stand p l e ({ frames := 0, cells := 0, slots := 0, locals := 0 } : Room) s m #[(.long q1), (.long q2)] below meth c s₁ [] 0 0 := Stand.of_body Bd
  have e0 : s₁.heap = h0 := by rw [← hh, Bd.state]; rfl
  have N0 := Fr.nil n0
  have K0 : Keep h0 h0 [] := Keep.refl _ _
  show Gl p.tables e below (QQof s (Q_der Z q1 q2 h0 n0) 0 0) (s₁.setTop (entryFrame m #[(.long q1), (.long q2)] 6))
  refine Gl.go (fun t k => castTop (ef_der m q1 q2) k) ?_
  show Gl p.tables e below (QQof s (Q_der Z q1 q2 h0 n0) 0 0) (s₁.setTop (mkF m 0 #[.val (.long q1), .second, .val (.long q2), .second, .unset, .unset] []))
  refine Gl.go (fun _ k => XS.lloadN X0.here hx rfl (hb hby d1_0) rfl  k) ?_
  show Gl p.tables e below (QQof s (Q_der Z q1 q2 h0 n0) 0 0) (s₁.setTop (mkF m 1 #[.val (.long q1), .second, .val (.long q2), .second, .unset, .unset] [(.long q1)]))
  refine Gl.go (fun _ k => XS.lloadN X0.here hx rfl (hb hby d1_1) rfl  k) ?_
  show Gl p.tables e below (QQof s (Q_der Z q1 q2 h0 n0) 0 0) (s₁.setTop (mkF m 2 #[.val (.long q1), .second, .val (.long q2), .second, .unset, .unset] [(.long q2), (.long q1)]))
  refine Gl.go (fun _ k => XS.lconst X0.here hx rfl (hb hby d1_2) k) ?_
  show Gl p.tables e below (QQof s (Q_der Z q1 q2 h0 n0) 0 0) (s₁.setTop (mkF m 3 #[.val (.long q1), .second, .val (.long q2), .second, .unset, .unset] [(.long (1 : Int64)), (.long q2), (.long q1)]))
  refine Gl.go (fun _ k => XS.ladd X0.here hx rfl (hb hby d1_3) rfl k) ?_
  show Gl p.tables e below (QQof s (Q_der Z q1 q2 h0 n0) 0 0) (s₁.setTop (mkF m 4 #[.val (.long q1), .second, .val (.long q2), .second, .unset, .unset] [(.long (q2 + (1 : Int64))), (.long q1)]))
  refine Gl.go (fun _ k => X0.ldc2Long hx hown (mvT hZ (hw _ (List.mem_of_getElem? (i := 4) rfl))) (g := (mkF m 4 #[.val (.long q1), .second, .val (.long q2), .second, .unset, .unset] [(.long (q2 + (1 : Int64))), (.long q1)])) rfl (hb hby d1_4) _ k) ?_
  show Gl p.tables e below (QQof s (Q_der Z q1 q2 h0 n0) 0 0) (s₁.setTop (mkF m 7 #[.val (.long q1), .second, .val (.long q2), .second, .unset, .unset] [(.long (-7046029254386353131 : Int64)), (.long (q2 + (1 : Int64))), (.long q1)]))
  refine Gl.go (fun _ k => XS.lmul X0.here hx rfl (hb hby d1_7) rfl k) ?_
  show Gl p.tables e below (QQof s (Q_der Z q1 q2 h0 n0) 0 0) (s₁.setTop (mkF m 8 #[.val (.long q1), .second, .val (.long q2), .second, .unset, .unset] [(.long ((q2 + (1 : Int64)) * (-7046029254386353131 : Int64))), (.long q1)]))
  refine Gl.go (fun _ k => XS.ladd X0.here hx rfl (hb hby d1_8) rfl k) ?_
  show Gl p.tables e below (QQof s (Q_der Z q1 q2 h0 n0) 0 0) (s₁.setTop (mkF m 9 #[.val (.long q1), .second, .val (.long q2), .second, .unset, .unset] [(.long (q1 + ((q2 + (1 : Int64)) * (-7046029254386353131 : Int64))))]))
  show Gl p.tables e below (QQof s (Q_der Z q1 q2 h0 n0) 0 0) (s₁.setTop (mkF m 9 #[.val (.long q1), .second, .val (.long q2), .second, .unset, .unset] [(.long (baseL q1 q2))]))
  refine Gl.go (fun _ k => XS.lstore X0.here hx rfl (hb hby d1_9) rfl (l' := #[.val (.long q1), .second, .val (.long q2), .second, .val (.long (baseL q1 q2)), .second]) rfl k) ?_
  show Gl p.tables e below (QQof s (Q_der Z q1 q2 h0 n0) 0 0) (s₁.setTop (mkF m 11 #[.val (.long q1), .second, .val (.long q2), .second, .val (.long (baseL q1 q2)), .second] []))
  refine Gl.go (fun _ k => XS.lload X0.here hx rfl (hb hby d1_11) rfl  k) ?_
  show Gl p.tables e below (QQof s (Q_der Z q1 q2 h0 n0) 0 0) (s₁.setTop (mkF m 13 #[.val (.long q1), .second, .val (.long q2), .second, .val (.long (baseL q1 q2)), .second] [(.long (baseL q1 q2))]))
  refine Gl.go (fun _ k => XS.lload X0.here hx rfl (hb hby d1_13) rfl  k) ?_
  show Gl p.tables e below (QQof s (Q_der Z q1 q2 h0 n0) 0 0) (s₁.setTop (mkF m 15 #[.val (.long q1), .second, .val (.long q2), .second, .val (.long (baseL q1 q2)), .second] [(.long (baseL q1 q2)), (.long (baseL q1 q2))]))
  refine Gl.go (fun _ k => XS.bipush X0.here hx rfl (hb hby d1_15) k) ?_
  show Gl p.tables e below (QQof s (Q_der Z q1 q2 h0 n0) 0 0) (s₁.setTop (mkF m 17 #[.val (.long q1), .second, .val (.long q2), .second, .val (.long (baseL q1 q2)), .second] [(.int (30 : Int32)), (.long (baseL q1 q2)), (.long (baseL q1 q2))]))
  refine Gl.go (fun _ k => XS.lushr X0.here hx rfl (hb hby d1_17) rfl k) ?_
  show Gl p.tables e below (QQof s (Q_der Z q1 q2 h0 n0) 0 0) (s₁.setTop (mkF m 18 #[.val (.long q1), .second, .val (.long q2), .second, .val (.long (baseL q1 q2)), .second] [(.long (((baseL q1 q2).toUInt64 >>> ((30 : Int32) &&& 0x3f).toInt64.toUInt64).toInt64)), (.long (baseL q1 q2))]))
  refine Gl.go (fun _ k => XS.lxor X0.here hx rfl (hb hby d1_18) rfl k) ?_
  show Gl p.tables e below (QQof s (Q_der Z q1 q2 h0 n0) 0 0) (s₁.setTop (mkF m 19 #[.val (.long q1), .second, .val (.long q2), .second, .val (.long (baseL q1 q2)), .second] [(.long ((baseL q1 q2) ^^^ (((baseL q1 q2).toUInt64 >>> ((30 : Int32) &&& 0x3f).toInt64.toUInt64).toInt64)))]))
  refine Gl.go (fun _ k => X0.ldc2Long hx hown (mvT hZ (hw _ (List.mem_of_getElem? (i := 5) rfl))) (g := (mkF m 19 #[.val (.long q1), .second, .val (.long q2), .second, .val (.long (baseL q1 q2)), .second] [(.long ((baseL q1 q2) ^^^ (((baseL q1 q2).toUInt64 >>> ((30 : Int32) &&& 0x3f).toInt64.toUInt64).toInt64)))])) rfl (hb hby d1_19) _ k) ?_
  show Gl p.tables e below (QQof s (Q_der Z q1 q2 h0 n0) 0 0) (s₁.setTop (mkF m 22 #[.val (.long q1), .second, .val (.long q2), .second, .val (.long (baseL q1 q2)), .second] [(.long (-4658895280553007687 : Int64)), (.long ((baseL q1 q2) ^^^ (((baseL q1 q2).toUInt64 >>> ((30 : Int32) &&& 0x3f).toInt64.toUInt64).toInt64)))]))
  refine Gl.go (fun _ k => XS.lmul X0.here hx rfl (hb hby d1_22) rfl k) ?_
  show Gl p.tables e below (QQof s (Q_der Z q1 q2 h0 n0) 0 0) (s₁.setTop (mkF m 23 #[.val (.long q1), .second, .val (.long q2), .second, .val (.long (baseL q1 q2)), .second] [(.long (((baseL q1 q2) ^^^ (((baseL q1 q2).toUInt64 >>> ((30 : Int32) &&& 0x3f).toInt64.toUInt64).toInt64)) * (-4658895280553007687 : Int64)))]))
  show Gl p.tables e below (QQof s (Q_der Z q1 q2 h0 n0) 0 0) (s₁.setTop (mkF m 23 #[.val (.long q1), .second, .val (.long q2), .second, .val (.long (baseL q1 q2)), .second] [(.long (mx 30 (-4658895280553007687 : Int64) (baseL q1 q2)))]))
  refine Gl.go (fun _ k => XS.lstore X0.here hx rfl (hb hby d1_23) rfl (l' := #[.val (.long q1), .second, .val (.long q2), .second, .val (.long (mx 30 (-4658895280553007687 : Int64) (baseL q1 q2))), .second]) rfl k) ?_
  show Gl p.tables e below (QQof s (Q_der Z q1 q2 h0 n0) 0 0) (s₁.setTop (mkF m 25 #[.val (.long q1), .second, .val (.long q2), .second, .val (.long (mx 30 (-4658895280553007687 : Int64) (baseL q1 q2))), .second] []))
  refine Gl.go (fun _ k => XS.lload X0.here hx rfl (hb hby d1_25) rfl  k) ?_
  show Gl p.tables e below (QQof s (Q_der Z q1 q2 h0 n0) 0 0) (s₁.setTop (mkF m 27 #[.val (.long q1), .second, .val (.long q2), .second, .val (.long (mx 30 (-4658895280553007687 : Int64) (baseL q1 q2))), .second] [(.long (mx 30 (-4658895280553007687 : Int64) (baseL q1 q2)))]))
  refine Gl.go (fun _ k => XS.lload X0.here hx rfl (hb hby d1_27) rfl  k) ?_
  show Gl p.tables e below (QQof s (Q_der Z q1 q2 h0 n0) 0 0) (s₁.setTop (mkF m 29 #[.val (.long q1), .second, .val (.long q2), .second, .val (.long (mx 30 (-4658895280553007687 : Int64) (baseL q1 q2))), .second] [(.long (mx 30 (-4658895280553007687 : Int64) (baseL q1 q2))), (.long (mx 30 (-4658895280553007687 : Int64) (baseL q1 q2)))]))
  refine Gl.go (fun _ k => XS.bipush X0.here hx rfl (hb hby d1_29) k) ?_
  show Gl p.tables e below (QQof s (Q_der Z q1 q2 h0 n0) 0 0) (s₁.setTop (mkF m 31 #[.val (.long q1), .second, .val (.long q2), .second, .val (.long (mx 30 (-4658895280553007687 : Int64) (baseL q1 q2))), .second] [(.int (27 : Int32)), (.long (mx 30 (-4658895280553007687 : Int64) (baseL q1 q2))), (.long (mx 30 (-4658895280553007687 : Int64) (baseL q1 q2)))]))
  refine Gl.go (fun _ k => XS.lushr X0.here hx rfl (hb hby d1_31) rfl k) ?_
  show Gl p.tables e below (QQof s (Q_der Z q1 q2 h0 n0) 0 0) (s₁.setTop (mkF m 32 #[.val (.long q1), .second, .val (.long q2), .second, .val (.long (mx 30 (-4658895280553007687 : Int64) (baseL q1 q2))), .second] [(.long (((mx 30 (-4658895280553007687 : Int64) (baseL q1 q2)).toUInt64 >>> ((27 : Int32) &&& 0x3f).toInt64.toUInt64).toInt64)), (.long (mx 30 (-4658895280553007687 : Int64) (baseL q1 q2)))]))
  refine Gl.go (fun _ k => XS.lxor X0.here hx rfl (hb hby d1_32) rfl k) ?_
  show Gl p.tables e below (QQof s (Q_der Z q1 q2 h0 n0) 0 0) (s₁.setTop (mkF m 33 #[.val (.long q1), .second, .val (.long q2), .second, .val (.long (mx 30 (-4658895280553007687 : Int64) (baseL q1 q2))), .second] [(.long ((mx 30 (-4658895280553007687 : Int64) (baseL q1 q2)) ^^^ (((mx 30 (-4658895280553007687 : Int64) (baseL q1 q2)).toUInt64 >>> ((27 : Int32) &&& 0x3f).toInt64.toUInt64).toInt64)))]))
  refine Gl.go (fun _ k => X0.ldc2Long hx hown (mvT hZ (hw _ (List.mem_of_getElem? (i := 6) rfl))) (g := (mkF m 33 #[.val (.long q1), .second, .val (.long q2), .second, .val (.long (mx 30 (-4658895280553007687 : Int64) (baseL q1 q2))), .second] [(.long ((mx 30 (-4658895280553007687 : Int64) (baseL q1 q2)) ^^^ (((mx 30 (-4658895280553007687 : Int64) (baseL q1 q2)).toUInt64 >>> ((27 : Int32) &&& 0x3f).toInt64.toUInt64).toInt64)))])) rfl (hb hby d1_33) _ k) ?_
  show Gl p.tables e below (QQof s (Q_der Z q1 q2 h0 n0) 0 0) (s₁.setTop (mkF m 36 #[.val (.long q1), .second, .val (.long q2), .second, .val (.long (mx 30 (-4658895280553007687 : Int64) (baseL q1 q2))), .second] [(.long (-7723592293110705685 : Int64)), (.long ((mx 30 (-4658895280553007687 : Int64) (baseL q1 q2)) ^^^ (((mx 30 (-4658895280553007687 : Int64) (baseL q1 q2)).toUInt64 >>> ((27 : Int32) &&& 0x3f).toInt64.toUInt64).toInt64)))]))
  refine Gl.go (fun _ k => XS.lmul X0.here hx rfl (hb hby d1_36) rfl k) ?_
  show Gl p.tables e below (QQof s (Q_der Z q1 q2 h0 n0) 0 0) (s₁.setTop (mkF m 37 #[.val (.long q1), .second, .val (.long q2), .second, .val (.long (mx 30 (-4658895280553007687 : Int64) (baseL q1 q2))), .second] [(.long (((mx 30 (-4658895280553007687 : Int64) (baseL q1 q2)) ^^^ (((mx 30 (-4658895280553007687 : Int64) (baseL q1 q2)).toUInt64 >>> ((27 : Int32) &&& 0x3f).toInt64.toUInt64).toInt64)) * (-7723592293110705685 : Int64)))]))
  show Gl p.tables e below (QQof s (Q_der Z q1 q2 h0 n0) 0 0) (s₁.setTop (mkF m 37 #[.val (.long q1), .second, .val (.long q2), .second, .val (.long (mx 30 (-4658895280553007687 : Int64) (baseL q1 q2))), .second] [(.long (mx 27 (-7723592293110705685 : Int64) (mx 30 (-4658895280553007687 : Int64) (baseL q1 q2))))]))
  refine Gl.go (fun _ k => XS.lstore X0.here hx rfl (hb hby d1_37) rfl (l' := #[.val (.long q1), .second, .val (.long q2), .second, .val (.long (mx 27 (-7723592293110705685 : Int64) (mx 30 (-4658895280553007687 : Int64) (baseL q1 q2)))), .second]) rfl k) ?_
  show Gl p.tables e below (QQof s (Q_der Z q1 q2 h0 n0) 0 0) (s₁.setTop (mkF m 39 #[.val (.long q1), .second, .val (.long q2), .second, .val (.long (mx 27 (-7723592293110705685 : Int64) (mx 30 (-4658895280553007687 : Int64) (baseL q1 q2)))), .second] []))
  refine Gl.go (fun _ k => XS.lload X0.here hx rfl (hb hby d1_39) rfl  k) ?_
  show Gl p.tables e below (QQof s (Q_der Z q1 q2 h0 n0) 0 0) (s₁.setTop (mkF m 41 #[.val (.long q1), .second, .val (.long q2), .second, .val (.long (mx 27 (-7723592293110705685 : Int64) (mx 30 (-4658895280553007687 : Int64) (baseL q1 q2)))), .second] [(.long (mx 27 (-7723592293110705685 : Int64) (mx 30 (-4658895280553007687 : Int64) (baseL q1 q2))))]))
  refine Gl.go (fun _ k => XS.lload X0.here hx rfl (hb hby d1_41) rfl  k) ?_
  show Gl p.tables e below (QQof s (Q_der Z q1 q2 h0 n0) 0 0) (s₁.setTop (mkF m 43 #[.val (.long q1), .second, .val (.long q2), .second, .val (.long (mx 27 (-7723592293110705685 : Int64) (mx 30 (-4658895280553007687 : Int64) (baseL q1 q2)))), .second] [(.long (mx 27 (-7723592293110705685 : Int64) (mx 30 (-4658895280553007687 : Int64) (baseL q1 q2)))), (.long (mx 27 (-7723592293110705685 : Int64) (mx 30 (-4658895280553007687 : Int64) (baseL q1 q2))))]))
  refine Gl.go (fun _ k => XS.bipush X0.here hx rfl (hb hby d1_43) k) ?_
  show Gl p.tables e below (QQof s (Q_der Z q1 q2 h0 n0) 0 0) (s₁.setTop (mkF m 45 #[.val (.long q1), .second, .val (.long q2), .second, .val (.long (mx 27 (-7723592293110705685 : Int64) (mx 30 (-4658895280553007687 : Int64) (baseL q1 q2)))), .second] [(.int (31 : Int32)), (.long (mx 27 (-7723592293110705685 : Int64) (mx 30 (-4658895280553007687 : Int64) (baseL q1 q2)))), (.long (mx 27 (-7723592293110705685 : Int64) (mx 30 (-4658895280553007687 : Int64) (baseL q1 q2))))]))
  refine Gl.go (fun _ k => XS.lushr X0.here hx rfl (hb hby d1_45) rfl k) ?_
  show Gl p.tables e below (QQof s (Q_der Z q1 q2 h0 n0) 0 0) (s₁.setTop (mkF m 46 #[.val (.long q1), .second, .val (.long q2), .second, .val (.long (mx 27 (-7723592293110705685 : Int64) (mx 30 (-4658895280553007687 : Int64) (baseL q1 q2)))), .second] [(.long (((mx 27 (-7723592293110705685 : Int64) (mx 30 (-4658895280553007687 : Int64) (baseL q1 q2))).toUInt64 >>> ((31 : Int32) &&& 0x3f).toInt64.toUInt64).toInt64)), (.long (mx 27 (-7723592293110705685 : Int64) (mx 30 (-4658895280553007687 : Int64) (baseL q1 q2))))]))
  refine Gl.go (fun _ k => XS.lxor X0.here hx rfl (hb hby d1_46) rfl k) ?_
  show Gl p.tables e below (QQof s (Q_der Z q1 q2 h0 n0) 0 0) (s₁.setTop (mkF m 47 #[.val (.long q1), .second, .val (.long q2), .second, .val (.long (mx 27 (-7723592293110705685 : Int64) (mx 30 (-4658895280553007687 : Int64) (baseL q1 q2)))), .second] [(.long ((mx 27 (-7723592293110705685 : Int64) (mx 30 (-4658895280553007687 : Int64) (baseL q1 q2))) ^^^ (((mx 27 (-7723592293110705685 : Int64) (mx 30 (-4658895280553007687 : Int64) (baseL q1 q2))).toUInt64 >>> ((31 : Int32) &&& 0x3f).toInt64.toUInt64).toInt64)))]))
  refine Gl.go (fun _ k => X0.ldc2Long hx hown (mvT hZ (hw _ (List.mem_of_getElem? (i := 7) rfl))) (g := (mkF m 47 #[.val (.long q1), .second, .val (.long q2), .second, .val (.long (mx 27 (-7723592293110705685 : Int64) (mx 30 (-4658895280553007687 : Int64) (baseL q1 q2)))), .second] [(.long ((mx 27 (-7723592293110705685 : Int64) (mx 30 (-4658895280553007687 : Int64) (baseL q1 q2))) ^^^ (((mx 27 (-7723592293110705685 : Int64) (mx 30 (-4658895280553007687 : Int64) (baseL q1 q2))).toUInt64 >>> ((31 : Int32) &&& 0x3f).toInt64.toUInt64).toInt64)))])) rfl (hb hby d1_47) _ k) ?_
  show Gl p.tables e below (QQof s (Q_der Z q1 q2 h0 n0) 0 0) (s₁.setTop (mkF m 50 #[.val (.long q1), .second, .val (.long q2), .second, .val (.long (mx 27 (-7723592293110705685 : Int64) (mx 30 (-4658895280553007687 : Int64) (baseL q1 q2)))), .second] [(.long (9223372036854775807 : Int64)), (.long ((mx 27 (-7723592293110705685 : Int64) (mx 30 (-4658895280553007687 : Int64) (baseL q1 q2))) ^^^ (((mx 27 (-7723592293110705685 : Int64) (mx 30 (-4658895280553007687 : Int64) (baseL q1 q2))).toUInt64 >>> ((31 : Int32) &&& 0x3f).toInt64.toUInt64).toInt64)))]))
  refine Gl.go (fun _ k => XS.land X0.here hx rfl (hb hby d1_50) rfl k) ?_
  show Gl p.tables e below (QQof s (Q_der Z q1 q2 h0 n0) 0 0) (s₁.setTop (mkF m 51 #[.val (.long q1), .second, .val (.long q2), .second, .val (.long (mx 27 (-7723592293110705685 : Int64) (mx 30 (-4658895280553007687 : Int64) (baseL q1 q2)))), .second] [(.long (((mx 27 (-7723592293110705685 : Int64) (mx 30 (-4658895280553007687 : Int64) (baseL q1 q2))) ^^^ (((mx 27 (-7723592293110705685 : Int64) (mx 30 (-4658895280553007687 : Int64) (baseL q1 q2))).toUInt64 >>> ((31 : Int32) &&& 0x3f).toInt64.toUInt64).toInt64)) &&& (9223372036854775807 : Int64)))]))
  refine leafL X0 hx hlk Bd.returns (hb hby d1_51) ?_ (by decide) (by decide)
  exact ⟨rfl, N0, e0⟩
def Q_um (Z : State) (q1 : Int64) (h0 : Heap) (n0 : Nat) (v : Option Value) (h : Heap) (L : List Loc) : Prop := v = some (.long (unmixL q1)) ∧ Fr n0 L ∧ h = h0
set_option maxRecDepth 65536 in
set_option maxHeartbeats 40000000 in
theorem rm_um (l : Launch) (Z : State) (a0 : Array Value) (hw : ∀ d ∈ tables_1, d.before a0 Z = true) (ws : List Jvm.Cond) (q1 : Int64) (h0 : Heap) (n0 : Nat) (Z0 : n0 ≤ h0.size)  :
    MetFree l (⟨"com/example/cornice/cornice/core/GameRandomDerivePinLaw", "unmix", "(J)J"⟩ : MethodName) (head1 (Jvm.Cond.code (⟨"com/example/cornice/cornice/core/GameRandomDerivePinLaw", "unmix", "(J)J"⟩ : MethodName) method_3_code 4 (some .long) :: ws) ({ frames := 1, cells := 0, slots := 0, locals := 17 } : Room)) (fun aa U => aa = #[(.long q1)] ∧ Z.Warmed39 U.vm ∧ U.heap = h0) (fun _ _ _ _ _ => True) (fun _ U o U' => ∃ v L, o = .returned v ∧ Q_um Z q1 h0 n0 v U'.heap L ∧ FrameEnd U o U' L ({ frames := 1, cells := 0, slots := 0, locals := 17 } : Room).cells ({ frames := 1, cells := 0, slots := 0, locals := 17 } : Room).slots) := by
  refine MetFree.of_bodySF (plainFor_of_name pn_0) hisR ?_
  intro p e s m args below meth c s₁ Bd hml0 hP hK
  obtain ⟨rfl, hZ, hh⟩ := hP
  have hx := Bd.exec
  have hby := Bd.bytes
  have hml : c.maxLocals = 4 := hml0
  have hown : s.vm.findClass "com/example/cornice/cornice/core/GameRandomDerivePinLaw" = some m.cls := findClass_of_methodNamed Bd.named
  have hnm := (name_of_methodNamed Bd.named Bd.method).1
  have hlk : meth.locks = false := BodyLoose.notSynchronized Bd
  have X0 : Stand p l e ({ frames := 1, cells := 0, slots := 0, locals := 17 } : Room) s m #[(.long q1)] below meth c s₁ [] 0 0 := Stand.of_body Bd
  have e0 : s₁.heap = h0 := by rw [← hh, Bd.state]; rfl
  have N0 := Fr.nil n0
  have K0 : Keep h0 h0 [] := Keep.refl _ _
  show Gl p.tables e below (QQof s (Q_um Z q1 h0 n0) 0 0) (s₁.setTop (entryFrame m #[(.long q1)] 4))
  refine Gl.go (fun t k => castTop (ef_um m q1) k) ?_
  show Gl p.tables e below (QQof s (Q_um Z q1 h0 n0) 0 0) (s₁.setTop (mkF m 0 #[.val (.long q1), .second, .unset, .unset] []))
  refine Gl.go (fun _ k => XS.lloadN X0.here hx rfl (hb hby d2_0) rfl  k) ?_
  show Gl p.tables e below (QQof s (Q_um Z q1 h0 n0) 0 0) (s₁.setTop (mkF m 1 #[.val (.long q1), .second, .unset, .unset] [(.long q1)]))
  refine Gl.go (fun _ k => XS.lstoreN X0.here hx rfl (hb hby d2_1) rfl (l' := #[.val (.long q1), .second, .val (.long q1), .second]) rfl k) ?_
  show Gl p.tables e below (QQof s (Q_um Z q1 h0 n0) 0 0) (s₁.setTop (mkF m 2 #[.val (.long q1), .second, .val (.long q1), .second] []))
  refine Gl.go (fun _ k => XS.lloadN X0.here hx rfl (hb hby d2_2) rfl  k) ?_
  show Gl p.tables e below (QQof s (Q_um Z q1 h0 n0) 0 0) (s₁.setTop (mkF m 3 #[.val (.long q1), .second, .val (.long q1), .second] [(.long q1)]))
  refine Gl.go (fun _ k => XS.lloadN X0.here hx rfl (hb hby d2_3) rfl  k) ?_
  show Gl p.tables e below (QQof s (Q_um Z q1 h0 n0) 0 0) (s₁.setTop (mkF m 4 #[.val (.long q1), .second, .val (.long q1), .second] [(.long q1), (.long q1)]))
  refine Gl.go (fun _ k => XS.bipush X0.here hx rfl (hb hby d2_4) k) ?_
  show Gl p.tables e below (QQof s (Q_um Z q1 h0 n0) 0 0) (s₁.setTop (mkF m 6 #[.val (.long q1), .second, .val (.long q1), .second] [(.int (31 : Int32)), (.long q1), (.long q1)]))
  refine Gl.go (fun _ k => XS.lushr X0.here hx rfl (hb hby d2_6) rfl k) ?_
  show Gl p.tables e below (QQof s (Q_um Z q1 h0 n0) 0 0) (s₁.setTop (mkF m 7 #[.val (.long q1), .second, .val (.long q1), .second] [(.long ((q1.toUInt64 >>> ((31 : Int32) &&& 0x3f).toInt64.toUInt64).toInt64)), (.long q1)]))
  refine Gl.go (fun _ k => XS.lxor X0.here hx rfl (hb hby d2_7) rfl k) ?_
  show Gl p.tables e below (QQof s (Q_um Z q1 h0 n0) 0 0) (s₁.setTop (mkF m 8 #[.val (.long q1), .second, .val (.long q1), .second] [(.long (q1 ^^^ ((q1.toUInt64 >>> ((31 : Int32) &&& 0x3f).toInt64.toUInt64).toInt64)))]))
  refine Gl.go (fun _ k => XS.lloadN X0.here hx rfl (hb hby d2_8) rfl  k) ?_
  show Gl p.tables e below (QQof s (Q_um Z q1 h0 n0) 0 0) (s₁.setTop (mkF m 9 #[.val (.long q1), .second, .val (.long q1), .second] [(.long q1), (.long (q1 ^^^ ((q1.toUInt64 >>> ((31 : Int32) &&& 0x3f).toInt64.toUInt64).toInt64)))]))
  refine Gl.go (fun _ k => XS.bipush X0.here hx rfl (hb hby d2_9) k) ?_
  show Gl p.tables e below (QQof s (Q_um Z q1 h0 n0) 0 0) (s₁.setTop (mkF m 11 #[.val (.long q1), .second, .val (.long q1), .second] [(.int (62 : Int32)), (.long q1), (.long (q1 ^^^ ((q1.toUInt64 >>> ((31 : Int32) &&& 0x3f).toInt64.toUInt64).toInt64)))]))
  refine Gl.go (fun _ k => XS.lushr X0.here hx rfl (hb hby d2_11) rfl k) ?_
  show Gl p.tables e below (QQof s (Q_um Z q1 h0 n0) 0 0) (s₁.setTop (mkF m 12 #[.val (.long q1), .second, .val (.long q1), .second] [(.long ((q1.toUInt64 >>> ((62 : Int32) &&& 0x3f).toInt64.toUInt64).toInt64)), (.long (q1 ^^^ ((q1.toUInt64 >>> ((31 : Int32) &&& 0x3f).toInt64.toUInt64).toInt64)))]))
  refine Gl.go (fun _ k => XS.lxor X0.here hx rfl (hb hby d2_12) rfl k) ?_
  show Gl p.tables e below (QQof s (Q_um Z q1 h0 n0) 0 0) (s₁.setTop (mkF m 13 #[.val (.long q1), .second, .val (.long q1), .second] [(.long ((q1 ^^^ ((q1.toUInt64 >>> ((31 : Int32) &&& 0x3f).toInt64.toUInt64).toInt64)) ^^^ ((q1.toUInt64 >>> ((62 : Int32) &&& 0x3f).toInt64.toUInt64).toInt64)))]))
  show Gl p.tables e below (QQof s (Q_um Z q1 h0 n0) 0 0) (s₁.setTop (mkF m 13 #[.val (.long q1), .second, .val (.long q1), .second] [(.long (un2 31 62 q1))]))
  refine Gl.go (fun _ k => XS.lstoreN X0.here hx rfl (hb hby d2_13) rfl (l' := #[.val (.long q1), .second, .val (.long (un2 31 62 q1)), .second]) rfl k) ?_
  show Gl p.tables e below (QQof s (Q_um Z q1 h0 n0) 0 0) (s₁.setTop (mkF m 14 #[.val (.long q1), .second, .val (.long (un2 31 62 q1)), .second] []))
  refine Gl.go (fun _ k => XS.lloadN X0.here hx rfl (hb hby d2_14) rfl  k) ?_
  show Gl p.tables e below (QQof s (Q_um Z q1 h0 n0) 0 0) (s₁.setTop (mkF m 15 #[.val (.long q1), .second, .val (.long (un2 31 62 q1)), .second] [(.long (un2 31 62 q1))]))
  refine Gl.go (fun _ k => X0.ldc2Long hx hown (mvT hZ (hw _ (List.mem_of_getElem? (i := 13) rfl))) (g := (mkF m 15 #[.val (.long q1), .second, .val (.long (un2 31 62 q1)), .second] [(.long (un2 31 62 q1))])) rfl (hb hby d2_15) _ k) ?_
  show Gl p.tables e below (QQof s (Q_um Z q1 h0 n0) 0 0) (s₁.setTop (mkF m 18 #[.val (.long q1), .second, .val (.long (un2 31 62 q1)), .second] [(.long (-7723592293110705685 : Int64)), (.long (un2 31 62 q1))]))
  obtain ⟨_, _, ⟨T1, L1, k1, n1⟩, -, X1, ⟨Lc1, hQ1, l1, y1, z1⟩, st1⟩ := Jvm.LawKit.callS X0 hx (y := (⟨"com/example/cornice/cornice/core/GameRandomDerivePinLaw", "inverse", "(J)J"⟩ : MethodName)) hown (mvT hZ (hw _ (List.mem_of_getElem? (i := 14) rfl))) (mvT hZ (hw _ (List.mem_of_getElem? (i := 15) rfl))) (mvT hZ (hw _ (List.mem_of_getElem? (i := 11) rfl))) (mvT hZ (hw _ (List.mem_of_getElem? (i := 16) rfl))) (by decide) (backOf (W := 2) (rm_inv l Z a0 hw [] (-7723592293110705685 : Int64) h0 n0 Z0 ) hZ (hw _ (List.mem_of_getElem? (i := 16) rfl)) (hw _ (List.mem_of_getElem? (i := 11) rfl)) (by decide) (by decide)) (g := (mkF m 18 #[.val (.long q1), .second, .val (.long (un2 31 62 q1)), .second] [(.long (-7723592293110705685 : Int64)), (.long (un2 31 62 q1))])) rfl (by rw [hml]; rfl) (argsL := [(.long (-7723592293110705685 : Int64))]) (rest := [(.long (un2 31 62 q1))]) (lenOf pd_0 rfl) rfl (by show 2 * 0 + _ ≤ _; exact Nat.le_of_eq rfl) (hb hby d2_18) (fun _ _ => ⟨rfl, e0, (by decide : 0 + 0 ≤ _), (by decide : 0 + 0 ≤ _)⟩)
  dsimp only [Pt.U, Pt.locs, Pt.cells, Pt.slots] at X1 l1 y1 z1 st1 hQ1
  subst l1 y1 z1
  obtain ⟨rfl, Nq1, e1⟩ := hQ1
  have N1 := Fr.app N0 Nq1
  refine Gl.go (fun _ k => st1 _ k) ?_
  show Gl p.tables e below (QQof s (Q_um Z q1 h0 n0) 0 0) (T1.setTop (mkF m 21 #[.val (.long q1), .second, .val (.long (un2 31 62 q1)), .second] [(.long (invL (-7723592293110705685 : Int64))), (.long (un2 31 62 q1))]))
  refine Gl.go (fun _ k => XS.lmul X1.here hx rfl (hb hby d2_21) rfl k) ?_
  show Gl p.tables e below (QQof s (Q_um Z q1 h0 n0) 0 0) (T1.setTop (mkF m 22 #[.val (.long q1), .second, .val (.long (un2 31 62 q1)), .second] [(.long ((un2 31 62 q1) * (invL (-7723592293110705685 : Int64))))]))
  refine Gl.go (fun _ k => XS.lstoreN X1.here hx rfl (hb hby d2_22) rfl (l' := #[.val (.long q1), .second, .val (.long ((un2 31 62 q1) * (invL (-7723592293110705685 : Int64)))), .second]) rfl k) ?_
  show Gl p.tables e below (QQof s (Q_um Z q1 h0 n0) 0 0) (T1.setTop (mkF m 23 #[.val (.long q1), .second, .val (.long ((un2 31 62 q1) * (invL (-7723592293110705685 : Int64)))), .second] []))
  refine Gl.go (fun _ k => XS.lloadN X1.here hx rfl (hb hby d2_23) rfl  k) ?_
  show Gl p.tables e below (QQof s (Q_um Z q1 h0 n0) 0 0) (T1.setTop (mkF m 24 #[.val (.long q1), .second, .val (.long ((un2 31 62 q1) * (invL (-7723592293110705685 : Int64)))), .second] [(.long ((un2 31 62 q1) * (invL (-7723592293110705685 : Int64))))]))
  refine Gl.go (fun _ k => XS.lloadN X1.here hx rfl (hb hby d2_24) rfl  k) ?_
  show Gl p.tables e below (QQof s (Q_um Z q1 h0 n0) 0 0) (T1.setTop (mkF m 25 #[.val (.long q1), .second, .val (.long ((un2 31 62 q1) * (invL (-7723592293110705685 : Int64)))), .second] [(.long ((un2 31 62 q1) * (invL (-7723592293110705685 : Int64)))), (.long ((un2 31 62 q1) * (invL (-7723592293110705685 : Int64))))]))
  refine Gl.go (fun _ k => XS.bipush X1.here hx rfl (hb hby d2_25) k) ?_
  show Gl p.tables e below (QQof s (Q_um Z q1 h0 n0) 0 0) (T1.setTop (mkF m 27 #[.val (.long q1), .second, .val (.long ((un2 31 62 q1) * (invL (-7723592293110705685 : Int64)))), .second] [(.int (27 : Int32)), (.long ((un2 31 62 q1) * (invL (-7723592293110705685 : Int64)))), (.long ((un2 31 62 q1) * (invL (-7723592293110705685 : Int64))))]))
  refine Gl.go (fun _ k => XS.lushr X1.here hx rfl (hb hby d2_27) rfl k) ?_
  show Gl p.tables e below (QQof s (Q_um Z q1 h0 n0) 0 0) (T1.setTop (mkF m 28 #[.val (.long q1), .second, .val (.long ((un2 31 62 q1) * (invL (-7723592293110705685 : Int64)))), .second] [(.long ((((un2 31 62 q1) * (invL (-7723592293110705685 : Int64))).toUInt64 >>> ((27 : Int32) &&& 0x3f).toInt64.toUInt64).toInt64)), (.long ((un2 31 62 q1) * (invL (-7723592293110705685 : Int64))))]))
  refine Gl.go (fun _ k => XS.lxor X1.here hx rfl (hb hby d2_28) rfl k) ?_
  show Gl p.tables e below (QQof s (Q_um Z q1 h0 n0) 0 0) (T1.setTop (mkF m 29 #[.val (.long q1), .second, .val (.long ((un2 31 62 q1) * (invL (-7723592293110705685 : Int64)))), .second] [(.long (((un2 31 62 q1) * (invL (-7723592293110705685 : Int64))) ^^^ ((((un2 31 62 q1) * (invL (-7723592293110705685 : Int64))).toUInt64 >>> ((27 : Int32) &&& 0x3f).toInt64.toUInt64).toInt64)))]))
  refine Gl.go (fun _ k => XS.lloadN X1.here hx rfl (hb hby d2_29) rfl  k) ?_
  show Gl p.tables e below (QQof s (Q_um Z q1 h0 n0) 0 0) (T1.setTop (mkF m 30 #[.val (.long q1), .second, .val (.long ((un2 31 62 q1) * (invL (-7723592293110705685 : Int64)))), .second] [(.long ((un2 31 62 q1) * (invL (-7723592293110705685 : Int64)))), (.long (((un2 31 62 q1) * (invL (-7723592293110705685 : Int64))) ^^^ ((((un2 31 62 q1) * (invL (-7723592293110705685 : Int64))).toUInt64 >>> ((27 : Int32) &&& 0x3f).toInt64.toUInt64).toInt64)))]))
  refine Gl.go (fun _ k => XS.bipush X1.here hx rfl (hb hby d2_30) k) ?_
  show Gl p.tables e below (QQof s (Q_um Z q1 h0 n0) 0 0) (T1.setTop (mkF m 32 #[.val (.long q1), .second, .val (.long ((un2 31 62 q1) * (invL (-7723592293110705685 : Int64)))), .second] [(.int (54 : Int32)), (.long ((un2 31 62 q1) * (invL (-7723592293110705685 : Int64)))), (.long (((un2 31 62 q1) * (invL (-7723592293110705685 : Int64))) ^^^ ((((un2 31 62 q1) * (invL (-7723592293110705685 : Int64))).toUInt64 >>> ((27 : Int32) &&& 0x3f).toInt64.toUInt64).toInt64)))]))
  refine Gl.go (fun _ k => XS.lushr X1.here hx rfl (hb hby d2_32) rfl k) ?_
  show Gl p.tables e below (QQof s (Q_um Z q1 h0 n0) 0 0) (T1.setTop (mkF m 33 #[.val (.long q1), .second, .val (.long ((un2 31 62 q1) * (invL (-7723592293110705685 : Int64)))), .second] [(.long ((((un2 31 62 q1) * (invL (-7723592293110705685 : Int64))).toUInt64 >>> ((54 : Int32) &&& 0x3f).toInt64.toUInt64).toInt64)), (.long (((un2 31 62 q1) * (invL (-7723592293110705685 : Int64))) ^^^ ((((un2 31 62 q1) * (invL (-7723592293110705685 : Int64))).toUInt64 >>> ((27 : Int32) &&& 0x3f).toInt64.toUInt64).toInt64)))]))
  refine Gl.go (fun _ k => XS.lxor X1.here hx rfl (hb hby d2_33) rfl k) ?_
  show Gl p.tables e below (QQof s (Q_um Z q1 h0 n0) 0 0) (T1.setTop (mkF m 34 #[.val (.long q1), .second, .val (.long ((un2 31 62 q1) * (invL (-7723592293110705685 : Int64)))), .second] [(.long ((((un2 31 62 q1) * (invL (-7723592293110705685 : Int64))) ^^^ ((((un2 31 62 q1) * (invL (-7723592293110705685 : Int64))).toUInt64 >>> ((27 : Int32) &&& 0x3f).toInt64.toUInt64).toInt64)) ^^^ ((((un2 31 62 q1) * (invL (-7723592293110705685 : Int64))).toUInt64 >>> ((54 : Int32) &&& 0x3f).toInt64.toUInt64).toInt64)))]))
  show Gl p.tables e below (QQof s (Q_um Z q1 h0 n0) 0 0) (T1.setTop (mkF m 34 #[.val (.long q1), .second, .val (.long ((un2 31 62 q1) * (invL (-7723592293110705685 : Int64)))), .second] [(.long (un2 27 54 ((un2 31 62 q1) * (invL (-7723592293110705685 : Int64)))))]))
  refine Gl.go (fun _ k => XS.lstoreN X1.here hx rfl (hb hby d2_34) rfl (l' := #[.val (.long q1), .second, .val (.long (un2 27 54 ((un2 31 62 q1) * (invL (-7723592293110705685 : Int64))))), .second]) rfl k) ?_
  show Gl p.tables e below (QQof s (Q_um Z q1 h0 n0) 0 0) (T1.setTop (mkF m 35 #[.val (.long q1), .second, .val (.long (un2 27 54 ((un2 31 62 q1) * (invL (-7723592293110705685 : Int64))))), .second] []))
  refine Gl.go (fun _ k => XS.lloadN X1.here hx rfl (hb hby d2_35) rfl  k) ?_
  show Gl p.tables e below (QQof s (Q_um Z q1 h0 n0) 0 0) (T1.setTop (mkF m 36 #[.val (.long q1), .second, .val (.long (un2 27 54 ((un2 31 62 q1) * (invL (-7723592293110705685 : Int64))))), .second] [(.long (un2 27 54 ((un2 31 62 q1) * (invL (-7723592293110705685 : Int64)))))]))
  refine Gl.go (fun _ k => X1.ldc2Long hx hown (mvT hZ (hw _ (List.mem_of_getElem? (i := 18) rfl))) (g := (mkF m 36 #[.val (.long q1), .second, .val (.long (un2 27 54 ((un2 31 62 q1) * (invL (-7723592293110705685 : Int64))))), .second] [(.long (un2 27 54 ((un2 31 62 q1) * (invL (-7723592293110705685 : Int64)))))])) rfl (hb hby d2_36) _ k) ?_
  show Gl p.tables e below (QQof s (Q_um Z q1 h0 n0) 0 0) (T1.setTop (mkF m 39 #[.val (.long q1), .second, .val (.long (un2 27 54 ((un2 31 62 q1) * (invL (-7723592293110705685 : Int64))))), .second] [(.long (-4658895280553007687 : Int64)), (.long (un2 27 54 ((un2 31 62 q1) * (invL (-7723592293110705685 : Int64)))))]))
  obtain ⟨_, _, ⟨T2, L2, k2, n2⟩, -, X2, ⟨Lc2, hQ2, l2, y2, z2⟩, st2⟩ := Jvm.LawKit.callS X1 hx (y := (⟨"com/example/cornice/cornice/core/GameRandomDerivePinLaw", "inverse", "(J)J"⟩ : MethodName)) hown (mvT hZ (hw _ (List.mem_of_getElem? (i := 14) rfl))) (mvT hZ (hw _ (List.mem_of_getElem? (i := 15) rfl))) (mvT hZ (hw _ (List.mem_of_getElem? (i := 11) rfl))) (mvT hZ (hw _ (List.mem_of_getElem? (i := 16) rfl))) (by decide) (backOf (W := 2) (rm_inv l Z a0 hw [] (-4658895280553007687 : Int64) h0 n0 Z0 ) hZ (hw _ (List.mem_of_getElem? (i := 16) rfl)) (hw _ (List.mem_of_getElem? (i := 11) rfl)) (by decide) (by decide)) (g := (mkF m 39 #[.val (.long q1), .second, .val (.long (un2 27 54 ((un2 31 62 q1) * (invL (-7723592293110705685 : Int64))))), .second] [(.long (-4658895280553007687 : Int64)), (.long (un2 27 54 ((un2 31 62 q1) * (invL (-7723592293110705685 : Int64)))))])) rfl (by rw [hml]; rfl) (argsL := [(.long (-4658895280553007687 : Int64))]) (rest := [(.long (un2 27 54 ((un2 31 62 q1) * (invL (-7723592293110705685 : Int64)))))]) (lenOf pd_0 rfl) rfl (by show 2 * 0 + _ ≤ _; exact Nat.le_of_eq rfl) (hb hby d2_39) (fun _ _ => ⟨rfl, e1, (by decide : 0 + 0 ≤ _), (by decide : 0 + 0 ≤ _)⟩)
  dsimp only [Pt.U, Pt.locs, Pt.cells, Pt.slots] at X2 l2 y2 z2 st2 hQ2
  subst l2 y2 z2
  obtain ⟨rfl, Nq2, e2⟩ := hQ2
  have N2 := Fr.app N1 Nq2
  refine Gl.go (fun _ k => st2 _ k) ?_
  show Gl p.tables e below (QQof s (Q_um Z q1 h0 n0) 0 0) (T2.setTop (mkF m 42 #[.val (.long q1), .second, .val (.long (un2 27 54 ((un2 31 62 q1) * (invL (-7723592293110705685 : Int64))))), .second] [(.long (invL (-4658895280553007687 : Int64))), (.long (un2 27 54 ((un2 31 62 q1) * (invL (-7723592293110705685 : Int64)))))]))
  refine Gl.go (fun _ k => XS.lmul X2.here hx rfl (hb hby d2_42) rfl k) ?_
  show Gl p.tables e below (QQof s (Q_um Z q1 h0 n0) 0 0) (T2.setTop (mkF m 43 #[.val (.long q1), .second, .val (.long (un2 27 54 ((un2 31 62 q1) * (invL (-7723592293110705685 : Int64))))), .second] [(.long ((un2 27 54 ((un2 31 62 q1) * (invL (-7723592293110705685 : Int64)))) * (invL (-4658895280553007687 : Int64))))]))
  refine Gl.go (fun _ k => XS.lstoreN X2.here hx rfl (hb hby d2_43) rfl (l' := #[.val (.long q1), .second, .val (.long ((un2 27 54 ((un2 31 62 q1) * (invL (-7723592293110705685 : Int64)))) * (invL (-4658895280553007687 : Int64)))), .second]) rfl k) ?_
  show Gl p.tables e below (QQof s (Q_um Z q1 h0 n0) 0 0) (T2.setTop (mkF m 44 #[.val (.long q1), .second, .val (.long ((un2 27 54 ((un2 31 62 q1) * (invL (-7723592293110705685 : Int64)))) * (invL (-4658895280553007687 : Int64)))), .second] []))
  refine Gl.go (fun _ k => XS.lloadN X2.here hx rfl (hb hby d2_44) rfl  k) ?_
  show Gl p.tables e below (QQof s (Q_um Z q1 h0 n0) 0 0) (T2.setTop (mkF m 45 #[.val (.long q1), .second, .val (.long ((un2 27 54 ((un2 31 62 q1) * (invL (-7723592293110705685 : Int64)))) * (invL (-4658895280553007687 : Int64)))), .second] [(.long ((un2 27 54 ((un2 31 62 q1) * (invL (-7723592293110705685 : Int64)))) * (invL (-4658895280553007687 : Int64))))]))
  refine Gl.go (fun _ k => XS.lloadN X2.here hx rfl (hb hby d2_45) rfl  k) ?_
  show Gl p.tables e below (QQof s (Q_um Z q1 h0 n0) 0 0) (T2.setTop (mkF m 46 #[.val (.long q1), .second, .val (.long ((un2 27 54 ((un2 31 62 q1) * (invL (-7723592293110705685 : Int64)))) * (invL (-4658895280553007687 : Int64)))), .second] [(.long ((un2 27 54 ((un2 31 62 q1) * (invL (-7723592293110705685 : Int64)))) * (invL (-4658895280553007687 : Int64)))), (.long ((un2 27 54 ((un2 31 62 q1) * (invL (-7723592293110705685 : Int64)))) * (invL (-4658895280553007687 : Int64))))]))
  refine Gl.go (fun _ k => XS.bipush X2.here hx rfl (hb hby d2_46) k) ?_
  show Gl p.tables e below (QQof s (Q_um Z q1 h0 n0) 0 0) (T2.setTop (mkF m 48 #[.val (.long q1), .second, .val (.long ((un2 27 54 ((un2 31 62 q1) * (invL (-7723592293110705685 : Int64)))) * (invL (-4658895280553007687 : Int64)))), .second] [(.int (30 : Int32)), (.long ((un2 27 54 ((un2 31 62 q1) * (invL (-7723592293110705685 : Int64)))) * (invL (-4658895280553007687 : Int64)))), (.long ((un2 27 54 ((un2 31 62 q1) * (invL (-7723592293110705685 : Int64)))) * (invL (-4658895280553007687 : Int64))))]))
  refine Gl.go (fun _ k => XS.lushr X2.here hx rfl (hb hby d2_48) rfl k) ?_
  show Gl p.tables e below (QQof s (Q_um Z q1 h0 n0) 0 0) (T2.setTop (mkF m 49 #[.val (.long q1), .second, .val (.long ((un2 27 54 ((un2 31 62 q1) * (invL (-7723592293110705685 : Int64)))) * (invL (-4658895280553007687 : Int64)))), .second] [(.long ((((un2 27 54 ((un2 31 62 q1) * (invL (-7723592293110705685 : Int64)))) * (invL (-4658895280553007687 : Int64))).toUInt64 >>> ((30 : Int32) &&& 0x3f).toInt64.toUInt64).toInt64)), (.long ((un2 27 54 ((un2 31 62 q1) * (invL (-7723592293110705685 : Int64)))) * (invL (-4658895280553007687 : Int64))))]))
  refine Gl.go (fun _ k => XS.lxor X2.here hx rfl (hb hby d2_49) rfl k) ?_
  show Gl p.tables e below (QQof s (Q_um Z q1 h0 n0) 0 0) (T2.setTop (mkF m 50 #[.val (.long q1), .second, .val (.long ((un2 27 54 ((un2 31 62 q1) * (invL (-7723592293110705685 : Int64)))) * (invL (-4658895280553007687 : Int64)))), .second] [(.long (((un2 27 54 ((un2 31 62 q1) * (invL (-7723592293110705685 : Int64)))) * (invL (-4658895280553007687 : Int64))) ^^^ ((((un2 27 54 ((un2 31 62 q1) * (invL (-7723592293110705685 : Int64)))) * (invL (-4658895280553007687 : Int64))).toUInt64 >>> ((30 : Int32) &&& 0x3f).toInt64.toUInt64).toInt64)))]))
  refine Gl.go (fun _ k => XS.lloadN X2.here hx rfl (hb hby d2_50) rfl  k) ?_
  show Gl p.tables e below (QQof s (Q_um Z q1 h0 n0) 0 0) (T2.setTop (mkF m 51 #[.val (.long q1), .second, .val (.long ((un2 27 54 ((un2 31 62 q1) * (invL (-7723592293110705685 : Int64)))) * (invL (-4658895280553007687 : Int64)))), .second] [(.long ((un2 27 54 ((un2 31 62 q1) * (invL (-7723592293110705685 : Int64)))) * (invL (-4658895280553007687 : Int64)))), (.long (((un2 27 54 ((un2 31 62 q1) * (invL (-7723592293110705685 : Int64)))) * (invL (-4658895280553007687 : Int64))) ^^^ ((((un2 27 54 ((un2 31 62 q1) * (invL (-7723592293110705685 : Int64)))) * (invL (-4658895280553007687 : Int64))).toUInt64 >>> ((30 : Int32) &&& 0x3f).toInt64.toUInt64).toInt64)))]))
  refine Gl.go (fun _ k => XS.bipush X2.here hx rfl (hb hby d2_51) k) ?_
  show Gl p.tables e below (QQof s (Q_um Z q1 h0 n0) 0 0) (T2.setTop (mkF m 53 #[.val (.long q1), .second, .val (.long ((un2 27 54 ((un2 31 62 q1) * (invL (-7723592293110705685 : Int64)))) * (invL (-4658895280553007687 : Int64)))), .second] [(.int (60 : Int32)), (.long ((un2 27 54 ((un2 31 62 q1) * (invL (-7723592293110705685 : Int64)))) * (invL (-4658895280553007687 : Int64)))), (.long (((un2 27 54 ((un2 31 62 q1) * (invL (-7723592293110705685 : Int64)))) * (invL (-4658895280553007687 : Int64))) ^^^ ((((un2 27 54 ((un2 31 62 q1) * (invL (-7723592293110705685 : Int64)))) * (invL (-4658895280553007687 : Int64))).toUInt64 >>> ((30 : Int32) &&& 0x3f).toInt64.toUInt64).toInt64)))]))
  refine Gl.go (fun _ k => XS.lushr X2.here hx rfl (hb hby d2_53) rfl k) ?_
  show Gl p.tables e below (QQof s (Q_um Z q1 h0 n0) 0 0) (T2.setTop (mkF m 54 #[.val (.long q1), .second, .val (.long ((un2 27 54 ((un2 31 62 q1) * (invL (-7723592293110705685 : Int64)))) * (invL (-4658895280553007687 : Int64)))), .second] [(.long ((((un2 27 54 ((un2 31 62 q1) * (invL (-7723592293110705685 : Int64)))) * (invL (-4658895280553007687 : Int64))).toUInt64 >>> ((60 : Int32) &&& 0x3f).toInt64.toUInt64).toInt64)), (.long (((un2 27 54 ((un2 31 62 q1) * (invL (-7723592293110705685 : Int64)))) * (invL (-4658895280553007687 : Int64))) ^^^ ((((un2 27 54 ((un2 31 62 q1) * (invL (-7723592293110705685 : Int64)))) * (invL (-4658895280553007687 : Int64))).toUInt64 >>> ((30 : Int32) &&& 0x3f).toInt64.toUInt64).toInt64)))]))
  refine Gl.go (fun _ k => XS.lxor X2.here hx rfl (hb hby d2_54) rfl k) ?_
  show Gl p.tables e below (QQof s (Q_um Z q1 h0 n0) 0 0) (T2.setTop (mkF m 55 #[.val (.long q1), .second, .val (.long ((un2 27 54 ((un2 31 62 q1) * (invL (-7723592293110705685 : Int64)))) * (invL (-4658895280553007687 : Int64)))), .second] [(.long ((((un2 27 54 ((un2 31 62 q1) * (invL (-7723592293110705685 : Int64)))) * (invL (-4658895280553007687 : Int64))) ^^^ ((((un2 27 54 ((un2 31 62 q1) * (invL (-7723592293110705685 : Int64)))) * (invL (-4658895280553007687 : Int64))).toUInt64 >>> ((30 : Int32) &&& 0x3f).toInt64.toUInt64).toInt64)) ^^^ ((((un2 27 54 ((un2 31 62 q1) * (invL (-7723592293110705685 : Int64)))) * (invL (-4658895280553007687 : Int64))).toUInt64 >>> ((60 : Int32) &&& 0x3f).toInt64.toUInt64).toInt64)))]))
  show Gl p.tables e below (QQof s (Q_um Z q1 h0 n0) 0 0) (T2.setTop (mkF m 55 #[.val (.long q1), .second, .val (.long ((un2 27 54 ((un2 31 62 q1) * (invL (-7723592293110705685 : Int64)))) * (invL (-4658895280553007687 : Int64)))), .second] [(.long (un2 30 60 ((un2 27 54 ((un2 31 62 q1) * (invL (-7723592293110705685 : Int64)))) * (invL (-4658895280553007687 : Int64)))))]))
  refine Gl.go (fun _ k => XS.lstoreN X2.here hx rfl (hb hby d2_55) rfl (l' := #[.val (.long q1), .second, .val (.long (un2 30 60 ((un2 27 54 ((un2 31 62 q1) * (invL (-7723592293110705685 : Int64)))) * (invL (-4658895280553007687 : Int64))))), .second]) rfl k) ?_
  show Gl p.tables e below (QQof s (Q_um Z q1 h0 n0) 0 0) (T2.setTop (mkF m 56 #[.val (.long q1), .second, .val (.long (un2 30 60 ((un2 27 54 ((un2 31 62 q1) * (invL (-7723592293110705685 : Int64)))) * (invL (-4658895280553007687 : Int64))))), .second] []))
  refine Gl.go (fun _ k => XS.lloadN X2.here hx rfl (hb hby d2_56) rfl  k) ?_
  show Gl p.tables e below (QQof s (Q_um Z q1 h0 n0) 0 0) (T2.setTop (mkF m 57 #[.val (.long q1), .second, .val (.long (un2 30 60 ((un2 27 54 ((un2 31 62 q1) * (invL (-7723592293110705685 : Int64)))) * (invL (-4658895280553007687 : Int64))))), .second] [(.long (un2 30 60 ((un2 27 54 ((un2 31 62 q1) * (invL (-7723592293110705685 : Int64)))) * (invL (-4658895280553007687 : Int64)))))]))
  refine leafL X2 hx hlk Bd.returns (hb hby d2_57) ?_ (by decide) (by decide)
  exact ⟨rfl, N2, e2⟩
def Q_law (Z : State) (a : Int64) (b : Int64) (h0 : Heap) (n0 : Nat) (v : Option Value) (h : Heap) (L : List Loc) : Prop := v = some (.int 1) ∧ Fr n0 L
set_option maxRecDepth 65536 in
set_option maxHeartbeats 40000000 in
theorem rm_law (l : Launch) (Z : State) (a0 : Array Value) (hw : ∀ d ∈ tables_1, d.before a0 Z = true) (ws : List Jvm.Cond) (a : Int64) (b : Int64) (h0 : Heap) (n0 : Nat) (Z0 : n0 ≤ h0.size)  :
    MetFree l x (head1 (Jvm.Cond.code x code maxLocals ret :: ws) room_1) (fun aa U => aa = #[(.long a), (.long b)] ∧ Z.Warmed39 U.vm ∧ U.heap = h0) (fun _ _ _ _ _ => True) (fun _ U o U' => ∃ v L, o = .returned v ∧ Q_law Z a b h0 n0 v U'.heap L ∧ FrameEnd U o U' L 0 0) := by
  refine MetFree.of_bodySF (plainFor_of_name pn_0) hisR ?_
  intro p e s m args below meth c s₁ Bd hml0 hP hK
  obtain ⟨rfl, hZ, hh⟩ := hP
  have hx := Bd.exec
  have hby := Bd.bytes
  have hml : c.maxLocals = 8 := hml0
  have hown : s.vm.findClass "com/example/cornice/cornice/core/GameRandomDerivePinLaw" = some m.cls := findClass_of_methodNamed Bd.named
  have hnm := (name_of_methodNamed Bd.named Bd.method).1
  have hlk : meth.locks = false := BodyLoose.notSynchronized Bd
  have X0 : Stand p l e room_1 s m #[(.long a), (.long b)] below meth c s₁ [] 0 0 := Stand.of_body Bd
  have e0 : s₁.heap = h0 := by rw [← hh, Bd.state]; rfl
  have N0 := Fr.nil n0
  have K0 : Keep h0 h0 [] := Keep.refl _ _
  show Gl p.tables e below (QQof s (Q_law Z a b h0 n0) 0 0) (s₁.setTop (entryFrame m #[(.long a), (.long b)] maxLocals))
  refine Gl.go (fun t k => castTop (ef_law m a b) k) ?_
  show Gl p.tables e below (QQof s (Q_law Z a b h0 n0) 0 0) (s₁.setTop (mkF m 0 #[.val (.long a), .second, .val (.long b), .second, .unset, .unset, .unset, .unset] []))
  refine Gl.go (fun _ k => XS.lloadN X0.here hx rfl (hb hby at_0) rfl  k) ?_
  show Gl p.tables e below (QQof s (Q_law Z a b h0 n0) 0 0) (s₁.setTop (mkF m 1 #[.val (.long a), .second, .val (.long b), .second, .unset, .unset, .unset, .unset] [(.long a)]))
  refine Gl.go (fun _ k => XS.lloadN X0.here hx rfl (hb hby at_1) rfl  k) ?_
  show Gl p.tables e below (QQof s (Q_law Z a b h0 n0) 0 0) (s₁.setTop (mkF m 2 #[.val (.long a), .second, .val (.long b), .second, .unset, .unset, .unset, .unset] [(.long b), (.long a)]))
  obtain ⟨_, _, ⟨T1, L1, k1, n1⟩, -, X1, ⟨Lc1, hQ1, l1, y1, z1⟩, st1⟩ := Jvm.LawKit.callS X0 hx (y := (⟨"com/example/cornice/cornice/core/GameRandom", "derive", "(JJ)J"⟩ : MethodName)) hown (mvT hZ (hw _ (List.mem_of_getElem? (i := 0) rfl))) (mvT hZ (hw _ (List.mem_of_getElem? (i := 1) rfl))) (mvT hZ (hw _ (List.mem_of_getElem? (i := 2) rfl))) (mvT hZ (hw _ (List.mem_of_getElem? (i := 3) rfl))) (by decide) (backOf (W := 0) (rm_der l Z a0 hw [] a b h0 n0 Z0 ) hZ (hw _ (List.mem_of_getElem? (i := 3) rfl)) (hw _ (List.mem_of_getElem? (i := 2) rfl)) (by decide) (by decide)) (g := (mkF m 2 #[.val (.long a), .second, .val (.long b), .second, .unset, .unset, .unset, .unset] [(.long b), (.long a)])) rfl (by rw [hml]; rfl) (argsL := [(.long a), (.long b)]) (rest := []) (lenOf pd_1 rfl) rfl (by show 2 * 0 + _ ≤ _; exact Nat.le_of_eq rfl) (hb hby at_2) (fun _ _ => ⟨rfl, e0, (by decide : 0 + 0 ≤ _), (by decide : 0 + 0 ≤ _)⟩)
  dsimp only [Pt.U, Pt.locs, Pt.cells, Pt.slots] at X1 l1 y1 z1 st1 hQ1
  subst l1 y1 z1
  obtain ⟨rfl, Nq1, e1⟩ := hQ1
  have N1 := Fr.app N0 Nq1
  refine Gl.go (fun _ k => st1 _ k) ?_
  show Gl p.tables e below (QQof s (Q_law Z a b h0 n0) 0 0) (T1.setTop (mkF m 5 #[.val (.long a), .second, .val (.long b), .second, .unset, .unset, .unset, .unset] [(.long (derL a b))]))
  refine Gl.go (fun _ k => XS.lstore X1.here hx rfl (hb hby at_5) rfl (l' := #[.val (.long a), .second, .val (.long b), .second, .val (.long (derL a b)), .second, .unset, .unset]) rfl k) ?_
  show Gl p.tables e below (QQof s (Q_law Z a b h0 n0) 0 0) (T1.setTop (mkF m 7 #[.val (.long a), .second, .val (.long b), .second, .val (.long (derL a b)), .second, .unset, .unset] []))
  refine Gl.go (fun _ k => XS.lloadN X1.here hx rfl (hb hby at_7) rfl  k) ?_
  show Gl p.tables e below (QQof s (Q_law Z a b h0 n0) 0 0) (T1.setTop (mkF m 8 #[.val (.long a), .second, .val (.long b), .second, .val (.long (derL a b)), .second, .unset, .unset] [(.long a)]))
  refine Gl.go (fun _ k => XS.lloadN X1.here hx rfl (hb hby at_8) rfl  k) ?_
  show Gl p.tables e below (QQof s (Q_law Z a b h0 n0) 0 0) (T1.setTop (mkF m 9 #[.val (.long a), .second, .val (.long b), .second, .val (.long (derL a b)), .second, .unset, .unset] [(.long b), (.long a)]))
  refine Gl.go (fun _ k => XS.lconst X1.here hx rfl (hb hby at_9) k) ?_
  show Gl p.tables e below (QQof s (Q_law Z a b h0 n0) 0 0) (T1.setTop (mkF m 10 #[.val (.long a), .second, .val (.long b), .second, .val (.long (derL a b)), .second, .unset, .unset] [(.long (1 : Int64)), (.long b), (.long a)]))
  refine Gl.go (fun _ k => XS.ladd X1.here hx rfl (hb hby at_10) rfl k) ?_
  show Gl p.tables e below (QQof s (Q_law Z a b h0 n0) 0 0) (T1.setTop (mkF m 11 #[.val (.long a), .second, .val (.long b), .second, .val (.long (derL a b)), .second, .unset, .unset] [(.long (b + (1 : Int64))), (.long a)]))
  refine Gl.go (fun _ k => X1.ldc2Long hx hown (mvT hZ (hw _ (List.mem_of_getElem? (i := 8) rfl))) (g := (mkF m 11 #[.val (.long a), .second, .val (.long b), .second, .val (.long (derL a b)), .second, .unset, .unset] [(.long (b + (1 : Int64))), (.long a)])) rfl (hb hby at_11) _ k) ?_
  show Gl p.tables e below (QQof s (Q_law Z a b h0 n0) 0 0) (T1.setTop (mkF m 14 #[.val (.long a), .second, .val (.long b), .second, .val (.long (derL a b)), .second, .unset, .unset] [(.long (-7046029254386353131 : Int64)), (.long (b + (1 : Int64))), (.long a)]))
  refine Gl.go (fun _ k => XS.lmul X1.here hx rfl (hb hby at_14) rfl k) ?_
  show Gl p.tables e below (QQof s (Q_law Z a b h0 n0) 0 0) (T1.setTop (mkF m 15 #[.val (.long a), .second, .val (.long b), .second, .val (.long (derL a b)), .second, .unset, .unset] [(.long ((b + (1 : Int64)) * (-7046029254386353131 : Int64))), (.long a)]))
  refine Gl.go (fun _ k => XS.ladd X1.here hx rfl (hb hby at_15) rfl k) ?_
  show Gl p.tables e below (QQof s (Q_law Z a b h0 n0) 0 0) (T1.setTop (mkF m 16 #[.val (.long a), .second, .val (.long b), .second, .val (.long (derL a b)), .second, .unset, .unset] [(.long (a + ((b + (1 : Int64)) * (-7046029254386353131 : Int64))))]))
  show Gl p.tables e below (QQof s (Q_law Z a b h0 n0) 0 0) (T1.setTop (mkF m 16 #[.val (.long a), .second, .val (.long b), .second, .val (.long (derL a b)), .second, .unset, .unset] [(.long (baseL a b))]))
  refine Gl.go (fun _ k => XS.lstore X1.here hx rfl (hb hby at_16) rfl (l' := #[.val (.long a), .second, .val (.long b), .second, .val (.long (derL a b)), .second, .val (.long (baseL a b)), .second]) rfl k) ?_
  show Gl p.tables e below (QQof s (Q_law Z a b h0 n0) 0 0) (T1.setTop (mkF m 18 #[.val (.long a), .second, .val (.long b), .second, .val (.long (derL a b)), .second, .val (.long (baseL a b)), .second] []))
  refine Gl.go (fun _ k => XS.lload X1.here hx rfl (hb hby at_18) rfl  k) ?_
  show Gl p.tables e below (QQof s (Q_law Z a b h0 n0) 0 0) (T1.setTop (mkF m 20 #[.val (.long a), .second, .val (.long b), .second, .val (.long (derL a b)), .second, .val (.long (baseL a b)), .second] [(.long (derL a b))]))
  refine Gl.go (fun _ k => XS.lconst X1.here hx rfl (hb hby at_20) k) ?_
  show Gl p.tables e below (QQof s (Q_law Z a b h0 n0) 0 0) (T1.setTop (mkF m 21 #[.val (.long a), .second, .val (.long b), .second, .val (.long (derL a b)), .second, .val (.long (baseL a b)), .second] [(.long (0 : Int64)), (.long (derL a b))]))
  refine Gl.go (fun _ k => XS.lcmp X1.here hx rfl (hb hby at_21) rfl k) ?_
  show Gl p.tables e below (QQof s (Q_law Z a b h0 n0) 0 0) (T1.setTop (mkF m 22 #[.val (.long a), .second, .val (.long b), .second, .val (.long (derL a b)), .second, .val (.long (baseL a b)), .second] [(.int (lcmpW (derL a b) (0 : Int64)))]))
  refine Gl.go (fun _ k => XS.ifYes X1.here hx rfl (pc0 := 22) (pc' := 27) rfl (hb hby at_22) rfl ((if0 _ _).trans (flt (by rw [lcW, lc_lt]; exact own_nonneg _)).2.1) (by decide) (by decide) k) ?_
  show Gl p.tables e below (QQof s (Q_law Z a b h0 n0) 0 0) (T1.setTop (mkF m 27 #[.val (.long a), .second, .val (.long b), .second, .val (.long (derL a b)), .second, .val (.long (baseL a b)), .second] []))
  refine Gl.go (fun _ k => XS.lload X1.here hx rfl (hb hby at_27) rfl  k) ?_
  show Gl p.tables e below (QQof s (Q_law Z a b h0 n0) 0 0) (T1.setTop (mkF m 29 #[.val (.long a), .second, .val (.long b), .second, .val (.long (derL a b)), .second, .val (.long (baseL a b)), .second] [(.long (derL a b))]))
  obtain ⟨_, _, ⟨T2, L2, k2, n2⟩, -, X2, ⟨Lc2, hQ2, l2, y2, z2⟩, st2⟩ := Jvm.LawKit.callS X1 hx (y := (⟨"com/example/cornice/cornice/core/GameRandomDerivePinLaw", "unmix", "(J)J"⟩ : MethodName)) hown (mvT hZ (hw _ (List.mem_of_getElem? (i := 9) rfl))) (mvT hZ (hw _ (List.mem_of_getElem? (i := 10) rfl))) (mvT hZ (hw _ (List.mem_of_getElem? (i := 11) rfl))) (mvT hZ (hw _ (List.mem_of_getElem? (i := 12) rfl))) (by decide) (backOf (W := 0) (rm_um l Z a0 hw [] (derL a b) h0 n0 Z0 ) hZ (hw _ (List.mem_of_getElem? (i := 12) rfl)) (hw _ (List.mem_of_getElem? (i := 11) rfl)) (by decide) (by decide)) (g := (mkF m 29 #[.val (.long a), .second, .val (.long b), .second, .val (.long (derL a b)), .second, .val (.long (baseL a b)), .second] [(.long (derL a b))])) rfl (by rw [hml]; rfl) (argsL := [(.long (derL a b))]) (rest := []) (lenOf pd_0 rfl) rfl (by show 2 * 0 + _ ≤ _; exact Nat.le_of_eq rfl) (hb hby at_29) (fun _ _ => ⟨rfl, e1, (by decide : 0 + 0 ≤ _), (by decide : 0 + 0 ≤ _)⟩)
  dsimp only [Pt.U, Pt.locs, Pt.cells, Pt.slots] at X2 l2 y2 z2 st2 hQ2
  subst l2 y2 z2
  obtain ⟨rfl, Nq2, e2⟩ := hQ2
  have N2 := Fr.app N1 Nq2
  refine Gl.go (fun _ k => st2 _ k) ?_
  show Gl p.tables e below (QQof s (Q_law Z a b h0 n0) 0 0) (T2.setTop (mkF m 32 #[.val (.long a), .second, .val (.long b), .second, .val (.long (derL a b)), .second, .val (.long (baseL a b)), .second] [(.long (unmixL (derL a b)))]))
  refine Gl.go (fun _ k => XS.lload X2.here hx rfl (hb hby at_32) rfl  k) ?_
  show Gl p.tables e below (QQof s (Q_law Z a b h0 n0) 0 0) (T2.setTop (mkF m 34 #[.val (.long a), .second, .val (.long b), .second, .val (.long (derL a b)), .second, .val (.long (baseL a b)), .second] [(.long (baseL a b)), (.long (unmixL (derL a b)))]))
  refine Gl.go (fun _ k => XS.lcmp X2.here hx rfl (hb hby at_34) rfl k) ?_
  show Gl p.tables e below (QQof s (Q_law Z a b h0 n0) 0 0) (T2.setTop (mkF m 35 #[.val (.long a), .second, .val (.long b), .second, .val (.long (derL a b)), .second, .val (.long (baseL a b)), .second] [(.int (lcmpW (unmixL (derL a b)) (baseL a b)))]))
  by_cases h35 : (lcmpW (unmixL (derL a b)) (baseL a b)) = (0 : Int32)
  · skip
    refine Gl.go (fun _ k => XS.ifYes X2.here hx rfl (pc0 := 35) (pc' := 53) rfl (hb hby at_35) rfl ((if0 _ _).trans (teq h35).1) (by decide) (by decide) k) ?_
    show Gl p.tables e below (QQof s (Q_law Z a b h0 n0) 0 0) (T2.setTop (mkF m 53 #[.val (.long a), .second, .val (.long b), .second, .val (.long (derL a b)), .second, .val (.long (baseL a b)), .second] []))
    refine Gl.go (fun _ k => XS.iconst X2.here hx rfl (hb hby at_53) k) ?_
    show Gl p.tables e below (QQof s (Q_law Z a b h0 n0) 0 0) (T2.setTop (mkF m 54 #[.val (.long a), .second, .val (.long b), .second, .val (.long (derL a b)), .second, .val (.long (baseL a b)), .second] [(.int (1 : Int32))]))
    refine Gl.go (fun _ k => XS.goto X2.here hx rfl (pc0 := 54) (pc' := 58) rfl (hb hby at_54) (by decide) (by decide) k) ?_
    show Gl p.tables e below (QQof s (Q_law Z a b h0 n0) 0 0) (T2.setTop (mkF m 58 #[.val (.long a), .second, .val (.long b), .second, .val (.long (derL a b)), .second, .val (.long (baseL a b)), .second] [(.int (1 : Int32))]))
    refine leafN X2 hx hlk (t := .boolean) Bd.returns (by simp) (hb hby at_58) ?_ (by decide) (by decide)
    exact ⟨rfl, N2⟩
  · skip
    refine Gl.go (fun _ k => XS.ifNo X2.here hx rfl (hb hby at_35) rfl ((if0 _ _).trans (feq h35).1) k) ?_
    show Gl p.tables e below (QQof s (Q_law Z a b h0 n0) 0 0) (T2.setTop (mkF m 38 #[.val (.long a), .second, .val (.long b), .second, .val (.long (derL a b)), .second, .val (.long (baseL a b)), .second] []))
    refine Gl.go (fun _ k => XS.lload X2.here hx rfl (hb hby at_38) rfl  k) ?_
    show Gl p.tables e below (QQof s (Q_law Z a b h0 n0) 0 0) (T2.setTop (mkF m 40 #[.val (.long a), .second, .val (.long b), .second, .val (.long (derL a b)), .second, .val (.long (baseL a b)), .second] [(.long (derL a b))]))
    refine Gl.go (fun _ k => X2.ldc2Long hx hown (mvT hZ (hw _ (List.mem_of_getElem? (i := 19) rfl))) (g := (mkF m 40 #[.val (.long a), .second, .val (.long b), .second, .val (.long (derL a b)), .second, .val (.long (baseL a b)), .second] [(.long (derL a b))])) rfl (hb hby at_40) _ k) ?_
    show Gl p.tables e below (QQof s (Q_law Z a b h0 n0) 0 0) (T2.setTop (mkF m 43 #[.val (.long a), .second, .val (.long b), .second, .val (.long (derL a b)), .second, .val (.long (baseL a b)), .second] [(.long (-9223372036854775808 : Int64)), (.long (derL a b))]))
    refine Gl.go (fun _ k => XS.lor X2.here hx rfl (hb hby at_43) rfl k) ?_
    show Gl p.tables e below (QQof s (Q_law Z a b h0 n0) 0 0) (T2.setTop (mkF m 44 #[.val (.long a), .second, .val (.long b), .second, .val (.long (derL a b)), .second, .val (.long (baseL a b)), .second] [(.long ((derL a b) ||| (-9223372036854775808 : Int64)))]))
    obtain ⟨_, _, ⟨T3, L3, k3, n3⟩, -, X3, ⟨Lc3, hQ3, l3, y3, z3⟩, st3⟩ := Jvm.LawKit.callS X2 hx (y := (⟨"com/example/cornice/cornice/core/GameRandomDerivePinLaw", "unmix", "(J)J"⟩ : MethodName)) hown (mvT hZ (hw _ (List.mem_of_getElem? (i := 9) rfl))) (mvT hZ (hw _ (List.mem_of_getElem? (i := 10) rfl))) (mvT hZ (hw _ (List.mem_of_getElem? (i := 11) rfl))) (mvT hZ (hw _ (List.mem_of_getElem? (i := 12) rfl))) (by decide) (backOf (W := 0) (rm_um l Z a0 hw [] ((derL a b) ||| (-9223372036854775808 : Int64)) h0 n0 Z0 ) hZ (hw _ (List.mem_of_getElem? (i := 12) rfl)) (hw _ (List.mem_of_getElem? (i := 11) rfl)) (by decide) (by decide)) (g := (mkF m 44 #[.val (.long a), .second, .val (.long b), .second, .val (.long (derL a b)), .second, .val (.long (baseL a b)), .second] [(.long ((derL a b) ||| (-9223372036854775808 : Int64)))])) rfl (by rw [hml]; rfl) (argsL := [(.long ((derL a b) ||| (-9223372036854775808 : Int64)))]) (rest := []) (lenOf pd_0 rfl) rfl (by show 2 * 0 + _ ≤ _; exact Nat.le_of_eq rfl) (hb hby at_44) (fun _ _ => ⟨rfl, e2, (by decide : 0 + 0 ≤ _), (by decide : 0 + 0 ≤ _)⟩)
    dsimp only [Pt.U, Pt.locs, Pt.cells, Pt.slots] at X3 l3 y3 z3 st3 hQ3
    subst l3 y3 z3
    obtain ⟨rfl, Nq3, e3⟩ := hQ3
    have N3 := Fr.app N2 Nq3
    refine Gl.go (fun _ k => st3 _ k) ?_
    show Gl p.tables e below (QQof s (Q_law Z a b h0 n0) 0 0) (T3.setTop (mkF m 47 #[.val (.long a), .second, .val (.long b), .second, .val (.long (derL a b)), .second, .val (.long (baseL a b)), .second] [(.long (unmixL ((derL a b) ||| (-9223372036854775808 : Int64))))]))
    refine Gl.go (fun _ k => XS.lload X3.here hx rfl (hb hby at_47) rfl  k) ?_
    show Gl p.tables e below (QQof s (Q_law Z a b h0 n0) 0 0) (T3.setTop (mkF m 49 #[.val (.long a), .second, .val (.long b), .second, .val (.long (derL a b)), .second, .val (.long (baseL a b)), .second] [(.long (baseL a b)), (.long (unmixL ((derL a b) ||| (-9223372036854775808 : Int64))))]))
    refine Gl.go (fun _ k => XS.lcmp X3.here hx rfl (hb hby at_49) rfl k) ?_
    show Gl p.tables e below (QQof s (Q_law Z a b h0 n0) 0 0) (T3.setTop (mkF m 50 #[.val (.long a), .second, .val (.long b), .second, .val (.long (derL a b)), .second, .val (.long (baseL a b)), .second] [(.int (lcmpW (unmixL ((derL a b) ||| (-9223372036854775808 : Int64))) (baseL a b)))]))
    refine Gl.go (fun _ k => XS.ifNo X3.here hx rfl (hb hby at_50) rfl ((if0 _ _).trans (teq (by rw [lcW, lc_eq]; rw [lcW, lc_eq] at h35; exact (own_law a b).resolve_left h35)).2) k) ?_
    show Gl p.tables e below (QQof s (Q_law Z a b h0 n0) 0 0) (T3.setTop (mkF m 53 #[.val (.long a), .second, .val (.long b), .second, .val (.long (derL a b)), .second, .val (.long (baseL a b)), .second] []))
    refine Gl.go (fun _ k => XS.iconst X3.here hx rfl (hb hby at_53) k) ?_
    show Gl p.tables e below (QQof s (Q_law Z a b h0 n0) 0 0) (T3.setTop (mkF m 54 #[.val (.long a), .second, .val (.long b), .second, .val (.long (derL a b)), .second, .val (.long (baseL a b)), .second] [(.int (1 : Int32))]))
    refine Gl.go (fun _ k => XS.goto X3.here hx rfl (pc0 := 54) (pc' := 58) rfl (hb hby at_54) (by decide) (by decide) k) ?_
    show Gl p.tables e below (QQof s (Q_law Z a b h0 n0) 0 0) (T3.setTop (mkF m 58 #[.val (.long a), .second, .val (.long b), .second, .val (.long (derL a b)), .second, .val (.long (baseL a b)), .second] [(.int (1 : Int32))]))
    refine leafN X3 hx hlk (t := .boolean) Bd.returns (by simp) (hb hby at_58) ?_ (by decide) (by decide)
    exact ⟨rfl, N3⟩
set_option maxRecDepth 65536 in
set_option maxHeartbeats 40000000 in
theorem comes_1 {Post : Tables → Env → Array Value → State → Outcome → State → Prop} (hpost : ∀ tb e args s v u, (limb_1_1.after args s (.returned v) u = true ∧ limb_1_2.after args s (.returned v) u = true ∧ True) → FrameEnd s (.returned v) u (Jvm.fieldLocs frame_1_writes args s ++ Jvm.arrayLocs frame_1_arrays args s ++ Jvm.staticLocs frame_1_statics s) 0 0 → Post tb e args s (.returned v) u) :
    ArmFor flags0 classFile x code maxLocals ret World_1 tables_1 room_1 Calls_1 rest_1 Pre_1 Post := by
  intro l hfl _ _ p e ha hc hk s m args below hf hA hF happ hP
  obtain ⟨hcalls, hrest, hpre⟩ := hP
  obtain ⟨-, -, -, hnamed, -, -, -, hat⟩ := (Spec.applies_iff hf).mp happ
  obtain ⟨hg, hn⟩ := and_e (Cond.before_iff.mp (show (Jvm.Cond.and given_1 narrow_1).before args s = true from hpre))
  obtain ⟨hcount, hg0⟩ := and_e hg
  obtain ⟨hk0, hg1⟩ := and_e hg0
  have hk1 := hg1
  obtain ⟨w0, w1, rfl⟩ : ∃ w0 w1 : Value, args = #[w0, w1] := by
    have hs : args.size = 2 := by simpa [Cond.value, given_1] using hcount
    obtain ⟨L⟩ := args
    match L, hs with
    | [w0, w1], _ => exact ⟨w0, w1, rfl⟩
  have hw := fun d (hd : d ∈ tables_1) => atoms_spec (ws := Jvm.Cond.code x code maxLocals ret :: tables_1) hat d (List.mem_cons_of_mem _ hd)
  have hfit : Fit s := fun {y c} hc i hi => by
    obtain ⟨ha, rfl⟩ := Array.getElem?_eq_some_iff.mp hc
    have q := List.all_eq_true.mp ((Array.all_eq_true_iff_forall_mem.mp hF) _ (Array.getElem_mem ha)) i (List.mem_range.mpr hi)
    simpa [Array.getElem?_eq_getElem hi] using q
  obtain ⟨i0, ei0⟩ := isL_v hk0
  obtain rfl : w0 = (.long i0) := Option.some.inj ei0
  obtain ⟨i1, ei1⟩ := isL_v hk1
  obtain rfl : w1 = (.long i1) := Option.some.inj ei1
  obtain ⟨n, o, h1, h2, h3, _, L, rfl, ⟨rfl, N⟩, hq⟩ := rm_law l s _ hw tables_1 i0 i1 s.heap s.heap.size (Nat.le_refl _)  p e ha hc hk s m _ below hf ((Spec.applies_iff_loose hf).mp happ).1 ⟨rfl, State.Warmed39.refl s, rfl⟩ trivial
  refine ⟨n, _, h1, h2, h3, hpost _ _ _ _ _ _ ⟨Cond.after_iff.mpr rfl, Cond.after_iff.mpr (eq_i res_at (Term.int_eval (1)) rfl), trivial⟩ ⟨hq.1, hq.2.1, (hq.2.2.sift fun y hy => Or.inr (N y hy)).mono (by decide) (by decide)⟩⟩
theorem main_1_1 : Claimed_1_1 := comes_1 fun _ _ _ _ _ _ h hF => ⟨h.1, hF⟩
theorem main_1_2 : Claimed_1_2 := comes_1 fun _ _ _ _ _ _ h hF => ⟨h.2.1, hF⟩
end Jvm.Pilot.@@N@@
namespace Jvm.Pilot.@@N@@
open Jvm Jvm.ClassFile Sem Op Lib Jvm.Free Jvm.Stand Jvm.Pilot.@@N@@.Jvm.D
/-! MADE BY PROGRAM (witnessworld.py) out of the Statement's table words and the real class files: 9 classes; the members and pool entries that the words name. The judged class is class 1, her method 3. -/
namespace start1
open Jvm.ClassFile
def u (s : String) : CpInfo := .utf8 (stringToUtf16 s)
/-- a pool by its gaps: so many unusable entries, then the entry; so many at the end -/
def gap : Nat → List CpInfo → List CpInfo
  | 0, r => r
  | n + 1, r => .unusable :: gap n r
def poolList (es : List (Nat × CpInfo)) (last : Nat) : List CpInfo := es.foldr (fun e r => gap e.1 (e.2 :: r)) (gap last [])
def pool (es : List (Nat × CpInfo)) (last : Nat) : Array CpInfo := ⟨poolList es last⟩
def fileOf (pool : Array CpInfo) (this : Nat) (attrs : Array Attribute := #[]) (ms : Array MethodInfo := #[]) (fl : Nat := 33) (sup : Nat := 0) (ifs : Array Nat := #[]) (fds : Array FieldInfo := #[]) : ClassFile where
  minorVersion := 0
  majorVersion := 65
  constantPool := pool
  accessFlags := fl
  thisClass := this
  superClass := sup
  interfaces := ifs
  fields := fds
  methods := ms
  attributes := attrs
def plain (name : String) (sup : Option ClassId) : Class where
  name := name
  kind := .ordinary
  loader := none
  accessFlags := 33
  super := sup
  interfaces := #[]
  cf := none
  fields := #[]
  methods := #[]
  instanceTypes := #[]
  staticTypes := #[]
  resolved := #[]
  callSites := []
  init := .initialized
  statics := none
  mirror := none

def pool0 : Array CpInfo := pool [(5, u "<init>"), (0, u "()V"), (1, .class_ 10), (1, u "java/lang/Object")] 113

def k0m0 : Method := { name := "<init>", desc := "()V", sig := { parameters := [], returnType := none }, accessFlags := 1, code := none }
/-- java/lang/Object -/
def k0 : Class := { plain "java/lang/Object" none with
  accessFlags := 33
  interfaces := #[]
  cf := some (fileOf pool0 8 #[] #[{ accessFlags := 1, nameIndex := 5, descriptorIndex := 6, attributes := #[] }] 33 0 #[] #[])
  fields := #[]
  methods := #[k0m0]
  instanceTypes := #[]
  staticTypes := #[]
  resolved := Array.replicate 124 none
  statics := none }

def pool1 : Array CpInfo := pool [(2, .class_ 4), (1, u "java/lang/Object"), (0, u "<init>"), (0, u "()V"), (0, .long 2), (1, .class_ 10), (0, u "com/example/cornice/cornice/core/GameRandomDerivePinLaw"), (0, .long 10723151780598845931), (1, .methodref 9 14), (0, .nameAndType 15 16), (0, u "inverse"), (0, u "(J)J"), (0, .long 13787848793156543929), (1, .methodref 20 21), (0, .class_ 22), (0, .nameAndType 23 24), (0, u "com/example/cornice/cornice/core/GameRandom"), (0, u "derive"), (0, u "(JJ)J"), (0, .long 11400714819323198485), (1, .methodref 9 28), (0, .nameAndType 29 16), (0, u "unmix"), (2, .long 9223372036854775808), (1, u "GAMMA"), (0, u "J"), (1, u "C1"), (0, u "C2"), (2, u "law"), (0, u "(JJ)Z")] 3

def k1m0 : Method := { name := "<init>", desc := "()V", sig := { parameters := [], returnType := none }, accessFlags := 2, code := none }
def k1c1 : Code := { maxStack := 8, maxLocals := 4, code := method_2_code, exceptionTable := #[], attributes := #[] }
def k1m1 : Method := { name := "inverse", desc := "(J)J", sig := { parameters := [.long], returnType := some .long }, accessFlags := 10, code := some k1c1 }
def k1c2 : Code := { maxStack := 5, maxLocals := 4, code := method_3_code, exceptionTable := #[], attributes := #[] }
def k1m2 : Method := { name := "unmix", desc := "(J)J", sig := { parameters := [.long], returnType := some .long }, accessFlags := 10, code := some k1c2 }
def k1c3 : Code := { maxStack := 6, maxLocals := 8, code := code, exceptionTable := #[], attributes := #[] }
def k1m3 : Method := { name := "law", desc := "(JJ)Z", sig := { parameters := [.long, .long], returnType := some .boolean }, accessFlags := 9, code := some k1c3 }
/-- com/example/cornice/cornice/core/GameRandomDerivePinLaw -/
def k1 : Class := { plain "com/example/cornice/cornice/core/GameRandomDerivePinLaw" (some 0) with
  accessFlags := 49
  interfaces := #[]
  cf := some (fileOf pool1 9 #[] #[{ accessFlags := 2, nameIndex := 5, descriptorIndex := 6, attributes := #[] }, { accessFlags := 10, nameIndex := 15, descriptorIndex := 16, attributes := #[] }, { accessFlags := 10, nameIndex := 29, descriptorIndex := 16, attributes := #[] }, { accessFlags := 9, nameIndex := 41, descriptorIndex := 42, attributes := #[] }] 49 2 #[] #[{ accessFlags := 26, nameIndex := 34, descriptorIndex := 35, attributes := #[] }, { accessFlags := 26, nameIndex := 37, descriptorIndex := 35, attributes := #[] }, { accessFlags := 26, nameIndex := 38, descriptorIndex := 35, attributes := #[] }])
  fields := #[{ name := "GAMMA", type := .long, accessFlags := 26, slot := 0, constantValue := 0 }, { name := "C1", type := .long, accessFlags := 26, slot := 1, constantValue := 0 }, { name := "C2", type := .long, accessFlags := 26, slot := 2, constantValue := 0 }]
  methods := #[k1m0, k1m1, k1m2, k1m3]
  instanceTypes := #[]
  staticTypes := #[.long, .long, .long]
  resolved := Array.replicate 46 none
  statics := none }

def pool2 : Array CpInfo := pool [(2, .class_ 4), (1, u "java/lang/Object"), (2, .class_ 8), (0, u "com/example/cornice/cornice/core/GameRandom"), (6, u "state"), (0, u "J"), (0, .long 11400714819323198485), (1, .long 13787848793156543929), (1, .long 10723151780598845931), (3, .long 9223372036854775807), (31, u "MULTIPLIER"), (1, u "ADDEND"), (0, u "STATE_BITS"), (3, u "derive"), (0, u "(JJ)J")] 22

def k2c0 : Code := { maxStack := 6, maxLocals := 6, code := prog_1_method_2_code, exceptionTable := #[], attributes := #[] }
def k2m0 : Method := { name := "derive", desc := "(JJ)J", sig := { parameters := [.long, .long], returnType := some .long }, accessFlags := 9, code := some k2c0 }
/-- com/example/cornice/cornice/core/GameRandom -/
def k2 : Class := { plain "com/example/cornice/cornice/core/GameRandom" (some 0) with
  accessFlags := 49
  interfaces := #[]
  cf := some (fileOf pool2 7 #[] #[{ accessFlags := 9, nameIndex := 64, descriptorIndex := 65, attributes := #[] }] 49 2 #[] #[{ accessFlags := 26, nameIndex := 57, descriptorIndex := 16, attributes := #[] }, { accessFlags := 26, nameIndex := 59, descriptorIndex := 16, attributes := #[] }, { accessFlags := 26, nameIndex := 60, descriptorIndex := 16, attributes := #[] }, { accessFlags := 2, nameIndex := 15, descriptorIndex := 16, attributes := #[] }])
  fields := #[{ name := "MULTIPLIER", type := .long, accessFlags := 26, slot := 0, constantValue := 0 }, { name := "ADDEND", type := .long, accessFlags := 26, slot := 1, constantValue := 0 }, { name := "STATE_BITS", type := .long, accessFlags := 26, slot := 2, constantValue := 0 }, { name := "state", type := .long, accessFlags := 2, slot := 0, constantValue := 0 }]
  methods := #[k2m0]
  instanceTypes := #[.long]
  staticTypes := #[.long, .long, .long]
  resolved := Array.replicate 88 none
  statics := none }

def pool3 : Array CpInfo := pool [(1, u "java/lang/Cloneable"), (0, .class_ 1), (0, u "java/lang/Object"), (0, .class_ 3)] 3

/-- java/lang/Cloneable -/
def k3 : Class := { plain "java/lang/Cloneable" (some 0) with
  accessFlags := 1537
  interfaces := #[]
  cf := some (fileOf pool3 2 #[] #[] 1537 4 #[] #[])
  fields := #[]
  methods := #[]
  instanceTypes := #[]
  staticTypes := #[]
  resolved := Array.replicate 8 none
  statics := none }

def pool4 : Array CpInfo := pool [(1, u "java/io/Serializable"), (0, .class_ 1), (0, u "java/lang/Object"), (0, .class_ 3)] 3

/-- java/io/Serializable -/
def k4 : Class := { plain "java/io/Serializable" (some 0) with
  accessFlags := 1537
  interfaces := #[]
  cf := some (fileOf pool4 2 #[] #[] 1537 4 #[] #[])
  fields := #[]
  methods := #[]
  instanceTypes := #[]
  staticTypes := #[]
  resolved := Array.replicate 8 none
  statics := none }

/-- the primitive byte -/
def k5 : Class := { plain "byte" none with kind := .primitive 'B', accessFlags := 0x411 }
/-- [B -/
def k6 : Class := { plain "[B" (some 0) with kind := .array 5 .byte, interfaces := #[3, 4], accessFlags := 1041 }

/-- the primitive int -/
def k7 : Class := { plain "int" none with kind := .primitive 'I', accessFlags := 0x411 }
/-- [I -/
def k8 : Class := { plain "[I" (some 0) with kind := .array 7 .int, interfaces := #[3, 4], accessFlags := 1041 }

def heap : Heap := #[]
def classes : Array Class := #[k0, k1, k2, k3, k4, k5, k6, k7, k8]
def interned : List (Array UInt16 × Addr) := []
def slotsUsed : Nat := 0
def theMethod : MethodId := ⟨1, 3⟩
def args0 : Array Value := #[.long 5, .long 7]
def aboutOver (below : List Frame) : State where
  vm := { classes := classes, interned := interned.toArray }
  heap := heap
  slotsUsed := slotsUsed
  threads := #[{ frames := .invoking theMethod args0 :: below }]
def below0 : List Frame := [.native { method := ⟨0, 0⟩, args := #[] }]
def about1 : State := aboutOver below0
def p0 : Program := .bare "" "" ""
def e0 : Env := launch0.env 0 0 0
theorem w_frames : about1.frames = Frame.invoking theMethod args0 :: below0 := rfl
set_option maxRecDepth 65536 in
theorem w_args : argsFit about1.vm theMethod args0 = true := by decide +kernel
set_option maxRecDepth 65536 in
theorem w_heap : heapFits about1 = true := by decide +kernel
set_option maxRecDepth 65536 in
theorem w_runnable : about1.curStatus? = some .runnable := by decide +kernel
set_option maxRecDepth 65536 in
theorem w_alone : about1.alone = true := by decide +kernel
set_option maxRecDepth 65536 in
theorem w_named : about1.methodNamed? x = some theMethod := by decide +kernel
set_option maxRecDepth 65536 in
theorem w_hears : about1.hears theMethod below0 = true := by decide +kernel
set_option maxRecDepth 65536 in
theorem w_ripe : about1.ripe theMethod args0 below0 = true := by decide +kernel
theorem w_running : about1.status = .running := rfl
set_option maxRecDepth 65536 in
theorem w_room : about1.hasRoom e0.platform room_1 = true :=
  launch0.hasRoom_least _ room_1 (by decide +kernel) (by decide +kernel) (by decide +kernel) (by decide +kernel) (by decide +kernel) (by decide +kernel)
theorem allAtoms_all (ts : List Jvm.Cond) (a : Array Jvm.Value) (st : Jvm.State) : (allAtoms ts).before a st = ts.all (fun c => c.before a st) := by
  induction ts with
  | nil => rfl
  | cons c t ih =>
    show (Jvm.Cond.and c (allAtoms t)).before a st = _
    rw [Jvm.Cond.before_and, ih, List.all_cons]
def words1 : List Jvm.Cond := Jvm.Cond.code x code maxLocals ret :: tables_1
/-- a 'code' word, met by the world's own term for the bytes: nothing is compared byte by byte -/
theorem code_word {y : MethodName} {bytes : ByteArray} {mx : Nat} {rt : Option FieldType} {a : Array Value} {s : State} {m : MethodId} {meth : Method} {c : Code} (h1 : s.methodNamed? y = some m) (h2 : s.vm.method? m = some meth) (h3 : meth.code = some c) (h4 : c.code = bytes)
    (h5 : (c.maxLocals == mx && c.exceptionTable.isEmpty && decide (c.maxStack ≤ mostOperands) && decide (meth.sig.returnType = rt) && !meth.locks && decide (parseMethodDescriptor y.desc = some meth.sig)) = true) : (Jvm.Cond.code y bytes mx rt).before a s = true := by
  simp only [Bool.and_eq_true, beq_iff_eq, Bool.not_eq_true', decide_eq_true_eq] at h5
  obtain ⟨⟨⟨⟨⟨g1, g2⟩, g3⟩, g4⟩, g5⟩, g6⟩ := h5
  simp [Cond.before, Cond.holds, Cond.value, h1, h2, h3, h4, g1, g2, g3, g4, g5, g6]
def isCode : Jvm.Cond → Bool
  | .code _ _ _ _ => true
  | _ => false
theorem all_split {L : List Jvm.Cond} {P : Jvm.Cond → Bool} (h1 : L.all (fun c => isCode c || P c) = true) (h2 : ∀ c ∈ L.filter isCode, P c = true) : L.all P = true := by
  refine List.all_eq_true.mpr fun c hc => ?_
  have h := List.all_eq_true.mp h1 c hc
  rcases Bool.eq_false_or_eq_true (isCode c) with hi | hi
  · exact h2 c (List.mem_filter.mpr ⟨hc, hi⟩)
  · simpa [hi] using h
set_option maxRecDepth 65536 in
theorem w_c0 : (Jvm.Cond.code x code maxLocals ret).before args0 about1 = true := code_word (m := ⟨1, 3⟩) (meth := k1m3) (c := k1c3) (by decide +kernel) rfl rfl rfl (by decide +kernel)
set_option maxRecDepth 65536 in
theorem w_c1 : (Jvm.Cond.code ({ cls := "com/example/cornice/cornice/core/GameRandom", name := "derive", desc := "(JJ)J" } : Jvm.MethodName) prog_1_method_2_code (6 : Nat) (Option.some Jvm.ClassFile.FieldType.long)).before args0 about1 = true := code_word (m := ⟨2, 0⟩) (meth := k2m0) (c := k2c0) (by decide +kernel) rfl rfl rfl (by decide +kernel)
set_option maxRecDepth 65536 in
theorem w_c2 : (Jvm.Cond.code ({ cls := "com/example/cornice/cornice/core/GameRandomDerivePinLaw", name := "unmix", desc := "(J)J" } : Jvm.MethodName) method_3_code (4 : Nat) (Option.some Jvm.ClassFile.FieldType.long)).before args0 about1 = true := code_word (m := ⟨1, 2⟩) (meth := k1m2) (c := k1c2) (by decide +kernel) rfl rfl rfl (by decide +kernel)
set_option maxRecDepth 65536 in
theorem w_c3 : (Jvm.Cond.code ({ cls := "com/example/cornice/cornice/core/GameRandomDerivePinLaw", name := "inverse", desc := "(J)J" } : Jvm.MethodName) method_2_code (4 : Nat) (Option.some Jvm.ClassFile.FieldType.long)).before args0 about1 = true := code_word (m := ⟨1, 1⟩) (meth := k1m1) (c := k1c1) (by decide +kernel) rfl rfl rfl (by decide +kernel)
def codes1 : List Jvm.Cond := [Jvm.Cond.code x code maxLocals ret, Jvm.Cond.code ({ cls := "com/example/cornice/cornice/core/GameRandom", name := "derive", desc := "(JJ)J" } : Jvm.MethodName) prog_1_method_2_code (6 : Nat) (Option.some Jvm.ClassFile.FieldType.long), Jvm.Cond.code ({ cls := "com/example/cornice/cornice/core/GameRandomDerivePinLaw", name := "unmix", desc := "(J)J" } : Jvm.MethodName) method_3_code (4 : Nat) (Option.some Jvm.ClassFile.FieldType.long), Jvm.Cond.code ({ cls := "com/example/cornice/cornice/core/GameRandomDerivePinLaw", name := "inverse", desc := "(J)J" } : Jvm.MethodName) method_2_code (4 : Nat) (Option.some Jvm.ClassFile.FieldType.long)]
set_option maxRecDepth 65536 in
theorem codes_eq : words1.filter isCode = codes1 := rfl
theorem w_codes : ∀ c ∈ words1.filter isCode, c.before args0 about1 = true := by
  rw [codes_eq]
  intro c hc
  simp only [codes1, List.mem_cons, List.not_mem_nil, or_false] at hc
  rcases hc with rfl | rfl | rfl | rfl
  · exact w_c0
  · exact w_c1
  · exact w_c2
  · exact w_c3
set_option maxRecDepth 65536 in
theorem w_t1 : words1.all (fun c => isCode c || c.before args0 about1) = true := by decide +kernel
theorem w_tables : (allAtoms (Jvm.Cond.code x code maxLocals ret :: tables_1)).before args0 about1 = true := by
  rw [allAtoms_all]
  show words1.all (fun c => c.before args0 about1) = true
  refine all_split ?_ w_codes
  rw [w_t1]
set_option maxRecDepth 65536 in
theorem w_case : (Jvm.Cond.and given_1 narrow_1).before args0 about1 = true := by decide +kernel
theorem w_applies : (headSpec (Jvm.Cond.code x code maxLocals ret :: tables_1) room_1).applies x e0.platform about1 = true :=
  (Spec.applies_iff w_frames).mpr ⟨w_running, w_runnable, w_alone, w_named, w_hears, w_ripe, w_room, w_tables⟩
theorem atStart : AtStart classFile x code maxLocals ret World_1 tables_1 room_1 Calls_1 rest_1 Pre_1 launch0 p0 e0 about1 theMethod args0 below0 :=
  ⟨lists_1, trivial, launch0.admits_env _ _ _, launch0.least_env, fairChoices_fair.cas, fairChoices_fair.clock, w_frames, w_args, w_heap, w_applies, trivial, trivial, w_case⟩
end start1
theorem witness_1 : WitnessClaimed_1 := ⟨start1.p0, start1.e0, start1.about1, start1.theMethod, start1.args0, start1.below0, start1.atStart⟩
end Jvm.Pilot.@@N@@
