import JvmDerived
import JvmDerived.Pilot.@@N@@Statement
import JvmDerived.Pilot.@@N@@Code
set_option linter.unusedVariables false
set_option linter.unusedSimpArgs false
namespace Jvm.Pilot.@@N@@
open Jvm Jvm.ClassFile Sem Op Lib Jvm.Free Jvm.Stand Jvm.LawKit Jvm.RoadKit Bundle Jvm.Pilot.@@N@@.Jvm.D
/-! own small kit: the goal of a walk, backward; the leaves -/
def Gl (tb : Tables) (e : Env) (below : List Frame) (QQ : Outcome → State → Prop) (st : State) : Prop := ∃ s₂ o, Steps tb e below st s₂ ∧ s₂.status = .running ∧ Ended s₂ below o ∧ QQ o s₂
theorem Gl.go {tb : Tables} {e : Env} {below : List Frame} {QQ : Outcome → State → Prop} {st st' : State} (h : ∀ t, Steps tb e below st' t → Steps tb e below st t) (g : Gl tb e below QQ st') : Gl tb e below QQ st := by
  obtain ⟨s2, o, h1, h2⟩ := g
  exact ⟨s2, o, h _ h1, h2⟩
def QQof (s : State) (Q : Option Value → Heap → List Loc → Prop) (k n : Nat) : Outcome → State → Prop := fun o U => ∃ v L, o = .returned v ∧ Q v U.heap L ∧ FrameEnd s o U L k n
section Leaf
variable {p : Program} {l : Launch} {e : Env} {R : Room} {s : State} {m : MethodId} {args : Array Value} {below : List Frame} {meth : Method} {c : Code} {T : State} {locs : List Loc} {cells slots : Nat} {pc : Nat} {Ls : Array Slot} {rest : List Value} {Q : Option Value → Heap → List Loc → Prop} {k n : Nat}
theorem leafN (X : Stand p l e R s m args below meth c T locs cells slots) (hx : p.tables.exec = Jvm.exec) (hlk : meth.locks = false) {z : Int32} {t : FieldType} (hret : meth.sig.returnType = some t) (ht : t = .boolean ∨ t = .byte ∨ t = .char ∨ t = .short) (hd : decode c.code pc = .ok (.ireturn, 1))
    (hq : Q (some (.int (nar t z))) T.heap locs) (hk : cells ≤ k) (hn : slots ≤ n) : Gl p.tables e below (QQof s Q k n) (T.setTop (mkF m pc Ls (.int z :: rest))) := by
  obtain ⟨fs, hr, hrun, hended, hW, hsame⟩ := X.leave (v := some (.int (nar t z))) (fun h => by rw [hret] at h; cases h) hlk
  exact ⟨_, _, retN X hx hret ht hd hr, hrun, hended, _, _, rfl, hq, ⟨_, rfl⟩, hW, hsame.mono hk hn⟩
theorem leafI (X : Stand p l e R s m args below meth c T locs cells slots) (hx : p.tables.exec = Jvm.exec) (hlk : meth.locks = false) {z : Int32} (hret : meth.sig.returnType = some .int) (hd : decode c.code pc = .ok (.ireturn, 1))
    (hq : Q (some (.int z)) T.heap locs) (hk : cells ≤ k) (hn : slots ≤ n) : Gl p.tables e below (QQof s Q k n) (T.setTop (mkF m pc Ls (.int z :: rest))) := by
  obtain ⟨fs, hr, hrun, hended, hW, hsame⟩ := X.leave (v := some (.int z)) (fun h => by rw [hret] at h; cases h) hlk
  exact ⟨_, _, retOut X hx hret rfl (Or.inl ⟨rfl, Or.inl rfl, _, rfl⟩) hd hr, hrun, hended, _, _, rfl, hq, ⟨_, rfl⟩, hW, hsame.mono hk hn⟩
theorem leafL (X : Stand p l e R s m args below meth c T locs cells slots) (hx : p.tables.exec = Jvm.exec) (hlk : meth.locks = false) {z : Int64} (hret : meth.sig.returnType = some .long) (hd : decode c.code pc = .ok (.lreturn, 1))
    (hq : Q (some (.long z)) T.heap locs) (hk : cells ≤ k) (hn : slots ≤ n) : Gl p.tables e below (QQof s Q k n) (T.setTop (mkF m pc Ls (.long z :: rest))) := by
  obtain ⟨fs, hr, hrun, hended, hW, hsame⟩ := X.leave (v := some (.long z)) (fun h => by rw [hret] at h; cases h) hlk
  exact ⟨_, _, retOut X hx hret rfl (Or.inr (Or.inl ⟨rfl, rfl, _, rfl⟩)) hd hr, hrun, hended, _, _, rfl, hq, ⟨_, rfl⟩, hW, hsame.mono hk hn⟩
theorem leafD (X : Stand p l e R s m args below meth c T locs cells slots) (hx : p.tables.exec = Jvm.exec) (hlk : meth.locks = false) {z : UInt64} (hret : meth.sig.returnType = some .double) (hd : decode c.code pc = .ok (.dreturn, 1))
    (hq : Q (some (.double z)) T.heap locs) (hk : cells ≤ k) (hn : slots ≤ n) : Gl p.tables e below (QQof s Q k n) (T.setTop (mkF m pc Ls (.double z :: rest))) := by
  obtain ⟨fs, hr, hrun, hended, hW, hsame⟩ := X.leave (v := some (.double z)) (fun h => by rw [hret] at h; cases h) hlk
  exact ⟨_, _, retOut X hx hret rfl (Or.inr (Or.inr (Or.inl ⟨rfl, rfl, _, rfl⟩))) hd hr, hrun, hended, _, _, rfl, hq, ⟨_, rfl⟩, hW, hsame.mono hk hn⟩
theorem narrowR {t : FieldType} {w : Value} (ht : t.isReference = true) (hw : w.isRef = true) : narrow t w = w := by
  cases w <;> simp [Value.isRef] at hw <;> cases t <;> simp [FieldType.isReference] at ht <;> rfl
theorem leafA (X : Stand p l e R s m args below meth c T locs cells slots) (hx : p.tables.exec = Jvm.exec) (hlk : meth.locks = false) {w : Value} {t : FieldType} (hret : meth.sig.returnType = some t) (ht : t.isReference = true) (hw : w.isRef = true) (hd : decode c.code pc = .ok (.areturn, 1))
    (hq : Q (some w) T.heap locs) (hk : cells ≤ k) (hn : slots ≤ n) : Gl p.tables e below (QQof s Q k n) (T.setTop (mkF m pc Ls (w :: rest))) := by
  obtain ⟨fs, hr, hrun, hended, hW, hsame⟩ := X.leave (v := some w) (fun h => by rw [hret] at h; cases h) hlk
  exact ⟨_, _, retOut X hx hret (narrowR ht hw) (Or.inr (Or.inr (Or.inr (Or.inr ⟨rfl, ht, hw⟩)))) hd hr, hrun, hended, _, _, rfl, hq, ⟨_, rfl⟩, hW, hsame.mono hk hn⟩
theorem leafV (X : Stand p l e R s m args below meth c T locs cells slots) (hx : p.tables.exec = Jvm.exec) (hlk : meth.locks = false) (hret : meth.sig.returnType = none) (hd : decode c.code pc = .ok (.return_, 1))
    (hq : Q none T.heap locs) (hk : cells ≤ k) (hn : slots ≤ n) : Gl p.tables e below (QQof s Q k n) (T.setTop (mkF m pc Ls [])) := by
  obtain ⟨fs, hr, hrun, hended, hW, hsame⟩ := X.leave (v := none) (fun _ => rfl) hlk
  exact ⟨_, _, X.returnOut hx hret hd hr, hrun, hended, _, _, rfl, hq, ⟨_, rfl⟩, hW, hsame.mono hk hn⟩
end Leaf
theorem fitsR {t : FieldType} {w : Value} (ht : t.isReference = true) (hw : w.isRef = true) : fits t w = true := by
  cases w <;> simp [Value.isRef] at hw <;> cases t <;> simp [FieldType.isReference] at ht <;> rfl
theorem nar1 : nar .boolean (1 : Int32) = 1 := by decide
theorem nar0 : nar .boolean (0 : Int32) = 0 := by decide
theorem int_at {args : Array Value} {s : State} {t : Term} {k : Int32} (h : (Jvm.Cond.eq t (.int k)).value args s none s [] = some true) : t.eval args s none [] s = some (.int k) := by
  obtain ⟨x, y, hx, hy, kx, ky⟩ := cmp_v (Or.inl h)
  have hk : y = .int k := Option.some.inj (hy.symm.trans (Term.int_eval k))
  subst hk
  obtain ⟨z, rfl⟩ := ky
  have hz := gotT (Cond.eq_ints hx (Term.int_eval k)) h
  rw [hx, hz]
theorem fld_int {args : Array Value} {s : State} {t : Term} {C n d : String} {k : Int32} {x : Addr} (ht : t.eval args s none [] s = some (.ref x)) (h : (Jvm.Cond.eq (.field t C n d) (.int k)).value args s none s [] = some true) : Fld s s.heap x C n d (.int k) := Fld.start ((fld_at ht).symm.trans (int_at h))
theorem ref_at {args : Array Value} {s : State} {a b : Term} {x : Addr} (hb : b.eval args s none [] s = some (.ref x)) (h : (Jvm.Cond.eq a b).value args s none s [] = some true) : a.eval args s none [] s = some (.ref x) := by
  obtain ⟨y, z, hy, hz, ky, kz⟩ := cmp_v (Or.inl h)
  have hk : z = .ref x := Option.some.inj (hz.symm.trans hb)
  subst hk
  have hr : y.isRef = true := kz.2
  have he := gotT (eq_R hy hb hr rfl) h
  rw [hy, he]
theorem ext_of_keep {h h' : Heap} (K : Keep h h' []) : Ext h h' := ⟨K.1, fun a c q => K.2.1 a c q nin0⟩
theorem arr_len {args : Array Value} {s : State} {t : Term} {a : Addr} {cl : Cell} {ty : FieldType} {k : Int32} (ev : t.eval args s none [] s = some (.ref a)) (A : Arr s s.heap a cl ty) (h : (Jvm.Cond.eq (.length t) (.int k)).value args s none s [] = some true) : cl.slots.size < 2 ^ 31 ∧ cl.slots.size.toInt32 = k := by
  obtain ⟨b, cell, e1, e2, e3, e4⟩ := Jvm.Lib.length_spec (int_at h)
  have hb : a = b := Value.ref.inj (Option.some.inj (ev.symm.trans e1))
  subst hb
  have hc : cl = cell := Option.some.inj ((A.fin (Vm.Alike.refl _)).symm.trans e2)
  subst hc
  exact ⟨e3, (Value.int.inj e4).symm⟩
theorem arr_elem {args : Array Value} {s : State} {t : Term} {a : Addr} {cl : Cell} {ty : FieldType} {j : Int32} {v : Value} (ev : t.eval args s none [] s = some (.ref a)) (A : Arr s s.heap a cl ty) (h : (Term.elem t (.int j)).eval args s none [] s = some v) : cl.slots[j.toNatClampNeg]? = some v := (elem_in h ev (Term.int_eval j) A.1).2

def offV (k : Int32) : UInt64 := if k = (1 : Int32) then (4466300756342324667 : UInt64) else if k = (2 : Int32) then (13689672793197100475 : UInt64) else if k = (3 : Int32) then (4479327984896590303 : UInt64) else if k = (4 : Int32) then (13702700021751366111 : UInt64) else FP.dconst0
def ltT (t u : UInt64) : Int32 := (cmpValue (FP.dcmp t (FP.dsub u (4472406533629990549 : UInt64))) .g)
def btV (u1 : Int32) (t1 : UInt64) (u2 : Int32) (t2 : UInt64) : Int32 := if u1 = u2 then (if ltT t1 t2 < (0 : Int32) then (1 : Int32) else (0 : Int32)) else (if u1 < u2 then (1 : Int32) else (0 : Int32))
def t2V (b : Int32) (k : Int32) : UInt64 := (FP.dadd (FP.i2d b) (offV k))
def okN (r : UInt64) : Bool := decide (r &&& 0x7fffffffffffffff ≤ 0x7ff0000000000000)
def chkD (b : Int) (t2 u : UInt64) (k : Nat) (d : Int) : Bool := (decide (cmpValue (FP.dcmp (FP.i2d (Int32.ofInt (b - d))) u) .g < (0 : Int32)) == (decide (0 < d) || (decide (d = 0) && decide (k = 3)))) && (decide (ltT t2 (FP.i2d (Int32.ofInt (b - d))) < (0 : Int32)) == (decide (d < 0) || (decide (d = 0) && decide (k = 4))))
def chkT (b : Int) (k : Nat) (t2 u : UInt64) : Bool := okN t2 && (okN u && (List.range 7).all fun j => chkD b t2 u k ((j : Int) - 3))
def chkU (b : Int) (k : Nat) (t2 : UInt64) : Bool := chkT b k t2 (FP.dsub t2 (4472406533629990549 : UInt64))
def chk1 (i k : Nat) : Bool := chkU ((i : Int) - 1002) k (t2V (Int32.ofInt ((i : Int) - 1002)) (Int32.ofNat k))
def chk0 (i : Nat) : Bool := okN (FP.dsub (FP.i2d (Int32.ofInt ((i : Int) - 999))) (4472406533629990549 : UInt64))
set_option maxRecDepth 1000000 in
theorem own_all_0 : ((List.range 81).all fun r => (List.range 5).all fun k => chk1 (81 * 0 + r) k) = true := by decide +kernel
set_option maxRecDepth 1000000 in
theorem own_all_1 : ((List.range 81).all fun r => (List.range 5).all fun k => chk1 (81 * 1 + r) k) = true := by decide +kernel
set_option maxRecDepth 1000000 in
theorem own_all_2 : ((List.range 81).all fun r => (List.range 5).all fun k => chk1 (81 * 2 + r) k) = true := by decide +kernel
set_option maxRecDepth 1000000 in
theorem own_all_3 : ((List.range 81).all fun r => (List.range 5).all fun k => chk1 (81 * 3 + r) k) = true := by decide +kernel
set_option maxRecDepth 1000000 in
theorem own_all_4 : ((List.range 81).all fun r => (List.range 5).all fun k => chk1 (81 * 4 + r) k) = true := by decide +kernel
set_option maxRecDepth 1000000 in
theorem own_all_5 : ((List.range 81).all fun r => (List.range 5).all fun k => chk1 (81 * 5 + r) k) = true := by decide +kernel
set_option maxRecDepth 1000000 in
theorem own_all_6 : ((List.range 81).all fun r => (List.range 5).all fun k => chk1 (81 * 6 + r) k) = true := by decide +kernel
set_option maxRecDepth 1000000 in
theorem own_all_7 : ((List.range 81).all fun r => (List.range 5).all fun k => chk1 (81 * 7 + r) k) = true := by decide +kernel
set_option maxRecDepth 1000000 in
theorem own_all_8 : ((List.range 81).all fun r => (List.range 5).all fun k => chk1 (81 * 8 + r) k) = true := by decide +kernel
set_option maxRecDepth 1000000 in
theorem own_all_9 : ((List.range 81).all fun r => (List.range 5).all fun k => chk1 (81 * 9 + r) k) = true := by decide +kernel
set_option maxRecDepth 1000000 in
theorem own_all_10 : ((List.range 81).all fun r => (List.range 5).all fun k => chk1 (81 * 10 + r) k) = true := by decide +kernel
set_option maxRecDepth 1000000 in
theorem own_all_11 : ((List.range 81).all fun r => (List.range 5).all fun k => chk1 (81 * 11 + r) k) = true := by decide +kernel
set_option maxRecDepth 1000000 in
theorem own_all_12 : ((List.range 81).all fun r => (List.range 5).all fun k => chk1 (81 * 12 + r) k) = true := by decide +kernel
set_option maxRecDepth 1000000 in
theorem own_all_13 : ((List.range 81).all fun r => (List.range 5).all fun k => chk1 (81 * 13 + r) k) = true := by decide +kernel
set_option maxRecDepth 1000000 in
theorem own_all_14 : ((List.range 81).all fun r => (List.range 5).all fun k => chk1 (81 * 14 + r) k) = true := by decide +kernel
set_option maxRecDepth 1000000 in
theorem own_all_15 : ((List.range 81).all fun r => (List.range 5).all fun k => chk1 (81 * 15 + r) k) = true := by decide +kernel
set_option maxRecDepth 1000000 in
theorem own_all_16 : ((List.range 81).all fun r => (List.range 5).all fun k => chk1 (81 * 16 + r) k) = true := by decide +kernel
set_option maxRecDepth 1000000 in
theorem own_all_17 : ((List.range 81).all fun r => (List.range 5).all fun k => chk1 (81 * 17 + r) k) = true := by decide +kernel
set_option maxRecDepth 1000000 in
theorem own_all_18 : ((List.range 81).all fun r => (List.range 5).all fun k => chk1 (81 * 18 + r) k) = true := by decide +kernel
set_option maxRecDepth 1000000 in
theorem own_all_19 : ((List.range 81).all fun r => (List.range 5).all fun k => chk1 (81 * 19 + r) k) = true := by decide +kernel
set_option maxRecDepth 1000000 in
theorem own_all_20 : ((List.range 81).all fun r => (List.range 5).all fun k => chk1 (81 * 20 + r) k) = true := by decide +kernel
set_option maxRecDepth 1000000 in
theorem own_all_21 : ((List.range 81).all fun r => (List.range 5).all fun k => chk1 (81 * 21 + r) k) = true := by decide +kernel
set_option maxRecDepth 1000000 in
theorem own_all_22 : ((List.range 81).all fun r => (List.range 5).all fun k => chk1 (81 * 22 + r) k) = true := by decide +kernel
set_option maxRecDepth 1000000 in
theorem own_all_23 : ((List.range 81).all fun r => (List.range 5).all fun k => chk1 (81 * 23 + r) k) = true := by decide +kernel
set_option maxRecDepth 1000000 in
theorem own_all_24 : ((List.range 81).all fun r => (List.range 5).all fun k => chk1 (81 * 24 + r) k) = true := by decide +kernel
theorem own_all (i : Nat) (h : i < 2025) : ((List.range 5).all fun k => chk1 i k) = true := by
  have hr : i % 81 < 81 := Nat.mod_lt _ (by omega)
  have e : i = 81 * (i / 81) + i % 81 := by omega
  have hq : i / 81 < 25 := by omega
  generalize i / 81 = q at e hq
  generalize i % 81 = r at e hr
  subst e
  rcases (by omega : q = 0 ∨ q = 1 ∨ q = 2 ∨ q = 3 ∨ q = 4 ∨ q = 5 ∨ q = 6 ∨ q = 7 ∨ q = 8 ∨ q = 9 ∨ q = 10 ∨ q = 11 ∨ q = 12 ∨ q = 13 ∨ q = 14 ∨ q = 15 ∨ q = 16 ∨ q = 17 ∨ q = 18 ∨ q = 19 ∨ q = 20 ∨ q = 21 ∨ q = 22 ∨ q = 23 ∨ q = 24) with rfl | rfl | rfl | rfl | rfl | rfl | rfl | rfl | rfl | rfl | rfl | rfl | rfl | rfl | rfl | rfl | rfl | rfl | rfl | rfl | rfl | rfl | rfl | rfl | rfl
  · exact List.all_eq_true.mp own_all_0 r (List.mem_range.mpr hr)
  · exact List.all_eq_true.mp own_all_1 r (List.mem_range.mpr hr)
  · exact List.all_eq_true.mp own_all_2 r (List.mem_range.mpr hr)
  · exact List.all_eq_true.mp own_all_3 r (List.mem_range.mpr hr)
  · exact List.all_eq_true.mp own_all_4 r (List.mem_range.mpr hr)
  · exact List.all_eq_true.mp own_all_5 r (List.mem_range.mpr hr)
  · exact List.all_eq_true.mp own_all_6 r (List.mem_range.mpr hr)
  · exact List.all_eq_true.mp own_all_7 r (List.mem_range.mpr hr)
  · exact List.all_eq_true.mp own_all_8 r (List.mem_range.mpr hr)
  · exact List.all_eq_true.mp own_all_9 r (List.mem_range.mpr hr)
  · exact List.all_eq_true.mp own_all_10 r (List.mem_range.mpr hr)
  · exact List.all_eq_true.mp own_all_11 r (List.mem_range.mpr hr)
  · exact List.all_eq_true.mp own_all_12 r (List.mem_range.mpr hr)
  · exact List.all_eq_true.mp own_all_13 r (List.mem_range.mpr hr)
  · exact List.all_eq_true.mp own_all_14 r (List.mem_range.mpr hr)
  · exact List.all_eq_true.mp own_all_15 r (List.mem_range.mpr hr)
  · exact List.all_eq_true.mp own_all_16 r (List.mem_range.mpr hr)
  · exact List.all_eq_true.mp own_all_17 r (List.mem_range.mpr hr)
  · exact List.all_eq_true.mp own_all_18 r (List.mem_range.mpr hr)
  · exact List.all_eq_true.mp own_all_19 r (List.mem_range.mpr hr)
  · exact List.all_eq_true.mp own_all_20 r (List.mem_range.mpr hr)
  · exact List.all_eq_true.mp own_all_21 r (List.mem_range.mpr hr)
  · exact List.all_eq_true.mp own_all_22 r (List.mem_range.mpr hr)
  · exact List.all_eq_true.mp own_all_23 r (List.mem_range.mpr hr)
  · exact List.all_eq_true.mp own_all_24 r (List.mem_range.mpr hr)
set_option maxRecDepth 1000000 in
theorem own_all0 : ((List.range 1999).all fun i => chk0 i) = true := by decide +kernel
theorem own_use {pa qd ki : Int32} (ha : -999 ≤ pa.toInt ∧ pa.toInt ≤ 999) (hd : -3 ≤ qd.toInt ∧ qd.toInt ≤ 3) (hk : 0 ≤ ki.toInt ∧ ki.toInt ≤ 4) :
    okN (t2V (pa + qd) ki) = true ∧ okN (FP.dsub (t2V (pa + qd) ki) (4472406533629990549 : UInt64)) = true ∧ okN (FP.dsub (FP.i2d pa) (4472406533629990549 : UInt64)) = true ∧ (ltT (FP.i2d pa) (t2V (pa + qd) ki) < (0 : Int32) ↔ (0 < qd.toInt ∨ (qd.toInt = 0 ∧ ki.toInt = 3))) ∧ (ltT (t2V (pa + qd) ki) (FP.i2d pa) < (0 : Int32) ↔ (qd.toInt < 0 ∨ (qd.toInt = 0 ∧ ki.toInt = 4))) := by
  have hsum : (pa + qd).toInt = pa.toInt + qd.toInt := by rw [Int32.toInt_add]; exact Int.bmod_eq_of_le (by omega) (by omega)
  have hi := own_all ((pa + qd).toInt + 1002).toNat (by omega)
  have hc := List.all_eq_true.mp hi ki.toInt.toNat (List.mem_range.mpr (by omega))
  have hz := List.all_eq_true.mp own_all0 (pa.toInt + 999).toNat (List.mem_range.mpr (by omega))
  have e1 : ((((pa + qd).toInt + 1002).toNat : Nat) : Int) - 1002 = (pa + qd).toInt := by omega
  have e2 : Int32.ofNat ki.toInt.toNat = ki := by
    apply Int32.toInt_inj.mp
    rw [Int32.toInt_ofNat_of_lt (by omega)]; omega
  have e0 : (((pa.toInt + 999).toNat : Nat) : Int) - 999 = pa.toInt := by omega
  have hc' : chkU (((((pa + qd).toInt + 1002).toNat : Nat) : Int) - 1002) ki.toInt.toNat (t2V (Int32.ofInt (((((pa + qd).toInt + 1002).toNat : Nat) : Int) - 1002)) (Int32.ofNat ki.toInt.toNat)) = true := hc
  rw [e1, e2, Int32.ofInt_toInt] at hc'
  have hz' : okN (FP.dsub (FP.i2d (Int32.ofInt ((((pa.toInt + 999).toNat : Nat) : Int) - 999))) (4472406533629990549 : UInt64)) = true := hz
  rw [e0, Int32.ofInt_toInt] at hz'
  have hq : (okN (t2V (pa + qd) ki) && (okN (FP.dsub (t2V (pa + qd) ki) (4472406533629990549 : UInt64)) && (List.range 7).all fun j => chkD (pa + qd).toInt (t2V (pa + qd) ki) (FP.dsub (t2V (pa + qd) ki) (4472406533629990549 : UInt64)) ki.toInt.toNat ((j : Int) - 3))) = true := hc'
  rw [Bool.and_eq_true, Bool.and_eq_true] at hq
  obtain ⟨h1, h2, h3⟩ := hq
  have h4 := List.all_eq_true.mp h3 (qd.toInt + 3).toNat (List.mem_range.mpr (by omega))
  have e3 : (((qd.toInt + 3).toNat : Nat) : Int) - 3 = qd.toInt := by omega
  have h4' : chkD (pa + qd).toInt (t2V (pa + qd) ki) (FP.dsub (t2V (pa + qd) ki) (4472406533629990549 : UInt64)) ki.toInt.toNat ((((qd.toInt + 3).toNat : Nat) : Int) - 3) = true := h4
  rw [e3] at h4'
  unfold chkD at h4'
  have e4 : (pa + qd).toInt - qd.toInt = pa.toInt := by omega
  rw [e4, Int32.ofInt_toInt, Bool.and_eq_true, beq_iff_eq, beq_iff_eq] at h4'
  refine ⟨h1, h2, hz', ?_, ?_⟩
  · have q := h4'.1
    refine (decide_eq_true_iff (p := cmpValue (FP.dcmp (FP.i2d pa) (FP.dsub (t2V (pa + qd) ki) (4472406533629990549 : UInt64))) .g < (0 : Int32))).symm.trans ?_
    rw [q]
    simp only [Bool.or_eq_true, Bool.and_eq_true, decide_eq_true_eq]
    omega
  · have q := h4'.2
    refine (decide_eq_true_iff (p := ltT (t2V (pa + qd) ki) (FP.i2d pa) < (0 : Int32))).symm.trans ?_
    rw [q]
    simp only [Bool.or_eq_true, Bool.and_eq_true, decide_eq_true_eq]
    omega
theorem own_mod (p m : Int32) (k : Int) (hm : m.toInt = k) (hk : 0 < k ∧ k < 100000) : -(k - 1) ≤ (p % m).toInt ∧ (p % m).toInt ≤ k - 1 := by
  rw [Int32.toInt_mod, hm]
  have h1 := Int.tmod_lt_of_pos p.toInt hk.1
  have h2 := Int.lt_tmod_of_pos p.toInt hk.1
  omega
theorem own_and (x m : Int32) (hm : m.toBitVec.msb = false) : 0 ≤ (x &&& m).toInt := by
  have hq : (x &&& m).toBitVec.msb = false := by rw [Int32.toBitVec_and, BitVec.msb_and, hm, Bool.and_false]
  rw [BitVec.msb_eq_toInt] at hq
  have : ¬ (x &&& m).toBitVec.toInt < 0 := by simpa using hq
  have h' : ¬ (x &&& m).toInt < 0 := this
  omega
theorem own_mod5 (k : Int32) : 0 ≤ ((k &&& (2147483647 : Int32)) % (5 : Int32)).toInt ∧ ((k &&& (2147483647 : Int32)) % (5 : Int32)).toInt ≤ 4 := by
  have h0 := own_and k (2147483647 : Int32) (by decide)
  have h5 : (5 : Int32).toInt = 5 := by decide
  rw [Int32.toInt_mod, h5, Int.tmod_eq_emod_of_nonneg h0]
  omega
theorem own_nn {r : UInt64} (h : okN r = true) : Jvm.Free.Fl.NoNaN64 r := of_decide_eq_true h
theorem own_w12 {qd ki : Int32} : (0 < qd.toInt ∨ (qd.toInt = 0 ∧ ki.toInt = 3)) ↔ ((0 : Int32) < qd ∨ (qd = (0 : Int32) ∧ ki = (3 : Int32))) := by
  have z0 : (0 : Int32).toInt = 0 := by decide
  have z3 : (3 : Int32).toInt = 3 := by decide
  simp only [Int32.lt_iff_toInt_lt, ← Int32.toInt_inj, z0, z3]
theorem own_w21 {qd ki : Int32} : (qd.toInt < 0 ∨ (qd.toInt = 0 ∧ ki.toInt = 4)) ↔ (qd < (0 : Int32) ∨ (qd = (0 : Int32) ∧ ki = (4 : Int32))) := by
  have z0 : (0 : Int32).toInt = 0 := by decide
  have z3 : (4 : Int32).toInt = 4 := by decide
  simp only [Int32.lt_iff_toInt_lt, ← Int32.toInt_inj, z0, z3]
theorem own_t12 {P : Prop} [Decidable P] {x qd ki : Int32} (h : P ↔ ((0 : Int32) < qd ∨ (qd = (0 : Int32) ∧ ki = (3 : Int32)))) : (if P then (1 : Int32) else (0 : Int32)) = (if (0 : Int32) < qd then (1 : Int32) else (if qd = (0 : Int32) then (if ki = (3 : Int32) then (1 : Int32) else (0 : Int32)) else (0 : Int32))) := by
  by_cases a1 : (0 : Int32) < qd
  · rw [if_pos (h.mpr (Or.inl a1)), if_pos a1]
  · by_cases a2 : qd = (0 : Int32)
    · by_cases a3 : ki = (3 : Int32)
      · rw [if_pos (h.mpr (Or.inr ⟨a2, a3⟩)), if_neg a1, if_pos a2, if_pos a3]
      · rw [if_neg (fun q => (h.mp q).elim a1 (fun r => a3 r.2)), if_neg a1, if_pos a2, if_neg a3]
    · rw [if_neg (fun q => (h.mp q).elim a1 (fun r => a2 r.1)), if_neg a1, if_neg a2]
theorem own_t21 {P : Prop} [Decidable P] {x qd ki : Int32} (h : P ↔ (qd < (0 : Int32) ∨ (qd = (0 : Int32) ∧ ki = (4 : Int32)))) : (if P then (1 : Int32) else (0 : Int32)) = (if qd < (0 : Int32) then (1 : Int32) else (if qd = (0 : Int32) then (if ki = (4 : Int32) then (1 : Int32) else (0 : Int32)) else (0 : Int32))) := by
  by_cases a1 : qd < (0 : Int32)
  · rw [if_pos (h.mpr (Or.inl a1)), if_pos a1]
  · by_cases a2 : qd = (0 : Int32)
    · by_cases a3 : ki = (4 : Int32)
      · rw [if_pos (h.mpr (Or.inr ⟨a2, a3⟩)), if_neg a1, if_pos a2, if_pos a3]
      · rw [if_neg (fun q => (h.mp q).elim a1 (fun r => a3 r.2)), if_neg a1, if_pos a2, if_neg a3]
    · rw [if_neg (fun q => (h.mp q).elim a1 (fun r => a2 r.1)), if_neg a1, if_neg a2]
theorem pn_0 : plainName "java/lang/Record" = true := by first | (simp [plainName, overriddenIn]; done) | decide +kernel
theorem ef_rec (m : MethodId) (x0 : Addr) : entryFrame m #[(.ref x0)] 1 = mkF m 0 #[.val (.ref x0)] [] := by first | (simp [entryFrame, mkF, argsToLocals, Value.category]; done) | rfl
theorem d3_0 : decode jdk_30_method_1_code 0 = .ok (.aload_n 0, 1) := by decide +kernel
theorem d3_1 : decode jdk_30_method_1_code 1 = .ok (.invokespecial 1, 3) := by decide +kernel
theorem d3_4 : decode jdk_30_method_1_code 4 = .ok (.return_, 1) := by decide +kernel
theorem pn_1 : plainName "com/example/berthwise/berthwise/model/RankIsBetterThanPinLaw" = true := by first | (simp [plainName, overriddenIn]; done) | decide +kernel
theorem ef_off (m : MethodId) (x0 : Int32) : entryFrame m #[(.int x0)] 1 = mkF m 0 #[.val (.int x0)] [] := by first | (simp [entryFrame, mkF, argsToLocals, Value.category]; done) | rfl
theorem d1_0 : decode method_2_code 0 = .ok (.iload_n 0, 1) := by decide +kernel
theorem d1_1 : decode method_2_code 1 = .ok (.iconst 1, 1) := by decide +kernel
theorem d1_2 : decode method_2_code 2 = .ok (.if_icmp .ne 7, 3) := by decide +kernel
theorem d1_5 : decode method_2_code 5 = .ok (.ldc2_w 7, 3) := by decide +kernel
theorem d1_8 : decode method_2_code 8 = .ok (.dreturn, 1) := by decide +kernel
theorem d1_9 : decode method_2_code 9 = .ok (.iload_n 0, 1) := by decide +kernel
theorem d1_10 : decode method_2_code 10 = .ok (.iconst 2, 1) := by decide +kernel
theorem d1_11 : decode method_2_code 11 = .ok (.if_icmp .ne 7, 3) := by decide +kernel
theorem d1_14 : decode method_2_code 14 = .ok (.ldc2_w 9, 3) := by decide +kernel
theorem d1_17 : decode method_2_code 17 = .ok (.dreturn, 1) := by decide +kernel
theorem d1_18 : decode method_2_code 18 = .ok (.iload_n 0, 1) := by decide +kernel
theorem d1_19 : decode method_2_code 19 = .ok (.iconst 3, 1) := by decide +kernel
theorem d1_20 : decode method_2_code 20 = .ok (.if_icmp .ne 7, 3) := by decide +kernel
theorem d1_23 : decode method_2_code 23 = .ok (.ldc2_w 11, 3) := by decide +kernel
theorem d1_26 : decode method_2_code 26 = .ok (.dreturn, 1) := by decide +kernel
theorem d1_27 : decode method_2_code 27 = .ok (.iload_n 0, 1) := by decide +kernel
theorem d1_28 : decode method_2_code 28 = .ok (.iconst 4, 1) := by decide +kernel
theorem d1_29 : decode method_2_code 29 = .ok (.if_icmp .ne 7, 3) := by decide +kernel
theorem d1_32 : decode method_2_code 32 = .ok (.ldc2_w 13, 3) := by decide +kernel
theorem d1_35 : decode method_2_code 35 = .ok (.dreturn, 1) := by decide +kernel
theorem d1_36 : decode method_2_code 36 = .ok (.dconst 0, 1) := by decide +kernel
theorem d1_37 : decode method_2_code 37 = .ok (.dreturn, 1) := by decide +kernel
theorem pn_2 : plainName "com/example/berthwise/berthwise/model/Ranked$Rank" = true := by first | (simp [plainName, overriddenIn]; done) | decide +kernel
theorem ef_ini (m : MethodId) (x0 : Addr) (x1 : Int32) (x2 : UInt64) : entryFrame m #[(.ref x0), (.int x1), (.double x2)] 4 = mkF m 0 #[.val (.ref x0), .val (.int x1), .val (.double x2), .second] [] := by first | (simp [entryFrame, mkF, argsToLocals, Value.category]; done) | rfl
theorem d2_0 : decode prog_30_method_1_code 0 = .ok (.aload_n 0, 1) := by decide +kernel
theorem pd_0 : parseMethodDescriptor "()V" = some ⟨[], none⟩ := by decide +kernel
theorem d2_1 : decode prog_30_method_1_code 1 = .ok (.invokespecial 1, 3) := by decide +kernel
theorem d2_4 : decode prog_30_method_1_code 4 = .ok (.aload_n 0, 1) := by decide +kernel
theorem d2_5 : decode prog_30_method_1_code 5 = .ok (.iload_n 1, 1) := by decide +kernel
theorem d2_6 : decode prog_30_method_1_code 6 = .ok (.putfield 7, 3) := by decide +kernel
theorem d2_9 : decode prog_30_method_1_code 9 = .ok (.aload_n 0, 1) := by decide +kernel
theorem d2_10 : decode prog_30_method_1_code 10 = .ok (.dload_n 2, 1) := by decide +kernel
theorem d2_11 : decode prog_30_method_1_code 11 = .ok (.putfield 13, 3) := by decide +kernel
theorem d2_14 : decode prog_30_method_1_code 14 = .ok (.return_, 1) := by decide +kernel
theorem ef_bt (m : MethodId) (x0 : Addr) (x1 : Addr) : entryFrame m #[(.ref x0), (.ref x1)] 2 = mkF m 0 #[.val (.ref x0), .val (.ref x1)] [] := by first | (simp [entryFrame, mkF, argsToLocals, Value.category]; done) | rfl
theorem d5_0 : decode prog_30_method_2_code 0 = .ok (.aload_n 0, 1) := by decide +kernel
theorem d5_1 : decode prog_30_method_2_code 1 = .ok (.getfield 7, 3) := by decide +kernel
theorem d5_4 : decode prog_30_method_2_code 4 = .ok (.aload_n 1, 1) := by decide +kernel
theorem d5_5 : decode prog_30_method_2_code 5 = .ok (.getfield 7, 3) := by decide +kernel
theorem d5_8 : decode prog_30_method_2_code 8 = .ok (.if_icmp .eq 20, 3) := by decide +kernel
theorem d5_28 : decode prog_30_method_2_code 28 = .ok (.aload_n 0, 1) := by decide +kernel
theorem d5_29 : decode prog_30_method_2_code 29 = .ok (.getfield 13, 3) := by decide +kernel
theorem d5_32 : decode prog_30_method_2_code 32 = .ok (.aload_n 1, 1) := by decide +kernel
theorem d5_33 : decode prog_30_method_2_code 33 = .ok (.getfield 13, 3) := by decide +kernel
theorem d5_36 : decode prog_30_method_2_code 36 = .ok (.ldc2_w 19, 3) := by decide +kernel
theorem d5_39 : decode prog_30_method_2_code 39 = .ok (.dsub, 1) := by decide +kernel
theorem d5_40 : decode prog_30_method_2_code 40 = .ok (.dcmp .g, 1) := by decide +kernel
theorem d5_41 : decode prog_30_method_2_code 41 = .ok (.ifCond .ge 7, 3) := by decide +kernel
theorem d5_44 : decode prog_30_method_2_code 44 = .ok (.iconst 1, 1) := by decide +kernel
theorem d5_45 : decode prog_30_method_2_code 45 = .ok (.goto 4, 3) := by decide +kernel
theorem d5_49 : decode prog_30_method_2_code 49 = .ok (.ireturn, 1) := by decide +kernel
theorem d5_48 : decode prog_30_method_2_code 48 = .ok (.iconst 0, 1) := by decide +kernel
theorem d5_11 : decode prog_30_method_2_code 11 = .ok (.aload_n 0, 1) := by decide +kernel
theorem d5_12 : decode prog_30_method_2_code 12 = .ok (.getfield 7, 3) := by decide +kernel
theorem d5_15 : decode prog_30_method_2_code 15 = .ok (.aload_n 1, 1) := by decide +kernel
theorem d5_16 : decode prog_30_method_2_code 16 = .ok (.getfield 7, 3) := by decide +kernel
theorem d5_19 : decode prog_30_method_2_code 19 = .ok (.if_icmp .ge 7, 3) := by decide +kernel
theorem d5_22 : decode prog_30_method_2_code 22 = .ok (.iconst 1, 1) := by decide +kernel
theorem d5_23 : decode prog_30_method_2_code 23 = .ok (.goto 4, 3) := by decide +kernel
theorem d5_27 : decode prog_30_method_2_code 27 = .ok (.ireturn, 1) := by decide +kernel
theorem d5_26 : decode prog_30_method_2_code 26 = .ok (.iconst 0, 1) := by decide +kernel
theorem ef_law (m : MethodId) (x0 : Int32) (x1 : Int32) (x2 : Int32) (x3 : Int32) (x4 : Int32) (x5 : Int32) : entryFrame m #[(.int x0), (.int x1), (.int x2), (.int x3), (.int x4), (.int x5)] maxLocals = mkF m 0 #[.val (.int x0), .val (.int x1), .val (.int x2), .val (.int x3), .val (.int x4), .val (.int x5), .unset, .unset, .unset, .unset, .unset, .unset, .unset, .unset, .unset, .unset, .unset, .unset, .unset, .unset, .unset, .unset, .unset] [] := by first | (simp [entryFrame, mkF, argsToLocals, Value.category, maxLocals]; done) | rfl
theorem pd_1 : parseMethodDescriptor "(I)D" = some ⟨[.int], some .double⟩ := by decide +kernel
theorem pd_2 : parseMethodDescriptor "(ID)V" = some ⟨[.int, .double], none⟩ := by decide +kernel
theorem pd_3 : parseMethodDescriptor "(Lcom/example/berthwise/berthwise/model/Ranked$Rank;)Z" = some ⟨[(.object "com/example/berthwise/berthwise/model/Ranked$Rank")], some .boolean⟩ := by decide +kernel
def Q_rec (Z : State) (a1 : Addr) (h0 : Heap) (n0 : Nat) (v : Option Value) (h : Heap) (L : List Loc) : Prop := v = none ∧ Fr n0 L ∧ h = h0
set_option maxRecDepth 65536 in
set_option maxHeartbeats 40000000 in
theorem rm_rec (l : Launch) (Z : State) (a0 : Array Value) (hw : ∀ d ∈ tables_1, d.before a0 Z = true) (ws : List Jvm.Cond) (a1 : Addr) (h0 : Heap) (n0 : Nat) (Z0 : n0 ≤ h0.size)  :
    MetFree l (⟨"java/lang/Record", "<init>", "()V"⟩ : MethodName) (head1 (Jvm.Cond.code (⟨"java/lang/Record", "<init>", "()V"⟩ : MethodName) jdk_30_method_1_code 1 none :: ws) ({ frames := 1, cells := 0, slots := 0, locals := 12 } : Room)) (fun aa U => aa = #[(.ref a1)] ∧ Z.Warmed39 U.vm ∧ U.heap = h0) (fun _ _ _ _ _ => True) (fun _ U o U' => ∃ v L, o = .returned v ∧ Q_rec Z a1 h0 n0 v U'.heap L ∧ FrameEnd U o U' L ({ frames := 1, cells := 0, slots := 0, locals := 12 } : Room).cells ({ frames := 1, cells := 0, slots := 0, locals := 12 } : Room).slots) := by
  refine MetFree.of_bodySF (plainFor_of_name pn_0) hisR ?_
  intro p e s m args below meth c s₁ Bd hml0 hP hK
  obtain ⟨rfl, hZ, hh⟩ := hP
  have hx := Bd.exec
  have hby := Bd.bytes
  have hml : c.maxLocals = 1 := hml0
  have hown : s.vm.findClass "java/lang/Record" = some m.cls := findClass_of_methodNamed Bd.named
  have hnm := (name_of_methodNamed Bd.named Bd.method).1
  have hlk : meth.locks = false := BodyLoose.notSynchronized Bd
  have X0 : Stand p l e ({ frames := 1, cells := 0, slots := 0, locals := 12 } : Room) s m #[(.ref a1)] below meth c s₁ [] 0 0 := Stand.of_body Bd
  have e0 : s₁.heap = h0 := by rw [← hh, Bd.state]; rfl
  have N0 := Fr.nil n0
  have K0 : Keep h0 h0 [] := Keep.refl _ _
  show Gl p.tables e below (QQof s (Q_rec Z a1 h0 n0) 0 0) (s₁.setTop (entryFrame m #[(.ref a1)] 1))
  refine Gl.go (fun t k => castTop (ef_rec m a1) k) ?_
  show Gl p.tables e below (QQof s (Q_rec Z a1 h0 n0) 0 0) (s₁.setTop (mkF m 0 #[.val (.ref a1)] []))
  refine Gl.go (fun _ k => XS.aloadN X0.here hx rfl (hb hby d3_0) rfl rfl  k) ?_
  show Gl p.tables e below (QQof s (Q_rec Z a1 h0 n0) 0 0) (s₁.setTop (mkF m 1 #[.val (.ref a1)] [(.ref a1)]))
  obtain ⟨T1, X1, e1, st1⟩ := initO X0 hx hZ hown (hw _ (List.mem_of_getElem? (i := 17) rfl)) (hw _ (List.mem_of_getElem? (i := 18) rfl)) (hw _ (List.mem_of_getElem? (i := 19) rfl)) e0 (g := (mkF m 1 #[.val (.ref a1)] [(.ref a1)])) rfl (by rw [hml]; rfl) rfl (hb hby d3_1) (by decide) (W := 0) (by show 2 * 0 + _ ≤ _; exact Nat.le_of_eq rfl) (by decide)
  refine Gl.go (fun _ k => st1 _ k) ?_
  show Gl p.tables e below (QQof s (Q_rec Z a1 h0 n0) 0 0) (T1.setTop (mkF m 4 #[.val (.ref a1)] []))
  refine leafV X1 hx hlk Bd.returns (hb hby d3_4) ?_ (by decide) (by decide)
  exact ⟨rfl, N0, e1⟩
def Q_off (Z : State) (q1 : Int32) (h0 : Heap) (n0 : Nat) (v : Option Value) (h : Heap) (L : List Loc) : Prop := v = some (.double (offV q1)) ∧ Fr n0 L ∧ h = h0
set_option maxRecDepth 65536 in
set_option maxHeartbeats 40000000 in
theorem rm_off (l : Launch) (Z : State) (a0 : Array Value) (hw : ∀ d ∈ tables_1, d.before a0 Z = true) (ws : List Jvm.Cond) (q1 : Int32) (h0 : Heap) (n0 : Nat) (Z0 : n0 ≤ h0.size)  :
    MetFree l (⟨"com/example/berthwise/berthwise/model/RankIsBetterThanPinLaw", "offset", "(I)D"⟩ : MethodName) (head1 (Jvm.Cond.code (⟨"com/example/berthwise/berthwise/model/RankIsBetterThanPinLaw", "offset", "(I)D"⟩ : MethodName) method_2_code 1 (some .double) :: ws) ({ frames := 0, cells := 0, slots := 0, locals := 0 } : Room)) (fun aa U => aa = #[(.int q1)] ∧ Z.Warmed39 U.vm ∧ U.heap = h0) (fun _ _ _ _ _ => True) (fun _ U o U' => ∃ v L, o = .returned v ∧ Q_off Z q1 h0 n0 v U'.heap L ∧ FrameEnd U o U' L ({ frames := 0, cells := 0, slots := 0, locals := 0 } : Room).cells ({ frames := 0, cells := 0, slots := 0, locals := 0 } : Room).slots) := by
  refine MetFree.of_bodySF (plainFor_of_name pn_1) hisR ?_
  intro p e s m args below meth c s₁ Bd hml0 hP hK
  obtain ⟨rfl, hZ, hh⟩ := hP
  have hx := Bd.exec
  have hby := Bd.bytes
  have hml : c.maxLocals = 1 := hml0
  have hown : s.vm.findClass "com/example/berthwise/berthwise/model/RankIsBetterThanPinLaw" = some m.cls := findClass_of_methodNamed Bd.named
  have hnm := (name_of_methodNamed Bd.named Bd.method).1
  have hlk : meth.locks = false := BodyLoose.notSynchronized Bd
  have X0 : Stand p l e ({ frames := 0, cells := 0, slots := 0, locals := 0 } : Room) s m #[(.int q1)] below meth c s₁ [] 0 0 := Stand.of_body Bd
  have e0 : s₁.heap = h0 := by rw [← hh, Bd.state]; rfl
  have N0 := Fr.nil n0
  have K0 : Keep h0 h0 [] := Keep.refl _ _
  show Gl p.tables e below (QQof s (Q_off Z q1 h0 n0) 0 0) (s₁.setTop (entryFrame m #[(.int q1)] 1))
  refine Gl.go (fun t k => castTop (ef_off m q1) k) ?_
  show Gl p.tables e below (QQof s (Q_off Z q1 h0 n0) 0 0) (s₁.setTop (mkF m 0 #[.val (.int q1)] []))
  refine Gl.go (fun _ k => XS.iloadN X0.here hx rfl (hb hby d1_0) rfl  k) ?_
  show Gl p.tables e below (QQof s (Q_off Z q1 h0 n0) 0 0) (s₁.setTop (mkF m 1 #[.val (.int q1)] [(.int q1)]))
  refine Gl.go (fun _ k => XS.iconst X0.here hx rfl (hb hby d1_1) k) ?_
  show Gl p.tables e below (QQof s (Q_off Z q1 h0 n0) 0 0) (s₁.setTop (mkF m 2 #[.val (.int q1)] [(.int (1 : Int32)), (.int q1)]))
  by_cases hk1 : q1 = (1 : Int32)
  · skip
    refine Gl.go (fun _ k => XS.icmpNo X0.here hx rfl (hb hby d1_2) rfl (teq hk1).2 k) ?_
    show Gl p.tables e below (QQof s (Q_off Z q1 h0 n0) 0 0) (s₁.setTop (mkF m 5 #[.val (.int q1)] []))
    refine Gl.go (fun _ k => X0.ldc2DoubleC hx hown (mvT hZ (hw _ (List.mem_of_getElem? (i := 32) rfl))) (g := (mkF m 5 #[.val (.int q1)] [])) rfl (hb hby d1_5) _ k) ?_
    show Gl p.tables e below (QQof s (Q_off Z q1 h0 n0) 0 0) (s₁.setTop (mkF m 8 #[.val (.int q1)] [(.double (4466300756342324667 : UInt64))]))
    refine leafD X0 hx hlk Bd.returns (hb hby d1_8) ?_ (by decide) (by decide)
    exact ⟨by rw [offV, if_pos hk1], N0, e0⟩
  · skip
    refine Gl.go (fun _ k => XS.icmpYes X0.here hx rfl (pc0 := 2) (pc' := 9) rfl (hb hby d1_2) rfl (feq hk1).2 (by decide) (by decide) k) ?_
    show Gl p.tables e below (QQof s (Q_off Z q1 h0 n0) 0 0) (s₁.setTop (mkF m 9 #[.val (.int q1)] []))
    refine Gl.go (fun _ k => XS.iloadN X0.here hx rfl (hb hby d1_9) rfl  k) ?_
    show Gl p.tables e below (QQof s (Q_off Z q1 h0 n0) 0 0) (s₁.setTop (mkF m 10 #[.val (.int q1)] [(.int q1)]))
    refine Gl.go (fun _ k => XS.iconst X0.here hx rfl (hb hby d1_10) k) ?_
    show Gl p.tables e below (QQof s (Q_off Z q1 h0 n0) 0 0) (s₁.setTop (mkF m 11 #[.val (.int q1)] [(.int (2 : Int32)), (.int q1)]))
    by_cases hk2 : q1 = (2 : Int32)
    · skip
      refine Gl.go (fun _ k => XS.icmpNo X0.here hx rfl (hb hby d1_11) rfl (teq hk2).2 k) ?_
      show Gl p.tables e below (QQof s (Q_off Z q1 h0 n0) 0 0) (s₁.setTop (mkF m 14 #[.val (.int q1)] []))
      refine Gl.go (fun _ k => X0.ldc2DoubleC hx hown (mvT hZ (hw _ (List.mem_of_getElem? (i := 29) rfl))) (g := (mkF m 14 #[.val (.int q1)] [])) rfl (hb hby d1_14) _ k) ?_
      show Gl p.tables e below (QQof s (Q_off Z q1 h0 n0) 0 0) (s₁.setTop (mkF m 17 #[.val (.int q1)] [(.double (13689672793197100475 : UInt64))]))
      refine leafD X0 hx hlk Bd.returns (hb hby d1_17) ?_ (by decide) (by decide)
      exact ⟨by rw [offV, if_neg hk1, if_pos hk2], N0, e0⟩
    · skip
      refine Gl.go (fun _ k => XS.icmpYes X0.here hx rfl (pc0 := 11) (pc' := 18) rfl (hb hby d1_11) rfl (feq hk2).2 (by decide) (by decide) k) ?_
      show Gl p.tables e below (QQof s (Q_off Z q1 h0 n0) 0 0) (s₁.setTop (mkF m 18 #[.val (.int q1)] []))
      refine Gl.go (fun _ k => XS.iloadN X0.here hx rfl (hb hby d1_18) rfl  k) ?_
      show Gl p.tables e below (QQof s (Q_off Z q1 h0 n0) 0 0) (s₁.setTop (mkF m 19 #[.val (.int q1)] [(.int q1)]))
      refine Gl.go (fun _ k => XS.iconst X0.here hx rfl (hb hby d1_19) k) ?_
      show Gl p.tables e below (QQof s (Q_off Z q1 h0 n0) 0 0) (s₁.setTop (mkF m 20 #[.val (.int q1)] [(.int (3 : Int32)), (.int q1)]))
      by_cases hk3 : q1 = (3 : Int32)
      · skip
        refine Gl.go (fun _ k => XS.icmpNo X0.here hx rfl (hb hby d1_20) rfl (teq hk3).2 k) ?_
        show Gl p.tables e below (QQof s (Q_off Z q1 h0 n0) 0 0) (s₁.setTop (mkF m 23 #[.val (.int q1)] []))
        refine Gl.go (fun _ k => X0.ldc2DoubleC hx hown (mvT hZ (hw _ (List.mem_of_getElem? (i := 5) rfl))) (g := (mkF m 23 #[.val (.int q1)] [])) rfl (hb hby d1_23) _ k) ?_
        show Gl p.tables e below (QQof s (Q_off Z q1 h0 n0) 0 0) (s₁.setTop (mkF m 26 #[.val (.int q1)] [(.double (4479327984896590303 : UInt64))]))
        refine leafD X0 hx hlk Bd.returns (hb hby d1_26) ?_ (by decide) (by decide)
        exact ⟨by rw [offV, if_neg hk1, if_neg hk2, if_pos hk3], N0, e0⟩
      · skip
        refine Gl.go (fun _ k => XS.icmpYes X0.here hx rfl (pc0 := 20) (pc' := 27) rfl (hb hby d1_20) rfl (feq hk3).2 (by decide) (by decide) k) ?_
        show Gl p.tables e below (QQof s (Q_off Z q1 h0 n0) 0 0) (s₁.setTop (mkF m 27 #[.val (.int q1)] []))
        refine Gl.go (fun _ k => XS.iloadN X0.here hx rfl (hb hby d1_27) rfl  k) ?_
        show Gl p.tables e below (QQof s (Q_off Z q1 h0 n0) 0 0) (s₁.setTop (mkF m 28 #[.val (.int q1)] [(.int q1)]))
        refine Gl.go (fun _ k => XS.iconst X0.here hx rfl (hb hby d1_28) k) ?_
        show Gl p.tables e below (QQof s (Q_off Z q1 h0 n0) 0 0) (s₁.setTop (mkF m 29 #[.val (.int q1)] [(.int (4 : Int32)), (.int q1)]))
        by_cases hk4 : q1 = (4 : Int32)
        · skip
          refine Gl.go (fun _ k => XS.icmpNo X0.here hx rfl (hb hby d1_29) rfl (teq hk4).2 k) ?_
          show Gl p.tables e below (QQof s (Q_off Z q1 h0 n0) 0 0) (s₁.setTop (mkF m 32 #[.val (.int q1)] []))
          refine Gl.go (fun _ k => X0.ldc2DoubleC hx hown (mvT hZ (hw _ (List.mem_of_getElem? (i := 31) rfl))) (g := (mkF m 32 #[.val (.int q1)] [])) rfl (hb hby d1_32) _ k) ?_
          show Gl p.tables e below (QQof s (Q_off Z q1 h0 n0) 0 0) (s₁.setTop (mkF m 35 #[.val (.int q1)] [(.double (13702700021751366111 : UInt64))]))
          refine leafD X0 hx hlk Bd.returns (hb hby d1_35) ?_ (by decide) (by decide)
          exact ⟨by rw [offV, if_neg hk1, if_neg hk2, if_neg hk3, if_pos hk4], N0, e0⟩
        · skip
          refine Gl.go (fun _ k => XS.icmpYes X0.here hx rfl (pc0 := 29) (pc' := 36) rfl (hb hby d1_29) rfl (feq hk4).2 (by decide) (by decide) k) ?_
          show Gl p.tables e below (QQof s (Q_off Z q1 h0 n0) 0 0) (s₁.setTop (mkF m 36 #[.val (.int q1)] []))
          refine Gl.go (fun _ k => XS.dconst0 X0.here hx rfl (hb hby d1_36) rfl k) ?_
          show Gl p.tables e below (QQof s (Q_off Z q1 h0 n0) 0 0) (s₁.setTop (mkF m 37 #[.val (.int q1)] [(.double FP.dconst0)]))
          refine leafD X0 hx hlk Bd.returns (hb hby d1_37) ?_ (by decide) (by decide)
          exact ⟨by rw [offV, if_neg hk1, if_neg hk2, if_neg hk3, if_neg hk4], N0, e0⟩
def Q_ini (Z : State) (a1 : Addr) (u1 : Int32) (t1 : UInt64) (u_unplaced u_total : Value) (h0 : Heap) (n0 : Nat) (v : Option Value) (h : Heap) (L : List Loc) : Prop := v = none ∧ Fr n0 L ∧ Keep h0 h [a1] ∧ Exa Z h a1 "com/example/berthwise/berthwise/model/Ranked$Rank" ∧ Fld Z h a1 "com/example/berthwise/berthwise/model/Ranked$Rank" "unplaced" "I" (.int u1) ∧ Fld Z h a1 "com/example/berthwise/berthwise/model/Ranked$Rank" "total" "D" (.double t1)
set_option maxRecDepth 65536 in
set_option maxHeartbeats 40000000 in
theorem rm_ini (l : Launch) (Z : State) (a0 : Array Value) (hw : ∀ d ∈ tables_1, d.before a0 Z = true) (ws : List Jvm.Cond) (a1 : Addr) (u1 : Int32) (t1 : UInt64) (u_unplaced u_total : Value) (h0 : Heap) (n0 : Nat) (Z0 : n0 ≤ h0.size) (E_a1 : Exa Z h0 a1 "com/example/berthwise/berthwise/model/Ranked$Rank") (F_unplaced : Fld Z h0 a1 "com/example/berthwise/berthwise/model/Ranked$Rank" "unplaced" "I" u_unplaced) (F_total : Fld Z h0 a1 "com/example/berthwise/berthwise/model/Ranked$Rank" "total" "D" u_total) (g_a1 : n0 ≤ a1) :
    MetFree l (⟨"com/example/berthwise/berthwise/model/Ranked$Rank", "<init>", "(ID)V"⟩ : MethodName) (head1 (Jvm.Cond.code (⟨"com/example/berthwise/berthwise/model/Ranked$Rank", "<init>", "(ID)V"⟩ : MethodName) prog_30_method_1_code 4 none :: ws) ({ frames := 2, cells := 0, slots := 0, locals := 24 } : Room)) (fun aa U => aa = #[(.ref a1), (.int u1), (.double t1)] ∧ Z.Warmed39 U.vm ∧ U.heap = h0) (fun _ _ _ _ _ => True) (fun _ U o U' => ∃ v L, o = .returned v ∧ Q_ini Z a1 u1 t1 u_unplaced u_total h0 n0 v U'.heap L ∧ FrameEnd U o U' L ({ frames := 2, cells := 0, slots := 0, locals := 24 } : Room).cells ({ frames := 2, cells := 0, slots := 0, locals := 24 } : Room).slots) := by
  refine MetFree.of_bodySF (plainFor_of_name pn_2) hisR ?_
  intro p e s m args below meth c s₁ Bd hml0 hP hK
  obtain ⟨rfl, hZ, hh⟩ := hP
  have hx := Bd.exec
  have hby := Bd.bytes
  have hml : c.maxLocals = 4 := hml0
  have hown : s.vm.findClass "com/example/berthwise/berthwise/model/Ranked$Rank" = some m.cls := findClass_of_methodNamed Bd.named
  have hnm := (name_of_methodNamed Bd.named Bd.method).1
  have hlk : meth.locks = false := BodyLoose.notSynchronized Bd
  have X0 : Stand p l e ({ frames := 2, cells := 0, slots := 0, locals := 24 } : Room) s m #[(.ref a1), (.int u1), (.double t1)] below meth c s₁ [] 0 0 := Stand.of_body Bd
  have e0 : s₁.heap = h0 := by rw [← hh, Bd.state]; rfl
  have N0 := Fr.nil n0
  have K0 : Keep h0 h0 [a1] := Keep.refl _ _
  show Gl p.tables e below (QQof s (Q_ini Z a1 u1 t1 u_unplaced u_total h0 n0) 0 0) (s₁.setTop (entryFrame m #[(.ref a1), (.int u1), (.double t1)] 4))
  refine Gl.go (fun t k => castTop (ef_ini m a1 u1 t1) k) ?_
  show Gl p.tables e below (QQof s (Q_ini Z a1 u1 t1 u_unplaced u_total h0 n0) 0 0) (s₁.setTop (mkF m 0 #[.val (.ref a1), .val (.int u1), .val (.double t1), .second] []))
  refine Gl.go (fun _ k => XS.aloadN X0.here hx rfl (hb hby d2_0) rfl rfl  k) ?_
  show Gl p.tables e below (QQof s (Q_ini Z a1 u1 t1 u_unplaced u_total h0 n0) 0 0) (s₁.setTop (mkF m 1 #[.val (.ref a1), .val (.int u1), .val (.double t1), .second] [(.ref a1)]))
  obtain ⟨_, _, ⟨T1, L1, k1, n1⟩, -, X1, ⟨Lc1, hQ1, l1, y1, z1⟩, st1⟩ := X0.specialBack hx (y := (⟨"java/lang/Record", "<init>", "()V"⟩ : MethodName)) rfl hown (mvT hZ (hw _ (List.mem_of_getElem? (i := 12) rfl))) (mvT hZ (hw _ (List.mem_of_getElem? (i := 13) rfl))) (mvT hZ (hw _ (List.mem_of_getElem? (i := 16) rfl))) (by decide) (backOf (W := 0) (rm_rec l Z a0 hw [] a1 h0 n0 Z0 ) hZ (hw _ (List.mem_of_getElem? (i := 16) rfl)) (hw _ (List.mem_of_getElem? (i := 15) rfl)) (by decide) (by decide)) (g := (mkF m 1 #[.val (.ref a1), .val (.int u1), .val (.double t1), .second] [(.ref a1)])) rfl (by rw [hml]; rfl) (Steps.refl _) (a := a1) (argsL := []) (rest := []) (lenOf pd_0 rfl) rfl (by show 2 * 0 + _ ≤ _; exact Nat.le_of_eq rfl) (hb hby d2_1) (fun _ _ => ⟨rfl, e0, (by decide : 0 + 0 ≤ _), (by decide : 0 + 0 ≤ _)⟩)
  dsimp only [Pt.U, Pt.locs, Pt.cells, Pt.slots] at X1 l1 y1 z1 st1 hQ1
  subst l1 y1 z1
  obtain ⟨rfl, Nq1, e1⟩ := hQ1
  have N1 := Fr.app N0 Nq1
  refine Gl.go (fun _ k => st1.trans k) ?_
  show Gl p.tables e below (QQof s (Q_ini Z a1 u1 t1 u_unplaced u_total h0 n0) 0 0) (T1.setTop (mkF m 4 #[.val (.ref a1), .val (.int u1), .val (.double t1), .second] []))
  refine Gl.go (fun _ k => XS.aloadN X1.here hx rfl (hb hby d2_4) rfl rfl  k) ?_
  show Gl p.tables e below (QQof s (Q_ini Z a1 u1 t1 u_unplaced u_total h0 n0) 0 0) (T1.setTop (mkF m 5 #[.val (.ref a1), .val (.int u1), .val (.double t1), .second] [(.ref a1)]))
  refine Gl.go (fun _ k => XS.iloadN X1.here hx rfl (hb hby d2_5) rfl  k) ?_
  show Gl p.tables e below (QQof s (Q_ini Z a1 u1 t1 u_unplaced u_total h0 n0) 0 0) (T1.setTop (mkF m 6 #[.val (.ref a1), .val (.int u1), .val (.double t1), .second] [(.int u1), (.ref a1)]))
  obtain ⟨T2, h2, X2, e2, W2, st2⟩ := putF X1 hx hZ hown (host := "") (Or.inl (hw _ (List.mem_of_getElem? (i := 20) rfl))) Via.refl e1 F_unplaced E_a1 (Or.inr ⟨(hw _ (List.mem_of_getElem? (i := 21) rfl)), rfl, hnm⟩) (hw _ (List.mem_of_getElem? (i := 7) rfl)) (ty := .int) (by decide) rfl rfl (g := (mkF m 6 #[.val (.ref a1), .val (.int u1), .val (.double t1), .second] [(.int u1), (.ref a1)])) rfl rfl (hb hby d2_6)
  have E_a1_2 : Exa Z h2 a1 "com/example/berthwise/berthwise/model/Ranked$Rank" := E_a1.wr W2
  have F_a1_unplaced_2 : Fld Z h2 a1 "com/example/berthwise/berthwise/model/Ranked$Rank" "unplaced" "I" (.int u1) := F_unplaced.same W2
  have F_a1_total_2 : Fld Z h2 a1 "com/example/berthwise/berthwise/model/Ranked$Rank" "total" "D" u_total := F_total.other W2 (Or.inr (slot_ne (t := .double) (t' := .int) (Or.inr (hw _ (List.mem_of_getElem? (i := 23) rfl))) (Or.inr (hw _ (List.mem_of_getElem? (i := 21) rfl))) (by decide) (by decide) (by decide)))
  have SZ2 : n0 ≤ h2.size := by rw [Wr.size W2]; exact Z0
  have K2 : Keep h0 h2 [a1] := K0.wr W2 (Or.inl (List.mem_of_getElem? (i := 0) rfl))
  have N2 := Fr.snoc X2 N1 g_a1
  refine Gl.go (fun _ k => st2 _ k) ?_
  show Gl p.tables e below (QQof s (Q_ini Z a1 u1 t1 u_unplaced u_total h0 n0) 0 0) (T2.setTop (mkF m 9 #[.val (.ref a1), .val (.int u1), .val (.double t1), .second] []))
  refine Gl.go (fun _ k => XS.aloadN X2.here hx rfl (hb hby d2_9) rfl rfl  k) ?_
  show Gl p.tables e below (QQof s (Q_ini Z a1 u1 t1 u_unplaced u_total h0 n0) 0 0) (T2.setTop (mkF m 10 #[.val (.ref a1), .val (.int u1), .val (.double t1), .second] [(.ref a1)]))
  refine Gl.go (fun _ k => XS.dloadN X2.here hx rfl (hb hby d2_10) rfl  k) ?_
  show Gl p.tables e below (QQof s (Q_ini Z a1 u1 t1 u_unplaced u_total h0 n0) 0 0) (T2.setTop (mkF m 11 #[.val (.ref a1), .val (.int u1), .val (.double t1), .second] [(.double t1), (.ref a1)]))
  obtain ⟨T3, h3, X3, e3, W3, st3⟩ := putF X2 hx hZ hown (host := "") (Or.inl (hw _ (List.mem_of_getElem? (i := 22) rfl))) Via.refl e2 F_a1_total_2 E_a1_2 (Or.inr ⟨(hw _ (List.mem_of_getElem? (i := 23) rfl)), rfl, hnm⟩) (hw _ (List.mem_of_getElem? (i := 7) rfl)) (ty := .double) (by decide) rfl rfl (g := (mkF m 11 #[.val (.ref a1), .val (.int u1), .val (.double t1), .second] [(.double t1), (.ref a1)])) rfl rfl (hb hby d2_11)
  have E_a1_3 : Exa Z h3 a1 "com/example/berthwise/berthwise/model/Ranked$Rank" := E_a1_2.wr W3
  have F_a1_unplaced_3 : Fld Z h3 a1 "com/example/berthwise/berthwise/model/Ranked$Rank" "unplaced" "I" (.int u1) := F_a1_unplaced_2.other W3 (Or.inr (slot_ne (t := .int) (t' := .double) (Or.inr (hw _ (List.mem_of_getElem? (i := 21) rfl))) (Or.inr (hw _ (List.mem_of_getElem? (i := 23) rfl))) (by decide) (by decide) (by decide)))
  have F_a1_total_3 : Fld Z h3 a1 "com/example/berthwise/berthwise/model/Ranked$Rank" "total" "D" (.double t1) := F_a1_total_2.same W3
  have SZ3 : n0 ≤ h3.size := by rw [Wr.size W3]; exact SZ2
  have K3 : Keep h0 h3 [a1] := K2.wr W3 (Or.inl (List.mem_of_getElem? (i := 0) rfl))
  have N3 := Fr.snoc X3 N2 g_a1
  refine Gl.go (fun _ k => st3 _ k) ?_
  show Gl p.tables e below (QQof s (Q_ini Z a1 u1 t1 u_unplaced u_total h0 n0) 0 0) (T3.setTop (mkF m 14 #[.val (.ref a1), .val (.int u1), .val (.double t1), .second] []))
  refine leafV X3 hx hlk Bd.returns (hb hby d2_14) ?_ (by decide) (by decide)
  rw [e3]
  exact ⟨rfl, N3, K3, E_a1_3, F_a1_unplaced_3, F_a1_total_3⟩
def Q_bt (Z : State) (a1 a2 : Addr) (u1 : Int32) (t1 : UInt64) (u2 : Int32) (t2 : UInt64) (h0 : Heap) (n0 : Nat) (v : Option Value) (h : Heap) (L : List Loc) : Prop := v = some (.int (btV u1 t1 u2 t2)) ∧ Fr n0 L ∧ h = h0
set_option maxRecDepth 65536 in
set_option maxHeartbeats 40000000 in
theorem rm_bt (l : Launch) (Z : State) (a0 : Array Value) (hw : ∀ d ∈ tables_1, d.before a0 Z = true) (ws : List Jvm.Cond) (a1 a2 : Addr) (u1 : Int32) (t1 : UInt64) (u2 : Int32) (t2 : UInt64) (h0 : Heap) (n0 : Nat) (Z0 : n0 ≤ h0.size) (hn : Jvm.Free.Fl.NoNaN64 (FP.dsub t2 (4472406533629990549 : UInt64))) (F1 : Fld Z h0 a1 "com/example/berthwise/berthwise/model/Ranked$Rank" "unplaced" "I" (.int u1)) (G1 : Fld Z h0 a1 "com/example/berthwise/berthwise/model/Ranked$Rank" "total" "D" (.double t1)) (F2 : Fld Z h0 a2 "com/example/berthwise/berthwise/model/Ranked$Rank" "unplaced" "I" (.int u2)) (G2 : Fld Z h0 a2 "com/example/berthwise/berthwise/model/Ranked$Rank" "total" "D" (.double t2)) :
    MetFree l (⟨"com/example/berthwise/berthwise/model/Ranked$Rank", "isBetterThan", "(Lcom/example/berthwise/berthwise/model/Ranked$Rank;)Z"⟩ : MethodName) (head1 (Jvm.Cond.code (⟨"com/example/berthwise/berthwise/model/Ranked$Rank", "isBetterThan", "(Lcom/example/berthwise/berthwise/model/Ranked$Rank;)Z"⟩ : MethodName) prog_30_method_2_code 2 (some .boolean) :: ws) ({ frames := 0, cells := 0, slots := 0, locals := 0 } : Room)) (fun aa U => aa = #[(.ref a1), (.ref a2)] ∧ Z.Warmed39 U.vm ∧ U.heap = h0) (fun _ _ _ _ _ => True) (fun _ U o U' => ∃ v L, o = .returned v ∧ Q_bt Z a1 a2 u1 t1 u2 t2 h0 n0 v U'.heap L ∧ FrameEnd U o U' L ({ frames := 0, cells := 0, slots := 0, locals := 0 } : Room).cells ({ frames := 0, cells := 0, slots := 0, locals := 0 } : Room).slots) := by
  refine MetFree.of_bodySF (plainFor_of_name pn_2) hisR ?_
  intro p e s m args below meth c s₁ Bd hml0 hP hK
  obtain ⟨rfl, hZ, hh⟩ := hP
  have hx := Bd.exec
  have hby := Bd.bytes
  have hml : c.maxLocals = 2 := hml0
  have hown : s.vm.findClass "com/example/berthwise/berthwise/model/Ranked$Rank" = some m.cls := findClass_of_methodNamed Bd.named
  have hnm := (name_of_methodNamed Bd.named Bd.method).1
  have hlk : meth.locks = false := BodyLoose.notSynchronized Bd
  have X0 : Stand p l e ({ frames := 0, cells := 0, slots := 0, locals := 0 } : Room) s m #[(.ref a1), (.ref a2)] below meth c s₁ [] 0 0 := Stand.of_body Bd
  have e0 : s₁.heap = h0 := by rw [← hh, Bd.state]; rfl
  have N0 := Fr.nil n0
  have K0 : Keep h0 h0 [] := Keep.refl _ _
  show Gl p.tables e below (QQof s (Q_bt Z a1 a2 u1 t1 u2 t2 h0 n0) 0 0) (s₁.setTop (entryFrame m #[(.ref a1), (.ref a2)] 2))
  refine Gl.go (fun t k => castTop (ef_bt m a1 a2) k) ?_
  show Gl p.tables e below (QQof s (Q_bt Z a1 a2 u1 t1 u2 t2 h0 n0) 0 0) (s₁.setTop (mkF m 0 #[.val (.ref a1), .val (.ref a2)] []))
  refine Gl.go (fun _ k => XS.aloadN X0.here hx rfl (hb hby d5_0) rfl rfl  k) ?_
  show Gl p.tables e below (QQof s (Q_bt Z a1 a2 u1 t1 u2 t2 h0 n0) 0 0) (s₁.setTop (mkF m 1 #[.val (.ref a1), .val (.ref a2)] [(.ref a1)]))
  obtain ⟨T1, X1, e1, st1⟩ := getF X0 hx hZ hown (host := "") (Or.inl (hw _ (List.mem_of_getElem? (i := 20) rfl))) Via.refl e0 F1 (g := (mkF m 1 #[.val (.ref a1), .val (.ref a2)] [(.ref a1)])) rfl rfl (hb hby d5_1)
  refine Gl.go (fun _ k => st1 _ k) ?_
  show Gl p.tables e below (QQof s (Q_bt Z a1 a2 u1 t1 u2 t2 h0 n0) 0 0) (T1.setTop (mkF m 4 #[.val (.ref a1), .val (.ref a2)] [(.int u1)]))
  refine Gl.go (fun _ k => XS.aloadN X1.here hx rfl (hb hby d5_4) rfl rfl  k) ?_
  show Gl p.tables e below (QQof s (Q_bt Z a1 a2 u1 t1 u2 t2 h0 n0) 0 0) (T1.setTop (mkF m 5 #[.val (.ref a1), .val (.ref a2)] [(.ref a2), (.int u1)]))
  obtain ⟨T2, X2, e2, st2⟩ := getF X1 hx hZ hown (host := "") (Or.inl (hw _ (List.mem_of_getElem? (i := 20) rfl))) Via.refl e1 F2 (g := (mkF m 5 #[.val (.ref a1), .val (.ref a2)] [(.ref a2), (.int u1)])) rfl rfl (hb hby d5_5)
  refine Gl.go (fun _ k => st2 _ k) ?_
  show Gl p.tables e below (QQof s (Q_bt Z a1 a2 u1 t1 u2 t2 h0 n0) 0 0) (T2.setTop (mkF m 8 #[.val (.ref a1), .val (.ref a2)] [(.int u2), (.int u1)]))
  by_cases h8 : u1 = u2
  · skip
    refine Gl.go (fun _ k => XS.icmpYes X2.here hx rfl (pc0 := 8) (pc' := 28) rfl (hb hby d5_8) rfl (teq h8).1 (by decide) (by decide) k) ?_
    show Gl p.tables e below (QQof s (Q_bt Z a1 a2 u1 t1 u2 t2 h0 n0) 0 0) (T2.setTop (mkF m 28 #[.val (.ref a1), .val (.ref a2)] []))
    refine Gl.go (fun _ k => XS.aloadN X2.here hx rfl (hb hby d5_28) rfl rfl  k) ?_
    show Gl p.tables e below (QQof s (Q_bt Z a1 a2 u1 t1 u2 t2 h0 n0) 0 0) (T2.setTop (mkF m 29 #[.val (.ref a1), .val (.ref a2)] [(.ref a1)]))
    obtain ⟨T3, X3, e3, st3⟩ := getF X2 hx hZ hown (host := "") (Or.inl (hw _ (List.mem_of_getElem? (i := 22) rfl))) Via.refl e2 G1 (g := (mkF m 29 #[.val (.ref a1), .val (.ref a2)] [(.ref a1)])) rfl rfl (hb hby d5_29)
    refine Gl.go (fun _ k => st3 _ k) ?_
    show Gl p.tables e below (QQof s (Q_bt Z a1 a2 u1 t1 u2 t2 h0 n0) 0 0) (T3.setTop (mkF m 32 #[.val (.ref a1), .val (.ref a2)] [(.double t1)]))
    refine Gl.go (fun _ k => XS.aloadN X3.here hx rfl (hb hby d5_32) rfl rfl  k) ?_
    show Gl p.tables e below (QQof s (Q_bt Z a1 a2 u1 t1 u2 t2 h0 n0) 0 0) (T3.setTop (mkF m 33 #[.val (.ref a1), .val (.ref a2)] [(.ref a2), (.double t1)]))
    obtain ⟨T4, X4, e4, st4⟩ := getF X3 hx hZ hown (host := "") (Or.inl (hw _ (List.mem_of_getElem? (i := 22) rfl))) Via.refl e3 G2 (g := (mkF m 33 #[.val (.ref a1), .val (.ref a2)] [(.ref a2), (.double t1)])) rfl rfl (hb hby d5_33)
    refine Gl.go (fun _ k => st4 _ k) ?_
    show Gl p.tables e below (QQof s (Q_bt Z a1 a2 u1 t1 u2 t2 h0 n0) 0 0) (T4.setTop (mkF m 36 #[.val (.ref a1), .val (.ref a2)] [(.double t2), (.double t1)]))
    refine Gl.go (fun _ k => X4.ldc2DoubleC hx hown (mvT hZ (hw _ (List.mem_of_getElem? (i := 30) rfl))) (g := (mkF m 36 #[.val (.ref a1), .val (.ref a2)] [(.double t2), (.double t1)])) rfl (hb hby d5_36) _ k) ?_
    show Gl p.tables e below (QQof s (Q_bt Z a1 a2 u1 t1 u2 t2 h0 n0) 0 0) (T4.setTop (mkF m 39 #[.val (.ref a1), .val (.ref a2)] [(.double (4472406533629990549 : UInt64)), (.double t2), (.double t1)]))
    refine Gl.go (fun _ k => XS.dsubS X4.here hx rfl (hb hby d5_39) rfl hn rfl k) ?_
    show Gl p.tables e below (QQof s (Q_bt Z a1 a2 u1 t1 u2 t2 h0 n0) 0 0) (T4.setTop (mkF m 40 #[.val (.ref a1), .val (.ref a2)] [(.double (FP.dsub t2 (4472406533629990549 : UInt64))), (.double t1)]))
    refine Gl.go (fun _ k => XS.dcmpS X4.here hx rfl (hb hby d5_40) rfl rfl k) ?_
    show Gl p.tables e below (QQof s (Q_bt Z a1 a2 u1 t1 u2 t2 h0 n0) 0 0) (T4.setTop (mkF m 41 #[.val (.ref a1), .val (.ref a2)] [(.int (cmpValue (FP.dcmp t1 (FP.dsub t2 (4472406533629990549 : UInt64))) .g))]))
    show Gl p.tables e below (QQof s (Q_bt Z a1 a2 u1 t1 u2 t2 h0 n0) 0 0) (T4.setTop (mkF m 41 #[.val (.ref a1), .val (.ref a2)] [(.int (ltT t1 t2))]))
    by_cases h41 : (ltT t1 t2) < (0 : Int32)
    · skip
      refine Gl.go (fun _ k => XS.ifNo X4.here hx rfl (hb hby d5_41) rfl ((if0 _ _).trans (tlt h41).2.1) k) ?_
      show Gl p.tables e below (QQof s (Q_bt Z a1 a2 u1 t1 u2 t2 h0 n0) 0 0) (T4.setTop (mkF m 44 #[.val (.ref a1), .val (.ref a2)] []))
      refine Gl.go (fun _ k => XS.iconst X4.here hx rfl (hb hby d5_44) k) ?_
      show Gl p.tables e below (QQof s (Q_bt Z a1 a2 u1 t1 u2 t2 h0 n0) 0 0) (T4.setTop (mkF m 45 #[.val (.ref a1), .val (.ref a2)] [(.int (1 : Int32))]))
      refine Gl.go (fun _ k => XS.goto X4.here hx rfl (pc0 := 45) (pc' := 49) rfl (hb hby d5_45) (by decide) (by decide) k) ?_
      show Gl p.tables e below (QQof s (Q_bt Z a1 a2 u1 t1 u2 t2 h0 n0) 0 0) (T4.setTop (mkF m 49 #[.val (.ref a1), .val (.ref a2)] [(.int (1 : Int32))]))
      refine leafN X4 hx hlk (t := .boolean) Bd.returns (by simp) (hb hby d5_49) ?_ (by decide) (by decide)
      exact ⟨by rw [nar1, btV, if_pos h8, if_pos h41], N0, e4⟩
    · skip
      refine Gl.go (fun _ k => XS.ifYes X4.here hx rfl (pc0 := 41) (pc' := 48) rfl (hb hby d5_41) rfl ((if0 _ _).trans (flt h41).2.1) (by decide) (by decide) k) ?_
      show Gl p.tables e below (QQof s (Q_bt Z a1 a2 u1 t1 u2 t2 h0 n0) 0 0) (T4.setTop (mkF m 48 #[.val (.ref a1), .val (.ref a2)] []))
      refine Gl.go (fun _ k => XS.iconst X4.here hx rfl (hb hby d5_48) k) ?_
      show Gl p.tables e below (QQof s (Q_bt Z a1 a2 u1 t1 u2 t2 h0 n0) 0 0) (T4.setTop (mkF m 49 #[.val (.ref a1), .val (.ref a2)] [(.int (0 : Int32))]))
      refine leafN X4 hx hlk (t := .boolean) Bd.returns (by simp) (hb hby d5_49) ?_ (by decide) (by decide)
      exact ⟨by rw [nar0, btV, if_pos h8, if_neg h41], N0, e4⟩
  · skip
    refine Gl.go (fun _ k => XS.icmpNo X2.here hx rfl (hb hby d5_8) rfl (feq h8).1 k) ?_
    show Gl p.tables e below (QQof s (Q_bt Z a1 a2 u1 t1 u2 t2 h0 n0) 0 0) (T2.setTop (mkF m 11 #[.val (.ref a1), .val (.ref a2)] []))
    refine Gl.go (fun _ k => XS.aloadN X2.here hx rfl (hb hby d5_11) rfl rfl  k) ?_
    show Gl p.tables e below (QQof s (Q_bt Z a1 a2 u1 t1 u2 t2 h0 n0) 0 0) (T2.setTop (mkF m 12 #[.val (.ref a1), .val (.ref a2)] [(.ref a1)]))
    obtain ⟨T5, X5, e5, st5⟩ := getF X2 hx hZ hown (host := "") (Or.inl (hw _ (List.mem_of_getElem? (i := 20) rfl))) Via.refl e2 F1 (g := (mkF m 12 #[.val (.ref a1), .val (.ref a2)] [(.ref a1)])) rfl rfl (hb hby d5_12)
    refine Gl.go (fun _ k => st5 _ k) ?_
    show Gl p.tables e below (QQof s (Q_bt Z a1 a2 u1 t1 u2 t2 h0 n0) 0 0) (T5.setTop (mkF m 15 #[.val (.ref a1), .val (.ref a2)] [(.int u1)]))
    refine Gl.go (fun _ k => XS.aloadN X5.here hx rfl (hb hby d5_15) rfl rfl  k) ?_
    show Gl p.tables e below (QQof s (Q_bt Z a1 a2 u1 t1 u2 t2 h0 n0) 0 0) (T5.setTop (mkF m 16 #[.val (.ref a1), .val (.ref a2)] [(.ref a2), (.int u1)]))
    obtain ⟨T6, X6, e6, st6⟩ := getF X5 hx hZ hown (host := "") (Or.inl (hw _ (List.mem_of_getElem? (i := 20) rfl))) Via.refl e5 F2 (g := (mkF m 16 #[.val (.ref a1), .val (.ref a2)] [(.ref a2), (.int u1)])) rfl rfl (hb hby d5_16)
    refine Gl.go (fun _ k => st6 _ k) ?_
    show Gl p.tables e below (QQof s (Q_bt Z a1 a2 u1 t1 u2 t2 h0 n0) 0 0) (T6.setTop (mkF m 19 #[.val (.ref a1), .val (.ref a2)] [(.int u2), (.int u1)]))
    by_cases h19 : u1 < u2
    · skip
      refine Gl.go (fun _ k => XS.icmpNo X6.here hx rfl (hb hby d5_19) rfl (tlt h19).2.1 k) ?_
      show Gl p.tables e below (QQof s (Q_bt Z a1 a2 u1 t1 u2 t2 h0 n0) 0 0) (T6.setTop (mkF m 22 #[.val (.ref a1), .val (.ref a2)] []))
      refine Gl.go (fun _ k => XS.iconst X6.here hx rfl (hb hby d5_22) k) ?_
      show Gl p.tables e below (QQof s (Q_bt Z a1 a2 u1 t1 u2 t2 h0 n0) 0 0) (T6.setTop (mkF m 23 #[.val (.ref a1), .val (.ref a2)] [(.int (1 : Int32))]))
      refine Gl.go (fun _ k => XS.goto X6.here hx rfl (pc0 := 23) (pc' := 27) rfl (hb hby d5_23) (by decide) (by decide) k) ?_
      show Gl p.tables e below (QQof s (Q_bt Z a1 a2 u1 t1 u2 t2 h0 n0) 0 0) (T6.setTop (mkF m 27 #[.val (.ref a1), .val (.ref a2)] [(.int (1 : Int32))]))
      refine leafN X6 hx hlk (t := .boolean) Bd.returns (by simp) (hb hby d5_27) ?_ (by decide) (by decide)
      exact ⟨by rw [nar1, btV, if_neg h8, if_pos h19], N0, e6⟩
    · skip
      refine Gl.go (fun _ k => XS.icmpYes X6.here hx rfl (pc0 := 19) (pc' := 26) rfl (hb hby d5_19) rfl (flt h19).2.1 (by decide) (by decide) k) ?_
      show Gl p.tables e below (QQof s (Q_bt Z a1 a2 u1 t1 u2 t2 h0 n0) 0 0) (T6.setTop (mkF m 26 #[.val (.ref a1), .val (.ref a2)] []))
      refine Gl.go (fun _ k => XS.iconst X6.here hx rfl (hb hby d5_26) k) ?_
      show Gl p.tables e below (QQof s (Q_bt Z a1 a2 u1 t1 u2 t2 h0 n0) 0 0) (T6.setTop (mkF m 27 #[.val (.ref a1), .val (.ref a2)] [(.int (0 : Int32))]))
      refine leafN X6 hx hlk (t := .boolean) Bd.returns (by simp) (hb hby d5_27) ?_ (by decide) (by decide)
      exact ⟨by rw [nar0, btV, if_neg h8, if_neg h19], N0, e6⟩
def Q_law (Z : State) (u1 v_ sel p_ q_ k_ : Int32) (h0 : Heap) (n0 : Nat) (v : Option Value) (h : Heap) (L : List Loc) : Prop := v = some (.int 1) ∧ Fr n0 L
set_option maxRecDepth 65536 in
set_option maxHeartbeats 40000000 in
theorem rm_law (l : Launch) (Z : State) (a0 : Array Value) (hw : ∀ d ∈ tables_1, d.before a0 Z = true) (ws : List Jvm.Cond) (u1 v_ sel p_ q_ k_ : Int32) (h0 : Heap) (n0 : Nat) (Z0 : n0 ≤ h0.size)  :
    MetFree l x (head1 (Jvm.Cond.code x code maxLocals ret :: ws) room_1) (fun aa U => aa = #[(.int u1), (.int v_), (.int sel), (.int p_), (.int q_), (.int k_)] ∧ Z.Warmed39 U.vm ∧ U.heap = h0) (fun _ _ _ _ _ => True) (fun _ U o U' => ∃ v L, o = .returned v ∧ Q_law Z u1 v_ sel p_ q_ k_ h0 n0 v U'.heap L ∧ FrameEnd U o U' L 2 4) := by
  refine MetFree.of_bodySF (plainFor_of_name pn_1) hisR ?_
  intro p e s m args below meth c s₁ Bd hml0 hP hK
  obtain ⟨rfl, hZ, hh⟩ := hP
  have hx := Bd.exec
  have hby := Bd.bytes
  have hml : c.maxLocals = 23 := hml0
  have hown : s.vm.findClass "com/example/berthwise/berthwise/model/RankIsBetterThanPinLaw" = some m.cls := findClass_of_methodNamed Bd.named
  have hnm := (name_of_methodNamed Bd.named Bd.method).1
  have hlk : meth.locks = false := BodyLoose.notSynchronized Bd
  have X0 : Stand p l e room_1 s m #[(.int u1), (.int v_), (.int sel), (.int p_), (.int q_), (.int k_)] below meth c s₁ [] 0 0 := Stand.of_body Bd
  have e0 : s₁.heap = h0 := by rw [← hh, Bd.state]; rfl
  have N0 := Fr.nil n0
  have K0 : Keep h0 h0 [] := Keep.refl _ _
  show Gl p.tables e below (QQof s (Q_law Z u1 v_ sel p_ q_ k_ h0 n0) 2 4) (s₁.setTop (entryFrame m #[(.int u1), (.int v_), (.int sel), (.int p_), (.int q_), (.int k_)] maxLocals))
  refine Gl.go (fun t k => castTop (ef_law m u1 v_ sel p_ q_ k_) k) ?_
  show Gl p.tables e below (QQof s (Q_law Z u1 v_ sel p_ q_ k_ h0 n0) 2 4) (s₁.setTop (mkF m 0 #[.val (.int u1), .val (.int v_), .val (.int sel), .val (.int p_), .val (.int q_), .val (.int k_), .unset, .unset, .unset, .unset, .unset, .unset, .unset, .unset, .unset, .unset, .unset, .unset, .unset, .unset, .unset, .unset, .unset] []))
  refine Gl.go (fun _ k => XS.iloadN X0.here hx rfl (hb hby at_0) rfl  k) ?_
  show Gl p.tables e below (QQof s (Q_law Z u1 v_ sel p_ q_ k_ h0 n0) 2 4) (s₁.setTop (mkF m 1 #[.val (.int u1), .val (.int v_), .val (.int sel), .val (.int p_), .val (.int q_), .val (.int k_), .unset, .unset, .unset, .unset, .unset, .unset, .unset, .unset, .unset, .unset, .unset, .unset, .unset, .unset, .unset, .unset, .unset] [(.int sel)]))
  refine Gl.go (fun _ k => XS.iconst X0.here hx rfl (hb hby at_1) k) ?_
  show Gl p.tables e below (QQof s (Q_law Z u1 v_ sel p_ q_ k_ h0 n0) 2 4) (s₁.setTop (mkF m 2 #[.val (.int u1), .val (.int v_), .val (.int sel), .val (.int p_), .val (.int q_), .val (.int k_), .unset, .unset, .unset, .unset, .unset, .unset, .unset, .unset, .unset, .unset, .unset, .unset, .unset, .unset, .unset, .unset, .unset] [(.int (1 : Int32)), (.int sel)]))
  refine Gl.go (fun _ k => XS.iand X0.here hx rfl (hb hby at_2) rfl k) ?_
  show Gl p.tables e below (QQof s (Q_law Z u1 v_ sel p_ q_ k_ h0 n0) 2 4) (s₁.setTop (mkF m 3 #[.val (.int u1), .val (.int v_), .val (.int sel), .val (.int p_), .val (.int q_), .val (.int k_), .unset, .unset, .unset, .unset, .unset, .unset, .unset, .unset, .unset, .unset, .unset, .unset, .unset, .unset, .unset, .unset, .unset] [(.int (sel &&& (1 : Int32)))]))
  have D3_1 : ∀ t, Steps p.tables e below (s₁.setTop (mkF m 11 #[.val (.int u1), .val (.int v_), .val (.int sel), .val (.int p_), .val (.int q_), .val (.int k_), .unset, .unset, .unset, .unset, .unset, .unset, .unset, .unset, .unset, .unset, .unset, .unset, .unset, .unset, .unset, .unset, .unset] [(.int (if (sel &&& (1 : Int32)) = (0 : Int32) then v_ else u1))])) t → Steps p.tables e below (s₁.setTop (mkF m 3 #[.val (.int u1), .val (.int v_), .val (.int sel), .val (.int p_), .val (.int q_), .val (.int k_), .unset, .unset, .unset, .unset, .unset, .unset, .unset, .unset, .unset, .unset, .unset, .unset, .unset, .unset, .unset, .unset, .unset] [(.int (sel &&& (1 : Int32)))])) t := by
    intro t k
    show Steps p.tables e below (s₁.setTop (mkF m 3 #[.val (.int u1), .val (.int v_), .val (.int sel), .val (.int p_), .val (.int q_), .val (.int k_), .unset, .unset, .unset, .unset, .unset, .unset, .unset, .unset, .unset, .unset, .unset, .unset, .unset, .unset, .unset, .unset, .unset] [(.int (sel &&& (1 : Int32)))])) _
    by_cases hd3_2 : (sel &&& (1 : Int32)) = (0 : Int32)
    · skip
      refine XS.ifYes X0.here hx rfl (pc0 := 3) (pc' := 10) rfl (hb hby at_3) rfl ((if0 _ _).trans (teq hd3_2).1) (by decide) (by decide) ?_
      show Steps p.tables e below (s₁.setTop (mkF m 10 #[.val (.int u1), .val (.int v_), .val (.int sel), .val (.int p_), .val (.int q_), .val (.int k_), .unset, .unset, .unset, .unset, .unset, .unset, .unset, .unset, .unset, .unset, .unset, .unset, .unset, .unset, .unset, .unset, .unset] [])) _
      refine XS.iloadN X0.here hx rfl (hb hby at_10) rfl  ?_
      show Steps p.tables e below (s₁.setTop (mkF m 11 #[.val (.int u1), .val (.int v_), .val (.int sel), .val (.int p_), .val (.int q_), .val (.int k_), .unset, .unset, .unset, .unset, .unset, .unset, .unset, .unset, .unset, .unset, .unset, .unset, .unset, .unset, .unset, .unset, .unset] [(.int v_)])) _
      simp only [if_pos hd3_2] at k
      exact k
    · skip
      refine XS.ifNo X0.here hx rfl (hb hby at_3) rfl ((if0 _ _).trans (feq hd3_2).1) ?_
      show Steps p.tables e below (s₁.setTop (mkF m 6 #[.val (.int u1), .val (.int v_), .val (.int sel), .val (.int p_), .val (.int q_), .val (.int k_), .unset, .unset, .unset, .unset, .unset, .unset, .unset, .unset, .unset, .unset, .unset, .unset, .unset, .unset, .unset, .unset, .unset] [])) _
      refine XS.iloadN X0.here hx rfl (hb hby at_6) rfl  ?_
      show Steps p.tables e below (s₁.setTop (mkF m 7 #[.val (.int u1), .val (.int v_), .val (.int sel), .val (.int p_), .val (.int q_), .val (.int k_), .unset, .unset, .unset, .unset, .unset, .unset, .unset, .unset, .unset, .unset, .unset, .unset, .unset, .unset, .unset, .unset, .unset] [(.int u1)])) _
      refine XS.goto X0.here hx rfl (pc0 := 7) (pc' := 11) rfl (hb hby at_7) (by decide) (by decide) ?_
      show Steps p.tables e below (s₁.setTop (mkF m 11 #[.val (.int u1), .val (.int v_), .val (.int sel), .val (.int p_), .val (.int q_), .val (.int k_), .unset, .unset, .unset, .unset, .unset, .unset, .unset, .unset, .unset, .unset, .unset, .unset, .unset, .unset, .unset, .unset, .unset] [(.int u1)])) _
      simp only [if_neg hd3_2] at k
      exact k
  refine Gl.go (fun _ k => D3_1 _ k) ?_
  show Gl p.tables e below (QQof s (Q_law Z u1 v_ sel p_ q_ k_ h0 n0) 2 4) (s₁.setTop (mkF m 11 #[.val (.int u1), .val (.int v_), .val (.int sel), .val (.int p_), .val (.int q_), .val (.int k_), .unset, .unset, .unset, .unset, .unset, .unset, .unset, .unset, .unset, .unset, .unset, .unset, .unset, .unset, .unset, .unset, .unset] [(.int (if (sel &&& (1 : Int32)) = (0 : Int32) then v_ else u1))]))
  generalize h_u2 : (if (sel &&& (1 : Int32)) = (0 : Int32) then v_ else u1) = u2
  show Gl p.tables e below (QQof s (Q_law Z u1 v_ sel p_ q_ k_ h0 n0) 2 4) (s₁.setTop (mkF m 11 #[.val (.int u1), .val (.int v_), .val (.int sel), .val (.int p_), .val (.int q_), .val (.int k_), .unset, .unset, .unset, .unset, .unset, .unset, .unset, .unset, .unset, .unset, .unset, .unset, .unset, .unset, .unset, .unset, .unset] [(.int u2)]))
  refine Gl.go (fun _ k => XS.istore X0.here hx rfl (hb hby at_11) rfl (l' := #[.val (.int u1), .val (.int v_), .val (.int sel), .val (.int p_), .val (.int q_), .val (.int k_), .val (.int u2), .unset, .unset, .unset, .unset, .unset, .unset, .unset, .unset, .unset, .unset, .unset, .unset, .unset, .unset, .unset, .unset]) rfl k) ?_
  show Gl p.tables e below (QQof s (Q_law Z u1 v_ sel p_ q_ k_ h0 n0) 2 4) (s₁.setTop (mkF m 13 #[.val (.int u1), .val (.int v_), .val (.int sel), .val (.int p_), .val (.int q_), .val (.int k_), .val (.int u2), .unset, .unset, .unset, .unset, .unset, .unset, .unset, .unset, .unset, .unset, .unset, .unset, .unset, .unset, .unset, .unset] []))
  refine Gl.go (fun _ k => XS.iloadN X0.here hx rfl (hb hby at_13) rfl  k) ?_
  show Gl p.tables e below (QQof s (Q_law Z u1 v_ sel p_ q_ k_ h0 n0) 2 4) (s₁.setTop (mkF m 14 #[.val (.int u1), .val (.int v_), .val (.int sel), .val (.int p_), .val (.int q_), .val (.int k_), .val (.int u2), .unset, .unset, .unset, .unset, .unset, .unset, .unset, .unset, .unset, .unset, .unset, .unset, .unset, .unset, .unset, .unset] [(.int p_)]))
  refine Gl.go (fun _ k => XS.sipush X0.here hx rfl (hb hby at_14) k) ?_
  show Gl p.tables e below (QQof s (Q_law Z u1 v_ sel p_ q_ k_ h0 n0) 2 4) (s₁.setTop (mkF m 17 #[.val (.int u1), .val (.int v_), .val (.int sel), .val (.int p_), .val (.int q_), .val (.int k_), .val (.int u2), .unset, .unset, .unset, .unset, .unset, .unset, .unset, .unset, .unset, .unset, .unset, .unset, .unset, .unset, .unset, .unset] [(.int (1000 : Int32)), (.int p_)]))
  refine Gl.go (fun _ k => iremM X0 hx rfl (hb hby at_17) rfl (by decide) k) ?_
  show Gl p.tables e below (QQof s (Q_law Z u1 v_ sel p_ q_ k_ h0 n0) 2 4) (s₁.setTop (mkF m 18 #[.val (.int u1), .val (.int v_), .val (.int sel), .val (.int p_), .val (.int q_), .val (.int k_), .val (.int u2), .unset, .unset, .unset, .unset, .unset, .unset, .unset, .unset, .unset, .unset, .unset, .unset, .unset, .unset, .unset, .unset] [(.int (p_ % (1000 : Int32)))]))
  have ha := own_mod p_ (1000 : Int32) 1000 (by decide) (by omega)
  have hd := own_mod q_ (4 : Int32) 4 (by decide) (by omega)
  have hk := own_mod5 k_
  generalize h_pa : (p_ % (1000 : Int32)) = pa at ha ⊢
  show Gl p.tables e below (QQof s (Q_law Z u1 v_ sel p_ q_ k_ h0 n0) 2 4) (s₁.setTop (mkF m 18 #[.val (.int u1), .val (.int v_), .val (.int sel), .val (.int p_), .val (.int q_), .val (.int k_), .val (.int u2), .unset, .unset, .unset, .unset, .unset, .unset, .unset, .unset, .unset, .unset, .unset, .unset, .unset, .unset, .unset, .unset] [(.int pa)]))
  refine Gl.go (fun _ k => XS.istore X0.here hx rfl (hb hby at_18) rfl (l' := #[.val (.int u1), .val (.int v_), .val (.int sel), .val (.int p_), .val (.int q_), .val (.int k_), .val (.int u2), .val (.int pa), .unset, .unset, .unset, .unset, .unset, .unset, .unset, .unset, .unset, .unset, .unset, .unset, .unset, .unset, .unset]) rfl k) ?_
  show Gl p.tables e below (QQof s (Q_law Z u1 v_ sel p_ q_ k_ h0 n0) 2 4) (s₁.setTop (mkF m 20 #[.val (.int u1), .val (.int v_), .val (.int sel), .val (.int p_), .val (.int q_), .val (.int k_), .val (.int u2), .val (.int pa), .unset, .unset, .unset, .unset, .unset, .unset, .unset, .unset, .unset, .unset, .unset, .unset, .unset, .unset, .unset] []))
  refine Gl.go (fun _ k => XS.iload X0.here hx rfl (hb hby at_20) rfl  k) ?_
  show Gl p.tables e below (QQof s (Q_law Z u1 v_ sel p_ q_ k_ h0 n0) 2 4) (s₁.setTop (mkF m 22 #[.val (.int u1), .val (.int v_), .val (.int sel), .val (.int p_), .val (.int q_), .val (.int k_), .val (.int u2), .val (.int pa), .unset, .unset, .unset, .unset, .unset, .unset, .unset, .unset, .unset, .unset, .unset, .unset, .unset, .unset, .unset] [(.int q_)]))
  refine Gl.go (fun _ k => XS.iconst X0.here hx rfl (hb hby at_22) k) ?_
  show Gl p.tables e below (QQof s (Q_law Z u1 v_ sel p_ q_ k_ h0 n0) 2 4) (s₁.setTop (mkF m 23 #[.val (.int u1), .val (.int v_), .val (.int sel), .val (.int p_), .val (.int q_), .val (.int k_), .val (.int u2), .val (.int pa), .unset, .unset, .unset, .unset, .unset, .unset, .unset, .unset, .unset, .unset, .unset, .unset, .unset, .unset, .unset] [(.int (4 : Int32)), (.int q_)]))
  refine Gl.go (fun _ k => iremM X0 hx rfl (hb hby at_23) rfl (by decide) k) ?_
  show Gl p.tables e below (QQof s (Q_law Z u1 v_ sel p_ q_ k_ h0 n0) 2 4) (s₁.setTop (mkF m 24 #[.val (.int u1), .val (.int v_), .val (.int sel), .val (.int p_), .val (.int q_), .val (.int k_), .val (.int u2), .val (.int pa), .unset, .unset, .unset, .unset, .unset, .unset, .unset, .unset, .unset, .unset, .unset, .unset, .unset, .unset, .unset] [(.int (q_ % (4 : Int32)))]))
  generalize h_qd : (q_ % (4 : Int32)) = qd at hd ⊢
  show Gl p.tables e below (QQof s (Q_law Z u1 v_ sel p_ q_ k_ h0 n0) 2 4) (s₁.setTop (mkF m 24 #[.val (.int u1), .val (.int v_), .val (.int sel), .val (.int p_), .val (.int q_), .val (.int k_), .val (.int u2), .val (.int pa), .unset, .unset, .unset, .unset, .unset, .unset, .unset, .unset, .unset, .unset, .unset, .unset, .unset, .unset, .unset] [(.int qd)]))
  refine Gl.go (fun _ k => XS.istore X0.here hx rfl (hb hby at_24) rfl (l' := #[.val (.int u1), .val (.int v_), .val (.int sel), .val (.int p_), .val (.int q_), .val (.int k_), .val (.int u2), .val (.int pa), .val (.int qd), .unset, .unset, .unset, .unset, .unset, .unset, .unset, .unset, .unset, .unset, .unset, .unset, .unset, .unset]) rfl k) ?_
  show Gl p.tables e below (QQof s (Q_law Z u1 v_ sel p_ q_ k_ h0 n0) 2 4) (s₁.setTop (mkF m 26 #[.val (.int u1), .val (.int v_), .val (.int sel), .val (.int p_), .val (.int q_), .val (.int k_), .val (.int u2), .val (.int pa), .val (.int qd), .unset, .unset, .unset, .unset, .unset, .unset, .unset, .unset, .unset, .unset, .unset, .unset, .unset, .unset] []))
  refine Gl.go (fun _ k => XS.iload X0.here hx rfl (hb hby at_26) rfl  k) ?_
  show Gl p.tables e below (QQof s (Q_law Z u1 v_ sel p_ q_ k_ h0 n0) 2 4) (s₁.setTop (mkF m 28 #[.val (.int u1), .val (.int v_), .val (.int sel), .val (.int p_), .val (.int q_), .val (.int k_), .val (.int u2), .val (.int pa), .val (.int qd), .unset, .unset, .unset, .unset, .unset, .unset, .unset, .unset, .unset, .unset, .unset, .unset, .unset, .unset] [(.int pa)]))
  refine Gl.go (fun _ k => XS.iload X0.here hx rfl (hb hby at_28) rfl  k) ?_
  show Gl p.tables e below (QQof s (Q_law Z u1 v_ sel p_ q_ k_ h0 n0) 2 4) (s₁.setTop (mkF m 30 #[.val (.int u1), .val (.int v_), .val (.int sel), .val (.int p_), .val (.int q_), .val (.int k_), .val (.int u2), .val (.int pa), .val (.int qd), .unset, .unset, .unset, .unset, .unset, .unset, .unset, .unset, .unset, .unset, .unset, .unset, .unset, .unset] [(.int qd), (.int pa)]))
  refine Gl.go (fun _ k => XS.iadd X0.here hx rfl (hb hby at_30) rfl k) ?_
  show Gl p.tables e below (QQof s (Q_law Z u1 v_ sel p_ q_ k_ h0 n0) 2 4) (s₁.setTop (mkF m 31 #[.val (.int u1), .val (.int v_), .val (.int sel), .val (.int p_), .val (.int q_), .val (.int k_), .val (.int u2), .val (.int pa), .val (.int qd), .unset, .unset, .unset, .unset, .unset, .unset, .unset, .unset, .unset, .unset, .unset, .unset, .unset, .unset] [(.int (pa + qd))]))
  refine Gl.go (fun _ k => XS.istore X0.here hx rfl (hb hby at_31) rfl (l' := #[.val (.int u1), .val (.int v_), .val (.int sel), .val (.int p_), .val (.int q_), .val (.int k_), .val (.int u2), .val (.int pa), .val (.int qd), .val (.int (pa + qd)), .unset, .unset, .unset, .unset, .unset, .unset, .unset, .unset, .unset, .unset, .unset, .unset, .unset]) rfl k) ?_
  show Gl p.tables e below (QQof s (Q_law Z u1 v_ sel p_ q_ k_ h0 n0) 2 4) (s₁.setTop (mkF m 33 #[.val (.int u1), .val (.int v_), .val (.int sel), .val (.int p_), .val (.int q_), .val (.int k_), .val (.int u2), .val (.int pa), .val (.int qd), .val (.int (pa + qd)), .unset, .unset, .unset, .unset, .unset, .unset, .unset, .unset, .unset, .unset, .unset, .unset, .unset] []))
  refine Gl.go (fun _ k => XS.iload X0.here hx rfl (hb hby at_33) rfl  k) ?_
  show Gl p.tables e below (QQof s (Q_law Z u1 v_ sel p_ q_ k_ h0 n0) 2 4) (s₁.setTop (mkF m 35 #[.val (.int u1), .val (.int v_), .val (.int sel), .val (.int p_), .val (.int q_), .val (.int k_), .val (.int u2), .val (.int pa), .val (.int qd), .val (.int (pa + qd)), .unset, .unset, .unset, .unset, .unset, .unset, .unset, .unset, .unset, .unset, .unset, .unset, .unset] [(.int k_)]))
  refine Gl.go (fun _ k => X0.ldcInt hx hown (mvT hZ (hw _ (List.mem_of_getElem? (i := 0) rfl))) (g := (mkF m 35 #[.val (.int u1), .val (.int v_), .val (.int sel), .val (.int p_), .val (.int q_), .val (.int k_), .val (.int u2), .val (.int pa), .val (.int qd), .val (.int (pa + qd)), .unset, .unset, .unset, .unset, .unset, .unset, .unset, .unset, .unset, .unset, .unset, .unset, .unset] [(.int k_)])) rfl (hb hby at_35) _ k) ?_
  show Gl p.tables e below (QQof s (Q_law Z u1 v_ sel p_ q_ k_ h0 n0) 2 4) (s₁.setTop (mkF m 37 #[.val (.int u1), .val (.int v_), .val (.int sel), .val (.int p_), .val (.int q_), .val (.int k_), .val (.int u2), .val (.int pa), .val (.int qd), .val (.int (pa + qd)), .unset, .unset, .unset, .unset, .unset, .unset, .unset, .unset, .unset, .unset, .unset, .unset, .unset] [(.int (2147483647 : Int32)), (.int k_)]))
  refine Gl.go (fun _ k => XS.iand X0.here hx rfl (hb hby at_37) rfl k) ?_
  show Gl p.tables e below (QQof s (Q_law Z u1 v_ sel p_ q_ k_ h0 n0) 2 4) (s₁.setTop (mkF m 38 #[.val (.int u1), .val (.int v_), .val (.int sel), .val (.int p_), .val (.int q_), .val (.int k_), .val (.int u2), .val (.int pa), .val (.int qd), .val (.int (pa + qd)), .unset, .unset, .unset, .unset, .unset, .unset, .unset, .unset, .unset, .unset, .unset, .unset, .unset] [(.int (k_ &&& (2147483647 : Int32)))]))
  refine Gl.go (fun _ k => XS.iconst X0.here hx rfl (hb hby at_38) k) ?_
  show Gl p.tables e below (QQof s (Q_law Z u1 v_ sel p_ q_ k_ h0 n0) 2 4) (s₁.setTop (mkF m 39 #[.val (.int u1), .val (.int v_), .val (.int sel), .val (.int p_), .val (.int q_), .val (.int k_), .val (.int u2), .val (.int pa), .val (.int qd), .val (.int (pa + qd)), .unset, .unset, .unset, .unset, .unset, .unset, .unset, .unset, .unset, .unset, .unset, .unset, .unset] [(.int (5 : Int32)), (.int (k_ &&& (2147483647 : Int32)))]))
  refine Gl.go (fun _ k => iremM X0 hx rfl (hb hby at_39) rfl (by decide) k) ?_
  show Gl p.tables e below (QQof s (Q_law Z u1 v_ sel p_ q_ k_ h0 n0) 2 4) (s₁.setTop (mkF m 40 #[.val (.int u1), .val (.int v_), .val (.int sel), .val (.int p_), .val (.int q_), .val (.int k_), .val (.int u2), .val (.int pa), .val (.int qd), .val (.int (pa + qd)), .unset, .unset, .unset, .unset, .unset, .unset, .unset, .unset, .unset, .unset, .unset, .unset, .unset] [(.int ((k_ &&& (2147483647 : Int32)) % (5 : Int32)))]))
  generalize h_ki : ((k_ &&& (2147483647 : Int32)) % (5 : Int32)) = ki at hk ⊢
  show Gl p.tables e below (QQof s (Q_law Z u1 v_ sel p_ q_ k_ h0 n0) 2 4) (s₁.setTop (mkF m 40 #[.val (.int u1), .val (.int v_), .val (.int sel), .val (.int p_), .val (.int q_), .val (.int k_), .val (.int u2), .val (.int pa), .val (.int qd), .val (.int (pa + qd)), .unset, .unset, .unset, .unset, .unset, .unset, .unset, .unset, .unset, .unset, .unset, .unset, .unset] [(.int ki)]))
  refine Gl.go (fun _ k => XS.istore X0.here hx rfl (hb hby at_40) rfl (l' := #[.val (.int u1), .val (.int v_), .val (.int sel), .val (.int p_), .val (.int q_), .val (.int k_), .val (.int u2), .val (.int pa), .val (.int qd), .val (.int (pa + qd)), .val (.int ki), .unset, .unset, .unset, .unset, .unset, .unset, .unset, .unset, .unset, .unset, .unset, .unset]) rfl k) ?_
  show Gl p.tables e below (QQof s (Q_law Z u1 v_ sel p_ q_ k_ h0 n0) 2 4) (s₁.setTop (mkF m 42 #[.val (.int u1), .val (.int v_), .val (.int sel), .val (.int p_), .val (.int q_), .val (.int k_), .val (.int u2), .val (.int pa), .val (.int qd), .val (.int (pa + qd)), .val (.int ki), .unset, .unset, .unset, .unset, .unset, .unset, .unset, .unset, .unset, .unset, .unset, .unset] []))
  refine Gl.go (fun _ k => XS.iload X0.here hx rfl (hb hby at_42) rfl  k) ?_
  show Gl p.tables e below (QQof s (Q_law Z u1 v_ sel p_ q_ k_ h0 n0) 2 4) (s₁.setTop (mkF m 44 #[.val (.int u1), .val (.int v_), .val (.int sel), .val (.int p_), .val (.int q_), .val (.int k_), .val (.int u2), .val (.int pa), .val (.int qd), .val (.int (pa + qd)), .val (.int ki), .unset, .unset, .unset, .unset, .unset, .unset, .unset, .unset, .unset, .unset, .unset, .unset] [(.int ki)]))
  have U := own_use (pa := pa) (qd := qd) (ki := ki) (by omega) (by omega) hk
  obtain ⟨_, _, ⟨T3, L3, k3, n3⟩, -, X3, ⟨Lc3, hQ3, l3, y3, z3⟩, st3⟩ := Jvm.LawKit.callS X0 hx (y := (⟨"com/example/berthwise/berthwise/model/RankIsBetterThanPinLaw", "offset", "(I)D"⟩ : MethodName)) hown (mvT hZ (hw _ (List.mem_of_getElem? (i := 1) rfl))) (mvT hZ (hw _ (List.mem_of_getElem? (i := 2) rfl))) (mvT hZ (hw _ (List.mem_of_getElem? (i := 3) rfl))) (mvT hZ (hw _ (List.mem_of_getElem? (i := 4) rfl))) (by decide) (backOf (W := 0) (rm_off l Z a0 hw [] ki h0 n0 Z0 ) hZ (hw _ (List.mem_of_getElem? (i := 4) rfl)) (hw _ (List.mem_of_getElem? (i := 3) rfl)) (by decide) (by decide)) (g := (mkF m 44 #[.val (.int u1), .val (.int v_), .val (.int sel), .val (.int p_), .val (.int q_), .val (.int k_), .val (.int u2), .val (.int pa), .val (.int qd), .val (.int (pa + qd)), .val (.int ki), .unset, .unset, .unset, .unset, .unset, .unset, .unset, .unset, .unset, .unset, .unset, .unset] [(.int ki)])) rfl (by rw [hml]; rfl) (argsL := [(.int ki)]) (rest := []) (lenOf pd_1 rfl) rfl (by show 2 * 0 + _ ≤ _; exact Nat.le_of_eq rfl) (hb hby at_44) (fun _ _ => ⟨rfl, e0, (by decide : 0 + 0 ≤ _), (by decide : 0 + 0 ≤ _)⟩)
  dsimp only [Pt.U, Pt.locs, Pt.cells, Pt.slots] at X3 l3 y3 z3 st3 hQ3
  subst l3 y3 z3
  obtain ⟨rfl, Nq3, e3⟩ := hQ3
  have N3 := Fr.app N0 Nq3
  refine Gl.go (fun _ k => st3 _ k) ?_
  show Gl p.tables e below (QQof s (Q_law Z u1 v_ sel p_ q_ k_ h0 n0) 2 4) (T3.setTop (mkF m 47 #[.val (.int u1), .val (.int v_), .val (.int sel), .val (.int p_), .val (.int q_), .val (.int k_), .val (.int u2), .val (.int pa), .val (.int qd), .val (.int (pa + qd)), .val (.int ki), .unset, .unset, .unset, .unset, .unset, .unset, .unset, .unset, .unset, .unset, .unset, .unset] [(.double (offV ki))]))
  refine Gl.go (fun _ k => XS.dstore X3.here hx rfl (hb hby at_47) rfl (l' := #[.val (.int u1), .val (.int v_), .val (.int sel), .val (.int p_), .val (.int q_), .val (.int k_), .val (.int u2), .val (.int pa), .val (.int qd), .val (.int (pa + qd)), .val (.int ki), .val (.double (offV ki)), .second, .unset, .unset, .unset, .unset, .unset, .unset, .unset, .unset, .unset, .unset]) rfl k) ?_
  show Gl p.tables e below (QQof s (Q_law Z u1 v_ sel p_ q_ k_ h0 n0) 2 4) (T3.setTop (mkF m 49 #[.val (.int u1), .val (.int v_), .val (.int sel), .val (.int p_), .val (.int q_), .val (.int k_), .val (.int u2), .val (.int pa), .val (.int qd), .val (.int (pa + qd)), .val (.int ki), .val (.double (offV ki)), .second, .unset, .unset, .unset, .unset, .unset, .unset, .unset, .unset, .unset, .unset] []))
  refine Gl.go (fun _ k => XS.iload X3.here hx rfl (hb hby at_49) rfl  k) ?_
  show Gl p.tables e below (QQof s (Q_law Z u1 v_ sel p_ q_ k_ h0 n0) 2 4) (T3.setTop (mkF m 51 #[.val (.int u1), .val (.int v_), .val (.int sel), .val (.int p_), .val (.int q_), .val (.int k_), .val (.int u2), .val (.int pa), .val (.int qd), .val (.int (pa + qd)), .val (.int ki), .val (.double (offV ki)), .second, .unset, .unset, .unset, .unset, .unset, .unset, .unset, .unset, .unset, .unset] [(.int pa)]))
  refine Gl.go (fun _ k => XS.i2dS X3.here hx rfl (hb hby at_51) rfl rfl k) ?_
  show Gl p.tables e below (QQof s (Q_law Z u1 v_ sel p_ q_ k_ h0 n0) 2 4) (T3.setTop (mkF m 52 #[.val (.int u1), .val (.int v_), .val (.int sel), .val (.int p_), .val (.int q_), .val (.int k_), .val (.int u2), .val (.int pa), .val (.int qd), .val (.int (pa + qd)), .val (.int ki), .val (.double (offV ki)), .second, .unset, .unset, .unset, .unset, .unset, .unset, .unset, .unset, .unset, .unset] [(.double (FP.i2d pa))]))
  refine Gl.go (fun _ k => XS.dstore X3.here hx rfl (hb hby at_52) rfl (l' := #[.val (.int u1), .val (.int v_), .val (.int sel), .val (.int p_), .val (.int q_), .val (.int k_), .val (.int u2), .val (.int pa), .val (.int qd), .val (.int (pa + qd)), .val (.int ki), .val (.double (offV ki)), .second, .val (.double (FP.i2d pa)), .second, .unset, .unset, .unset, .unset, .unset, .unset, .unset, .unset]) rfl k) ?_
  show Gl p.tables e below (QQof s (Q_law Z u1 v_ sel p_ q_ k_ h0 n0) 2 4) (T3.setTop (mkF m 54 #[.val (.int u1), .val (.int v_), .val (.int sel), .val (.int p_), .val (.int q_), .val (.int k_), .val (.int u2), .val (.int pa), .val (.int qd), .val (.int (pa + qd)), .val (.int ki), .val (.double (offV ki)), .second, .val (.double (FP.i2d pa)), .second, .unset, .unset, .unset, .unset, .unset, .unset, .unset, .unset] []))
  refine Gl.go (fun _ k => XS.iload X3.here hx rfl (hb hby at_54) rfl  k) ?_
  show Gl p.tables e below (QQof s (Q_law Z u1 v_ sel p_ q_ k_ h0 n0) 2 4) (T3.setTop (mkF m 56 #[.val (.int u1), .val (.int v_), .val (.int sel), .val (.int p_), .val (.int q_), .val (.int k_), .val (.int u2), .val (.int pa), .val (.int qd), .val (.int (pa + qd)), .val (.int ki), .val (.double (offV ki)), .second, .val (.double (FP.i2d pa)), .second, .unset, .unset, .unset, .unset, .unset, .unset, .unset, .unset] [(.int (pa + qd))]))
  refine Gl.go (fun _ k => XS.i2dS X3.here hx rfl (hb hby at_56) rfl rfl k) ?_
  show Gl p.tables e below (QQof s (Q_law Z u1 v_ sel p_ q_ k_ h0 n0) 2 4) (T3.setTop (mkF m 57 #[.val (.int u1), .val (.int v_), .val (.int sel), .val (.int p_), .val (.int q_), .val (.int k_), .val (.int u2), .val (.int pa), .val (.int qd), .val (.int (pa + qd)), .val (.int ki), .val (.double (offV ki)), .second, .val (.double (FP.i2d pa)), .second, .unset, .unset, .unset, .unset, .unset, .unset, .unset, .unset] [(.double (FP.i2d (pa + qd)))]))
  refine Gl.go (fun _ k => XS.dload X3.here hx rfl (hb hby at_57) rfl  k) ?_
  show Gl p.tables e below (QQof s (Q_law Z u1 v_ sel p_ q_ k_ h0 n0) 2 4) (T3.setTop (mkF m 59 #[.val (.int u1), .val (.int v_), .val (.int sel), .val (.int p_), .val (.int q_), .val (.int k_), .val (.int u2), .val (.int pa), .val (.int qd), .val (.int (pa + qd)), .val (.int ki), .val (.double (offV ki)), .second, .val (.double (FP.i2d pa)), .second, .unset, .unset, .unset, .unset, .unset, .unset, .unset, .unset] [(.double (offV ki)), (.double (FP.i2d (pa + qd)))]))
  refine Gl.go (fun _ k => XS.daddS X3.here hx rfl (hb hby at_59) rfl (own_nn U.1) rfl k) ?_
  show Gl p.tables e below (QQof s (Q_law Z u1 v_ sel p_ q_ k_ h0 n0) 2 4) (T3.setTop (mkF m 60 #[.val (.int u1), .val (.int v_), .val (.int sel), .val (.int p_), .val (.int q_), .val (.int k_), .val (.int u2), .val (.int pa), .val (.int qd), .val (.int (pa + qd)), .val (.int ki), .val (.double (offV ki)), .second, .val (.double (FP.i2d pa)), .second, .unset, .unset, .unset, .unset, .unset, .unset, .unset, .unset] [(.double (FP.dadd (FP.i2d (pa + qd)) (offV ki)))]))
  show Gl p.tables e below (QQof s (Q_law Z u1 v_ sel p_ q_ k_ h0 n0) 2 4) (T3.setTop (mkF m 60 #[.val (.int u1), .val (.int v_), .val (.int sel), .val (.int p_), .val (.int q_), .val (.int k_), .val (.int u2), .val (.int pa), .val (.int qd), .val (.int (pa + qd)), .val (.int ki), .val (.double (offV ki)), .second, .val (.double (FP.i2d pa)), .second, .unset, .unset, .unset, .unset, .unset, .unset, .unset, .unset] [(.double (t2V (pa + qd) ki))]))
  refine Gl.go (fun _ k => XS.dstore X3.here hx rfl (hb hby at_60) rfl (l' := #[.val (.int u1), .val (.int v_), .val (.int sel), .val (.int p_), .val (.int q_), .val (.int k_), .val (.int u2), .val (.int pa), .val (.int qd), .val (.int (pa + qd)), .val (.int ki), .val (.double (offV ki)), .second, .val (.double (FP.i2d pa)), .second, .val (.double (t2V (pa + qd) ki)), .second, .unset, .unset, .unset, .unset, .unset, .unset]) rfl k) ?_
  show Gl p.tables e below (QQof s (Q_law Z u1 v_ sel p_ q_ k_ h0 n0) 2 4) (T3.setTop (mkF m 62 #[.val (.int u1), .val (.int v_), .val (.int sel), .val (.int p_), .val (.int q_), .val (.int k_), .val (.int u2), .val (.int pa), .val (.int qd), .val (.int (pa + qd)), .val (.int ki), .val (.double (offV ki)), .second, .val (.double (FP.i2d pa)), .second, .val (.double (t2V (pa + qd) ki)), .second, .unset, .unset, .unset, .unset, .unset, .unset] []))
  obtain ⟨T4, h4, X4, e4, E4, A4, D4, -, st4⟩ := newO X3 hx hZ hown (hw _ (List.mem_of_getElem? (i := 6) rfl)) (hw _ (List.mem_of_getElem? (i := 7) rfl)) (hw _ (List.mem_of_getElem? (i := 8) rfl)) e3 (g := (mkF m 62 #[.val (.int u1), .val (.int v_), .val (.int sel), .val (.int p_), .val (.int q_), .val (.int k_), .val (.int u2), .val (.int pa), .val (.int qd), .val (.int (pa + qd)), .val (.int ki), .val (.double (offV ki)), .second, .val (.double (FP.i2d pa)), .second, .val (.double (t2V (pa + qd) ki)), .second, .unset, .unset, .unset, .unset, .unset, .unset] [])) rfl (hb hby at_62) (by decide) (by decide)
  obtain ⟨b4, g4⟩ : ∃ z, z = h0.size := ⟨_, rfl⟩
  rw [← g4] at A4 D4 st4
  have g_b4 : n0 ≤ b4 := Nat.le_trans Z0 (Nat.le_of_eq g4.symm)
  have sz_b4 : h0.size ≤ b4 := Nat.le_trans K0.1 (Nat.le_of_eq g4.symm)
  have SZ4 : n0 ≤ h4.size := Nat.le_trans Z0 E4.1
  have K4 : Keep h0 h4 [] := K0.ext E4
  have F_b4_unplaced_4 : Fld Z h4 b4 "com/example/berthwise/berthwise/model/Ranked$Rank" "unplaced" "I" (.int (0 : Int32)) := D4 (Or.inr (hw _ (List.mem_of_getElem? (i := 21) rfl))) (ty := .int) (by decide)
  have F_b4_total_4 : Fld Z h4 b4 "com/example/berthwise/berthwise/model/Ranked$Rank" "total" "D" (.double (0 : UInt64)) := D4 (Or.inr (hw _ (List.mem_of_getElem? (i := 23) rfl))) (ty := .double) (by decide)
  refine Gl.go (fun _ k => st4 _ k) ?_
  show Gl p.tables e below (QQof s (Q_law Z u1 v_ sel p_ q_ k_ h0 n0) 2 4) (T4.setTop (mkF m 65 #[.val (.int u1), .val (.int v_), .val (.int sel), .val (.int p_), .val (.int q_), .val (.int k_), .val (.int u2), .val (.int pa), .val (.int qd), .val (.int (pa + qd)), .val (.int ki), .val (.double (offV ki)), .second, .val (.double (FP.i2d pa)), .second, .val (.double (t2V (pa + qd) ki)), .second, .unset, .unset, .unset, .unset, .unset, .unset] [(.ref b4)]))
  refine Gl.go (fun _ k => XS.dup X4.here hx rfl (hb hby at_65) rfl rfl k) ?_
  show Gl p.tables e below (QQof s (Q_law Z u1 v_ sel p_ q_ k_ h0 n0) 2 4) (T4.setTop (mkF m 66 #[.val (.int u1), .val (.int v_), .val (.int sel), .val (.int p_), .val (.int q_), .val (.int k_), .val (.int u2), .val (.int pa), .val (.int qd), .val (.int (pa + qd)), .val (.int ki), .val (.double (offV ki)), .second, .val (.double (FP.i2d pa)), .second, .val (.double (t2V (pa + qd) ki)), .second, .unset, .unset, .unset, .unset, .unset, .unset] [(.ref b4), (.ref b4)]))
  refine Gl.go (fun _ k => XS.iloadN X4.here hx rfl (hb hby at_66) rfl  k) ?_
  show Gl p.tables e below (QQof s (Q_law Z u1 v_ sel p_ q_ k_ h0 n0) 2 4) (T4.setTop (mkF m 67 #[.val (.int u1), .val (.int v_), .val (.int sel), .val (.int p_), .val (.int q_), .val (.int k_), .val (.int u2), .val (.int pa), .val (.int qd), .val (.int (pa + qd)), .val (.int ki), .val (.double (offV ki)), .second, .val (.double (FP.i2d pa)), .second, .val (.double (t2V (pa + qd) ki)), .second, .unset, .unset, .unset, .unset, .unset, .unset] [(.int u1), (.ref b4), (.ref b4)]))
  refine Gl.go (fun _ k => XS.dload X4.here hx rfl (hb hby at_67) rfl  k) ?_
  show Gl p.tables e below (QQof s (Q_law Z u1 v_ sel p_ q_ k_ h0 n0) 2 4) (T4.setTop (mkF m 69 #[.val (.int u1), .val (.int v_), .val (.int sel), .val (.int p_), .val (.int q_), .val (.int k_), .val (.int u2), .val (.int pa), .val (.int qd), .val (.int (pa + qd)), .val (.int ki), .val (.double (offV ki)), .second, .val (.double (FP.i2d pa)), .second, .val (.double (t2V (pa + qd) ki)), .second, .unset, .unset, .unset, .unset, .unset, .unset] [(.double (FP.i2d pa)), (.int u1), (.ref b4), (.ref b4)]))
  obtain ⟨_, _, ⟨T5, L5, k5, n5⟩, -, X5, ⟨Lc5, hQ5, l5, y5, z5⟩, st5⟩ := X4.specialBack hx (y := (⟨"com/example/berthwise/berthwise/model/Ranked$Rank", "<init>", "(ID)V"⟩ : MethodName)) rfl hown (mvT hZ (hw _ (List.mem_of_getElem? (i := 9) rfl))) (mvT hZ (hw _ (List.mem_of_getElem? (i := 10) rfl))) (mvT hZ (hw _ (List.mem_of_getElem? (i := 11) rfl))) (by decide) (backOf (W := 1) (rm_ini l Z a0 hw [] b4 u1 (FP.i2d pa) (.int 0) (.double 0) h4 n0 SZ4 A4 F_b4_unplaced_4 F_b4_total_4 g_b4) hZ (hw _ (List.mem_of_getElem? (i := 11) rfl)) (hw _ (List.mem_of_getElem? (i := 8) rfl)) (by decide) (by decide)) (g := (mkF m 69 #[.val (.int u1), .val (.int v_), .val (.int sel), .val (.int p_), .val (.int q_), .val (.int k_), .val (.int u2), .val (.int pa), .val (.int qd), .val (.int (pa + qd)), .val (.int ki), .val (.double (offV ki)), .second, .val (.double (FP.i2d pa)), .second, .val (.double (t2V (pa + qd) ki)), .second, .unset, .unset, .unset, .unset, .unset, .unset] [(.double (FP.i2d pa)), (.int u1), (.ref b4), (.ref b4)])) rfl (by rw [hml]; rfl) (Steps.refl _) (a := b4) (argsL := [(.int u1), (.double (FP.i2d pa))]) (rest := [(.ref b4)]) (lenOf pd_2 rfl) rfl (by show 2 * 0 + _ ≤ _; exact Nat.le_of_eq rfl) (hb hby at_69) (fun _ _ => ⟨rfl, e4, (by decide : 1 + 0 ≤ _), (by decide : 2 + 0 ≤ _)⟩)
  dsimp only [Pt.U, Pt.locs, Pt.cells, Pt.slots] at X5 l5 y5 z5 st5 hQ5
  subst l5 y5 z5
  obtain ⟨rfl, Nq5, Kc5, Ec5, Fu5, Ft5⟩ := hQ5
  have N5 := Fr.app N3 Nq5
  refine Gl.go (fun _ k => st5.trans k) ?_
  have E_b4_5 : Exa Z T5.heap b4 "com/example/berthwise/berthwise/model/Ranked$Rank" := A4.keep Kc5
  have SZ5 : n0 ≤ T5.heap.size := Nat.le_trans SZ4 Kc5.1
  have K5 : Keep h0 T5.heap [] := K4.trans Kc5 (allS (Or.inr sz_b4) all0)
  show Gl p.tables e below (QQof s (Q_law Z u1 v_ sel p_ q_ k_ h0 n0) 2 4) (T5.setTop (mkF m 72 #[.val (.int u1), .val (.int v_), .val (.int sel), .val (.int p_), .val (.int q_), .val (.int k_), .val (.int u2), .val (.int pa), .val (.int qd), .val (.int (pa + qd)), .val (.int ki), .val (.double (offV ki)), .second, .val (.double (FP.i2d pa)), .second, .val (.double (t2V (pa + qd) ki)), .second, .unset, .unset, .unset, .unset, .unset, .unset] [(.ref b4)]))
  refine Gl.go (fun _ k => XS.astore X5.here hx rfl (hb hby at_72) rfl rfl (l' := #[.val (.int u1), .val (.int v_), .val (.int sel), .val (.int p_), .val (.int q_), .val (.int k_), .val (.int u2), .val (.int pa), .val (.int qd), .val (.int (pa + qd)), .val (.int ki), .val (.double (offV ki)), .second, .val (.double (FP.i2d pa)), .second, .val (.double (t2V (pa + qd) ki)), .second, .val (.ref b4), .unset, .unset, .unset, .unset, .unset]) rfl k) ?_
  show Gl p.tables e below (QQof s (Q_law Z u1 v_ sel p_ q_ k_ h0 n0) 2 4) (T5.setTop (mkF m 74 #[.val (.int u1), .val (.int v_), .val (.int sel), .val (.int p_), .val (.int q_), .val (.int k_), .val (.int u2), .val (.int pa), .val (.int qd), .val (.int (pa + qd)), .val (.int ki), .val (.double (offV ki)), .second, .val (.double (FP.i2d pa)), .second, .val (.double (t2V (pa + qd) ki)), .second, .val (.ref b4), .unset, .unset, .unset, .unset, .unset] []))
  obtain ⟨T6, h6, X6, e6, E6, A6, D6, -, st6⟩ := newO X5 hx hZ hown (hw _ (List.mem_of_getElem? (i := 6) rfl)) (hw _ (List.mem_of_getElem? (i := 7) rfl)) (hw _ (List.mem_of_getElem? (i := 8) rfl)) rfl (g := (mkF m 74 #[.val (.int u1), .val (.int v_), .val (.int sel), .val (.int p_), .val (.int q_), .val (.int k_), .val (.int u2), .val (.int pa), .val (.int qd), .val (.int (pa + qd)), .val (.int ki), .val (.double (offV ki)), .second, .val (.double (FP.i2d pa)), .second, .val (.double (t2V (pa + qd) ki)), .second, .val (.ref b4), .unset, .unset, .unset, .unset, .unset] [])) rfl (hb hby at_74) (by decide) (by decide)
  obtain ⟨b6, g6⟩ : ∃ z, z = T5.heap.size := ⟨_, rfl⟩
  rw [← g6] at A6 D6 st6
  have g_b6 : n0 ≤ b6 := Nat.le_trans SZ5 (Nat.le_of_eq g6.symm)
  have sz_b6 : h0.size ≤ b6 := Nat.le_trans K5.1 (Nat.le_of_eq g6.symm)
  have ne_b4_b6 : b4 ≠ b6 := Nat.ne_of_lt (Nat.lt_of_lt_of_le E_b4_5.lt (Nat.le_of_eq g6.symm))
  have E_b4_6 : Exa Z h6 b4 "com/example/berthwise/berthwise/model/Ranked$Rank" := E_b4_5.ext E6
  have F_b4_unplaced_6 : Fld Z h6 b4 "com/example/berthwise/berthwise/model/Ranked$Rank" "unplaced" "I" (.int u1) := Fu5.ext E6
  have F_b4_total_6 : Fld Z h6 b4 "com/example/berthwise/berthwise/model/Ranked$Rank" "total" "D" (.double (FP.i2d pa)) := Ft5.ext E6
  have SZ6 : n0 ≤ h6.size := Nat.le_trans SZ5 E6.1
  have K6 : Keep h0 h6 [] := K5.ext E6
  have F_b6_unplaced_6 : Fld Z h6 b6 "com/example/berthwise/berthwise/model/Ranked$Rank" "unplaced" "I" (.int (0 : Int32)) := D6 (Or.inr (hw _ (List.mem_of_getElem? (i := 21) rfl))) (ty := .int) (by decide)
  have F_b6_total_6 : Fld Z h6 b6 "com/example/berthwise/berthwise/model/Ranked$Rank" "total" "D" (.double (0 : UInt64)) := D6 (Or.inr (hw _ (List.mem_of_getElem? (i := 23) rfl))) (ty := .double) (by decide)
  refine Gl.go (fun _ k => st6 _ k) ?_
  show Gl p.tables e below (QQof s (Q_law Z u1 v_ sel p_ q_ k_ h0 n0) 2 4) (T6.setTop (mkF m 77 #[.val (.int u1), .val (.int v_), .val (.int sel), .val (.int p_), .val (.int q_), .val (.int k_), .val (.int u2), .val (.int pa), .val (.int qd), .val (.int (pa + qd)), .val (.int ki), .val (.double (offV ki)), .second, .val (.double (FP.i2d pa)), .second, .val (.double (t2V (pa + qd) ki)), .second, .val (.ref b4), .unset, .unset, .unset, .unset, .unset] [(.ref b6)]))
  refine Gl.go (fun _ k => XS.dup X6.here hx rfl (hb hby at_77) rfl rfl k) ?_
  show Gl p.tables e below (QQof s (Q_law Z u1 v_ sel p_ q_ k_ h0 n0) 2 4) (T6.setTop (mkF m 78 #[.val (.int u1), .val (.int v_), .val (.int sel), .val (.int p_), .val (.int q_), .val (.int k_), .val (.int u2), .val (.int pa), .val (.int qd), .val (.int (pa + qd)), .val (.int ki), .val (.double (offV ki)), .second, .val (.double (FP.i2d pa)), .second, .val (.double (t2V (pa + qd) ki)), .second, .val (.ref b4), .unset, .unset, .unset, .unset, .unset] [(.ref b6), (.ref b6)]))
  refine Gl.go (fun _ k => XS.iload X6.here hx rfl (hb hby at_78) rfl  k) ?_
  show Gl p.tables e below (QQof s (Q_law Z u1 v_ sel p_ q_ k_ h0 n0) 2 4) (T6.setTop (mkF m 80 #[.val (.int u1), .val (.int v_), .val (.int sel), .val (.int p_), .val (.int q_), .val (.int k_), .val (.int u2), .val (.int pa), .val (.int qd), .val (.int (pa + qd)), .val (.int ki), .val (.double (offV ki)), .second, .val (.double (FP.i2d pa)), .second, .val (.double (t2V (pa + qd) ki)), .second, .val (.ref b4), .unset, .unset, .unset, .unset, .unset] [(.int u2), (.ref b6), (.ref b6)]))
  refine Gl.go (fun _ k => XS.dload X6.here hx rfl (hb hby at_80) rfl  k) ?_
  show Gl p.tables e below (QQof s (Q_law Z u1 v_ sel p_ q_ k_ h0 n0) 2 4) (T6.setTop (mkF m 82 #[.val (.int u1), .val (.int v_), .val (.int sel), .val (.int p_), .val (.int q_), .val (.int k_), .val (.int u2), .val (.int pa), .val (.int qd), .val (.int (pa + qd)), .val (.int ki), .val (.double (offV ki)), .second, .val (.double (FP.i2d pa)), .second, .val (.double (t2V (pa + qd) ki)), .second, .val (.ref b4), .unset, .unset, .unset, .unset, .unset] [(.double (t2V (pa + qd) ki)), (.int u2), (.ref b6), (.ref b6)]))
  obtain ⟨_, _, ⟨T7, L7, k7, n7⟩, -, X7, ⟨Lc7, hQ7, l7, y7, z7⟩, st7⟩ := X6.specialBack hx (y := (⟨"com/example/berthwise/berthwise/model/Ranked$Rank", "<init>", "(ID)V"⟩ : MethodName)) rfl hown (mvT hZ (hw _ (List.mem_of_getElem? (i := 9) rfl))) (mvT hZ (hw _ (List.mem_of_getElem? (i := 10) rfl))) (mvT hZ (hw _ (List.mem_of_getElem? (i := 11) rfl))) (by decide) (backOf (W := 1) (rm_ini l Z a0 hw [] b6 u2 (t2V (pa + qd) ki) (.int 0) (.double 0) h6 n0 SZ6 A6 F_b6_unplaced_6 F_b6_total_6 g_b6) hZ (hw _ (List.mem_of_getElem? (i := 11) rfl)) (hw _ (List.mem_of_getElem? (i := 8) rfl)) (by decide) (by decide)) (g := (mkF m 82 #[.val (.int u1), .val (.int v_), .val (.int sel), .val (.int p_), .val (.int q_), .val (.int k_), .val (.int u2), .val (.int pa), .val (.int qd), .val (.int (pa + qd)), .val (.int ki), .val (.double (offV ki)), .second, .val (.double (FP.i2d pa)), .second, .val (.double (t2V (pa + qd) ki)), .second, .val (.ref b4), .unset, .unset, .unset, .unset, .unset] [(.double (t2V (pa + qd) ki)), (.int u2), (.ref b6), (.ref b6)])) rfl (by rw [hml]; rfl) (Steps.refl _) (a := b6) (argsL := [(.int u2), (.double (t2V (pa + qd) ki))]) (rest := [(.ref b6)]) (lenOf pd_2 rfl) rfl (by show 2 * 0 + _ ≤ _; exact Nat.le_of_eq rfl) (hb hby at_82) (fun _ _ => ⟨rfl, e6, (by decide : 2 + 0 ≤ _), (by decide : 4 + 0 ≤ _)⟩)
  dsimp only [Pt.U, Pt.locs, Pt.cells, Pt.slots] at X7 l7 y7 z7 st7 hQ7
  subst l7 y7 z7
  obtain ⟨rfl, Nq7, Kc7, Ec7, Fu7, Ft7⟩ := hQ7
  have N7 := Fr.app N5 Nq7
  refine Gl.go (fun _ k => st7.trans k) ?_
  have E_b4_7 : Exa Z T7.heap b4 "com/example/berthwise/berthwise/model/Ranked$Rank" := E_b4_6.keep Kc7
  have F_b4_unplaced_7 : Fld Z T7.heap b4 "com/example/berthwise/berthwise/model/Ranked$Rank" "unplaced" "I" (.int u1) := F_b4_unplaced_6.keep Kc7 (ninS ne_b4_b6 nin0)
  have F_b4_total_7 : Fld Z T7.heap b4 "com/example/berthwise/berthwise/model/Ranked$Rank" "total" "D" (.double (FP.i2d pa)) := F_b4_total_6.keep Kc7 (ninS ne_b4_b6 nin0)
  have E_b6_7 : Exa Z T7.heap b6 "com/example/berthwise/berthwise/model/Ranked$Rank" := A6.keep Kc7
  have SZ7 : n0 ≤ T7.heap.size := Nat.le_trans SZ6 Kc7.1
  have K7 : Keep h0 T7.heap [] := K6.trans Kc7 (allS (Or.inr sz_b6) all0)
  show Gl p.tables e below (QQof s (Q_law Z u1 v_ sel p_ q_ k_ h0 n0) 2 4) (T7.setTop (mkF m 85 #[.val (.int u1), .val (.int v_), .val (.int sel), .val (.int p_), .val (.int q_), .val (.int k_), .val (.int u2), .val (.int pa), .val (.int qd), .val (.int (pa + qd)), .val (.int ki), .val (.double (offV ki)), .second, .val (.double (FP.i2d pa)), .second, .val (.double (t2V (pa + qd) ki)), .second, .val (.ref b4), .unset, .unset, .unset, .unset, .unset] [(.ref b6)]))
  refine Gl.go (fun _ k => XS.astore X7.here hx rfl (hb hby at_85) rfl rfl (l' := #[.val (.int u1), .val (.int v_), .val (.int sel), .val (.int p_), .val (.int q_), .val (.int k_), .val (.int u2), .val (.int pa), .val (.int qd), .val (.int (pa + qd)), .val (.int ki), .val (.double (offV ki)), .second, .val (.double (FP.i2d pa)), .second, .val (.double (t2V (pa + qd) ki)), .second, .val (.ref b4), .val (.ref b6), .unset, .unset, .unset, .unset]) rfl k) ?_
  show Gl p.tables e below (QQof s (Q_law Z u1 v_ sel p_ q_ k_ h0 n0) 2 4) (T7.setTop (mkF m 87 #[.val (.int u1), .val (.int v_), .val (.int sel), .val (.int p_), .val (.int q_), .val (.int k_), .val (.int u2), .val (.int pa), .val (.int qd), .val (.int (pa + qd)), .val (.int ki), .val (.double (offV ki)), .second, .val (.double (FP.i2d pa)), .second, .val (.double (t2V (pa + qd) ki)), .second, .val (.ref b4), .val (.ref b6), .unset, .unset, .unset, .unset] []))
  refine Gl.go (fun _ k => XS.aload X7.here hx rfl (hb hby at_87) rfl rfl  k) ?_
  show Gl p.tables e below (QQof s (Q_law Z u1 v_ sel p_ q_ k_ h0 n0) 2 4) (T7.setTop (mkF m 89 #[.val (.int u1), .val (.int v_), .val (.int sel), .val (.int p_), .val (.int q_), .val (.int k_), .val (.int u2), .val (.int pa), .val (.int qd), .val (.int (pa + qd)), .val (.int ki), .val (.double (offV ki)), .second, .val (.double (FP.i2d pa)), .second, .val (.double (t2V (pa + qd) ki)), .second, .val (.ref b4), .val (.ref b6), .unset, .unset, .unset, .unset] [(.ref b4)]))
  refine Gl.go (fun _ k => XS.aload X7.here hx rfl (hb hby at_89) rfl rfl  k) ?_
  show Gl p.tables e below (QQof s (Q_law Z u1 v_ sel p_ q_ k_ h0 n0) 2 4) (T7.setTop (mkF m 91 #[.val (.int u1), .val (.int v_), .val (.int sel), .val (.int p_), .val (.int q_), .val (.int k_), .val (.int u2), .val (.int pa), .val (.int qd), .val (.int (pa + qd)), .val (.int ki), .val (.double (offV ki)), .second, .val (.double (FP.i2d pa)), .second, .val (.double (t2V (pa + qd) ki)), .second, .val (.ref b4), .val (.ref b6), .unset, .unset, .unset, .unset] [(.ref b6), (.ref b4)]))
  obtain ⟨cq8, kq8, q8a, q8b, q8c⟩ := isOf hZ rfl E_b4_7
  obtain ⟨_, _, ⟨T8, L8, k8, n8⟩, -, X8, ⟨Lc8, hQ8, l8, y8, z8⟩, st8⟩ := X7.virtualBack hx (y := (⟨"com/example/berthwise/berthwise/model/Ranked$Rank", "isBetterThan", "(Lcom/example/berthwise/berthwise/model/Ranked$Rank;)Z"⟩ : MethodName)) (z := (⟨"com/example/berthwise/berthwise/model/Ranked$Rank", "isBetterThan", "(Lcom/example/berthwise/berthwise/model/Ranked$Rank;)Z"⟩ : MethodName)) hown (mvT hZ (hw _ (List.mem_of_getElem? (i := 24) rfl))) (mvT hZ (hw _ (List.mem_of_getElem? (i := 25) rfl))) (notFace_of_selects (args := #[]) (mvT hZ (hw _ (List.mem_of_getElem? (i := 27) rfl)))) (mvT hZ (hw _ (List.mem_of_getElem? (i := 27) rfl))) (mvT hZ (hw _ (List.mem_of_getElem? (i := 26) rfl))) (by decide) (backOf (W := 0) (rm_bt l Z a0 hw [] b4 b6 u1 (FP.i2d pa) u2 (t2V (pa + qd) ki) T7.heap n0 SZ7 (own_nn U.2.1) F_b4_unplaced_7 F_b4_total_7 Fu7 Ft7) hZ (hw _ (List.mem_of_getElem? (i := 28) rfl)) (hw _ (List.mem_of_getElem? (i := 8) rfl)) (by decide) (by decide)) q8a q8c (g := (mkF m 91 #[.val (.int u1), .val (.int v_), .val (.int sel), .val (.int p_), .val (.int q_), .val (.int k_), .val (.int u2), .val (.int pa), .val (.int qd), .val (.int (pa + qd)), .val (.int ki), .val (.double (offV ki)), .second, .val (.double (FP.i2d pa)), .second, .val (.double (t2V (pa + qd) ki)), .second, .val (.ref b4), .val (.ref b6), .unset, .unset, .unset, .unset] [(.ref b6), (.ref b4)])) rfl (by rw [hml]; rfl) (Steps.refl _) (argsL := [(.ref b6)]) (rest := []) (lenOf pd_3 rfl) rfl (by show 2 * 0 + _ ≤ _; exact Nat.le_of_eq rfl) (hb hby at_91) (fun _ _ => ⟨rfl, rfl, (by decide : 2 + 0 ≤ _), (by decide : 4 + 0 ≤ _)⟩)
  dsimp only [Pt.U, Pt.locs, Pt.cells, Pt.slots] at X8 l8 y8 z8 st8 hQ8
  subst l8 y8 z8
  obtain ⟨rfl, Nq8, e8⟩ := hQ8
  have N8 := Fr.app N7 Nq8
  refine Gl.go (fun _ k => st8.trans k) ?_
  show Gl p.tables e below (QQof s (Q_law Z u1 v_ sel p_ q_ k_ h0 n0) 2 4) (T8.setTop (mkF m 94 #[.val (.int u1), .val (.int v_), .val (.int sel), .val (.int p_), .val (.int q_), .val (.int k_), .val (.int u2), .val (.int pa), .val (.int qd), .val (.int (pa + qd)), .val (.int ki), .val (.double (offV ki)), .second, .val (.double (FP.i2d pa)), .second, .val (.double (t2V (pa + qd) ki)), .second, .val (.ref b4), .val (.ref b6), .unset, .unset, .unset, .unset] [(.int (btV u1 (FP.i2d pa) u2 (t2V (pa + qd) ki)))]))
  refine Gl.go (fun _ k => XS.istore X8.here hx rfl (hb hby at_94) rfl (l' := #[.val (.int u1), .val (.int v_), .val (.int sel), .val (.int p_), .val (.int q_), .val (.int k_), .val (.int u2), .val (.int pa), .val (.int qd), .val (.int (pa + qd)), .val (.int ki), .val (.double (offV ki)), .second, .val (.double (FP.i2d pa)), .second, .val (.double (t2V (pa + qd) ki)), .second, .val (.ref b4), .val (.ref b6), .val (.int (btV u1 (FP.i2d pa) u2 (t2V (pa + qd) ki))), .unset, .unset, .unset]) rfl k) ?_
  show Gl p.tables e below (QQof s (Q_law Z u1 v_ sel p_ q_ k_ h0 n0) 2 4) (T8.setTop (mkF m 96 #[.val (.int u1), .val (.int v_), .val (.int sel), .val (.int p_), .val (.int q_), .val (.int k_), .val (.int u2), .val (.int pa), .val (.int qd), .val (.int (pa + qd)), .val (.int ki), .val (.double (offV ki)), .second, .val (.double (FP.i2d pa)), .second, .val (.double (t2V (pa + qd) ki)), .second, .val (.ref b4), .val (.ref b6), .val (.int (btV u1 (FP.i2d pa) u2 (t2V (pa + qd) ki))), .unset, .unset, .unset] []))
  refine Gl.go (fun _ k => XS.aload X8.here hx rfl (hb hby at_96) rfl rfl  k) ?_
  show Gl p.tables e below (QQof s (Q_law Z u1 v_ sel p_ q_ k_ h0 n0) 2 4) (T8.setTop (mkF m 98 #[.val (.int u1), .val (.int v_), .val (.int sel), .val (.int p_), .val (.int q_), .val (.int k_), .val (.int u2), .val (.int pa), .val (.int qd), .val (.int (pa + qd)), .val (.int ki), .val (.double (offV ki)), .second, .val (.double (FP.i2d pa)), .second, .val (.double (t2V (pa + qd) ki)), .second, .val (.ref b4), .val (.ref b6), .val (.int (btV u1 (FP.i2d pa) u2 (t2V (pa + qd) ki))), .unset, .unset, .unset] [(.ref b6)]))
  refine Gl.go (fun _ k => XS.aload X8.here hx rfl (hb hby at_98) rfl rfl  k) ?_
  show Gl p.tables e below (QQof s (Q_law Z u1 v_ sel p_ q_ k_ h0 n0) 2 4) (T8.setTop (mkF m 100 #[.val (.int u1), .val (.int v_), .val (.int sel), .val (.int p_), .val (.int q_), .val (.int k_), .val (.int u2), .val (.int pa), .val (.int qd), .val (.int (pa + qd)), .val (.int ki), .val (.double (offV ki)), .second, .val (.double (FP.i2d pa)), .second, .val (.double (t2V (pa + qd) ki)), .second, .val (.ref b4), .val (.ref b6), .val (.int (btV u1 (FP.i2d pa) u2 (t2V (pa + qd) ki))), .unset, .unset, .unset] [(.ref b4), (.ref b6)]))
  obtain ⟨cq9, kq9, q9a, q9b, q9c⟩ := isOf hZ e8 E_b6_7
  obtain ⟨_, _, ⟨T9, L9, k9, n9⟩, -, X9, ⟨Lc9, hQ9, l9, y9, z9⟩, st9⟩ := X8.virtualBack hx (y := (⟨"com/example/berthwise/berthwise/model/Ranked$Rank", "isBetterThan", "(Lcom/example/berthwise/berthwise/model/Ranked$Rank;)Z"⟩ : MethodName)) (z := (⟨"com/example/berthwise/berthwise/model/Ranked$Rank", "isBetterThan", "(Lcom/example/berthwise/berthwise/model/Ranked$Rank;)Z"⟩ : MethodName)) hown (mvT hZ (hw _ (List.mem_of_getElem? (i := 24) rfl))) (mvT hZ (hw _ (List.mem_of_getElem? (i := 25) rfl))) (notFace_of_selects (args := #[]) (mvT hZ (hw _ (List.mem_of_getElem? (i := 27) rfl)))) (mvT hZ (hw _ (List.mem_of_getElem? (i := 27) rfl))) (mvT hZ (hw _ (List.mem_of_getElem? (i := 26) rfl))) (by decide) (backOf (W := 0) (rm_bt l Z a0 hw [] b6 b4 u2 (t2V (pa + qd) ki) u1 (FP.i2d pa) T7.heap n0 SZ7 (own_nn U.2.2.1) Fu7 Ft7 F_b4_unplaced_7 F_b4_total_7) hZ (hw _ (List.mem_of_getElem? (i := 28) rfl)) (hw _ (List.mem_of_getElem? (i := 8) rfl)) (by decide) (by decide)) q9a q9c (g := (mkF m 100 #[.val (.int u1), .val (.int v_), .val (.int sel), .val (.int p_), .val (.int q_), .val (.int k_), .val (.int u2), .val (.int pa), .val (.int qd), .val (.int (pa + qd)), .val (.int ki), .val (.double (offV ki)), .second, .val (.double (FP.i2d pa)), .second, .val (.double (t2V (pa + qd) ki)), .second, .val (.ref b4), .val (.ref b6), .val (.int (btV u1 (FP.i2d pa) u2 (t2V (pa + qd) ki))), .unset, .unset, .unset] [(.ref b4), (.ref b6)])) rfl (by rw [hml]; rfl) (Steps.refl _) (argsL := [(.ref b4)]) (rest := []) (lenOf pd_3 rfl) rfl (by show 2 * 0 + _ ≤ _; exact Nat.le_of_eq rfl) (hb hby at_100) (fun _ _ => ⟨rfl, e8, (by decide : 2 + 0 ≤ _), (by decide : 4 + 0 ≤ _)⟩)
  dsimp only [Pt.U, Pt.locs, Pt.cells, Pt.slots] at X9 l9 y9 z9 st9 hQ9
  subst l9 y9 z9
  obtain ⟨rfl, Nq9, e9⟩ := hQ9
  have N9 := Fr.app N8 Nq9
  refine Gl.go (fun _ k => st9.trans k) ?_
  show Gl p.tables e below (QQof s (Q_law Z u1 v_ sel p_ q_ k_ h0 n0) 2 4) (T9.setTop (mkF m 103 #[.val (.int u1), .val (.int v_), .val (.int sel), .val (.int p_), .val (.int q_), .val (.int k_), .val (.int u2), .val (.int pa), .val (.int qd), .val (.int (pa + qd)), .val (.int ki), .val (.double (offV ki)), .second, .val (.double (FP.i2d pa)), .second, .val (.double (t2V (pa + qd) ki)), .second, .val (.ref b4), .val (.ref b6), .val (.int (btV u1 (FP.i2d pa) u2 (t2V (pa + qd) ki))), .unset, .unset, .unset] [(.int (btV u2 (t2V (pa + qd) ki) u1 (FP.i2d pa)))]))
  refine Gl.go (fun _ k => XS.istore X9.here hx rfl (hb hby at_103) rfl (l' := #[.val (.int u1), .val (.int v_), .val (.int sel), .val (.int p_), .val (.int q_), .val (.int k_), .val (.int u2), .val (.int pa), .val (.int qd), .val (.int (pa + qd)), .val (.int ki), .val (.double (offV ki)), .second, .val (.double (FP.i2d pa)), .second, .val (.double (t2V (pa + qd) ki)), .second, .val (.ref b4), .val (.ref b6), .val (.int (btV u1 (FP.i2d pa) u2 (t2V (pa + qd) ki))), .val (.int (btV u2 (t2V (pa + qd) ki) u1 (FP.i2d pa))), .unset, .unset]) rfl k) ?_
  show Gl p.tables e below (QQof s (Q_law Z u1 v_ sel p_ q_ k_ h0 n0) 2 4) (T9.setTop (mkF m 105 #[.val (.int u1), .val (.int v_), .val (.int sel), .val (.int p_), .val (.int q_), .val (.int k_), .val (.int u2), .val (.int pa), .val (.int qd), .val (.int (pa + qd)), .val (.int ki), .val (.double (offV ki)), .second, .val (.double (FP.i2d pa)), .second, .val (.double (t2V (pa + qd) ki)), .second, .val (.ref b4), .val (.ref b6), .val (.int (btV u1 (FP.i2d pa) u2 (t2V (pa + qd) ki))), .val (.int (btV u2 (t2V (pa + qd) ki) u1 (FP.i2d pa))), .unset, .unset] []))
  refine Gl.go (fun _ k => XS.iloadN X9.here hx rfl (hb hby at_105) rfl  k) ?_
  show Gl p.tables e below (QQof s (Q_law Z u1 v_ sel p_ q_ k_ h0 n0) 2 4) (T9.setTop (mkF m 106 #[.val (.int u1), .val (.int v_), .val (.int sel), .val (.int p_), .val (.int q_), .val (.int k_), .val (.int u2), .val (.int pa), .val (.int qd), .val (.int (pa + qd)), .val (.int ki), .val (.double (offV ki)), .second, .val (.double (FP.i2d pa)), .second, .val (.double (t2V (pa + qd) ki)), .second, .val (.ref b4), .val (.ref b6), .val (.int (btV u1 (FP.i2d pa) u2 (t2V (pa + qd) ki))), .val (.int (btV u2 (t2V (pa + qd) ki) u1 (FP.i2d pa))), .unset, .unset] [(.int u1)]))
  refine Gl.go (fun _ k => XS.iload X9.here hx rfl (hb hby at_106) rfl  k) ?_
  show Gl p.tables e below (QQof s (Q_law Z u1 v_ sel p_ q_ k_ h0 n0) 2 4) (T9.setTop (mkF m 108 #[.val (.int u1), .val (.int v_), .val (.int sel), .val (.int p_), .val (.int q_), .val (.int k_), .val (.int u2), .val (.int pa), .val (.int qd), .val (.int (pa + qd)), .val (.int ki), .val (.double (offV ki)), .second, .val (.double (FP.i2d pa)), .second, .val (.double (t2V (pa + qd) ki)), .second, .val (.ref b4), .val (.ref b6), .val (.int (btV u1 (FP.i2d pa) u2 (t2V (pa + qd) ki))), .val (.int (btV u2 (t2V (pa + qd) ki) u1 (FP.i2d pa))), .unset, .unset] [(.int u2), (.int u1)]))
  by_cases hlt : u1 < u2
  · skip
    refine Gl.go (fun _ k => XS.icmpNo X9.here hx rfl (hb hby at_108) rfl (tlt hlt).2.1 k) ?_
    show Gl p.tables e below (QQof s (Q_law Z u1 v_ sel p_ q_ k_ h0 n0) 2 4) (T9.setTop (mkF m 111 #[.val (.int u1), .val (.int v_), .val (.int sel), .val (.int p_), .val (.int q_), .val (.int k_), .val (.int u2), .val (.int pa), .val (.int qd), .val (.int (pa + qd)), .val (.int ki), .val (.double (offV ki)), .second, .val (.double (FP.i2d pa)), .second, .val (.double (t2V (pa + qd) ki)), .second, .val (.ref b4), .val (.ref b6), .val (.int (btV u1 (FP.i2d pa) u2 (t2V (pa + qd) ki))), .val (.int (btV u2 (t2V (pa + qd) ki) u1 (FP.i2d pa))), .unset, .unset] []))
    refine Gl.go (fun _ k => XS.iconst X9.here hx rfl (hb hby at_111) k) ?_
    show Gl p.tables e below (QQof s (Q_law Z u1 v_ sel p_ q_ k_ h0 n0) 2 4) (T9.setTop (mkF m 112 #[.val (.int u1), .val (.int v_), .val (.int sel), .val (.int p_), .val (.int q_), .val (.int k_), .val (.int u2), .val (.int pa), .val (.int qd), .val (.int (pa + qd)), .val (.int ki), .val (.double (offV ki)), .second, .val (.double (FP.i2d pa)), .second, .val (.double (t2V (pa + qd) ki)), .second, .val (.ref b4), .val (.ref b6), .val (.int (btV u1 (FP.i2d pa) u2 (t2V (pa + qd) ki))), .val (.int (btV u2 (t2V (pa + qd) ki) u1 (FP.i2d pa))), .unset, .unset] [(.int (1 : Int32))]))
    refine Gl.go (fun _ k => XS.istore X9.here hx rfl (hb hby at_112) rfl (l' := #[.val (.int u1), .val (.int v_), .val (.int sel), .val (.int p_), .val (.int q_), .val (.int k_), .val (.int u2), .val (.int pa), .val (.int qd), .val (.int (pa + qd)), .val (.int ki), .val (.double (offV ki)), .second, .val (.double (FP.i2d pa)), .second, .val (.double (t2V (pa + qd) ki)), .second, .val (.ref b4), .val (.ref b6), .val (.int (btV u1 (FP.i2d pa) u2 (t2V (pa + qd) ki))), .val (.int (btV u2 (t2V (pa + qd) ki) u1 (FP.i2d pa))), .val (.int (1 : Int32)), .unset]) rfl k) ?_
    show Gl p.tables e below (QQof s (Q_law Z u1 v_ sel p_ q_ k_ h0 n0) 2 4) (T9.setTop (mkF m 114 #[.val (.int u1), .val (.int v_), .val (.int sel), .val (.int p_), .val (.int q_), .val (.int k_), .val (.int u2), .val (.int pa), .val (.int qd), .val (.int (pa + qd)), .val (.int ki), .val (.double (offV ki)), .second, .val (.double (FP.i2d pa)), .second, .val (.double (t2V (pa + qd) ki)), .second, .val (.ref b4), .val (.ref b6), .val (.int (btV u1 (FP.i2d pa) u2 (t2V (pa + qd) ki))), .val (.int (btV u2 (t2V (pa + qd) ki) u1 (FP.i2d pa))), .val (.int (1 : Int32)), .unset] []))
    refine Gl.go (fun _ k => XS.iconst X9.here hx rfl (hb hby at_114) k) ?_
    show Gl p.tables e below (QQof s (Q_law Z u1 v_ sel p_ q_ k_ h0 n0) 2 4) (T9.setTop (mkF m 115 #[.val (.int u1), .val (.int v_), .val (.int sel), .val (.int p_), .val (.int q_), .val (.int k_), .val (.int u2), .val (.int pa), .val (.int qd), .val (.int (pa + qd)), .val (.int ki), .val (.double (offV ki)), .second, .val (.double (FP.i2d pa)), .second, .val (.double (t2V (pa + qd) ki)), .second, .val (.ref b4), .val (.ref b6), .val (.int (btV u1 (FP.i2d pa) u2 (t2V (pa + qd) ki))), .val (.int (btV u2 (t2V (pa + qd) ki) u1 (FP.i2d pa))), .val (.int (1 : Int32)), .unset] [(.int (0 : Int32))]))
    refine Gl.go (fun _ k => XS.istore X9.here hx rfl (hb hby at_115) rfl (l' := #[.val (.int u1), .val (.int v_), .val (.int sel), .val (.int p_), .val (.int q_), .val (.int k_), .val (.int u2), .val (.int pa), .val (.int qd), .val (.int (pa + qd)), .val (.int ki), .val (.double (offV ki)), .second, .val (.double (FP.i2d pa)), .second, .val (.double (t2V (pa + qd) ki)), .second, .val (.ref b4), .val (.ref b6), .val (.int (btV u1 (FP.i2d pa) u2 (t2V (pa + qd) ki))), .val (.int (btV u2 (t2V (pa + qd) ki) u1 (FP.i2d pa))), .val (.int (1 : Int32)), .val (.int (0 : Int32))]) rfl k) ?_
    show Gl p.tables e below (QQof s (Q_law Z u1 v_ sel p_ q_ k_ h0 n0) 2 4) (T9.setTop (mkF m 117 #[.val (.int u1), .val (.int v_), .val (.int sel), .val (.int p_), .val (.int q_), .val (.int k_), .val (.int u2), .val (.int pa), .val (.int qd), .val (.int (pa + qd)), .val (.int ki), .val (.double (offV ki)), .second, .val (.double (FP.i2d pa)), .second, .val (.double (t2V (pa + qd) ki)), .second, .val (.ref b4), .val (.ref b6), .val (.int (btV u1 (FP.i2d pa) u2 (t2V (pa + qd) ki))), .val (.int (btV u2 (t2V (pa + qd) ki) u1 (FP.i2d pa))), .val (.int (1 : Int32)), .val (.int (0 : Int32))] []))
    refine Gl.go (fun _ k => XS.goto X9.here hx rfl (pc0 := 117) (pc' := 181) rfl (hb hby at_117) (by decide) (by decide) k) ?_
    show Gl p.tables e below (QQof s (Q_law Z u1 v_ sel p_ q_ k_ h0 n0) 2 4) (T9.setTop (mkF m 181 #[.val (.int u1), .val (.int v_), .val (.int sel), .val (.int p_), .val (.int q_), .val (.int k_), .val (.int u2), .val (.int pa), .val (.int qd), .val (.int (pa + qd)), .val (.int ki), .val (.double (offV ki)), .second, .val (.double (FP.i2d pa)), .second, .val (.double (t2V (pa + qd) ki)), .second, .val (.ref b4), .val (.ref b6), .val (.int (btV u1 (FP.i2d pa) u2 (t2V (pa + qd) ki))), .val (.int (btV u2 (t2V (pa + qd) ki) u1 (FP.i2d pa))), .val (.int (1 : Int32)), .val (.int (0 : Int32))] []))
    refine Gl.go (fun _ k => XS.iload X9.here hx rfl (hb hby at_181) rfl  k) ?_
    show Gl p.tables e below (QQof s (Q_law Z u1 v_ sel p_ q_ k_ h0 n0) 2 4) (T9.setTop (mkF m 183 #[.val (.int u1), .val (.int v_), .val (.int sel), .val (.int p_), .val (.int q_), .val (.int k_), .val (.int u2), .val (.int pa), .val (.int qd), .val (.int (pa + qd)), .val (.int ki), .val (.double (offV ki)), .second, .val (.double (FP.i2d pa)), .second, .val (.double (t2V (pa + qd) ki)), .second, .val (.ref b4), .val (.ref b6), .val (.int (btV u1 (FP.i2d pa) u2 (t2V (pa + qd) ki))), .val (.int (btV u2 (t2V (pa + qd) ki) u1 (FP.i2d pa))), .val (.int (1 : Int32)), .val (.int (0 : Int32))] [(.int (btV u1 (FP.i2d pa) u2 (t2V (pa + qd) ki)))]))
    refine Gl.go (fun _ k => XS.iload X9.here hx rfl (hb hby at_183) rfl  k) ?_
    show Gl p.tables e below (QQof s (Q_law Z u1 v_ sel p_ q_ k_ h0 n0) 2 4) (T9.setTop (mkF m 185 #[.val (.int u1), .val (.int v_), .val (.int sel), .val (.int p_), .val (.int q_), .val (.int k_), .val (.int u2), .val (.int pa), .val (.int qd), .val (.int (pa + qd)), .val (.int ki), .val (.double (offV ki)), .second, .val (.double (FP.i2d pa)), .second, .val (.double (t2V (pa + qd) ki)), .second, .val (.ref b4), .val (.ref b6), .val (.int (btV u1 (FP.i2d pa) u2 (t2V (pa + qd) ki))), .val (.int (btV u2 (t2V (pa + qd) ki) u1 (FP.i2d pa))), .val (.int (1 : Int32)), .val (.int (0 : Int32))] [(.int (1 : Int32)), (.int (btV u1 (FP.i2d pa) u2 (t2V (pa + qd) ki)))]))
    have hne : ¬ u1 = u2 := fun q => Int32.lt_irrefl (q ▸ hlt)
    have hge : ¬ u2 < u1 := fun q => Int32.lt_irrefl (Int32.lt_trans hlt q)
    refine Gl.go (fun _ k => XS.icmpNo X9.here hx rfl (hb hby at_185) rfl (teq (by rw [btV, if_neg hne, if_pos hlt])).2 k) ?_
    show Gl p.tables e below (QQof s (Q_law Z u1 v_ sel p_ q_ k_ h0 n0) 2 4) (T9.setTop (mkF m 188 #[.val (.int u1), .val (.int v_), .val (.int sel), .val (.int p_), .val (.int q_), .val (.int k_), .val (.int u2), .val (.int pa), .val (.int qd), .val (.int (pa + qd)), .val (.int ki), .val (.double (offV ki)), .second, .val (.double (FP.i2d pa)), .second, .val (.double (t2V (pa + qd) ki)), .second, .val (.ref b4), .val (.ref b6), .val (.int (btV u1 (FP.i2d pa) u2 (t2V (pa + qd) ki))), .val (.int (btV u2 (t2V (pa + qd) ki) u1 (FP.i2d pa))), .val (.int (1 : Int32)), .val (.int (0 : Int32))] []))
    refine Gl.go (fun _ k => XS.iload X9.here hx rfl (hb hby at_188) rfl  k) ?_
    show Gl p.tables e below (QQof s (Q_law Z u1 v_ sel p_ q_ k_ h0 n0) 2 4) (T9.setTop (mkF m 190 #[.val (.int u1), .val (.int v_), .val (.int sel), .val (.int p_), .val (.int q_), .val (.int k_), .val (.int u2), .val (.int pa), .val (.int qd), .val (.int (pa + qd)), .val (.int ki), .val (.double (offV ki)), .second, .val (.double (FP.i2d pa)), .second, .val (.double (t2V (pa + qd) ki)), .second, .val (.ref b4), .val (.ref b6), .val (.int (btV u1 (FP.i2d pa) u2 (t2V (pa + qd) ki))), .val (.int (btV u2 (t2V (pa + qd) ki) u1 (FP.i2d pa))), .val (.int (1 : Int32)), .val (.int (0 : Int32))] [(.int (btV u2 (t2V (pa + qd) ki) u1 (FP.i2d pa)))]))
    refine Gl.go (fun _ k => XS.iload X9.here hx rfl (hb hby at_190) rfl  k) ?_
    show Gl p.tables e below (QQof s (Q_law Z u1 v_ sel p_ q_ k_ h0 n0) 2 4) (T9.setTop (mkF m 192 #[.val (.int u1), .val (.int v_), .val (.int sel), .val (.int p_), .val (.int q_), .val (.int k_), .val (.int u2), .val (.int pa), .val (.int qd), .val (.int (pa + qd)), .val (.int ki), .val (.double (offV ki)), .second, .val (.double (FP.i2d pa)), .second, .val (.double (t2V (pa + qd) ki)), .second, .val (.ref b4), .val (.ref b6), .val (.int (btV u1 (FP.i2d pa) u2 (t2V (pa + qd) ki))), .val (.int (btV u2 (t2V (pa + qd) ki) u1 (FP.i2d pa))), .val (.int (1 : Int32)), .val (.int (0 : Int32))] [(.int (0 : Int32)), (.int (btV u2 (t2V (pa + qd) ki) u1 (FP.i2d pa)))]))
    refine Gl.go (fun _ k => XS.icmpNo X9.here hx rfl (hb hby at_192) rfl (teq (by rw [btV, if_neg (Ne.symm hne), if_neg hge])).2 k) ?_
    show Gl p.tables e below (QQof s (Q_law Z u1 v_ sel p_ q_ k_ h0 n0) 2 4) (T9.setTop (mkF m 195 #[.val (.int u1), .val (.int v_), .val (.int sel), .val (.int p_), .val (.int q_), .val (.int k_), .val (.int u2), .val (.int pa), .val (.int qd), .val (.int (pa + qd)), .val (.int ki), .val (.double (offV ki)), .second, .val (.double (FP.i2d pa)), .second, .val (.double (t2V (pa + qd) ki)), .second, .val (.ref b4), .val (.ref b6), .val (.int (btV u1 (FP.i2d pa) u2 (t2V (pa + qd) ki))), .val (.int (btV u2 (t2V (pa + qd) ki) u1 (FP.i2d pa))), .val (.int (1 : Int32)), .val (.int (0 : Int32))] []))
    refine Gl.go (fun _ k => XS.iconst X9.here hx rfl (hb hby at_195) k) ?_
    show Gl p.tables e below (QQof s (Q_law Z u1 v_ sel p_ q_ k_ h0 n0) 2 4) (T9.setTop (mkF m 196 #[.val (.int u1), .val (.int v_), .val (.int sel), .val (.int p_), .val (.int q_), .val (.int k_), .val (.int u2), .val (.int pa), .val (.int qd), .val (.int (pa + qd)), .val (.int ki), .val (.double (offV ki)), .second, .val (.double (FP.i2d pa)), .second, .val (.double (t2V (pa + qd) ki)), .second, .val (.ref b4), .val (.ref b6), .val (.int (btV u1 (FP.i2d pa) u2 (t2V (pa + qd) ki))), .val (.int (btV u2 (t2V (pa + qd) ki) u1 (FP.i2d pa))), .val (.int (1 : Int32)), .val (.int (0 : Int32))] [(.int (1 : Int32))]))
    refine Gl.go (fun _ k => XS.goto X9.here hx rfl (pc0 := 196) (pc' := 200) rfl (hb hby at_196) (by decide) (by decide) k) ?_
    show Gl p.tables e below (QQof s (Q_law Z u1 v_ sel p_ q_ k_ h0 n0) 2 4) (T9.setTop (mkF m 200 #[.val (.int u1), .val (.int v_), .val (.int sel), .val (.int p_), .val (.int q_), .val (.int k_), .val (.int u2), .val (.int pa), .val (.int qd), .val (.int (pa + qd)), .val (.int ki), .val (.double (offV ki)), .second, .val (.double (FP.i2d pa)), .second, .val (.double (t2V (pa + qd) ki)), .second, .val (.ref b4), .val (.ref b6), .val (.int (btV u1 (FP.i2d pa) u2 (t2V (pa + qd) ki))), .val (.int (btV u2 (t2V (pa + qd) ki) u1 (FP.i2d pa))), .val (.int (1 : Int32)), .val (.int (0 : Int32))] [(.int (1 : Int32))]))
    refine leafN X9 hx hlk (t := .boolean) Bd.returns (by simp) (hb hby at_200) ?_ (by decide) (by decide)
    exact ⟨rfl, N9⟩
  · skip
    refine Gl.go (fun _ k => XS.icmpYes X9.here hx rfl (pc0 := 108) (pc' := 120) rfl (hb hby at_108) rfl (flt hlt).2.1 (by decide) (by decide) k) ?_
    show Gl p.tables e below (QQof s (Q_law Z u1 v_ sel p_ q_ k_ h0 n0) 2 4) (T9.setTop (mkF m 120 #[.val (.int u1), .val (.int v_), .val (.int sel), .val (.int p_), .val (.int q_), .val (.int k_), .val (.int u2), .val (.int pa), .val (.int qd), .val (.int (pa + qd)), .val (.int ki), .val (.double (offV ki)), .second, .val (.double (FP.i2d pa)), .second, .val (.double (t2V (pa + qd) ki)), .second, .val (.ref b4), .val (.ref b6), .val (.int (btV u1 (FP.i2d pa) u2 (t2V (pa + qd) ki))), .val (.int (btV u2 (t2V (pa + qd) ki) u1 (FP.i2d pa))), .unset, .unset] []))
    refine Gl.go (fun _ k => XS.iload X9.here hx rfl (hb hby at_120) rfl  k) ?_
    show Gl p.tables e below (QQof s (Q_law Z u1 v_ sel p_ q_ k_ h0 n0) 2 4) (T9.setTop (mkF m 122 #[.val (.int u1), .val (.int v_), .val (.int sel), .val (.int p_), .val (.int q_), .val (.int k_), .val (.int u2), .val (.int pa), .val (.int qd), .val (.int (pa + qd)), .val (.int ki), .val (.double (offV ki)), .second, .val (.double (FP.i2d pa)), .second, .val (.double (t2V (pa + qd) ki)), .second, .val (.ref b4), .val (.ref b6), .val (.int (btV u1 (FP.i2d pa) u2 (t2V (pa + qd) ki))), .val (.int (btV u2 (t2V (pa + qd) ki) u1 (FP.i2d pa))), .unset, .unset] [(.int u2)]))
    refine Gl.go (fun _ k => XS.iloadN X9.here hx rfl (hb hby at_122) rfl  k) ?_
    show Gl p.tables e below (QQof s (Q_law Z u1 v_ sel p_ q_ k_ h0 n0) 2 4) (T9.setTop (mkF m 123 #[.val (.int u1), .val (.int v_), .val (.int sel), .val (.int p_), .val (.int q_), .val (.int k_), .val (.int u2), .val (.int pa), .val (.int qd), .val (.int (pa + qd)), .val (.int ki), .val (.double (offV ki)), .second, .val (.double (FP.i2d pa)), .second, .val (.double (t2V (pa + qd) ki)), .second, .val (.ref b4), .val (.ref b6), .val (.int (btV u1 (FP.i2d pa) u2 (t2V (pa + qd) ki))), .val (.int (btV u2 (t2V (pa + qd) ki) u1 (FP.i2d pa))), .unset, .unset] [(.int u1), (.int u2)]))
    by_cases hgt : u2 < u1
    · skip
      refine Gl.go (fun _ k => XS.icmpNo X9.here hx rfl (hb hby at_123) rfl (tlt hgt).2.1 k) ?_
      show Gl p.tables e below (QQof s (Q_law Z u1 v_ sel p_ q_ k_ h0 n0) 2 4) (T9.setTop (mkF m 126 #[.val (.int u1), .val (.int v_), .val (.int sel), .val (.int p_), .val (.int q_), .val (.int k_), .val (.int u2), .val (.int pa), .val (.int qd), .val (.int (pa + qd)), .val (.int ki), .val (.double (offV ki)), .second, .val (.double (FP.i2d pa)), .second, .val (.double (t2V (pa + qd) ki)), .second, .val (.ref b4), .val (.ref b6), .val (.int (btV u1 (FP.i2d pa) u2 (t2V (pa + qd) ki))), .val (.int (btV u2 (t2V (pa + qd) ki) u1 (FP.i2d pa))), .unset, .unset] []))
      refine Gl.go (fun _ k => XS.iconst X9.here hx rfl (hb hby at_126) k) ?_
      show Gl p.tables e below (QQof s (Q_law Z u1 v_ sel p_ q_ k_ h0 n0) 2 4) (T9.setTop (mkF m 127 #[.val (.int u1), .val (.int v_), .val (.int sel), .val (.int p_), .val (.int q_), .val (.int k_), .val (.int u2), .val (.int pa), .val (.int qd), .val (.int (pa + qd)), .val (.int ki), .val (.double (offV ki)), .second, .val (.double (FP.i2d pa)), .second, .val (.double (t2V (pa + qd) ki)), .second, .val (.ref b4), .val (.ref b6), .val (.int (btV u1 (FP.i2d pa) u2 (t2V (pa + qd) ki))), .val (.int (btV u2 (t2V (pa + qd) ki) u1 (FP.i2d pa))), .unset, .unset] [(.int (0 : Int32))]))
      refine Gl.go (fun _ k => XS.istore X9.here hx rfl (hb hby at_127) rfl (l' := #[.val (.int u1), .val (.int v_), .val (.int sel), .val (.int p_), .val (.int q_), .val (.int k_), .val (.int u2), .val (.int pa), .val (.int qd), .val (.int (pa + qd)), .val (.int ki), .val (.double (offV ki)), .second, .val (.double (FP.i2d pa)), .second, .val (.double (t2V (pa + qd) ki)), .second, .val (.ref b4), .val (.ref b6), .val (.int (btV u1 (FP.i2d pa) u2 (t2V (pa + qd) ki))), .val (.int (btV u2 (t2V (pa + qd) ki) u1 (FP.i2d pa))), .val (.int (0 : Int32)), .unset]) rfl k) ?_
      show Gl p.tables e below (QQof s (Q_law Z u1 v_ sel p_ q_ k_ h0 n0) 2 4) (T9.setTop (mkF m 129 #[.val (.int u1), .val (.int v_), .val (.int sel), .val (.int p_), .val (.int q_), .val (.int k_), .val (.int u2), .val (.int pa), .val (.int qd), .val (.int (pa + qd)), .val (.int ki), .val (.double (offV ki)), .second, .val (.double (FP.i2d pa)), .second, .val (.double (t2V (pa + qd) ki)), .second, .val (.ref b4), .val (.ref b6), .val (.int (btV u1 (FP.i2d pa) u2 (t2V (pa + qd) ki))), .val (.int (btV u2 (t2V (pa + qd) ki) u1 (FP.i2d pa))), .val (.int (0 : Int32)), .unset] []))
      refine Gl.go (fun _ k => XS.iconst X9.here hx rfl (hb hby at_129) k) ?_
      show Gl p.tables e below (QQof s (Q_law Z u1 v_ sel p_ q_ k_ h0 n0) 2 4) (T9.setTop (mkF m 130 #[.val (.int u1), .val (.int v_), .val (.int sel), .val (.int p_), .val (.int q_), .val (.int k_), .val (.int u2), .val (.int pa), .val (.int qd), .val (.int (pa + qd)), .val (.int ki), .val (.double (offV ki)), .second, .val (.double (FP.i2d pa)), .second, .val (.double (t2V (pa + qd) ki)), .second, .val (.ref b4), .val (.ref b6), .val (.int (btV u1 (FP.i2d pa) u2 (t2V (pa + qd) ki))), .val (.int (btV u2 (t2V (pa + qd) ki) u1 (FP.i2d pa))), .val (.int (0 : Int32)), .unset] [(.int (1 : Int32))]))
      refine Gl.go (fun _ k => XS.istore X9.here hx rfl (hb hby at_130) rfl (l' := #[.val (.int u1), .val (.int v_), .val (.int sel), .val (.int p_), .val (.int q_), .val (.int k_), .val (.int u2), .val (.int pa), .val (.int qd), .val (.int (pa + qd)), .val (.int ki), .val (.double (offV ki)), .second, .val (.double (FP.i2d pa)), .second, .val (.double (t2V (pa + qd) ki)), .second, .val (.ref b4), .val (.ref b6), .val (.int (btV u1 (FP.i2d pa) u2 (t2V (pa + qd) ki))), .val (.int (btV u2 (t2V (pa + qd) ki) u1 (FP.i2d pa))), .val (.int (0 : Int32)), .val (.int (1 : Int32))]) rfl k) ?_
      show Gl p.tables e below (QQof s (Q_law Z u1 v_ sel p_ q_ k_ h0 n0) 2 4) (T9.setTop (mkF m 132 #[.val (.int u1), .val (.int v_), .val (.int sel), .val (.int p_), .val (.int q_), .val (.int k_), .val (.int u2), .val (.int pa), .val (.int qd), .val (.int (pa + qd)), .val (.int ki), .val (.double (offV ki)), .second, .val (.double (FP.i2d pa)), .second, .val (.double (t2V (pa + qd) ki)), .second, .val (.ref b4), .val (.ref b6), .val (.int (btV u1 (FP.i2d pa) u2 (t2V (pa + qd) ki))), .val (.int (btV u2 (t2V (pa + qd) ki) u1 (FP.i2d pa))), .val (.int (0 : Int32)), .val (.int (1 : Int32))] []))
      refine Gl.go (fun _ k => XS.goto X9.here hx rfl (pc0 := 132) (pc' := 181) rfl (hb hby at_132) (by decide) (by decide) k) ?_
      show Gl p.tables e below (QQof s (Q_law Z u1 v_ sel p_ q_ k_ h0 n0) 2 4) (T9.setTop (mkF m 181 #[.val (.int u1), .val (.int v_), .val (.int sel), .val (.int p_), .val (.int q_), .val (.int k_), .val (.int u2), .val (.int pa), .val (.int qd), .val (.int (pa + qd)), .val (.int ki), .val (.double (offV ki)), .second, .val (.double (FP.i2d pa)), .second, .val (.double (t2V (pa + qd) ki)), .second, .val (.ref b4), .val (.ref b6), .val (.int (btV u1 (FP.i2d pa) u2 (t2V (pa + qd) ki))), .val (.int (btV u2 (t2V (pa + qd) ki) u1 (FP.i2d pa))), .val (.int (0 : Int32)), .val (.int (1 : Int32))] []))
      refine Gl.go (fun _ k => XS.iload X9.here hx rfl (hb hby at_181) rfl  k) ?_
      show Gl p.tables e below (QQof s (Q_law Z u1 v_ sel p_ q_ k_ h0 n0) 2 4) (T9.setTop (mkF m 183 #[.val (.int u1), .val (.int v_), .val (.int sel), .val (.int p_), .val (.int q_), .val (.int k_), .val (.int u2), .val (.int pa), .val (.int qd), .val (.int (pa + qd)), .val (.int ki), .val (.double (offV ki)), .second, .val (.double (FP.i2d pa)), .second, .val (.double (t2V (pa + qd) ki)), .second, .val (.ref b4), .val (.ref b6), .val (.int (btV u1 (FP.i2d pa) u2 (t2V (pa + qd) ki))), .val (.int (btV u2 (t2V (pa + qd) ki) u1 (FP.i2d pa))), .val (.int (0 : Int32)), .val (.int (1 : Int32))] [(.int (btV u1 (FP.i2d pa) u2 (t2V (pa + qd) ki)))]))
      refine Gl.go (fun _ k => XS.iload X9.here hx rfl (hb hby at_183) rfl  k) ?_
      show Gl p.tables e below (QQof s (Q_law Z u1 v_ sel p_ q_ k_ h0 n0) 2 4) (T9.setTop (mkF m 185 #[.val (.int u1), .val (.int v_), .val (.int sel), .val (.int p_), .val (.int q_), .val (.int k_), .val (.int u2), .val (.int pa), .val (.int qd), .val (.int (pa + qd)), .val (.int ki), .val (.double (offV ki)), .second, .val (.double (FP.i2d pa)), .second, .val (.double (t2V (pa + qd) ki)), .second, .val (.ref b4), .val (.ref b6), .val (.int (btV u1 (FP.i2d pa) u2 (t2V (pa + qd) ki))), .val (.int (btV u2 (t2V (pa + qd) ki) u1 (FP.i2d pa))), .val (.int (0 : Int32)), .val (.int (1 : Int32))] [(.int (0 : Int32)), (.int (btV u1 (FP.i2d pa) u2 (t2V (pa + qd) ki)))]))
      have hne : ¬ u1 = u2 := fun q => Int32.lt_irrefl (q ▸ hgt)
      refine Gl.go (fun _ k => XS.icmpNo X9.here hx rfl (hb hby at_185) rfl (teq (by rw [btV, if_neg hne, if_neg hlt])).2 k) ?_
      show Gl p.tables e below (QQof s (Q_law Z u1 v_ sel p_ q_ k_ h0 n0) 2 4) (T9.setTop (mkF m 188 #[.val (.int u1), .val (.int v_), .val (.int sel), .val (.int p_), .val (.int q_), .val (.int k_), .val (.int u2), .val (.int pa), .val (.int qd), .val (.int (pa + qd)), .val (.int ki), .val (.double (offV ki)), .second, .val (.double (FP.i2d pa)), .second, .val (.double (t2V (pa + qd) ki)), .second, .val (.ref b4), .val (.ref b6), .val (.int (btV u1 (FP.i2d pa) u2 (t2V (pa + qd) ki))), .val (.int (btV u2 (t2V (pa + qd) ki) u1 (FP.i2d pa))), .val (.int (0 : Int32)), .val (.int (1 : Int32))] []))
      refine Gl.go (fun _ k => XS.iload X9.here hx rfl (hb hby at_188) rfl  k) ?_
      show Gl p.tables e below (QQof s (Q_law Z u1 v_ sel p_ q_ k_ h0 n0) 2 4) (T9.setTop (mkF m 190 #[.val (.int u1), .val (.int v_), .val (.int sel), .val (.int p_), .val (.int q_), .val (.int k_), .val (.int u2), .val (.int pa), .val (.int qd), .val (.int (pa + qd)), .val (.int ki), .val (.double (offV ki)), .second, .val (.double (FP.i2d pa)), .second, .val (.double (t2V (pa + qd) ki)), .second, .val (.ref b4), .val (.ref b6), .val (.int (btV u1 (FP.i2d pa) u2 (t2V (pa + qd) ki))), .val (.int (btV u2 (t2V (pa + qd) ki) u1 (FP.i2d pa))), .val (.int (0 : Int32)), .val (.int (1 : Int32))] [(.int (btV u2 (t2V (pa + qd) ki) u1 (FP.i2d pa)))]))
      refine Gl.go (fun _ k => XS.iload X9.here hx rfl (hb hby at_190) rfl  k) ?_
      show Gl p.tables e below (QQof s (Q_law Z u1 v_ sel p_ q_ k_ h0 n0) 2 4) (T9.setTop (mkF m 192 #[.val (.int u1), .val (.int v_), .val (.int sel), .val (.int p_), .val (.int q_), .val (.int k_), .val (.int u2), .val (.int pa), .val (.int qd), .val (.int (pa + qd)), .val (.int ki), .val (.double (offV ki)), .second, .val (.double (FP.i2d pa)), .second, .val (.double (t2V (pa + qd) ki)), .second, .val (.ref b4), .val (.ref b6), .val (.int (btV u1 (FP.i2d pa) u2 (t2V (pa + qd) ki))), .val (.int (btV u2 (t2V (pa + qd) ki) u1 (FP.i2d pa))), .val (.int (0 : Int32)), .val (.int (1 : Int32))] [(.int (1 : Int32)), (.int (btV u2 (t2V (pa + qd) ki) u1 (FP.i2d pa)))]))
      refine Gl.go (fun _ k => XS.icmpNo X9.here hx rfl (hb hby at_192) rfl (teq (by rw [btV, if_neg (Ne.symm hne), if_pos hgt])).2 k) ?_
      show Gl p.tables e below (QQof s (Q_law Z u1 v_ sel p_ q_ k_ h0 n0) 2 4) (T9.setTop (mkF m 195 #[.val (.int u1), .val (.int v_), .val (.int sel), .val (.int p_), .val (.int q_), .val (.int k_), .val (.int u2), .val (.int pa), .val (.int qd), .val (.int (pa + qd)), .val (.int ki), .val (.double (offV ki)), .second, .val (.double (FP.i2d pa)), .second, .val (.double (t2V (pa + qd) ki)), .second, .val (.ref b4), .val (.ref b6), .val (.int (btV u1 (FP.i2d pa) u2 (t2V (pa + qd) ki))), .val (.int (btV u2 (t2V (pa + qd) ki) u1 (FP.i2d pa))), .val (.int (0 : Int32)), .val (.int (1 : Int32))] []))
      refine Gl.go (fun _ k => XS.iconst X9.here hx rfl (hb hby at_195) k) ?_
      show Gl p.tables e below (QQof s (Q_law Z u1 v_ sel p_ q_ k_ h0 n0) 2 4) (T9.setTop (mkF m 196 #[.val (.int u1), .val (.int v_), .val (.int sel), .val (.int p_), .val (.int q_), .val (.int k_), .val (.int u2), .val (.int pa), .val (.int qd), .val (.int (pa + qd)), .val (.int ki), .val (.double (offV ki)), .second, .val (.double (FP.i2d pa)), .second, .val (.double (t2V (pa + qd) ki)), .second, .val (.ref b4), .val (.ref b6), .val (.int (btV u1 (FP.i2d pa) u2 (t2V (pa + qd) ki))), .val (.int (btV u2 (t2V (pa + qd) ki) u1 (FP.i2d pa))), .val (.int (0 : Int32)), .val (.int (1 : Int32))] [(.int (1 : Int32))]))
      refine Gl.go (fun _ k => XS.goto X9.here hx rfl (pc0 := 196) (pc' := 200) rfl (hb hby at_196) (by decide) (by decide) k) ?_
      show Gl p.tables e below (QQof s (Q_law Z u1 v_ sel p_ q_ k_ h0 n0) 2 4) (T9.setTop (mkF m 200 #[.val (.int u1), .val (.int v_), .val (.int sel), .val (.int p_), .val (.int q_), .val (.int k_), .val (.int u2), .val (.int pa), .val (.int qd), .val (.int (pa + qd)), .val (.int ki), .val (.double (offV ki)), .second, .val (.double (FP.i2d pa)), .second, .val (.double (t2V (pa + qd) ki)), .second, .val (.ref b4), .val (.ref b6), .val (.int (btV u1 (FP.i2d pa) u2 (t2V (pa + qd) ki))), .val (.int (btV u2 (t2V (pa + qd) ki) u1 (FP.i2d pa))), .val (.int (0 : Int32)), .val (.int (1 : Int32))] [(.int (1 : Int32))]))
      refine leafN X9 hx hlk (t := .boolean) Bd.returns (by simp) (hb hby at_200) ?_ (by decide) (by decide)
      exact ⟨rfl, N9⟩
    · skip
      refine Gl.go (fun _ k => XS.icmpYes X9.here hx rfl (pc0 := 123) (pc' := 135) rfl (hb hby at_123) rfl (flt hgt).2.1 (by decide) (by decide) k) ?_
      show Gl p.tables e below (QQof s (Q_law Z u1 v_ sel p_ q_ k_ h0 n0) 2 4) (T9.setTop (mkF m 135 #[.val (.int u1), .val (.int v_), .val (.int sel), .val (.int p_), .val (.int q_), .val (.int k_), .val (.int u2), .val (.int pa), .val (.int qd), .val (.int (pa + qd)), .val (.int ki), .val (.double (offV ki)), .second, .val (.double (FP.i2d pa)), .second, .val (.double (t2V (pa + qd) ki)), .second, .val (.ref b4), .val (.ref b6), .val (.int (btV u1 (FP.i2d pa) u2 (t2V (pa + qd) ki))), .val (.int (btV u2 (t2V (pa + qd) ki) u1 (FP.i2d pa))), .unset, .unset] []))
      refine Gl.go (fun _ k => XS.iload X9.here hx rfl (hb hby at_135) rfl  k) ?_
      show Gl p.tables e below (QQof s (Q_law Z u1 v_ sel p_ q_ k_ h0 n0) 2 4) (T9.setTop (mkF m 137 #[.val (.int u1), .val (.int v_), .val (.int sel), .val (.int p_), .val (.int q_), .val (.int k_), .val (.int u2), .val (.int pa), .val (.int qd), .val (.int (pa + qd)), .val (.int ki), .val (.double (offV ki)), .second, .val (.double (FP.i2d pa)), .second, .val (.double (t2V (pa + qd) ki)), .second, .val (.ref b4), .val (.ref b6), .val (.int (btV u1 (FP.i2d pa) u2 (t2V (pa + qd) ki))), .val (.int (btV u2 (t2V (pa + qd) ki) u1 (FP.i2d pa))), .unset, .unset] [(.int qd)]))
      have heq : u1 = u2 := Int32.le_antisymm (Int32.not_lt.mp hgt) (Int32.not_lt.mp hlt)
      have D137_10 : ∀ t, Steps p.tables e below (T9.setTop (mkF m 156 #[.val (.int u1), .val (.int v_), .val (.int sel), .val (.int p_), .val (.int q_), .val (.int k_), .val (.int u2), .val (.int pa), .val (.int qd), .val (.int (pa + qd)), .val (.int ki), .val (.double (offV ki)), .second, .val (.double (FP.i2d pa)), .second, .val (.double (t2V (pa + qd) ki)), .second, .val (.ref b4), .val (.ref b6), .val (.int (btV u1 (FP.i2d pa) u2 (t2V (pa + qd) ki))), .val (.int (btV u2 (t2V (pa + qd) ki) u1 (FP.i2d pa))), .unset, .unset] [(.int (if (0 : Int32) < qd then (1 : Int32) else (if qd = (0 : Int32) then (if ki = (3 : Int32) then (1 : Int32) else (0 : Int32)) else (0 : Int32))))])) t → Steps p.tables e below (T9.setTop (mkF m 137 #[.val (.int u1), .val (.int v_), .val (.int sel), .val (.int p_), .val (.int q_), .val (.int k_), .val (.int u2), .val (.int pa), .val (.int qd), .val (.int (pa + qd)), .val (.int ki), .val (.double (offV ki)), .second, .val (.double (FP.i2d pa)), .second, .val (.double (t2V (pa + qd) ki)), .second, .val (.ref b4), .val (.ref b6), .val (.int (btV u1 (FP.i2d pa) u2 (t2V (pa + qd) ki))), .val (.int (btV u2 (t2V (pa + qd) ki) u1 (FP.i2d pa))), .unset, .unset] [(.int qd)])) t := by
        intro t k
        show Steps p.tables e below (T9.setTop (mkF m 137 #[.val (.int u1), .val (.int v_), .val (.int sel), .val (.int p_), .val (.int q_), .val (.int k_), .val (.int u2), .val (.int pa), .val (.int qd), .val (.int (pa + qd)), .val (.int ki), .val (.double (offV ki)), .second, .val (.double (FP.i2d pa)), .second, .val (.double (t2V (pa + qd) ki)), .second, .val (.ref b4), .val (.ref b6), .val (.int (btV u1 (FP.i2d pa) u2 (t2V (pa + qd) ki))), .val (.int (btV u2 (t2V (pa + qd) ki) u1 (FP.i2d pa))), .unset, .unset] [(.int qd)])) _
        by_cases hd137_11 : (0 : Int32) < qd
        · skip
          refine XS.ifYes X9.here hx rfl (pc0 := 137) (pc' := 151) rfl (hb hby at_137) rfl ((if0 _ _).trans (tlt hd137_11).2.2.1) (by decide) (by decide) ?_
          show Steps p.tables e below (T9.setTop (mkF m 151 #[.val (.int u1), .val (.int v_), .val (.int sel), .val (.int p_), .val (.int q_), .val (.int k_), .val (.int u2), .val (.int pa), .val (.int qd), .val (.int (pa + qd)), .val (.int ki), .val (.double (offV ki)), .second, .val (.double (FP.i2d pa)), .second, .val (.double (t2V (pa + qd) ki)), .second, .val (.ref b4), .val (.ref b6), .val (.int (btV u1 (FP.i2d pa) u2 (t2V (pa + qd) ki))), .val (.int (btV u2 (t2V (pa + qd) ki) u1 (FP.i2d pa))), .unset, .unset] [])) _
          refine XS.iconst X9.here hx rfl (hb hby at_151) ?_
          show Steps p.tables e below (T9.setTop (mkF m 152 #[.val (.int u1), .val (.int v_), .val (.int sel), .val (.int p_), .val (.int q_), .val (.int k_), .val (.int u2), .val (.int pa), .val (.int qd), .val (.int (pa + qd)), .val (.int ki), .val (.double (offV ki)), .second, .val (.double (FP.i2d pa)), .second, .val (.double (t2V (pa + qd) ki)), .second, .val (.ref b4), .val (.ref b6), .val (.int (btV u1 (FP.i2d pa) u2 (t2V (pa + qd) ki))), .val (.int (btV u2 (t2V (pa + qd) ki) u1 (FP.i2d pa))), .unset, .unset] [(.int (1 : Int32))])) _
          refine XS.goto X9.here hx rfl (pc0 := 152) (pc' := 156) rfl (hb hby at_152) (by decide) (by decide) ?_
          show Steps p.tables e below (T9.setTop (mkF m 156 #[.val (.int u1), .val (.int v_), .val (.int sel), .val (.int p_), .val (.int q_), .val (.int k_), .val (.int u2), .val (.int pa), .val (.int qd), .val (.int (pa + qd)), .val (.int ki), .val (.double (offV ki)), .second, .val (.double (FP.i2d pa)), .second, .val (.double (t2V (pa + qd) ki)), .second, .val (.ref b4), .val (.ref b6), .val (.int (btV u1 (FP.i2d pa) u2 (t2V (pa + qd) ki))), .val (.int (btV u2 (t2V (pa + qd) ki) u1 (FP.i2d pa))), .unset, .unset] [(.int (1 : Int32))])) _
          simp only [if_pos hd137_11] at k
          exact k
        · skip
          refine XS.ifNo X9.here hx rfl (hb hby at_137) rfl ((if0 _ _).trans (flt hd137_11).2.2.1) ?_
          show Steps p.tables e below (T9.setTop (mkF m 140 #[.val (.int u1), .val (.int v_), .val (.int sel), .val (.int p_), .val (.int q_), .val (.int k_), .val (.int u2), .val (.int pa), .val (.int qd), .val (.int (pa + qd)), .val (.int ki), .val (.double (offV ki)), .second, .val (.double (FP.i2d pa)), .second, .val (.double (t2V (pa + qd) ki)), .second, .val (.ref b4), .val (.ref b6), .val (.int (btV u1 (FP.i2d pa) u2 (t2V (pa + qd) ki))), .val (.int (btV u2 (t2V (pa + qd) ki) u1 (FP.i2d pa))), .unset, .unset] [])) _
          refine XS.iload X9.here hx rfl (hb hby at_140) rfl  ?_
          show Steps p.tables e below (T9.setTop (mkF m 142 #[.val (.int u1), .val (.int v_), .val (.int sel), .val (.int p_), .val (.int q_), .val (.int k_), .val (.int u2), .val (.int pa), .val (.int qd), .val (.int (pa + qd)), .val (.int ki), .val (.double (offV ki)), .second, .val (.double (FP.i2d pa)), .second, .val (.double (t2V (pa + qd) ki)), .second, .val (.ref b4), .val (.ref b6), .val (.int (btV u1 (FP.i2d pa) u2 (t2V (pa + qd) ki))), .val (.int (btV u2 (t2V (pa + qd) ki) u1 (FP.i2d pa))), .unset, .unset] [(.int qd)])) _
          by_cases hd142_12 : qd = (0 : Int32)
          · skip
            refine XS.ifNo X9.here hx rfl (hb hby at_142) rfl ((if0 _ _).trans (teq hd142_12).2) ?_
            show Steps p.tables e below (T9.setTop (mkF m 145 #[.val (.int u1), .val (.int v_), .val (.int sel), .val (.int p_), .val (.int q_), .val (.int k_), .val (.int u2), .val (.int pa), .val (.int qd), .val (.int (pa + qd)), .val (.int ki), .val (.double (offV ki)), .second, .val (.double (FP.i2d pa)), .second, .val (.double (t2V (pa + qd) ki)), .second, .val (.ref b4), .val (.ref b6), .val (.int (btV u1 (FP.i2d pa) u2 (t2V (pa + qd) ki))), .val (.int (btV u2 (t2V (pa + qd) ki) u1 (FP.i2d pa))), .unset, .unset] [])) _
            refine XS.iload X9.here hx rfl (hb hby at_145) rfl  ?_
            show Steps p.tables e below (T9.setTop (mkF m 147 #[.val (.int u1), .val (.int v_), .val (.int sel), .val (.int p_), .val (.int q_), .val (.int k_), .val (.int u2), .val (.int pa), .val (.int qd), .val (.int (pa + qd)), .val (.int ki), .val (.double (offV ki)), .second, .val (.double (FP.i2d pa)), .second, .val (.double (t2V (pa + qd) ki)), .second, .val (.ref b4), .val (.ref b6), .val (.int (btV u1 (FP.i2d pa) u2 (t2V (pa + qd) ki))), .val (.int (btV u2 (t2V (pa + qd) ki) u1 (FP.i2d pa))), .unset, .unset] [(.int ki)])) _
            refine XS.iconst X9.here hx rfl (hb hby at_147) ?_
            show Steps p.tables e below (T9.setTop (mkF m 148 #[.val (.int u1), .val (.int v_), .val (.int sel), .val (.int p_), .val (.int q_), .val (.int k_), .val (.int u2), .val (.int pa), .val (.int qd), .val (.int (pa + qd)), .val (.int ki), .val (.double (offV ki)), .second, .val (.double (FP.i2d pa)), .second, .val (.double (t2V (pa + qd) ki)), .second, .val (.ref b4), .val (.ref b6), .val (.int (btV u1 (FP.i2d pa) u2 (t2V (pa + qd) ki))), .val (.int (btV u2 (t2V (pa + qd) ki) u1 (FP.i2d pa))), .unset, .unset] [(.int (3 : Int32)), (.int ki)])) _
            by_cases hd148_13 : ki = (3 : Int32)
            · skip
              refine XS.icmpNo X9.here hx rfl (hb hby at_148) rfl (teq hd148_13).2 ?_
              show Steps p.tables e below (T9.setTop (mkF m 151 #[.val (.int u1), .val (.int v_), .val (.int sel), .val (.int p_), .val (.int q_), .val (.int k_), .val (.int u2), .val (.int pa), .val (.int qd), .val (.int (pa + qd)), .val (.int ki), .val (.double (offV ki)), .second, .val (.double (FP.i2d pa)), .second, .val (.double (t2V (pa + qd) ki)), .second, .val (.ref b4), .val (.ref b6), .val (.int (btV u1 (FP.i2d pa) u2 (t2V (pa + qd) ki))), .val (.int (btV u2 (t2V (pa + qd) ki) u1 (FP.i2d pa))), .unset, .unset] [])) _
              refine XS.iconst X9.here hx rfl (hb hby at_151) ?_
              show Steps p.tables e below (T9.setTop (mkF m 152 #[.val (.int u1), .val (.int v_), .val (.int sel), .val (.int p_), .val (.int q_), .val (.int k_), .val (.int u2), .val (.int pa), .val (.int qd), .val (.int (pa + qd)), .val (.int ki), .val (.double (offV ki)), .second, .val (.double (FP.i2d pa)), .second, .val (.double (t2V (pa + qd) ki)), .second, .val (.ref b4), .val (.ref b6), .val (.int (btV u1 (FP.i2d pa) u2 (t2V (pa + qd) ki))), .val (.int (btV u2 (t2V (pa + qd) ki) u1 (FP.i2d pa))), .unset, .unset] [(.int (1 : Int32))])) _
              refine XS.goto X9.here hx rfl (pc0 := 152) (pc' := 156) rfl (hb hby at_152) (by decide) (by decide) ?_
              show Steps p.tables e below (T9.setTop (mkF m 156 #[.val (.int u1), .val (.int v_), .val (.int sel), .val (.int p_), .val (.int q_), .val (.int k_), .val (.int u2), .val (.int pa), .val (.int qd), .val (.int (pa + qd)), .val (.int ki), .val (.double (offV ki)), .second, .val (.double (FP.i2d pa)), .second, .val (.double (t2V (pa + qd) ki)), .second, .val (.ref b4), .val (.ref b6), .val (.int (btV u1 (FP.i2d pa) u2 (t2V (pa + qd) ki))), .val (.int (btV u2 (t2V (pa + qd) ki) u1 (FP.i2d pa))), .unset, .unset] [(.int (1 : Int32))])) _
              simp only [if_neg hd137_11, if_pos hd142_12, if_pos hd148_13] at k
              exact k
            · skip
              refine XS.icmpYes X9.here hx rfl (pc0 := 148) (pc' := 155) rfl (hb hby at_148) rfl (feq hd148_13).2 (by decide) (by decide) ?_
              show Steps p.tables e below (T9.setTop (mkF m 155 #[.val (.int u1), .val (.int v_), .val (.int sel), .val (.int p_), .val (.int q_), .val (.int k_), .val (.int u2), .val (.int pa), .val (.int qd), .val (.int (pa + qd)), .val (.int ki), .val (.double (offV ki)), .second, .val (.double (FP.i2d pa)), .second, .val (.double (t2V (pa + qd) ki)), .second, .val (.ref b4), .val (.ref b6), .val (.int (btV u1 (FP.i2d pa) u2 (t2V (pa + qd) ki))), .val (.int (btV u2 (t2V (pa + qd) ki) u1 (FP.i2d pa))), .unset, .unset] [])) _
              refine XS.iconst X9.here hx rfl (hb hby at_155) ?_
              show Steps p.tables e below (T9.setTop (mkF m 156 #[.val (.int u1), .val (.int v_), .val (.int sel), .val (.int p_), .val (.int q_), .val (.int k_), .val (.int u2), .val (.int pa), .val (.int qd), .val (.int (pa + qd)), .val (.int ki), .val (.double (offV ki)), .second, .val (.double (FP.i2d pa)), .second, .val (.double (t2V (pa + qd) ki)), .second, .val (.ref b4), .val (.ref b6), .val (.int (btV u1 (FP.i2d pa) u2 (t2V (pa + qd) ki))), .val (.int (btV u2 (t2V (pa + qd) ki) u1 (FP.i2d pa))), .unset, .unset] [(.int (0 : Int32))])) _
              simp only [if_neg hd137_11, if_pos hd142_12, if_neg hd148_13] at k
              exact k
          · skip
            refine XS.ifYes X9.here hx rfl (pc0 := 142) (pc' := 155) rfl (hb hby at_142) rfl ((if0 _ _).trans (feq hd142_12).2) (by decide) (by decide) ?_
            show Steps p.tables e below (T9.setTop (mkF m 155 #[.val (.int u1), .val (.int v_), .val (.int sel), .val (.int p_), .val (.int q_), .val (.int k_), .val (.int u2), .val (.int pa), .val (.int qd), .val (.int (pa + qd)), .val (.int ki), .val (.double (offV ki)), .second, .val (.double (FP.i2d pa)), .second, .val (.double (t2V (pa + qd) ki)), .second, .val (.ref b4), .val (.ref b6), .val (.int (btV u1 (FP.i2d pa) u2 (t2V (pa + qd) ki))), .val (.int (btV u2 (t2V (pa + qd) ki) u1 (FP.i2d pa))), .unset, .unset] [])) _
            refine XS.iconst X9.here hx rfl (hb hby at_155) ?_
            show Steps p.tables e below (T9.setTop (mkF m 156 #[.val (.int u1), .val (.int v_), .val (.int sel), .val (.int p_), .val (.int q_), .val (.int k_), .val (.int u2), .val (.int pa), .val (.int qd), .val (.int (pa + qd)), .val (.int ki), .val (.double (offV ki)), .second, .val (.double (FP.i2d pa)), .second, .val (.double (t2V (pa + qd) ki)), .second, .val (.ref b4), .val (.ref b6), .val (.int (btV u1 (FP.i2d pa) u2 (t2V (pa + qd) ki))), .val (.int (btV u2 (t2V (pa + qd) ki) u1 (FP.i2d pa))), .unset, .unset] [(.int (0 : Int32))])) _
            simp only [if_neg hd137_11, if_neg hd142_12] at k
            exact k
      refine Gl.go (fun _ k => D137_10 _ k) ?_
      show Gl p.tables e below (QQof s (Q_law Z u1 v_ sel p_ q_ k_ h0 n0) 2 4) (T9.setTop (mkF m 156 #[.val (.int u1), .val (.int v_), .val (.int sel), .val (.int p_), .val (.int q_), .val (.int k_), .val (.int u2), .val (.int pa), .val (.int qd), .val (.int (pa + qd)), .val (.int ki), .val (.double (offV ki)), .second, .val (.double (FP.i2d pa)), .second, .val (.double (t2V (pa + qd) ki)), .second, .val (.ref b4), .val (.ref b6), .val (.int (btV u1 (FP.i2d pa) u2 (t2V (pa + qd) ki))), .val (.int (btV u2 (t2V (pa + qd) ki) u1 (FP.i2d pa))), .unset, .unset] [(.int (if (0 : Int32) < qd then (1 : Int32) else (if qd = (0 : Int32) then (if ki = (3 : Int32) then (1 : Int32) else (0 : Int32)) else (0 : Int32))))]))
      generalize h_e12 : (if (0 : Int32) < qd then (1 : Int32) else (if qd = (0 : Int32) then (if ki = (3 : Int32) then (1 : Int32) else (0 : Int32)) else (0 : Int32))) = e12
      show Gl p.tables e below (QQof s (Q_law Z u1 v_ sel p_ q_ k_ h0 n0) 2 4) (T9.setTop (mkF m 156 #[.val (.int u1), .val (.int v_), .val (.int sel), .val (.int p_), .val (.int q_), .val (.int k_), .val (.int u2), .val (.int pa), .val (.int qd), .val (.int (pa + qd)), .val (.int ki), .val (.double (offV ki)), .second, .val (.double (FP.i2d pa)), .second, .val (.double (t2V (pa + qd) ki)), .second, .val (.ref b4), .val (.ref b6), .val (.int (btV u1 (FP.i2d pa) u2 (t2V (pa + qd) ki))), .val (.int (btV u2 (t2V (pa + qd) ki) u1 (FP.i2d pa))), .unset, .unset] [(.int e12)]))
      refine Gl.go (fun _ k => XS.istore X9.here hx rfl (hb hby at_156) rfl (l' := #[.val (.int u1), .val (.int v_), .val (.int sel), .val (.int p_), .val (.int q_), .val (.int k_), .val (.int u2), .val (.int pa), .val (.int qd), .val (.int (pa + qd)), .val (.int ki), .val (.double (offV ki)), .second, .val (.double (FP.i2d pa)), .second, .val (.double (t2V (pa + qd) ki)), .second, .val (.ref b4), .val (.ref b6), .val (.int (btV u1 (FP.i2d pa) u2 (t2V (pa + qd) ki))), .val (.int (btV u2 (t2V (pa + qd) ki) u1 (FP.i2d pa))), .val (.int e12), .unset]) rfl k) ?_
      show Gl p.tables e below (QQof s (Q_law Z u1 v_ sel p_ q_ k_ h0 n0) 2 4) (T9.setTop (mkF m 158 #[.val (.int u1), .val (.int v_), .val (.int sel), .val (.int p_), .val (.int q_), .val (.int k_), .val (.int u2), .val (.int pa), .val (.int qd), .val (.int (pa + qd)), .val (.int ki), .val (.double (offV ki)), .second, .val (.double (FP.i2d pa)), .second, .val (.double (t2V (pa + qd) ki)), .second, .val (.ref b4), .val (.ref b6), .val (.int (btV u1 (FP.i2d pa) u2 (t2V (pa + qd) ki))), .val (.int (btV u2 (t2V (pa + qd) ki) u1 (FP.i2d pa))), .val (.int e12), .unset] []))
      refine Gl.go (fun _ k => XS.iload X9.here hx rfl (hb hby at_158) rfl  k) ?_
      show Gl p.tables e below (QQof s (Q_law Z u1 v_ sel p_ q_ k_ h0 n0) 2 4) (T9.setTop (mkF m 160 #[.val (.int u1), .val (.int v_), .val (.int sel), .val (.int p_), .val (.int q_), .val (.int k_), .val (.int u2), .val (.int pa), .val (.int qd), .val (.int (pa + qd)), .val (.int ki), .val (.double (offV ki)), .second, .val (.double (FP.i2d pa)), .second, .val (.double (t2V (pa + qd) ki)), .second, .val (.ref b4), .val (.ref b6), .val (.int (btV u1 (FP.i2d pa) u2 (t2V (pa + qd) ki))), .val (.int (btV u2 (t2V (pa + qd) ki) u1 (FP.i2d pa))), .val (.int e12), .unset] [(.int qd)]))
      have D160_14 : ∀ t, Steps p.tables e below (T9.setTop (mkF m 179 #[.val (.int u1), .val (.int v_), .val (.int sel), .val (.int p_), .val (.int q_), .val (.int k_), .val (.int u2), .val (.int pa), .val (.int qd), .val (.int (pa + qd)), .val (.int ki), .val (.double (offV ki)), .second, .val (.double (FP.i2d pa)), .second, .val (.double (t2V (pa + qd) ki)), .second, .val (.ref b4), .val (.ref b6), .val (.int (btV u1 (FP.i2d pa) u2 (t2V (pa + qd) ki))), .val (.int (btV u2 (t2V (pa + qd) ki) u1 (FP.i2d pa))), .val (.int e12), .unset] [(.int (if qd < (0 : Int32) then (1 : Int32) else (if qd = (0 : Int32) then (if ki = (4 : Int32) then (1 : Int32) else (0 : Int32)) else (0 : Int32))))])) t → Steps p.tables e below (T9.setTop (mkF m 160 #[.val (.int u1), .val (.int v_), .val (.int sel), .val (.int p_), .val (.int q_), .val (.int k_), .val (.int u2), .val (.int pa), .val (.int qd), .val (.int (pa + qd)), .val (.int ki), .val (.double (offV ki)), .second, .val (.double (FP.i2d pa)), .second, .val (.double (t2V (pa + qd) ki)), .second, .val (.ref b4), .val (.ref b6), .val (.int (btV u1 (FP.i2d pa) u2 (t2V (pa + qd) ki))), .val (.int (btV u2 (t2V (pa + qd) ki) u1 (FP.i2d pa))), .val (.int e12), .unset] [(.int qd)])) t := by
        intro t k
        show Steps p.tables e below (T9.setTop (mkF m 160 #[.val (.int u1), .val (.int v_), .val (.int sel), .val (.int p_), .val (.int q_), .val (.int k_), .val (.int u2), .val (.int pa), .val (.int qd), .val (.int (pa + qd)), .val (.int ki), .val (.double (offV ki)), .second, .val (.double (FP.i2d pa)), .second, .val (.double (t2V (pa + qd) ki)), .second, .val (.ref b4), .val (.ref b6), .val (.int (btV u1 (FP.i2d pa) u2 (t2V (pa + qd) ki))), .val (.int (btV u2 (t2V (pa + qd) ki) u1 (FP.i2d pa))), .val (.int e12), .unset] [(.int qd)])) _
        by_cases hd160_15 : qd < (0 : Int32)
        · skip
          refine XS.ifYes X9.here hx rfl (pc0 := 160) (pc' := 174) rfl (hb hby at_160) rfl ((if0 _ _).trans (tlt hd160_15).1) (by decide) (by decide) ?_
          show Steps p.tables e below (T9.setTop (mkF m 174 #[.val (.int u1), .val (.int v_), .val (.int sel), .val (.int p_), .val (.int q_), .val (.int k_), .val (.int u2), .val (.int pa), .val (.int qd), .val (.int (pa + qd)), .val (.int ki), .val (.double (offV ki)), .second, .val (.double (FP.i2d pa)), .second, .val (.double (t2V (pa + qd) ki)), .second, .val (.ref b4), .val (.ref b6), .val (.int (btV u1 (FP.i2d pa) u2 (t2V (pa + qd) ki))), .val (.int (btV u2 (t2V (pa + qd) ki) u1 (FP.i2d pa))), .val (.int e12), .unset] [])) _
          refine XS.iconst X9.here hx rfl (hb hby at_174) ?_
          show Steps p.tables e below (T9.setTop (mkF m 175 #[.val (.int u1), .val (.int v_), .val (.int sel), .val (.int p_), .val (.int q_), .val (.int k_), .val (.int u2), .val (.int pa), .val (.int qd), .val (.int (pa + qd)), .val (.int ki), .val (.double (offV ki)), .second, .val (.double (FP.i2d pa)), .second, .val (.double (t2V (pa + qd) ki)), .second, .val (.ref b4), .val (.ref b6), .val (.int (btV u1 (FP.i2d pa) u2 (t2V (pa + qd) ki))), .val (.int (btV u2 (t2V (pa + qd) ki) u1 (FP.i2d pa))), .val (.int e12), .unset] [(.int (1 : Int32))])) _
          refine XS.goto X9.here hx rfl (pc0 := 175) (pc' := 179) rfl (hb hby at_175) (by decide) (by decide) ?_
          show Steps p.tables e below (T9.setTop (mkF m 179 #[.val (.int u1), .val (.int v_), .val (.int sel), .val (.int p_), .val (.int q_), .val (.int k_), .val (.int u2), .val (.int pa), .val (.int qd), .val (.int (pa + qd)), .val (.int ki), .val (.double (offV ki)), .second, .val (.double (FP.i2d pa)), .second, .val (.double (t2V (pa + qd) ki)), .second, .val (.ref b4), .val (.ref b6), .val (.int (btV u1 (FP.i2d pa) u2 (t2V (pa + qd) ki))), .val (.int (btV u2 (t2V (pa + qd) ki) u1 (FP.i2d pa))), .val (.int e12), .unset] [(.int (1 : Int32))])) _
          simp only [if_pos hd160_15] at k
          exact k
        · skip
          refine XS.ifNo X9.here hx rfl (hb hby at_160) rfl ((if0 _ _).trans (flt hd160_15).1) ?_
          show Steps p.tables e below (T9.setTop (mkF m 163 #[.val (.int u1), .val (.int v_), .val (.int sel), .val (.int p_), .val (.int q_), .val (.int k_), .val (.int u2), .val (.int pa), .val (.int qd), .val (.int (pa + qd)), .val (.int ki), .val (.double (offV ki)), .second, .val (.double (FP.i2d pa)), .second, .val (.double (t2V (pa + qd) ki)), .second, .val (.ref b4), .val (.ref b6), .val (.int (btV u1 (FP.i2d pa) u2 (t2V (pa + qd) ki))), .val (.int (btV u2 (t2V (pa + qd) ki) u1 (FP.i2d pa))), .val (.int e12), .unset] [])) _
          refine XS.iload X9.here hx rfl (hb hby at_163) rfl  ?_
          show Steps p.tables e below (T9.setTop (mkF m 165 #[.val (.int u1), .val (.int v_), .val (.int sel), .val (.int p_), .val (.int q_), .val (.int k_), .val (.int u2), .val (.int pa), .val (.int qd), .val (.int (pa + qd)), .val (.int ki), .val (.double (offV ki)), .second, .val (.double (FP.i2d pa)), .second, .val (.double (t2V (pa + qd) ki)), .second, .val (.ref b4), .val (.ref b6), .val (.int (btV u1 (FP.i2d pa) u2 (t2V (pa + qd) ki))), .val (.int (btV u2 (t2V (pa + qd) ki) u1 (FP.i2d pa))), .val (.int e12), .unset] [(.int qd)])) _
          by_cases hd165_16 : qd = (0 : Int32)
          · skip
            refine XS.ifNo X9.here hx rfl (hb hby at_165) rfl ((if0 _ _).trans (teq hd165_16).2) ?_
            show Steps p.tables e below (T9.setTop (mkF m 168 #[.val (.int u1), .val (.int v_), .val (.int sel), .val (.int p_), .val (.int q_), .val (.int k_), .val (.int u2), .val (.int pa), .val (.int qd), .val (.int (pa + qd)), .val (.int ki), .val (.double (offV ki)), .second, .val (.double (FP.i2d pa)), .second, .val (.double (t2V (pa + qd) ki)), .second, .val (.ref b4), .val (.ref b6), .val (.int (btV u1 (FP.i2d pa) u2 (t2V (pa + qd) ki))), .val (.int (btV u2 (t2V (pa + qd) ki) u1 (FP.i2d pa))), .val (.int e12), .unset] [])) _
            refine XS.iload X9.here hx rfl (hb hby at_168) rfl  ?_
            show Steps p.tables e below (T9.setTop (mkF m 170 #[.val (.int u1), .val (.int v_), .val (.int sel), .val (.int p_), .val (.int q_), .val (.int k_), .val (.int u2), .val (.int pa), .val (.int qd), .val (.int (pa + qd)), .val (.int ki), .val (.double (offV ki)), .second, .val (.double (FP.i2d pa)), .second, .val (.double (t2V (pa + qd) ki)), .second, .val (.ref b4), .val (.ref b6), .val (.int (btV u1 (FP.i2d pa) u2 (t2V (pa + qd) ki))), .val (.int (btV u2 (t2V (pa + qd) ki) u1 (FP.i2d pa))), .val (.int e12), .unset] [(.int ki)])) _
            refine XS.iconst X9.here hx rfl (hb hby at_170) ?_
            show Steps p.tables e below (T9.setTop (mkF m 171 #[.val (.int u1), .val (.int v_), .val (.int sel), .val (.int p_), .val (.int q_), .val (.int k_), .val (.int u2), .val (.int pa), .val (.int qd), .val (.int (pa + qd)), .val (.int ki), .val (.double (offV ki)), .second, .val (.double (FP.i2d pa)), .second, .val (.double (t2V (pa + qd) ki)), .second, .val (.ref b4), .val (.ref b6), .val (.int (btV u1 (FP.i2d pa) u2 (t2V (pa + qd) ki))), .val (.int (btV u2 (t2V (pa + qd) ki) u1 (FP.i2d pa))), .val (.int e12), .unset] [(.int (4 : Int32)), (.int ki)])) _
            by_cases hd171_17 : ki = (4 : Int32)
            · skip
              refine XS.icmpNo X9.here hx rfl (hb hby at_171) rfl (teq hd171_17).2 ?_
              show Steps p.tables e below (T9.setTop (mkF m 174 #[.val (.int u1), .val (.int v_), .val (.int sel), .val (.int p_), .val (.int q_), .val (.int k_), .val (.int u2), .val (.int pa), .val (.int qd), .val (.int (pa + qd)), .val (.int ki), .val (.double (offV ki)), .second, .val (.double (FP.i2d pa)), .second, .val (.double (t2V (pa + qd) ki)), .second, .val (.ref b4), .val (.ref b6), .val (.int (btV u1 (FP.i2d pa) u2 (t2V (pa + qd) ki))), .val (.int (btV u2 (t2V (pa + qd) ki) u1 (FP.i2d pa))), .val (.int e12), .unset] [])) _
              refine XS.iconst X9.here hx rfl (hb hby at_174) ?_
              show Steps p.tables e below (T9.setTop (mkF m 175 #[.val (.int u1), .val (.int v_), .val (.int sel), .val (.int p_), .val (.int q_), .val (.int k_), .val (.int u2), .val (.int pa), .val (.int qd), .val (.int (pa + qd)), .val (.int ki), .val (.double (offV ki)), .second, .val (.double (FP.i2d pa)), .second, .val (.double (t2V (pa + qd) ki)), .second, .val (.ref b4), .val (.ref b6), .val (.int (btV u1 (FP.i2d pa) u2 (t2V (pa + qd) ki))), .val (.int (btV u2 (t2V (pa + qd) ki) u1 (FP.i2d pa))), .val (.int e12), .unset] [(.int (1 : Int32))])) _
              refine XS.goto X9.here hx rfl (pc0 := 175) (pc' := 179) rfl (hb hby at_175) (by decide) (by decide) ?_
              show Steps p.tables e below (T9.setTop (mkF m 179 #[.val (.int u1), .val (.int v_), .val (.int sel), .val (.int p_), .val (.int q_), .val (.int k_), .val (.int u2), .val (.int pa), .val (.int qd), .val (.int (pa + qd)), .val (.int ki), .val (.double (offV ki)), .second, .val (.double (FP.i2d pa)), .second, .val (.double (t2V (pa + qd) ki)), .second, .val (.ref b4), .val (.ref b6), .val (.int (btV u1 (FP.i2d pa) u2 (t2V (pa + qd) ki))), .val (.int (btV u2 (t2V (pa + qd) ki) u1 (FP.i2d pa))), .val (.int e12), .unset] [(.int (1 : Int32))])) _
              simp only [if_neg hd160_15, if_pos hd165_16, if_pos hd171_17] at k
              exact k
            · skip
              refine XS.icmpYes X9.here hx rfl (pc0 := 171) (pc' := 178) rfl (hb hby at_171) rfl (feq hd171_17).2 (by decide) (by decide) ?_
              show Steps p.tables e below (T9.setTop (mkF m 178 #[.val (.int u1), .val (.int v_), .val (.int sel), .val (.int p_), .val (.int q_), .val (.int k_), .val (.int u2), .val (.int pa), .val (.int qd), .val (.int (pa + qd)), .val (.int ki), .val (.double (offV ki)), .second, .val (.double (FP.i2d pa)), .second, .val (.double (t2V (pa + qd) ki)), .second, .val (.ref b4), .val (.ref b6), .val (.int (btV u1 (FP.i2d pa) u2 (t2V (pa + qd) ki))), .val (.int (btV u2 (t2V (pa + qd) ki) u1 (FP.i2d pa))), .val (.int e12), .unset] [])) _
              refine XS.iconst X9.here hx rfl (hb hby at_178) ?_
              show Steps p.tables e below (T9.setTop (mkF m 179 #[.val (.int u1), .val (.int v_), .val (.int sel), .val (.int p_), .val (.int q_), .val (.int k_), .val (.int u2), .val (.int pa), .val (.int qd), .val (.int (pa + qd)), .val (.int ki), .val (.double (offV ki)), .second, .val (.double (FP.i2d pa)), .second, .val (.double (t2V (pa + qd) ki)), .second, .val (.ref b4), .val (.ref b6), .val (.int (btV u1 (FP.i2d pa) u2 (t2V (pa + qd) ki))), .val (.int (btV u2 (t2V (pa + qd) ki) u1 (FP.i2d pa))), .val (.int e12), .unset] [(.int (0 : Int32))])) _
              simp only [if_neg hd160_15, if_pos hd165_16, if_neg hd171_17] at k
              exact k
          · skip
            refine XS.ifYes X9.here hx rfl (pc0 := 165) (pc' := 178) rfl (hb hby at_165) rfl ((if0 _ _).trans (feq hd165_16).2) (by decide) (by decide) ?_
            show Steps p.tables e below (T9.setTop (mkF m 178 #[.val (.int u1), .val (.int v_), .val (.int sel), .val (.int p_), .val (.int q_), .val (.int k_), .val (.int u2), .val (.int pa), .val (.int qd), .val (.int (pa + qd)), .val (.int ki), .val (.double (offV ki)), .second, .val (.double (FP.i2d pa)), .second, .val (.double (t2V (pa + qd) ki)), .second, .val (.ref b4), .val (.ref b6), .val (.int (btV u1 (FP.i2d pa) u2 (t2V (pa + qd) ki))), .val (.int (btV u2 (t2V (pa + qd) ki) u1 (FP.i2d pa))), .val (.int e12), .unset] [])) _
            refine XS.iconst X9.here hx rfl (hb hby at_178) ?_
            show Steps p.tables e below (T9.setTop (mkF m 179 #[.val (.int u1), .val (.int v_), .val (.int sel), .val (.int p_), .val (.int q_), .val (.int k_), .val (.int u2), .val (.int pa), .val (.int qd), .val (.int (pa + qd)), .val (.int ki), .val (.double (offV ki)), .second, .val (.double (FP.i2d pa)), .second, .val (.double (t2V (pa + qd) ki)), .second, .val (.ref b4), .val (.ref b6), .val (.int (btV u1 (FP.i2d pa) u2 (t2V (pa + qd) ki))), .val (.int (btV u2 (t2V (pa + qd) ki) u1 (FP.i2d pa))), .val (.int e12), .unset] [(.int (0 : Int32))])) _
            simp only [if_neg hd160_15, if_neg hd165_16] at k
            exact k
      refine Gl.go (fun _ k => D160_14 _ k) ?_
      show Gl p.tables e below (QQof s (Q_law Z u1 v_ sel p_ q_ k_ h0 n0) 2 4) (T9.setTop (mkF m 179 #[.val (.int u1), .val (.int v_), .val (.int sel), .val (.int p_), .val (.int q_), .val (.int k_), .val (.int u2), .val (.int pa), .val (.int qd), .val (.int (pa + qd)), .val (.int ki), .val (.double (offV ki)), .second, .val (.double (FP.i2d pa)), .second, .val (.double (t2V (pa + qd) ki)), .second, .val (.ref b4), .val (.ref b6), .val (.int (btV u1 (FP.i2d pa) u2 (t2V (pa + qd) ki))), .val (.int (btV u2 (t2V (pa + qd) ki) u1 (FP.i2d pa))), .val (.int e12), .unset] [(.int (if qd < (0 : Int32) then (1 : Int32) else (if qd = (0 : Int32) then (if ki = (4 : Int32) then (1 : Int32) else (0 : Int32)) else (0 : Int32))))]))
      generalize h_e21 : (if qd < (0 : Int32) then (1 : Int32) else (if qd = (0 : Int32) then (if ki = (4 : Int32) then (1 : Int32) else (0 : Int32)) else (0 : Int32))) = e21
      show Gl p.tables e below (QQof s (Q_law Z u1 v_ sel p_ q_ k_ h0 n0) 2 4) (T9.setTop (mkF m 179 #[.val (.int u1), .val (.int v_), .val (.int sel), .val (.int p_), .val (.int q_), .val (.int k_), .val (.int u2), .val (.int pa), .val (.int qd), .val (.int (pa + qd)), .val (.int ki), .val (.double (offV ki)), .second, .val (.double (FP.i2d pa)), .second, .val (.double (t2V (pa + qd) ki)), .second, .val (.ref b4), .val (.ref b6), .val (.int (btV u1 (FP.i2d pa) u2 (t2V (pa + qd) ki))), .val (.int (btV u2 (t2V (pa + qd) ki) u1 (FP.i2d pa))), .val (.int e12), .unset] [(.int e21)]))
      refine Gl.go (fun _ k => XS.istore X9.here hx rfl (hb hby at_179) rfl (l' := #[.val (.int u1), .val (.int v_), .val (.int sel), .val (.int p_), .val (.int q_), .val (.int k_), .val (.int u2), .val (.int pa), .val (.int qd), .val (.int (pa + qd)), .val (.int ki), .val (.double (offV ki)), .second, .val (.double (FP.i2d pa)), .second, .val (.double (t2V (pa + qd) ki)), .second, .val (.ref b4), .val (.ref b6), .val (.int (btV u1 (FP.i2d pa) u2 (t2V (pa + qd) ki))), .val (.int (btV u2 (t2V (pa + qd) ki) u1 (FP.i2d pa))), .val (.int e12), .val (.int e21)]) rfl k) ?_
      show Gl p.tables e below (QQof s (Q_law Z u1 v_ sel p_ q_ k_ h0 n0) 2 4) (T9.setTop (mkF m 181 #[.val (.int u1), .val (.int v_), .val (.int sel), .val (.int p_), .val (.int q_), .val (.int k_), .val (.int u2), .val (.int pa), .val (.int qd), .val (.int (pa + qd)), .val (.int ki), .val (.double (offV ki)), .second, .val (.double (FP.i2d pa)), .second, .val (.double (t2V (pa + qd) ki)), .second, .val (.ref b4), .val (.ref b6), .val (.int (btV u1 (FP.i2d pa) u2 (t2V (pa + qd) ki))), .val (.int (btV u2 (t2V (pa + qd) ki) u1 (FP.i2d pa))), .val (.int e12), .val (.int e21)] []))
      refine Gl.go (fun _ k => XS.iload X9.here hx rfl (hb hby at_181) rfl  k) ?_
      show Gl p.tables e below (QQof s (Q_law Z u1 v_ sel p_ q_ k_ h0 n0) 2 4) (T9.setTop (mkF m 183 #[.val (.int u1), .val (.int v_), .val (.int sel), .val (.int p_), .val (.int q_), .val (.int k_), .val (.int u2), .val (.int pa), .val (.int qd), .val (.int (pa + qd)), .val (.int ki), .val (.double (offV ki)), .second, .val (.double (FP.i2d pa)), .second, .val (.double (t2V (pa + qd) ki)), .second, .val (.ref b4), .val (.ref b6), .val (.int (btV u1 (FP.i2d pa) u2 (t2V (pa + qd) ki))), .val (.int (btV u2 (t2V (pa + qd) ki) u1 (FP.i2d pa))), .val (.int e12), .val (.int e21)] [(.int (btV u1 (FP.i2d pa) u2 (t2V (pa + qd) ki)))]))
      refine Gl.go (fun _ k => XS.iload X9.here hx rfl (hb hby at_183) rfl  k) ?_
      show Gl p.tables e below (QQof s (Q_law Z u1 v_ sel p_ q_ k_ h0 n0) 2 4) (T9.setTop (mkF m 185 #[.val (.int u1), .val (.int v_), .val (.int sel), .val (.int p_), .val (.int q_), .val (.int k_), .val (.int u2), .val (.int pa), .val (.int qd), .val (.int (pa + qd)), .val (.int ki), .val (.double (offV ki)), .second, .val (.double (FP.i2d pa)), .second, .val (.double (t2V (pa + qd) ki)), .second, .val (.ref b4), .val (.ref b6), .val (.int (btV u1 (FP.i2d pa) u2 (t2V (pa + qd) ki))), .val (.int (btV u2 (t2V (pa + qd) ki) u1 (FP.i2d pa))), .val (.int e12), .val (.int e21)] [(.int e12), (.int (btV u1 (FP.i2d pa) u2 (t2V (pa + qd) ki)))]))
      refine Gl.go (fun _ k => XS.icmpNo X9.here hx rfl (hb hby at_185) rfl (teq (by rw [← h_e12, btV, if_pos heq]; exact own_t12 (x := 0) (U.2.2.2.1.trans own_w12))).2 k) ?_
      show Gl p.tables e below (QQof s (Q_law Z u1 v_ sel p_ q_ k_ h0 n0) 2 4) (T9.setTop (mkF m 188 #[.val (.int u1), .val (.int v_), .val (.int sel), .val (.int p_), .val (.int q_), .val (.int k_), .val (.int u2), .val (.int pa), .val (.int qd), .val (.int (pa + qd)), .val (.int ki), .val (.double (offV ki)), .second, .val (.double (FP.i2d pa)), .second, .val (.double (t2V (pa + qd) ki)), .second, .val (.ref b4), .val (.ref b6), .val (.int (btV u1 (FP.i2d pa) u2 (t2V (pa + qd) ki))), .val (.int (btV u2 (t2V (pa + qd) ki) u1 (FP.i2d pa))), .val (.int e12), .val (.int e21)] []))
      refine Gl.go (fun _ k => XS.iload X9.here hx rfl (hb hby at_188) rfl  k) ?_
      show Gl p.tables e below (QQof s (Q_law Z u1 v_ sel p_ q_ k_ h0 n0) 2 4) (T9.setTop (mkF m 190 #[.val (.int u1), .val (.int v_), .val (.int sel), .val (.int p_), .val (.int q_), .val (.int k_), .val (.int u2), .val (.int pa), .val (.int qd), .val (.int (pa + qd)), .val (.int ki), .val (.double (offV ki)), .second, .val (.double (FP.i2d pa)), .second, .val (.double (t2V (pa + qd) ki)), .second, .val (.ref b4), .val (.ref b6), .val (.int (btV u1 (FP.i2d pa) u2 (t2V (pa + qd) ki))), .val (.int (btV u2 (t2V (pa + qd) ki) u1 (FP.i2d pa))), .val (.int e12), .val (.int e21)] [(.int (btV u2 (t2V (pa + qd) ki) u1 (FP.i2d pa)))]))
      refine Gl.go (fun _ k => XS.iload X9.here hx rfl (hb hby at_190) rfl  k) ?_
      show Gl p.tables e below (QQof s (Q_law Z u1 v_ sel p_ q_ k_ h0 n0) 2 4) (T9.setTop (mkF m 192 #[.val (.int u1), .val (.int v_), .val (.int sel), .val (.int p_), .val (.int q_), .val (.int k_), .val (.int u2), .val (.int pa), .val (.int qd), .val (.int (pa + qd)), .val (.int ki), .val (.double (offV ki)), .second, .val (.double (FP.i2d pa)), .second, .val (.double (t2V (pa + qd) ki)), .second, .val (.ref b4), .val (.ref b6), .val (.int (btV u1 (FP.i2d pa) u2 (t2V (pa + qd) ki))), .val (.int (btV u2 (t2V (pa + qd) ki) u1 (FP.i2d pa))), .val (.int e12), .val (.int e21)] [(.int e21), (.int (btV u2 (t2V (pa + qd) ki) u1 (FP.i2d pa)))]))
      refine Gl.go (fun _ k => XS.icmpNo X9.here hx rfl (hb hby at_192) rfl (teq (by rw [← h_e21, btV, if_pos heq.symm]; exact own_t21 (x := 0) (U.2.2.2.2.trans own_w21))).2 k) ?_
      show Gl p.tables e below (QQof s (Q_law Z u1 v_ sel p_ q_ k_ h0 n0) 2 4) (T9.setTop (mkF m 195 #[.val (.int u1), .val (.int v_), .val (.int sel), .val (.int p_), .val (.int q_), .val (.int k_), .val (.int u2), .val (.int pa), .val (.int qd), .val (.int (pa + qd)), .val (.int ki), .val (.double (offV ki)), .second, .val (.double (FP.i2d pa)), .second, .val (.double (t2V (pa + qd) ki)), .second, .val (.ref b4), .val (.ref b6), .val (.int (btV u1 (FP.i2d pa) u2 (t2V (pa + qd) ki))), .val (.int (btV u2 (t2V (pa + qd) ki) u1 (FP.i2d pa))), .val (.int e12), .val (.int e21)] []))
      refine Gl.go (fun _ k => XS.iconst X9.here hx rfl (hb hby at_195) k) ?_
      show Gl p.tables e below (QQof s (Q_law Z u1 v_ sel p_ q_ k_ h0 n0) 2 4) (T9.setTop (mkF m 196 #[.val (.int u1), .val (.int v_), .val (.int sel), .val (.int p_), .val (.int q_), .val (.int k_), .val (.int u2), .val (.int pa), .val (.int qd), .val (.int (pa + qd)), .val (.int ki), .val (.double (offV ki)), .second, .val (.double (FP.i2d pa)), .second, .val (.double (t2V (pa + qd) ki)), .second, .val (.ref b4), .val (.ref b6), .val (.int (btV u1 (FP.i2d pa) u2 (t2V (pa + qd) ki))), .val (.int (btV u2 (t2V (pa + qd) ki) u1 (FP.i2d pa))), .val (.int e12), .val (.int e21)] [(.int (1 : Int32))]))
      refine Gl.go (fun _ k => XS.goto X9.here hx rfl (pc0 := 196) (pc' := 200) rfl (hb hby at_196) (by decide) (by decide) k) ?_
      show Gl p.tables e below (QQof s (Q_law Z u1 v_ sel p_ q_ k_ h0 n0) 2 4) (T9.setTop (mkF m 200 #[.val (.int u1), .val (.int v_), .val (.int sel), .val (.int p_), .val (.int q_), .val (.int k_), .val (.int u2), .val (.int pa), .val (.int qd), .val (.int (pa + qd)), .val (.int ki), .val (.double (offV ki)), .second, .val (.double (FP.i2d pa)), .second, .val (.double (t2V (pa + qd) ki)), .second, .val (.ref b4), .val (.ref b6), .val (.int (btV u1 (FP.i2d pa) u2 (t2V (pa + qd) ki))), .val (.int (btV u2 (t2V (pa + qd) ki) u1 (FP.i2d pa))), .val (.int e12), .val (.int e21)] [(.int (1 : Int32))]))
      refine leafN X9 hx hlk (t := .boolean) Bd.returns (by simp) (hb hby at_200) ?_ (by decide) (by decide)
      exact ⟨rfl, N9⟩
set_option maxRecDepth 65536 in
set_option maxHeartbeats 40000000 in
theorem comes_1 {Post : Tables → Env → Array Value → State → Outcome → State → Prop} (hpost : ∀ tb e args s v u, (limb_1_1.after args s (.returned v) u = true ∧ limb_1_2.after args s (.returned v) u = true ∧ True) → FrameEnd s (.returned v) u (Jvm.fieldLocs frame_1_writes args s ++ Jvm.arrayLocs frame_1_arrays args s ++ Jvm.staticLocs frame_1_statics s) 16 128 → Post tb e args s (.returned v) u) :
    ArmFor flags0 classFile x code maxLocals ret World_1 tables_1 room_1 Calls_1 rest_1 Pre_1 Post := by
  intro l hfl _ _ p e ha hc hk s m args below hf hA hF happ hP
  obtain ⟨hcalls, hrest, hpre⟩ := hP
  obtain ⟨-, -, -, hnamed, -, -, -, hat⟩ := (Spec.applies_iff hf).mp happ
  obtain ⟨hg, hn⟩ := and_e (Cond.before_iff.mp (show (Jvm.Cond.and given_1 narrow_1).before args s = true from hpre))
  obtain ⟨hcount, hg0⟩ := and_e hg
  obtain ⟨hk0, hg1⟩ := and_e hg0
  obtain ⟨hk1, hg2⟩ := and_e hg1
  obtain ⟨hk2, hg3⟩ := and_e hg2
  obtain ⟨hk3, hg4⟩ := and_e hg3
  obtain ⟨hk4, hg5⟩ := and_e hg4
  have hk5 := hg5
  obtain ⟨w0, w1, w2, w3, w4, w5, rfl⟩ : ∃ w0 w1 w2 w3 w4 w5 : Value, args = #[w0, w1, w2, w3, w4, w5] := by
    have hs : args.size = 6 := by simpa [Cond.value, given_1] using hcount
    obtain ⟨L⟩ := args
    match L, hs with
    | [w0, w1, w2, w3, w4, w5], _ => exact ⟨w0, w1, w2, w3, w4, w5, rfl⟩
  have hw := fun d (hd : d ∈ tables_1) => atoms_spec (ws := Jvm.Cond.code x code maxLocals ret :: tables_1) hat d (List.mem_cons_of_mem _ hd)
  have hfit : Fit s := fun {y c} hc i hi => by
    obtain ⟨ha, rfl⟩ := Array.getElem?_eq_some_iff.mp hc
    have q := List.all_eq_true.mp ((Array.all_eq_true_iff_forall_mem.mp hF) _ (Array.getElem_mem ha)) i (List.mem_range.mpr hi)
    simpa [Array.getElem?_eq_getElem hi] using q
  obtain ⟨i0, ei0⟩ := is_v hk0
  obtain rfl : w0 = (.int i0) := Option.some.inj ei0
  obtain ⟨i1, ei1⟩ := is_v hk1
  obtain rfl : w1 = (.int i1) := Option.some.inj ei1
  obtain ⟨i2, ei2⟩ := is_v hk2
  obtain rfl : w2 = (.int i2) := Option.some.inj ei2
  obtain ⟨i3, ei3⟩ := is_v hk3
  obtain rfl : w3 = (.int i3) := Option.some.inj ei3
  obtain ⟨i4, ei4⟩ := is_v hk4
  obtain rfl : w4 = (.int i4) := Option.some.inj ei4
  obtain ⟨i5, ei5⟩ := is_v hk5
  obtain rfl : w5 = (.int i5) := Option.some.inj ei5
  obtain ⟨n, o, h1, h2, h3, _, L, rfl, ⟨rfl, N⟩, hq⟩ := rm_law l s _ hw tables_1 i0 i1 i2 i3 i4 i5 s.heap s.heap.size (Nat.le_refl _)  p e ha hc hk s m _ below hf ((Spec.applies_iff_loose hf).mp happ).1 ⟨rfl, State.Warmed39.refl s, rfl⟩ trivial
  refine ⟨n, _, h1, h2, h3, hpost _ _ _ _ _ _ ⟨Cond.after_iff.mpr rfl, Cond.after_iff.mpr (eq_i res_at (Term.int_eval (1)) rfl), trivial⟩ ⟨hq.1, hq.2.1, (hq.2.2.sift fun y hy => Or.inr (N y hy)).mono (by decide) (by decide)⟩⟩
theorem main_1_1 : Claimed_1_1 := comes_1 fun _ _ _ _ _ _ h hF => ⟨h.1, hF⟩
theorem main_1_2 : Claimed_1_2 := comes_1 fun _ _ _ _ _ _ h hF => ⟨h.2.1, hF⟩
end Jvm.Pilot.@@N@@
namespace Jvm.Pilot.@@N@@
open Jvm Jvm.ClassFile Sem Op Lib Jvm.Free Jvm.Stand Jvm.Pilot.@@N@@.Jvm.D
/-! MADE BY PROGRAM (witnessworld.py) out of the Statement's table words and the real class files: 10 classes; the members and pool entries that the words name. The judged class is class 1, her method 2. -/
namespace start1
open Jvm.ClassFile
def u (s : String) : CpInfo := .utf8 (stringToUtf16 s)
/-- a pool by its gaps: so many unusable entries, then the entry; so many at the end -/
def gap : Nat → List CpInfo → List CpInfo
  | 0, r => r
  | n + 1, r => .unusable :: gap n r
def poolList (es : List (Nat × CpInfo)) (last : Nat) : List CpInfo := es.foldr (fun e r => gap e.1 (e.2 :: r)) (gap last [])
def pool (es : List (Nat × CpInfo)) (last : Nat) : Array CpInfo := ⟨poolList es last⟩
def fileOf (pool : Array CpInfo) (this : Nat) (attrs : Array Attribute := #[]) (ms : Array MethodInfo := #[]) (fl : Nat := 33) (sup : Nat := 0) (ifs : Array Nat := #[]) (fds : Array FieldInfo := #[]) : ClassFile where
  minorVersion := 0
  majorVersion := 65
  constantPool := pool
  accessFlags := fl
  thisClass := this
  superClass := sup
  interfaces := ifs
  fields := fds
  methods := ms
  attributes := attrs
def plain (name : String) (sup : Option ClassId) : Class where
  name := name
  kind := .ordinary
  loader := none
  accessFlags := 33
  super := sup
  interfaces := #[]
  cf := none
  fields := #[]
  methods := #[]
  instanceTypes := #[]
  staticTypes := #[]
  resolved := #[]
  callSites := []
  init := .initialized
  statics := none
  mirror := none

def pool0 : Array CpInfo := pool [(5, u "<init>"), (0, u "()V"), (1, .class_ 10), (1, u "java/lang/Object")] 113

def k0c0 : Code := { maxStack := 0, maxLocals := 1, code := object_method_1_code, exceptionTable := #[], attributes := #[] }
def k0m0 : Method := { name := "<init>", desc := "()V", sig := { parameters := [], returnType := none }, accessFlags := 1, code := some k0c0 }
/-- java/lang/Object -/
def k0 : Class := { plain "java/lang/Object" none with
  accessFlags := 33
  interfaces := #[]
  cf := some (fileOf pool0 8 #[] #[{ accessFlags := 1, nameIndex := 5, descriptorIndex := 6, attributes := #[] }] 33 0 #[] #[])
  fields := #[]
  methods := #[k0m0]
  instanceTypes := #[]
  staticTypes := #[]
  resolved := Array.replicate 124 none
  statics := none }

def pool1 : Array CpInfo := pool [(2, .class_ 4), (1, u "java/lang/Object"), (0, u "<init>"), (0, u "()V"), (0, .double 4466300756342324667), (1, .double 13689672793197100475), (1, .double 4479327984896590303), (1, .double 13702700021751366111), (1, .integer 2147483647), (0, .methodref 17 18), (0, .class_ 19), (0, .nameAndType 20 21), (0, u "com/example/berthwise/berthwise/model/RankIsBetterThanPinLaw"), (0, u "offset"), (0, u "(I)D"), (0, .class_ 23), (0, u "com/example/berthwise/berthwise/model/Ranked$Rank"), (0, .methodref 22 25), (0, .nameAndType 5 26), (0, u "(ID)V"), (0, .methodref 22 28), (0, .nameAndType 29 30), (0, u "isBetterThan"), (0, u "(Lcom/example/berthwise/berthwise/model/Ranked$Rank;)Z"), (3, u "law"), (0, u "(IIIIII)Z")] 6

def k1m0 : Method := { name := "<init>", desc := "()V", sig := { parameters := [], returnType := none }, accessFlags := 1, code := none }
def k1c1 : Code := { maxStack := 2, maxLocals := 1, code := method_2_code, exceptionTable := #[], attributes := #[] }
def k1m1 : Method := { name := "offset", desc := "(I)D", sig := { parameters := [.int], returnType := some .double }, accessFlags := 10, code := some k1c1 }
def k1c2 : Code := { maxStack := 5, maxLocals := 23, code := code, exceptionTable := #[], attributes := #[] }
def k1m2 : Method := { name := "law", desc := "(IIIIII)Z", sig := { parameters := [.int, .int, .int, .int, .int, .int], returnType := some .boolean }, accessFlags := 9, code := some k1c2 }
/-- com/example/berthwise/berthwise/model/RankIsBetterThanPinLaw -/
def k1 : Class := { plain "com/example/berthwise/berthwise/model/RankIsBetterThanPinLaw" (some 0) with
  accessFlags := 49
  interfaces := #[]
  cf := some (fileOf pool1 17 #[] #[{ accessFlags := 1, nameIndex := 5, descriptorIndex := 6, attributes := #[] }, { accessFlags := 10, nameIndex := 20, descriptorIndex := 21, attributes := #[] }, { accessFlags := 9, nameIndex := 34, descriptorIndex := 35, attributes := #[] }] 49 2 #[] #[])
  fields := #[]
  methods := #[k1m0, k1m1, k1m2]
  instanceTypes := #[]
  staticTypes := #[]
  resolved := Array.replicate 42 none
  statics := none }

def pool2 : Array CpInfo := pool [(1, .methodref 2 3), (0, .class_ 4), (0, .nameAndType 5 6), (0, u "java/lang/Object"), (0, u "<init>"), (0, u "()V"), (0, .class_ 8), (0, u "java/lang/Record")] 13

def k2c0 : Code := { maxStack := 1, maxLocals := 1, code := jdk_30_method_1_code, exceptionTable := #[], attributes := #[] }
def k2m0 : Method := { name := "<init>", desc := "()V", sig := { parameters := [], returnType := none }, accessFlags := 4, code := some k2c0 }
/-- java/lang/Record -/
def k2 : Class := { plain "java/lang/Record" (some 0) with
  accessFlags := 1057
  interfaces := #[]
  cf := some (fileOf pool2 7 #[] #[{ accessFlags := 4, nameIndex := 5, descriptorIndex := 6, attributes := #[] }] 1057 2 #[] #[])
  fields := #[]
  methods := #[k2m0]
  instanceTypes := #[]
  staticTypes := #[]
  resolved := Array.replicate 22 none
  statics := none }

def pool3 : Array CpInfo := pool [(1, .methodref 2 3), (0, .class_ 4), (0, .nameAndType 5 6), (0, u "java/lang/Record"), (0, u "<init>"), (0, u "()V"), (0, .fieldref 8 9), (0, .class_ 10), (0, .nameAndType 11 12), (0, u "com/example/berthwise/berthwise/model/Ranked$Rank"), (0, u "unplaced"), (0, u "I"), (0, .fieldref 8 14), (0, .nameAndType 15 16), (0, u "total"), (0, u "D"), (2, .double 4472406533629990549), (13, u "(ID)V"), (3, u "isBetterThan"), (0, u "(Lcom/example/berthwise/berthwise/model/Ranked$Rank;)Z"), (8, .class_ 48), (0, u "com/example/berthwise/berthwise/model/Ranked")] 20

def k3c0 : Code := { maxStack := 3, maxLocals := 4, code := prog_30_method_1_code, exceptionTable := #[], attributes := #[] }
def k3m0 : Method := { name := "<init>", desc := "(ID)V", sig := { parameters := [.int, .double], returnType := none }, accessFlags := 1, code := some k3c0 }
def k3c1 : Code := { maxStack := 6, maxLocals := 2, code := prog_30_method_2_code, exceptionTable := #[], attributes := #[] }
def k3m1 : Method := { name := "isBetterThan", desc := "(Lcom/example/berthwise/berthwise/model/Ranked$Rank;)Z", sig := { parameters := [(.object "com/example/berthwise/berthwise/model/Ranked$Rank")], returnType := some .boolean }, accessFlags := 1, code := some k3c1 }
/-- com/example/berthwise/berthwise/model/Ranked$Rank -/
def k3 : Class := { plain "com/example/berthwise/berthwise/model/Ranked$Rank" (some 2) with
  accessFlags := 49
  interfaces := #[]
  cf := some (fileOf pool3 8 #[.nestHost 47] #[{ accessFlags := 1, nameIndex := 5, descriptorIndex := 33, attributes := #[] }, { accessFlags := 1, nameIndex := 37, descriptorIndex := 38, attributes := #[] }] 49 2 #[] #[{ accessFlags := 18, nameIndex := 11, descriptorIndex := 12, attributes := #[] }, { accessFlags := 18, nameIndex := 15, descriptorIndex := 16, attributes := #[] }])
  fields := #[{ name := "unplaced", type := .int, accessFlags := 18, slot := 0, constantValue := 0 }, { name := "total", type := .double, accessFlags := 18, slot := 1, constantValue := 0 }]
  methods := #[k3m0, k3m1]
  instanceTypes := #[.int, .double]
  staticTypes := #[]
  resolved := Array.replicate 69 none
  statics := none }

def pool4 : Array CpInfo := pool [(1, u "java/lang/Cloneable"), (0, .class_ 1), (0, u "java/lang/Object"), (0, .class_ 3)] 3

/-- java/lang/Cloneable -/
def k4 : Class := { plain "java/lang/Cloneable" (some 0) with
  accessFlags := 1537
  interfaces := #[]
  cf := some (fileOf pool4 2 #[] #[] 1537 4 #[] #[])
  fields := #[]
  methods := #[]
  instanceTypes := #[]
  staticTypes := #[]
  resolved := Array.replicate 8 none
  statics := none }

def pool5 : Array CpInfo := pool [(1, u "java/io/Serializable"), (0, .class_ 1), (0, u "java/lang/Object"), (0, .class_ 3)] 3

/-- java/io/Serializable -/
def k5 : Class := { plain "java/io/Serializable" (some 0) with
  accessFlags := 1537
  interfaces := #[]
  cf := some (fileOf pool5 2 #[] #[] 1537 4 #[] #[])
  fields := #[]
  methods := #[]
  instanceTypes := #[]
  staticTypes := #[]
  resolved := Array.replicate 8 none
  statics := none }

/-- the primitive byte -/
def k6 : Class := { plain "byte" none with kind := .primitive 'B', accessFlags := 0x411 }
/-- [B -/
def k7 : Class := { plain "[B" (some 0) with kind := .array 6 .byte, interfaces := #[4, 5], accessFlags := 1041 }

/-- the primitive int -/
def k8 : Class := { plain "int" none with kind := .primitive 'I', accessFlags := 0x411 }
/-- [I -/
def k9 : Class := { plain "[I" (some 0) with kind := .array 8 .int, interfaces := #[4, 5], accessFlags := 1041 }

def heap : Heap := #[]
def classes : Array Class := #[k0, k1, k2, k3, k4, k5, k6, k7, k8, k9]
def interned : List (Array UInt16 × Addr) := []
def slotsUsed : Nat := 0
def theMethod : MethodId := ⟨1, 2⟩
def args0 : Array Value := #[.int 1, .int 2, .int 0, .int 5, .int 1, .int 3]
def aboutOver (below : List Frame) : State where
  vm := { classes := classes, interned := interned.toArray }
  heap := heap
  slotsUsed := slotsUsed
  threads := #[{ frames := .invoking theMethod args0 :: below }]
def below0 : List Frame := [.native { method := ⟨0, 0⟩, args := #[] }]
def about1 : State := aboutOver below0
def p0 : Program := .bare "" "" ""
def e0 : Env := launch0.env 0 0 0
theorem w_frames : about1.frames = Frame.invoking theMethod args0 :: below0 := rfl
set_option maxRecDepth 65536 in
theorem w_args : argsFit about1.vm theMethod args0 = true := by decide +kernel
set_option maxRecDepth 65536 in
theorem w_heap : heapFits about1 = true := by decide +kernel
set_option maxRecDepth 65536 in
theorem w_runnable : about1.curStatus? = some .runnable := by decide +kernel
set_option maxRecDepth 65536 in
theorem w_alone : about1.alone = true := by decide +kernel
set_option maxRecDepth 65536 in
theorem w_named : about1.methodNamed? x = some theMethod := by decide +kernel
set_option maxRecDepth 65536 in
theorem w_hears : about1.hears theMethod below0 = true := by decide +kernel
set_option maxRecDepth 65536 in
theorem w_ripe : about1.ripe theMethod args0 below0 = true := by decide +kernel
theorem w_running : about1.status = .running := rfl
set_option maxRecDepth 65536 in
theorem w_room : about1.hasRoom e0.platform room_1 = true :=
  launch0.hasRoom_least _ room_1 (by decide +kernel) (by decide +kernel) (by decide +kernel) (by decide +kernel) (by decide +kernel) (by decide +kernel)
theorem allAtoms_all (ts : List Jvm.Cond) (a : Array Jvm.Value) (st : Jvm.State) : (allAtoms ts).before a st = ts.all (fun c => c.before a st) := by
  induction ts with
  | nil => rfl
  | cons c t ih =>
    show (Jvm.Cond.and c (allAtoms t)).before a st = _
    rw [Jvm.Cond.before_and, ih, List.all_cons]
def words1 : List Jvm.Cond := Jvm.Cond.code x code maxLocals ret :: tables_1
/-- a 'code' word, met by the world's own term for the bytes: nothing is compared byte by byte -/
theorem code_word {y : MethodName} {bytes : ByteArray} {mx : Nat} {rt : Option FieldType} {a : Array Value} {s : State} {m : MethodId} {meth : Method} {c : Code} (h1 : s.methodNamed? y = some m) (h2 : s.vm.method? m = some meth) (h3 : meth.code = some c) (h4 : c.code = bytes)
    (h5 : (c.maxLocals == mx && c.exceptionTable.isEmpty && decide (c.maxStack ≤ mostOperands) && decide (meth.sig.returnType = rt) && !meth.locks && decide (parseMethodDescriptor y.desc = some meth.sig)) = true) : (Jvm.Cond.code y bytes mx rt).before a s = true := by
  simp only [Bool.and_eq_true, beq_iff_eq, Bool.not_eq_true', decide_eq_true_eq] at h5
  obtain ⟨⟨⟨⟨⟨g1, g2⟩, g3⟩, g4⟩, g5⟩, g6⟩ := h5
  simp [Cond.before, Cond.holds, Cond.value, h1, h2, h3, h4, g1, g2, g3, g4, g5, g6]
def isCode : Jvm.Cond → Bool
  | .code _ _ _ _ => true
  | _ => false
theorem all_split {L : List Jvm.Cond} {P : Jvm.Cond → Bool} (h1 : L.all (fun c => isCode c || P c) = true) (h2 : ∀ c ∈ L.filter isCode, P c = true) : L.all P = true := by
  refine List.all_eq_true.mpr fun c hc => ?_
  have h := List.all_eq_true.mp h1 c hc
  rcases Bool.eq_false_or_eq_true (isCode c) with hi | hi
  · exact h2 c (List.mem_filter.mpr ⟨hc, hi⟩)
  · simpa [hi] using h
set_option maxRecDepth 65536 in
theorem w_c0 : (Jvm.Cond.code x code maxLocals ret).before args0 about1 = true := code_word (m := ⟨1, 2⟩) (meth := k1m2) (c := k1c2) (by decide +kernel) rfl rfl rfl (by decide +kernel)
set_option maxRecDepth 65536 in
theorem w_c1 : (Jvm.Cond.code ({ cls := "com/example/berthwise/berthwise/model/RankIsBetterThanPinLaw", name := "offset", desc := "(I)D" } : Jvm.MethodName) method_2_code (1 : Nat) (Option.some Jvm.ClassFile.FieldType.double)).before args0 about1 = true := code_word (m := ⟨1, 1⟩) (meth := k1m1) (c := k1c1) (by decide +kernel) rfl rfl rfl (by decide +kernel)
set_option maxRecDepth 65536 in
theorem w_c2 : (Jvm.Cond.code ({ cls := "com/example/berthwise/berthwise/model/Ranked$Rank", name := "<init>", desc := "(ID)V" } : Jvm.MethodName) prog_30_method_1_code (4 : Nat) (Option.none : Option Jvm.ClassFile.FieldType)).before args0 about1 = true := code_word (m := ⟨3, 0⟩) (meth := k3m0) (c := k3c0) (by decide +kernel) rfl rfl rfl (by decide +kernel)
set_option maxRecDepth 65536 in
theorem w_c3 : (Jvm.Cond.code ({ cls := "java/lang/Record", name := "<init>", desc := "()V" } : Jvm.MethodName) jdk_30_method_1_code (1 : Nat) (Option.none : Option Jvm.ClassFile.FieldType)).before args0 about1 = true := code_word (m := ⟨2, 0⟩) (meth := k2m0) (c := k2c0) (by decide +kernel) rfl rfl rfl (by decide +kernel)
set_option maxRecDepth 65536 in
theorem w_c4 : (Jvm.Cond.code ({ cls := "java/lang/Object", name := "<init>", desc := "()V" } : Jvm.MethodName) object_method_1_code (1 : Nat) (Option.none : Option Jvm.ClassFile.FieldType)).before args0 about1 = true := code_word (m := ⟨0, 0⟩) (meth := k0m0) (c := k0c0) (by decide +kernel) rfl rfl rfl (by decide +kernel)
set_option maxRecDepth 65536 in
theorem w_c5 : (Jvm.Cond.code ({ cls := "com/example/berthwise/berthwise/model/Ranked$Rank", name := "isBetterThan", desc := "(Lcom/example/berthwise/berthwise/model/Ranked$Rank;)Z" } : Jvm.MethodName) prog_30_method_2_code (2 : Nat) (Option.some Jvm.ClassFile.FieldType.boolean)).before args0 about1 = true := code_word (m := ⟨3, 1⟩) (meth := k3m1) (c := k3c1) (by decide +kernel) rfl rfl rfl (by decide +kernel)
def codes1 : List Jvm.Cond := [Jvm.Cond.code x code maxLocals ret, Jvm.Cond.code ({ cls := "com/example/berthwise/berthwise/model/RankIsBetterThanPinLaw", name := "offset", desc := "(I)D" } : Jvm.MethodName) method_2_code (1 : Nat) (Option.some Jvm.ClassFile.FieldType.double), Jvm.Cond.code ({ cls := "com/example/berthwise/berthwise/model/Ranked$Rank", name := "<init>", desc := "(ID)V" } : Jvm.MethodName) prog_30_method_1_code (4 : Nat) (Option.none : Option Jvm.ClassFile.FieldType), Jvm.Cond.code ({ cls := "java/lang/Record", name := "<init>", desc := "()V" } : Jvm.MethodName) jdk_30_method_1_code (1 : Nat) (Option.none : Option Jvm.ClassFile.FieldType), Jvm.Cond.code ({ cls := "java/lang/Object", name := "<init>", desc := "()V" } : Jvm.MethodName) object_method_1_code (1 : Nat) (Option.none : Option Jvm.ClassFile.FieldType), Jvm.Cond.code ({ cls := "com/example/berthwise/berthwise/model/Ranked$Rank", name := "isBetterThan", desc := "(Lcom/example/berthwise/berthwise/model/Ranked$Rank;)Z" } : Jvm.MethodName) prog_30_method_2_code (2 : Nat) (Option.some Jvm.ClassFile.FieldType.boolean)]
set_option maxRecDepth 65536 in
theorem codes_eq : words1.filter isCode = codes1 := rfl
theorem w_codes : ∀ c ∈ words1.filter isCode, c.before args0 about1 = true := by
  rw [codes_eq]
  intro c hc
  simp only [codes1, List.mem_cons, List.not_mem_nil, or_false] at hc
  rcases hc with rfl | rfl | rfl | rfl | rfl | rfl
  · exact w_c0
  · exact w_c1
  · exact w_c2
  · exact w_c3
  · exact w_c4
  · exact w_c5
set_option maxRecDepth 65536 in
theorem w_t1 : (words1.take 24).all (fun c => isCode c || c.before args0 about1) = true := by decide +kernel
set_option maxRecDepth 65536 in
theorem w_t2 : (words1.drop 24).all (fun c => isCode c || c.before args0 about1) = true := by decide +kernel
theorem w_tables : (allAtoms (Jvm.Cond.code x code maxLocals ret :: tables_1)).before args0 about1 = true := by
  rw [allAtoms_all]
  show words1.all (fun c => c.before args0 about1) = true
  refine all_split ?_ w_codes
  rw [← List.take_append_drop 24 words1, List.all_append, w_t1, w_t2]
  rfl
set_option maxRecDepth 65536 in
theorem w_case : (Jvm.Cond.and given_1 narrow_1).before args0 about1 = true := by decide +kernel
theorem w_applies : (headSpec (Jvm.Cond.code x code maxLocals ret :: tables_1) room_1).applies x e0.platform about1 = true :=
  (Spec.applies_iff w_frames).mpr ⟨w_running, w_runnable, w_alone, w_named, w_hears, w_ripe, w_room, w_tables⟩
theorem atStart : AtStart classFile x code maxLocals ret World_1 tables_1 room_1 Calls_1 rest_1 Pre_1 launch0 p0 e0 about1 theMethod args0 below0 :=
  ⟨lists_1, trivial, launch0.admits_env _ _ _, launch0.least_env, fairChoices_fair.cas, fairChoices_fair.clock, w_frames, w_args, w_heap, w_applies, trivial, trivial, w_case⟩
end start1
theorem witness_1 : WitnessClaimed_1 := ⟨start1.p0, start1.e0, start1.about1, start1.theMethod, start1.args0, start1.below0, start1.atStart⟩
end Jvm.Pilot.@@N@@
