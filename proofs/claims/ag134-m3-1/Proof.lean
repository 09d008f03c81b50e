import JvmDerived
import JvmDerived.Pilot.@@N@@Statement
import JvmDerived.Pilot.@@N@@Code
set_option linter.unusedVariables false
set_option linter.unusedSimpArgs false
namespace Jvm.Pilot.@@N@@
open Jvm Jvm.ClassFile Sem Op Lib Jvm.Free Jvm.Stand Jvm.LawKit Jvm.RoadKit Bundle Jvm.Pilot.@@N@@.Jvm.D
/-! own small kit: the goal of a walk, backward; the leaves -/
def Gl (tb : Tables) (e : Env) (below : List Frame) (QQ : Outcome → State → Prop) (st : State) : Prop := ∃ s₂ o, Steps tb e below st s₂ ∧ s₂.status = .running ∧ Ended s₂ below o ∧ QQ o s₂
theorem Gl.go {tb : Tables} {e : Env} {below : List Frame} {QQ : Outcome → State → Prop} {st st' : State} (h : ∀ t, Steps tb e below st' t → Steps tb e below st t) (g : Gl tb e below QQ st') : Gl tb e below QQ st := by
  obtain ⟨s2, o, h1, h2⟩ := g
  exact ⟨s2, o, h _ h1, h2⟩
def QQof (s : State) (Q : Option Value → Heap → List Loc → Prop) (k n : Nat) : Outcome → State → Prop := fun o U => ∃ v L, o = .returned v ∧ Q v U.heap L ∧ FrameEnd s o U L k n
section Leaf
variable {p : Program} {l : Launch} {e : Env} {R : Room} {s : State} {m : MethodId} {args : Array Value} {below : List Frame} {meth : Method} {c : Code} {T : State} {locs : List Loc} {cells slots : Nat} {pc : Nat} {Ls : Array Slot} {rest : List Value} {Q : Option Value → Heap → List Loc → Prop} {k n : Nat}
theorem leafN (X : Stand p l e R s m args below meth c T locs cells slots) (hx : p.tables.exec = Jvm.exec) (hlk : meth.locks = false) {z : Int32} {t : FieldType} (hret : meth.sig.returnType = some t) (ht : t = .boolean ∨ t = .byte ∨ t = .char ∨ t = .short) (hd : decode c.code pc = .ok (.ireturn, 1))
    (hq : Q (some (.int (nar t z))) T.heap locs) (hk : cells ≤ k) (hn : slots ≤ n) : Gl p.tables e below (QQof s Q k n) (T.setTop (mkF m pc Ls (.int z :: rest))) := by
  obtain ⟨fs, hr, hrun, hended, hW, hsame⟩ := X.leave (v := some (.int (nar t z))) (fun h => by rw [hret] at h; cases h) hlk
  exact ⟨_, _, retN X hx hret ht hd hr, hrun, hended, _, _, rfl, hq, ⟨_, rfl⟩, hW, hsame.mono hk hn⟩
theorem leafI (X : Stand p l e R s m args below meth c T locs cells slots) (hx : p.tables.exec = Jvm.exec) (hlk : meth.locks = false) {z : Int32} (hret : meth.sig.returnType = some .int) (hd : decode c.code pc = .ok (.ireturn, 1))
    (hq : Q (some (.int z)) T.heap locs) (hk : cells ≤ k) (hn : slots ≤ n) : Gl p.tables e below (QQof s Q k n) (T.setTop (mkF m pc Ls (.int z :: rest))) := by
  obtain ⟨fs, hr, hrun, hended, hW, hsame⟩ := X.leave (v := some (.int z)) (fun h => by rw [hret] at h; cases h) hlk
  exact ⟨_, _, retOut X hx hret rfl (Or.inl ⟨rfl, Or.inl rfl, _, rfl⟩) hd hr, hrun, hended, _, _, rfl, hq, ⟨_, rfl⟩, hW, hsame.mono hk hn⟩
theorem leafL (X : Stand p l e R s m args below meth c T locs cells slots) (hx : p.tables.exec = Jvm.exec) (hlk : meth.locks = false) {z : Int64} (hret : meth.sig.returnType = some .long) (hd : decode c.code pc = .ok (.lreturn, 1))
    (hq : Q (some (.long z)) T.heap locs) (hk : cells ≤ k) (hn : slots ≤ n) : Gl p.tables e below (QQof s Q k n) (T.setTop (mkF m pc Ls (.long z :: rest))) := by
  obtain ⟨fs, hr, hrun, hended, hW, hsame⟩ := X.leave (v := some (.long z)) (fun h => by rw [hret] at h; cases h) hlk
  exact ⟨_, _, retOut X hx hret rfl (Or.inr (Or.inl ⟨rfl, rfl, _, rfl⟩)) hd hr, hrun, hended, _, _, rfl, hq, ⟨_, rfl⟩, hW, hsame.mono hk hn⟩
theorem leafD (X : Stand p l e R s m args below meth c T locs cells slots) (hx : p.tables.exec = Jvm.exec) (hlk : meth.locks = false) {z : UInt64} (hret : meth.sig.returnType = some .double) (hd : decode c.code pc = .ok (.dreturn, 1))
    (hq : Q (some (.double z)) T.heap locs) (hk : cells ≤ k) (hn : slots ≤ n) : Gl p.tables e below (QQof s Q k n) (T.setTop (mkF m pc Ls (.double z :: rest))) := by
  obtain ⟨fs, hr, hrun, hended, hW, hsame⟩ := X.leave (v := some (.double z)) (fun h => by rw [hret] at h; cases h) hlk
  exact ⟨_, _, retOut X hx hret rfl (Or.inr (Or.inr (Or.inl ⟨rfl, rfl, _, rfl⟩))) hd hr, hrun, hended, _, _, rfl, hq, ⟨_, rfl⟩, hW, hsame.mono hk hn⟩
theorem narrowR {t : FieldType} {w : Value} (ht : t.isReference = true) (hw : w.isRef = true) : narrow t w = w := by
  cases w <;> simp [Value.isRef] at hw <;> cases t <;> simp [FieldType.isReference] at ht <;> rfl
theorem leafA (X : Stand p l e R s m args below meth c T locs cells slots) (hx : p.tables.exec = Jvm.exec) (hlk : meth.locks = false) {w : Value} {t : FieldType} (hret : meth.sig.returnType = some t) (ht : t.isReference = true) (hw : w.isRef = true) (hd : decode c.code pc = .ok (.areturn, 1))
    (hq : Q (some w) T.heap locs) (hk : cells ≤ k) (hn : slots ≤ n) : Gl p.tables e below (QQof s Q k n) (T.setTop (mkF m pc Ls (w :: rest))) := by
  obtain ⟨fs, hr, hrun, hended, hW, hsame⟩ := X.leave (v := some w) (fun h => by rw [hret] at h; cases h) hlk
  exact ⟨_, _, retOut X hx hret (narrowR ht hw) (Or.inr (Or.inr (Or.inr (Or.inr ⟨rfl, ht, hw⟩)))) hd hr, hrun, hended, _, _, rfl, hq, ⟨_, rfl⟩, hW, hsame.mono hk hn⟩
theorem leafV (X : Stand p l e R s m args below meth c T locs cells slots) (hx : p.tables.exec = Jvm.exec) (hlk : meth.locks = false) (hret : meth.sig.returnType = none) (hd : decode c.code pc = .ok (.return_, 1))
    (hq : Q none T.heap locs) (hk : cells ≤ k) (hn : slots ≤ n) : Gl p.tables e below (QQof s Q k n) (T.setTop (mkF m pc Ls [])) := by
  obtain ⟨fs, hr, hrun, hended, hW, hsame⟩ := X.leave (v := none) (fun _ => rfl) hlk
  exact ⟨_, _, X.returnOut hx hret hd hr, hrun, hended, _, _, rfl, hq, ⟨_, rfl⟩, hW, hsame.mono hk hn⟩
end Leaf
theorem fitsR {t : FieldType} {w : Value} (ht : t.isReference = true) (hw : w.isRef = true) : fits t w = true := by
  cases w <;> simp [Value.isRef] at hw <;> cases t <;> simp [FieldType.isReference] at ht <;> rfl
theorem nar1 : nar .boolean (1 : Int32) = 1 := by decide
theorem nar0 : nar .boolean (0 : Int32) = 0 := by decide
theorem int_at {args : Array Value} {s : State} {t : Term} {k : Int32} (h : (Jvm.Cond.eq t (.int k)).value args s none s [] = some true) : t.eval args s none [] s = some (.int k) := by
  obtain ⟨x, y, hx, hy, kx, ky⟩ := cmp_v (Or.inl h)
  have hk : y = .int k := Option.some.inj (hy.symm.trans (Term.int_eval k))
  subst hk
  obtain ⟨z, rfl⟩ := ky
  have hz := gotT (Cond.eq_ints hx (Term.int_eval k)) h
  rw [hx, hz]
theorem fld_int {args : Array Value} {s : State} {t : Term} {C n d : String} {k : Int32} {x : Addr} (ht : t.eval args s none [] s = some (.ref x)) (h : (Jvm.Cond.eq (.field t C n d) (.int k)).value args s none s [] = some true) : Fld s s.heap x C n d (.int k) := Fld.start ((fld_at ht).symm.trans (int_at h))
theorem ref_at {args : Array Value} {s : State} {a b : Term} {x : Addr} (hb : b.eval args s none [] s = some (.ref x)) (h : (Jvm.Cond.eq a b).value args s none s [] = some true) : a.eval args s none [] s = some (.ref x) := by
  obtain ⟨y, z, hy, hz, ky, kz⟩ := cmp_v (Or.inl h)
  have hk : z = .ref x := Option.some.inj (hz.symm.trans hb)
  subst hk
  have hr : y.isRef = true := kz.2
  have he := gotT (eq_R hy hb hr rfl) h
  rw [hy, he]
theorem ext_of_keep {h h' : Heap} (K : Keep h h' []) : Ext h h' := ⟨K.1, fun a c q => K.2.1 a c q nin0⟩
theorem arr_len {args : Array Value} {s : State} {t : Term} {a : Addr} {cl : Cell} {ty : FieldType} {k : Int32} (ev : t.eval args s none [] s = some (.ref a)) (A : Arr s s.heap a cl ty) (h : (Jvm.Cond.eq (.length t) (.int k)).value args s none s [] = some true) : cl.slots.size < 2 ^ 31 ∧ cl.slots.size.toInt32 = k := by
  obtain ⟨b, cell, e1, e2, e3, e4⟩ := Jvm.Lib.length_spec (int_at h)
  have hb : a = b := Value.ref.inj (Option.some.inj (ev.symm.trans e1))
  subst hb
  have hc : cl = cell := Option.some.inj ((A.fin (Vm.Alike.refl _)).symm.trans e2)
  subst hc
  exact ⟨e3, (Value.int.inj e4).symm⟩
theorem arr_elem {args : Array Value} {s : State} {t : Term} {a : Addr} {cl : Cell} {ty : FieldType} {j : Int32} {v : Value} (ev : t.eval args s none [] s = some (.ref a)) (A : Arr s s.heap a cl ty) (h : (Term.elem t (.int j)).eval args s none [] s = some v) : cl.slots[j.toNatClampNeg]? = some v := (elem_in h ev (Term.int_eval j) A.1).2
/-! the plain side: what the walked methods compute, over Int32 -/
def gL (l : List Int32) (j : Int32) : Int32 := l.getD j.toNatClampNeg 0
def chV (x : Int32) : Int32 := nar .char (x.toUInt32.toUInt16.toUInt32.toInt32)
def orB (acc v : Int32) : Int32 := (acc ||| ((1 : Int32) <<< ((v &&& (15 : Int32)) &&& 31)))
def subB (x y : Int32) : Int32 := (x &&& (y ^^^ (-1 : Int32)))
def reV (z : Int32) (g : Int32 → Int32) : Int32 := if (0 : Int32) < z then (if g (z - (1 : Int32)) = (36 : Int32) then (z - (1 : Int32)) else z) else z
def anV (z : Int32) (g : Int32 → Int32) : Int32 := if (0 : Int32) < z then (if g (z - (1 : Int32)) = (36 : Int32) then (1 : Int32) else (0 : Int32)) else (0 : Int32)
def wiV (g : Int32 → Int32) (to : Int32) : Nat → Int32 → Int32
  | 0, i => i
  | k + 1, i => if i < to then (if g i = (42 : Int32) then i else wiV g to k (i + (1 : Int32))) else i
def caV (g : Int32 → Int32) (to : Int32) : Nat → Int32 → Int32 → Int32
  | 0, _, cc => cc
  | k + 1, i, cc => if i < to then (if g i = (42 : Int32) then caV g to k (i + (1 : Int32)) cc else caV g to k (i + (1 : Int32)) (orB cc (g i))) else cc
def bcV (g : Int32 → Int32) (z : Int32) : Nat → Int32 → Int32 → Int32
  | 0, _, cc => cc
  | k + 1, i, cc => if i < z then bcV g z k (i + (1 : Int32)) (orB cc (g i)) else cc
def miV (gP gR : Int32 → Int32) (ap rs rl : Int32) : Nat → Int32 → Int32
  | 0, _ => (-1 : Int32)
  | k + 1, i => if i < rl then (if gP (ap + i) = gR (rs + i) then miV gP gR ap rs rl k (i + (1 : Int32)) else i) else (-1 : Int32)
def eqV (gP gR : Int32 → Int32) (ap rs rl : Int32) : Int32 := if miV gP gR ap rs rl 4 (0 : Int32) < (0 : Int32) then (1 : Int32) else (0 : Int32)
def ocV (zP : Int32) (gP gR : Int32 → Int32) (ap rs rl : Int32) : Int32 := if zP < (ap + rl) then (0 : Int32) else (if eqV gP gR ap rs rl = (0 : Int32) then (0 : Int32) else (1 : Int32))
def ioL (zP : Int32) (gP gR : Int32 → Int32) (rs rl lt : Int32) : Nat → Int32 → Int32
  | 0, _ => (-1 : Int32)
  | k + 1, i => if lt < i then (-1 : Int32) else (if gP i = gR rs then (if ocV zP gP gR i rs rl = (0 : Int32) then ioL zP gP gR rs rl lt k (i + (1 : Int32)) else i) else ioL zP gP gR rs rl lt k (i + (1 : Int32)))
def ioV (zP : Int32) (gP gR : Int32 → Int32) (fi rs rf : Int32) : Int32 := if (rf - rs) = (0 : Int32) then (if (zP - (rf - rs)) < fi then (-1 : Int32) else fi) else ioL zP gP gR rs (rf - rs) (zP - (rf - rs)) 5 fi
def mpT (zP : Int32) (gP gR : Int32 → Int32) (an pos rs en : Int32) : Int32 := if an = (0 : Int32) then (if ioV zP gP gR pos rs en < (0 : Int32) then (0 : Int32) else (1 : Int32)) else (if (zP - (en - rs)) < pos then (0 : Int32) else (if ocV zP gP gR (zP - (en - rs)) rs (en - rs) = (0 : Int32) then (0 : Int32) else (1 : Int32)))
def mpL (zP : Int32) (gP gR : Int32 → Int32) (an en : Int32) : Nat → Int32 → Int32 → Int32 → Int32
  | 0, pos, rs, _ => mpT zP gP gR an pos rs en
  | k + 1, pos, rs, rn => if rn < en then (if ioV zP gP gR pos rs rn < (0 : Int32) then (0 : Int32) else mpL zP gP gR an en k ((ioV zP gP gR pos rs rn + rn) - rs) (rn + (1 : Int32)) (wiV gR en 4 (rn + (1 : Int32)))) else mpT zP gP gR an pos rs en
def mpV (z : Int32) (g : Int32 → Int32) (sl cls zP : Int32) (gP : Int32 → Int32) (pcls : Int32) : Int32 := if subB cls pcls = (0 : Int32) then (if sl = reV z g then (if anV z g = (0 : Int32) then (1 : Int32) else (if zP = sl then (1 : Int32) else (0 : Int32))) else mpL zP gP g (anV z g) (reV z g) 4 sl (sl + (1 : Int32)) (wiV g (reV z g) 4 (sl + (1 : Int32)))) else (0 : Int32)
def maV (z : Int32) (g : Int32 → Int32) (zP : Int32) (gP : Int32 → Int32) : Int32 := if ocV zP gP g (0 : Int32) (0 : Int32) (wiV g (reV z g) 4 (0 : Int32)) = (0 : Int32) then (0 : Int32) else (if mpV z g (wiV g (reV z g) 4 (0 : Int32)) (chV (caV g (reV z g) 4 (wiV g (reV z g) 4 (0 : Int32)) (0 : Int32))) zP gP (chV (bcV gP zP 4 (0 : Int32) (0 : Int32))) = (0 : Int32) then (0 : Int32) else (1 : Int32))
def npV (z : Int32) (g : Int32 → Int32) : Int32 := if (0 : Int32) < z then (if g (0 : Int32) = (47 : Int32) then (0 : Int32) else (if g (0 : Int32) = (42 : Int32) then (0 : Int32) else (1 : Int32))) else (0 : Int32)
def pkV (x : Int32) : Int32 := if (x &&& (3 : Int32)) = (0 : Int32) then nar .byte (47 : Int32) else if (x &&& (3 : Int32)) = (1 : Int32) then nar .byte (42 : Int32) else if (x &&& (3 : Int32)) = (2 : Int32) then nar .byte (36 : Int32) else nar .byte ((x >>> ((2 : Int32) &&& 31)).toInt8.toInt32)
def olZ (q : Int32) : Int32 := if (0 : Int32) < q then (if q = (1 : Int32) then (1 : Int32) else if q = (2 : Int32) then (2 : Int32) else if q = (3 : Int32) then (3 : Int32) else (4 : Int32)) else (0 : Int32)
def olL (q y0 y1 y2 y3 : Int32) : List Int32 := if (0 : Int32) < q then (if q = (1 : Int32) then [nar .byte y0] else if q = (2 : Int32) then [nar .byte y0, nar .byte y1] else if q = (3 : Int32) then [nar .byte y0, nar .byte y1, nar .byte y2] else [nar .byte y0, nar .byte y1, nar .byte y2, nar .byte y3]) else []
def adK (k y i n : Int32) : Int32 := if i < n then (if y = (42 : Int32) then k else if i = (n - (1 : Int32)) then (if y = (36 : Int32) then k else (k + (1 : Int32))) else (k + (1 : Int32))) else k
def adL (l : List Int32) (k y i n : Int32) : List Int32 := if i < n then (if y = (42 : Int32) then l else if i = (n - (1 : Int32)) then (if y = (36 : Int32) then l else l.set k.toNatClampNeg (nar .byte y)) else l.set k.toNatClampNeg (nar .byte y)) else l
theorem wiZ (g : Int32 → Int32) (to i : Int32) : wiV g to 0 i = i := rfl
theorem wiS (g : Int32 → Int32) (to : Int32) (k : Nat) (i : Int32) : wiV g to (k + 1) i = if i < to then (if g i = (42 : Int32) then i else wiV g to k (i + (1 : Int32))) else i := rfl
theorem caZ (g : Int32 → Int32) (to i cc : Int32) : caV g to 0 i cc = cc := rfl
theorem caS (g : Int32 → Int32) (to : Int32) (k : Nat) (i cc : Int32) : caV g to (k + 1) i cc = if i < to then (if g i = (42 : Int32) then caV g to k (i + (1 : Int32)) cc else caV g to k (i + (1 : Int32)) (orB cc (g i))) else cc := rfl
theorem bcZ (g : Int32 → Int32) (z i cc : Int32) : bcV g z 0 i cc = cc := rfl
theorem bcS (g : Int32 → Int32) (z : Int32) (k : Nat) (i cc : Int32) : bcV g z (k + 1) i cc = if i < z then bcV g z k (i + (1 : Int32)) (orB cc (g i)) else cc := rfl
theorem miZ (gP gR : Int32 → Int32) (ap rs rl i : Int32) : miV gP gR ap rs rl 0 i = (-1 : Int32) := rfl
theorem miS (gP gR : Int32 → Int32) (ap rs rl : Int32) (k : Nat) (i : Int32) : miV gP gR ap rs rl (k + 1) i = if i < rl then (if gP (ap + i) = gR (rs + i) then miV gP gR ap rs rl k (i + (1 : Int32)) else i) else (-1 : Int32) := rfl
theorem ioZ (zP : Int32) (gP gR : Int32 → Int32) (rs rl lt i : Int32) : ioL zP gP gR rs rl lt 0 i = (-1 : Int32) := rfl
theorem ioS (zP : Int32) (gP gR : Int32 → Int32) (rs rl lt : Int32) (k : Nat) (i : Int32) : ioL zP gP gR rs rl lt (k + 1) i = if lt < i then (-1 : Int32) else (if gP i = gR rs then (if ocV zP gP gR i rs rl = (0 : Int32) then ioL zP gP gR rs rl lt k (i + (1 : Int32)) else i) else ioL zP gP gR rs rl lt k (i + (1 : Int32))) := rfl
theorem mpZ (zP : Int32) (gP gR : Int32 → Int32) (an en pos rs rn : Int32) : mpL zP gP gR an en 0 pos rs rn = mpT zP gP gR an pos rs en := rfl
theorem mpS (zP : Int32) (gP gR : Int32 → Int32) (an en : Int32) (k : Nat) (pos rs rn : Int32) : mpL zP gP gR an en (k + 1) pos rs rn = if rn < en then (if ioV zP gP gR pos rs rn < (0 : Int32) then (0 : Int32) else mpL zP gP gR an en k ((ioV zP gP gR pos rs rn + rn) - rs) (rn + (1 : Int32)) (wiV gR en 4 (rn + (1 : Int32)))) else mpT zP gP gR an pos rs en := rfl
theorem own_gl (l : List Int32) (j : Int32) : (l.map Value.int).getD j.toNatClampNeg (.int (0 : Int32)) = .int (gL l j) := by
  unfold gL
  rw [List.getD_eq_getElem?_getD, List.getD_eq_getElem?_getD, List.getElem?_map]
  cases l[j.toNatClampNeg]? <;> rfl
theorem t0 : (0 : Int32).toInt = 0 := by decide
theorem t1 : (1 : Int32).toInt = 1 := by decide
theorem t4 : (4 : Int32).toInt = 4 := by decide
theorem t7 : (7 : Int32).toInt = 7 := by decide
theorem tm : (-1 : Int32).toInt = -1 := by decide
theorem tA {a b : Int32} (h : -1000 ≤ a.toInt ∧ a.toInt ≤ 1000 ∧ -1000 ≤ b.toInt ∧ b.toInt ≤ 1000) : (a + b).toInt = a.toInt + b.toInt := (Int32.toInt_add a b).trans (Int.bmod_eq_of_le (by omega) (by omega))
theorem tS {a b : Int32} (h : -1000 ≤ a.toInt ∧ a.toInt ≤ 1000 ∧ -1000 ≤ b.toInt ∧ b.toInt ≤ 1000) : (a - b).toInt = a.toInt - b.toInt := (Int32.toInt_sub a b).trans (Int.bmod_eq_of_le (by omega) (by omega))
theorem tA1 {a : Int32} (h : -1000 ≤ a.toInt ∧ a.toInt ≤ 1000) : (a + (1 : Int32)).toInt = a.toInt + 1 := by
  have q := tA (a := a) (b := 1) (by rw [t1]; omega)
  rw [q, t1]
theorem tS1 {a : Int32} (h : -1000 ≤ a.toInt ∧ a.toInt ≤ 1000) : (a - (1 : Int32)).toInt = a.toInt - 1 := by
  have q := tS (a := a) (b := 1) (by rw [t1]; omega)
  rw [q, t1]
theorem own_can (a b : Int32) : ((a + b) - a) = b := by
  rw [Int32.add_comm a b]
  exact Int32.add_sub_cancel b a
section Obl
variable {i to z zP zR zv a r rs rl rf fi sl en rn pos f kk ls : Int32} {k : Nat}
theorem o_re (bz : 0 ≤ z.toInt ∧ z.toInt ≤ 4) (h : (0 : Int32) < z) : ¬ (z - (1 : Int32)) < (0 : Int32) ∧ (z - (1 : Int32)) < z := by
  have q := tS1 (a := z) (by omega)
  simp only [Int32.lt_iff_toInt_lt, t0, q] at h ⊢ <;> omega
theorem o_nlt (q1 : to.toInt ≤ i.toInt + ((0 : Nat) : Int)) : ¬ i < to := by
  rw [Int32.lt_iff_toInt_lt]
  omega
theorem o_in (q2 : 0 ≤ i.toInt) (h : i < to) (b2 : to.toInt ≤ z.toInt) : ¬ i < (0 : Int32) ∧ i < z := by
  simp only [Int32.lt_iff_toInt_lt, t0] at h ⊢ <;> omega
theorem o_s1 (q1 : to.toInt ≤ i.toInt + ((k + 1 : Nat) : Int)) (q2 : 0 ≤ i.toInt) (h : i < to) (b2 : to.toInt ≤ z.toInt) (bz : 0 ≤ z.toInt ∧ z.toInt ≤ 4) : to.toInt ≤ (i + (1 : Int32)).toInt + ((k : Nat) : Int) := by
  rw [Int32.lt_iff_toInt_lt] at h
  have q := tA1 (a := i) (by omega)
  rw [q]
  omega
theorem o_s2 (q2 : 0 ≤ i.toInt) (h : i < to) (b2 : to.toInt ≤ z.toInt) (bz : 0 ≤ z.toInt ∧ z.toInt ≤ 4) : 0 ≤ (i + (1 : Int32)).toInt := by
  rw [Int32.lt_iff_toInt_lt] at h
  have q := tA1 (a := i) (by omega)
  rw [q]
  omega
theorem o_4 (b1 : 0 ≤ i.toInt) (b2 : to.toInt ≤ z.toInt) (bz : 0 ≤ z.toInt ∧ z.toInt ≤ 4) : to.toInt ≤ i.toInt + ((4 : Nat) : Int) := by omega
theorem o_40 (b2 : to.toInt ≤ z.toInt) (bz : 0 ≤ z.toInt ∧ z.toInt ≤ 4) : to.toInt ≤ (0 : Int32).toInt + ((4 : Nat) : Int) := by
  rw [t0]
  omega
theorem o_rl4 (c4 : 0 ≤ rs.toInt) (c5 : rs.toInt + rl.toInt ≤ zR.toInt) : rl.toInt ≤ zR.toInt := by omega
theorem o_7 (c4 : 0 ≤ rs.toInt) (c5 : rs.toInt + rl.toInt ≤ zR.toInt) (bR : 0 ≤ zR.toInt ∧ zR.toInt ≤ 4) : ¬ (7 : Int32) < rl := by
  rw [Int32.lt_iff_toInt_lt, t7]
  omega
theorem o_mm (c1 : 0 ≤ a.toInt) (q2 : 0 ≤ i.toInt) (h : i < r) (c3 : a.toInt + r.toInt ≤ z.toInt) (bz : 0 ≤ z.toInt ∧ z.toInt ≤ 4) : ¬ (a + i) < (0 : Int32) ∧ (a + i) < z := by
  rw [Int32.lt_iff_toInt_lt] at h
  have q := tA (a := a) (b := i) (by omega)
  simp only [Int32.lt_iff_toInt_lt, t0, q] <;> omega
theorem o_rc (c1 : 0 ≤ a.toInt) (c2 : 0 ≤ r.toInt) (c3 : a.toInt + r.toInt ≤ z.toInt) (bz : 0 ≤ z.toInt ∧ z.toInt ≤ 4) : (¬ (a + r) < a) ∧ (¬ a < (0 : Int32)) ∧ ¬ z < (a + r) := by
  have q := tA (a := a) (b := r) (by omega)
  simp only [Int32.lt_iff_toInt_lt, t0, q] <;> omega
theorem o_c3 (h : ¬ z < (a + r)) (c1 : 0 ≤ a.toInt ∧ a.toInt ≤ 8) (c2 : 0 ≤ r.toInt) (c4 : 0 ≤ rs.toInt) (c5 : rs.toInt + r.toInt ≤ zR.toInt) (bR : 0 ≤ zR.toInt ∧ zR.toInt ≤ 4) : a.toInt + r.toInt ≤ z.toInt := by
  have q := tA (a := a) (b := r) (by omega)
  rw [Int32.lt_iff_toInt_lt, q] at h
  omega
theorem o_rl (c2 : 0 ≤ rs.toInt ∧ rs.toInt ≤ rf.toInt ∧ rf.toInt ≤ zR.toInt) (bR : 0 ≤ zR.toInt ∧ zR.toInt ≤ 4) : (rf - rs).toInt = rf.toInt - rs.toInt := tS (by omega)
theorem o_ls (hrl : (rf - rs).toInt = rf.toInt - rs.toInt) (c2 : 0 ≤ rs.toInt ∧ rs.toInt ≤ rf.toInt ∧ rf.toInt ≤ zR.toInt) (bR : 0 ≤ zR.toInt ∧ zR.toInt ≤ 4) (bP : 0 ≤ zP.toInt ∧ zP.toInt ≤ 4) : (zP - (rf - rs)).toInt = zP.toInt - (rf - rs).toInt := tS (by omega)
theorem o_pos (h : ¬ r = (0 : Int32)) (hrl : r.toInt = rf.toInt - rs.toInt) (c2 : 0 ≤ rs.toInt ∧ rs.toInt ≤ rf.toInt ∧ rf.toInt ≤ zR.toInt) : 0 < r.toInt := by
  have q : ¬ r.toInt = 0 := fun q => h (Int32.toInt_inj.mp (q.trans t0.symm))
  omega
theorem o_rs (hpos : 0 < r.toInt) (hrl : r.toInt = rf.toInt - rs.toInt) (c2 : 0 ≤ rs.toInt ∧ rs.toInt ≤ rf.toInt ∧ rf.toInt ≤ zR.toInt) : ¬ rs < (0 : Int32) ∧ rs < zR := by
  simp only [Int32.lt_iff_toInt_lt, t0] <;> omega
theorem o_gt (q1 : ls.toInt < i.toInt + ((0 : Nat) : Int)) : ls < i := by
  rw [Int32.lt_iff_toInt_lt]
  omega
theorem o_ii (q2 : 0 ≤ i.toInt) (h : ¬ ls < i) (hls : ls.toInt = z.toInt - r.toInt) (hpos : 0 < r.toInt) : ¬ i < (0 : Int32) ∧ i < z := by
  simp only [Int32.lt_iff_toInt_lt, t0] at h ⊢ <;> omega
theorem o_i8 (q2 : 0 ≤ i.toInt) (h : ¬ ls < i) (hls : ls.toInt = z.toInt - r.toInt) (hpos : 0 < r.toInt) (bz : 0 ≤ z.toInt ∧ z.toInt ≤ 4) : 0 ≤ i.toInt ∧ i.toInt ≤ 8 := by
  rw [Int32.lt_iff_toInt_lt] at h
  omega
theorem o_i1 (q1 : ls.toInt < i.toInt + ((k + 1 : Nat) : Int)) (q2 : 0 ≤ i.toInt) (h : ¬ ls < i) (hls : ls.toInt = z.toInt - r.toInt) (hpos : 0 < r.toInt) (bz : 0 ≤ z.toInt ∧ z.toInt ≤ 4) : ls.toInt < (i + (1 : Int32)).toInt + ((k : Nat) : Int) := by
  rw [Int32.lt_iff_toInt_lt] at h
  have q := tA1 (a := i) (by omega)
  rw [q]
  omega
theorem o_i2 (q2 : 0 ≤ i.toInt) (h : ¬ ls < i) (hls : ls.toInt = z.toInt - r.toInt) (hpos : 0 < r.toInt) (bz : 0 ≤ z.toInt ∧ z.toInt ≤ 4) : 0 ≤ (i + (1 : Int32)).toInt := by
  rw [Int32.lt_iff_toInt_lt] at h
  have q := tA1 (a := i) (by omega)
  rw [q]
  omega
theorem o_i5 (hrl : r.toInt = rf.toInt - rs.toInt) (c2 : 0 ≤ rs.toInt ∧ rs.toInt ≤ rf.toInt ∧ rf.toInt ≤ zR.toInt) : rs.toInt + r.toInt ≤ zR.toInt := by omega
theorem o_i0 (c1 : 0 ≤ fi.toInt ∧ fi.toInt ≤ 4) (hls : ls.toInt = z.toInt - r.toInt) (hpos : 0 < r.toInt) (bz : 0 ≤ z.toInt ∧ z.toInt ≤ 4) : ls.toInt < fi.toInt + ((5 : Nat) : Int) := by omega
theorem o_sl (h : ¬ sl = en) (c2 : sl.toInt ≤ en.toInt) (ben : 0 ≤ en.toInt ∧ en.toInt ≤ zv.toInt) (bv : 0 ≤ zv.toInt ∧ zv.toInt ≤ 4) : sl.toInt < en.toInt := by
  have q : ¬ sl.toInt = en.toInt := fun q => h (Int32.toInt_inj.mp q)
  omega
theorem o_sl1 (c1 : 0 ≤ sl.toInt) (h : sl.toInt < en.toInt) (ben : 0 ≤ en.toInt ∧ en.toInt ≤ zv.toInt) (bv : 0 ≤ zv.toInt ∧ zv.toInt ≤ 4) : 0 ≤ (sl + (1 : Int32)).toInt ∧ (sl + (1 : Int32)).toInt ≤ en.toInt := by
  have q := tA1 (a := sl) (by omega)
  rw [q]
  omega
theorem o_nlt3 (q1 : en.toInt ≤ rs.toInt + ((0 : Nat) : Int)) (q3 : rs.toInt ≤ rn.toInt) : ¬ rn < en := by
  rw [Int32.lt_iff_toInt_lt]
  omega
theorem o_np (bio : 0 ≤ f.toInt ∧ f.toInt ≤ zP.toInt - (rn.toInt - rs.toInt)) (q2 : 0 ≤ rs.toInt) (q3 : rs.toInt ≤ rn.toInt) (q4 : rn.toInt ≤ en.toInt) (ben : 0 ≤ en.toInt ∧ en.toInt ≤ zv.toInt) (bv : 0 ≤ zv.toInt ∧ zv.toInt ≤ 4) (bP : 0 ≤ zP.toInt ∧ zP.toInt ≤ 4) : 0 ≤ ((f + rn) - rs).toInt ∧ ((f + rn) - rs).toInt ≤ 4 := by
  have q := tA (a := f) (b := rn) (by omega)
  have q' := tS (a := f + rn) (b := rs) (by omega)
  rw [q', q]
  omega
theorem o_rn (h : rn < en) (q2 : 0 ≤ rs.toInt) (q3 : rs.toInt ≤ rn.toInt) (ben : 0 ≤ en.toInt ∧ en.toInt ≤ zv.toInt) (bv : 0 ≤ zv.toInt ∧ zv.toInt ≤ 4) : 0 ≤ (rn + (1 : Int32)).toInt ∧ (rn + (1 : Int32)).toInt ≤ en.toInt := by
  rw [Int32.lt_iff_toInt_lt] at h
  have q := tA1 (a := rn) (by omega)
  rw [q]
  omega
theorem o_m1 (q1 : en.toInt ≤ rs.toInt + ((k + 1 : Nat) : Int)) (q3 : rs.toInt ≤ rn.toInt) (h : rn < en) (q2 : 0 ≤ rs.toInt) (ben : 0 ≤ en.toInt ∧ en.toInt ≤ zv.toInt) (bv : 0 ≤ zv.toInt ∧ zv.toInt ≤ 4) : en.toInt ≤ (rn + (1 : Int32)).toInt + ((k : Nat) : Int) := by
  rw [Int32.lt_iff_toInt_lt] at h
  have q := tA1 (a := rn) (by omega)
  rw [q]
  omega
theorem o_tail (h : ¬ (zP - (en - rs)) < pos) (q2 : 0 ≤ rs.toInt) (q3 : rs.toInt ≤ rn.toInt) (q4 : rn.toInt ≤ en.toInt) (q5 : 0 ≤ pos.toInt) (ben : 0 ≤ en.toInt ∧ en.toInt ≤ zv.toInt) (bv : 0 ≤ zv.toInt ∧ zv.toInt ≤ 4) (bP : 0 ≤ zP.toInt ∧ zP.toInt ≤ 4) : (0 ≤ (zP - (en - rs)).toInt ∧ (zP - (en - rs)).toInt ≤ 8) ∧ 0 ≤ (en - rs).toInt ∧ rs.toInt + (en - rs).toInt ≤ zv.toInt := by
  have q := tS (a := en) (b := rs) (by omega)
  have q' := tS (a := zP) (b := en - rs) (by omega)
  rw [Int32.lt_iff_toInt_lt] at h
  omega
theorem o_00 (bsl : 0 ≤ sl.toInt ∧ sl.toInt ≤ r.toInt) (b3 : 0 ≤ r.toInt ∧ r.toInt ≤ zv.toInt) : (0 : Int32).toInt + sl.toInt ≤ zv.toInt := by
  rw [t0]
  omega
theorem o_k4 (c1 : 0 ≤ kk.toInt ∧ kk.toInt ≤ 3) : ¬ kk < (0 : Int32) ∧ kk < (4 : Int32) := by
  simp only [Int32.lt_iff_toInt_lt, t0, t4] <;> omega
theorem o_len {lv : List Int32} (hl : lv.length = 4) (c1 : 0 ≤ kk.toInt ∧ kk.toInt ≤ 3) : kk.toNatClampNeg < (lv.map Value.int).length := by
  rw [List.length_map, hl]
  show kk.toInt.toNat < 4
  omega
theorem o_kb0 (h : 0 ≤ kk.toInt ∧ kk.toInt ≤ 1) : 0 ≤ kk.toInt ∧ kk.toInt ≤ 3 := by omega
theorem o_kb1 (h : 0 ≤ kk.toInt ∧ kk.toInt ≤ 2) : 0 ≤ kk.toInt ∧ kk.toInt ≤ 3 := by omega
theorem o_kb2 (h : 0 ≤ kk.toInt ∧ kk.toInt ≤ 3) : 0 ≤ kk.toInt ∧ kk.toInt ≤ 3 := h
theorem o_kt0 (h : 0 ≤ kk.toInt ∧ kk.toInt ≤ 1) (h' : kk.toInt ≤ r.toInt ∧ r.toInt ≤ kk.toInt + 1) : 0 ≤ r.toInt ∧ r.toInt ≤ 2 := by omega
theorem o_kt1 (h : 0 ≤ kk.toInt ∧ kk.toInt ≤ 2) (h' : kk.toInt ≤ r.toInt ∧ r.toInt ≤ kk.toInt + 1) : 0 ≤ r.toInt ∧ r.toInt ≤ 3 := by omega
theorem o_kt2 (h : 0 ≤ kk.toInt ∧ kk.toInt ≤ 3) (h' : kk.toInt ≤ r.toInt ∧ r.toInt ≤ kk.toInt + 1) : 0 ≤ r.toInt ∧ r.toInt ≤ 4 := by omega
theorem o_g0 : (0 : Int32) < (1 : Int32) := by decide
theorem o_g1 (h : (1 : Int32).toInt ≤ a.toInt ∧ a.toInt ≤ (1 : Int32).toInt + 1) : (0 : Int32) < a := by
  rw [Int32.lt_iff_toInt_lt, t0]
  rw [t1] at h
  omega
theorem o_g2 (h : (1 : Int32).toInt ≤ a.toInt ∧ a.toInt ≤ (1 : Int32).toInt + 1) (h' : a.toInt ≤ r.toInt ∧ r.toInt ≤ a.toInt + 1) : (0 : Int32) < r := by
  rw [Int32.lt_iff_toInt_lt, t0]
  rw [t1] at h
  omega
theorem o_k3 (h : (1 : Int32).toInt ≤ a.toInt ∧ a.toInt ≤ (1 : Int32).toInt + 1) (h' : a.toInt ≤ r.toInt ∧ r.toInt ≤ a.toInt + 1) (h2 : r.toInt ≤ z.toInt ∧ z.toInt ≤ r.toInt + 1) : (0 : Int32) < z := by
  rw [Int32.lt_iff_toInt_lt, t0]
  rw [t1] at h
  omega
end Obl
theorem own_re_b {z : Int32} {g : Int32 → Int32} (bz : 0 ≤ z.toInt ∧ z.toInt ≤ 4) : 0 ≤ (reV z g).toInt ∧ (reV z g).toInt ≤ z.toInt := by
  unfold reV
  by_cases h : (0 : Int32) < z
  · rw [if_pos h]
    have q := tS1 (a := z) (by omega)
    rw [Int32.lt_iff_toInt_lt, t0] at h
    by_cases h2 : g (z - (1 : Int32)) = (36 : Int32)
    · rw [if_pos h2, q]; omega
    · rw [if_neg h2]; omega
  · rw [if_neg h]; omega
theorem own_wi_b (g : Int32 → Int32) (to : Int32) : ∀ (k : Nat) (i : Int32), 0 ≤ i.toInt → i.toInt ≤ to.toInt → to.toInt ≤ 4 → i.toInt ≤ (wiV g to k i).toInt ∧ (wiV g to k i).toInt ≤ to.toInt := by
  intro k
  induction k with
  | zero => intro i h1 h2 h3; exact ⟨Int.le_refl _, h2⟩
  | succ k ih =>
    intro i h1 h2 h3
    rw [wiS g to k i]
    by_cases h : i < to
    · rw [if_pos h]
      by_cases q : g i = (42 : Int32)
      · rw [if_pos q]; exact ⟨Int.le_refl _, h2⟩
      · rw [if_neg q]
        rw [Int32.lt_iff_toInt_lt] at h
        have e1 := tA1 (a := i) (by omega)
        have r := ih (i + (1 : Int32)) (by omega) (by omega) h3
        omega
    · rw [if_neg h]; exact ⟨Int.le_refl _, h2⟩
theorem own_wi_b' {g : Int32 → Int32} {to i : Int32} {k : Nat} (h1 : 0 ≤ i.toInt) (h2 : i.toInt ≤ to.toInt) (h3 : to.toInt ≤ 4) : i.toInt ≤ (wiV g to k i).toInt ∧ (wiV g to k i).toInt ≤ to.toInt := own_wi_b g to k i h1 h2 h3
theorem own_sl_b {z : Int32} {g : Int32 → Int32} (bz : 0 ≤ z.toInt ∧ z.toInt ≤ 4) : 0 ≤ (wiV g (reV z g) 4 (0 : Int32)).toInt ∧ (wiV g (reV z g) 4 (0 : Int32)).toInt ≤ (reV z g).toInt := by
  have b := own_re_b (g := g) bz
  have r := own_wi_b g (reV z g) 4 (0 : Int32) (by decide) (by rw [t0]; exact b.1) (by omega)
  rw [t0] at r
  exact r
theorem own_ioL_b {zP : Int32} {gP gR : Int32 → Int32} {rs rl lt : Int32} (hl : lt.toInt ≤ 4) : ∀ (k : Nat) (i : Int32), 0 ≤ i.toInt → ¬ ioL zP gP gR rs rl lt k i < (0 : Int32) → 0 ≤ (ioL zP gP gR rs rl lt k i).toInt ∧ (ioL zP gP gR rs rl lt k i).toInt ≤ lt.toInt := by
  intro k
  induction k with
  | zero => intro i h1 h; exact absurd (by decide : (-1 : Int32) < (0 : Int32)) h
  | succ k ih =>
    intro i h1
    rw [ioS zP gP gR rs rl lt k i]
    by_cases h : lt < i
    · rw [if_pos h]; intro q; exact absurd (by decide : (-1 : Int32) < (0 : Int32)) q
    · rw [if_neg h]
      rw [Int32.lt_iff_toInt_lt] at h
      have e1 := tA1 (a := i) (by omega)
      by_cases q : gP i = gR rs
      · rw [if_pos q]
        by_cases q2 : ocV zP gP gR i rs rl = (0 : Int32)
        · rw [if_pos q2]; exact ih (i + (1 : Int32)) (by omega)
        · rw [if_neg q2]; intro _; omega
      · rw [if_neg q]; exact ih (i + (1 : Int32)) (by omega)
theorem own_io_b {zP zR : Int32} {gP gR : Int32 → Int32} {fi rs rf : Int32} (h : ¬ ioV zP gP gR fi rs rf < (0 : Int32)) (c1 : 0 ≤ fi.toInt ∧ fi.toInt ≤ 4) (c2 : 0 ≤ rs.toInt ∧ rs.toInt ≤ rf.toInt ∧ rf.toInt ≤ zR.toInt) (bP : 0 ≤ zP.toInt ∧ zP.toInt ≤ 4) (bR : 0 ≤ zR.toInt ∧ zR.toInt ≤ 4) : 0 ≤ (ioV zP gP gR fi rs rf).toInt ∧ (ioV zP gP gR fi rs rf).toInt ≤ zP.toInt - (rf.toInt - rs.toInt) := by
  have hrl := o_rl c2 bR
  have hls := o_ls (zP := zP) hrl c2 bR bP
  unfold ioV at h ⊢
  by_cases q : (rf - rs) = (0 : Int32)
  · rw [if_pos q] at h ⊢
    by_cases q2 : (zP - (rf - rs)) < fi
    · rw [if_pos q2] at h; exact absurd (by decide : (-1 : Int32) < (0 : Int32)) h
    · rw [if_neg q2]
      rw [Int32.lt_iff_toInt_lt] at q2
      omega
  · rw [if_neg q] at h ⊢
    have r := own_ioL_b (by omega) 5 fi c1.1 h
    omega
theorem own_len (n : Int32) : (n &&& (3 : Int32)) = 0 ∨ (n &&& (3 : Int32)) = 1 ∨ (n &&& (3 : Int32)) = 2 ∨ (n &&& (3 : Int32)) = 3 := by
  have h : (n &&& (3 : Int32)).toBitVec.toNat ≤ 3 := by
    simp only [Int32.toBitVec_and, BitVec.toNat_and]
    exact Nat.and_le_right
  have e : (n &&& (3 : Int32)) = Int32.ofBitVec (BitVec.ofNat 32 (n &&& (3 : Int32)).toBitVec.toNat) := by
    apply Int32.toBitVec_inj.mp
    simp
  generalize (n &&& (3 : Int32)).toBitVec.toNat = k at h e
  rw [e]
  have : k = 0 ∨ k = 1 ∨ k = 2 ∨ k = 3 := by omega
  rcases this with rfl | rfl | rfl | rfl <;> decide
theorem own_one (n : Int32) : (n &&& (1 : Int32)) = 0 ∨ (n &&& (1 : Int32)) = 1 := by
  have h : (n &&& (1 : Int32)).toBitVec.toNat ≤ 1 := by
    simp only [Int32.toBitVec_and, BitVec.toNat_and]
    exact Nat.and_le_right
  have e : (n &&& (1 : Int32)) = Int32.ofBitVec (BitVec.ofNat 32 (n &&& (1 : Int32)).toBitVec.toNat) := by
    apply Int32.toBitVec_inj.mp
    show _ = BitVec.ofNat 32 _
    rw [BitVec.ofNat_toNat, BitVec.setWidth_eq]
  generalize (n &&& (1 : Int32)).toBitVec.toNat = k at h e
  rw [e]
  have : k = 0 ∨ k = 1 := by omega
  rcases this with rfl | rfl <;> decide
theorem own_pl (x y : Int32) : (0 : Int32) < (((1 : Int32) + (x &&& (1 : Int32))) + (y &&& (1 : Int32))) := by
  rcases own_one x with h | h <;> rcases own_one y with h' | h' <;> rw [h, h'] <;> decide
theorem own_nib (n : Int32) : ∃ k : Nat, k < 16 ∧ (n &&& (15 : Int32)) = Int32.ofBitVec (BitVec.ofNat 32 k) := by
  refine ⟨(n &&& (15 : Int32)).toBitVec.toNat, ?_, ?_⟩
  · have : (n &&& (15 : Int32)).toBitVec.toNat ≤ 15 := by
      simp only [Int32.toBitVec_and, BitVec.toNat_and]
      exact Nat.and_le_right
    omega
  · apply Int32.toBitVec_inj.mp
    simp
theorem nb47 : nar .byte (47 : Int32) = (47 : Int32) := by decide
theorem nb42 : nar .byte (42 : Int32) = (42 : Int32) := by decide
theorem nb36 : nar .byte (36 : Int32) = (36 : Int32) := by decide
theorem own_narB (x : Int32) : nar .byte (nar .byte x) = nar .byte x := by
  show x.toInt8.toInt32.toInt8.toInt32 = x.toInt8.toInt32
  rw [Int8.toInt8_toInt32]
theorem own_pkB (x : Int32) : nar .byte (pkV x) = pkV x := by
  unfold pkV
  by_cases h0 : (x &&& (3 : Int32)) = (0 : Int32)
  · rw [if_pos h0]; exact own_narB _
  · rw [if_neg h0]
    by_cases h1 : (x &&& (3 : Int32)) = (1 : Int32)
    · rw [if_pos h1]; exact own_narB _
    · rw [if_neg h1]
      by_cases h2 : (x &&& (3 : Int32)) = (2 : Int32)
      · rw [if_pos h2]; exact own_narB _
      · rw [if_neg h2]; exact own_narB _
theorem own_olZ (q : Int32) : 0 ≤ (olZ q).toInt ∧ (olZ q).toInt ≤ 4 := by
  unfold olZ
  by_cases h0 : (0 : Int32) < q
  · rw [if_pos h0]
    by_cases h1 : q = (1 : Int32)
    · rw [if_pos h1]; decide
    · rw [if_neg h1]
      by_cases h2 : q = (2 : Int32)
      · rw [if_pos h2]; decide
      · rw [if_neg h2]
        by_cases h3 : q = (3 : Int32)
        · rw [if_pos h3]; decide
        · rw [if_neg h3]; decide
  · rw [if_neg h0]; decide
theorem own_olP {q : Int32} (h0 : (0 : Int32) < q) : (0 : Int32) < olZ q := by
  unfold olZ
  rw [if_pos h0]
  by_cases h1 : q = (1 : Int32)
  · rw [if_pos h1]; decide
  · rw [if_neg h1]
    by_cases h2 : q = (2 : Int32)
    · rw [if_pos h2]; decide
    · rw [if_neg h2]
      by_cases h3 : q = (3 : Int32)
      · rw [if_pos h3]; decide
      · rw [if_neg h3]; decide
theorem gl0 (x : Int32) (l : List Int32) : gL (x :: l) (0 : Int32) = x := rfl
theorem own_ol0 {q y0 y1 y2 y3 : Int32} (h0 : (0 : Int32) < q) : gL (olL q y0 y1 y2 y3) (0 : Int32) = nar .byte y0 := by
  unfold olL
  rw [if_pos h0]
  by_cases h1 : q = (1 : Int32)
  · rw [if_pos h1]; exact gl0 _ _
  · rw [if_neg h1]
    by_cases h2 : q = (2 : Int32)
    · rw [if_pos h2]; exact gl0 _ _
    · rw [if_neg h2]
      by_cases h3 : q = (3 : Int32)
      · rw [if_pos h3]; exact gl0 _ _
      · rw [if_neg h3]; exact gl0 _ _
theorem own_adK {k y i n : Int32} (h : 0 ≤ k.toInt ∧ k.toInt ≤ 3) : k.toInt ≤ (adK k y i n).toInt ∧ (adK k y i n).toInt ≤ k.toInt + 1 := by
  have q := tA1 (a := k) (by omega)
  unfold adK
  by_cases h1 : i < n
  · rw [if_pos h1]
    by_cases h2 : y = (42 : Int32)
    · rw [if_pos h2]; omega
    · rw [if_neg h2]
      by_cases h3 : i = (n - (1 : Int32))
      · rw [if_pos h3]
        by_cases h4 : y = (36 : Int32)
        · rw [if_pos h4]; omega
        · rw [if_neg h4]; omega
      · rw [if_neg h3]; omega
  · rw [if_neg h1]; omega
theorem own_adLen (l : List Int32) (k y i n : Int32) : (adL l k y i n).length = l.length := by
  unfold adL
  by_cases h1 : i < n
  · rw [if_pos h1]
    by_cases h2 : y = (42 : Int32)
    · rw [if_pos h2]
    · rw [if_neg h2]
      by_cases h3 : i = (n - (1 : Int32))
      · rw [if_pos h3]
        by_cases h4 : y = (36 : Int32)
        · rw [if_pos h4]
        · rw [if_neg h4, List.length_set]
      · rw [if_neg h3, List.length_set]
  · rw [if_neg h1]
theorem own_set0 (l : List Int32) {k : Int32} (x : Int32) (h : (0 : Int32) < k) : gL (l.set k.toNatClampNeg x) (0 : Int32) = gL l (0 : Int32) := by
  have hk : k.toNatClampNeg ≠ (0 : Int32).toNatClampNeg := by
    rw [Int32.lt_iff_toInt_lt, t0] at h
    show k.toInt.toNat ≠ (0 : Int32).toInt.toNat
    rw [t0]
    omega
  unfold gL
  rw [List.getD_eq_getElem?_getD, List.getD_eq_getElem?_getD, List.getElem?_set_ne hk]
theorem own_ad0 {l : List Int32} {k y i n : Int32} (h : (0 : Int32) < k) : gL (adL l k y i n) (0 : Int32) = gL l (0 : Int32) := by
  unfold adL
  by_cases h1 : i < n
  · rw [if_pos h1]
    by_cases h2 : y = (42 : Int32)
    · rw [if_pos h2]
    · rw [if_neg h2]
      by_cases h3 : i = (n - (1 : Int32))
      · rw [if_pos h3]
        by_cases h4 : y = (36 : Int32)
        · rw [if_pos h4]
        · rw [if_neg h4]; exact own_set0 l _ h
      · rw [if_neg h3]; exact own_set0 l _ h
  · rw [if_neg h1]
theorem own_law1 {z : Int32} {g : Int32 → Int32} {zP : Int32} {gP : Int32 → Int32} (bz : 0 ≤ z.toInt ∧ z.toInt ≤ 4) (bP : 0 ≤ zP.toInt ∧ zP.toInt ≤ 4) (hP0 : (0 : Int32) < zP) (hP : gP (0 : Int32) = (47 : Int32)) (h : ¬ npV z g = (0 : Int32)) : maV z g zP gP = (0 : Int32) := by
  unfold npV at h
  by_cases h1 : (0 : Int32) < z
  · rw [if_pos h1] at h
    by_cases h2 : g (0 : Int32) = (47 : Int32)
    · rw [if_pos h2] at h; exact absurd rfl h
    · rw [if_neg h2] at h
      by_cases h3 : g (0 : Int32) = (42 : Int32)
      · rw [if_pos h3] at h; exact absurd rfl h
      · clear h
        by_cases h4 : (0 : Int32) < reV z g
        · have b := own_re_b (g := g) bz
          have h4' := h4
          rw [Int32.lt_iff_toInt_lt, t0] at h4'
          have hsl : (0 : Int32) < wiV g (reV z g) 4 (0 : Int32) := by
            rw [wiS g (reV z g) 3 (0 : Int32), if_pos h4, if_neg h3]
            have e1 : ((0 : Int32) + (1 : Int32)).toInt = 1 := by decide
            have r := own_wi_b g (reV z g) 3 ((0 : Int32) + (1 : Int32)) (by rw [e1]; omega) (by rw [e1]; omega) (by omega)
            rw [Int32.lt_iff_toInt_lt, t0]
            omega
          have ho : ocV zP gP g (0 : Int32) (0 : Int32) (wiV g (reV z g) 4 (0 : Int32)) = (0 : Int32) := by
            unfold ocV
            by_cases q : zP < ((0 : Int32) + wiV g (reV z g) 4 (0 : Int32))
            · rw [if_pos q]
            · rw [if_neg q]
              have hq : eqV gP g (0 : Int32) (0 : Int32) (wiV g (reV z g) 4 (0 : Int32)) = (0 : Int32) := by
                unfold eqV
                have e0 : ((0 : Int32) + (0 : Int32)) = (0 : Int32) := by decide
                rw [miS gP g (0 : Int32) (0 : Int32) (wiV g (reV z g) 4 (0 : Int32)) 3 (0 : Int32), if_pos hsl, if_neg (show ¬ gP ((0 : Int32) + (0 : Int32)) = g ((0 : Int32) + (0 : Int32)) from by rw [e0, hP]; exact fun q => h2 q.symm), if_neg (by decide)]
              rw [if_pos hq]
          unfold maV
          rw [if_pos ho]
        · have hR : reV z g = z - (1 : Int32) ∧ g (z - (1 : Int32)) = (36 : Int32) := by
            unfold reV at h4 ⊢
            rw [if_pos h1] at h4 ⊢
            by_cases h5 : g (z - (1 : Int32)) = (36 : Int32)
            · rw [if_pos h5]; exact ⟨rfl, h5⟩
            · rw [if_neg h5] at h4; exact absurd h1 h4
          have b := own_re_b (g := g) bz
          have en0 : reV z g = (0 : Int32) := by
            rw [Int32.lt_iff_toInt_lt, t0] at h4
            exact Int32.toInt_inj.mp (by rw [t0]; omega)
          have ean : anV z g = (1 : Int32) := by
            unfold anV
            rw [if_pos h1, if_pos hR.2]
          have hz0 : ¬ zP = (0 : Int32) := by
            intro q
            rw [q] at hP0
            exact absurd hP0 (by decide)
          have hw : wiV g (reV z g) 4 (0 : Int32) = (0 : Int32) := by
            rw [wiS g (reV z g) 3 (0 : Int32), if_neg h4]
          have hm : ∀ cz pz : Int32, mpV z g (0 : Int32) cz zP gP pz = (0 : Int32) := by
            intro cz pz
            unfold mpV
            by_cases q : subB cz pz = (0 : Int32)
            · rw [if_pos q, en0, if_pos rfl, ean, if_neg (by decide), if_neg hz0]
            · rw [if_neg q]
          unfold maV
          rw [hw, hm]
          by_cases q : ocV zP gP g (0 : Int32) (0 : Int32) (0 : Int32) = (0 : Int32)
          · rw [if_pos q]
          · rw [if_neg q, if_pos rfl]
  · rw [if_neg h1] at h; exact absurd rfl h
theorem own_sub0 (y : Int32) : subB (chV 0) y = 0 := by
  have e0 : chV 0 = 0 := by decide
  unfold subB
  rw [e0, Int32.zero_and]
theorem own_sub1 (x : Int32) : subB (chV (orB 0 x)) (chV (orB (orB 0 47) x)) = 0 := by
  unfold orB
  obtain ⟨k, hk, e⟩ := own_nib x
  rw [e]
  clear e
  revert k
  decide +kernel
theorem own_sub2 (x y : Int32) : subB (chV (orB (orB 0 x) y)) (chV (orB (orB (orB 0 47) x) y)) = 0 := by
  unfold orB
  obtain ⟨k, hk, e⟩ := own_nib x
  obtain ⟨k', hk', e'⟩ := own_nib y
  rw [e, e']
  clear e e'
  revert k'
  revert k
  decide +kernel
theorem own_S1 (x : Int32) (h : ¬ x = 42) (h' : ¬ x = 36) : maV 2 (gL [47, x]) 2 (gL [47, x]) = 1 := by
  simp [maV, mpV, mpL, mpT, ioV, ioL, ocV, eqV, miV, wiV, caV, bcV, reV, anV, gL, h, h', own_sub0, own_sub1, own_sub2]
theorem own_S2 (x : Int32) (h : ¬ x = 42) (h' : ¬ x = 36) : maV 2 (gL [42, x]) 2 (gL [47, x]) = 1 := by
  by_cases q : (47 : Int32) = x
  · subst q; decide +kernel
  · simp [maV, mpV, mpL, mpT, ioV, ioL, ocV, eqV, miV, wiV, caV, bcV, reV, anV, gL, h, h', q, own_sub0, own_sub1, own_sub2]
theorem own_S3 (y : Int32) (h : ¬ y = 42) (h' : ¬ y = 36) : maV 3 (gL [47, 42, y]) 2 (gL [47, y]) = 1 := by
  simp [maV, mpV, mpL, mpT, ioV, ioL, ocV, eqV, miV, wiV, caV, bcV, reV, anV, gL, h, h', own_sub0, own_sub1, own_sub2]
theorem own_S4 (x : Int32) (h : ¬ x = 42) : maV 3 (gL [47, x, 42]) 2 (gL [47, x]) = 1 := by
  simp [maV, mpV, mpL, mpT, ioV, ioL, ocV, eqV, miV, wiV, caV, bcV, reV, anV, gL, h, own_sub0, own_sub1, own_sub2]
theorem own_S5 (x : Int32) (h : ¬ x = 42) : maV 3 (gL [47, x, 36]) 2 (gL [47, x]) = 1 := by
  simp [maV, mpV, mpL, mpT, ioV, ioL, ocV, eqV, miV, wiV, caV, bcV, reV, anV, gL, h, own_sub0, own_sub1, own_sub2]
theorem own_S6 (x y : Int32) (h : ¬ x = 42) (h1 : ¬ y = 42) (h2 : ¬ y = 36) : maV 3 (gL [47, x, y]) 3 (gL [47, x, y]) = 1 := by
  simp [maV, mpV, mpL, mpT, ioV, ioL, ocV, eqV, miV, wiV, caV, bcV, reV, anV, gL, h, h1, h2, own_sub0, own_sub1, own_sub2]
theorem own_S7 (y : Int32) (h : ¬ y = 42) (h' : ¬ y = 36) : maV 3 (gL [42, 42, y]) 2 (gL [47, y]) = 1 := by
  by_cases q : (47 : Int32) = y
  · subst q; decide +kernel
  · simp [maV, mpV, mpL, mpT, ioV, ioL, ocV, eqV, miV, wiV, caV, bcV, reV, anV, gL, h, h', q, own_sub0, own_sub1, own_sub2]
theorem own_S8 (x : Int32) (h : ¬ x = 42) : maV 3 (gL [42, x, 42]) 2 (gL [47, x]) = 1 := by
  by_cases q : (47 : Int32) = x
  · subst q; decide +kernel
  · simp [maV, mpV, mpL, mpT, ioV, ioL, ocV, eqV, miV, wiV, caV, bcV, reV, anV, gL, h, q, own_sub0, own_sub1, own_sub2]
theorem own_S9 (x : Int32) (h : ¬ x = 42) : maV 3 (gL [42, x, 36]) 2 (gL [47, x]) = 1 := by
  by_cases q : (47 : Int32) = x
  · subst q; decide +kernel
  · simp [maV, mpV, mpL, mpT, ioV, ioL, ocV, eqV, miV, wiV, caV, bcV, reV, anV, gL, h, q, own_sub0, own_sub1, own_sub2]
theorem own_S10 (x y : Int32) (h : ¬ x = 42) (h1 : ¬ y = 42) (h2 : ¬ y = 36) : maV 3 (gL [42, x, y]) 3 (gL [47, x, y]) = 1 := by
  by_cases q : (47 : Int32) = x
  · subst q
    by_cases q2 : (47 : Int32) = y
    · subst q2; decide +kernel
    · simp [maV, mpV, mpL, mpT, ioV, ioL, ocV, eqV, miV, wiV, caV, bcV, reV, anV, gL, h1, h2, q2, own_sub0, own_sub1, own_sub2]
  · simp [maV, mpV, mpL, mpT, ioV, ioL, ocV, eqV, miV, wiV, caV, bcV, reV, anV, gL, h, h1, h2, q, own_sub0, own_sub1, own_sub2]
theorem own_npA {nn x0 x1 x2 : Int32} (h : nn = (0 : Int32)) : npV (olZ nn) (gL (olL nn x0 x1 x2 (0 : Int32))) = (0 : Int32) := by
  have q : olZ nn = (0 : Int32) := by rw [h]; decide
  unfold npV
  rw [q, if_neg (by decide)]
theorem own_npB {nn x0 x1 x2 : Int32} (h : ¬ nn = (0 : Int32)) (h0 : x0 = (47 : Int32)) (hn : nn = 0 ∨ nn = 1 ∨ nn = 2 ∨ nn = 3) : npV (olZ nn) (gL (olL nn x0 x1 x2 (0 : Int32))) = (0 : Int32) := by
  have hp : (0 : Int32) < nn := by
    rcases hn with q | q | q | q
    · exact absurd q h
    · rw [q]; decide
    · rw [q]; decide
    · rw [q]; decide
  unfold npV
  rw [if_pos (own_olP hp), own_ol0 hp, h0, nb47, if_pos rfl]
theorem own_x0 {nn x0 x1 x2 : Int32} (h : ¬ nn = (0 : Int32)) (h0 : ¬ x0 = (47 : Int32)) (hn : nn = 0 ∨ nn = 1 ∨ nn = 2 ∨ nn = 3) (b0 : nar .byte x0 = x0) (hN : npV (olZ nn) (gL (olL nn x0 x1 x2 (0 : Int32))) = (0 : Int32)) : x0 = (42 : Int32) := by
  have hp : (0 : Int32) < nn := by
    rcases hn with q | q | q | q
    · exact absurd q h
    · rw [q]; decide
    · rw [q]; decide
    · rw [q]; decide
  unfold npV at hN
  rw [if_pos (own_olP hp), own_ol0 hp, b0, if_neg h0] at hN
  by_cases q : x0 = (42 : Int32)
  · exact q
  · rw [if_neg q] at hN; exact absurd hN (by decide)
theorem own_l2 {nn x0 x1 x2 k0 k1 k2 k3 : Int32} {l0 l1 l2 l3 : List Int32} (e1 : adK k0 x0 (0 : Int32) nn = k1) (f1 : adL l0 k0 x0 (0 : Int32) nn = l1) (e2 : adK k1 x1 (1 : Int32) nn = k2) (f2 : adL l1 k1 x1 (1 : Int32) nn = l2) (e3 : adK k2 x2 (2 : Int32) nn = k3) (f3 : adL l2 k2 x2 (2 : Int32) nn = l3)
    (hc : (nn = 0 ∧ k0 = 1 ∧ l0 = [47, 0, 0, 0]) ∨ (¬ nn = 0 ∧ x0 = 47 ∧ k0 = 0 ∧ l0 = [0, 0, 0, 0]) ∨ (¬ nn = 0 ∧ ¬ x0 = 47 ∧ k0 = 1 ∧ l0 = [47, 0, 0, 0])) (hn : nn = 0 ∨ nn = 1 ∨ nn = 2 ∨ nn = 3) (b0 : nar .byte x0 = x0) (b1 : nar .byte x1 = x1) (b2 : nar .byte x2 = x2) (hN : npV (olZ nn) (gL (olL nn x0 x1 x2 (0 : Int32))) = (0 : Int32)) :
    maV (olZ nn) (gL (olL nn x0 x1 x2 (0 : Int32))) (olZ k3) (gL (olL k3 (gL l3 (0 : Int32)) (gL l3 (1 : Int32)) (gL l3 (2 : Int32)) (gL l3 (3 : Int32)))) = (1 : Int32) := by
  subst f3 e3 f2 e2 f1 e1
  rcases hc with ⟨rfl, rfl, rfl⟩ | ⟨hn0, rfl, rfl, rfl⟩ | ⟨hn0, hx, rfl, rfl⟩
  · simp [olZ, olL, adK, adL, gL, nb47]
    decide +kernel
  · clear hN b0
    rcases hn with rfl | rfl | rfl | rfl
    · exact absurd rfl hn0
    · simp [olZ, olL, adK, adL, gL, nb47]
      decide +kernel
    · by_cases h1 : x1 = 42
      · subst h1
        simp [olZ, olL, adK, adL, gL, nb47, nb42]
        decide +kernel
      · by_cases h2 : x1 = 36
        · subst h2
          simp [olZ, olL, adK, adL, gL, nb47, nb36]
          decide +kernel
        · simp [olZ, olL, adK, adL, gL, nb47, b1, h1, h2]
          exact own_S1 x1 h1 h2
    · by_cases h1 : x1 = 42
      · subst h1
        by_cases g1 : x2 = 42
        · subst g1
          simp [olZ, olL, adK, adL, gL, nb47, nb42]
          decide +kernel
        · by_cases g2 : x2 = 36
          · subst g2
            simp [olZ, olL, adK, adL, gL, nb47, nb42, nb36]
            decide +kernel
          · simp [olZ, olL, adK, adL, gL, nb47, nb42, b2, g1, g2]
            exact own_S3 x2 g1 g2
      · by_cases g1 : x2 = 42
        · subst g1
          simp [olZ, olL, adK, adL, gL, nb47, nb42, b1, h1]
          exact own_S4 x1 h1
        · by_cases g2 : x2 = 36
          · subst g2
            simp [olZ, olL, adK, adL, gL, nb47, nb36, b1, h1]
            exact own_S5 x1 h1
          · simp [olZ, olL, adK, adL, gL, nb47, b1, b2, h1, g1, g2]
            exact own_S6 x1 x2 h1 g1 g2
  · have hx0 := own_x0 hn0 hx hn b0 hN
    subst hx0
    clear hN b0
    rcases hn with rfl | rfl | rfl | rfl
    · exact absurd rfl hn0
    · simp [olZ, olL, adK, adL, gL, nb47, nb42]
      decide +kernel
    · by_cases h1 : x1 = 42
      · subst h1
        simp [olZ, olL, adK, adL, gL, nb47, nb42]
        decide +kernel
      · by_cases h2 : x1 = 36
        · subst h2
          simp [olZ, olL, adK, adL, gL, nb47, nb42, nb36]
          decide +kernel
        · simp [olZ, olL, adK, adL, gL, nb47, nb42, b1, h1, h2]
          exact own_S2 x1 h1 h2
    · by_cases h1 : x1 = 42
      · subst h1
        by_cases g1 : x2 = 42
        · subst g1
          simp [olZ, olL, adK, adL, gL, nb47, nb42]
          decide +kernel
        · by_cases g2 : x2 = 36
          · subst g2
            simp [olZ, olL, adK, adL, gL, nb47, nb42, nb36]
            decide +kernel
          · simp [olZ, olL, adK, adL, gL, nb47, nb42, b2, g1, g2]
            exact own_S7 x2 g1 g2
      · by_cases g1 : x2 = 42
        · subst g1
          simp [olZ, olL, adK, adL, gL, nb47, nb42, b1, h1]
          exact own_S8 x1 h1
        · by_cases g2 : x2 = 36
          · subst g2
            simp [olZ, olL, adK, adL, gL, nb47, nb42, nb36, b1, h1]
            exact own_S9 x1 h1
          · simp [olZ, olL, adK, adL, gL, nb47, nb42, b1, b2, h1, g1, g2]
            exact own_S10 x1 x2 h1 g1 g2
theorem pn_0 : plainName "com/example/aloud/aloud/PathPattern" = true := by first | (simp [plainName, overriddenIn]; done) | decide +kernel
theorem ef_re (m : MethodId) (x0 : Addr) (x1 : Int32) (x2 : Int32) : entryFrame m #[(.ref x0), (.int x1), (.int x2)] 3 = mkF m 0 #[.val (.ref x0), .val (.int x1), .val (.int x2)] [] := by first | (simp [entryFrame, mkF, argsToLocals, Value.category]; done) | rfl
theorem d7_0 : decode prog_15_method_12_code 0 = .ok (.iload_n 2, 1) := by decide +kernel
theorem d7_1 : decode prog_15_method_12_code 1 = .ok (.iload_n 1, 1) := by decide +kernel
theorem d7_2 : decode prog_15_method_12_code 2 = .ok (.if_icmp .le 19, 3) := by decide +kernel
theorem d7_5 : decode prog_15_method_12_code 5 = .ok (.aload_n 0, 1) := by decide +kernel
theorem d7_6 : decode prog_15_method_12_code 6 = .ok (.iload_n 2, 1) := by decide +kernel
theorem d7_7 : decode prog_15_method_12_code 7 = .ok (.iconst 1, 1) := by decide +kernel
theorem d7_8 : decode prog_15_method_12_code 8 = .ok (.isub, 1) := by decide +kernel
theorem d7_9 : decode prog_15_method_12_code 9 = .ok (.baload, 1) := by decide +kernel
theorem d7_10 : decode prog_15_method_12_code 10 = .ok (.bipush 36, 2) := by decide +kernel
theorem d7_12 : decode prog_15_method_12_code 12 = .ok (.if_icmp .ne 9, 3) := by decide +kernel
theorem d7_15 : decode prog_15_method_12_code 15 = .ok (.iload_n 2, 1) := by decide +kernel
theorem d7_16 : decode prog_15_method_12_code 16 = .ok (.iconst 1, 1) := by decide +kernel
theorem d7_17 : decode prog_15_method_12_code 17 = .ok (.isub, 1) := by decide +kernel
theorem d7_18 : decode prog_15_method_12_code 18 = .ok (.goto 4, 3) := by decide +kernel
theorem d7_22 : decode prog_15_method_12_code 22 = .ok (.ireturn, 1) := by decide +kernel
theorem d7_21 : decode prog_15_method_12_code 21 = .ok (.iload_n 2, 1) := by decide +kernel
theorem ef_wi (m : MethodId) (x0 : Addr) (x1 : Int32) (x2 : Int32) : entryFrame m #[(.ref x0), (.int x1), (.int x2)] 4 = mkF m 0 #[.val (.ref x0), .val (.int x1), .val (.int x2), .unset] [] := by first | (simp [entryFrame, mkF, argsToLocals, Value.category]; done) | rfl
theorem d15_0 : decode prog_15_method_13_code 0 = .ok (.iload_n 1, 1) := by decide +kernel
theorem d15_1 : decode prog_15_method_13_code 1 = .ok (.istore_n 3, 1) := by decide +kernel
theorem d15_2 : decode prog_15_method_13_code 2 = .ok (.iload_n 3, 1) := by decide +kernel
theorem d15_3 : decode prog_15_method_13_code 3 = .ok (.iload_n 2, 1) := by decide +kernel
theorem d15_4 : decode prog_15_method_13_code 4 = .ok (.if_icmp .ge 17, 3) := by decide +kernel
theorem d15_21 : decode prog_15_method_13_code 21 = .ok (.iload_n 3, 1) := by decide +kernel
theorem d15_22 : decode prog_15_method_13_code 22 = .ok (.ireturn, 1) := by decide +kernel
theorem d15_7 : decode prog_15_method_13_code 7 = .ok (.aload_n 0, 1) := by decide +kernel
theorem d15_8 : decode prog_15_method_13_code 8 = .ok (.iload_n 3, 1) := by decide +kernel
theorem d15_9 : decode prog_15_method_13_code 9 = .ok (.baload, 1) := by decide +kernel
theorem d15_10 : decode prog_15_method_13_code 10 = .ok (.bipush 42, 2) := by decide +kernel
theorem d15_12 : decode prog_15_method_13_code 12 = .ok (.if_icmp .eq 9, 3) := by decide +kernel
theorem d15_15 : decode prog_15_method_13_code 15 = .ok (.iinc 3 1, 3) := by decide +kernel
theorem d15_18 : decode prog_15_method_13_code 18 = .ok (.goto (-16), 3) := by decide +kernel
theorem ef_ls (m : MethodId) (x0 : Addr) : entryFrame m #[(.ref x0)] 3 = mkF m 0 #[.val (.ref x0), .unset, .unset] [] := by first | (simp [entryFrame, mkF, argsToLocals, Value.category]; done) | rfl
theorem d6_0 : decode prog_15_method_5_code 0 = .ok (.aload_n 0, 1) := by decide +kernel
theorem d6_1 : decode prog_15_method_5_code 1 = .ok (.iconst 0, 1) := by decide +kernel
theorem d6_2 : decode prog_15_method_5_code 2 = .ok (.aload_n 0, 1) := by decide +kernel
theorem d6_3 : decode prog_15_method_5_code 3 = .ok (.arraylength, 1) := by decide +kernel
theorem pd_0 : parseMethodDescriptor "([BII)I" = some ⟨[(.array .byte), .int, .int], some .int⟩ := by decide +kernel
theorem d6_4 : decode prog_15_method_5_code 4 = .ok (.invokestatic 20, 3) := by decide +kernel
theorem d6_7 : decode prog_15_method_5_code 7 = .ok (.istore_n 1, 1) := by decide +kernel
theorem d6_8 : decode prog_15_method_5_code 8 = .ok (.iconst 0, 1) := by decide +kernel
theorem d6_9 : decode prog_15_method_5_code 9 = .ok (.istore_n 2, 1) := by decide +kernel
theorem d6_10 : decode prog_15_method_5_code 10 = .ok (.iload_n 2, 1) := by decide +kernel
theorem d6_11 : decode prog_15_method_5_code 11 = .ok (.iload_n 1, 1) := by decide +kernel
theorem d6_12 : decode prog_15_method_5_code 12 = .ok (.if_icmp .ge 17, 3) := by decide +kernel
theorem d6_29 : decode prog_15_method_5_code 29 = .ok (.iload_n 2, 1) := by decide +kernel
theorem d6_30 : decode prog_15_method_5_code 30 = .ok (.ireturn, 1) := by decide +kernel
theorem d6_15 : decode prog_15_method_5_code 15 = .ok (.aload_n 0, 1) := by decide +kernel
theorem d6_16 : decode prog_15_method_5_code 16 = .ok (.iload_n 2, 1) := by decide +kernel
theorem d6_17 : decode prog_15_method_5_code 17 = .ok (.baload, 1) := by decide +kernel
theorem d6_18 : decode prog_15_method_5_code 18 = .ok (.bipush 42, 2) := by decide +kernel
theorem d6_20 : decode prog_15_method_5_code 20 = .ok (.if_icmp .eq 9, 3) := by decide +kernel
theorem d6_23 : decode prog_15_method_5_code 23 = .ok (.iinc 2 1, 3) := by decide +kernel
theorem d6_26 : decode prog_15_method_5_code 26 = .ok (.goto (-16), 3) := by decide +kernel
theorem ef_ca (m : MethodId) (x0 : Addr) (x1 : Int32) : entryFrame m #[(.ref x0), (.int x1)] 5 = mkF m 0 #[.val (.ref x0), .val (.int x1), .unset, .unset, .unset] [] := by first | (simp [entryFrame, mkF, argsToLocals, Value.category]; done) | rfl
theorem d8_0 : decode prog_15_method_6_code 0 = .ok (.aload_n 0, 1) := by decide +kernel
theorem d8_1 : decode prog_15_method_6_code 1 = .ok (.iconst 0, 1) := by decide +kernel
theorem d8_2 : decode prog_15_method_6_code 2 = .ok (.aload_n 0, 1) := by decide +kernel
theorem d8_3 : decode prog_15_method_6_code 3 = .ok (.arraylength, 1) := by decide +kernel
theorem d8_4 : decode prog_15_method_6_code 4 = .ok (.invokestatic 20, 3) := by decide +kernel
theorem d8_7 : decode prog_15_method_6_code 7 = .ok (.istore_n 2, 1) := by decide +kernel
theorem d8_8 : decode prog_15_method_6_code 8 = .ok (.iconst 0, 1) := by decide +kernel
theorem d8_9 : decode prog_15_method_6_code 9 = .ok (.istore_n 3, 1) := by decide +kernel
theorem d8_10 : decode prog_15_method_6_code 10 = .ok (.iload_n 1, 1) := by decide +kernel
theorem d8_11 : decode prog_15_method_6_code 11 = .ok (.istore 4, 2) := by decide +kernel
theorem d8_13 : decode prog_15_method_6_code 13 = .ok (.iload 4, 2) := by decide +kernel
theorem d8_15 : decode prog_15_method_6_code 15 = .ok (.iload_n 2, 1) := by decide +kernel
theorem d8_16 : decode prog_15_method_6_code 16 = .ok (.if_icmp .ge 30, 3) := by decide +kernel
theorem d8_46 : decode prog_15_method_6_code 46 = .ok (.iload_n 3, 1) := by decide +kernel
theorem d8_47 : decode prog_15_method_6_code 47 = .ok (.i2c, 1) := by decide +kernel
theorem d8_48 : decode prog_15_method_6_code 48 = .ok (.ireturn, 1) := by decide +kernel
theorem d8_19 : decode prog_15_method_6_code 19 = .ok (.aload_n 0, 1) := by decide +kernel
theorem d8_20 : decode prog_15_method_6_code 20 = .ok (.iload 4, 2) := by decide +kernel
theorem d8_22 : decode prog_15_method_6_code 22 = .ok (.baload, 1) := by decide +kernel
theorem d8_23 : decode prog_15_method_6_code 23 = .ok (.bipush 42, 2) := by decide +kernel
theorem d8_25 : decode prog_15_method_6_code 25 = .ok (.if_icmp .eq 15, 3) := by decide +kernel
theorem d8_40 : decode prog_15_method_6_code 40 = .ok (.iinc 4 1, 3) := by decide +kernel
theorem d8_43 : decode prog_15_method_6_code 43 = .ok (.goto (-30), 3) := by decide +kernel
theorem d8_28 : decode prog_15_method_6_code 28 = .ok (.iload_n 3, 1) := by decide +kernel
theorem d8_29 : decode prog_15_method_6_code 29 = .ok (.iconst 1, 1) := by decide +kernel
theorem d8_30 : decode prog_15_method_6_code 30 = .ok (.aload_n 0, 1) := by decide +kernel
theorem d8_31 : decode prog_15_method_6_code 31 = .ok (.iload 4, 2) := by decide +kernel
theorem d8_33 : decode prog_15_method_6_code 33 = .ok (.baload, 1) := by decide +kernel
theorem d8_34 : decode prog_15_method_6_code 34 = .ok (.bipush 15, 2) := by decide +kernel
theorem d8_36 : decode prog_15_method_6_code 36 = .ok (.iand, 1) := by decide +kernel
theorem d8_37 : decode prog_15_method_6_code 37 = .ok (.ishl, 1) := by decide +kernel
theorem d8_38 : decode prog_15_method_6_code 38 = .ok (.ior, 1) := by decide +kernel
theorem d8_39 : decode prog_15_method_6_code 39 = .ok (.istore_n 3, 1) := by decide +kernel
theorem ef_bc (m : MethodId) (x0 : Addr) : entryFrame m #[(.ref x0)] 6 = mkF m 0 #[.val (.ref x0), .unset, .unset, .unset, .unset, .unset] [] := by first | (simp [entryFrame, mkF, argsToLocals, Value.category]; done) | rfl
theorem d13_0 : decode prog_15_method_9_code 0 = .ok (.iconst 0, 1) := by decide +kernel
theorem d13_1 : decode prog_15_method_9_code 1 = .ok (.istore_n 1, 1) := by decide +kernel
theorem d13_2 : decode prog_15_method_9_code 2 = .ok (.aload_n 0, 1) := by decide +kernel
theorem d13_3 : decode prog_15_method_9_code 3 = .ok (.astore_n 2, 1) := by decide +kernel
theorem d13_4 : decode prog_15_method_9_code 4 = .ok (.aload_n 2, 1) := by decide +kernel
theorem d13_5 : decode prog_15_method_9_code 5 = .ok (.arraylength, 1) := by decide +kernel
theorem d13_6 : decode prog_15_method_9_code 6 = .ok (.istore_n 3, 1) := by decide +kernel
theorem d13_7 : decode prog_15_method_9_code 7 = .ok (.iconst 0, 1) := by decide +kernel
theorem d13_8 : decode prog_15_method_9_code 8 = .ok (.istore 4, 2) := by decide +kernel
theorem d13_10 : decode prog_15_method_9_code 10 = .ok (.iload 4, 2) := by decide +kernel
theorem d13_12 : decode prog_15_method_9_code 12 = .ok (.iload_n 3, 1) := by decide +kernel
theorem d13_13 : decode prog_15_method_9_code 13 = .ok (.if_icmp .ge 25, 3) := by decide +kernel
theorem d13_38 : decode prog_15_method_9_code 38 = .ok (.iload_n 1, 1) := by decide +kernel
theorem d13_39 : decode prog_15_method_9_code 39 = .ok (.i2c, 1) := by decide +kernel
theorem d13_40 : decode prog_15_method_9_code 40 = .ok (.ireturn, 1) := by decide +kernel
theorem d13_16 : decode prog_15_method_9_code 16 = .ok (.aload_n 2, 1) := by decide +kernel
theorem d13_17 : decode prog_15_method_9_code 17 = .ok (.iload 4, 2) := by decide +kernel
theorem d13_19 : decode prog_15_method_9_code 19 = .ok (.baload, 1) := by decide +kernel
theorem d13_20 : decode prog_15_method_9_code 20 = .ok (.istore 5, 2) := by decide +kernel
theorem d13_22 : decode prog_15_method_9_code 22 = .ok (.iload_n 1, 1) := by decide +kernel
theorem d13_23 : decode prog_15_method_9_code 23 = .ok (.iconst 1, 1) := by decide +kernel
theorem d13_24 : decode prog_15_method_9_code 24 = .ok (.iload 5, 2) := by decide +kernel
theorem d13_26 : decode prog_15_method_9_code 26 = .ok (.bipush 15, 2) := by decide +kernel
theorem d13_28 : decode prog_15_method_9_code 28 = .ok (.iand, 1) := by decide +kernel
theorem d13_29 : decode prog_15_method_9_code 29 = .ok (.ishl, 1) := by decide +kernel
theorem d13_30 : decode prog_15_method_9_code 30 = .ok (.ior, 1) := by decide +kernel
theorem d13_31 : decode prog_15_method_9_code 31 = .ok (.istore_n 1, 1) := by decide +kernel
theorem d13_32 : decode prog_15_method_9_code 32 = .ok (.iinc 4 1, 3) := by decide +kernel
theorem d13_35 : decode prog_15_method_9_code 35 = .ok (.goto (-25), 3) := by decide +kernel
theorem pn_1 : plainName "jdk/internal/util/ArraysSupport" = true := by first | (simp [plainName, overriddenIn]; done) | decide +kernel
theorem ef_mm (m : MethodId) (x0 : Addr) (x1 : Int32) (x2 : Addr) (x3 : Int32) (x4 : Int32) : entryFrame m #[(.ref x0), (.int x1), (.ref x2), (.int x3), (.int x4)] 8 = mkF m 0 #[.val (.ref x0), .val (.int x1), .val (.ref x2), .val (.int x3), .val (.int x4), .unset, .unset, .unset] [] := by first | (simp [entryFrame, mkF, argsToLocals, Value.category]; done) | rfl
theorem d12_0 : decode jdk_48_method_14_code 0 = .ok (.iconst 0, 1) := by decide +kernel
theorem d12_1 : decode jdk_48_method_14_code 1 = .ok (.istore 5, 2) := by decide +kernel
theorem d12_3 : decode jdk_48_method_14_code 3 = .ok (.iload 4, 2) := by decide +kernel
theorem d12_5 : decode jdk_48_method_14_code 5 = .ok (.bipush 7, 2) := by decide +kernel
theorem d12_7 : decode jdk_48_method_14_code 7 = .ok (.if_icmp .le 63, 3) := by decide +kernel
theorem d12_70 : decode jdk_48_method_14_code 70 = .ok (.iload 5, 2) := by decide +kernel
theorem d12_72 : decode jdk_48_method_14_code 72 = .ok (.iload 4, 2) := by decide +kernel
theorem d12_74 : decode jdk_48_method_14_code 74 = .ok (.if_icmp .ge 27, 3) := by decide +kernel
theorem d12_101 : decode jdk_48_method_14_code 101 = .ok (.iconst (-1), 1) := by decide +kernel
theorem d12_102 : decode jdk_48_method_14_code 102 = .ok (.ireturn, 1) := by decide +kernel
theorem d12_77 : decode jdk_48_method_14_code 77 = .ok (.aload_n 0, 1) := by decide +kernel
theorem d12_78 : decode jdk_48_method_14_code 78 = .ok (.iload_n 1, 1) := by decide +kernel
theorem d12_79 : decode jdk_48_method_14_code 79 = .ok (.iload 5, 2) := by decide +kernel
theorem d12_81 : decode jdk_48_method_14_code 81 = .ok (.iadd, 1) := by decide +kernel
theorem d12_82 : decode jdk_48_method_14_code 82 = .ok (.baload, 1) := by decide +kernel
theorem d12_83 : decode jdk_48_method_14_code 83 = .ok (.aload_n 2, 1) := by decide +kernel
theorem d12_84 : decode jdk_48_method_14_code 84 = .ok (.iload_n 3, 1) := by decide +kernel
theorem d12_85 : decode jdk_48_method_14_code 85 = .ok (.iload 5, 2) := by decide +kernel
theorem d12_87 : decode jdk_48_method_14_code 87 = .ok (.iadd, 1) := by decide +kernel
theorem d12_88 : decode jdk_48_method_14_code 88 = .ok (.baload, 1) := by decide +kernel
theorem d12_89 : decode jdk_48_method_14_code 89 = .ok (.if_icmp .eq 6, 3) := by decide +kernel
theorem d12_95 : decode jdk_48_method_14_code 95 = .ok (.iinc 5 1, 3) := by decide +kernel
theorem d12_98 : decode jdk_48_method_14_code 98 = .ok (.goto (-28), 3) := by decide +kernel
theorem d12_92 : decode jdk_48_method_14_code 92 = .ok (.iload 5, 2) := by decide +kernel
theorem d12_94 : decode jdk_48_method_14_code 94 = .ok (.ireturn, 1) := by decide +kernel
theorem pn_2 : plainName "java/util/Arrays" = true := by first | (simp [plainName, overriddenIn]; done) | decide +kernel
theorem ef_rc (m : MethodId) (x0 : Int32) (x1 : Int32) (x2 : Int32) : entryFrame m #[(.int x0), (.int x1), (.int x2)] 3 = mkF m 0 #[.val (.int x0), .val (.int x1), .val (.int x2)] [] := by first | (simp [entryFrame, mkF, argsToLocals, Value.category]; done) | rfl
theorem d11_0 : decode jdk_65_method_30_code 0 = .ok (.iload_n 1, 1) := by decide +kernel
theorem d11_1 : decode jdk_65_method_30_code 1 = .ok (.iload_n 2, 1) := by decide +kernel
theorem d11_2 : decode jdk_65_method_30_code 2 = .ok (.if_icmp .le 44, 3) := by decide +kernel
theorem d11_46 : decode jdk_65_method_30_code 46 = .ok (.iload_n 1, 1) := by decide +kernel
theorem d11_47 : decode jdk_65_method_30_code 47 = .ok (.ifCond .ge 12, 3) := by decide +kernel
theorem d11_59 : decode jdk_65_method_30_code 59 = .ok (.iload_n 2, 1) := by decide +kernel
theorem d11_60 : decode jdk_65_method_30_code 60 = .ok (.iload_n 0, 1) := by decide +kernel
theorem d11_61 : decode jdk_65_method_30_code 61 = .ok (.if_icmp .le 12, 3) := by decide +kernel
theorem d11_73 : decode jdk_65_method_30_code 73 = .ok (.return_, 1) := by decide +kernel
theorem ef_eq (m : MethodId) (x0 : Addr) (x1 : Int32) (x2 : Int32) (x3 : Addr) (x4 : Int32) (x5 : Int32) : entryFrame m #[(.ref x0), (.int x1), (.int x2), (.ref x3), (.int x4), (.int x5)] 8 = mkF m 0 #[.val (.ref x0), .val (.int x1), .val (.int x2), .val (.ref x3), .val (.int x4), .val (.int x5), .unset, .unset] [] := by first | (simp [entryFrame, mkF, argsToLocals, Value.category]; done) | rfl
theorem d10_0 : decode jdk_65_method_90_code 0 = .ok (.aload_n 0, 1) := by decide +kernel
theorem d10_1 : decode jdk_65_method_90_code 1 = .ok (.arraylength, 1) := by decide +kernel
theorem d10_2 : decode jdk_65_method_90_code 2 = .ok (.iload_n 1, 1) := by decide +kernel
theorem d10_3 : decode jdk_65_method_90_code 3 = .ok (.iload_n 2, 1) := by decide +kernel
theorem pd_1 : parseMethodDescriptor "(III)V" = some ⟨[.int, .int, .int], none⟩ := by decide +kernel
theorem d10_4 : decode jdk_65_method_90_code 4 = .ok (.invokestatic 13, 3) := by decide +kernel
theorem d10_7 : decode jdk_65_method_90_code 7 = .ok (.aload_n 3, 1) := by decide +kernel
theorem d10_8 : decode jdk_65_method_90_code 8 = .ok (.arraylength, 1) := by decide +kernel
theorem d10_9 : decode jdk_65_method_90_code 9 = .ok (.iload 4, 2) := by decide +kernel
theorem d10_11 : decode jdk_65_method_90_code 11 = .ok (.iload 5, 2) := by decide +kernel
theorem d10_13 : decode jdk_65_method_90_code 13 = .ok (.invokestatic 13, 3) := by decide +kernel
theorem d10_16 : decode jdk_65_method_90_code 16 = .ok (.iload_n 2, 1) := by decide +kernel
theorem d10_17 : decode jdk_65_method_90_code 17 = .ok (.iload_n 1, 1) := by decide +kernel
theorem d10_18 : decode jdk_65_method_90_code 18 = .ok (.isub, 1) := by decide +kernel
theorem d10_19 : decode jdk_65_method_90_code 19 = .ok (.istore 6, 2) := by decide +kernel
theorem d10_21 : decode jdk_65_method_90_code 21 = .ok (.iload 5, 2) := by decide +kernel
theorem d10_23 : decode jdk_65_method_90_code 23 = .ok (.iload 4, 2) := by decide +kernel
theorem d10_25 : decode jdk_65_method_90_code 25 = .ok (.isub, 1) := by decide +kernel
theorem d10_26 : decode jdk_65_method_90_code 26 = .ok (.istore 7, 2) := by decide +kernel
theorem d10_28 : decode jdk_65_method_90_code 28 = .ok (.iload 6, 2) := by decide +kernel
theorem d10_30 : decode jdk_65_method_90_code 30 = .ok (.iload 7, 2) := by decide +kernel
theorem d10_32 : decode jdk_65_method_90_code 32 = .ok (.if_icmp .eq 5, 3) := by decide +kernel
theorem d10_37 : decode jdk_65_method_90_code 37 = .ok (.aload_n 0, 1) := by decide +kernel
theorem d10_38 : decode jdk_65_method_90_code 38 = .ok (.iload_n 1, 1) := by decide +kernel
theorem d10_39 : decode jdk_65_method_90_code 39 = .ok (.aload_n 3, 1) := by decide +kernel
theorem d10_40 : decode jdk_65_method_90_code 40 = .ok (.iload 4, 2) := by decide +kernel
theorem d10_42 : decode jdk_65_method_90_code 42 = .ok (.iload 6, 2) := by decide +kernel
theorem pd_2 : parseMethodDescriptor "([BI[BII)I" = some ⟨[(.array .byte), .int, (.array .byte), .int, .int], some .int⟩ := by decide +kernel
theorem d10_44 : decode jdk_65_method_90_code 44 = .ok (.invokestatic 275, 3) := by decide +kernel
theorem d10_47 : decode jdk_65_method_90_code 47 = .ok (.ifCond .ge 7, 3) := by decide +kernel
theorem d10_50 : decode jdk_65_method_90_code 50 = .ok (.iconst 1, 1) := by decide +kernel
theorem d10_51 : decode jdk_65_method_90_code 51 = .ok (.goto 4, 3) := by decide +kernel
theorem d10_55 : decode jdk_65_method_90_code 55 = .ok (.ireturn, 1) := by decide +kernel
theorem d10_54 : decode jdk_65_method_90_code 54 = .ok (.iconst 0, 1) := by decide +kernel
theorem ef_oc (m : MethodId) (x0 : Addr) (x1 : Int32) (x2 : Addr) (x3 : Int32) (x4 : Int32) : entryFrame m #[(.ref x0), (.int x1), (.ref x2), (.int x3), (.int x4)] 6 = mkF m 0 #[.val (.ref x0), .val (.int x1), .val (.ref x2), .val (.int x3), .val (.int x4), .unset] [] := by first | (simp [entryFrame, mkF, argsToLocals, Value.category]; done) | rfl
theorem d9_0 : decode prog_15_method_14_code 0 = .ok (.iload_n 1, 1) := by decide +kernel
theorem d9_1 : decode prog_15_method_14_code 1 = .ok (.iload 4, 2) := by decide +kernel
theorem d9_3 : decode prog_15_method_14_code 3 = .ok (.iadd, 1) := by decide +kernel
theorem d9_4 : decode prog_15_method_14_code 4 = .ok (.istore 5, 2) := by decide +kernel
theorem d9_6 : decode prog_15_method_14_code 6 = .ok (.iload 5, 2) := by decide +kernel
theorem d9_8 : decode prog_15_method_14_code 8 = .ok (.aload_n 0, 1) := by decide +kernel
theorem d9_9 : decode prog_15_method_14_code 9 = .ok (.arraylength, 1) := by decide +kernel
theorem d9_10 : decode prog_15_method_14_code 10 = .ok (.if_icmp .gt 23, 3) := by decide +kernel
theorem d9_33 : decode prog_15_method_14_code 33 = .ok (.iconst 0, 1) := by decide +kernel
theorem d9_34 : decode prog_15_method_14_code 34 = .ok (.ireturn, 1) := by decide +kernel
theorem d9_13 : decode prog_15_method_14_code 13 = .ok (.aload_n 0, 1) := by decide +kernel
theorem d9_14 : decode prog_15_method_14_code 14 = .ok (.iload_n 1, 1) := by decide +kernel
theorem d9_15 : decode prog_15_method_14_code 15 = .ok (.iload 5, 2) := by decide +kernel
theorem d9_17 : decode prog_15_method_14_code 17 = .ok (.aload_n 2, 1) := by decide +kernel
theorem d9_18 : decode prog_15_method_14_code 18 = .ok (.iload_n 3, 1) := by decide +kernel
theorem d9_19 : decode prog_15_method_14_code 19 = .ok (.iload_n 3, 1) := by decide +kernel
theorem d9_20 : decode prog_15_method_14_code 20 = .ok (.iload 4, 2) := by decide +kernel
theorem d9_22 : decode prog_15_method_14_code 22 = .ok (.iadd, 1) := by decide +kernel
theorem pd_3 : parseMethodDescriptor "([BII[BII)Z" = some ⟨[(.array .byte), .int, .int, (.array .byte), .int, .int], some .boolean⟩ := by decide +kernel
theorem d9_23 : decode prog_15_method_14_code 23 = .ok (.invokestatic 51, 3) := by decide +kernel
theorem d9_26 : decode prog_15_method_14_code 26 = .ok (.ifCond .eq 7, 3) := by decide +kernel
theorem d9_29 : decode prog_15_method_14_code 29 = .ok (.iconst 1, 1) := by decide +kernel
theorem d9_30 : decode prog_15_method_14_code 30 = .ok (.goto 4, 3) := by decide +kernel
theorem ef_io (m : MethodId) (x0 : Addr) (x1 : Int32) (x2 : Addr) (x3 : Int32) (x4 : Int32) : entryFrame m #[(.ref x0), (.int x1), (.ref x2), (.int x3), (.int x4)] 9 = mkF m 0 #[.val (.ref x0), .val (.int x1), .val (.ref x2), .val (.int x3), .val (.int x4), .unset, .unset, .unset, .unset] [] := by first | (simp [entryFrame, mkF, argsToLocals, Value.category]; done) | rfl
theorem d16_0 : decode prog_15_method_15_code 0 = .ok (.iload 4, 2) := by decide +kernel
theorem d16_2 : decode prog_15_method_15_code 2 = .ok (.iload_n 3, 1) := by decide +kernel
theorem d16_3 : decode prog_15_method_15_code 3 = .ok (.isub, 1) := by decide +kernel
theorem d16_4 : decode prog_15_method_15_code 4 = .ok (.istore 5, 2) := by decide +kernel
theorem d16_6 : decode prog_15_method_15_code 6 = .ok (.aload_n 0, 1) := by decide +kernel
theorem d16_7 : decode prog_15_method_15_code 7 = .ok (.arraylength, 1) := by decide +kernel
theorem d16_8 : decode prog_15_method_15_code 8 = .ok (.iload 5, 2) := by decide +kernel
theorem d16_10 : decode prog_15_method_15_code 10 = .ok (.isub, 1) := by decide +kernel
theorem d16_11 : decode prog_15_method_15_code 11 = .ok (.istore 6, 2) := by decide +kernel
theorem d16_13 : decode prog_15_method_15_code 13 = .ok (.iload 5, 2) := by decide +kernel
theorem d16_15 : decode prog_15_method_15_code 15 = .ok (.ifCond .ne 15, 3) := by decide +kernel
theorem d16_18 : decode prog_15_method_15_code 18 = .ok (.iload_n 1, 1) := by decide +kernel
theorem d16_19 : decode prog_15_method_15_code 19 = .ok (.iload 6, 2) := by decide +kernel
theorem d16_21 : decode prog_15_method_15_code 21 = .ok (.if_icmp .gt 7, 3) := by decide +kernel
theorem d16_28 : decode prog_15_method_15_code 28 = .ok (.iconst (-1), 1) := by decide +kernel
theorem d16_29 : decode prog_15_method_15_code 29 = .ok (.ireturn, 1) := by decide +kernel
theorem d16_24 : decode prog_15_method_15_code 24 = .ok (.iload_n 1, 1) := by decide +kernel
theorem d16_25 : decode prog_15_method_15_code 25 = .ok (.goto 4, 3) := by decide +kernel
theorem d16_30 : decode prog_15_method_15_code 30 = .ok (.aload_n 2, 1) := by decide +kernel
theorem d16_31 : decode prog_15_method_15_code 31 = .ok (.iload_n 3, 1) := by decide +kernel
theorem d16_32 : decode prog_15_method_15_code 32 = .ok (.baload, 1) := by decide +kernel
theorem d16_33 : decode prog_15_method_15_code 33 = .ok (.istore 7, 2) := by decide +kernel
theorem d16_35 : decode prog_15_method_15_code 35 = .ok (.iload_n 1, 1) := by decide +kernel
theorem d16_36 : decode prog_15_method_15_code 36 = .ok (.istore 8, 2) := by decide +kernel
theorem d16_38 : decode prog_15_method_15_code 38 = .ok (.iload 8, 2) := by decide +kernel
theorem d16_40 : decode prog_15_method_15_code 40 = .ok (.iload 6, 2) := by decide +kernel
theorem d16_42 : decode prog_15_method_15_code 42 = .ok (.if_icmp .gt 34, 3) := by decide +kernel
theorem d16_76 : decode prog_15_method_15_code 76 = .ok (.iconst (-1), 1) := by decide +kernel
theorem d16_77 : decode prog_15_method_15_code 77 = .ok (.ireturn, 1) := by decide +kernel
theorem d16_45 : decode prog_15_method_15_code 45 = .ok (.aload_n 0, 1) := by decide +kernel
theorem d16_46 : decode prog_15_method_15_code 46 = .ok (.iload 8, 2) := by decide +kernel
theorem d16_48 : decode prog_15_method_15_code 48 = .ok (.baload, 1) := by decide +kernel
theorem d16_49 : decode prog_15_method_15_code 49 = .ok (.iload 7, 2) := by decide +kernel
theorem d16_51 : decode prog_15_method_15_code 51 = .ok (.if_icmp .ne 19, 3) := by decide +kernel
theorem d16_54 : decode prog_15_method_15_code 54 = .ok (.aload_n 0, 1) := by decide +kernel
theorem d16_55 : decode prog_15_method_15_code 55 = .ok (.iload 8, 2) := by decide +kernel
theorem d16_57 : decode prog_15_method_15_code 57 = .ok (.aload_n 2, 1) := by decide +kernel
theorem d16_58 : decode prog_15_method_15_code 58 = .ok (.iload_n 3, 1) := by decide +kernel
theorem d16_59 : decode prog_15_method_15_code 59 = .ok (.iload 5, 2) := by decide +kernel
theorem pd_4 : parseMethodDescriptor "([BI[BII)Z" = some ⟨[(.array .byte), .int, (.array .byte), .int, .int], some .boolean⟩ := by decide +kernel
theorem d16_61 : decode prog_15_method_15_code 61 = .ok (.invokestatic 35, 3) := by decide +kernel
theorem d16_64 : decode prog_15_method_15_code 64 = .ok (.ifCond .eq 6, 3) := by decide +kernel
theorem d16_70 : decode prog_15_method_15_code 70 = .ok (.iinc 8 1, 3) := by decide +kernel
theorem d16_73 : decode prog_15_method_15_code 73 = .ok (.goto (-35), 3) := by decide +kernel
theorem d16_67 : decode prog_15_method_15_code 67 = .ok (.iload 8, 2) := by decide +kernel
theorem d16_69 : decode prog_15_method_15_code 69 = .ok (.ireturn, 1) := by decide +kernel
theorem ef_mp (m : MethodId) (x0 : Addr) (x1 : Int32) (x2 : Int32) (x3 : Int32) (x4 : Int32) (x5 : Addr) (x6 : Int32) : entryFrame m #[(.ref x0), (.int x1), (.int x2), (.int x3), (.int x4), (.ref x5), (.int x6)] 14 = mkF m 0 #[.val (.ref x0), .val (.int x1), .val (.int x2), .val (.int x3), .val (.int x4), .val (.ref x5), .val (.int x6), .unset, .unset, .unset, .unset, .unset, .unset, .unset] [] := by first | (simp [entryFrame, mkF, argsToLocals, Value.category]; done) | rfl
theorem d14_0 : decode prog_15_method_11_code 0 = .ok (.iload 4, 2) := by decide +kernel
theorem d14_2 : decode prog_15_method_11_code 2 = .ok (.iload 6, 2) := by decide +kernel
theorem d14_4 : decode prog_15_method_11_code 4 = .ok (.iconst (-1), 1) := by decide +kernel
theorem d14_5 : decode prog_15_method_11_code 5 = .ok (.ixor, 1) := by decide +kernel
theorem d14_6 : decode prog_15_method_11_code 6 = .ok (.iand, 1) := by decide +kernel
theorem d14_7 : decode prog_15_method_11_code 7 = .ok (.ifCond .eq 5, 3) := by decide +kernel
theorem d14_12 : decode prog_15_method_11_code 12 = .ok (.iload_n 2, 1) := by decide +kernel
theorem d14_13 : decode prog_15_method_11_code 13 = .ok (.iload_n 1, 1) := by decide +kernel
theorem d14_14 : decode prog_15_method_11_code 14 = .ok (.if_icmp .le 17, 3) := by decide +kernel
theorem d14_17 : decode prog_15_method_11_code 17 = .ok (.aload_n 0, 1) := by decide +kernel
theorem d14_18 : decode prog_15_method_11_code 18 = .ok (.iload_n 2, 1) := by decide +kernel
theorem d14_19 : decode prog_15_method_11_code 19 = .ok (.iconst 1, 1) := by decide +kernel
theorem d14_20 : decode prog_15_method_11_code 20 = .ok (.isub, 1) := by decide +kernel
theorem d14_21 : decode prog_15_method_11_code 21 = .ok (.baload, 1) := by decide +kernel
theorem d14_22 : decode prog_15_method_11_code 22 = .ok (.bipush 36, 2) := by decide +kernel
theorem d14_24 : decode prog_15_method_11_code 24 = .ok (.if_icmp .ne 7, 3) := by decide +kernel
theorem d14_27 : decode prog_15_method_11_code 27 = .ok (.iconst 1, 1) := by decide +kernel
theorem d14_28 : decode prog_15_method_11_code 28 = .ok (.goto 4, 3) := by decide +kernel
theorem d14_31 : decode prog_15_method_11_code 31 = .ok (.iconst 0, 1) := by decide +kernel
theorem d14_32 : decode prog_15_method_11_code 32 = .ok (.istore 7, 2) := by decide +kernel
theorem d14_34 : decode prog_15_method_11_code 34 = .ok (.aload_n 0, 1) := by decide +kernel
theorem d14_35 : decode prog_15_method_11_code 35 = .ok (.iload_n 1, 1) := by decide +kernel
theorem d14_36 : decode prog_15_method_11_code 36 = .ok (.iload_n 2, 1) := by decide +kernel
theorem d14_37 : decode prog_15_method_11_code 37 = .ok (.invokestatic 20, 3) := by decide +kernel
theorem d14_40 : decode prog_15_method_11_code 40 = .ok (.istore 8, 2) := by decide +kernel
theorem d14_42 : decode prog_15_method_11_code 42 = .ok (.iload_n 1, 1) := by decide +kernel
theorem d14_43 : decode prog_15_method_11_code 43 = .ok (.iload_n 3, 1) := by decide +kernel
theorem d14_44 : decode prog_15_method_11_code 44 = .ok (.iadd, 1) := by decide +kernel
theorem d14_45 : decode prog_15_method_11_code 45 = .ok (.istore 9, 2) := by decide +kernel
theorem d14_47 : decode prog_15_method_11_code 47 = .ok (.iload 9, 2) := by decide +kernel
theorem d14_49 : decode prog_15_method_11_code 49 = .ok (.iload 8, 2) := by decide +kernel
theorem d14_51 : decode prog_15_method_11_code 51 = .ok (.if_icmp .ne 21, 3) := by decide +kernel
theorem d14_54 : decode prog_15_method_11_code 54 = .ok (.iload 7, 2) := by decide +kernel
theorem d14_56 : decode prog_15_method_11_code 56 = .ok (.ifCond .eq 10, 3) := by decide +kernel
theorem d14_66 : decode prog_15_method_11_code 66 = .ok (.iconst 1, 1) := by decide +kernel
theorem d14_67 : decode prog_15_method_11_code 67 = .ok (.goto 4, 3) := by decide +kernel
theorem d14_71 : decode prog_15_method_11_code 71 = .ok (.ireturn, 1) := by decide +kernel
theorem d14_59 : decode prog_15_method_11_code 59 = .ok (.aload 5, 2) := by decide +kernel
theorem d14_61 : decode prog_15_method_11_code 61 = .ok (.arraylength, 1) := by decide +kernel
theorem d14_62 : decode prog_15_method_11_code 62 = .ok (.iload_n 3, 1) := by decide +kernel
theorem d14_63 : decode prog_15_method_11_code 63 = .ok (.if_icmp .ne 7, 3) := by decide +kernel
theorem d14_70 : decode prog_15_method_11_code 70 = .ok (.iconst 0, 1) := by decide +kernel
theorem d14_72 : decode prog_15_method_11_code 72 = .ok (.iload_n 3, 1) := by decide +kernel
theorem d14_73 : decode prog_15_method_11_code 73 = .ok (.istore 10, 2) := by decide +kernel
theorem d14_75 : decode prog_15_method_11_code 75 = .ok (.iinc 9 1, 3) := by decide +kernel
theorem d14_78 : decode prog_15_method_11_code 78 = .ok (.aload_n 0, 1) := by decide +kernel
theorem d14_79 : decode prog_15_method_11_code 79 = .ok (.iload 9, 2) := by decide +kernel
theorem d14_81 : decode prog_15_method_11_code 81 = .ok (.iload 8, 2) := by decide +kernel
theorem d14_83 : decode prog_15_method_11_code 83 = .ok (.invokestatic 24, 3) := by decide +kernel
theorem d14_86 : decode prog_15_method_11_code 86 = .ok (.istore 11, 2) := by decide +kernel
theorem d14_88 : decode prog_15_method_11_code 88 = .ok (.iload 11, 2) := by decide +kernel
theorem d14_90 : decode prog_15_method_11_code 90 = .ok (.iload 8, 2) := by decide +kernel
theorem d14_92 : decode prog_15_method_11_code 92 = .ok (.if_icmp .ge 53, 3) := by decide +kernel
theorem d14_145 : decode prog_15_method_11_code 145 = .ok (.iload 8, 2) := by decide +kernel
theorem d14_147 : decode prog_15_method_11_code 147 = .ok (.iload 9, 2) := by decide +kernel
theorem d14_149 : decode prog_15_method_11_code 149 = .ok (.isub, 1) := by decide +kernel
theorem d14_150 : decode prog_15_method_11_code 150 = .ok (.istore 12, 2) := by decide +kernel
theorem d14_152 : decode prog_15_method_11_code 152 = .ok (.iload 7, 2) := by decide +kernel
theorem d14_154 : decode prog_15_method_11_code 154 = .ok (.ifCond .eq 39, 3) := by decide +kernel
theorem d14_193 : decode prog_15_method_11_code 193 = .ok (.aload 5, 2) := by decide +kernel
theorem d14_195 : decode prog_15_method_11_code 195 = .ok (.iload 10, 2) := by decide +kernel
theorem d14_197 : decode prog_15_method_11_code 197 = .ok (.aload_n 0, 1) := by decide +kernel
theorem d14_198 : decode prog_15_method_11_code 198 = .ok (.iload 9, 2) := by decide +kernel
theorem d14_200 : decode prog_15_method_11_code 200 = .ok (.iload 8, 2) := by decide +kernel
theorem d14_202 : decode prog_15_method_11_code 202 = .ok (.invokestatic 47, 3) := by decide +kernel
theorem d14_205 : decode prog_15_method_11_code 205 = .ok (.ifCond .lt 7, 3) := by decide +kernel
theorem d14_212 : decode prog_15_method_11_code 212 = .ok (.iconst 0, 1) := by decide +kernel
theorem d14_213 : decode prog_15_method_11_code 213 = .ok (.ireturn, 1) := by decide +kernel
theorem d14_208 : decode prog_15_method_11_code 208 = .ok (.iconst 1, 1) := by decide +kernel
theorem d14_209 : decode prog_15_method_11_code 209 = .ok (.goto 4, 3) := by decide +kernel
theorem d14_157 : decode prog_15_method_11_code 157 = .ok (.aload 5, 2) := by decide +kernel
theorem d14_159 : decode prog_15_method_11_code 159 = .ok (.arraylength, 1) := by decide +kernel
theorem d14_160 : decode prog_15_method_11_code 160 = .ok (.iload 12, 2) := by decide +kernel
theorem d14_162 : decode prog_15_method_11_code 162 = .ok (.isub, 1) := by decide +kernel
theorem d14_163 : decode prog_15_method_11_code 163 = .ok (.istore 13, 2) := by decide +kernel
theorem d14_165 : decode prog_15_method_11_code 165 = .ok (.iload 13, 2) := by decide +kernel
theorem d14_167 : decode prog_15_method_11_code 167 = .ok (.iload 10, 2) := by decide +kernel
theorem d14_169 : decode prog_15_method_11_code 169 = .ok (.if_icmp .lt 22, 3) := by decide +kernel
theorem d14_191 : decode prog_15_method_11_code 191 = .ok (.iconst 0, 1) := by decide +kernel
theorem d14_192 : decode prog_15_method_11_code 192 = .ok (.ireturn, 1) := by decide +kernel
theorem d14_172 : decode prog_15_method_11_code 172 = .ok (.aload 5, 2) := by decide +kernel
theorem d14_174 : decode prog_15_method_11_code 174 = .ok (.iload 13, 2) := by decide +kernel
theorem d14_176 : decode prog_15_method_11_code 176 = .ok (.aload_n 0, 1) := by decide +kernel
theorem d14_177 : decode prog_15_method_11_code 177 = .ok (.iload 9, 2) := by decide +kernel
theorem d14_179 : decode prog_15_method_11_code 179 = .ok (.iload 12, 2) := by decide +kernel
theorem d14_181 : decode prog_15_method_11_code 181 = .ok (.invokestatic 35, 3) := by decide +kernel
theorem d14_184 : decode prog_15_method_11_code 184 = .ok (.ifCond .eq 7, 3) := by decide +kernel
theorem d14_187 : decode prog_15_method_11_code 187 = .ok (.iconst 1, 1) := by decide +kernel
theorem d14_188 : decode prog_15_method_11_code 188 = .ok (.goto 4, 3) := by decide +kernel
theorem d14_95 : decode prog_15_method_11_code 95 = .ok (.aload 5, 2) := by decide +kernel
theorem d14_97 : decode prog_15_method_11_code 97 = .ok (.iload 10, 2) := by decide +kernel
theorem d14_99 : decode prog_15_method_11_code 99 = .ok (.aload_n 0, 1) := by decide +kernel
theorem d14_100 : decode prog_15_method_11_code 100 = .ok (.iload 9, 2) := by decide +kernel
theorem d14_102 : decode prog_15_method_11_code 102 = .ok (.iload 11, 2) := by decide +kernel
theorem d14_104 : decode prog_15_method_11_code 104 = .ok (.invokestatic 47, 3) := by decide +kernel
theorem d14_107 : decode prog_15_method_11_code 107 = .ok (.istore 12, 2) := by decide +kernel
theorem d14_109 : decode prog_15_method_11_code 109 = .ok (.iload 12, 2) := by decide +kernel
theorem d14_111 : decode prog_15_method_11_code 111 = .ok (.ifCond .ge 5, 3) := by decide +kernel
theorem d14_114 : decode prog_15_method_11_code 114 = .ok (.iconst 0, 1) := by decide +kernel
theorem d14_115 : decode prog_15_method_11_code 115 = .ok (.ireturn, 1) := by decide +kernel
theorem d14_116 : decode prog_15_method_11_code 116 = .ok (.iload 12, 2) := by decide +kernel
theorem d14_118 : decode prog_15_method_11_code 118 = .ok (.iload 11, 2) := by decide +kernel
theorem d14_120 : decode prog_15_method_11_code 120 = .ok (.iadd, 1) := by decide +kernel
theorem d14_121 : decode prog_15_method_11_code 121 = .ok (.iload 9, 2) := by decide +kernel
theorem d14_123 : decode prog_15_method_11_code 123 = .ok (.isub, 1) := by decide +kernel
theorem d14_124 : decode prog_15_method_11_code 124 = .ok (.istore 10, 2) := by decide +kernel
theorem d14_126 : decode prog_15_method_11_code 126 = .ok (.iload 11, 2) := by decide +kernel
theorem d14_128 : decode prog_15_method_11_code 128 = .ok (.iconst 1, 1) := by decide +kernel
theorem d14_129 : decode prog_15_method_11_code 129 = .ok (.iadd, 1) := by decide +kernel
theorem d14_130 : decode prog_15_method_11_code 130 = .ok (.istore 9, 2) := by decide +kernel
theorem d14_132 : decode prog_15_method_11_code 132 = .ok (.aload_n 0, 1) := by decide +kernel
theorem d14_133 : decode prog_15_method_11_code 133 = .ok (.iload 9, 2) := by decide +kernel
theorem d14_135 : decode prog_15_method_11_code 135 = .ok (.iload 8, 2) := by decide +kernel
theorem d14_137 : decode prog_15_method_11_code 137 = .ok (.invokestatic 24, 3) := by decide +kernel
theorem d14_140 : decode prog_15_method_11_code 140 = .ok (.istore 11, 2) := by decide +kernel
theorem d14_142 : decode prog_15_method_11_code 142 = .ok (.goto (-54), 3) := by decide +kernel
theorem d14_10 : decode prog_15_method_11_code 10 = .ok (.iconst 0, 1) := by decide +kernel
theorem d14_11 : decode prog_15_method_11_code 11 = .ok (.ireturn, 1) := by decide +kernel
theorem ef_ma (m : MethodId) (x0 : Addr) (x1 : Addr) : entryFrame m #[(.ref x0), (.ref x1)] 4 = mkF m 0 #[.val (.ref x0), .val (.ref x1), .unset, .unset] [] := by first | (simp [entryFrame, mkF, argsToLocals, Value.category]; done) | rfl
theorem d5_0 : decode prog_15_method_10_code 0 = .ok (.aload_n 0, 1) := by decide +kernel
theorem pd_5 : parseMethodDescriptor "([B)I" = some ⟨[(.array .byte)], some .int⟩ := by decide +kernel
theorem d5_1 : decode prog_15_method_10_code 1 = .ok (.invokestatic 27, 3) := by decide +kernel
theorem d5_4 : decode prog_15_method_10_code 4 = .ok (.istore_n 2, 1) := by decide +kernel
theorem d5_5 : decode prog_15_method_10_code 5 = .ok (.aload_n 0, 1) := by decide +kernel
theorem d5_6 : decode prog_15_method_10_code 6 = .ok (.iload_n 2, 1) := by decide +kernel
theorem pd_6 : parseMethodDescriptor "([BI)C" = some ⟨[(.array .byte), .int], some .char⟩ := by decide +kernel
theorem d5_7 : decode prog_15_method_10_code 7 = .ok (.invokestatic 31, 3) := by decide +kernel
theorem d5_10 : decode prog_15_method_10_code 10 = .ok (.istore_n 3, 1) := by decide +kernel
theorem d5_11 : decode prog_15_method_10_code 11 = .ok (.aload_n 1, 1) := by decide +kernel
theorem d5_12 : decode prog_15_method_10_code 12 = .ok (.iconst 0, 1) := by decide +kernel
theorem d5_13 : decode prog_15_method_10_code 13 = .ok (.aload_n 0, 1) := by decide +kernel
theorem d5_14 : decode prog_15_method_10_code 14 = .ok (.iconst 0, 1) := by decide +kernel
theorem d5_15 : decode prog_15_method_10_code 15 = .ok (.iload_n 2, 1) := by decide +kernel
theorem d5_16 : decode prog_15_method_10_code 16 = .ok (.invokestatic 35, 3) := by decide +kernel
theorem d5_19 : decode prog_15_method_10_code 19 = .ok (.ifCond .eq 24, 3) := by decide +kernel
theorem d5_43 : decode prog_15_method_10_code 43 = .ok (.iconst 0, 1) := by decide +kernel
theorem d5_44 : decode prog_15_method_10_code 44 = .ok (.ireturn, 1) := by decide +kernel
theorem d5_22 : decode prog_15_method_10_code 22 = .ok (.aload_n 0, 1) := by decide +kernel
theorem d5_23 : decode prog_15_method_10_code 23 = .ok (.iconst 0, 1) := by decide +kernel
theorem d5_24 : decode prog_15_method_10_code 24 = .ok (.aload_n 0, 1) := by decide +kernel
theorem d5_25 : decode prog_15_method_10_code 25 = .ok (.arraylength, 1) := by decide +kernel
theorem d5_26 : decode prog_15_method_10_code 26 = .ok (.iload_n 2, 1) := by decide +kernel
theorem d5_27 : decode prog_15_method_10_code 27 = .ok (.iload_n 3, 1) := by decide +kernel
theorem d5_28 : decode prog_15_method_10_code 28 = .ok (.aload_n 1, 1) := by decide +kernel
theorem d5_29 : decode prog_15_method_10_code 29 = .ok (.aload_n 1, 1) := by decide +kernel
theorem pd_7 : parseMethodDescriptor "([B)C" = some ⟨[(.array .byte)], some .char⟩ := by decide +kernel
theorem d5_30 : decode prog_15_method_10_code 30 = .ok (.invokestatic 39, 3) := by decide +kernel
theorem pd_8 : parseMethodDescriptor "([BIIIC[BC)Z" = some ⟨[(.array .byte), .int, .int, .int, .char, (.array .byte), .char], some .boolean⟩ := by decide +kernel
theorem d5_33 : decode prog_15_method_10_code 33 = .ok (.invokestatic 43, 3) := by decide +kernel
theorem d5_36 : decode prog_15_method_10_code 36 = .ok (.ifCond .eq 7, 3) := by decide +kernel
theorem d5_39 : decode prog_15_method_10_code 39 = .ok (.iconst 1, 1) := by decide +kernel
theorem d5_40 : decode prog_15_method_10_code 40 = .ok (.goto 4, 3) := by decide +kernel
theorem ef_np (m : MethodId) (x0 : Addr) : entryFrame m #[(.ref x0)] 1 = mkF m 0 #[.val (.ref x0)] [] := by first | (simp [entryFrame, mkF, argsToLocals, Value.category]; done) | rfl
theorem d4_0 : decode prog_15_method_3_code 0 = .ok (.aload_n 0, 1) := by decide +kernel
theorem d4_1 : decode prog_15_method_3_code 1 = .ok (.arraylength, 1) := by decide +kernel
theorem d4_2 : decode prog_15_method_3_code 2 = .ok (.ifCond .le 26, 3) := by decide +kernel
theorem d4_5 : decode prog_15_method_3_code 5 = .ok (.aload_n 0, 1) := by decide +kernel
theorem d4_6 : decode prog_15_method_3_code 6 = .ok (.iconst 0, 1) := by decide +kernel
theorem d4_7 : decode prog_15_method_3_code 7 = .ok (.baload, 1) := by decide +kernel
theorem d4_8 : decode prog_15_method_3_code 8 = .ok (.getstatic 7, 3) := by decide +kernel
theorem d4_11 : decode prog_15_method_3_code 11 = .ok (.iconst 0, 1) := by decide +kernel
theorem d4_12 : decode prog_15_method_3_code 12 = .ok (.baload, 1) := by decide +kernel
theorem d4_13 : decode prog_15_method_3_code 13 = .ok (.if_icmp .eq 15, 3) := by decide +kernel
theorem d4_28 : decode prog_15_method_3_code 28 = .ok (.iconst 0, 1) := by decide +kernel
theorem d4_29 : decode prog_15_method_3_code 29 = .ok (.ireturn, 1) := by decide +kernel
theorem d4_16 : decode prog_15_method_3_code 16 = .ok (.aload_n 0, 1) := by decide +kernel
theorem d4_17 : decode prog_15_method_3_code 17 = .ok (.iconst 0, 1) := by decide +kernel
theorem d4_18 : decode prog_15_method_3_code 18 = .ok (.baload, 1) := by decide +kernel
theorem d4_19 : decode prog_15_method_3_code 19 = .ok (.bipush 42, 2) := by decide +kernel
theorem d4_21 : decode prog_15_method_3_code 21 = .ok (.if_icmp .eq 7, 3) := by decide +kernel
theorem d4_24 : decode prog_15_method_3_code 24 = .ok (.iconst 1, 1) := by decide +kernel
theorem d4_25 : decode prog_15_method_3_code 25 = .ok (.goto 4, 3) := by decide +kernel
theorem pn_3 : plainName "com/example/aloud/aloud/PathPatternMatchesNoPathPinLaw" = true := by first | (simp [plainName, overriddenIn]; done) | decide +kernel
theorem ef_pk (m : MethodId) (x0 : Int32) : entryFrame m #[(.int x0)] 2 = mkF m 0 #[.val (.int x0), .unset] [] := by first | (simp [entryFrame, mkF, argsToLocals, Value.category]; done) | rfl
theorem d1_0 : decode method_2_code 0 = .ok (.iload_n 0, 1) := by decide +kernel
theorem d1_1 : decode method_2_code 1 = .ok (.iconst 3, 1) := by decide +kernel
theorem d1_2 : decode method_2_code 2 = .ok (.iand, 1) := by decide +kernel
theorem d1_3 : decode method_2_code 3 = .ok (.istore_n 1, 1) := by decide +kernel
theorem d1_4 : decode method_2_code 4 = .ok (.iload_n 1, 1) := by decide +kernel
theorem d1_5 : decode method_2_code 5 = .ok (.ifCond .ne 6, 3) := by decide +kernel
theorem d1_8 : decode method_2_code 8 = .ok (.bipush 47, 2) := by decide +kernel
theorem d1_10 : decode method_2_code 10 = .ok (.ireturn, 1) := by decide +kernel
theorem d1_11 : decode method_2_code 11 = .ok (.iload_n 1, 1) := by decide +kernel
theorem d1_12 : decode method_2_code 12 = .ok (.iconst 1, 1) := by decide +kernel
theorem d1_13 : decode method_2_code 13 = .ok (.if_icmp .ne 6, 3) := by decide +kernel
theorem d1_16 : decode method_2_code 16 = .ok (.bipush 42, 2) := by decide +kernel
theorem d1_18 : decode method_2_code 18 = .ok (.ireturn, 1) := by decide +kernel
theorem d1_19 : decode method_2_code 19 = .ok (.iload_n 1, 1) := by decide +kernel
theorem d1_20 : decode method_2_code 20 = .ok (.iconst 2, 1) := by decide +kernel
theorem d1_21 : decode method_2_code 21 = .ok (.if_icmp .ne 6, 3) := by decide +kernel
theorem d1_24 : decode method_2_code 24 = .ok (.bipush 36, 2) := by decide +kernel
theorem d1_26 : decode method_2_code 26 = .ok (.ireturn, 1) := by decide +kernel
theorem d1_27 : decode method_2_code 27 = .ok (.iload_n 0, 1) := by decide +kernel
theorem d1_28 : decode method_2_code 28 = .ok (.iconst 2, 1) := by decide +kernel
theorem d1_29 : decode method_2_code 29 = .ok (.ishr, 1) := by decide +kernel
theorem d1_30 : decode method_2_code 30 = .ok (.i2b, 1) := by decide +kernel
theorem d1_31 : decode method_2_code 31 = .ok (.ireturn, 1) := by decide +kernel
theorem ef_ol (m : MethodId) (x0 : Int32) (x1 : Int32) (x2 : Int32) (x3 : Int32) (x4 : Int32) : entryFrame m #[(.int x0), (.int x1), (.int x2), (.int x3), (.int x4)] 5 = mkF m 0 #[.val (.int x0), .val (.int x1), .val (.int x2), .val (.int x3), .val (.int x4)] [] := by first | (simp [entryFrame, mkF, argsToLocals, Value.category]; done) | rfl
theorem d2_0 : decode method_3_code 0 = .ok (.iload_n 0, 1) := by decide +kernel
theorem d2_1 : decode method_3_code 1 = .ok (.ifCond .gt 7, 3) := by decide +kernel
theorem d2_8 : decode method_3_code 8 = .ok (.iload_n 0, 1) := by decide +kernel
theorem d2_9 : decode method_3_code 9 = .ok (.iconst 1, 1) := by decide +kernel
theorem d2_10 : decode method_3_code 10 = .ok (.if_icmp .ne 11, 3) := by decide +kernel
theorem d2_13 : decode method_3_code 13 = .ok (.iconst 1, 1) := by decide +kernel
theorem d2_14 : decode method_3_code 14 = .ok (.newarray .byte, 2) := by decide +kernel
theorem d2_16 : decode method_3_code 16 = .ok (.dup, 1) := by decide +kernel
theorem d2_17 : decode method_3_code 17 = .ok (.iconst 0, 1) := by decide +kernel
theorem d2_18 : decode method_3_code 18 = .ok (.iload_n 1, 1) := by decide +kernel
theorem d2_19 : decode method_3_code 19 = .ok (.bastore, 1) := by decide +kernel
theorem d2_20 : decode method_3_code 20 = .ok (.areturn, 1) := by decide +kernel
theorem d2_21 : decode method_3_code 21 = .ok (.iload_n 0, 1) := by decide +kernel
theorem d2_22 : decode method_3_code 22 = .ok (.iconst 2, 1) := by decide +kernel
theorem d2_23 : decode method_3_code 23 = .ok (.if_icmp .ne 15, 3) := by decide +kernel
theorem d2_26 : decode method_3_code 26 = .ok (.iconst 2, 1) := by decide +kernel
theorem d2_27 : decode method_3_code 27 = .ok (.newarray .byte, 2) := by decide +kernel
theorem d2_29 : decode method_3_code 29 = .ok (.dup, 1) := by decide +kernel
theorem d2_30 : decode method_3_code 30 = .ok (.iconst 0, 1) := by decide +kernel
theorem d2_31 : decode method_3_code 31 = .ok (.iload_n 1, 1) := by decide +kernel
theorem d2_32 : decode method_3_code 32 = .ok (.bastore, 1) := by decide +kernel
theorem d2_33 : decode method_3_code 33 = .ok (.dup, 1) := by decide +kernel
theorem d2_34 : decode method_3_code 34 = .ok (.iconst 1, 1) := by decide +kernel
theorem d2_35 : decode method_3_code 35 = .ok (.iload_n 2, 1) := by decide +kernel
theorem d2_36 : decode method_3_code 36 = .ok (.bastore, 1) := by decide +kernel
theorem d2_37 : decode method_3_code 37 = .ok (.areturn, 1) := by decide +kernel
theorem d2_38 : decode method_3_code 38 = .ok (.iload_n 0, 1) := by decide +kernel
theorem d2_39 : decode method_3_code 39 = .ok (.iconst 3, 1) := by decide +kernel
theorem d2_40 : decode method_3_code 40 = .ok (.if_icmp .ne 19, 3) := by decide +kernel
theorem d2_43 : decode method_3_code 43 = .ok (.iconst 3, 1) := by decide +kernel
theorem d2_44 : decode method_3_code 44 = .ok (.newarray .byte, 2) := by decide +kernel
theorem d2_46 : decode method_3_code 46 = .ok (.dup, 1) := by decide +kernel
theorem d2_47 : decode method_3_code 47 = .ok (.iconst 0, 1) := by decide +kernel
theorem d2_48 : decode method_3_code 48 = .ok (.iload_n 1, 1) := by decide +kernel
theorem d2_49 : decode method_3_code 49 = .ok (.bastore, 1) := by decide +kernel
theorem d2_50 : decode method_3_code 50 = .ok (.dup, 1) := by decide +kernel
theorem d2_51 : decode method_3_code 51 = .ok (.iconst 1, 1) := by decide +kernel
theorem d2_52 : decode method_3_code 52 = .ok (.iload_n 2, 1) := by decide +kernel
theorem d2_53 : decode method_3_code 53 = .ok (.bastore, 1) := by decide +kernel
theorem d2_54 : decode method_3_code 54 = .ok (.dup, 1) := by decide +kernel
theorem d2_55 : decode method_3_code 55 = .ok (.iconst 2, 1) := by decide +kernel
theorem d2_56 : decode method_3_code 56 = .ok (.iload_n 3, 1) := by decide +kernel
theorem d2_57 : decode method_3_code 57 = .ok (.bastore, 1) := by decide +kernel
theorem d2_58 : decode method_3_code 58 = .ok (.areturn, 1) := by decide +kernel
theorem d2_59 : decode method_3_code 59 = .ok (.iconst 4, 1) := by decide +kernel
theorem d2_60 : decode method_3_code 60 = .ok (.newarray .byte, 2) := by decide +kernel
theorem d2_62 : decode method_3_code 62 = .ok (.dup, 1) := by decide +kernel
theorem d2_63 : decode method_3_code 63 = .ok (.iconst 0, 1) := by decide +kernel
theorem d2_64 : decode method_3_code 64 = .ok (.iload_n 1, 1) := by decide +kernel
theorem d2_65 : decode method_3_code 65 = .ok (.bastore, 1) := by decide +kernel
theorem d2_66 : decode method_3_code 66 = .ok (.dup, 1) := by decide +kernel
theorem d2_67 : decode method_3_code 67 = .ok (.iconst 1, 1) := by decide +kernel
theorem d2_68 : decode method_3_code 68 = .ok (.iload_n 2, 1) := by decide +kernel
theorem d2_69 : decode method_3_code 69 = .ok (.bastore, 1) := by decide +kernel
theorem d2_70 : decode method_3_code 70 = .ok (.dup, 1) := by decide +kernel
theorem d2_71 : decode method_3_code 71 = .ok (.iconst 2, 1) := by decide +kernel
theorem d2_72 : decode method_3_code 72 = .ok (.iload_n 3, 1) := by decide +kernel
theorem d2_73 : decode method_3_code 73 = .ok (.bastore, 1) := by decide +kernel
theorem d2_74 : decode method_3_code 74 = .ok (.dup, 1) := by decide +kernel
theorem d2_75 : decode method_3_code 75 = .ok (.iconst 3, 1) := by decide +kernel
theorem d2_76 : decode method_3_code 76 = .ok (.iload 4, 2) := by decide +kernel
theorem d2_78 : decode method_3_code 78 = .ok (.bastore, 1) := by decide +kernel
theorem d2_79 : decode method_3_code 79 = .ok (.areturn, 1) := by decide +kernel
theorem d2_4 : decode method_3_code 4 = .ok (.iconst 0, 1) := by decide +kernel
theorem d2_5 : decode method_3_code 5 = .ok (.newarray .byte, 2) := by decide +kernel
theorem d2_7 : decode method_3_code 7 = .ok (.areturn, 1) := by decide +kernel
theorem ef_ad (m : MethodId) (x0 : Addr) (x1 : Int32) (x2 : Int32) (x3 : Int32) (x4 : Int32) : entryFrame m #[(.ref x0), (.int x1), (.int x2), (.int x3), (.int x4)] 5 = mkF m 0 #[.val (.ref x0), .val (.int x1), .val (.int x2), .val (.int x3), .val (.int x4)] [] := by first | (simp [entryFrame, mkF, argsToLocals, Value.category]; done) | rfl
theorem d3_0 : decode method_4_code 0 = .ok (.iload_n 3, 1) := by decide +kernel
theorem d3_1 : decode method_4_code 1 = .ok (.iload 4, 2) := by decide +kernel
theorem d3_3 : decode method_4_code 3 = .ok (.if_icmp .ge 31, 3) := by decide +kernel
theorem d3_6 : decode method_4_code 6 = .ok (.iload_n 2, 1) := by decide +kernel
theorem d3_7 : decode method_4_code 7 = .ok (.bipush 42, 2) := by decide +kernel
theorem d3_9 : decode method_4_code 9 = .ok (.if_icmp .eq 25, 3) := by decide +kernel
theorem d3_34 : decode method_4_code 34 = .ok (.iload_n 1, 1) := by decide +kernel
theorem d3_35 : decode method_4_code 35 = .ok (.ireturn, 1) := by decide +kernel
theorem d3_12 : decode method_4_code 12 = .ok (.iload_n 3, 1) := by decide +kernel
theorem d3_13 : decode method_4_code 13 = .ok (.iload 4, 2) := by decide +kernel
theorem d3_15 : decode method_4_code 15 = .ok (.iconst 1, 1) := by decide +kernel
theorem d3_16 : decode method_4_code 16 = .ok (.isub, 1) := by decide +kernel
theorem d3_17 : decode method_4_code 17 = .ok (.if_icmp .ne 9, 3) := by decide +kernel
theorem d3_20 : decode method_4_code 20 = .ok (.iload_n 2, 1) := by decide +kernel
theorem d3_21 : decode method_4_code 21 = .ok (.bipush 36, 2) := by decide +kernel
theorem d3_23 : decode method_4_code 23 = .ok (.if_icmp .eq 11, 3) := by decide +kernel
theorem d3_26 : decode method_4_code 26 = .ok (.aload_n 0, 1) := by decide +kernel
theorem d3_27 : decode method_4_code 27 = .ok (.iload_n 1, 1) := by decide +kernel
theorem d3_28 : decode method_4_code 28 = .ok (.iload_n 2, 1) := by decide +kernel
theorem d3_29 : decode method_4_code 29 = .ok (.bastore, 1) := by decide +kernel
theorem d3_30 : decode method_4_code 30 = .ok (.iload_n 1, 1) := by decide +kernel
theorem d3_31 : decode method_4_code 31 = .ok (.iconst 1, 1) := by decide +kernel
theorem d3_32 : decode method_4_code 32 = .ok (.iadd, 1) := by decide +kernel
theorem d3_33 : decode method_4_code 33 = .ok (.ireturn, 1) := by decide +kernel
theorem ef_law (m : MethodId) (x0 : Int32) (x1 : Int32) (x2 : Int32) (x3 : Int32) (x4 : Int32) (x5 : Int32) : entryFrame m #[(.int x0), (.int x1), (.int x2), (.int x3), (.int x4), (.int x5)] maxLocals = mkF m 0 #[.val (.int x0), .val (.int x1), .val (.int x2), .val (.int x3), .val (.int x4), .val (.int x5), .unset, .unset, .unset, .unset, .unset, .unset, .unset, .unset, .unset, .unset, .unset] [] := by first | (simp [entryFrame, mkF, argsToLocals, Value.category, maxLocals]; done) | rfl
theorem pd_9 : parseMethodDescriptor "(I)B" = some ⟨[.int], some .byte⟩ := by decide +kernel
theorem pd_10 : parseMethodDescriptor "(IBBBB)[B" = some ⟨[.int, .byte, .byte, .byte, .byte], some (.array .byte)⟩ := by decide +kernel
theorem pd_11 : parseMethodDescriptor "([BIBII)I" = some ⟨[(.array .byte), .int, .byte, .int, .int], some .int⟩ := by decide +kernel
theorem pd_12 : parseMethodDescriptor "([B)Z" = some ⟨[(.array .byte)], some .boolean⟩ := by decide +kernel
theorem pd_13 : parseMethodDescriptor "([B[B)Z" = some ⟨[(.array .byte), (.array .byte)], some .boolean⟩ := by decide +kernel
def Q_re (Z : State) (av : Addr) (kv : ClassId) (zv : Int32) (lv : List Int32) (h0 : Heap) (n0 : Nat) (v : Option Value) (h : Heap) (L : List Loc) : Prop := v = some (.int (reV zv (gL lv))) ∧ Fr n0 L ∧ h = h0
set_option maxRecDepth 65536 in
set_option maxHeartbeats 40000000 in
theorem rm_re (l : Launch) (Z : State) (a0 : Array Value) (hw : ∀ d ∈ tables_1, d.before a0 Z = true) (ws : List Jvm.Cond) (av : Addr) (kv : ClassId) (zv : Int32) (lv : List Int32) (h0 : Heap) (n0 : Nat) (Z0 : n0 ≤ h0.size) (Vv : Arv Z h0 av kv .byte zv (lv.map Value.int) (.int (0 : Int32))) (bv : 0 ≤ zv.toInt ∧ zv.toInt ≤ 4) :
    MetFree l (⟨"com/example/aloud/aloud/PathPattern", "runsEnd", "([BII)I"⟩ : MethodName) (head1 (Jvm.Cond.code (⟨"com/example/aloud/aloud/PathPattern", "runsEnd", "([BII)I"⟩ : MethodName) prog_15_method_12_code 3 (some .int) :: ws) ({ frames := 0, cells := 0, slots := 0, locals := 0 } : Room)) (fun aa U => aa = #[(.ref av), (.int (0 : Int32)), (.int zv)] ∧ Z.Warmed39 U.vm ∧ U.heap = h0) (fun _ _ _ _ _ => True) (fun _ U o U' => ∃ v L, o = .returned v ∧ Q_re Z av kv zv lv h0 n0 v U'.heap L ∧ FrameEnd U o U' L ({ frames := 0, cells := 0, slots := 0, locals := 0 } : Room).cells ({ frames := 0, cells := 0, slots := 0, locals := 0 } : Room).slots) := by
  refine MetFree.of_bodySF (plainFor_of_name pn_0) hisR ?_
  intro p e s m args below meth c s₁ Bd hml0 hP hK
  obtain ⟨rfl, hZ, hh⟩ := hP
  have hx := Bd.exec
  have hby := Bd.bytes
  have hml : c.maxLocals = 3 := hml0
  have hown : s.vm.findClass "com/example/aloud/aloud/PathPattern" = some m.cls := findClass_of_methodNamed Bd.named
  have hnm := (name_of_methodNamed Bd.named Bd.method).1
  have hlk : meth.locks = false := BodyLoose.notSynchronized Bd
  have X0 : Stand p l e ({ frames := 0, cells := 0, slots := 0, locals := 0 } : Room) s m #[(.ref av), (.int (0 : Int32)), (.int zv)] below meth c s₁ [] 0 0 := Stand.of_body Bd
  have e0 : s₁.heap = h0 := by rw [← hh, Bd.state]; rfl
  have N0 := Fr.nil n0
  have K0 : Keep h0 h0 [] := Keep.refl _ _
  show Gl p.tables e below (QQof s (Q_re Z av kv zv lv h0 n0) 0 0) (s₁.setTop (entryFrame m #[(.ref av), (.int (0 : Int32)), (.int zv)] 3))
  refine Gl.go (fun t k => castTop (ef_re m av (0 : Int32) zv) k) ?_
  show Gl _ _ _ _ (s₁.setTop (mkF m 0 #[.val (.ref av), .val (.int (0 : Int32)), .val (.int zv)] []))
  refine Gl.go (fun _ k => XS.iloadN X0.here hx rfl (hb hby d7_0) rfl  k) ?_
  show Gl _ _ _ _ (s₁.setTop (mkF m 1 #[.val (.ref av), .val (.int (0 : Int32)), .val (.int zv)] [(.int zv)]))
  refine Gl.go (fun _ k => XS.iloadN X0.here hx rfl (hb hby d7_1) rfl  k) ?_
  show Gl _ _ _ _ (s₁.setTop (mkF m 2 #[.val (.ref av), .val (.int (0 : Int32)), .val (.int zv)] [(.int (0 : Int32)), (.int zv)]))
  by_cases h2 : (0 : Int32) < zv
  · skip
    refine Gl.go (fun _ k => XS.icmpNo X0.here hx rfl (hb hby d7_2) rfl (tlt h2).2.2.2 k) ?_
    show Gl _ _ _ _ (s₁.setTop (mkF m 5 #[.val (.ref av), .val (.int (0 : Int32)), .val (.int zv)] []))
    refine Gl.go (fun _ k => XS.aloadN X0.here hx rfl (hb hby d7_5) rfl rfl  k) ?_
    show Gl _ _ _ _ (s₁.setTop (mkF m 6 #[.val (.ref av), .val (.int (0 : Int32)), .val (.int zv)] [(.ref av)]))
    refine Gl.go (fun _ k => XS.iloadN X0.here hx rfl (hb hby d7_6) rfl  k) ?_
    show Gl _ _ _ _ (s₁.setTop (mkF m 7 #[.val (.ref av), .val (.int (0 : Int32)), .val (.int zv)] [(.int zv), (.ref av)]))
    refine Gl.go (fun _ k => XS.iconst X0.here hx rfl (hb hby d7_7) k) ?_
    show Gl _ _ _ _ (s₁.setTop (mkF m 8 #[.val (.ref av), .val (.int (0 : Int32)), .val (.int zv)] [(.int (1 : Int32)), (.int zv), (.ref av)]))
    refine Gl.go (fun _ k => XS.isub X0.here hx rfl (hb hby d7_8) rfl k) ?_
    show Gl _ _ _ _ (s₁.setTop (mkF m 9 #[.val (.ref av), .val (.int (0 : Int32)), .val (.int zv)] [(.int (zv - (1 : Int32))), (.ref av)]))
    obtain ⟨cl1, Ar1, qA1, SA1, NA1, HA1, GA1⟩ := id Vv
    have hin1 := inb_of (j := (zv - (1 : Int32))) SA1 (o_re bv h2)
    have hat1 : cl1.slots[((zv - (1 : Int32))).toNatClampNeg]? = some (.int (gL lv (zv - (1 : Int32)))) := HA1.at hin1 (own_gl lv (zv - (1 : Int32)))
    refine Gl.go (fun _ k => X0.baloadBytes hx (j := (zv - (1 : Int32))) (v := (.int (gL lv (zv - (1 : Int32))))) (by rw [e0]; exact Ar1.1) (State.isArrayOf_alike hZ.alike Ar1.2.1) Ar1.2.2 hin1 hat1 (g := (mkF m 9 #[.val (.ref av), .val (.int (0 : Int32)), .val (.int zv)] [(.int (zv - (1 : Int32))), (.ref av)])) rfl rfl (hb hby d7_9) _ k) ?_
    show Gl _ _ _ _ (s₁.setTop (mkF m 10 #[.val (.ref av), .val (.int (0 : Int32)), .val (.int zv)] [(.int (gL lv (zv - (1 : Int32))))]))
    refine Gl.go (fun _ k => XS.bipush X0.here hx rfl (hb hby d7_10) k) ?_
    show Gl _ _ _ _ (s₁.setTop (mkF m 12 #[.val (.ref av), .val (.int (0 : Int32)), .val (.int zv)] [(.int (36 : Int32)), (.int (gL lv (zv - (1 : Int32))))]))
    by_cases h12 : (gL lv (zv - (1 : Int32))) = (36 : Int32)
    · skip
      refine Gl.go (fun _ k => XS.icmpNo X0.here hx rfl (hb hby d7_12) rfl (teq h12).2 k) ?_
      show Gl _ _ _ _ (s₁.setTop (mkF m 15 #[.val (.ref av), .val (.int (0 : Int32)), .val (.int zv)] []))
      refine Gl.go (fun _ k => XS.iloadN X0.here hx rfl (hb hby d7_15) rfl  k) ?_
      show Gl _ _ _ _ (s₁.setTop (mkF m 16 #[.val (.ref av), .val (.int (0 : Int32)), .val (.int zv)] [(.int zv)]))
      refine Gl.go (fun _ k => XS.iconst X0.here hx rfl (hb hby d7_16) k) ?_
      show Gl _ _ _ _ (s₁.setTop (mkF m 17 #[.val (.ref av), .val (.int (0 : Int32)), .val (.int zv)] [(.int (1 : Int32)), (.int zv)]))
      refine Gl.go (fun _ k => XS.isub X0.here hx rfl (hb hby d7_17) rfl k) ?_
      show Gl _ _ _ _ (s₁.setTop (mkF m 18 #[.val (.ref av), .val (.int (0 : Int32)), .val (.int zv)] [(.int (zv - (1 : Int32)))]))
      refine Gl.go (fun _ k => XS.goto X0.here hx rfl (pc0 := 18) (pc' := 22) rfl (hb hby d7_18) (by decide) (by decide) k) ?_
      show Gl _ _ _ _ (s₁.setTop (mkF m 22 #[.val (.ref av), .val (.int (0 : Int32)), .val (.int zv)] [(.int (zv - (1 : Int32)))]))
      refine leafI X0 hx hlk Bd.returns (hb hby d7_22) ?_ (by decide) (by decide)
      exact ⟨by rw [reV, if_pos h2, if_pos h12], N0, e0⟩
    · skip
      refine Gl.go (fun _ k => XS.icmpYes X0.here hx rfl (pc0 := 12) (pc' := 21) rfl (hb hby d7_12) rfl (feq h12).2 (by decide) (by decide) k) ?_
      show Gl _ _ _ _ (s₁.setTop (mkF m 21 #[.val (.ref av), .val (.int (0 : Int32)), .val (.int zv)] []))
      refine Gl.go (fun _ k => XS.iloadN X0.here hx rfl (hb hby d7_21) rfl  k) ?_
      show Gl _ _ _ _ (s₁.setTop (mkF m 22 #[.val (.ref av), .val (.int (0 : Int32)), .val (.int zv)] [(.int zv)]))
      refine leafI X0 hx hlk Bd.returns (hb hby d7_22) ?_ (by decide) (by decide)
      exact ⟨by rw [reV, if_pos h2, if_neg h12], N0, e0⟩
  · skip
    refine Gl.go (fun _ k => XS.icmpYes X0.here hx rfl (pc0 := 2) (pc' := 21) rfl (hb hby d7_2) rfl (flt h2).2.2.2 (by decide) (by decide) k) ?_
    show Gl _ _ _ _ (s₁.setTop (mkF m 21 #[.val (.ref av), .val (.int (0 : Int32)), .val (.int zv)] []))
    refine Gl.go (fun _ k => XS.iloadN X0.here hx rfl (hb hby d7_21) rfl  k) ?_
    show Gl _ _ _ _ (s₁.setTop (mkF m 22 #[.val (.ref av), .val (.int (0 : Int32)), .val (.int zv)] [(.int zv)]))
    refine leafI X0 hx hlk Bd.returns (hb hby d7_22) ?_ (by decide) (by decide)
    exact ⟨by rw [reV, if_neg h2], N0, e0⟩
def Q_wi (Z : State) (av : Addr) (kv : ClassId) (zv : Int32) (lv : List Int32) (fi ti : Int32) (h0 : Heap) (n0 : Nat) (v : Option Value) (h : Heap) (L : List Loc) : Prop := v = some (.int (wiV (gL lv) ti 4 fi)) ∧ Fr n0 L ∧ h = h0
set_option maxRecDepth 65536 in
set_option maxHeartbeats 40000000 in
theorem rm_wi (l : Launch) (Z : State) (a0 : Array Value) (hw : ∀ d ∈ tables_1, d.before a0 Z = true) (ws : List Jvm.Cond) (av : Addr) (kv : ClassId) (zv : Int32) (lv : List Int32) (fi ti : Int32) (h0 : Heap) (n0 : Nat) (Z0 : n0 ≤ h0.size) (Vv : Arv Z h0 av kv .byte zv (lv.map Value.int) (.int (0 : Int32))) (bv : 0 ≤ zv.toInt ∧ zv.toInt ≤ 4) (b1 : 0 ≤ fi.toInt) (b2 : ti.toInt ≤ zv.toInt) :
    MetFree l (⟨"com/example/aloud/aloud/PathPattern", "wildcardOrEnd", "([BII)I"⟩ : MethodName) (head1 (Jvm.Cond.code (⟨"com/example/aloud/aloud/PathPattern", "wildcardOrEnd", "([BII)I"⟩ : MethodName) prog_15_method_13_code 4 (some .int) :: ws) ({ frames := 0, cells := 0, slots := 0, locals := 0 } : Room)) (fun aa U => aa = #[(.ref av), (.int fi), (.int ti)] ∧ Z.Warmed39 U.vm ∧ U.heap = h0) (fun _ _ _ _ _ => True) (fun _ U o U' => ∃ v L, o = .returned v ∧ Q_wi Z av kv zv lv fi ti h0 n0 v U'.heap L ∧ FrameEnd U o U' L ({ frames := 0, cells := 0, slots := 0, locals := 0 } : Room).cells ({ frames := 0, cells := 0, slots := 0, locals := 0 } : Room).slots) := by
  refine MetFree.of_bodySF (plainFor_of_name pn_0) hisR ?_
  intro p e s m args below meth c s₁ Bd hml0 hP hK
  obtain ⟨rfl, hZ, hh⟩ := hP
  have hx := Bd.exec
  have hby := Bd.bytes
  have hml : c.maxLocals = 4 := hml0
  have hown : s.vm.findClass "com/example/aloud/aloud/PathPattern" = some m.cls := findClass_of_methodNamed Bd.named
  have hnm := (name_of_methodNamed Bd.named Bd.method).1
  have hlk : meth.locks = false := BodyLoose.notSynchronized Bd
  have X0 : Stand p l e ({ frames := 0, cells := 0, slots := 0, locals := 0 } : Room) s m #[(.ref av), (.int fi), (.int ti)] below meth c s₁ [] 0 0 := Stand.of_body Bd
  have e0 : s₁.heap = h0 := by rw [← hh, Bd.state]; rfl
  have N0 := Fr.nil n0
  have K0 : Keep h0 h0 [] := Keep.refl _ _
  show Gl p.tables e below (QQof s (Q_wi Z av kv zv lv fi ti h0 n0) 0 0) (s₁.setTop (entryFrame m #[(.ref av), (.int fi), (.int ti)] 4))
  refine Gl.go (fun t k => castTop (ef_wi m av fi ti) k) ?_
  show Gl _ _ _ _ (s₁.setTop (mkF m 0 #[.val (.ref av), .val (.int fi), .val (.int ti), .unset] []))
  refine Gl.go (fun _ k => XS.iloadN X0.here hx rfl (hb hby d15_0) rfl  k) ?_
  show Gl _ _ _ _ (s₁.setTop (mkF m 1 #[.val (.ref av), .val (.int fi), .val (.int ti), .unset] [(.int fi)]))
  refine Gl.go (fun _ k => XS.istoreN X0.here hx rfl (hb hby d15_1) rfl (l' := #[.val (.ref av), .val (.int fi), .val (.int ti), .val (.int fi)]) rfl k) ?_
  show Gl _ _ _ _ (s₁.setTop (mkF m 2 #[.val (.ref av), .val (.int fi), .val (.int ti), .val (.int fi)] []))
  have LP : ∀ (k : Nat) (i : Int32), ti.toInt ≤ i.toInt + ((k : Nat) : Int) → 0 ≤ i.toInt → wiV (gL lv) ti k i = wiV (gL lv) ti 4 fi → Gl p.tables e below (QQof s (Q_wi Z av kv zv lv fi ti h0 n0) 0 0) (s₁.setTop (mkF m 2 #[.val (.ref av), .val (.int fi), .val (.int ti), .val (.int i)] [])) := by
    intro k
    induction k with
    | zero =>
      intro i q1 q2 q3
      show Gl _ _ _ _ (s₁.setTop (mkF m 2 #[.val (.ref av), .val (.int fi), .val (.int ti), .val (.int i)] []))
      refine Gl.go (fun _ k => XS.iloadN X0.here hx rfl (hb hby d15_2) rfl  k) ?_
      show Gl _ _ _ _ (s₁.setTop (mkF m 3 #[.val (.ref av), .val (.int fi), .val (.int ti), .val (.int i)] [(.int i)]))
      refine Gl.go (fun _ k => XS.iloadN X0.here hx rfl (hb hby d15_3) rfl  k) ?_
      show Gl _ _ _ _ (s₁.setTop (mkF m 4 #[.val (.ref av), .val (.int fi), .val (.int ti), .val (.int i)] [(.int ti), (.int i)]))
      refine Gl.go (fun _ k => XS.icmpYes X0.here hx rfl (pc0 := 4) (pc' := 21) rfl (hb hby d15_4) rfl (flt (o_nlt q1)).2.1 (by decide) (by decide) k) ?_
      show Gl _ _ _ _ (s₁.setTop (mkF m 21 #[.val (.ref av), .val (.int fi), .val (.int ti), .val (.int i)] []))
      refine Gl.go (fun _ k => XS.iloadN X0.here hx rfl (hb hby d15_21) rfl  k) ?_
      show Gl _ _ _ _ (s₁.setTop (mkF m 22 #[.val (.ref av), .val (.int fi), .val (.int ti), .val (.int i)] [(.int i)]))
      refine leafI X0 hx hlk Bd.returns (hb hby d15_22) ?_ (by decide) (by decide)
      rw [wiZ (gL lv) ti i] at q3
      exact ⟨congrArg (fun q => some (Value.int q)) q3, N0, e0⟩
    | succ k ih =>
      intro i q1 q2 q3
      show Gl _ _ _ _ (s₁.setTop (mkF m 2 #[.val (.ref av), .val (.int fi), .val (.int ti), .val (.int i)] []))
      refine Gl.go (fun _ k => XS.iloadN X0.here hx rfl (hb hby d15_2) rfl  k) ?_
      show Gl _ _ _ _ (s₁.setTop (mkF m 3 #[.val (.ref av), .val (.int fi), .val (.int ti), .val (.int i)] [(.int i)]))
      refine Gl.go (fun _ k => XS.iloadN X0.here hx rfl (hb hby d15_3) rfl  k) ?_
      show Gl _ _ _ _ (s₁.setTop (mkF m 4 #[.val (.ref av), .val (.int fi), .val (.int ti), .val (.int i)] [(.int ti), (.int i)]))
      by_cases hA : i < ti
      · skip
        refine Gl.go (fun _ k => XS.icmpNo X0.here hx rfl (hb hby d15_4) rfl (tlt hA).2.1 k) ?_
        show Gl _ _ _ _ (s₁.setTop (mkF m 7 #[.val (.ref av), .val (.int fi), .val (.int ti), .val (.int i)] []))
        refine Gl.go (fun _ k => XS.aloadN X0.here hx rfl (hb hby d15_7) rfl rfl  k) ?_
        show Gl _ _ _ _ (s₁.setTop (mkF m 8 #[.val (.ref av), .val (.int fi), .val (.int ti), .val (.int i)] [(.ref av)]))
        refine Gl.go (fun _ k => XS.iloadN X0.here hx rfl (hb hby d15_8) rfl  k) ?_
        show Gl _ _ _ _ (s₁.setTop (mkF m 9 #[.val (.ref av), .val (.int fi), .val (.int ti), .val (.int i)] [(.int i), (.ref av)]))
        obtain ⟨cl1, Ar1, qA1, SA1, NA1, HA1, GA1⟩ := id Vv
        have hin1 := inb_of (j := i) SA1 (o_in q2 hA b2)
        have hat1 : cl1.slots[(i).toNatClampNeg]? = some (.int (gL lv i)) := HA1.at hin1 (own_gl lv i)
        refine Gl.go (fun _ k => X0.baloadBytes hx (j := i) (v := (.int (gL lv i))) (by rw [e0]; exact Ar1.1) (State.isArrayOf_alike hZ.alike Ar1.2.1) Ar1.2.2 hin1 hat1 (g := (mkF m 9 #[.val (.ref av), .val (.int fi), .val (.int ti), .val (.int i)] [(.int i), (.ref av)])) rfl rfl (hb hby d15_9) _ k) ?_
        show Gl _ _ _ _ (s₁.setTop (mkF m 10 #[.val (.ref av), .val (.int fi), .val (.int ti), .val (.int i)] [(.int (gL lv i))]))
        refine Gl.go (fun _ k => XS.bipush X0.here hx rfl (hb hby d15_10) k) ?_
        show Gl _ _ _ _ (s₁.setTop (mkF m 12 #[.val (.ref av), .val (.int fi), .val (.int ti), .val (.int i)] [(.int (42 : Int32)), (.int (gL lv i))]))
        by_cases hB : (gL lv i) = (42 : Int32)
        · skip
          refine Gl.go (fun _ k => XS.icmpYes X0.here hx rfl (pc0 := 12) (pc' := 21) rfl (hb hby d15_12) rfl (teq hB).1 (by decide) (by decide) k) ?_
          show Gl _ _ _ _ (s₁.setTop (mkF m 21 #[.val (.ref av), .val (.int fi), .val (.int ti), .val (.int i)] []))
          refine Gl.go (fun _ k => XS.iloadN X0.here hx rfl (hb hby d15_21) rfl  k) ?_
          show Gl _ _ _ _ (s₁.setTop (mkF m 22 #[.val (.ref av), .val (.int fi), .val (.int ti), .val (.int i)] [(.int i)]))
          refine leafI X0 hx hlk Bd.returns (hb hby d15_22) ?_ (by decide) (by decide)
          rw [wiS (gL lv) ti k i, if_pos hA, if_pos hB] at q3
          exact ⟨congrArg (fun q => some (Value.int q)) q3, N0, e0⟩
        · skip
          refine Gl.go (fun _ k => XS.icmpNo X0.here hx rfl (hb hby d15_12) rfl (feq hB).1 k) ?_
          show Gl _ _ _ _ (s₁.setTop (mkF m 15 #[.val (.ref av), .val (.int fi), .val (.int ti), .val (.int i)] []))
          refine Gl.go (fun _ k => XS.iinc X0.here hx rfl (hb hby d15_15) rfl (l' := #[.val (.ref av), .val (.int fi), .val (.int ti), .val (.int (i + (1 : Int32)))]) rfl k) ?_
          show Gl _ _ _ _ (s₁.setTop (mkF m 18 #[.val (.ref av), .val (.int fi), .val (.int ti), .val (.int (i + (1 : Int32)))] []))
          refine Gl.go (fun _ k => XS.goto X0.here hx rfl (pc0 := 18) (pc' := 2) rfl (hb hby d15_18) (by decide) (by decide) k) ?_
          show Gl _ _ _ _ (s₁.setTop (mkF m 2 #[.val (.ref av), .val (.int fi), .val (.int ti), .val (.int (i + (1 : Int32)))] []))
          rw [wiS (gL lv) ti k i, if_pos hA, if_neg hB] at q3
          exact ih (i + (1 : Int32)) (o_s1 q1 q2 hA b2 bv) (o_s2 q2 hA b2 bv) q3
      · skip
        refine Gl.go (fun _ k => XS.icmpYes X0.here hx rfl (pc0 := 4) (pc' := 21) rfl (hb hby d15_4) rfl (flt hA).2.1 (by decide) (by decide) k) ?_
        show Gl _ _ _ _ (s₁.setTop (mkF m 21 #[.val (.ref av), .val (.int fi), .val (.int ti), .val (.int i)] []))
        refine Gl.go (fun _ k => XS.iloadN X0.here hx rfl (hb hby d15_21) rfl  k) ?_
        show Gl _ _ _ _ (s₁.setTop (mkF m 22 #[.val (.ref av), .val (.int fi), .val (.int ti), .val (.int i)] [(.int i)]))
        refine leafI X0 hx hlk Bd.returns (hb hby d15_22) ?_ (by decide) (by decide)
        rw [wiS (gL lv) ti k i, if_neg hA] at q3
        exact ⟨congrArg (fun q => some (Value.int q)) q3, N0, e0⟩
  exact LP 4 fi (o_4 b1 b2 bv) b1 rfl
def Q_ls (Z : State) (av : Addr) (kv : ClassId) (zv : Int32) (lv : List Int32) (h0 : Heap) (n0 : Nat) (v : Option Value) (h : Heap) (L : List Loc) : Prop := v = some (.int (wiV (gL lv) (reV zv (gL lv)) 4 (0 : Int32))) ∧ Fr n0 L ∧ h = h0
set_option maxRecDepth 65536 in
set_option maxHeartbeats 40000000 in
theorem rm_ls (l : Launch) (Z : State) (a0 : Array Value) (hw : ∀ d ∈ tables_1, d.before a0 Z = true) (ws : List Jvm.Cond) (av : Addr) (kv : ClassId) (zv : Int32) (lv : List Int32) (h0 : Heap) (n0 : Nat) (Z0 : n0 ≤ h0.size) (Vv : Arv Z h0 av kv .byte zv (lv.map Value.int) (.int (0 : Int32))) (bv : 0 ≤ zv.toInt ∧ zv.toInt ≤ 4) :
    MetFree l (⟨"com/example/aloud/aloud/PathPattern", "literalStartLength", "([B)I"⟩ : MethodName) (head1 (Jvm.Cond.code (⟨"com/example/aloud/aloud/PathPattern", "literalStartLength", "([B)I"⟩ : MethodName) prog_15_method_5_code 3 (some .int) :: ws) ({ frames := 1, cells := 0, slots := 0, locals := 14 } : Room)) (fun aa U => aa = #[(.ref av)] ∧ Z.Warmed39 U.vm ∧ U.heap = h0) (fun _ _ _ _ _ => True) (fun _ U o U' => ∃ v L, o = .returned v ∧ Q_ls Z av kv zv lv h0 n0 v U'.heap L ∧ FrameEnd U o U' L ({ frames := 1, cells := 0, slots := 0, locals := 14 } : Room).cells ({ frames := 1, cells := 0, slots := 0, locals := 14 } : Room).slots) := by
  refine MetFree.of_bodySF (plainFor_of_name pn_0) hisR ?_
  intro p e s m args below meth c s₁ Bd hml0 hP hK
  obtain ⟨rfl, hZ, hh⟩ := hP
  have hx := Bd.exec
  have hby := Bd.bytes
  have hml : c.maxLocals = 3 := hml0
  have hown : s.vm.findClass "com/example/aloud/aloud/PathPattern" = some m.cls := findClass_of_methodNamed Bd.named
  have hnm := (name_of_methodNamed Bd.named Bd.method).1
  have hlk : meth.locks = false := BodyLoose.notSynchronized Bd
  have X0 : Stand p l e ({ frames := 1, cells := 0, slots := 0, locals := 14 } : Room) s m #[(.ref av)] below meth c s₁ [] 0 0 := Stand.of_body Bd
  have e0 : s₁.heap = h0 := by rw [← hh, Bd.state]; rfl
  have N0 := Fr.nil n0
  have K0 : Keep h0 h0 [] := Keep.refl _ _
  show Gl p.tables e below (QQof s (Q_ls Z av kv zv lv h0 n0) 0 0) (s₁.setTop (entryFrame m #[(.ref av)] 3))
  refine Gl.go (fun t k => castTop (ef_ls m av) k) ?_
  show Gl _ _ _ _ (s₁.setTop (mkF m 0 #[.val (.ref av), .unset, .unset] []))
  refine Gl.go (fun _ k => XS.aloadN X0.here hx rfl (hb hby d6_0) rfl rfl  k) ?_
  show Gl _ _ _ _ (s₁.setTop (mkF m 1 #[.val (.ref av), .unset, .unset] [(.ref av)]))
  refine Gl.go (fun _ k => XS.iconst X0.here hx rfl (hb hby d6_1) k) ?_
  show Gl _ _ _ _ (s₁.setTop (mkF m 2 #[.val (.ref av), .unset, .unset] [(.int (0 : Int32)), (.ref av)]))
  refine Gl.go (fun _ k => XS.aloadN X0.here hx rfl (hb hby d6_2) rfl rfl  k) ?_
  show Gl _ _ _ _ (s₁.setTop (mkF m 3 #[.val (.ref av), .unset, .unset] [(.ref av), (.int (0 : Int32)), (.ref av)]))
  obtain ⟨cl1, Ar1, qA1, SA1, NA1, HA1, GA1⟩ := id Vv
  refine Gl.go (fun _ k => X0.arraylength hx (by rw [e0]; exact Ar1.1) (State.isArrayOf_alike hZ.alike Ar1.2.1) (g := (mkF m 3 #[.val (.ref av), .unset, .unset] [(.ref av), (.int (0 : Int32)), (.ref av)])) rfl rfl (hb hby d6_3) _ k) ?_
  rw [len_of SA1 NA1]
  show Gl _ _ _ _ (s₁.setTop (mkF m 4 #[.val (.ref av), .unset, .unset] [(.int zv), (.int (0 : Int32)), (.ref av)]))
  obtain ⟨_, _, ⟨T2, L2, k2, n2⟩, -, X2, ⟨Lc2, hQ2, l2, y2, z2⟩, st2⟩ := Jvm.LawKit.callS X0 hx (y := (⟨"com/example/aloud/aloud/PathPattern", "runsEnd", "([BII)I"⟩ : MethodName)) hown (mvT hZ (hw _ (List.mem_of_getElem? (i := 21) rfl))) (mvT hZ (hw _ (List.mem_of_getElem? (i := 22) rfl))) (mvT hZ (hw _ (List.mem_of_getElem? (i := 13) rfl))) (mvT hZ (hw _ (List.mem_of_getElem? (i := 23) rfl))) (by decide) (backOf (W := 0) (rm_re l Z a0 hw [] av kv zv lv h0 n0 Z0 Vv bv) hZ (hw _ (List.mem_of_getElem? (i := 23) rfl)) (hw _ (List.mem_of_getElem? (i := 13) rfl)) (by decide) (by decide)) (g := (mkF m 4 #[.val (.ref av), .unset, .unset] [(.int zv), (.int (0 : Int32)), (.ref av)])) rfl (by rw [hml]; rfl) (argsL := [(.ref av), (.int (0 : Int32)), (.int zv)]) (rest := []) (lenOf pd_0 rfl) rfl (by show 2 * 0 + _ ≤ _; exact Nat.le_of_eq rfl) (hb hby d6_4) (fun _ _ => ⟨rfl, e0, (by decide : 0 + 0 ≤ _), (by decide : 0 + 0 ≤ _)⟩)
  dsimp only [Pt.U, Pt.locs, Pt.cells, Pt.slots] at X2 l2 y2 z2 st2 hQ2
  subst l2 y2 z2
  obtain ⟨rfl, Nq2, e2⟩ := hQ2
  have N2 := Fr.app N0 Nq2
  refine Gl.go (fun _ k => st2 _ k) ?_
  show Gl _ _ _ _ (T2.setTop (mkF m 7 #[.val (.ref av), .unset, .unset] [(.int (reV zv (gL lv)))]))
  refine Gl.go (fun _ k => XS.istoreN X2.here hx rfl (hb hby d6_7) rfl (l' := #[.val (.ref av), .val (.int (reV zv (gL lv))), .unset]) rfl k) ?_
  show Gl _ _ _ _ (T2.setTop (mkF m 8 #[.val (.ref av), .val (.int (reV zv (gL lv))), .unset] []))
  refine Gl.go (fun _ k => XS.iconst X2.here hx rfl (hb hby d6_8) k) ?_
  show Gl _ _ _ _ (T2.setTop (mkF m 9 #[.val (.ref av), .val (.int (reV zv (gL lv))), .unset] [(.int (0 : Int32))]))
  refine Gl.go (fun _ k => XS.istoreN X2.here hx rfl (hb hby d6_9) rfl (l' := #[.val (.ref av), .val (.int (reV zv (gL lv))), .val (.int (0 : Int32))]) rfl k) ?_
  show Gl _ _ _ _ (T2.setTop (mkF m 10 #[.val (.ref av), .val (.int (reV zv (gL lv))), .val (.int (0 : Int32))] []))
  have ben := own_re_b (g := gL lv) bv
  generalize h_en : (reV zv (gL lv)) = en at ben ⊢
  show Gl _ _ _ _ (T2.setTop (mkF m 10 #[.val (.ref av), .val (.int en), .val (.int (0 : Int32))] []))
  have LP : ∀ (k : Nat) (i : Int32), en.toInt ≤ i.toInt + ((k : Nat) : Int) → 0 ≤ i.toInt → wiV (gL lv) en k i = wiV (gL lv) (reV zv (gL lv)) 4 (0 : Int32) → Gl p.tables e below (QQof s (Q_ls Z av kv zv lv h0 n0) 0 0) (T2.setTop (mkF m 10 #[.val (.ref av), .val (.int en), .val (.int i)] [])) := by
    intro k
    induction k with
    | zero =>
      intro i q1 q2 q3
      show Gl _ _ _ _ (T2.setTop (mkF m 10 #[.val (.ref av), .val (.int en), .val (.int i)] []))
      refine Gl.go (fun _ k => XS.iloadN X2.here hx rfl (hb hby d6_10) rfl  k) ?_
      show Gl _ _ _ _ (T2.setTop (mkF m 11 #[.val (.ref av), .val (.int en), .val (.int i)] [(.int i)]))
      refine Gl.go (fun _ k => XS.iloadN X2.here hx rfl (hb hby d6_11) rfl  k) ?_
      show Gl _ _ _ _ (T2.setTop (mkF m 12 #[.val (.ref av), .val (.int en), .val (.int i)] [(.int en), (.int i)]))
      refine Gl.go (fun _ k => XS.icmpYes X2.here hx rfl (pc0 := 12) (pc' := 29) rfl (hb hby d6_12) rfl (flt (o_nlt q1)).2.1 (by decide) (by decide) k) ?_
      show Gl _ _ _ _ (T2.setTop (mkF m 29 #[.val (.ref av), .val (.int en), .val (.int i)] []))
      refine Gl.go (fun _ k => XS.iloadN X2.here hx rfl (hb hby d6_29) rfl  k) ?_
      show Gl _ _ _ _ (T2.setTop (mkF m 30 #[.val (.ref av), .val (.int en), .val (.int i)] [(.int i)]))
      refine leafI X2 hx hlk Bd.returns (hb hby d6_30) ?_ (by decide) (by decide)
      rw [wiZ (gL lv) en i] at q3
      exact ⟨congrArg (fun q => some (Value.int q)) q3, N2, e2⟩
    | succ k ih =>
      intro i q1 q2 q3
      show Gl _ _ _ _ (T2.setTop (mkF m 10 #[.val (.ref av), .val (.int en), .val (.int i)] []))
      refine Gl.go (fun _ k => XS.iloadN X2.here hx rfl (hb hby d6_10) rfl  k) ?_
      show Gl _ _ _ _ (T2.setTop (mkF m 11 #[.val (.ref av), .val (.int en), .val (.int i)] [(.int i)]))
      refine Gl.go (fun _ k => XS.iloadN X2.here hx rfl (hb hby d6_11) rfl  k) ?_
      show Gl _ _ _ _ (T2.setTop (mkF m 12 #[.val (.ref av), .val (.int en), .val (.int i)] [(.int en), (.int i)]))
      by_cases hA : i < en
      · skip
        refine Gl.go (fun _ k => XS.icmpNo X2.here hx rfl (hb hby d6_12) rfl (tlt hA).2.1 k) ?_
        show Gl _ _ _ _ (T2.setTop (mkF m 15 #[.val (.ref av), .val (.int en), .val (.int i)] []))
        refine Gl.go (fun _ k => XS.aloadN X2.here hx rfl (hb hby d6_15) rfl rfl  k) ?_
        show Gl _ _ _ _ (T2.setTop (mkF m 16 #[.val (.ref av), .val (.int en), .val (.int i)] [(.ref av)]))
        refine Gl.go (fun _ k => XS.iloadN X2.here hx rfl (hb hby d6_16) rfl  k) ?_
        show Gl _ _ _ _ (T2.setTop (mkF m 17 #[.val (.ref av), .val (.int en), .val (.int i)] [(.int i), (.ref av)]))
        obtain ⟨cl3, Ar3, qA3, SA3, NA3, HA3, GA3⟩ := id Vv
        have hin3 := inb_of (j := i) SA3 (o_in q2 hA ben.2)
        have hat3 : cl3.slots[(i).toNatClampNeg]? = some (.int (gL lv i)) := HA3.at hin3 (own_gl lv i)
        refine Gl.go (fun _ k => X2.baloadBytes hx (j := i) (v := (.int (gL lv i))) (by rw [e2]; exact Ar3.1) (State.isArrayOf_alike hZ.alike Ar3.2.1) Ar3.2.2 hin3 hat3 (g := (mkF m 17 #[.val (.ref av), .val (.int en), .val (.int i)] [(.int i), (.ref av)])) rfl rfl (hb hby d6_17) _ k) ?_
        show Gl _ _ _ _ (T2.setTop (mkF m 18 #[.val (.ref av), .val (.int en), .val (.int i)] [(.int (gL lv i))]))
        refine Gl.go (fun _ k => XS.bipush X2.here hx rfl (hb hby d6_18) k) ?_
        show Gl _ _ _ _ (T2.setTop (mkF m 20 #[.val (.ref av), .val (.int en), .val (.int i)] [(.int (42 : Int32)), (.int (gL lv i))]))
        by_cases hB : (gL lv i) = (42 : Int32)
        · skip
          refine Gl.go (fun _ k => XS.icmpYes X2.here hx rfl (pc0 := 20) (pc' := 29) rfl (hb hby d6_20) rfl (teq hB).1 (by decide) (by decide) k) ?_
          show Gl _ _ _ _ (T2.setTop (mkF m 29 #[.val (.ref av), .val (.int en), .val (.int i)] []))
          refine Gl.go (fun _ k => XS.iloadN X2.here hx rfl (hb hby d6_29) rfl  k) ?_
          show Gl _ _ _ _ (T2.setTop (mkF m 30 #[.val (.ref av), .val (.int en), .val (.int i)] [(.int i)]))
          refine leafI X2 hx hlk Bd.returns (hb hby d6_30) ?_ (by decide) (by decide)
          rw [wiS (gL lv) en k i, if_pos hA, if_pos hB] at q3
          exact ⟨congrArg (fun q => some (Value.int q)) q3, N2, e2⟩
        · skip
          refine Gl.go (fun _ k => XS.icmpNo X2.here hx rfl (hb hby d6_20) rfl (feq hB).1 k) ?_
          show Gl _ _ _ _ (T2.setTop (mkF m 23 #[.val (.ref av), .val (.int en), .val (.int i)] []))
          refine Gl.go (fun _ k => XS.iinc X2.here hx rfl (hb hby d6_23) rfl (l' := #[.val (.ref av), .val (.int en), .val (.int (i + (1 : Int32)))]) rfl k) ?_
          show Gl _ _ _ _ (T2.setTop (mkF m 26 #[.val (.ref av), .val (.int en), .val (.int (i + (1 : Int32)))] []))
          refine Gl.go (fun _ k => XS.goto X2.here hx rfl (pc0 := 26) (pc' := 10) rfl (hb hby d6_26) (by decide) (by decide) k) ?_
          show Gl _ _ _ _ (T2.setTop (mkF m 10 #[.val (.ref av), .val (.int en), .val (.int (i + (1 : Int32)))] []))
          rw [wiS (gL lv) en k i, if_pos hA, if_neg hB] at q3
          exact ih (i + (1 : Int32)) (o_s1 q1 q2 hA ben.2 bv) (o_s2 q2 hA ben.2 bv) q3
      · skip
        refine Gl.go (fun _ k => XS.icmpYes X2.here hx rfl (pc0 := 12) (pc' := 29) rfl (hb hby d6_12) rfl (flt hA).2.1 (by decide) (by decide) k) ?_
        show Gl _ _ _ _ (T2.setTop (mkF m 29 #[.val (.ref av), .val (.int en), .val (.int i)] []))
        refine Gl.go (fun _ k => XS.iloadN X2.here hx rfl (hb hby d6_29) rfl  k) ?_
        show Gl _ _ _ _ (T2.setTop (mkF m 30 #[.val (.ref av), .val (.int en), .val (.int i)] [(.int i)]))
        refine leafI X2 hx hlk Bd.returns (hb hby d6_30) ?_ (by decide) (by decide)
        rw [wiS (gL lv) en k i, if_neg hA] at q3
        exact ⟨congrArg (fun q => some (Value.int q)) q3, N2, e2⟩
  exact LP 4 (0 : Int32) (o_40 ben.2 bv) (by decide) (by rw [h_en])
def Q_ca (Z : State) (av : Addr) (kv : ClassId) (zv : Int32) (lv : List Int32) (sl : Int32) (h0 : Heap) (n0 : Nat) (v : Option Value) (h : Heap) (L : List Loc) : Prop := v = some (.int (chV (caV (gL lv) (reV zv (gL lv)) 4 sl (0 : Int32)))) ∧ Fr n0 L ∧ h = h0
set_option maxRecDepth 65536 in
set_option maxHeartbeats 40000000 in
theorem rm_ca (l : Launch) (Z : State) (a0 : Array Value) (hw : ∀ d ∈ tables_1, d.before a0 Z = true) (ws : List Jvm.Cond) (av : Addr) (kv : ClassId) (zv : Int32) (lv : List Int32) (sl : Int32) (h0 : Heap) (n0 : Nat) (Z0 : n0 ≤ h0.size) (Vv : Arv Z h0 av kv .byte zv (lv.map Value.int) (.int (0 : Int32))) (bv : 0 ≤ zv.toInt ∧ zv.toInt ≤ 4) (b1 : 0 ≤ sl.toInt) :
    MetFree l (⟨"com/example/aloud/aloud/PathPattern", "classesAfterWildcards", "([BI)C"⟩ : MethodName) (head1 (Jvm.Cond.code (⟨"com/example/aloud/aloud/PathPattern", "classesAfterWildcards", "([BI)C"⟩ : MethodName) prog_15_method_6_code 5 (some .char) :: ws) ({ frames := 1, cells := 0, slots := 0, locals := 14 } : Room)) (fun aa U => aa = #[(.ref av), (.int sl)] ∧ Z.Warmed39 U.vm ∧ U.heap = h0) (fun _ _ _ _ _ => True) (fun _ U o U' => ∃ v L, o = .returned v ∧ Q_ca Z av kv zv lv sl h0 n0 v U'.heap L ∧ FrameEnd U o U' L ({ frames := 1, cells := 0, slots := 0, locals := 14 } : Room).cells ({ frames := 1, cells := 0, slots := 0, locals := 14 } : Room).slots) := by
  refine MetFree.of_bodySF (plainFor_of_name pn_0) hisR ?_
  intro p e s m args below meth c s₁ Bd hml0 hP hK
  obtain ⟨rfl, hZ, hh⟩ := hP
  have hx := Bd.exec
  have hby := Bd.bytes
  have hml : c.maxLocals = 5 := hml0
  have hown : s.vm.findClass "com/example/aloud/aloud/PathPattern" = some m.cls := findClass_of_methodNamed Bd.named
  have hnm := (name_of_methodNamed Bd.named Bd.method).1
  have hlk : meth.locks = false := BodyLoose.notSynchronized Bd
  have X0 : Stand p l e ({ frames := 1, cells := 0, slots := 0, locals := 14 } : Room) s m #[(.ref av), (.int sl)] below meth c s₁ [] 0 0 := Stand.of_body Bd
  have e0 : s₁.heap = h0 := by rw [← hh, Bd.state]; rfl
  have N0 := Fr.nil n0
  have K0 : Keep h0 h0 [] := Keep.refl _ _
  show Gl p.tables e below (QQof s (Q_ca Z av kv zv lv sl h0 n0) 0 0) (s₁.setTop (entryFrame m #[(.ref av), (.int sl)] 5))
  refine Gl.go (fun t k => castTop (ef_ca m av sl) k) ?_
  show Gl _ _ _ _ (s₁.setTop (mkF m 0 #[.val (.ref av), .val (.int sl), .unset, .unset, .unset] []))
  refine Gl.go (fun _ k => XS.aloadN X0.here hx rfl (hb hby d8_0) rfl rfl  k) ?_
  show Gl _ _ _ _ (s₁.setTop (mkF m 1 #[.val (.ref av), .val (.int sl), .unset, .unset, .unset] [(.ref av)]))
  refine Gl.go (fun _ k => XS.iconst X0.here hx rfl (hb hby d8_1) k) ?_
  show Gl _ _ _ _ (s₁.setTop (mkF m 2 #[.val (.ref av), .val (.int sl), .unset, .unset, .unset] [(.int (0 : Int32)), (.ref av)]))
  refine Gl.go (fun _ k => XS.aloadN X0.here hx rfl (hb hby d8_2) rfl rfl  k) ?_
  show Gl _ _ _ _ (s₁.setTop (mkF m 3 #[.val (.ref av), .val (.int sl), .unset, .unset, .unset] [(.ref av), (.int (0 : Int32)), (.ref av)]))
  obtain ⟨cl1, Ar1, qA1, SA1, NA1, HA1, GA1⟩ := id Vv
  refine Gl.go (fun _ k => X0.arraylength hx (by rw [e0]; exact Ar1.1) (State.isArrayOf_alike hZ.alike Ar1.2.1) (g := (mkF m 3 #[.val (.ref av), .val (.int sl), .unset, .unset, .unset] [(.ref av), (.int (0 : Int32)), (.ref av)])) rfl rfl (hb hby d8_3) _ k) ?_
  rw [len_of SA1 NA1]
  show Gl _ _ _ _ (s₁.setTop (mkF m 4 #[.val (.ref av), .val (.int sl), .unset, .unset, .unset] [(.int zv), (.int (0 : Int32)), (.ref av)]))
  obtain ⟨_, _, ⟨T2, L2, k2, n2⟩, -, X2, ⟨Lc2, hQ2, l2, y2, z2⟩, st2⟩ := Jvm.LawKit.callS X0 hx (y := (⟨"com/example/aloud/aloud/PathPattern", "runsEnd", "([BII)I"⟩ : MethodName)) hown (mvT hZ (hw _ (List.mem_of_getElem? (i := 21) rfl))) (mvT hZ (hw _ (List.mem_of_getElem? (i := 22) rfl))) (mvT hZ (hw _ (List.mem_of_getElem? (i := 13) rfl))) (mvT hZ (hw _ (List.mem_of_getElem? (i := 23) rfl))) (by decide) (backOf (W := 0) (rm_re l Z a0 hw [] av kv zv lv h0 n0 Z0 Vv bv) hZ (hw _ (List.mem_of_getElem? (i := 23) rfl)) (hw _ (List.mem_of_getElem? (i := 13) rfl)) (by decide) (by decide)) (g := (mkF m 4 #[.val (.ref av), .val (.int sl), .unset, .unset, .unset] [(.int zv), (.int (0 : Int32)), (.ref av)])) rfl (by rw [hml]; rfl) (argsL := [(.ref av), (.int (0 : Int32)), (.int zv)]) (rest := []) (lenOf pd_0 rfl) rfl (by show 2 * 0 + _ ≤ _; exact Nat.le_of_eq rfl) (hb hby d8_4) (fun _ _ => ⟨rfl, e0, (by decide : 0 + 0 ≤ _), (by decide : 0 + 0 ≤ _)⟩)
  dsimp only [Pt.U, Pt.locs, Pt.cells, Pt.slots] at X2 l2 y2 z2 st2 hQ2
  subst l2 y2 z2
  obtain ⟨rfl, Nq2, e2⟩ := hQ2
  have N2 := Fr.app N0 Nq2
  refine Gl.go (fun _ k => st2 _ k) ?_
  show Gl _ _ _ _ (T2.setTop (mkF m 7 #[.val (.ref av), .val (.int sl), .unset, .unset, .unset] [(.int (reV zv (gL lv)))]))
  refine Gl.go (fun _ k => XS.istoreN X2.here hx rfl (hb hby d8_7) rfl (l' := #[.val (.ref av), .val (.int sl), .val (.int (reV zv (gL lv))), .unset, .unset]) rfl k) ?_
  show Gl _ _ _ _ (T2.setTop (mkF m 8 #[.val (.ref av), .val (.int sl), .val (.int (reV zv (gL lv))), .unset, .unset] []))
  refine Gl.go (fun _ k => XS.iconst X2.here hx rfl (hb hby d8_8) k) ?_
  show Gl _ _ _ _ (T2.setTop (mkF m 9 #[.val (.ref av), .val (.int sl), .val (.int (reV zv (gL lv))), .unset, .unset] [(.int (0 : Int32))]))
  refine Gl.go (fun _ k => XS.istoreN X2.here hx rfl (hb hby d8_9) rfl (l' := #[.val (.ref av), .val (.int sl), .val (.int (reV zv (gL lv))), .val (.int (0 : Int32)), .unset]) rfl k) ?_
  show Gl _ _ _ _ (T2.setTop (mkF m 10 #[.val (.ref av), .val (.int sl), .val (.int (reV zv (gL lv))), .val (.int (0 : Int32)), .unset] []))
  refine Gl.go (fun _ k => XS.iloadN X2.here hx rfl (hb hby d8_10) rfl  k) ?_
  show Gl _ _ _ _ (T2.setTop (mkF m 11 #[.val (.ref av), .val (.int sl), .val (.int (reV zv (gL lv))), .val (.int (0 : Int32)), .unset] [(.int sl)]))
  refine Gl.go (fun _ k => XS.istore X2.here hx rfl (hb hby d8_11) rfl (l' := #[.val (.ref av), .val (.int sl), .val (.int (reV zv (gL lv))), .val (.int (0 : Int32)), .val (.int sl)]) rfl k) ?_
  show Gl _ _ _ _ (T2.setTop (mkF m 13 #[.val (.ref av), .val (.int sl), .val (.int (reV zv (gL lv))), .val (.int (0 : Int32)), .val (.int sl)] []))
  have ben := own_re_b (g := gL lv) bv
  generalize h_en : (reV zv (gL lv)) = en at ben ⊢
  show Gl _ _ _ _ (T2.setTop (mkF m 13 #[.val (.ref av), .val (.int sl), .val (.int en), .val (.int (0 : Int32)), .val (.int sl)] []))
  have LP : ∀ (k : Nat) (i cc : Int32), en.toInt ≤ i.toInt + ((k : Nat) : Int) → 0 ≤ i.toInt → chV (caV (gL lv) en k i cc) = chV (caV (gL lv) (reV zv (gL lv)) 4 sl (0 : Int32)) → Gl p.tables e below (QQof s (Q_ca Z av kv zv lv sl h0 n0) 0 0) (T2.setTop (mkF m 13 #[.val (.ref av), .val (.int sl), .val (.int en), .val (.int cc), .val (.int i)] [])) := by
    intro k
    induction k with
    | zero =>
      intro i cc q1 q2 q3
      show Gl _ _ _ _ (T2.setTop (mkF m 13 #[.val (.ref av), .val (.int sl), .val (.int en), .val (.int cc), .val (.int i)] []))
      refine Gl.go (fun _ k => XS.iload X2.here hx rfl (hb hby d8_13) rfl  k) ?_
      show Gl _ _ _ _ (T2.setTop (mkF m 15 #[.val (.ref av), .val (.int sl), .val (.int en), .val (.int cc), .val (.int i)] [(.int i)]))
      refine Gl.go (fun _ k => XS.iloadN X2.here hx rfl (hb hby d8_15) rfl  k) ?_
      show Gl _ _ _ _ (T2.setTop (mkF m 16 #[.val (.ref av), .val (.int sl), .val (.int en), .val (.int cc), .val (.int i)] [(.int en), (.int i)]))
      refine Gl.go (fun _ k => XS.icmpYes X2.here hx rfl (pc0 := 16) (pc' := 46) rfl (hb hby d8_16) rfl (flt (o_nlt q1)).2.1 (by decide) (by decide) k) ?_
      show Gl _ _ _ _ (T2.setTop (mkF m 46 #[.val (.ref av), .val (.int sl), .val (.int en), .val (.int cc), .val (.int i)] []))
      refine Gl.go (fun _ k => XS.iloadN X2.here hx rfl (hb hby d8_46) rfl  k) ?_
      show Gl _ _ _ _ (T2.setTop (mkF m 47 #[.val (.ref av), .val (.int sl), .val (.int en), .val (.int cc), .val (.int i)] [(.int cc)]))
      refine Gl.go (fun _ k => XS.i2c X2.here hx rfl (hb hby d8_47) rfl k) ?_
      show Gl _ _ _ _ (T2.setTop (mkF m 48 #[.val (.ref av), .val (.int sl), .val (.int en), .val (.int cc), .val (.int i)] [(.int (cc.toUInt32.toUInt16.toUInt32.toInt32))]))
      refine leafN X2 hx hlk (t := .char) Bd.returns (by simp) (hb hby d8_48) ?_ (by decide) (by decide)
      rw [caZ (gL lv) en i cc] at q3
      exact ⟨congrArg (fun q => some (Value.int q)) q3, N2, e2⟩
    | succ k ih =>
      intro i cc q1 q2 q3
      show Gl _ _ _ _ (T2.setTop (mkF m 13 #[.val (.ref av), .val (.int sl), .val (.int en), .val (.int cc), .val (.int i)] []))
      refine Gl.go (fun _ k => XS.iload X2.here hx rfl (hb hby d8_13) rfl  k) ?_
      show Gl _ _ _ _ (T2.setTop (mkF m 15 #[.val (.ref av), .val (.int sl), .val (.int en), .val (.int cc), .val (.int i)] [(.int i)]))
      refine Gl.go (fun _ k => XS.iloadN X2.here hx rfl (hb hby d8_15) rfl  k) ?_
      show Gl _ _ _ _ (T2.setTop (mkF m 16 #[.val (.ref av), .val (.int sl), .val (.int en), .val (.int cc), .val (.int i)] [(.int en), (.int i)]))
      by_cases hA : i < en
      · skip
        refine Gl.go (fun _ k => XS.icmpNo X2.here hx rfl (hb hby d8_16) rfl (tlt hA).2.1 k) ?_
        show Gl _ _ _ _ (T2.setTop (mkF m 19 #[.val (.ref av), .val (.int sl), .val (.int en), .val (.int cc), .val (.int i)] []))
        refine Gl.go (fun _ k => XS.aloadN X2.here hx rfl (hb hby d8_19) rfl rfl  k) ?_
        show Gl _ _ _ _ (T2.setTop (mkF m 20 #[.val (.ref av), .val (.int sl), .val (.int en), .val (.int cc), .val (.int i)] [(.ref av)]))
        refine Gl.go (fun _ k => XS.iload X2.here hx rfl (hb hby d8_20) rfl  k) ?_
        show Gl _ _ _ _ (T2.setTop (mkF m 22 #[.val (.ref av), .val (.int sl), .val (.int en), .val (.int cc), .val (.int i)] [(.int i), (.ref av)]))
        obtain ⟨cl3, Ar3, qA3, SA3, NA3, HA3, GA3⟩ := id Vv
        have hin3 := inb_of (j := i) SA3 (o_in q2 hA ben.2)
        have hat3 : cl3.slots[(i).toNatClampNeg]? = some (.int (gL lv i)) := HA3.at hin3 (own_gl lv i)
        refine Gl.go (fun _ k => X2.baloadBytes hx (j := i) (v := (.int (gL lv i))) (by rw [e2]; exact Ar3.1) (State.isArrayOf_alike hZ.alike Ar3.2.1) Ar3.2.2 hin3 hat3 (g := (mkF m 22 #[.val (.ref av), .val (.int sl), .val (.int en), .val (.int cc), .val (.int i)] [(.int i), (.ref av)])) rfl rfl (hb hby d8_22) _ k) ?_
        show Gl _ _ _ _ (T2.setTop (mkF m 23 #[.val (.ref av), .val (.int sl), .val (.int en), .val (.int cc), .val (.int i)] [(.int (gL lv i))]))
        refine Gl.go (fun _ k => XS.bipush X2.here hx rfl (hb hby d8_23) k) ?_
        show Gl _ _ _ _ (T2.setTop (mkF m 25 #[.val (.ref av), .val (.int sl), .val (.int en), .val (.int cc), .val (.int i)] [(.int (42 : Int32)), (.int (gL lv i))]))
        by_cases hB : (gL lv i) = (42 : Int32)
        · skip
          refine Gl.go (fun _ k => XS.icmpYes X2.here hx rfl (pc0 := 25) (pc' := 40) rfl (hb hby d8_25) rfl (teq hB).1 (by decide) (by decide) k) ?_
          show Gl _ _ _ _ (T2.setTop (mkF m 40 #[.val (.ref av), .val (.int sl), .val (.int en), .val (.int cc), .val (.int i)] []))
          refine Gl.go (fun _ k => XS.iinc X2.here hx rfl (hb hby d8_40) rfl (l' := #[.val (.ref av), .val (.int sl), .val (.int en), .val (.int cc), .val (.int (i + (1 : Int32)))]) rfl k) ?_
          show Gl _ _ _ _ (T2.setTop (mkF m 43 #[.val (.ref av), .val (.int sl), .val (.int en), .val (.int cc), .val (.int (i + (1 : Int32)))] []))
          refine Gl.go (fun _ k => XS.goto X2.here hx rfl (pc0 := 43) (pc' := 13) rfl (hb hby d8_43) (by decide) (by decide) k) ?_
          show Gl _ _ _ _ (T2.setTop (mkF m 13 #[.val (.ref av), .val (.int sl), .val (.int en), .val (.int cc), .val (.int (i + (1 : Int32)))] []))
          rw [caS (gL lv) en k i cc, if_pos hA, if_pos hB] at q3
          exact ih (i + (1 : Int32)) cc (o_s1 q1 q2 hA ben.2 bv) (o_s2 q2 hA ben.2 bv) q3
        · skip
          refine Gl.go (fun _ k => XS.icmpNo X2.here hx rfl (hb hby d8_25) rfl (feq hB).1 k) ?_
          show Gl _ _ _ _ (T2.setTop (mkF m 28 #[.val (.ref av), .val (.int sl), .val (.int en), .val (.int cc), .val (.int i)] []))
          refine Gl.go (fun _ k => XS.iloadN X2.here hx rfl (hb hby d8_28) rfl  k) ?_
          show Gl _ _ _ _ (T2.setTop (mkF m 29 #[.val (.ref av), .val (.int sl), .val (.int en), .val (.int cc), .val (.int i)] [(.int cc)]))
          refine Gl.go (fun _ k => XS.iconst X2.here hx rfl (hb hby d8_29) k) ?_
          show Gl _ _ _ _ (T2.setTop (mkF m 30 #[.val (.ref av), .val (.int sl), .val (.int en), .val (.int cc), .val (.int i)] [(.int (1 : Int32)), (.int cc)]))
          refine Gl.go (fun _ k => XS.aloadN X2.here hx rfl (hb hby d8_30) rfl rfl  k) ?_
          show Gl _ _ _ _ (T2.setTop (mkF m 31 #[.val (.ref av), .val (.int sl), .val (.int en), .val (.int cc), .val (.int i)] [(.ref av), (.int (1 : Int32)), (.int cc)]))
          refine Gl.go (fun _ k => XS.iload X2.here hx rfl (hb hby d8_31) rfl  k) ?_
          show Gl _ _ _ _ (T2.setTop (mkF m 33 #[.val (.ref av), .val (.int sl), .val (.int en), .val (.int cc), .val (.int i)] [(.int i), (.ref av), (.int (1 : Int32)), (.int cc)]))
          obtain ⟨cl4, Ar4, qA4, SA4, NA4, HA4, GA4⟩ := id Vv
          have hin4 := inb_of (j := i) SA4 (o_in q2 hA ben.2)
          have hat4 : cl4.slots[(i).toNatClampNeg]? = some (.int (gL lv i)) := HA4.at hin4 (own_gl lv i)
          refine Gl.go (fun _ k => X2.baloadBytes hx (j := i) (v := (.int (gL lv i))) (by rw [e2]; exact Ar4.1) (State.isArrayOf_alike hZ.alike Ar4.2.1) Ar4.2.2 hin4 hat4 (g := (mkF m 33 #[.val (.ref av), .val (.int sl), .val (.int en), .val (.int cc), .val (.int i)] [(.int i), (.ref av), (.int (1 : Int32)), (.int cc)])) rfl rfl (hb hby d8_33) _ k) ?_
          show Gl _ _ _ _ (T2.setTop (mkF m 34 #[.val (.ref av), .val (.int sl), .val (.int en), .val (.int cc), .val (.int i)] [(.int (gL lv i)), (.int (1 : Int32)), (.int cc)]))
          refine Gl.go (fun _ k => XS.bipush X2.here hx rfl (hb hby d8_34) k) ?_
          show Gl _ _ _ _ (T2.setTop (mkF m 36 #[.val (.ref av), .val (.int sl), .val (.int en), .val (.int cc), .val (.int i)] [(.int (15 : Int32)), (.int (gL lv i)), (.int (1 : Int32)), (.int cc)]))
          refine Gl.go (fun _ k => XS.iand X2.here hx rfl (hb hby d8_36) rfl k) ?_
          show Gl _ _ _ _ (T2.setTop (mkF m 37 #[.val (.ref av), .val (.int sl), .val (.int en), .val (.int cc), .val (.int i)] [(.int ((gL lv i) &&& (15 : Int32))), (.int (1 : Int32)), (.int cc)]))
          refine Gl.go (fun _ k => XS.ishl X2.here hx rfl (hb hby d8_37) rfl k) ?_
          show Gl _ _ _ _ (T2.setTop (mkF m 38 #[.val (.ref av), .val (.int sl), .val (.int en), .val (.int cc), .val (.int i)] [(.int ((1 : Int32) <<< (((gL lv i) &&& (15 : Int32)) &&& 31))), (.int cc)]))
          refine Gl.go (fun _ k => XS.ior X2.here hx rfl (hb hby d8_38) rfl k) ?_
          show Gl _ _ _ _ (T2.setTop (mkF m 39 #[.val (.ref av), .val (.int sl), .val (.int en), .val (.int cc), .val (.int i)] [(.int (cc ||| ((1 : Int32) <<< (((gL lv i) &&& (15 : Int32)) &&& 31))))]))
          refine Gl.go (fun _ k => XS.istoreN X2.here hx rfl (hb hby d8_39) rfl (l' := #[.val (.ref av), .val (.int sl), .val (.int en), .val (.int (cc ||| ((1 : Int32) <<< (((gL lv i) &&& (15 : Int32)) &&& 31)))), .val (.int i)]) rfl k) ?_
          show Gl _ _ _ _ (T2.setTop (mkF m 40 #[.val (.ref av), .val (.int sl), .val (.int en), .val (.int (cc ||| ((1 : Int32) <<< (((gL lv i) &&& (15 : Int32)) &&& 31)))), .val (.int i)] []))
          refine Gl.go (fun _ k => XS.iinc X2.here hx rfl (hb hby d8_40) rfl (l' := #[.val (.ref av), .val (.int sl), .val (.int en), .val (.int (cc ||| ((1 : Int32) <<< (((gL lv i) &&& (15 : Int32)) &&& 31)))), .val (.int (i + (1 : Int32)))]) rfl k) ?_
          show Gl _ _ _ _ (T2.setTop (mkF m 43 #[.val (.ref av), .val (.int sl), .val (.int en), .val (.int (cc ||| ((1 : Int32) <<< (((gL lv i) &&& (15 : Int32)) &&& 31)))), .val (.int (i + (1 : Int32)))] []))
          refine Gl.go (fun _ k => XS.goto X2.here hx rfl (pc0 := 43) (pc' := 13) rfl (hb hby d8_43) (by decide) (by decide) k) ?_
          show Gl _ _ _ _ (T2.setTop (mkF m 13 #[.val (.ref av), .val (.int sl), .val (.int en), .val (.int (cc ||| ((1 : Int32) <<< (((gL lv i) &&& (15 : Int32)) &&& 31)))), .val (.int (i + (1 : Int32)))] []))
          show Gl _ _ _ _ (T2.setTop (mkF m 13 #[.val (.ref av), .val (.int sl), .val (.int en), .val (.int (orB cc (gL lv i))), .val (.int (i + (1 : Int32)))] []))
          rw [caS (gL lv) en k i cc, if_pos hA, if_neg hB] at q3
          exact ih (i + (1 : Int32)) (orB cc (gL lv i)) (o_s1 q1 q2 hA ben.2 bv) (o_s2 q2 hA ben.2 bv) q3
      · skip
        refine Gl.go (fun _ k => XS.icmpYes X2.here hx rfl (pc0 := 16) (pc' := 46) rfl (hb hby d8_16) rfl (flt hA).2.1 (by decide) (by decide) k) ?_
        show Gl _ _ _ _ (T2.setTop (mkF m 46 #[.val (.ref av), .val (.int sl), .val (.int en), .val (.int cc), .val (.int i)] []))
        refine Gl.go (fun _ k => XS.iloadN X2.here hx rfl (hb hby d8_46) rfl  k) ?_
        show Gl _ _ _ _ (T2.setTop (mkF m 47 #[.val (.ref av), .val (.int sl), .val (.int en), .val (.int cc), .val (.int i)] [(.int cc)]))
        refine Gl.go (fun _ k => XS.i2c X2.here hx rfl (hb hby d8_47) rfl k) ?_
        show Gl _ _ _ _ (T2.setTop (mkF m 48 #[.val (.ref av), .val (.int sl), .val (.int en), .val (.int cc), .val (.int i)] [(.int (cc.toUInt32.toUInt16.toUInt32.toInt32))]))
        refine leafN X2 hx hlk (t := .char) Bd.returns (by simp) (hb hby d8_48) ?_ (by decide) (by decide)
        rw [caS (gL lv) en k i cc, if_neg hA] at q3
        exact ⟨congrArg (fun q => some (Value.int q)) q3, N2, e2⟩
  exact LP 4 sl (0 : Int32) (o_4 b1 ben.2 bv) b1 (by rw [h_en])
def Q_bc (Z : State) (av : Addr) (kv : ClassId) (zv : Int32) (lv : List Int32) (h0 : Heap) (n0 : Nat) (v : Option Value) (h : Heap) (L : List Loc) : Prop := v = some (.int (chV (bcV (gL lv) zv 4 (0 : Int32) (0 : Int32)))) ∧ Fr n0 L ∧ h = h0
set_option maxRecDepth 65536 in
set_option maxHeartbeats 40000000 in
theorem rm_bc (l : Launch) (Z : State) (a0 : Array Value) (hw : ∀ d ∈ tables_1, d.before a0 Z = true) (ws : List Jvm.Cond) (av : Addr) (kv : ClassId) (zv : Int32) (lv : List Int32) (h0 : Heap) (n0 : Nat) (Z0 : n0 ≤ h0.size) (Vv : Arv Z h0 av kv .byte zv (lv.map Value.int) (.int (0 : Int32))) (bv : 0 ≤ zv.toInt ∧ zv.toInt ≤ 4) :
    MetFree l (⟨"com/example/aloud/aloud/PathPattern", "byteClasses", "([B)C"⟩ : MethodName) (head1 (Jvm.Cond.code (⟨"com/example/aloud/aloud/PathPattern", "byteClasses", "([B)C"⟩ : MethodName) prog_15_method_9_code 6 (some .char) :: ws) ({ frames := 0, cells := 0, slots := 0, locals := 0 } : Room)) (fun aa U => aa = #[(.ref av)] ∧ Z.Warmed39 U.vm ∧ U.heap = h0) (fun _ _ _ _ _ => True) (fun _ U o U' => ∃ v L, o = .returned v ∧ Q_bc Z av kv zv lv h0 n0 v U'.heap L ∧ FrameEnd U o U' L ({ frames := 0, cells := 0, slots := 0, locals := 0 } : Room).cells ({ frames := 0, cells := 0, slots := 0, locals := 0 } : Room).slots) := by
  refine MetFree.of_bodySF (plainFor_of_name pn_0) hisR ?_
  intro p e s m args below meth c s₁ Bd hml0 hP hK
  obtain ⟨rfl, hZ, hh⟩ := hP
  have hx := Bd.exec
  have hby := Bd.bytes
  have hml : c.maxLocals = 6 := hml0
  have hown : s.vm.findClass "com/example/aloud/aloud/PathPattern" = some m.cls := findClass_of_methodNamed Bd.named
  have hnm := (name_of_methodNamed Bd.named Bd.method).1
  have hlk : meth.locks = false := BodyLoose.notSynchronized Bd
  have X0 : Stand p l e ({ frames := 0, cells := 0, slots := 0, locals := 0 } : Room) s m #[(.ref av)] below meth c s₁ [] 0 0 := Stand.of_body Bd
  have e0 : s₁.heap = h0 := by rw [← hh, Bd.state]; rfl
  have N0 := Fr.nil n0
  have K0 : Keep h0 h0 [] := Keep.refl _ _
  show Gl p.tables e below (QQof s (Q_bc Z av kv zv lv h0 n0) 0 0) (s₁.setTop (entryFrame m #[(.ref av)] 6))
  refine Gl.go (fun t k => castTop (ef_bc m av) k) ?_
  show Gl _ _ _ _ (s₁.setTop (mkF m 0 #[.val (.ref av), .unset, .unset, .unset, .unset, .unset] []))
  refine Gl.go (fun _ k => XS.iconst X0.here hx rfl (hb hby d13_0) k) ?_
  show Gl _ _ _ _ (s₁.setTop (mkF m 1 #[.val (.ref av), .unset, .unset, .unset, .unset, .unset] [(.int (0 : Int32))]))
  refine Gl.go (fun _ k => XS.istoreN X0.here hx rfl (hb hby d13_1) rfl (l' := #[.val (.ref av), .val (.int (0 : Int32)), .unset, .unset, .unset, .unset]) rfl k) ?_
  show Gl _ _ _ _ (s₁.setTop (mkF m 2 #[.val (.ref av), .val (.int (0 : Int32)), .unset, .unset, .unset, .unset] []))
  refine Gl.go (fun _ k => XS.aloadN X0.here hx rfl (hb hby d13_2) rfl rfl  k) ?_
  show Gl _ _ _ _ (s₁.setTop (mkF m 3 #[.val (.ref av), .val (.int (0 : Int32)), .unset, .unset, .unset, .unset] [(.ref av)]))
  refine Gl.go (fun _ k => XS.astoreN X0.here hx rfl (hb hby d13_3) rfl rfl (l' := #[.val (.ref av), .val (.int (0 : Int32)), .val (.ref av), .unset, .unset, .unset]) rfl k) ?_
  show Gl _ _ _ _ (s₁.setTop (mkF m 4 #[.val (.ref av), .val (.int (0 : Int32)), .val (.ref av), .unset, .unset, .unset] []))
  refine Gl.go (fun _ k => XS.aloadN X0.here hx rfl (hb hby d13_4) rfl rfl  k) ?_
  show Gl _ _ _ _ (s₁.setTop (mkF m 5 #[.val (.ref av), .val (.int (0 : Int32)), .val (.ref av), .unset, .unset, .unset] [(.ref av)]))
  obtain ⟨cl1, Ar1, qA1, SA1, NA1, HA1, GA1⟩ := id Vv
  refine Gl.go (fun _ k => X0.arraylength hx (by rw [e0]; exact Ar1.1) (State.isArrayOf_alike hZ.alike Ar1.2.1) (g := (mkF m 5 #[.val (.ref av), .val (.int (0 : Int32)), .val (.ref av), .unset, .unset, .unset] [(.ref av)])) rfl rfl (hb hby d13_5) _ k) ?_
  rw [len_of SA1 NA1]
  show Gl _ _ _ _ (s₁.setTop (mkF m 6 #[.val (.ref av), .val (.int (0 : Int32)), .val (.ref av), .unset, .unset, .unset] [(.int zv)]))
  refine Gl.go (fun _ k => XS.istoreN X0.here hx rfl (hb hby d13_6) rfl (l' := #[.val (.ref av), .val (.int (0 : Int32)), .val (.ref av), .val (.int zv), .unset, .unset]) rfl k) ?_
  show Gl _ _ _ _ (s₁.setTop (mkF m 7 #[.val (.ref av), .val (.int (0 : Int32)), .val (.ref av), .val (.int zv), .unset, .unset] []))
  refine Gl.go (fun _ k => XS.iconst X0.here hx rfl (hb hby d13_7) k) ?_
  show Gl _ _ _ _ (s₁.setTop (mkF m 8 #[.val (.ref av), .val (.int (0 : Int32)), .val (.ref av), .val (.int zv), .unset, .unset] [(.int (0 : Int32))]))
  refine Gl.go (fun _ k => XS.istore X0.here hx rfl (hb hby d13_8) rfl (l' := #[.val (.ref av), .val (.int (0 : Int32)), .val (.ref av), .val (.int zv), .val (.int (0 : Int32)), .unset]) rfl k) ?_
  show Gl _ _ _ _ (s₁.setTop (mkF m 10 #[.val (.ref av), .val (.int (0 : Int32)), .val (.ref av), .val (.int zv), .val (.int (0 : Int32)), .unset] []))
  have LP : ∀ (k : Nat) (i cc : Int32) (u : Slot), zv.toInt ≤ i.toInt + ((k : Nat) : Int) → 0 ≤ i.toInt → chV (bcV (gL lv) zv k i cc) = chV (bcV (gL lv) zv 4 (0 : Int32) (0 : Int32)) → One u → Gl p.tables e below (QQof s (Q_bc Z av kv zv lv h0 n0) 0 0) (s₁.setTop (mkF m 10 #[.val (.ref av), .val (.int cc), .val (.ref av), .val (.int zv), .val (.int i), u] [])) := by
    intro k
    induction k with
    | zero =>
      intro i cc u q1 q2 q3 hu
      show Gl _ _ _ _ (s₁.setTop (mkF m 10 #[.val (.ref av), .val (.int cc), .val (.ref av), .val (.int zv), .val (.int i), u] []))
      refine Gl.go (fun _ k => XS.iload X0.here hx rfl (hb hby d13_10) rfl  k) ?_
      show Gl _ _ _ _ (s₁.setTop (mkF m 12 #[.val (.ref av), .val (.int cc), .val (.ref av), .val (.int zv), .val (.int i), u] [(.int i)]))
      refine Gl.go (fun _ k => XS.iloadN X0.here hx rfl (hb hby d13_12) rfl  k) ?_
      show Gl _ _ _ _ (s₁.setTop (mkF m 13 #[.val (.ref av), .val (.int cc), .val (.ref av), .val (.int zv), .val (.int i), u] [(.int zv), (.int i)]))
      refine Gl.go (fun _ k => XS.icmpYes X0.here hx rfl (pc0 := 13) (pc' := 38) rfl (hb hby d13_13) rfl (flt (o_nlt q1)).2.1 (by decide) (by decide) k) ?_
      show Gl _ _ _ _ (s₁.setTop (mkF m 38 #[.val (.ref av), .val (.int cc), .val (.ref av), .val (.int zv), .val (.int i), u] []))
      refine Gl.go (fun _ k => XS.iloadN X0.here hx rfl (hb hby d13_38) rfl  k) ?_
      show Gl _ _ _ _ (s₁.setTop (mkF m 39 #[.val (.ref av), .val (.int cc), .val (.ref av), .val (.int zv), .val (.int i), u] [(.int cc)]))
      refine Gl.go (fun _ k => XS.i2c X0.here hx rfl (hb hby d13_39) rfl k) ?_
      show Gl _ _ _ _ (s₁.setTop (mkF m 40 #[.val (.ref av), .val (.int cc), .val (.ref av), .val (.int zv), .val (.int i), u] [(.int (cc.toUInt32.toUInt16.toUInt32.toInt32))]))
      refine leafN X0 hx hlk (t := .char) Bd.returns (by simp) (hb hby d13_40) ?_ (by decide) (by decide)
      rw [bcZ (gL lv) zv i cc] at q3
      exact ⟨congrArg (fun q => some (Value.int q)) q3, N0, e0⟩
    | succ k ih =>
      intro i cc u q1 q2 q3 hu
      show Gl _ _ _ _ (s₁.setTop (mkF m 10 #[.val (.ref av), .val (.int cc), .val (.ref av), .val (.int zv), .val (.int i), u] []))
      refine Gl.go (fun _ k => XS.iload X0.here hx rfl (hb hby d13_10) rfl  k) ?_
      show Gl _ _ _ _ (s₁.setTop (mkF m 12 #[.val (.ref av), .val (.int cc), .val (.ref av), .val (.int zv), .val (.int i), u] [(.int i)]))
      refine Gl.go (fun _ k => XS.iloadN X0.here hx rfl (hb hby d13_12) rfl  k) ?_
      show Gl _ _ _ _ (s₁.setTop (mkF m 13 #[.val (.ref av), .val (.int cc), .val (.ref av), .val (.int zv), .val (.int i), u] [(.int zv), (.int i)]))
      by_cases hA : i < zv
      · skip
        refine Gl.go (fun _ k => XS.icmpNo X0.here hx rfl (hb hby d13_13) rfl (tlt hA).2.1 k) ?_
        show Gl _ _ _ _ (s₁.setTop (mkF m 16 #[.val (.ref av), .val (.int cc), .val (.ref av), .val (.int zv), .val (.int i), u] []))
        refine Gl.go (fun _ k => XS.aloadN X0.here hx rfl (hb hby d13_16) rfl rfl  k) ?_
        show Gl _ _ _ _ (s₁.setTop (mkF m 17 #[.val (.ref av), .val (.int cc), .val (.ref av), .val (.int zv), .val (.int i), u] [(.ref av)]))
        refine Gl.go (fun _ k => XS.iload X0.here hx rfl (hb hby d13_17) rfl  k) ?_
        show Gl _ _ _ _ (s₁.setTop (mkF m 19 #[.val (.ref av), .val (.int cc), .val (.ref av), .val (.int zv), .val (.int i), u] [(.int i), (.ref av)]))
        obtain ⟨cl2, Ar2, qA2, SA2, NA2, HA2, GA2⟩ := id Vv
        have hin2 := inb_of (j := i) SA2 (o_in q2 hA (Int.le_refl _))
        have hat2 : cl2.slots[(i).toNatClampNeg]? = some (.int (gL lv i)) := HA2.at hin2 (own_gl lv i)
        refine Gl.go (fun _ k => X0.baloadBytes hx (j := i) (v := (.int (gL lv i))) (by rw [e0]; exact Ar2.1) (State.isArrayOf_alike hZ.alike Ar2.2.1) Ar2.2.2 hin2 hat2 (g := (mkF m 19 #[.val (.ref av), .val (.int cc), .val (.ref av), .val (.int zv), .val (.int i), u] [(.int i), (.ref av)])) rfl rfl (hb hby d13_19) _ k) ?_
        show Gl _ _ _ _ (s₁.setTop (mkF m 20 #[.val (.ref av), .val (.int cc), .val (.ref av), .val (.int zv), .val (.int i), u] [(.int (gL lv i))]))
        refine Gl.go (fun _ k => XS.istoreS X0.here hx rfl (hb hby d13_20) rfl (o := u) rfl hu k) ?_
        show Gl _ _ _ _ (s₁.setTop (mkF m 22 #[.val (.ref av), .val (.int cc), .val (.ref av), .val (.int zv), .val (.int i), .val (.int (gL lv i))] []))
        refine Gl.go (fun _ k => XS.iloadN X0.here hx rfl (hb hby d13_22) rfl  k) ?_
        show Gl _ _ _ _ (s₁.setTop (mkF m 23 #[.val (.ref av), .val (.int cc), .val (.ref av), .val (.int zv), .val (.int i), .val (.int (gL lv i))] [(.int cc)]))
        refine Gl.go (fun _ k => XS.iconst X0.here hx rfl (hb hby d13_23) k) ?_
        show Gl _ _ _ _ (s₁.setTop (mkF m 24 #[.val (.ref av), .val (.int cc), .val (.ref av), .val (.int zv), .val (.int i), .val (.int (gL lv i))] [(.int (1 : Int32)), (.int cc)]))
        refine Gl.go (fun _ k => XS.iload X0.here hx rfl (hb hby d13_24) rfl  k) ?_
        show Gl _ _ _ _ (s₁.setTop (mkF m 26 #[.val (.ref av), .val (.int cc), .val (.ref av), .val (.int zv), .val (.int i), .val (.int (gL lv i))] [(.int (gL lv i)), (.int (1 : Int32)), (.int cc)]))
        refine Gl.go (fun _ k => XS.bipush X0.here hx rfl (hb hby d13_26) k) ?_
        show Gl _ _ _ _ (s₁.setTop (mkF m 28 #[.val (.ref av), .val (.int cc), .val (.ref av), .val (.int zv), .val (.int i), .val (.int (gL lv i))] [(.int (15 : Int32)), (.int (gL lv i)), (.int (1 : Int32)), (.int cc)]))
        refine Gl.go (fun _ k => XS.iand X0.here hx rfl (hb hby d13_28) rfl k) ?_
        show Gl _ _ _ _ (s₁.setTop (mkF m 29 #[.val (.ref av), .val (.int cc), .val (.ref av), .val (.int zv), .val (.int i), .val (.int (gL lv i))] [(.int ((gL lv i) &&& (15 : Int32))), (.int (1 : Int32)), (.int cc)]))
        refine Gl.go (fun _ k => XS.ishl X0.here hx rfl (hb hby d13_29) rfl k) ?_
        show Gl _ _ _ _ (s₁.setTop (mkF m 30 #[.val (.ref av), .val (.int cc), .val (.ref av), .val (.int zv), .val (.int i), .val (.int (gL lv i))] [(.int ((1 : Int32) <<< (((gL lv i) &&& (15 : Int32)) &&& 31))), (.int cc)]))
        refine Gl.go (fun _ k => XS.ior X0.here hx rfl (hb hby d13_30) rfl k) ?_
        show Gl _ _ _ _ (s₁.setTop (mkF m 31 #[.val (.ref av), .val (.int cc), .val (.ref av), .val (.int zv), .val (.int i), .val (.int (gL lv i))] [(.int (cc ||| ((1 : Int32) <<< (((gL lv i) &&& (15 : Int32)) &&& 31))))]))
        refine Gl.go (fun _ k => XS.istoreN X0.here hx rfl (hb hby d13_31) rfl (l' := #[.val (.ref av), .val (.int (cc ||| ((1 : Int32) <<< (((gL lv i) &&& (15 : Int32)) &&& 31)))), .val (.ref av), .val (.int zv), .val (.int i), .val (.int (gL lv i))]) rfl k) ?_
        show Gl _ _ _ _ (s₁.setTop (mkF m 32 #[.val (.ref av), .val (.int (cc ||| ((1 : Int32) <<< (((gL lv i) &&& (15 : Int32)) &&& 31)))), .val (.ref av), .val (.int zv), .val (.int i), .val (.int (gL lv i))] []))
        refine Gl.go (fun _ k => XS.iinc X0.here hx rfl (hb hby d13_32) rfl (l' := #[.val (.ref av), .val (.int (cc ||| ((1 : Int32) <<< (((gL lv i) &&& (15 : Int32)) &&& 31)))), .val (.ref av), .val (.int zv), .val (.int (i + (1 : Int32))), .val (.int (gL lv i))]) rfl k) ?_
        show Gl _ _ _ _ (s₁.setTop (mkF m 35 #[.val (.ref av), .val (.int (cc ||| ((1 : Int32) <<< (((gL lv i) &&& (15 : Int32)) &&& 31)))), .val (.ref av), .val (.int zv), .val (.int (i + (1 : Int32))), .val (.int (gL lv i))] []))
        refine Gl.go (fun _ k => XS.goto X0.here hx rfl (pc0 := 35) (pc' := 10) rfl (hb hby d13_35) (by decide) (by decide) k) ?_
        show Gl _ _ _ _ (s₁.setTop (mkF m 10 #[.val (.ref av), .val (.int (cc ||| ((1 : Int32) <<< (((gL lv i) &&& (15 : Int32)) &&& 31)))), .val (.ref av), .val (.int zv), .val (.int (i + (1 : Int32))), .val (.int (gL lv i))] []))
        show Gl _ _ _ _ (s₁.setTop (mkF m 10 #[.val (.ref av), .val (.int (orB cc (gL lv i))), .val (.ref av), .val (.int zv), .val (.int (i + (1 : Int32))), .val (.int (gL lv i))] []))
        rw [bcS (gL lv) zv k i cc, if_pos hA] at q3
        exact ih (i + (1 : Int32)) (orB cc (gL lv i)) (.val (.int (gL lv i))) (o_s1 q1 q2 hA (Int.le_refl _) bv) (o_s2 q2 hA (Int.le_refl _) bv) q3 (One.val rfl)
      · skip
        refine Gl.go (fun _ k => XS.icmpYes X0.here hx rfl (pc0 := 13) (pc' := 38) rfl (hb hby d13_13) rfl (flt hA).2.1 (by decide) (by decide) k) ?_
        show Gl _ _ _ _ (s₁.setTop (mkF m 38 #[.val (.ref av), .val (.int cc), .val (.ref av), .val (.int zv), .val (.int i), u] []))
        refine Gl.go (fun _ k => XS.iloadN X0.here hx rfl (hb hby d13_38) rfl  k) ?_
        show Gl _ _ _ _ (s₁.setTop (mkF m 39 #[.val (.ref av), .val (.int cc), .val (.ref av), .val (.int zv), .val (.int i), u] [(.int cc)]))
        refine Gl.go (fun _ k => XS.i2c X0.here hx rfl (hb hby d13_39) rfl k) ?_
        show Gl _ _ _ _ (s₁.setTop (mkF m 40 #[.val (.ref av), .val (.int cc), .val (.ref av), .val (.int zv), .val (.int i), u] [(.int (cc.toUInt32.toUInt16.toUInt32.toInt32))]))
        refine leafN X0 hx hlk (t := .char) Bd.returns (by simp) (hb hby d13_40) ?_ (by decide) (by decide)
        rw [bcS (gL lv) zv k i cc, if_neg hA] at q3
        exact ⟨congrArg (fun q => some (Value.int q)) q3, N0, e0⟩
  exact LP 4 (0 : Int32) (0 : Int32) .unset (o_40 (Int.le_refl _) bv) (by decide) rfl One.u
def Q_mm (Z : State) (aP : Addr) (kP : ClassId) (zP : Int32) (lP : List Int32) (aR : Addr) (kR : ClassId) (zR : Int32) (lR : List Int32) (ap rs rl : Int32) (h0 : Heap) (n0 : Nat) (v : Option Value) (h : Heap) (L : List Loc) : Prop := v = some (.int (miV (gL lP) (gL lR) ap rs rl 4 (0 : Int32))) ∧ Fr n0 L ∧ h = h0
set_option maxRecDepth 65536 in
set_option maxHeartbeats 40000000 in
theorem rm_mm (l : Launch) (Z : State) (a0 : Array Value) (hw : ∀ d ∈ tables_1, d.before a0 Z = true) (ws : List Jvm.Cond) (aP : Addr) (kP : ClassId) (zP : Int32) (lP : List Int32) (aR : Addr) (kR : ClassId) (zR : Int32) (lR : List Int32) (ap rs rl : Int32) (h0 : Heap) (n0 : Nat) (Z0 : n0 ≤ h0.size) (VP : Arv Z h0 aP kP .byte zP (lP.map Value.int) (.int (0 : Int32))) (bP : 0 ≤ zP.toInt ∧ zP.toInt ≤ 4) (VR : Arv Z h0 aR kR .byte zR (lR.map Value.int) (.int (0 : Int32))) (bR : 0 ≤ zR.toInt ∧ zR.toInt ≤ 4) (c1 : 0 ≤ ap.toInt) (c2 : 0 ≤ rl.toInt) (c3 : ap.toInt + rl.toInt ≤ zP.toInt) (c4 : 0 ≤ rs.toInt) (c5 : rs.toInt + rl.toInt ≤ zR.toInt) :
    MetFree l (⟨"jdk/internal/util/ArraysSupport", "mismatch", "([BI[BII)I"⟩ : MethodName) (head1 (Jvm.Cond.code (⟨"jdk/internal/util/ArraysSupport", "mismatch", "([BI[BII)I"⟩ : MethodName) jdk_48_method_14_code 8 (some .int) :: ws) ({ frames := 0, cells := 0, slots := 0, locals := 0 } : Room)) (fun aa U => aa = #[(.ref aP), (.int ap), (.ref aR), (.int rs), (.int rl)] ∧ Z.Warmed39 U.vm ∧ U.heap = h0) (fun _ _ _ _ _ => True) (fun _ U o U' => ∃ v L, o = .returned v ∧ Q_mm Z aP kP zP lP aR kR zR lR ap rs rl h0 n0 v U'.heap L ∧ FrameEnd U o U' L ({ frames := 0, cells := 0, slots := 0, locals := 0 } : Room).cells ({ frames := 0, cells := 0, slots := 0, locals := 0 } : Room).slots) := by
  refine MetFree.of_bodySF (plainFor_of_name pn_1) hisR ?_
  intro p e s m args below meth c s₁ Bd hml0 hP hK
  obtain ⟨rfl, hZ, hh⟩ := hP
  have hx := Bd.exec
  have hby := Bd.bytes
  have hml : c.maxLocals = 8 := hml0
  have hown : s.vm.findClass "jdk/internal/util/ArraysSupport" = some m.cls := findClass_of_methodNamed Bd.named
  have hnm := (name_of_methodNamed Bd.named Bd.method).1
  have hlk : meth.locks = false := BodyLoose.notSynchronized Bd
  have X0 : Stand p l e ({ frames := 0, cells := 0, slots := 0, locals := 0 } : Room) s m #[(.ref aP), (.int ap), (.ref aR), (.int rs), (.int rl)] below meth c s₁ [] 0 0 := Stand.of_body Bd
  have e0 : s₁.heap = h0 := by rw [← hh, Bd.state]; rfl
  have N0 := Fr.nil n0
  have K0 : Keep h0 h0 [] := Keep.refl _ _
  show Gl p.tables e below (QQof s (Q_mm Z aP kP zP lP aR kR zR lR ap rs rl h0 n0) 0 0) (s₁.setTop (entryFrame m #[(.ref aP), (.int ap), (.ref aR), (.int rs), (.int rl)] 8))
  refine Gl.go (fun t k => castTop (ef_mm m aP ap aR rs rl) k) ?_
  show Gl _ _ _ _ (s₁.setTop (mkF m 0 #[.val (.ref aP), .val (.int ap), .val (.ref aR), .val (.int rs), .val (.int rl), .unset, .unset, .unset] []))
  refine Gl.go (fun _ k => XS.iconst X0.here hx rfl (hb hby d12_0) k) ?_
  show Gl _ _ _ _ (s₁.setTop (mkF m 1 #[.val (.ref aP), .val (.int ap), .val (.ref aR), .val (.int rs), .val (.int rl), .unset, .unset, .unset] [(.int (0 : Int32))]))
  refine Gl.go (fun _ k => XS.istore X0.here hx rfl (hb hby d12_1) rfl (l' := #[.val (.ref aP), .val (.int ap), .val (.ref aR), .val (.int rs), .val (.int rl), .val (.int (0 : Int32)), .unset, .unset]) rfl k) ?_
  show Gl _ _ _ _ (s₁.setTop (mkF m 3 #[.val (.ref aP), .val (.int ap), .val (.ref aR), .val (.int rs), .val (.int rl), .val (.int (0 : Int32)), .unset, .unset] []))
  refine Gl.go (fun _ k => XS.iload X0.here hx rfl (hb hby d12_3) rfl  k) ?_
  show Gl _ _ _ _ (s₁.setTop (mkF m 5 #[.val (.ref aP), .val (.int ap), .val (.ref aR), .val (.int rs), .val (.int rl), .val (.int (0 : Int32)), .unset, .unset] [(.int rl)]))
  refine Gl.go (fun _ k => XS.bipush X0.here hx rfl (hb hby d12_5) k) ?_
  show Gl _ _ _ _ (s₁.setTop (mkF m 7 #[.val (.ref aP), .val (.int ap), .val (.ref aR), .val (.int rs), .val (.int rl), .val (.int (0 : Int32)), .unset, .unset] [(.int (7 : Int32)), (.int rl)]))
  refine Gl.go (fun _ k => XS.icmpYes X0.here hx rfl (pc0 := 7) (pc' := 70) rfl (hb hby d12_7) rfl (flt (o_7 c4 c5 bR)).2.2.2 (by decide) (by decide) k) ?_
  show Gl _ _ _ _ (s₁.setTop (mkF m 70 #[.val (.ref aP), .val (.int ap), .val (.ref aR), .val (.int rs), .val (.int rl), .val (.int (0 : Int32)), .unset, .unset] []))
  have LP : ∀ (k : Nat) (i : Int32), rl.toInt ≤ i.toInt + ((k : Nat) : Int) → 0 ≤ i.toInt → miV (gL lP) (gL lR) ap rs rl k i = miV (gL lP) (gL lR) ap rs rl 4 (0 : Int32) → Gl p.tables e below (QQof s (Q_mm Z aP kP zP lP aR kR zR lR ap rs rl h0 n0) 0 0) (s₁.setTop (mkF m 70 #[.val (.ref aP), .val (.int ap), .val (.ref aR), .val (.int rs), .val (.int rl), .val (.int i), .unset, .unset] [])) := by
    intro k
    induction k with
    | zero =>
      intro i q1 q2 q3
      show Gl _ _ _ _ (s₁.setTop (mkF m 70 #[.val (.ref aP), .val (.int ap), .val (.ref aR), .val (.int rs), .val (.int rl), .val (.int i), .unset, .unset] []))
      refine Gl.go (fun _ k => XS.iload X0.here hx rfl (hb hby d12_70) rfl  k) ?_
      show Gl _ _ _ _ (s₁.setTop (mkF m 72 #[.val (.ref aP), .val (.int ap), .val (.ref aR), .val (.int rs), .val (.int rl), .val (.int i), .unset, .unset] [(.int i)]))
      refine Gl.go (fun _ k => XS.iload X0.here hx rfl (hb hby d12_72) rfl  k) ?_
      show Gl _ _ _ _ (s₁.setTop (mkF m 74 #[.val (.ref aP), .val (.int ap), .val (.ref aR), .val (.int rs), .val (.int rl), .val (.int i), .unset, .unset] [(.int rl), (.int i)]))
      refine Gl.go (fun _ k => XS.icmpYes X0.here hx rfl (pc0 := 74) (pc' := 101) rfl (hb hby d12_74) rfl (flt (o_nlt q1)).2.1 (by decide) (by decide) k) ?_
      show Gl _ _ _ _ (s₁.setTop (mkF m 101 #[.val (.ref aP), .val (.int ap), .val (.ref aR), .val (.int rs), .val (.int rl), .val (.int i), .unset, .unset] []))
      refine Gl.go (fun _ k => XS.iconst X0.here hx rfl (hb hby d12_101) k) ?_
      show Gl _ _ _ _ (s₁.setTop (mkF m 102 #[.val (.ref aP), .val (.int ap), .val (.ref aR), .val (.int rs), .val (.int rl), .val (.int i), .unset, .unset] [(.int (-1 : Int32))]))
      refine leafI X0 hx hlk Bd.returns (hb hby d12_102) ?_ (by decide) (by decide)
      rw [miZ (gL lP) (gL lR) ap rs rl i] at q3
      exact ⟨congrArg (fun q => some (Value.int q)) q3, N0, e0⟩
    | succ k ih =>
      intro i q1 q2 q3
      show Gl _ _ _ _ (s₁.setTop (mkF m 70 #[.val (.ref aP), .val (.int ap), .val (.ref aR), .val (.int rs), .val (.int rl), .val (.int i), .unset, .unset] []))
      refine Gl.go (fun _ k => XS.iload X0.here hx rfl (hb hby d12_70) rfl  k) ?_
      show Gl _ _ _ _ (s₁.setTop (mkF m 72 #[.val (.ref aP), .val (.int ap), .val (.ref aR), .val (.int rs), .val (.int rl), .val (.int i), .unset, .unset] [(.int i)]))
      refine Gl.go (fun _ k => XS.iload X0.here hx rfl (hb hby d12_72) rfl  k) ?_
      show Gl _ _ _ _ (s₁.setTop (mkF m 74 #[.val (.ref aP), .val (.int ap), .val (.ref aR), .val (.int rs), .val (.int rl), .val (.int i), .unset, .unset] [(.int rl), (.int i)]))
      by_cases hA : i < rl
      · skip
        refine Gl.go (fun _ k => XS.icmpNo X0.here hx rfl (hb hby d12_74) rfl (tlt hA).2.1 k) ?_
        show Gl _ _ _ _ (s₁.setTop (mkF m 77 #[.val (.ref aP), .val (.int ap), .val (.ref aR), .val (.int rs), .val (.int rl), .val (.int i), .unset, .unset] []))
        refine Gl.go (fun _ k => XS.aloadN X0.here hx rfl (hb hby d12_77) rfl rfl  k) ?_
        show Gl _ _ _ _ (s₁.setTop (mkF m 78 #[.val (.ref aP), .val (.int ap), .val (.ref aR), .val (.int rs), .val (.int rl), .val (.int i), .unset, .unset] [(.ref aP)]))
        refine Gl.go (fun _ k => XS.iloadN X0.here hx rfl (hb hby d12_78) rfl  k) ?_
        show Gl _ _ _ _ (s₁.setTop (mkF m 79 #[.val (.ref aP), .val (.int ap), .val (.ref aR), .val (.int rs), .val (.int rl), .val (.int i), .unset, .unset] [(.int ap), (.ref aP)]))
        refine Gl.go (fun _ k => XS.iload X0.here hx rfl (hb hby d12_79) rfl  k) ?_
        show Gl _ _ _ _ (s₁.setTop (mkF m 81 #[.val (.ref aP), .val (.int ap), .val (.ref aR), .val (.int rs), .val (.int rl), .val (.int i), .unset, .unset] [(.int i), (.int ap), (.ref aP)]))
        refine Gl.go (fun _ k => XS.iadd X0.here hx rfl (hb hby d12_81) rfl k) ?_
        show Gl _ _ _ _ (s₁.setTop (mkF m 82 #[.val (.ref aP), .val (.int ap), .val (.ref aR), .val (.int rs), .val (.int rl), .val (.int i), .unset, .unset] [(.int (ap + i)), (.ref aP)]))
        obtain ⟨cl1, Ar1, qA1, SA1, NA1, HA1, GA1⟩ := id VP
        have hin1 := inb_of (j := (ap + i)) SA1 (o_mm c1 q2 hA c3 bP)
        have hat1 : cl1.slots[((ap + i)).toNatClampNeg]? = some (.int (gL lP (ap + i))) := HA1.at hin1 (own_gl lP (ap + i))
        refine Gl.go (fun _ k => X0.baloadBytes hx (j := (ap + i)) (v := (.int (gL lP (ap + i)))) (by rw [e0]; exact Ar1.1) (State.isArrayOf_alike hZ.alike Ar1.2.1) Ar1.2.2 hin1 hat1 (g := (mkF m 82 #[.val (.ref aP), .val (.int ap), .val (.ref aR), .val (.int rs), .val (.int rl), .val (.int i), .unset, .unset] [(.int (ap + i)), (.ref aP)])) rfl rfl (hb hby d12_82) _ k) ?_
        show Gl _ _ _ _ (s₁.setTop (mkF m 83 #[.val (.ref aP), .val (.int ap), .val (.ref aR), .val (.int rs), .val (.int rl), .val (.int i), .unset, .unset] [(.int (gL lP (ap + i)))]))
        refine Gl.go (fun _ k => XS.aloadN X0.here hx rfl (hb hby d12_83) rfl rfl  k) ?_
        show Gl _ _ _ _ (s₁.setTop (mkF m 84 #[.val (.ref aP), .val (.int ap), .val (.ref aR), .val (.int rs), .val (.int rl), .val (.int i), .unset, .unset] [(.ref aR), (.int (gL lP (ap + i)))]))
        refine Gl.go (fun _ k => XS.iloadN X0.here hx rfl (hb hby d12_84) rfl  k) ?_
        show Gl _ _ _ _ (s₁.setTop (mkF m 85 #[.val (.ref aP), .val (.int ap), .val (.ref aR), .val (.int rs), .val (.int rl), .val (.int i), .unset, .unset] [(.int rs), (.ref aR), (.int (gL lP (ap + i)))]))
        refine Gl.go (fun _ k => XS.iload X0.here hx rfl (hb hby d12_85) rfl  k) ?_
        show Gl _ _ _ _ (s₁.setTop (mkF m 87 #[.val (.ref aP), .val (.int ap), .val (.ref aR), .val (.int rs), .val (.int rl), .val (.int i), .unset, .unset] [(.int i), (.int rs), (.ref aR), (.int (gL lP (ap + i)))]))
        refine Gl.go (fun _ k => XS.iadd X0.here hx rfl (hb hby d12_87) rfl k) ?_
        show Gl _ _ _ _ (s₁.setTop (mkF m 88 #[.val (.ref aP), .val (.int ap), .val (.ref aR), .val (.int rs), .val (.int rl), .val (.int i), .unset, .unset] [(.int (rs + i)), (.ref aR), (.int (gL lP (ap + i)))]))
        obtain ⟨cl2, Ar2, qA2, SA2, NA2, HA2, GA2⟩ := id VR
        have hin2 := inb_of (j := (rs + i)) SA2 (o_mm c4 q2 hA c5 bR)
        have hat2 : cl2.slots[((rs + i)).toNatClampNeg]? = some (.int (gL lR (rs + i))) := HA2.at hin2 (own_gl lR (rs + i))
        refine Gl.go (fun _ k => X0.baloadBytes hx (j := (rs + i)) (v := (.int (gL lR (rs + i)))) (by rw [e0]; exact Ar2.1) (State.isArrayOf_alike hZ.alike Ar2.2.1) Ar2.2.2 hin2 hat2 (g := (mkF m 88 #[.val (.ref aP), .val (.int ap), .val (.ref aR), .val (.int rs), .val (.int rl), .val (.int i), .unset, .unset] [(.int (rs + i)), (.ref aR), (.int (gL lP (ap + i)))])) rfl rfl (hb hby d12_88) _ k) ?_
        show Gl _ _ _ _ (s₁.setTop (mkF m 89 #[.val (.ref aP), .val (.int ap), .val (.ref aR), .val (.int rs), .val (.int rl), .val (.int i), .unset, .unset] [(.int (gL lR (rs + i))), (.int (gL lP (ap + i)))]))
        by_cases hB : (gL lP (ap + i)) = (gL lR (rs + i))
        · skip
          refine Gl.go (fun _ k => XS.icmpYes X0.here hx rfl (pc0 := 89) (pc' := 95) rfl (hb hby d12_89) rfl (teq hB).1 (by decide) (by decide) k) ?_
          show Gl _ _ _ _ (s₁.setTop (mkF m 95 #[.val (.ref aP), .val (.int ap), .val (.ref aR), .val (.int rs), .val (.int rl), .val (.int i), .unset, .unset] []))
          refine Gl.go (fun _ k => XS.iinc X0.here hx rfl (hb hby d12_95) rfl (l' := #[.val (.ref aP), .val (.int ap), .val (.ref aR), .val (.int rs), .val (.int rl), .val (.int (i + (1 : Int32))), .unset, .unset]) rfl k) ?_
          show Gl _ _ _ _ (s₁.setTop (mkF m 98 #[.val (.ref aP), .val (.int ap), .val (.ref aR), .val (.int rs), .val (.int rl), .val (.int (i + (1 : Int32))), .unset, .unset] []))
          refine Gl.go (fun _ k => XS.goto X0.here hx rfl (pc0 := 98) (pc' := 70) rfl (hb hby d12_98) (by decide) (by decide) k) ?_
          show Gl _ _ _ _ (s₁.setTop (mkF m 70 #[.val (.ref aP), .val (.int ap), .val (.ref aR), .val (.int rs), .val (.int rl), .val (.int (i + (1 : Int32))), .unset, .unset] []))
          rw [miS (gL lP) (gL lR) ap rs rl k i, if_pos hA, if_pos hB] at q3
          exact ih (i + (1 : Int32)) (o_s1 q1 q2 hA (o_rl4 c4 c5) bR) (o_s2 q2 hA (o_rl4 c4 c5) bR) q3
        · skip
          refine Gl.go (fun _ k => XS.icmpNo X0.here hx rfl (hb hby d12_89) rfl (feq hB).1 k) ?_
          show Gl _ _ _ _ (s₁.setTop (mkF m 92 #[.val (.ref aP), .val (.int ap), .val (.ref aR), .val (.int rs), .val (.int rl), .val (.int i), .unset, .unset] []))
          refine Gl.go (fun _ k => XS.iload X0.here hx rfl (hb hby d12_92) rfl  k) ?_
          show Gl _ _ _ _ (s₁.setTop (mkF m 94 #[.val (.ref aP), .val (.int ap), .val (.ref aR), .val (.int rs), .val (.int rl), .val (.int i), .unset, .unset] [(.int i)]))
          refine leafI X0 hx hlk Bd.returns (hb hby d12_94) ?_ (by decide) (by decide)
          rw [miS (gL lP) (gL lR) ap rs rl k i, if_pos hA, if_neg hB] at q3
          exact ⟨congrArg (fun q => some (Value.int q)) q3, N0, e0⟩
      · skip
        refine Gl.go (fun _ k => XS.icmpYes X0.here hx rfl (pc0 := 74) (pc' := 101) rfl (hb hby d12_74) rfl (flt hA).2.1 (by decide) (by decide) k) ?_
        show Gl _ _ _ _ (s₁.setTop (mkF m 101 #[.val (.ref aP), .val (.int ap), .val (.ref aR), .val (.int rs), .val (.int rl), .val (.int i), .unset, .unset] []))
        refine Gl.go (fun _ k => XS.iconst X0.here hx rfl (hb hby d12_101) k) ?_
        show Gl _ _ _ _ (s₁.setTop (mkF m 102 #[.val (.ref aP), .val (.int ap), .val (.ref aR), .val (.int rs), .val (.int rl), .val (.int i), .unset, .unset] [(.int (-1 : Int32))]))
        refine leafI X0 hx hlk Bd.returns (hb hby d12_102) ?_ (by decide) (by decide)
        rw [miS (gL lP) (gL lR) ap rs rl k i, if_neg hA] at q3
        exact ⟨congrArg (fun q => some (Value.int q)) q3, N0, e0⟩
  exact LP 4 (0 : Int32) (o_40 (o_rl4 c4 c5) bR) (by decide) rfl
def Q_rc (Z : State) (zz ff tt : Int32) (h0 : Heap) (n0 : Nat) (v : Option Value) (h : Heap) (L : List Loc) : Prop := v = none ∧ Fr n0 L ∧ h = h0
set_option maxRecDepth 65536 in
set_option maxHeartbeats 40000000 in
theorem rm_rc (l : Launch) (Z : State) (a0 : Array Value) (hw : ∀ d ∈ tables_1, d.before a0 Z = true) (ws : List Jvm.Cond) (zz ff tt : Int32) (h0 : Heap) (n0 : Nat) (Z0 : n0 ≤ h0.size) (h1 : ¬ tt < ff) (h2 : ¬ ff < (0 : Int32)) (h3 : ¬ zz < tt) :
    MetFree l (⟨"java/util/Arrays", "rangeCheck", "(III)V"⟩ : MethodName) (head1 (Jvm.Cond.code (⟨"java/util/Arrays", "rangeCheck", "(III)V"⟩ : MethodName) jdk_65_method_30_code 3 none :: ws) ({ frames := 0, cells := 0, slots := 0, locals := 0 } : Room)) (fun aa U => aa = #[(.int zz), (.int ff), (.int tt)] ∧ Z.Warmed39 U.vm ∧ U.heap = h0) (fun _ _ _ _ _ => True) (fun _ U o U' => ∃ v L, o = .returned v ∧ Q_rc Z zz ff tt h0 n0 v U'.heap L ∧ FrameEnd U o U' L ({ frames := 0, cells := 0, slots := 0, locals := 0 } : Room).cells ({ frames := 0, cells := 0, slots := 0, locals := 0 } : Room).slots) := by
  refine MetFree.of_bodySF (plainFor_of_name pn_2) hisR ?_
  intro p e s m args below meth c s₁ Bd hml0 hP hK
  obtain ⟨rfl, hZ, hh⟩ := hP
  have hx := Bd.exec
  have hby := Bd.bytes
  have hml : c.maxLocals = 3 := hml0
  have hown : s.vm.findClass "java/util/Arrays" = some m.cls := findClass_of_methodNamed Bd.named
  have hnm := (name_of_methodNamed Bd.named Bd.method).1
  have hlk : meth.locks = false := BodyLoose.notSynchronized Bd
  have X0 : Stand p l e ({ frames := 0, cells := 0, slots := 0, locals := 0 } : Room) s m #[(.int zz), (.int ff), (.int tt)] below meth c s₁ [] 0 0 := Stand.of_body Bd
  have e0 : s₁.heap = h0 := by rw [← hh, Bd.state]; rfl
  have N0 := Fr.nil n0
  have K0 : Keep h0 h0 [] := Keep.refl _ _
  show Gl p.tables e below (QQof s (Q_rc Z zz ff tt h0 n0) 0 0) (s₁.setTop (entryFrame m #[(.int zz), (.int ff), (.int tt)] 3))
  refine Gl.go (fun t k => castTop (ef_rc m zz ff tt) k) ?_
  show Gl _ _ _ _ (s₁.setTop (mkF m 0 #[.val (.int zz), .val (.int ff), .val (.int tt)] []))
  refine Gl.go (fun _ k => XS.iloadN X0.here hx rfl (hb hby d11_0) rfl  k) ?_
  show Gl _ _ _ _ (s₁.setTop (mkF m 1 #[.val (.int zz), .val (.int ff), .val (.int tt)] [(.int ff)]))
  refine Gl.go (fun _ k => XS.iloadN X0.here hx rfl (hb hby d11_1) rfl  k) ?_
  show Gl _ _ _ _ (s₁.setTop (mkF m 2 #[.val (.int zz), .val (.int ff), .val (.int tt)] [(.int tt), (.int ff)]))
  refine Gl.go (fun _ k => XS.icmpYes X0.here hx rfl (pc0 := 2) (pc' := 46) rfl (hb hby d11_2) rfl (flt h1).2.2.2 (by decide) (by decide) k) ?_
  show Gl _ _ _ _ (s₁.setTop (mkF m 46 #[.val (.int zz), .val (.int ff), .val (.int tt)] []))
  refine Gl.go (fun _ k => XS.iloadN X0.here hx rfl (hb hby d11_46) rfl  k) ?_
  show Gl _ _ _ _ (s₁.setTop (mkF m 47 #[.val (.int zz), .val (.int ff), .val (.int tt)] [(.int ff)]))
  refine Gl.go (fun _ k => XS.ifYes X0.here hx rfl (pc0 := 47) (pc' := 59) rfl (hb hby d11_47) rfl ((if0 _ _).trans (flt h2).2.1) (by decide) (by decide) k) ?_
  show Gl _ _ _ _ (s₁.setTop (mkF m 59 #[.val (.int zz), .val (.int ff), .val (.int tt)] []))
  refine Gl.go (fun _ k => XS.iloadN X0.here hx rfl (hb hby d11_59) rfl  k) ?_
  show Gl _ _ _ _ (s₁.setTop (mkF m 60 #[.val (.int zz), .val (.int ff), .val (.int tt)] [(.int tt)]))
  refine Gl.go (fun _ k => XS.iloadN X0.here hx rfl (hb hby d11_60) rfl  k) ?_
  show Gl _ _ _ _ (s₁.setTop (mkF m 61 #[.val (.int zz), .val (.int ff), .val (.int tt)] [(.int zz), (.int tt)]))
  refine Gl.go (fun _ k => XS.icmpYes X0.here hx rfl (pc0 := 61) (pc' := 73) rfl (hb hby d11_61) rfl (flt h3).2.2.2 (by decide) (by decide) k) ?_
  show Gl _ _ _ _ (s₁.setTop (mkF m 73 #[.val (.int zz), .val (.int ff), .val (.int tt)] []))
  refine leafV X0 hx hlk Bd.returns (hb hby d11_73) ?_ (by decide) (by decide)
  exact ⟨rfl, N0, e0⟩
def Q_eq (Z : State) (aP : Addr) (kP : ClassId) (zP : Int32) (lP : List Int32) (aR : Addr) (kR : ClassId) (zR : Int32) (lR : List Int32) (ap rs rl : Int32) (h0 : Heap) (n0 : Nat) (v : Option Value) (h : Heap) (L : List Loc) : Prop := v = some (.int (eqV (gL lP) (gL lR) ap rs rl)) ∧ Fr n0 L ∧ h = h0
set_option maxRecDepth 65536 in
set_option maxHeartbeats 40000000 in
theorem rm_eq (l : Launch) (Z : State) (a0 : Array Value) (hw : ∀ d ∈ tables_1, d.before a0 Z = true) (ws : List Jvm.Cond) (aP : Addr) (kP : ClassId) (zP : Int32) (lP : List Int32) (aR : Addr) (kR : ClassId) (zR : Int32) (lR : List Int32) (ap rs rl : Int32) (h0 : Heap) (n0 : Nat) (Z0 : n0 ≤ h0.size) (VP : Arv Z h0 aP kP .byte zP (lP.map Value.int) (.int (0 : Int32))) (bP : 0 ≤ zP.toInt ∧ zP.toInt ≤ 4) (VR : Arv Z h0 aR kR .byte zR (lR.map Value.int) (.int (0 : Int32))) (bR : 0 ≤ zR.toInt ∧ zR.toInt ≤ 4) (c1 : 0 ≤ ap.toInt) (c2 : 0 ≤ rl.toInt) (c3 : ap.toInt + rl.toInt ≤ zP.toInt) (c4 : 0 ≤ rs.toInt) (c5 : rs.toInt + rl.toInt ≤ zR.toInt) :
    MetFree l (⟨"java/util/Arrays", "equals", "([BII[BII)Z"⟩ : MethodName) (head1 (Jvm.Cond.code (⟨"java/util/Arrays", "equals", "([BII[BII)Z"⟩ : MethodName) jdk_65_method_90_code 8 (some .boolean) :: ws) ({ frames := 1, cells := 0, slots := 0, locals := 19 } : Room)) (fun aa U => aa = #[(.ref aP), (.int ap), (.int (ap + rl)), (.ref aR), (.int rs), (.int (rs + rl))] ∧ Z.Warmed39 U.vm ∧ U.heap = h0) (fun _ _ _ _ _ => True) (fun _ U o U' => ∃ v L, o = .returned v ∧ Q_eq Z aP kP zP lP aR kR zR lR ap rs rl h0 n0 v U'.heap L ∧ FrameEnd U o U' L ({ frames := 1, cells := 0, slots := 0, locals := 19 } : Room).cells ({ frames := 1, cells := 0, slots := 0, locals := 19 } : Room).slots) := by
  refine MetFree.of_bodySF (plainFor_of_name pn_2) hisR ?_
  intro p e s m args below meth c s₁ Bd hml0 hP hK
  obtain ⟨rfl, hZ, hh⟩ := hP
  have hx := Bd.exec
  have hby := Bd.bytes
  have hml : c.maxLocals = 8 := hml0
  have hown : s.vm.findClass "java/util/Arrays" = some m.cls := findClass_of_methodNamed Bd.named
  have hnm := (name_of_methodNamed Bd.named Bd.method).1
  have hlk : meth.locks = false := BodyLoose.notSynchronized Bd
  have X0 : Stand p l e ({ frames := 1, cells := 0, slots := 0, locals := 19 } : Room) s m #[(.ref aP), (.int ap), (.int (ap + rl)), (.ref aR), (.int rs), (.int (rs + rl))] below meth c s₁ [] 0 0 := Stand.of_body Bd
  have e0 : s₁.heap = h0 := by rw [← hh, Bd.state]; rfl
  have N0 := Fr.nil n0
  have K0 : Keep h0 h0 [] := Keep.refl _ _
  show Gl p.tables e below (QQof s (Q_eq Z aP kP zP lP aR kR zR lR ap rs rl h0 n0) 0 0) (s₁.setTop (entryFrame m #[(.ref aP), (.int ap), (.int (ap + rl)), (.ref aR), (.int rs), (.int (rs + rl))] 8))
  refine Gl.go (fun t k => castTop (ef_eq m aP ap (ap + rl) aR rs (rs + rl)) k) ?_
  show Gl _ _ _ _ (s₁.setTop (mkF m 0 #[.val (.ref aP), .val (.int ap), .val (.int (ap + rl)), .val (.ref aR), .val (.int rs), .val (.int (rs + rl)), .unset, .unset] []))
  refine Gl.go (fun _ k => XS.aloadN X0.here hx rfl (hb hby d10_0) rfl rfl  k) ?_
  show Gl _ _ _ _ (s₁.setTop (mkF m 1 #[.val (.ref aP), .val (.int ap), .val (.int (ap + rl)), .val (.ref aR), .val (.int rs), .val (.int (rs + rl)), .unset, .unset] [(.ref aP)]))
  obtain ⟨cl1, Ar1, qA1, SA1, NA1, HA1, GA1⟩ := id VP
  refine Gl.go (fun _ k => X0.arraylength hx (by rw [e0]; exact Ar1.1) (State.isArrayOf_alike hZ.alike Ar1.2.1) (g := (mkF m 1 #[.val (.ref aP), .val (.int ap), .val (.int (ap + rl)), .val (.ref aR), .val (.int rs), .val (.int (rs + rl)), .unset, .unset] [(.ref aP)])) rfl rfl (hb hby d10_1) _ k) ?_
  rw [len_of SA1 NA1]
  show Gl _ _ _ _ (s₁.setTop (mkF m 2 #[.val (.ref aP), .val (.int ap), .val (.int (ap + rl)), .val (.ref aR), .val (.int rs), .val (.int (rs + rl)), .unset, .unset] [(.int zP)]))
  refine Gl.go (fun _ k => XS.iloadN X0.here hx rfl (hb hby d10_2) rfl  k) ?_
  show Gl _ _ _ _ (s₁.setTop (mkF m 3 #[.val (.ref aP), .val (.int ap), .val (.int (ap + rl)), .val (.ref aR), .val (.int rs), .val (.int (rs + rl)), .unset, .unset] [(.int ap), (.int zP)]))
  refine Gl.go (fun _ k => XS.iloadN X0.here hx rfl (hb hby d10_3) rfl  k) ?_
  show Gl _ _ _ _ (s₁.setTop (mkF m 4 #[.val (.ref aP), .val (.int ap), .val (.int (ap + rl)), .val (.ref aR), .val (.int rs), .val (.int (rs + rl)), .unset, .unset] [(.int (ap + rl)), (.int ap), (.int zP)]))
  have r1 := o_rc c1 c2 c3 bP
  have r2 := o_rc c4 c2 c5 bR
  obtain ⟨_, _, ⟨T2, L2, k2, n2⟩, -, X2, ⟨Lc2, hQ2, l2, y2, z2⟩, st2⟩ := Jvm.LawKit.callS X0 hx (y := (⟨"java/util/Arrays", "rangeCheck", "(III)V"⟩ : MethodName)) hown (mvT hZ (hw _ (List.mem_of_getElem? (i := 34) rfl))) (mvT hZ (hw _ (List.mem_of_getElem? (i := 35) rfl))) (mvT hZ (hw _ (List.mem_of_getElem? (i := 32) rfl))) (mvT hZ (hw _ (List.mem_of_getElem? (i := 36) rfl))) (by decide) (backOf (W := 0) (rm_rc l Z a0 hw [] zP ap (ap + rl) h0 n0 Z0 r1.1 r1.2.1 r1.2.2) hZ (hw _ (List.mem_of_getElem? (i := 36) rfl)) (hw _ (List.mem_of_getElem? (i := 32) rfl)) (by decide) (by decide)) (g := (mkF m 4 #[.val (.ref aP), .val (.int ap), .val (.int (ap + rl)), .val (.ref aR), .val (.int rs), .val (.int (rs + rl)), .unset, .unset] [(.int (ap + rl)), (.int ap), (.int zP)])) rfl (by rw [hml]; rfl) (argsL := [(.int zP), (.int ap), (.int (ap + rl))]) (rest := []) (lenOf pd_1 rfl) rfl (by show 2 * 0 + _ ≤ _; exact Nat.le_of_eq rfl) (hb hby d10_4) (fun _ _ => ⟨rfl, e0, (by decide : 0 + 0 ≤ _), (by decide : 0 + 0 ≤ _)⟩)
  dsimp only [Pt.U, Pt.locs, Pt.cells, Pt.slots] at X2 l2 y2 z2 st2 hQ2
  subst l2 y2 z2
  obtain ⟨rfl, Nq2, e2⟩ := hQ2
  have N2 := Fr.app N0 Nq2
  refine Gl.go (fun _ k => st2 _ k) ?_
  show Gl _ _ _ _ (T2.setTop (mkF m 7 #[.val (.ref aP), .val (.int ap), .val (.int (ap + rl)), .val (.ref aR), .val (.int rs), .val (.int (rs + rl)), .unset, .unset] []))
  refine Gl.go (fun _ k => XS.aloadN X2.here hx rfl (hb hby d10_7) rfl rfl  k) ?_
  show Gl _ _ _ _ (T2.setTop (mkF m 8 #[.val (.ref aP), .val (.int ap), .val (.int (ap + rl)), .val (.ref aR), .val (.int rs), .val (.int (rs + rl)), .unset, .unset] [(.ref aR)]))
  obtain ⟨cl3, Ar3, qA3, SA3, NA3, HA3, GA3⟩ := id VR
  refine Gl.go (fun _ k => X2.arraylength hx (by rw [e2]; exact Ar3.1) (State.isArrayOf_alike hZ.alike Ar3.2.1) (g := (mkF m 8 #[.val (.ref aP), .val (.int ap), .val (.int (ap + rl)), .val (.ref aR), .val (.int rs), .val (.int (rs + rl)), .unset, .unset] [(.ref aR)])) rfl rfl (hb hby d10_8) _ k) ?_
  rw [len_of SA3 NA3]
  show Gl _ _ _ _ (T2.setTop (mkF m 9 #[.val (.ref aP), .val (.int ap), .val (.int (ap + rl)), .val (.ref aR), .val (.int rs), .val (.int (rs + rl)), .unset, .unset] [(.int zR)]))
  refine Gl.go (fun _ k => XS.iload X2.here hx rfl (hb hby d10_9) rfl  k) ?_
  show Gl _ _ _ _ (T2.setTop (mkF m 11 #[.val (.ref aP), .val (.int ap), .val (.int (ap + rl)), .val (.ref aR), .val (.int rs), .val (.int (rs + rl)), .unset, .unset] [(.int rs), (.int zR)]))
  refine Gl.go (fun _ k => XS.iload X2.here hx rfl (hb hby d10_11) rfl  k) ?_
  show Gl _ _ _ _ (T2.setTop (mkF m 13 #[.val (.ref aP), .val (.int ap), .val (.int (ap + rl)), .val (.ref aR), .val (.int rs), .val (.int (rs + rl)), .unset, .unset] [(.int (rs + rl)), (.int rs), (.int zR)]))
  obtain ⟨_, _, ⟨T4, L4, k4, n4⟩, -, X4, ⟨Lc4, hQ4, l4, y4, z4⟩, st4⟩ := Jvm.LawKit.callS X2 hx (y := (⟨"java/util/Arrays", "rangeCheck", "(III)V"⟩ : MethodName)) hown (mvT hZ (hw _ (List.mem_of_getElem? (i := 34) rfl))) (mvT hZ (hw _ (List.mem_of_getElem? (i := 35) rfl))) (mvT hZ (hw _ (List.mem_of_getElem? (i := 32) rfl))) (mvT hZ (hw _ (List.mem_of_getElem? (i := 36) rfl))) (by decide) (backOf (W := 0) (rm_rc l Z a0 hw [] zR rs (rs + rl) h0 n0 Z0 r2.1 r2.2.1 r2.2.2) hZ (hw _ (List.mem_of_getElem? (i := 36) rfl)) (hw _ (List.mem_of_getElem? (i := 32) rfl)) (by decide) (by decide)) (g := (mkF m 13 #[.val (.ref aP), .val (.int ap), .val (.int (ap + rl)), .val (.ref aR), .val (.int rs), .val (.int (rs + rl)), .unset, .unset] [(.int (rs + rl)), (.int rs), (.int zR)])) rfl (by rw [hml]; rfl) (argsL := [(.int zR), (.int rs), (.int (rs + rl))]) (rest := []) (lenOf pd_1 rfl) rfl (by show 2 * 0 + _ ≤ _; exact Nat.le_of_eq rfl) (hb hby d10_13) (fun _ _ => ⟨rfl, e2, (by decide : 0 + 0 ≤ _), (by decide : 0 + 0 ≤ _)⟩)
  dsimp only [Pt.U, Pt.locs, Pt.cells, Pt.slots] at X4 l4 y4 z4 st4 hQ4
  subst l4 y4 z4
  obtain ⟨rfl, Nq4, e4⟩ := hQ4
  have N4 := Fr.app N2 Nq4
  refine Gl.go (fun _ k => st4 _ k) ?_
  show Gl _ _ _ _ (T4.setTop (mkF m 16 #[.val (.ref aP), .val (.int ap), .val (.int (ap + rl)), .val (.ref aR), .val (.int rs), .val (.int (rs + rl)), .unset, .unset] []))
  refine Gl.go (fun _ k => XS.iloadN X4.here hx rfl (hb hby d10_16) rfl  k) ?_
  show Gl _ _ _ _ (T4.setTop (mkF m 17 #[.val (.ref aP), .val (.int ap), .val (.int (ap + rl)), .val (.ref aR), .val (.int rs), .val (.int (rs + rl)), .unset, .unset] [(.int (ap + rl))]))
  refine Gl.go (fun _ k => XS.iloadN X4.here hx rfl (hb hby d10_17) rfl  k) ?_
  show Gl _ _ _ _ (T4.setTop (mkF m 18 #[.val (.ref aP), .val (.int ap), .val (.int (ap + rl)), .val (.ref aR), .val (.int rs), .val (.int (rs + rl)), .unset, .unset] [(.int ap), (.int (ap + rl))]))
  refine Gl.go (fun _ k => XS.isub X4.here hx rfl (hb hby d10_18) rfl k) ?_
  show Gl _ _ _ _ (T4.setTop (mkF m 19 #[.val (.ref aP), .val (.int ap), .val (.int (ap + rl)), .val (.ref aR), .val (.int rs), .val (.int (rs + rl)), .unset, .unset] [(.int ((ap + rl) - ap))]))
  refine Gl.go (fun _ k => XS.istore X4.here hx rfl (hb hby d10_19) rfl (l' := #[.val (.ref aP), .val (.int ap), .val (.int (ap + rl)), .val (.ref aR), .val (.int rs), .val (.int (rs + rl)), .val (.int ((ap + rl) - ap)), .unset]) rfl k) ?_
  show Gl _ _ _ _ (T4.setTop (mkF m 21 #[.val (.ref aP), .val (.int ap), .val (.int (ap + rl)), .val (.ref aR), .val (.int rs), .val (.int (rs + rl)), .val (.int ((ap + rl) - ap)), .unset] []))
  refine Gl.go (fun _ k => XS.iload X4.here hx rfl (hb hby d10_21) rfl  k) ?_
  show Gl _ _ _ _ (T4.setTop (mkF m 23 #[.val (.ref aP), .val (.int ap), .val (.int (ap + rl)), .val (.ref aR), .val (.int rs), .val (.int (rs + rl)), .val (.int ((ap + rl) - ap)), .unset] [(.int (rs + rl))]))
  refine Gl.go (fun _ k => XS.iload X4.here hx rfl (hb hby d10_23) rfl  k) ?_
  show Gl _ _ _ _ (T4.setTop (mkF m 25 #[.val (.ref aP), .val (.int ap), .val (.int (ap + rl)), .val (.ref aR), .val (.int rs), .val (.int (rs + rl)), .val (.int ((ap + rl) - ap)), .unset] [(.int rs), (.int (rs + rl))]))
  refine Gl.go (fun _ k => XS.isub X4.here hx rfl (hb hby d10_25) rfl k) ?_
  show Gl _ _ _ _ (T4.setTop (mkF m 26 #[.val (.ref aP), .val (.int ap), .val (.int (ap + rl)), .val (.ref aR), .val (.int rs), .val (.int (rs + rl)), .val (.int ((ap + rl) - ap)), .unset] [(.int ((rs + rl) - rs))]))
  refine Gl.go (fun _ k => XS.istore X4.here hx rfl (hb hby d10_26) rfl (l' := #[.val (.ref aP), .val (.int ap), .val (.int (ap + rl)), .val (.ref aR), .val (.int rs), .val (.int (rs + rl)), .val (.int ((ap + rl) - ap)), .val (.int ((rs + rl) - rs))]) rfl k) ?_
  show Gl _ _ _ _ (T4.setTop (mkF m 28 #[.val (.ref aP), .val (.int ap), .val (.int (ap + rl)), .val (.ref aR), .val (.int rs), .val (.int (rs + rl)), .val (.int ((ap + rl) - ap)), .val (.int ((rs + rl) - rs))] []))
  refine Gl.go (fun _ k => XS.iload X4.here hx rfl (hb hby d10_28) rfl  k) ?_
  show Gl _ _ _ _ (T4.setTop (mkF m 30 #[.val (.ref aP), .val (.int ap), .val (.int (ap + rl)), .val (.ref aR), .val (.int rs), .val (.int (rs + rl)), .val (.int ((ap + rl) - ap)), .val (.int ((rs + rl) - rs))] [(.int ((ap + rl) - ap))]))
  refine Gl.go (fun _ k => XS.iload X4.here hx rfl (hb hby d10_30) rfl  k) ?_
  show Gl _ _ _ _ (T4.setTop (mkF m 32 #[.val (.ref aP), .val (.int ap), .val (.int (ap + rl)), .val (.ref aR), .val (.int rs), .val (.int (rs + rl)), .val (.int ((ap + rl) - ap)), .val (.int ((rs + rl) - rs))] [(.int ((rs + rl) - rs)), (.int ((ap + rl) - ap))]))
  rw [(own_can ap rl : ((ap + rl) - ap) = rl)]
  show Gl _ _ _ _ (T4.setTop (mkF m 32 #[.val (.ref aP), .val (.int ap), .val (.int (ap + rl)), .val (.ref aR), .val (.int rs), .val (.int (rs + rl)), .val (.int rl), .val (.int ((rs + rl) - rs))] [(.int ((rs + rl) - rs)), (.int rl)]))
  rw [(own_can rs rl : ((rs + rl) - rs) = rl)]
  show Gl _ _ _ _ (T4.setTop (mkF m 32 #[.val (.ref aP), .val (.int ap), .val (.int (ap + rl)), .val (.ref aR), .val (.int rs), .val (.int (rs + rl)), .val (.int rl), .val (.int rl)] [(.int rl), (.int rl)]))
  refine Gl.go (fun _ k => XS.icmpYes X4.here hx rfl (pc0 := 32) (pc' := 37) rfl (hb hby d10_32) rfl (teq rfl).1 (by decide) (by decide) k) ?_
  show Gl _ _ _ _ (T4.setTop (mkF m 37 #[.val (.ref aP), .val (.int ap), .val (.int (ap + rl)), .val (.ref aR), .val (.int rs), .val (.int (rs + rl)), .val (.int rl), .val (.int rl)] []))
  refine Gl.go (fun _ k => XS.aloadN X4.here hx rfl (hb hby d10_37) rfl rfl  k) ?_
  show Gl _ _ _ _ (T4.setTop (mkF m 38 #[.val (.ref aP), .val (.int ap), .val (.int (ap + rl)), .val (.ref aR), .val (.int rs), .val (.int (rs + rl)), .val (.int rl), .val (.int rl)] [(.ref aP)]))
  refine Gl.go (fun _ k => XS.iloadN X4.here hx rfl (hb hby d10_38) rfl  k) ?_
  show Gl _ _ _ _ (T4.setTop (mkF m 39 #[.val (.ref aP), .val (.int ap), .val (.int (ap + rl)), .val (.ref aR), .val (.int rs), .val (.int (rs + rl)), .val (.int rl), .val (.int rl)] [(.int ap), (.ref aP)]))
  refine Gl.go (fun _ k => XS.aloadN X4.here hx rfl (hb hby d10_39) rfl rfl  k) ?_
  show Gl _ _ _ _ (T4.setTop (mkF m 40 #[.val (.ref aP), .val (.int ap), .val (.int (ap + rl)), .val (.ref aR), .val (.int rs), .val (.int (rs + rl)), .val (.int rl), .val (.int rl)] [(.ref aR), (.int ap), (.ref aP)]))
  refine Gl.go (fun _ k => XS.iload X4.here hx rfl (hb hby d10_40) rfl  k) ?_
  show Gl _ _ _ _ (T4.setTop (mkF m 42 #[.val (.ref aP), .val (.int ap), .val (.int (ap + rl)), .val (.ref aR), .val (.int rs), .val (.int (rs + rl)), .val (.int rl), .val (.int rl)] [(.int rs), (.ref aR), (.int ap), (.ref aP)]))
  refine Gl.go (fun _ k => XS.iload X4.here hx rfl (hb hby d10_42) rfl  k) ?_
  show Gl _ _ _ _ (T4.setTop (mkF m 44 #[.val (.ref aP), .val (.int ap), .val (.int (ap + rl)), .val (.ref aR), .val (.int rs), .val (.int (rs + rl)), .val (.int rl), .val (.int rl)] [(.int rl), (.int rs), (.ref aR), (.int ap), (.ref aP)]))
  obtain ⟨_, _, ⟨T5, L5, k5, n5⟩, -, X5, ⟨Lc5, hQ5, l5, y5, z5⟩, st5⟩ := Jvm.LawKit.callS X4 hx (y := (⟨"jdk/internal/util/ArraysSupport", "mismatch", "([BI[BII)I"⟩ : MethodName)) hown (mvT hZ (hw _ (List.mem_of_getElem? (i := 37) rfl))) (mvT hZ (hw _ (List.mem_of_getElem? (i := 38) rfl))) (mvT hZ (hw _ (List.mem_of_getElem? (i := 39) rfl))) (mvT hZ (hw _ (List.mem_of_getElem? (i := 40) rfl))) (by decide) (backOf (W := 0) (rm_mm l Z a0 hw [] aP kP zP lP aR kR zR lR ap rs rl h0 n0 Z0 VP bP VR bR c1 c2 c3 c4 c5) hZ (hw _ (List.mem_of_getElem? (i := 40) rfl)) (hw _ (List.mem_of_getElem? (i := 39) rfl)) (by decide) (by decide)) (g := (mkF m 44 #[.val (.ref aP), .val (.int ap), .val (.int (ap + rl)), .val (.ref aR), .val (.int rs), .val (.int (rs + rl)), .val (.int rl), .val (.int rl)] [(.int rl), (.int rs), (.ref aR), (.int ap), (.ref aP)])) rfl (by rw [hml]; rfl) (argsL := [(.ref aP), (.int ap), (.ref aR), (.int rs), (.int rl)]) (rest := []) (lenOf pd_2 rfl) rfl (by show 2 * 0 + _ ≤ _; exact Nat.le_of_eq rfl) (hb hby d10_44) (fun _ _ => ⟨rfl, e4, (by decide : 0 + 0 ≤ _), (by decide : 0 + 0 ≤ _)⟩)
  dsimp only [Pt.U, Pt.locs, Pt.cells, Pt.slots] at X5 l5 y5 z5 st5 hQ5
  subst l5 y5 z5
  obtain ⟨rfl, Nq5, e5⟩ := hQ5
  have N5 := Fr.app N4 Nq5
  refine Gl.go (fun _ k => st5 _ k) ?_
  show Gl _ _ _ _ (T5.setTop (mkF m 47 #[.val (.ref aP), .val (.int ap), .val (.int (ap + rl)), .val (.ref aR), .val (.int rs), .val (.int (rs + rl)), .val (.int rl), .val (.int rl)] [(.int (miV (gL lP) (gL lR) ap rs rl 4 (0 : Int32)))]))
  by_cases hA : (miV (gL lP) (gL lR) ap rs rl 4 (0 : Int32)) < (0 : Int32)
  · skip
    refine Gl.go (fun _ k => XS.ifNo X5.here hx rfl (hb hby d10_47) rfl ((if0 _ _).trans (tlt hA).2.1) k) ?_
    show Gl _ _ _ _ (T5.setTop (mkF m 50 #[.val (.ref aP), .val (.int ap), .val (.int (ap + rl)), .val (.ref aR), .val (.int rs), .val (.int (rs + rl)), .val (.int rl), .val (.int rl)] []))
    refine Gl.go (fun _ k => XS.iconst X5.here hx rfl (hb hby d10_50) k) ?_
    show Gl _ _ _ _ (T5.setTop (mkF m 51 #[.val (.ref aP), .val (.int ap), .val (.int (ap + rl)), .val (.ref aR), .val (.int rs), .val (.int (rs + rl)), .val (.int rl), .val (.int rl)] [(.int (1 : Int32))]))
    refine Gl.go (fun _ k => XS.goto X5.here hx rfl (pc0 := 51) (pc' := 55) rfl (hb hby d10_51) (by decide) (by decide) k) ?_
    show Gl _ _ _ _ (T5.setTop (mkF m 55 #[.val (.ref aP), .val (.int ap), .val (.int (ap + rl)), .val (.ref aR), .val (.int rs), .val (.int (rs + rl)), .val (.int rl), .val (.int rl)] [(.int (1 : Int32))]))
    refine leafN X5 hx hlk (t := .boolean) Bd.returns (by simp) (hb hby d10_55) ?_ (by decide) (by decide)
    exact ⟨by rw [nar1, eqV, if_pos hA], N5, e5⟩
  · skip
    refine Gl.go (fun _ k => XS.ifYes X5.here hx rfl (pc0 := 47) (pc' := 54) rfl (hb hby d10_47) rfl ((if0 _ _).trans (flt hA).2.1) (by decide) (by decide) k) ?_
    show Gl _ _ _ _ (T5.setTop (mkF m 54 #[.val (.ref aP), .val (.int ap), .val (.int (ap + rl)), .val (.ref aR), .val (.int rs), .val (.int (rs + rl)), .val (.int rl), .val (.int rl)] []))
    refine Gl.go (fun _ k => XS.iconst X5.here hx rfl (hb hby d10_54) k) ?_
    show Gl _ _ _ _ (T5.setTop (mkF m 55 #[.val (.ref aP), .val (.int ap), .val (.int (ap + rl)), .val (.ref aR), .val (.int rs), .val (.int (rs + rl)), .val (.int rl), .val (.int rl)] [(.int (0 : Int32))]))
    refine leafN X5 hx hlk (t := .boolean) Bd.returns (by simp) (hb hby d10_55) ?_ (by decide) (by decide)
    exact ⟨by rw [nar0, eqV, if_neg hA], N5, e5⟩
def Q_oc (Z : State) (aP : Addr) (kP : ClassId) (zP : Int32) (lP : List Int32) (aR : Addr) (kR : ClassId) (zR : Int32) (lR : List Int32) (ap rs rl : Int32) (h0 : Heap) (n0 : Nat) (v : Option Value) (h : Heap) (L : List Loc) : Prop := v = some (.int (ocV zP (gL lP) (gL lR) ap rs rl)) ∧ Fr n0 L ∧ h = h0
set_option maxRecDepth 65536 in
set_option maxHeartbeats 40000000 in
theorem rm_oc (l : Launch) (Z : State) (a0 : Array Value) (hw : ∀ d ∈ tables_1, d.before a0 Z = true) (ws : List Jvm.Cond) (aP : Addr) (kP : ClassId) (zP : Int32) (lP : List Int32) (aR : Addr) (kR : ClassId) (zR : Int32) (lR : List Int32) (ap rs rl : Int32) (h0 : Heap) (n0 : Nat) (Z0 : n0 ≤ h0.size) (VP : Arv Z h0 aP kP .byte zP (lP.map Value.int) (.int (0 : Int32))) (bP : 0 ≤ zP.toInt ∧ zP.toInt ≤ 4) (VR : Arv Z h0 aR kR .byte zR (lR.map Value.int) (.int (0 : Int32))) (bR : 0 ≤ zR.toInt ∧ zR.toInt ≤ 4) (c1 : 0 ≤ ap.toInt ∧ ap.toInt ≤ 8) (c2 : 0 ≤ rl.toInt) (c4 : 0 ≤ rs.toInt) (c5 : rs.toInt + rl.toInt ≤ zR.toInt) :
    MetFree l (⟨"com/example/aloud/aloud/PathPattern", "occursAt", "([BI[BII)Z"⟩ : MethodName) (head1 (Jvm.Cond.code (⟨"com/example/aloud/aloud/PathPattern", "occursAt", "([BI[BII)Z"⟩ : MethodName) prog_15_method_14_code 6 (some .boolean) :: ws) ({ frames := 2, cells := 0, slots := 0, locals := 38 } : Room)) (fun aa U => aa = #[(.ref aP), (.int ap), (.ref aR), (.int rs), (.int rl)] ∧ Z.Warmed39 U.vm ∧ U.heap = h0) (fun _ _ _ _ _ => True) (fun _ U o U' => ∃ v L, o = .returned v ∧ Q_oc Z aP kP zP lP aR kR zR lR ap rs rl h0 n0 v U'.heap L ∧ FrameEnd U o U' L ({ frames := 2, cells := 0, slots := 0, locals := 38 } : Room).cells ({ frames := 2, cells := 0, slots := 0, locals := 38 } : Room).slots) := by
  refine MetFree.of_bodySF (plainFor_of_name pn_0) hisR ?_
  intro p e s m args below meth c s₁ Bd hml0 hP hK
  obtain ⟨rfl, hZ, hh⟩ := hP
  have hx := Bd.exec
  have hby := Bd.bytes
  have hml : c.maxLocals = 6 := hml0
  have hown : s.vm.findClass "com/example/aloud/aloud/PathPattern" = some m.cls := findClass_of_methodNamed Bd.named
  have hnm := (name_of_methodNamed Bd.named Bd.method).1
  have hlk : meth.locks = false := BodyLoose.notSynchronized Bd
  have X0 : Stand p l e ({ frames := 2, cells := 0, slots := 0, locals := 38 } : Room) s m #[(.ref aP), (.int ap), (.ref aR), (.int rs), (.int rl)] below meth c s₁ [] 0 0 := Stand.of_body Bd
  have e0 : s₁.heap = h0 := by rw [← hh, Bd.state]; rfl
  have N0 := Fr.nil n0
  have K0 : Keep h0 h0 [] := Keep.refl _ _
  show Gl p.tables e below (QQof s (Q_oc Z aP kP zP lP aR kR zR lR ap rs rl h0 n0) 0 0) (s₁.setTop (entryFrame m #[(.ref aP), (.int ap), (.ref aR), (.int rs), (.int rl)] 6))
  refine Gl.go (fun t k => castTop (ef_oc m aP ap aR rs rl) k) ?_
  show Gl _ _ _ _ (s₁.setTop (mkF m 0 #[.val (.ref aP), .val (.int ap), .val (.ref aR), .val (.int rs), .val (.int rl), .unset] []))
  refine Gl.go (fun _ k => XS.iloadN X0.here hx rfl (hb hby d9_0) rfl  k) ?_
  show Gl _ _ _ _ (s₁.setTop (mkF m 1 #[.val (.ref aP), .val (.int ap), .val (.ref aR), .val (.int rs), .val (.int rl), .unset] [(.int ap)]))
  refine Gl.go (fun _ k => XS.iload X0.here hx rfl (hb hby d9_1) rfl  k) ?_
  show Gl _ _ _ _ (s₁.setTop (mkF m 3 #[.val (.ref aP), .val (.int ap), .val (.ref aR), .val (.int rs), .val (.int rl), .unset] [(.int rl), (.int ap)]))
  refine Gl.go (fun _ k => XS.iadd X0.here hx rfl (hb hby d9_3) rfl k) ?_
  show Gl _ _ _ _ (s₁.setTop (mkF m 4 #[.val (.ref aP), .val (.int ap), .val (.ref aR), .val (.int rs), .val (.int rl), .unset] [(.int (ap + rl))]))
  refine Gl.go (fun _ k => XS.istore X0.here hx rfl (hb hby d9_4) rfl (l' := #[.val (.ref aP), .val (.int ap), .val (.ref aR), .val (.int rs), .val (.int rl), .val (.int (ap + rl))]) rfl k) ?_
  show Gl _ _ _ _ (s₁.setTop (mkF m 6 #[.val (.ref aP), .val (.int ap), .val (.ref aR), .val (.int rs), .val (.int rl), .val (.int (ap + rl))] []))
  refine Gl.go (fun _ k => XS.iload X0.here hx rfl (hb hby d9_6) rfl  k) ?_
  show Gl _ _ _ _ (s₁.setTop (mkF m 8 #[.val (.ref aP), .val (.int ap), .val (.ref aR), .val (.int rs), .val (.int rl), .val (.int (ap + rl))] [(.int (ap + rl))]))
  refine Gl.go (fun _ k => XS.aloadN X0.here hx rfl (hb hby d9_8) rfl rfl  k) ?_
  show Gl _ _ _ _ (s₁.setTop (mkF m 9 #[.val (.ref aP), .val (.int ap), .val (.ref aR), .val (.int rs), .val (.int rl), .val (.int (ap + rl))] [(.ref aP), (.int (ap + rl))]))
  obtain ⟨cl1, Ar1, qA1, SA1, NA1, HA1, GA1⟩ := id VP
  refine Gl.go (fun _ k => X0.arraylength hx (by rw [e0]; exact Ar1.1) (State.isArrayOf_alike hZ.alike Ar1.2.1) (g := (mkF m 9 #[.val (.ref aP), .val (.int ap), .val (.ref aR), .val (.int rs), .val (.int rl), .val (.int (ap + rl))] [(.ref aP), (.int (ap + rl))])) rfl rfl (hb hby d9_9) _ k) ?_
  rw [len_of SA1 NA1]
  show Gl _ _ _ _ (s₁.setTop (mkF m 10 #[.val (.ref aP), .val (.int ap), .val (.ref aR), .val (.int rs), .val (.int rl), .val (.int (ap + rl))] [(.int zP), (.int (ap + rl))]))
  by_cases hA : zP < (ap + rl)
  · skip
    refine Gl.go (fun _ k => XS.icmpYes X0.here hx rfl (pc0 := 10) (pc' := 33) rfl (hb hby d9_10) rfl (tlt hA).2.2.1 (by decide) (by decide) k) ?_
    show Gl _ _ _ _ (s₁.setTop (mkF m 33 #[.val (.ref aP), .val (.int ap), .val (.ref aR), .val (.int rs), .val (.int rl), .val (.int (ap + rl))] []))
    refine Gl.go (fun _ k => XS.iconst X0.here hx rfl (hb hby d9_33) k) ?_
    show Gl _ _ _ _ (s₁.setTop (mkF m 34 #[.val (.ref aP), .val (.int ap), .val (.ref aR), .val (.int rs), .val (.int rl), .val (.int (ap + rl))] [(.int (0 : Int32))]))
    refine leafN X0 hx hlk (t := .boolean) Bd.returns (by simp) (hb hby d9_34) ?_ (by decide) (by decide)
    exact ⟨by rw [nar0, ocV, if_pos hA], N0, e0⟩
  · skip
    refine Gl.go (fun _ k => XS.icmpNo X0.here hx rfl (hb hby d9_10) rfl (flt hA).2.2.1 k) ?_
    show Gl _ _ _ _ (s₁.setTop (mkF m 13 #[.val (.ref aP), .val (.int ap), .val (.ref aR), .val (.int rs), .val (.int rl), .val (.int (ap + rl))] []))
    refine Gl.go (fun _ k => XS.aloadN X0.here hx rfl (hb hby d9_13) rfl rfl  k) ?_
    show Gl _ _ _ _ (s₁.setTop (mkF m 14 #[.val (.ref aP), .val (.int ap), .val (.ref aR), .val (.int rs), .val (.int rl), .val (.int (ap + rl))] [(.ref aP)]))
    refine Gl.go (fun _ k => XS.iloadN X0.here hx rfl (hb hby d9_14) rfl  k) ?_
    show Gl _ _ _ _ (s₁.setTop (mkF m 15 #[.val (.ref aP), .val (.int ap), .val (.ref aR), .val (.int rs), .val (.int rl), .val (.int (ap + rl))] [(.int ap), (.ref aP)]))
    refine Gl.go (fun _ k => XS.iload X0.here hx rfl (hb hby d9_15) rfl  k) ?_
    show Gl _ _ _ _ (s₁.setTop (mkF m 17 #[.val (.ref aP), .val (.int ap), .val (.ref aR), .val (.int rs), .val (.int rl), .val (.int (ap + rl))] [(.int (ap + rl)), (.int ap), (.ref aP)]))
    refine Gl.go (fun _ k => XS.aloadN X0.here hx rfl (hb hby d9_17) rfl rfl  k) ?_
    show Gl _ _ _ _ (s₁.setTop (mkF m 18 #[.val (.ref aP), .val (.int ap), .val (.ref aR), .val (.int rs), .val (.int rl), .val (.int (ap + rl))] [(.ref aR), (.int (ap + rl)), (.int ap), (.ref aP)]))
    refine Gl.go (fun _ k => XS.iloadN X0.here hx rfl (hb hby d9_18) rfl  k) ?_
    show Gl _ _ _ _ (s₁.setTop (mkF m 19 #[.val (.ref aP), .val (.int ap), .val (.ref aR), .val (.int rs), .val (.int rl), .val (.int (ap + rl))] [(.int rs), (.ref aR), (.int (ap + rl)), (.int ap), (.ref aP)]))
    refine Gl.go (fun _ k => XS.iloadN X0.here hx rfl (hb hby d9_19) rfl  k) ?_
    show Gl _ _ _ _ (s₁.setTop (mkF m 20 #[.val (.ref aP), .val (.int ap), .val (.ref aR), .val (.int rs), .val (.int rl), .val (.int (ap + rl))] [(.int rs), (.int rs), (.ref aR), (.int (ap + rl)), (.int ap), (.ref aP)]))
    refine Gl.go (fun _ k => XS.iload X0.here hx rfl (hb hby d9_20) rfl  k) ?_
    show Gl _ _ _ _ (s₁.setTop (mkF m 22 #[.val (.ref aP), .val (.int ap), .val (.ref aR), .val (.int rs), .val (.int rl), .val (.int (ap + rl))] [(.int rl), (.int rs), (.int rs), (.ref aR), (.int (ap + rl)), (.int ap), (.ref aP)]))
    refine Gl.go (fun _ k => XS.iadd X0.here hx rfl (hb hby d9_22) rfl k) ?_
    show Gl _ _ _ _ (s₁.setTop (mkF m 23 #[.val (.ref aP), .val (.int ap), .val (.ref aR), .val (.int rs), .val (.int rl), .val (.int (ap + rl))] [(.int (rs + rl)), (.int rs), (.ref aR), (.int (ap + rl)), (.int ap), (.ref aP)]))
    obtain ⟨_, _, ⟨T2, L2, k2, n2⟩, -, X2, ⟨Lc2, hQ2, l2, y2, z2⟩, st2⟩ := Jvm.LawKit.callS X0 hx (y := (⟨"java/util/Arrays", "equals", "([BII[BII)Z"⟩ : MethodName)) hown (mvT hZ (hw _ (List.mem_of_getElem? (i := 30) rfl))) (mvT hZ (hw _ (List.mem_of_getElem? (i := 31) rfl))) (mvT hZ (hw _ (List.mem_of_getElem? (i := 32) rfl))) (mvT hZ (hw _ (List.mem_of_getElem? (i := 33) rfl))) (by decide) (backOf (W := 0) (rm_eq l Z a0 hw [] aP kP zP lP aR kR zR lR ap rs rl h0 n0 Z0 VP bP VR bR c1.1 c2 (o_c3 hA c1 c2 c4 c5 bR) c4 c5) hZ (hw _ (List.mem_of_getElem? (i := 33) rfl)) (hw _ (List.mem_of_getElem? (i := 32) rfl)) (by decide) (by decide)) (g := (mkF m 23 #[.val (.ref aP), .val (.int ap), .val (.ref aR), .val (.int rs), .val (.int rl), .val (.int (ap + rl))] [(.int (rs + rl)), (.int rs), (.ref aR), (.int (ap + rl)), (.int ap), (.ref aP)])) rfl (by rw [hml]; rfl) (argsL := [(.ref aP), (.int ap), (.int (ap + rl)), (.ref aR), (.int rs), (.int (rs + rl))]) (rest := []) (lenOf pd_3 rfl) rfl (by show 2 * 0 + _ ≤ _; exact Nat.le_of_eq rfl) (hb hby d9_23) (fun _ _ => ⟨rfl, e0, (by decide : 0 + 0 ≤ _), (by decide : 0 + 0 ≤ _)⟩)
    dsimp only [Pt.U, Pt.locs, Pt.cells, Pt.slots] at X2 l2 y2 z2 st2 hQ2
    subst l2 y2 z2
    obtain ⟨rfl, Nq2, e2⟩ := hQ2
    have N2 := Fr.app N0 Nq2
    refine Gl.go (fun _ k => st2 _ k) ?_
    show Gl _ _ _ _ (T2.setTop (mkF m 26 #[.val (.ref aP), .val (.int ap), .val (.ref aR), .val (.int rs), .val (.int rl), .val (.int (ap + rl))] [(.int (eqV (gL lP) (gL lR) ap rs rl))]))
    by_cases hB : (eqV (gL lP) (gL lR) ap rs rl) = (0 : Int32)
    · skip
      refine Gl.go (fun _ k => XS.ifYes X2.here hx rfl (pc0 := 26) (pc' := 33) rfl (hb hby d9_26) rfl ((if0 _ _).trans (teq hB).1) (by decide) (by decide) k) ?_
      show Gl _ _ _ _ (T2.setTop (mkF m 33 #[.val (.ref aP), .val (.int ap), .val (.ref aR), .val (.int rs), .val (.int rl), .val (.int (ap + rl))] []))
      refine Gl.go (fun _ k => XS.iconst X2.here hx rfl (hb hby d9_33) k) ?_
      show Gl _ _ _ _ (T2.setTop (mkF m 34 #[.val (.ref aP), .val (.int ap), .val (.ref aR), .val (.int rs), .val (.int rl), .val (.int (ap + rl))] [(.int (0 : Int32))]))
      refine leafN X2 hx hlk (t := .boolean) Bd.returns (by simp) (hb hby d9_34) ?_ (by decide) (by decide)
      exact ⟨by rw [nar0, ocV, if_neg hA, if_pos hB], N2, e2⟩
    · skip
      refine Gl.go (fun _ k => XS.ifNo X2.here hx rfl (hb hby d9_26) rfl ((if0 _ _).trans (feq hB).1) k) ?_
      show Gl _ _ _ _ (T2.setTop (mkF m 29 #[.val (.ref aP), .val (.int ap), .val (.ref aR), .val (.int rs), .val (.int rl), .val (.int (ap + rl))] []))
      refine Gl.go (fun _ k => XS.iconst X2.here hx rfl (hb hby d9_29) k) ?_
      show Gl _ _ _ _ (T2.setTop (mkF m 30 #[.val (.ref aP), .val (.int ap), .val (.ref aR), .val (.int rs), .val (.int rl), .val (.int (ap + rl))] [(.int (1 : Int32))]))
      refine Gl.go (fun _ k => XS.goto X2.here hx rfl (pc0 := 30) (pc' := 34) rfl (hb hby d9_30) (by decide) (by decide) k) ?_
      show Gl _ _ _ _ (T2.setTop (mkF m 34 #[.val (.ref aP), .val (.int ap), .val (.ref aR), .val (.int rs), .val (.int rl), .val (.int (ap + rl))] [(.int (1 : Int32))]))
      refine leafN X2 hx hlk (t := .boolean) Bd.returns (by simp) (hb hby d9_34) ?_ (by decide) (by decide)
      exact ⟨by rw [nar1, ocV, if_neg hA, if_neg hB], N2, e2⟩
def Q_io (Z : State) (aP : Addr) (kP : ClassId) (zP : Int32) (lP : List Int32) (aR : Addr) (kR : ClassId) (zR : Int32) (lR : List Int32) (fi rs rf : Int32) (h0 : Heap) (n0 : Nat) (v : Option Value) (h : Heap) (L : List Loc) : Prop := v = some (.int (ioV zP (gL lP) (gL lR) fi rs rf)) ∧ Fr n0 L ∧ h = h0
set_option maxRecDepth 65536 in
set_option maxHeartbeats 40000000 in
theorem rm_io (l : Launch) (Z : State) (a0 : Array Value) (hw : ∀ d ∈ tables_1, d.before a0 Z = true) (ws : List Jvm.Cond) (aP : Addr) (kP : ClassId) (zP : Int32) (lP : List Int32) (aR : Addr) (kR : ClassId) (zR : Int32) (lR : List Int32) (fi rs rf : Int32) (h0 : Heap) (n0 : Nat) (Z0 : n0 ≤ h0.size) (VP : Arv Z h0 aP kP .byte zP (lP.map Value.int) (.int (0 : Int32))) (bP : 0 ≤ zP.toInt ∧ zP.toInt ≤ 4) (VR : Arv Z h0 aR kR .byte zR (lR.map Value.int) (.int (0 : Int32))) (bR : 0 ≤ zR.toInt ∧ zR.toInt ≤ 4) (c1 : 0 ≤ fi.toInt ∧ fi.toInt ≤ 4) (c2 : 0 ≤ rs.toInt ∧ rs.toInt ≤ rf.toInt ∧ rf.toInt ≤ zR.toInt) :
    MetFree l (⟨"com/example/aloud/aloud/PathPattern", "indexOf", "([BI[BII)I"⟩ : MethodName) (head1 (Jvm.Cond.code (⟨"com/example/aloud/aloud/PathPattern", "indexOf", "([BI[BII)I"⟩ : MethodName) prog_15_method_15_code 9 (some .int) :: ws) ({ frames := 3, cells := 0, slots := 0, locals := 55 } : Room)) (fun aa U => aa = #[(.ref aP), (.int fi), (.ref aR), (.int rs), (.int rf)] ∧ Z.Warmed39 U.vm ∧ U.heap = h0) (fun _ _ _ _ _ => True) (fun _ U o U' => ∃ v L, o = .returned v ∧ Q_io Z aP kP zP lP aR kR zR lR fi rs rf h0 n0 v U'.heap L ∧ FrameEnd U o U' L ({ frames := 3, cells := 0, slots := 0, locals := 55 } : Room).cells ({ frames := 3, cells := 0, slots := 0, locals := 55 } : Room).slots) := by
  refine MetFree.of_bodySF (plainFor_of_name pn_0) hisR ?_
  intro p e s m args below meth c s₁ Bd hml0 hP hK
  obtain ⟨rfl, hZ, hh⟩ := hP
  have hx := Bd.exec
  have hby := Bd.bytes
  have hml : c.maxLocals = 9 := hml0
  have hown : s.vm.findClass "com/example/aloud/aloud/PathPattern" = some m.cls := findClass_of_methodNamed Bd.named
  have hnm := (name_of_methodNamed Bd.named Bd.method).1
  have hlk : meth.locks = false := BodyLoose.notSynchronized Bd
  have X0 : Stand p l e ({ frames := 3, cells := 0, slots := 0, locals := 55 } : Room) s m #[(.ref aP), (.int fi), (.ref aR), (.int rs), (.int rf)] below meth c s₁ [] 0 0 := Stand.of_body Bd
  have e0 : s₁.heap = h0 := by rw [← hh, Bd.state]; rfl
  have N0 := Fr.nil n0
  have K0 : Keep h0 h0 [] := Keep.refl _ _
  show Gl p.tables e below (QQof s (Q_io Z aP kP zP lP aR kR zR lR fi rs rf h0 n0) 0 0) (s₁.setTop (entryFrame m #[(.ref aP), (.int fi), (.ref aR), (.int rs), (.int rf)] 9))
  refine Gl.go (fun t k => castTop (ef_io m aP fi aR rs rf) k) ?_
  show Gl _ _ _ _ (s₁.setTop (mkF m 0 #[.val (.ref aP), .val (.int fi), .val (.ref aR), .val (.int rs), .val (.int rf), .unset, .unset, .unset, .unset] []))
  refine Gl.go (fun _ k => XS.iload X0.here hx rfl (hb hby d16_0) rfl  k) ?_
  show Gl _ _ _ _ (s₁.setTop (mkF m 2 #[.val (.ref aP), .val (.int fi), .val (.ref aR), .val (.int rs), .val (.int rf), .unset, .unset, .unset, .unset] [(.int rf)]))
  refine Gl.go (fun _ k => XS.iloadN X0.here hx rfl (hb hby d16_2) rfl  k) ?_
  show Gl _ _ _ _ (s₁.setTop (mkF m 3 #[.val (.ref aP), .val (.int fi), .val (.ref aR), .val (.int rs), .val (.int rf), .unset, .unset, .unset, .unset] [(.int rs), (.int rf)]))
  refine Gl.go (fun _ k => XS.isub X0.here hx rfl (hb hby d16_3) rfl k) ?_
  show Gl _ _ _ _ (s₁.setTop (mkF m 4 #[.val (.ref aP), .val (.int fi), .val (.ref aR), .val (.int rs), .val (.int rf), .unset, .unset, .unset, .unset] [(.int (rf - rs))]))
  refine Gl.go (fun _ k => XS.istore X0.here hx rfl (hb hby d16_4) rfl (l' := #[.val (.ref aP), .val (.int fi), .val (.ref aR), .val (.int rs), .val (.int rf), .val (.int (rf - rs)), .unset, .unset, .unset]) rfl k) ?_
  show Gl _ _ _ _ (s₁.setTop (mkF m 6 #[.val (.ref aP), .val (.int fi), .val (.ref aR), .val (.int rs), .val (.int rf), .val (.int (rf - rs)), .unset, .unset, .unset] []))
  refine Gl.go (fun _ k => XS.aloadN X0.here hx rfl (hb hby d16_6) rfl rfl  k) ?_
  show Gl _ _ _ _ (s₁.setTop (mkF m 7 #[.val (.ref aP), .val (.int fi), .val (.ref aR), .val (.int rs), .val (.int rf), .val (.int (rf - rs)), .unset, .unset, .unset] [(.ref aP)]))
  obtain ⟨cl1, Ar1, qA1, SA1, NA1, HA1, GA1⟩ := id VP
  refine Gl.go (fun _ k => X0.arraylength hx (by rw [e0]; exact Ar1.1) (State.isArrayOf_alike hZ.alike Ar1.2.1) (g := (mkF m 7 #[.val (.ref aP), .val (.int fi), .val (.ref aR), .val (.int rs), .val (.int rf), .val (.int (rf - rs)), .unset, .unset, .unset] [(.ref aP)])) rfl rfl (hb hby d16_7) _ k) ?_
  rw [len_of SA1 NA1]
  show Gl _ _ _ _ (s₁.setTop (mkF m 8 #[.val (.ref aP), .val (.int fi), .val (.ref aR), .val (.int rs), .val (.int rf), .val (.int (rf - rs)), .unset, .unset, .unset] [(.int zP)]))
  refine Gl.go (fun _ k => XS.iload X0.here hx rfl (hb hby d16_8) rfl  k) ?_
  show Gl _ _ _ _ (s₁.setTop (mkF m 10 #[.val (.ref aP), .val (.int fi), .val (.ref aR), .val (.int rs), .val (.int rf), .val (.int (rf - rs)), .unset, .unset, .unset] [(.int (rf - rs)), (.int zP)]))
  refine Gl.go (fun _ k => XS.isub X0.here hx rfl (hb hby d16_10) rfl k) ?_
  show Gl _ _ _ _ (s₁.setTop (mkF m 11 #[.val (.ref aP), .val (.int fi), .val (.ref aR), .val (.int rs), .val (.int rf), .val (.int (rf - rs)), .unset, .unset, .unset] [(.int (zP - (rf - rs)))]))
  refine Gl.go (fun _ k => XS.istore X0.here hx rfl (hb hby d16_11) rfl (l' := #[.val (.ref aP), .val (.int fi), .val (.ref aR), .val (.int rs), .val (.int rf), .val (.int (rf - rs)), .val (.int (zP - (rf - rs))), .unset, .unset]) rfl k) ?_
  show Gl _ _ _ _ (s₁.setTop (mkF m 13 #[.val (.ref aP), .val (.int fi), .val (.ref aR), .val (.int rs), .val (.int rf), .val (.int (rf - rs)), .val (.int (zP - (rf - rs))), .unset, .unset] []))
  refine Gl.go (fun _ k => XS.iload X0.here hx rfl (hb hby d16_13) rfl  k) ?_
  show Gl _ _ _ _ (s₁.setTop (mkF m 15 #[.val (.ref aP), .val (.int fi), .val (.ref aR), .val (.int rs), .val (.int rf), .val (.int (rf - rs)), .val (.int (zP - (rf - rs))), .unset, .unset] [(.int (rf - rs))]))
  have hrl := o_rl c2 bR
  have hls := o_ls (zP := zP) hrl c2 bR bP
  by_cases hA : (rf - rs) = (0 : Int32)
  · skip
    refine Gl.go (fun _ k => XS.ifNo X0.here hx rfl (hb hby d16_15) rfl ((if0 _ _).trans (teq hA).2) k) ?_
    show Gl _ _ _ _ (s₁.setTop (mkF m 18 #[.val (.ref aP), .val (.int fi), .val (.ref aR), .val (.int rs), .val (.int rf), .val (.int (rf - rs)), .val (.int (zP - (rf - rs))), .unset, .unset] []))
    refine Gl.go (fun _ k => XS.iloadN X0.here hx rfl (hb hby d16_18) rfl  k) ?_
    show Gl _ _ _ _ (s₁.setTop (mkF m 19 #[.val (.ref aP), .val (.int fi), .val (.ref aR), .val (.int rs), .val (.int rf), .val (.int (rf - rs)), .val (.int (zP - (rf - rs))), .unset, .unset] [(.int fi)]))
    refine Gl.go (fun _ k => XS.iload X0.here hx rfl (hb hby d16_19) rfl  k) ?_
    show Gl _ _ _ _ (s₁.setTop (mkF m 21 #[.val (.ref aP), .val (.int fi), .val (.ref aR), .val (.int rs), .val (.int rf), .val (.int (rf - rs)), .val (.int (zP - (rf - rs))), .unset, .unset] [(.int (zP - (rf - rs))), (.int fi)]))
    by_cases hB : (zP - (rf - rs)) < fi
    · skip
      refine Gl.go (fun _ k => XS.icmpYes X0.here hx rfl (pc0 := 21) (pc' := 28) rfl (hb hby d16_21) rfl (tlt hB).2.2.1 (by decide) (by decide) k) ?_
      show Gl _ _ _ _ (s₁.setTop (mkF m 28 #[.val (.ref aP), .val (.int fi), .val (.ref aR), .val (.int rs), .val (.int rf), .val (.int (rf - rs)), .val (.int (zP - (rf - rs))), .unset, .unset] []))
      refine Gl.go (fun _ k => XS.iconst X0.here hx rfl (hb hby d16_28) k) ?_
      show Gl _ _ _ _ (s₁.setTop (mkF m 29 #[.val (.ref aP), .val (.int fi), .val (.ref aR), .val (.int rs), .val (.int rf), .val (.int (rf - rs)), .val (.int (zP - (rf - rs))), .unset, .unset] [(.int (-1 : Int32))]))
      refine leafI X0 hx hlk Bd.returns (hb hby d16_29) ?_ (by decide) (by decide)
      exact ⟨by rw [ioV, if_pos hA, if_pos hB], N0, e0⟩
    · skip
      refine Gl.go (fun _ k => XS.icmpNo X0.here hx rfl (hb hby d16_21) rfl (flt hB).2.2.1 k) ?_
      show Gl _ _ _ _ (s₁.setTop (mkF m 24 #[.val (.ref aP), .val (.int fi), .val (.ref aR), .val (.int rs), .val (.int rf), .val (.int (rf - rs)), .val (.int (zP - (rf - rs))), .unset, .unset] []))
      refine Gl.go (fun _ k => XS.iloadN X0.here hx rfl (hb hby d16_24) rfl  k) ?_
      show Gl _ _ _ _ (s₁.setTop (mkF m 25 #[.val (.ref aP), .val (.int fi), .val (.ref aR), .val (.int rs), .val (.int rf), .val (.int (rf - rs)), .val (.int (zP - (rf - rs))), .unset, .unset] [(.int fi)]))
      refine Gl.go (fun _ k => XS.goto X0.here hx rfl (pc0 := 25) (pc' := 29) rfl (hb hby d16_25) (by decide) (by decide) k) ?_
      show Gl _ _ _ _ (s₁.setTop (mkF m 29 #[.val (.ref aP), .val (.int fi), .val (.ref aR), .val (.int rs), .val (.int rf), .val (.int (rf - rs)), .val (.int (zP - (rf - rs))), .unset, .unset] [(.int fi)]))
      refine leafI X0 hx hlk Bd.returns (hb hby d16_29) ?_ (by decide) (by decide)
      exact ⟨by rw [ioV, if_pos hA, if_neg hB], N0, e0⟩
  · skip
    refine Gl.go (fun _ k => XS.ifYes X0.here hx rfl (pc0 := 15) (pc' := 30) rfl (hb hby d16_15) rfl ((if0 _ _).trans (feq hA).2) (by decide) (by decide) k) ?_
    show Gl _ _ _ _ (s₁.setTop (mkF m 30 #[.val (.ref aP), .val (.int fi), .val (.ref aR), .val (.int rs), .val (.int rf), .val (.int (rf - rs)), .val (.int (zP - (rf - rs))), .unset, .unset] []))
    have hpos := o_pos hA hrl c2
    refine Gl.go (fun _ k => XS.aloadN X0.here hx rfl (hb hby d16_30) rfl rfl  k) ?_
    show Gl _ _ _ _ (s₁.setTop (mkF m 31 #[.val (.ref aP), .val (.int fi), .val (.ref aR), .val (.int rs), .val (.int rf), .val (.int (rf - rs)), .val (.int (zP - (rf - rs))), .unset, .unset] [(.ref aR)]))
    refine Gl.go (fun _ k => XS.iloadN X0.here hx rfl (hb hby d16_31) rfl  k) ?_
    show Gl _ _ _ _ (s₁.setTop (mkF m 32 #[.val (.ref aP), .val (.int fi), .val (.ref aR), .val (.int rs), .val (.int rf), .val (.int (rf - rs)), .val (.int (zP - (rf - rs))), .unset, .unset] [(.int rs), (.ref aR)]))
    obtain ⟨cl2, Ar2, qA2, SA2, NA2, HA2, GA2⟩ := id VR
    have hin2 := inb_of (j := rs) SA2 (o_rs hpos hrl c2)
    have hat2 : cl2.slots[(rs).toNatClampNeg]? = some (.int (gL lR rs)) := HA2.at hin2 (own_gl lR rs)
    refine Gl.go (fun _ k => X0.baloadBytes hx (j := rs) (v := (.int (gL lR rs))) (by rw [e0]; exact Ar2.1) (State.isArrayOf_alike hZ.alike Ar2.2.1) Ar2.2.2 hin2 hat2 (g := (mkF m 32 #[.val (.ref aP), .val (.int fi), .val (.ref aR), .val (.int rs), .val (.int rf), .val (.int (rf - rs)), .val (.int (zP - (rf - rs))), .unset, .unset] [(.int rs), (.ref aR)])) rfl rfl (hb hby d16_32) _ k) ?_
    show Gl _ _ _ _ (s₁.setTop (mkF m 33 #[.val (.ref aP), .val (.int fi), .val (.ref aR), .val (.int rs), .val (.int rf), .val (.int (rf - rs)), .val (.int (zP - (rf - rs))), .unset, .unset] [(.int (gL lR rs))]))
    refine Gl.go (fun _ k => XS.istore X0.here hx rfl (hb hby d16_33) rfl (l' := #[.val (.ref aP), .val (.int fi), .val (.ref aR), .val (.int rs), .val (.int rf), .val (.int (rf - rs)), .val (.int (zP - (rf - rs))), .val (.int (gL lR rs)), .unset]) rfl k) ?_
    show Gl _ _ _ _ (s₁.setTop (mkF m 35 #[.val (.ref aP), .val (.int fi), .val (.ref aR), .val (.int rs), .val (.int rf), .val (.int (rf - rs)), .val (.int (zP - (rf - rs))), .val (.int (gL lR rs)), .unset] []))
    refine Gl.go (fun _ k => XS.iloadN X0.here hx rfl (hb hby d16_35) rfl  k) ?_
    show Gl _ _ _ _ (s₁.setTop (mkF m 36 #[.val (.ref aP), .val (.int fi), .val (.ref aR), .val (.int rs), .val (.int rf), .val (.int (rf - rs)), .val (.int (zP - (rf - rs))), .val (.int (gL lR rs)), .unset] [(.int fi)]))
    refine Gl.go (fun _ k => XS.istore X0.here hx rfl (hb hby d16_36) rfl (l' := #[.val (.ref aP), .val (.int fi), .val (.ref aR), .val (.int rs), .val (.int rf), .val (.int (rf - rs)), .val (.int (zP - (rf - rs))), .val (.int (gL lR rs)), .val (.int fi)]) rfl k) ?_
    show Gl _ _ _ _ (s₁.setTop (mkF m 38 #[.val (.ref aP), .val (.int fi), .val (.ref aR), .val (.int rs), .val (.int rf), .val (.int (rf - rs)), .val (.int (zP - (rf - rs))), .val (.int (gL lR rs)), .val (.int fi)] []))
    have LP : ∀ (k : Nat) (i : Int32) (Tl : State) (Ll : List Loc) (Xl : Stand p l e ({ frames := 3, cells := 0, slots := 0, locals := 55 } : Room) s m #[(.ref aP), (.int fi), (.ref aR), (.int rs), (.int rf)] below meth c Tl Ll 0 0) (el : Tl.heap = h0) (Nl : Fr n0 Ll), (zP - (rf - rs)).toInt < i.toInt + ((k : Nat) : Int) → 0 ≤ i.toInt → ioL zP (gL lP) (gL lR) rs (rf - rs) (zP - (rf - rs)) k i = ioV zP (gL lP) (gL lR) fi rs rf → Gl p.tables e below (QQof s (Q_io Z aP kP zP lP aR kR zR lR fi rs rf h0 n0) 0 0) (Tl.setTop (mkF m 38 #[.val (.ref aP), .val (.int fi), .val (.ref aR), .val (.int rs), .val (.int rf), .val (.int (rf - rs)), .val (.int (zP - (rf - rs))), .val (.int (gL lR rs)), .val (.int i)] [])) := by
      intro k
      induction k with
      | zero =>
        intro i Tl Ll Xl el Nl q1 q2 q3
        show Gl _ _ _ _ (Tl.setTop (mkF m 38 #[.val (.ref aP), .val (.int fi), .val (.ref aR), .val (.int rs), .val (.int rf), .val (.int (rf - rs)), .val (.int (zP - (rf - rs))), .val (.int (gL lR rs)), .val (.int i)] []))
        refine Gl.go (fun _ k => XS.iload Xl.here hx rfl (hb hby d16_38) rfl  k) ?_
        show Gl _ _ _ _ (Tl.setTop (mkF m 40 #[.val (.ref aP), .val (.int fi), .val (.ref aR), .val (.int rs), .val (.int rf), .val (.int (rf - rs)), .val (.int (zP - (rf - rs))), .val (.int (gL lR rs)), .val (.int i)] [(.int i)]))
        refine Gl.go (fun _ k => XS.iload Xl.here hx rfl (hb hby d16_40) rfl  k) ?_
        show Gl _ _ _ _ (Tl.setTop (mkF m 42 #[.val (.ref aP), .val (.int fi), .val (.ref aR), .val (.int rs), .val (.int rf), .val (.int (rf - rs)), .val (.int (zP - (rf - rs))), .val (.int (gL lR rs)), .val (.int i)] [(.int (zP - (rf - rs))), (.int i)]))
        refine Gl.go (fun _ k => XS.icmpYes Xl.here hx rfl (pc0 := 42) (pc' := 76) rfl (hb hby d16_42) rfl (tlt (o_gt q1)).2.2.1 (by decide) (by decide) k) ?_
        show Gl _ _ _ _ (Tl.setTop (mkF m 76 #[.val (.ref aP), .val (.int fi), .val (.ref aR), .val (.int rs), .val (.int rf), .val (.int (rf - rs)), .val (.int (zP - (rf - rs))), .val (.int (gL lR rs)), .val (.int i)] []))
        refine Gl.go (fun _ k => XS.iconst Xl.here hx rfl (hb hby d16_76) k) ?_
        show Gl _ _ _ _ (Tl.setTop (mkF m 77 #[.val (.ref aP), .val (.int fi), .val (.ref aR), .val (.int rs), .val (.int rf), .val (.int (rf - rs)), .val (.int (zP - (rf - rs))), .val (.int (gL lR rs)), .val (.int i)] [(.int (-1 : Int32))]))
        refine leafI Xl hx hlk Bd.returns (hb hby d16_77) ?_ (by decide) (by decide)
        rw [ioZ zP (gL lP) (gL lR) rs (rf - rs) (zP - (rf - rs)) i] at q3
        exact ⟨congrArg (fun q => some (Value.int q)) q3, Nl, el⟩
      | succ k ih =>
        intro i Tl Ll Xl el Nl q1 q2 q3
        show Gl _ _ _ _ (Tl.setTop (mkF m 38 #[.val (.ref aP), .val (.int fi), .val (.ref aR), .val (.int rs), .val (.int rf), .val (.int (rf - rs)), .val (.int (zP - (rf - rs))), .val (.int (gL lR rs)), .val (.int i)] []))
        refine Gl.go (fun _ k => XS.iload Xl.here hx rfl (hb hby d16_38) rfl  k) ?_
        show Gl _ _ _ _ (Tl.setTop (mkF m 40 #[.val (.ref aP), .val (.int fi), .val (.ref aR), .val (.int rs), .val (.int rf), .val (.int (rf - rs)), .val (.int (zP - (rf - rs))), .val (.int (gL lR rs)), .val (.int i)] [(.int i)]))
        refine Gl.go (fun _ k => XS.iload Xl.here hx rfl (hb hby d16_40) rfl  k) ?_
        show Gl _ _ _ _ (Tl.setTop (mkF m 42 #[.val (.ref aP), .val (.int fi), .val (.ref aR), .val (.int rs), .val (.int rf), .val (.int (rf - rs)), .val (.int (zP - (rf - rs))), .val (.int (gL lR rs)), .val (.int i)] [(.int (zP - (rf - rs))), (.int i)]))
        by_cases hC : (zP - (rf - rs)) < i
        · skip
          refine Gl.go (fun _ k => XS.icmpYes Xl.here hx rfl (pc0 := 42) (pc' := 76) rfl (hb hby d16_42) rfl (tlt hC).2.2.1 (by decide) (by decide) k) ?_
          show Gl _ _ _ _ (Tl.setTop (mkF m 76 #[.val (.ref aP), .val (.int fi), .val (.ref aR), .val (.int rs), .val (.int rf), .val (.int (rf - rs)), .val (.int (zP - (rf - rs))), .val (.int (gL lR rs)), .val (.int i)] []))
          refine Gl.go (fun _ k => XS.iconst Xl.here hx rfl (hb hby d16_76) k) ?_
          show Gl _ _ _ _ (Tl.setTop (mkF m 77 #[.val (.ref aP), .val (.int fi), .val (.ref aR), .val (.int rs), .val (.int rf), .val (.int (rf - rs)), .val (.int (zP - (rf - rs))), .val (.int (gL lR rs)), .val (.int i)] [(.int (-1 : Int32))]))
          refine leafI Xl hx hlk Bd.returns (hb hby d16_77) ?_ (by decide) (by decide)
          rw [ioS zP (gL lP) (gL lR) rs (rf - rs) (zP - (rf - rs)) k i, if_pos hC] at q3
          exact ⟨congrArg (fun q => some (Value.int q)) q3, Nl, el⟩
        · skip
          refine Gl.go (fun _ k => XS.icmpNo Xl.here hx rfl (hb hby d16_42) rfl (flt hC).2.2.1 k) ?_
          show Gl _ _ _ _ (Tl.setTop (mkF m 45 #[.val (.ref aP), .val (.int fi), .val (.ref aR), .val (.int rs), .val (.int rf), .val (.int (rf - rs)), .val (.int (zP - (rf - rs))), .val (.int (gL lR rs)), .val (.int i)] []))
          refine Gl.go (fun _ k => XS.aloadN Xl.here hx rfl (hb hby d16_45) rfl rfl  k) ?_
          show Gl _ _ _ _ (Tl.setTop (mkF m 46 #[.val (.ref aP), .val (.int fi), .val (.ref aR), .val (.int rs), .val (.int rf), .val (.int (rf - rs)), .val (.int (zP - (rf - rs))), .val (.int (gL lR rs)), .val (.int i)] [(.ref aP)]))
          refine Gl.go (fun _ k => XS.iload Xl.here hx rfl (hb hby d16_46) rfl  k) ?_
          show Gl _ _ _ _ (Tl.setTop (mkF m 48 #[.val (.ref aP), .val (.int fi), .val (.ref aR), .val (.int rs), .val (.int rf), .val (.int (rf - rs)), .val (.int (zP - (rf - rs))), .val (.int (gL lR rs)), .val (.int i)] [(.int i), (.ref aP)]))
          obtain ⟨cl3, Ar3, qA3, SA3, NA3, HA3, GA3⟩ := id VP
          have hin3 := inb_of (j := i) SA3 (o_ii q2 hC hls hpos)
          have hat3 : cl3.slots[(i).toNatClampNeg]? = some (.int (gL lP i)) := HA3.at hin3 (own_gl lP i)
          refine Gl.go (fun _ k => Xl.baloadBytes hx (j := i) (v := (.int (gL lP i))) (by rw [el]; exact Ar3.1) (State.isArrayOf_alike hZ.alike Ar3.2.1) Ar3.2.2 hin3 hat3 (g := (mkF m 48 #[.val (.ref aP), .val (.int fi), .val (.ref aR), .val (.int rs), .val (.int rf), .val (.int (rf - rs)), .val (.int (zP - (rf - rs))), .val (.int (gL lR rs)), .val (.int i)] [(.int i), (.ref aP)])) rfl rfl (hb hby d16_48) _ k) ?_
          show Gl _ _ _ _ (Tl.setTop (mkF m 49 #[.val (.ref aP), .val (.int fi), .val (.ref aR), .val (.int rs), .val (.int rf), .val (.int (rf - rs)), .val (.int (zP - (rf - rs))), .val (.int (gL lR rs)), .val (.int i)] [(.int (gL lP i))]))
          refine Gl.go (fun _ k => XS.iload Xl.here hx rfl (hb hby d16_49) rfl  k) ?_
          show Gl _ _ _ _ (Tl.setTop (mkF m 51 #[.val (.ref aP), .val (.int fi), .val (.ref aR), .val (.int rs), .val (.int rf), .val (.int (rf - rs)), .val (.int (zP - (rf - rs))), .val (.int (gL lR rs)), .val (.int i)] [(.int (gL lR rs)), (.int (gL lP i))]))
          by_cases hD : (gL lP i) = (gL lR rs)
          · skip
            refine Gl.go (fun _ k => XS.icmpNo Xl.here hx rfl (hb hby d16_51) rfl (teq hD).2 k) ?_
            show Gl _ _ _ _ (Tl.setTop (mkF m 54 #[.val (.ref aP), .val (.int fi), .val (.ref aR), .val (.int rs), .val (.int rf), .val (.int (rf - rs)), .val (.int (zP - (rf - rs))), .val (.int (gL lR rs)), .val (.int i)] []))
            refine Gl.go (fun _ k => XS.aloadN Xl.here hx rfl (hb hby d16_54) rfl rfl  k) ?_
            show Gl _ _ _ _ (Tl.setTop (mkF m 55 #[.val (.ref aP), .val (.int fi), .val (.ref aR), .val (.int rs), .val (.int rf), .val (.int (rf - rs)), .val (.int (zP - (rf - rs))), .val (.int (gL lR rs)), .val (.int i)] [(.ref aP)]))
            refine Gl.go (fun _ k => XS.iload Xl.here hx rfl (hb hby d16_55) rfl  k) ?_
            show Gl _ _ _ _ (Tl.setTop (mkF m 57 #[.val (.ref aP), .val (.int fi), .val (.ref aR), .val (.int rs), .val (.int rf), .val (.int (rf - rs)), .val (.int (zP - (rf - rs))), .val (.int (gL lR rs)), .val (.int i)] [(.int i), (.ref aP)]))
            refine Gl.go (fun _ k => XS.aloadN Xl.here hx rfl (hb hby d16_57) rfl rfl  k) ?_
            show Gl _ _ _ _ (Tl.setTop (mkF m 58 #[.val (.ref aP), .val (.int fi), .val (.ref aR), .val (.int rs), .val (.int rf), .val (.int (rf - rs)), .val (.int (zP - (rf - rs))), .val (.int (gL lR rs)), .val (.int i)] [(.ref aR), (.int i), (.ref aP)]))
            refine Gl.go (fun _ k => XS.iloadN Xl.here hx rfl (hb hby d16_58) rfl  k) ?_
            show Gl _ _ _ _ (Tl.setTop (mkF m 59 #[.val (.ref aP), .val (.int fi), .val (.ref aR), .val (.int rs), .val (.int rf), .val (.int (rf - rs)), .val (.int (zP - (rf - rs))), .val (.int (gL lR rs)), .val (.int i)] [(.int rs), (.ref aR), (.int i), (.ref aP)]))
            refine Gl.go (fun _ k => XS.iload Xl.here hx rfl (hb hby d16_59) rfl  k) ?_
            show Gl _ _ _ _ (Tl.setTop (mkF m 61 #[.val (.ref aP), .val (.int fi), .val (.ref aR), .val (.int rs), .val (.int rf), .val (.int (rf - rs)), .val (.int (zP - (rf - rs))), .val (.int (gL lR rs)), .val (.int i)] [(.int (rf - rs)), (.int rs), (.ref aR), (.int i), (.ref aP)]))
            obtain ⟨_, _, ⟨T4, L4, k4, n4⟩, -, X4, ⟨Lc4, hQ4, l4, y4, z4⟩, st4⟩ := Jvm.LawKit.callS Xl hx (y := (⟨"com/example/aloud/aloud/PathPattern", "occursAt", "([BI[BII)Z"⟩ : MethodName)) hown (mvT hZ (hw _ (List.mem_of_getElem? (i := 27) rfl))) (mvT hZ (hw _ (List.mem_of_getElem? (i := 28) rfl))) (mvT hZ (hw _ (List.mem_of_getElem? (i := 13) rfl))) (mvT hZ (hw _ (List.mem_of_getElem? (i := 29) rfl))) (by decide) (backOf (W := 0) (rm_oc l Z a0 hw [] aP kP zP lP aR kR zR lR i rs (rf - rs) h0 n0 Z0 VP bP VR bR (o_i8 q2 hC hls hpos bP) (Int.le_of_lt hpos) c2.1 (o_i5 hrl c2)) hZ (hw _ (List.mem_of_getElem? (i := 29) rfl)) (hw _ (List.mem_of_getElem? (i := 13) rfl)) (by decide) (by decide)) (g := (mkF m 61 #[.val (.ref aP), .val (.int fi), .val (.ref aR), .val (.int rs), .val (.int rf), .val (.int (rf - rs)), .val (.int (zP - (rf - rs))), .val (.int (gL lR rs)), .val (.int i)] [(.int (rf - rs)), (.int rs), (.ref aR), (.int i), (.ref aP)])) rfl (by rw [hml]; rfl) (argsL := [(.ref aP), (.int i), (.ref aR), (.int rs), (.int (rf - rs))]) (rest := []) (lenOf pd_4 rfl) rfl (by show 2 * 0 + _ ≤ _; exact Nat.le_of_eq rfl) (hb hby d16_61) (fun _ _ => ⟨rfl, el, (by decide : 0 + 0 ≤ _), (by decide : 0 + 0 ≤ _)⟩)
            dsimp only [Pt.U, Pt.locs, Pt.cells, Pt.slots] at X4 l4 y4 z4 st4 hQ4
            subst l4 y4 z4
            obtain ⟨rfl, Nq4, e4⟩ := hQ4
            have N4 := Fr.app Nl Nq4
            refine Gl.go (fun _ k => st4 _ k) ?_
            show Gl _ _ _ _ (T4.setTop (mkF m 64 #[.val (.ref aP), .val (.int fi), .val (.ref aR), .val (.int rs), .val (.int rf), .val (.int (rf - rs)), .val (.int (zP - (rf - rs))), .val (.int (gL lR rs)), .val (.int i)] [(.int (ocV zP (gL lP) (gL lR) i rs (rf - rs)))]))
            by_cases hE : (ocV zP (gL lP) (gL lR) i rs (rf - rs)) = (0 : Int32)
            · skip
              refine Gl.go (fun _ k => XS.ifYes X4.here hx rfl (pc0 := 64) (pc' := 70) rfl (hb hby d16_64) rfl ((if0 _ _).trans (teq hE).1) (by decide) (by decide) k) ?_
              show Gl _ _ _ _ (T4.setTop (mkF m 70 #[.val (.ref aP), .val (.int fi), .val (.ref aR), .val (.int rs), .val (.int rf), .val (.int (rf - rs)), .val (.int (zP - (rf - rs))), .val (.int (gL lR rs)), .val (.int i)] []))
              refine Gl.go (fun _ k => XS.iinc X4.here hx rfl (hb hby d16_70) rfl (l' := #[.val (.ref aP), .val (.int fi), .val (.ref aR), .val (.int rs), .val (.int rf), .val (.int (rf - rs)), .val (.int (zP - (rf - rs))), .val (.int (gL lR rs)), .val (.int (i + (1 : Int32)))]) rfl k) ?_
              show Gl _ _ _ _ (T4.setTop (mkF m 73 #[.val (.ref aP), .val (.int fi), .val (.ref aR), .val (.int rs), .val (.int rf), .val (.int (rf - rs)), .val (.int (zP - (rf - rs))), .val (.int (gL lR rs)), .val (.int (i + (1 : Int32)))] []))
              refine Gl.go (fun _ k => XS.goto X4.here hx rfl (pc0 := 73) (pc' := 38) rfl (hb hby d16_73) (by decide) (by decide) k) ?_
              show Gl _ _ _ _ (T4.setTop (mkF m 38 #[.val (.ref aP), .val (.int fi), .val (.ref aR), .val (.int rs), .val (.int rf), .val (.int (rf - rs)), .val (.int (zP - (rf - rs))), .val (.int (gL lR rs)), .val (.int (i + (1 : Int32)))] []))
              rw [ioS zP (gL lP) (gL lR) rs (rf - rs) (zP - (rf - rs)) k i, if_neg hC, if_pos hD, if_pos hE] at q3
              exact ih (i + (1 : Int32)) T4 _ X4 e4 N4 (o_i1 q1 q2 hC hls hpos bP) (o_i2 q2 hC hls hpos bP) q3
            · skip
              refine Gl.go (fun _ k => XS.ifNo X4.here hx rfl (hb hby d16_64) rfl ((if0 _ _).trans (feq hE).1) k) ?_
              show Gl _ _ _ _ (T4.setTop (mkF m 67 #[.val (.ref aP), .val (.int fi), .val (.ref aR), .val (.int rs), .val (.int rf), .val (.int (rf - rs)), .val (.int (zP - (rf - rs))), .val (.int (gL lR rs)), .val (.int i)] []))
              refine Gl.go (fun _ k => XS.iload X4.here hx rfl (hb hby d16_67) rfl  k) ?_
              show Gl _ _ _ _ (T4.setTop (mkF m 69 #[.val (.ref aP), .val (.int fi), .val (.ref aR), .val (.int rs), .val (.int rf), .val (.int (rf - rs)), .val (.int (zP - (rf - rs))), .val (.int (gL lR rs)), .val (.int i)] [(.int i)]))
              refine leafI X4 hx hlk Bd.returns (hb hby d16_69) ?_ (by decide) (by decide)
              rw [ioS zP (gL lP) (gL lR) rs (rf - rs) (zP - (rf - rs)) k i, if_neg hC, if_pos hD, if_neg hE] at q3
              exact ⟨congrArg (fun q => some (Value.int q)) q3, N4, e4⟩
          · skip
            refine Gl.go (fun _ k => XS.icmpYes Xl.here hx rfl (pc0 := 51) (pc' := 70) rfl (hb hby d16_51) rfl (feq hD).2 (by decide) (by decide) k) ?_
            show Gl _ _ _ _ (Tl.setTop (mkF m 70 #[.val (.ref aP), .val (.int fi), .val (.ref aR), .val (.int rs), .val (.int rf), .val (.int (rf - rs)), .val (.int (zP - (rf - rs))), .val (.int (gL lR rs)), .val (.int i)] []))
            refine Gl.go (fun _ k => XS.iinc Xl.here hx rfl (hb hby d16_70) rfl (l' := #[.val (.ref aP), .val (.int fi), .val (.ref aR), .val (.int rs), .val (.int rf), .val (.int (rf - rs)), .val (.int (zP - (rf - rs))), .val (.int (gL lR rs)), .val (.int (i + (1 : Int32)))]) rfl k) ?_
            show Gl _ _ _ _ (Tl.setTop (mkF m 73 #[.val (.ref aP), .val (.int fi), .val (.ref aR), .val (.int rs), .val (.int rf), .val (.int (rf - rs)), .val (.int (zP - (rf - rs))), .val (.int (gL lR rs)), .val (.int (i + (1 : Int32)))] []))
            refine Gl.go (fun _ k => XS.goto Xl.here hx rfl (pc0 := 73) (pc' := 38) rfl (hb hby d16_73) (by decide) (by decide) k) ?_
            show Gl _ _ _ _ (Tl.setTop (mkF m 38 #[.val (.ref aP), .val (.int fi), .val (.ref aR), .val (.int rs), .val (.int rf), .val (.int (rf - rs)), .val (.int (zP - (rf - rs))), .val (.int (gL lR rs)), .val (.int (i + (1 : Int32)))] []))
            rw [ioS zP (gL lP) (gL lR) rs (rf - rs) (zP - (rf - rs)) k i, if_neg hC, if_neg hD] at q3
            exact ih (i + (1 : Int32)) Tl _ Xl el Nl (o_i1 q1 q2 hC hls hpos bP) (o_i2 q2 hC hls hpos bP) q3
    exact LP 5 fi s₁ _ X0 e0 N0 (o_i0 c1 hls hpos bP) c1.1 (by rw [ioV, if_neg hA])
def Q_mp (Z : State) (av : Addr) (kv : ClassId) (zv : Int32) (lv : List Int32) (sl cls : Int32) (aP : Addr) (kP : ClassId) (zP : Int32) (lP : List Int32) (pcls : Int32) (h0 : Heap) (n0 : Nat) (v : Option Value) (h : Heap) (L : List Loc) : Prop := v = some (.int (mpV zv (gL lv) sl cls zP (gL lP) pcls)) ∧ Fr n0 L ∧ h = h0
set_option maxRecDepth 65536 in
set_option maxHeartbeats 40000000 in
theorem rm_mp (l : Launch) (Z : State) (a0 : Array Value) (hw : ∀ d ∈ tables_1, d.before a0 Z = true) (ws : List Jvm.Cond) (av : Addr) (kv : ClassId) (zv : Int32) (lv : List Int32) (sl cls : Int32) (aP : Addr) (kP : ClassId) (zP : Int32) (lP : List Int32) (pcls : Int32) (h0 : Heap) (n0 : Nat) (Z0 : n0 ≤ h0.size) (Vv : Arv Z h0 av kv .byte zv (lv.map Value.int) (.int (0 : Int32))) (bv : 0 ≤ zv.toInt ∧ zv.toInt ≤ 4) (VP : Arv Z h0 aP kP .byte zP (lP.map Value.int) (.int (0 : Int32))) (bP : 0 ≤ zP.toInt ∧ zP.toInt ≤ 4) (c1 : 0 ≤ sl.toInt) (c2 : sl.toInt ≤ (reV zv (gL lv)).toInt) :
    MetFree l (⟨"com/example/aloud/aloud/PathPattern", "matchesPastStart", "([BIIIC[BC)Z"⟩ : MethodName) (head1 (Jvm.Cond.code (⟨"com/example/aloud/aloud/PathPattern", "matchesPastStart", "([BIIIC[BC)Z"⟩ : MethodName) prog_15_method_11_code 14 (some .boolean) :: ws) ({ frames := 4, cells := 0, slots := 0, locals := 75 } : Room)) (fun aa U => aa = #[(.ref av), (.int (0 : Int32)), (.int zv), (.int sl), (.int cls), (.ref aP), (.int pcls)] ∧ Z.Warmed39 U.vm ∧ U.heap = h0) (fun _ _ _ _ _ => True) (fun _ U o U' => ∃ v L, o = .returned v ∧ Q_mp Z av kv zv lv sl cls aP kP zP lP pcls h0 n0 v U'.heap L ∧ FrameEnd U o U' L ({ frames := 4, cells := 0, slots := 0, locals := 75 } : Room).cells ({ frames := 4, cells := 0, slots := 0, locals := 75 } : Room).slots) := by
  refine MetFree.of_bodySF (plainFor_of_name pn_0) hisR ?_
  intro p e s m args below meth c s₁ Bd hml0 hP hK
  obtain ⟨rfl, hZ, hh⟩ := hP
  have hx := Bd.exec
  have hby := Bd.bytes
  have hml : c.maxLocals = 14 := hml0
  have hown : s.vm.findClass "com/example/aloud/aloud/PathPattern" = some m.cls := findClass_of_methodNamed Bd.named
  have hnm := (name_of_methodNamed Bd.named Bd.method).1
  have hlk : meth.locks = false := BodyLoose.notSynchronized Bd
  have X0 : Stand p l e ({ frames := 4, cells := 0, slots := 0, locals := 75 } : Room) s m #[(.ref av), (.int (0 : Int32)), (.int zv), (.int sl), (.int cls), (.ref aP), (.int pcls)] below meth c s₁ [] 0 0 := Stand.of_body Bd
  have e0 : s₁.heap = h0 := by rw [← hh, Bd.state]; rfl
  have N0 := Fr.nil n0
  have K0 : Keep h0 h0 [] := Keep.refl _ _
  show Gl p.tables e below (QQof s (Q_mp Z av kv zv lv sl cls aP kP zP lP pcls h0 n0) 0 0) (s₁.setTop (entryFrame m #[(.ref av), (.int (0 : Int32)), (.int zv), (.int sl), (.int cls), (.ref aP), (.int pcls)] 14))
  refine Gl.go (fun t k => castTop (ef_mp m av (0 : Int32) zv sl cls aP pcls) k) ?_
  show Gl _ _ _ _ (s₁.setTop (mkF m 0 #[.val (.ref av), .val (.int (0 : Int32)), .val (.int zv), .val (.int sl), .val (.int cls), .val (.ref aP), .val (.int pcls), .unset, .unset, .unset, .unset, .unset, .unset, .unset] []))
  refine Gl.go (fun _ k => XS.iload X0.here hx rfl (hb hby d14_0) rfl  k) ?_
  show Gl _ _ _ _ (s₁.setTop (mkF m 2 #[.val (.ref av), .val (.int (0 : Int32)), .val (.int zv), .val (.int sl), .val (.int cls), .val (.ref aP), .val (.int pcls), .unset, .unset, .unset, .unset, .unset, .unset, .unset] [(.int cls)]))
  refine Gl.go (fun _ k => XS.iload X0.here hx rfl (hb hby d14_2) rfl  k) ?_
  show Gl _ _ _ _ (s₁.setTop (mkF m 4 #[.val (.ref av), .val (.int (0 : Int32)), .val (.int zv), .val (.int sl), .val (.int cls), .val (.ref aP), .val (.int pcls), .unset, .unset, .unset, .unset, .unset, .unset, .unset] [(.int pcls), (.int cls)]))
  refine Gl.go (fun _ k => XS.iconst X0.here hx rfl (hb hby d14_4) k) ?_
  show Gl _ _ _ _ (s₁.setTop (mkF m 5 #[.val (.ref av), .val (.int (0 : Int32)), .val (.int zv), .val (.int sl), .val (.int cls), .val (.ref aP), .val (.int pcls), .unset, .unset, .unset, .unset, .unset, .unset, .unset] [(.int (-1 : Int32)), (.int pcls), (.int cls)]))
  refine Gl.go (fun _ k => XS.ixor X0.here hx rfl (hb hby d14_5) rfl k) ?_
  show Gl _ _ _ _ (s₁.setTop (mkF m 6 #[.val (.ref av), .val (.int (0 : Int32)), .val (.int zv), .val (.int sl), .val (.int cls), .val (.ref aP), .val (.int pcls), .unset, .unset, .unset, .unset, .unset, .unset, .unset] [(.int (pcls ^^^ (-1 : Int32))), (.int cls)]))
  refine Gl.go (fun _ k => XS.iand X0.here hx rfl (hb hby d14_6) rfl k) ?_
  show Gl _ _ _ _ (s₁.setTop (mkF m 7 #[.val (.ref av), .val (.int (0 : Int32)), .val (.int zv), .val (.int sl), .val (.int cls), .val (.ref aP), .val (.int pcls), .unset, .unset, .unset, .unset, .unset, .unset, .unset] [(.int (cls &&& (pcls ^^^ (-1 : Int32))))]))
  show Gl _ _ _ _ (s₁.setTop (mkF m 7 #[.val (.ref av), .val (.int (0 : Int32)), .val (.int zv), .val (.int sl), .val (.int cls), .val (.ref aP), .val (.int pcls), .unset, .unset, .unset, .unset, .unset, .unset, .unset] [(.int (subB cls pcls))]))
  by_cases hA : (subB cls pcls) = (0 : Int32)
  · skip
    refine Gl.go (fun _ k => XS.ifYes X0.here hx rfl (pc0 := 7) (pc' := 12) rfl (hb hby d14_7) rfl ((if0 _ _).trans (teq hA).1) (by decide) (by decide) k) ?_
    show Gl _ _ _ _ (s₁.setTop (mkF m 12 #[.val (.ref av), .val (.int (0 : Int32)), .val (.int zv), .val (.int sl), .val (.int cls), .val (.ref aP), .val (.int pcls), .unset, .unset, .unset, .unset, .unset, .unset, .unset] []))
    have D12_1 : ∀ t, Steps p.tables e below (s₁.setTop (mkF m 32 #[.val (.ref av), .val (.int (0 : Int32)), .val (.int zv), .val (.int sl), .val (.int cls), .val (.ref aP), .val (.int pcls), .unset, .unset, .unset, .unset, .unset, .unset, .unset] [(.int (if (0 : Int32) < zv then (if (gL lv (zv - (1 : Int32))) = (36 : Int32) then (1 : Int32) else (0 : Int32)) else (0 : Int32)))])) t → Steps p.tables e below (s₁.setTop (mkF m 12 #[.val (.ref av), .val (.int (0 : Int32)), .val (.int zv), .val (.int sl), .val (.int cls), .val (.ref aP), .val (.int pcls), .unset, .unset, .unset, .unset, .unset, .unset, .unset] [])) t := by
      intro t k
      show Steps _ _ _ (s₁.setTop (mkF m 12 #[.val (.ref av), .val (.int (0 : Int32)), .val (.int zv), .val (.int sl), .val (.int cls), .val (.ref aP), .val (.int pcls), .unset, .unset, .unset, .unset, .unset, .unset, .unset] [])) _
      refine XS.iloadN X0.here hx rfl (hb hby d14_12) rfl  ?_
      show Steps _ _ _ (s₁.setTop (mkF m 13 #[.val (.ref av), .val (.int (0 : Int32)), .val (.int zv), .val (.int sl), .val (.int cls), .val (.ref aP), .val (.int pcls), .unset, .unset, .unset, .unset, .unset, .unset, .unset] [(.int zv)])) _
      refine XS.iloadN X0.here hx rfl (hb hby d14_13) rfl  ?_
      show Steps _ _ _ (s₁.setTop (mkF m 14 #[.val (.ref av), .val (.int (0 : Int32)), .val (.int zv), .val (.int sl), .val (.int cls), .val (.ref aP), .val (.int pcls), .unset, .unset, .unset, .unset, .unset, .unset, .unset] [(.int (0 : Int32)), (.int zv)])) _
      by_cases hd14_2 : (0 : Int32) < zv
      · skip
        refine XS.icmpNo X0.here hx rfl (hb hby d14_14) rfl (tlt hd14_2).2.2.2 ?_
        show Steps _ _ _ (s₁.setTop (mkF m 17 #[.val (.ref av), .val (.int (0 : Int32)), .val (.int zv), .val (.int sl), .val (.int cls), .val (.ref aP), .val (.int pcls), .unset, .unset, .unset, .unset, .unset, .unset, .unset] [])) _
        refine XS.aloadN X0.here hx rfl (hb hby d14_17) rfl rfl  ?_
        show Steps _ _ _ (s₁.setTop (mkF m 18 #[.val (.ref av), .val (.int (0 : Int32)), .val (.int zv), .val (.int sl), .val (.int cls), .val (.ref aP), .val (.int pcls), .unset, .unset, .unset, .unset, .unset, .unset, .unset] [(.ref av)])) _
        refine XS.iloadN X0.here hx rfl (hb hby d14_18) rfl  ?_
        show Steps _ _ _ (s₁.setTop (mkF m 19 #[.val (.ref av), .val (.int (0 : Int32)), .val (.int zv), .val (.int sl), .val (.int cls), .val (.ref aP), .val (.int pcls), .unset, .unset, .unset, .unset, .unset, .unset, .unset] [(.int zv), (.ref av)])) _
        refine XS.iconst X0.here hx rfl (hb hby d14_19) ?_
        show Steps _ _ _ (s₁.setTop (mkF m 20 #[.val (.ref av), .val (.int (0 : Int32)), .val (.int zv), .val (.int sl), .val (.int cls), .val (.ref aP), .val (.int pcls), .unset, .unset, .unset, .unset, .unset, .unset, .unset] [(.int (1 : Int32)), (.int zv), (.ref av)])) _
        refine XS.isub X0.here hx rfl (hb hby d14_20) rfl ?_
        show Steps _ _ _ (s₁.setTop (mkF m 21 #[.val (.ref av), .val (.int (0 : Int32)), .val (.int zv), .val (.int sl), .val (.int cls), .val (.ref aP), .val (.int pcls), .unset, .unset, .unset, .unset, .unset, .unset, .unset] [(.int (zv - (1 : Int32))), (.ref av)])) _
        obtain ⟨cl3, Ar3, qA3, SA3, NA3, HA3, GA3⟩ := id Vv
        have hin3 := inb_of (j := (zv - (1 : Int32))) SA3 (o_re bv hd14_2)
        have hat3 : cl3.slots[((zv - (1 : Int32))).toNatClampNeg]? = some (.int (gL lv (zv - (1 : Int32)))) := HA3.at hin3 (own_gl lv (zv - (1 : Int32)))
        refine X0.baloadBytes hx (j := (zv - (1 : Int32))) (v := (.int (gL lv (zv - (1 : Int32))))) (by rw [e0]; exact Ar3.1) (State.isArrayOf_alike hZ.alike Ar3.2.1) Ar3.2.2 hin3 hat3 (g := (mkF m 21 #[.val (.ref av), .val (.int (0 : Int32)), .val (.int zv), .val (.int sl), .val (.int cls), .val (.ref aP), .val (.int pcls), .unset, .unset, .unset, .unset, .unset, .unset, .unset] [(.int (zv - (1 : Int32))), (.ref av)])) rfl rfl (hb hby d14_21) _ ?_
        show Steps _ _ _ (s₁.setTop (mkF m 22 #[.val (.ref av), .val (.int (0 : Int32)), .val (.int zv), .val (.int sl), .val (.int cls), .val (.ref aP), .val (.int pcls), .unset, .unset, .unset, .unset, .unset, .unset, .unset] [(.int (gL lv (zv - (1 : Int32))))])) _
        refine XS.bipush X0.here hx rfl (hb hby d14_22) ?_
        show Steps _ _ _ (s₁.setTop (mkF m 24 #[.val (.ref av), .val (.int (0 : Int32)), .val (.int zv), .val (.int sl), .val (.int cls), .val (.ref aP), .val (.int pcls), .unset, .unset, .unset, .unset, .unset, .unset, .unset] [(.int (36 : Int32)), (.int (gL lv (zv - (1 : Int32))))])) _
        by_cases hd24_4 : (gL lv (zv - (1 : Int32))) = (36 : Int32)
        · skip
          refine XS.icmpNo X0.here hx rfl (hb hby d14_24) rfl (teq hd24_4).2 ?_
          show Steps _ _ _ (s₁.setTop (mkF m 27 #[.val (.ref av), .val (.int (0 : Int32)), .val (.int zv), .val (.int sl), .val (.int cls), .val (.ref aP), .val (.int pcls), .unset, .unset, .unset, .unset, .unset, .unset, .unset] [])) _
          refine XS.iconst X0.here hx rfl (hb hby d14_27) ?_
          show Steps _ _ _ (s₁.setTop (mkF m 28 #[.val (.ref av), .val (.int (0 : Int32)), .val (.int zv), .val (.int sl), .val (.int cls), .val (.ref aP), .val (.int pcls), .unset, .unset, .unset, .unset, .unset, .unset, .unset] [(.int (1 : Int32))])) _
          refine XS.goto X0.here hx rfl (pc0 := 28) (pc' := 32) rfl (hb hby d14_28) (by decide) (by decide) ?_
          show Steps _ _ _ (s₁.setTop (mkF m 32 #[.val (.ref av), .val (.int (0 : Int32)), .val (.int zv), .val (.int sl), .val (.int cls), .val (.ref aP), .val (.int pcls), .unset, .unset, .unset, .unset, .unset, .unset, .unset] [(.int (1 : Int32))])) _
          simp only [if_pos hd14_2, if_pos hd24_4] at k
          exact k
        · skip
          refine XS.icmpYes X0.here hx rfl (pc0 := 24) (pc' := 31) rfl (hb hby d14_24) rfl (feq hd24_4).2 (by decide) (by decide) ?_
          show Steps _ _ _ (s₁.setTop (mkF m 31 #[.val (.ref av), .val (.int (0 : Int32)), .val (.int zv), .val (.int sl), .val (.int cls), .val (.ref aP), .val (.int pcls), .unset, .unset, .unset, .unset, .unset, .unset, .unset] [])) _
          refine XS.iconst X0.here hx rfl (hb hby d14_31) ?_
          show Steps _ _ _ (s₁.setTop (mkF m 32 #[.val (.ref av), .val (.int (0 : Int32)), .val (.int zv), .val (.int sl), .val (.int cls), .val (.ref aP), .val (.int pcls), .unset, .unset, .unset, .unset, .unset, .unset, .unset] [(.int (0 : Int32))])) _
          simp only [if_pos hd14_2, if_neg hd24_4] at k
          exact k
      · skip
        refine XS.icmpYes X0.here hx rfl (pc0 := 14) (pc' := 31) rfl (hb hby d14_14) rfl (flt hd14_2).2.2.2 (by decide) (by decide) ?_
        show Steps _ _ _ (s₁.setTop (mkF m 31 #[.val (.ref av), .val (.int (0 : Int32)), .val (.int zv), .val (.int sl), .val (.int cls), .val (.ref aP), .val (.int pcls), .unset, .unset, .unset, .unset, .unset, .unset, .unset] [])) _
        refine XS.iconst X0.here hx rfl (hb hby d14_31) ?_
        show Steps _ _ _ (s₁.setTop (mkF m 32 #[.val (.ref av), .val (.int (0 : Int32)), .val (.int zv), .val (.int sl), .val (.int cls), .val (.ref aP), .val (.int pcls), .unset, .unset, .unset, .unset, .unset, .unset, .unset] [(.int (0 : Int32))])) _
        simp only [if_neg hd14_2] at k
        exact k
    refine Gl.go (fun _ k => D12_1 _ k) ?_
    show Gl _ _ _ _ (s₁.setTop (mkF m 32 #[.val (.ref av), .val (.int (0 : Int32)), .val (.int zv), .val (.int sl), .val (.int cls), .val (.ref aP), .val (.int pcls), .unset, .unset, .unset, .unset, .unset, .unset, .unset] [(.int (if (0 : Int32) < zv then (if (gL lv (zv - (1 : Int32))) = (36 : Int32) then (1 : Int32) else (0 : Int32)) else (0 : Int32)))]))
    show Gl _ _ _ _ (s₁.setTop (mkF m 32 #[.val (.ref av), .val (.int (0 : Int32)), .val (.int zv), .val (.int sl), .val (.int cls), .val (.ref aP), .val (.int pcls), .unset, .unset, .unset, .unset, .unset, .unset, .unset] [(.int (anV zv (gL lv)))]))
    refine Gl.go (fun _ k => XS.istore X0.here hx rfl (hb hby d14_32) rfl (l' := #[.val (.ref av), .val (.int (0 : Int32)), .val (.int zv), .val (.int sl), .val (.int cls), .val (.ref aP), .val (.int pcls), .val (.int (anV zv (gL lv))), .unset, .unset, .unset, .unset, .unset, .unset]) rfl k) ?_
    show Gl _ _ _ _ (s₁.setTop (mkF m 34 #[.val (.ref av), .val (.int (0 : Int32)), .val (.int zv), .val (.int sl), .val (.int cls), .val (.ref aP), .val (.int pcls), .val (.int (anV zv (gL lv))), .unset, .unset, .unset, .unset, .unset, .unset] []))
    refine Gl.go (fun _ k => XS.aloadN X0.here hx rfl (hb hby d14_34) rfl rfl  k) ?_
    show Gl _ _ _ _ (s₁.setTop (mkF m 35 #[.val (.ref av), .val (.int (0 : Int32)), .val (.int zv), .val (.int sl), .val (.int cls), .val (.ref aP), .val (.int pcls), .val (.int (anV zv (gL lv))), .unset, .unset, .unset, .unset, .unset, .unset] [(.ref av)]))
    refine Gl.go (fun _ k => XS.iloadN X0.here hx rfl (hb hby d14_35) rfl  k) ?_
    show Gl _ _ _ _ (s₁.setTop (mkF m 36 #[.val (.ref av), .val (.int (0 : Int32)), .val (.int zv), .val (.int sl), .val (.int cls), .val (.ref aP), .val (.int pcls), .val (.int (anV zv (gL lv))), .unset, .unset, .unset, .unset, .unset, .unset] [(.int (0 : Int32)), (.ref av)]))
    refine Gl.go (fun _ k => XS.iloadN X0.here hx rfl (hb hby d14_36) rfl  k) ?_
    show Gl _ _ _ _ (s₁.setTop (mkF m 37 #[.val (.ref av), .val (.int (0 : Int32)), .val (.int zv), .val (.int sl), .val (.int cls), .val (.ref aP), .val (.int pcls), .val (.int (anV zv (gL lv))), .unset, .unset, .unset, .unset, .unset, .unset] [(.int zv), (.int (0 : Int32)), (.ref av)]))
    obtain ⟨_, _, ⟨T5, L5, k5, n5⟩, -, X5, ⟨Lc5, hQ5, l5, y5, z5⟩, st5⟩ := Jvm.LawKit.callS X0 hx (y := (⟨"com/example/aloud/aloud/PathPattern", "runsEnd", "([BII)I"⟩ : MethodName)) hown (mvT hZ (hw _ (List.mem_of_getElem? (i := 21) rfl))) (mvT hZ (hw _ (List.mem_of_getElem? (i := 22) rfl))) (mvT hZ (hw _ (List.mem_of_getElem? (i := 13) rfl))) (mvT hZ (hw _ (List.mem_of_getElem? (i := 23) rfl))) (by decide) (backOf (W := 0) (rm_re l Z a0 hw [] av kv zv lv h0 n0 Z0 Vv bv) hZ (hw _ (List.mem_of_getElem? (i := 23) rfl)) (hw _ (List.mem_of_getElem? (i := 13) rfl)) (by decide) (by decide)) (g := (mkF m 37 #[.val (.ref av), .val (.int (0 : Int32)), .val (.int zv), .val (.int sl), .val (.int cls), .val (.ref aP), .val (.int pcls), .val (.int (anV zv (gL lv))), .unset, .unset, .unset, .unset, .unset, .unset] [(.int zv), (.int (0 : Int32)), (.ref av)])) rfl (by rw [hml]; rfl) (argsL := [(.ref av), (.int (0 : Int32)), (.int zv)]) (rest := []) (lenOf pd_0 rfl) rfl (by show 2 * 0 + _ ≤ _; exact Nat.le_of_eq rfl) (hb hby d14_37) (fun _ _ => ⟨rfl, e0, (by decide : 0 + 0 ≤ _), (by decide : 0 + 0 ≤ _)⟩)
    dsimp only [Pt.U, Pt.locs, Pt.cells, Pt.slots] at X5 l5 y5 z5 st5 hQ5
    subst l5 y5 z5
    obtain ⟨rfl, Nq5, e5⟩ := hQ5
    have N5 := Fr.app N0 Nq5
    refine Gl.go (fun _ k => st5 _ k) ?_
    show Gl _ _ _ _ (T5.setTop (mkF m 40 #[.val (.ref av), .val (.int (0 : Int32)), .val (.int zv), .val (.int sl), .val (.int cls), .val (.ref aP), .val (.int pcls), .val (.int (anV zv (gL lv))), .unset, .unset, .unset, .unset, .unset, .unset] [(.int (reV zv (gL lv)))]))
    have ben := own_re_b (g := gL lv) bv
    generalize h_en : (reV zv (gL lv)) = en at ben c2 ⊢
    show Gl _ _ _ _ (T5.setTop (mkF m 40 #[.val (.ref av), .val (.int (0 : Int32)), .val (.int zv), .val (.int sl), .val (.int cls), .val (.ref aP), .val (.int pcls), .val (.int (anV zv (gL lv))), .unset, .unset, .unset, .unset, .unset, .unset] [(.int en)]))
    generalize h_an : (anV zv (gL lv)) = an at ⊢
    show Gl _ _ _ _ (T5.setTop (mkF m 40 #[.val (.ref av), .val (.int (0 : Int32)), .val (.int zv), .val (.int sl), .val (.int cls), .val (.ref aP), .val (.int pcls), .val (.int an), .unset, .unset, .unset, .unset, .unset, .unset] [(.int en)]))
    refine Gl.go (fun _ k => XS.istore X5.here hx rfl (hb hby d14_40) rfl (l' := #[.val (.ref av), .val (.int (0 : Int32)), .val (.int zv), .val (.int sl), .val (.int cls), .val (.ref aP), .val (.int pcls), .val (.int an), .val (.int en), .unset, .unset, .unset, .unset, .unset]) rfl k) ?_
    show Gl _ _ _ _ (T5.setTop (mkF m 42 #[.val (.ref av), .val (.int (0 : Int32)), .val (.int zv), .val (.int sl), .val (.int cls), .val (.ref aP), .val (.int pcls), .val (.int an), .val (.int en), .unset, .unset, .unset, .unset, .unset] []))
    refine Gl.go (fun _ k => XS.iloadN X5.here hx rfl (hb hby d14_42) rfl  k) ?_
    show Gl _ _ _ _ (T5.setTop (mkF m 43 #[.val (.ref av), .val (.int (0 : Int32)), .val (.int zv), .val (.int sl), .val (.int cls), .val (.ref aP), .val (.int pcls), .val (.int an), .val (.int en), .unset, .unset, .unset, .unset, .unset] [(.int (0 : Int32))]))
    refine Gl.go (fun _ k => XS.iloadN X5.here hx rfl (hb hby d14_43) rfl  k) ?_
    show Gl _ _ _ _ (T5.setTop (mkF m 44 #[.val (.ref av), .val (.int (0 : Int32)), .val (.int zv), .val (.int sl), .val (.int cls), .val (.ref aP), .val (.int pcls), .val (.int an), .val (.int en), .unset, .unset, .unset, .unset, .unset] [(.int sl), (.int (0 : Int32))]))
    refine Gl.go (fun _ k => XS.iadd X5.here hx rfl (hb hby d14_44) rfl k) ?_
    show Gl _ _ _ _ (T5.setTop (mkF m 45 #[.val (.ref av), .val (.int (0 : Int32)), .val (.int zv), .val (.int sl), .val (.int cls), .val (.ref aP), .val (.int pcls), .val (.int an), .val (.int en), .unset, .unset, .unset, .unset, .unset] [(.int ((0 : Int32) + sl))]))
    refine Gl.go (fun _ k => XS.istore X5.here hx rfl (hb hby d14_45) rfl (l' := #[.val (.ref av), .val (.int (0 : Int32)), .val (.int zv), .val (.int sl), .val (.int cls), .val (.ref aP), .val (.int pcls), .val (.int an), .val (.int en), .val (.int ((0 : Int32) + sl)), .unset, .unset, .unset, .unset]) rfl k) ?_
    show Gl _ _ _ _ (T5.setTop (mkF m 47 #[.val (.ref av), .val (.int (0 : Int32)), .val (.int zv), .val (.int sl), .val (.int cls), .val (.ref aP), .val (.int pcls), .val (.int an), .val (.int en), .val (.int ((0 : Int32) + sl)), .unset, .unset, .unset, .unset] []))
    refine Gl.go (fun _ k => XS.iload X5.here hx rfl (hb hby d14_47) rfl  k) ?_
    show Gl _ _ _ _ (T5.setTop (mkF m 49 #[.val (.ref av), .val (.int (0 : Int32)), .val (.int zv), .val (.int sl), .val (.int cls), .val (.ref aP), .val (.int pcls), .val (.int an), .val (.int en), .val (.int ((0 : Int32) + sl)), .unset, .unset, .unset, .unset] [(.int ((0 : Int32) + sl))]))
    refine Gl.go (fun _ k => XS.iload X5.here hx rfl (hb hby d14_49) rfl  k) ?_
    show Gl _ _ _ _ (T5.setTop (mkF m 51 #[.val (.ref av), .val (.int (0 : Int32)), .val (.int zv), .val (.int sl), .val (.int cls), .val (.ref aP), .val (.int pcls), .val (.int an), .val (.int en), .val (.int ((0 : Int32) + sl)), .unset, .unset, .unset, .unset] [(.int en), (.int ((0 : Int32) + sl))]))
    rw [(Int32.zero_add sl : ((0 : Int32) + sl) = sl)]
    show Gl _ _ _ _ (T5.setTop (mkF m 51 #[.val (.ref av), .val (.int (0 : Int32)), .val (.int zv), .val (.int sl), .val (.int cls), .val (.ref aP), .val (.int pcls), .val (.int an), .val (.int en), .val (.int sl), .unset, .unset, .unset, .unset] [(.int en), (.int sl)]))
    by_cases hB : sl = en
    · skip
      refine Gl.go (fun _ k => XS.icmpNo X5.here hx rfl (hb hby d14_51) rfl (teq hB).2 k) ?_
      show Gl _ _ _ _ (T5.setTop (mkF m 54 #[.val (.ref av), .val (.int (0 : Int32)), .val (.int zv), .val (.int sl), .val (.int cls), .val (.ref aP), .val (.int pcls), .val (.int an), .val (.int en), .val (.int sl), .unset, .unset, .unset, .unset] []))
      refine Gl.go (fun _ k => XS.iload X5.here hx rfl (hb hby d14_54) rfl  k) ?_
      show Gl _ _ _ _ (T5.setTop (mkF m 56 #[.val (.ref av), .val (.int (0 : Int32)), .val (.int zv), .val (.int sl), .val (.int cls), .val (.ref aP), .val (.int pcls), .val (.int an), .val (.int en), .val (.int sl), .unset, .unset, .unset, .unset] [(.int an)]))
      by_cases hC : an = (0 : Int32)
      · skip
        refine Gl.go (fun _ k => XS.ifYes X5.here hx rfl (pc0 := 56) (pc' := 66) rfl (hb hby d14_56) rfl ((if0 _ _).trans (teq hC).1) (by decide) (by decide) k) ?_
        show Gl _ _ _ _ (T5.setTop (mkF m 66 #[.val (.ref av), .val (.int (0 : Int32)), .val (.int zv), .val (.int sl), .val (.int cls), .val (.ref aP), .val (.int pcls), .val (.int an), .val (.int en), .val (.int sl), .unset, .unset, .unset, .unset] []))
        refine Gl.go (fun _ k => XS.iconst X5.here hx rfl (hb hby d14_66) k) ?_
        show Gl _ _ _ _ (T5.setTop (mkF m 67 #[.val (.ref av), .val (.int (0 : Int32)), .val (.int zv), .val (.int sl), .val (.int cls), .val (.ref aP), .val (.int pcls), .val (.int an), .val (.int en), .val (.int sl), .unset, .unset, .unset, .unset] [(.int (1 : Int32))]))
        refine Gl.go (fun _ k => XS.goto X5.here hx rfl (pc0 := 67) (pc' := 71) rfl (hb hby d14_67) (by decide) (by decide) k) ?_
        show Gl _ _ _ _ (T5.setTop (mkF m 71 #[.val (.ref av), .val (.int (0 : Int32)), .val (.int zv), .val (.int sl), .val (.int cls), .val (.ref aP), .val (.int pcls), .val (.int an), .val (.int en), .val (.int sl), .unset, .unset, .unset, .unset] [(.int (1 : Int32))]))
        refine leafN X5 hx hlk (t := .boolean) Bd.returns (by simp) (hb hby d14_71) ?_ (by decide) (by decide)
        exact ⟨by rw [nar1, mpV, if_pos hA, h_en, if_pos hB, h_an, if_pos hC], N5, e5⟩
      · skip
        refine Gl.go (fun _ k => XS.ifNo X5.here hx rfl (hb hby d14_56) rfl ((if0 _ _).trans (feq hC).1) k) ?_
        show Gl _ _ _ _ (T5.setTop (mkF m 59 #[.val (.ref av), .val (.int (0 : Int32)), .val (.int zv), .val (.int sl), .val (.int cls), .val (.ref aP), .val (.int pcls), .val (.int an), .val (.int en), .val (.int sl), .unset, .unset, .unset, .unset] []))
        refine Gl.go (fun _ k => XS.aload X5.here hx rfl (hb hby d14_59) rfl rfl  k) ?_
        show Gl _ _ _ _ (T5.setTop (mkF m 61 #[.val (.ref av), .val (.int (0 : Int32)), .val (.int zv), .val (.int sl), .val (.int cls), .val (.ref aP), .val (.int pcls), .val (.int an), .val (.int en), .val (.int sl), .unset, .unset, .unset, .unset] [(.ref aP)]))
        obtain ⟨cl6, Ar6, qA6, SA6, NA6, HA6, GA6⟩ := id VP
        refine Gl.go (fun _ k => X5.arraylength hx (by rw [e5]; exact Ar6.1) (State.isArrayOf_alike hZ.alike Ar6.2.1) (g := (mkF m 61 #[.val (.ref av), .val (.int (0 : Int32)), .val (.int zv), .val (.int sl), .val (.int cls), .val (.ref aP), .val (.int pcls), .val (.int an), .val (.int en), .val (.int sl), .unset, .unset, .unset, .unset] [(.ref aP)])) rfl rfl (hb hby d14_61) _ k) ?_
        rw [len_of SA6 NA6]
        show Gl _ _ _ _ (T5.setTop (mkF m 62 #[.val (.ref av), .val (.int (0 : Int32)), .val (.int zv), .val (.int sl), .val (.int cls), .val (.ref aP), .val (.int pcls), .val (.int an), .val (.int en), .val (.int sl), .unset, .unset, .unset, .unset] [(.int zP)]))
        refine Gl.go (fun _ k => XS.iloadN X5.here hx rfl (hb hby d14_62) rfl  k) ?_
        show Gl _ _ _ _ (T5.setTop (mkF m 63 #[.val (.ref av), .val (.int (0 : Int32)), .val (.int zv), .val (.int sl), .val (.int cls), .val (.ref aP), .val (.int pcls), .val (.int an), .val (.int en), .val (.int sl), .unset, .unset, .unset, .unset] [(.int sl), (.int zP)]))
        by_cases hD : zP = sl
        · skip
          refine Gl.go (fun _ k => XS.icmpNo X5.here hx rfl (hb hby d14_63) rfl (teq hD).2 k) ?_
          show Gl _ _ _ _ (T5.setTop (mkF m 66 #[.val (.ref av), .val (.int (0 : Int32)), .val (.int zv), .val (.int sl), .val (.int cls), .val (.ref aP), .val (.int pcls), .val (.int an), .val (.int en), .val (.int sl), .unset, .unset, .unset, .unset] []))
          refine Gl.go (fun _ k => XS.iconst X5.here hx rfl (hb hby d14_66) k) ?_
          show Gl _ _ _ _ (T5.setTop (mkF m 67 #[.val (.ref av), .val (.int (0 : Int32)), .val (.int zv), .val (.int sl), .val (.int cls), .val (.ref aP), .val (.int pcls), .val (.int an), .val (.int en), .val (.int sl), .unset, .unset, .unset, .unset] [(.int (1 : Int32))]))
          refine Gl.go (fun _ k => XS.goto X5.here hx rfl (pc0 := 67) (pc' := 71) rfl (hb hby d14_67) (by decide) (by decide) k) ?_
          show Gl _ _ _ _ (T5.setTop (mkF m 71 #[.val (.ref av), .val (.int (0 : Int32)), .val (.int zv), .val (.int sl), .val (.int cls), .val (.ref aP), .val (.int pcls), .val (.int an), .val (.int en), .val (.int sl), .unset, .unset, .unset, .unset] [(.int (1 : Int32))]))
          refine leafN X5 hx hlk (t := .boolean) Bd.returns (by simp) (hb hby d14_71) ?_ (by decide) (by decide)
          exact ⟨by rw [nar1, mpV, if_pos hA, h_en, if_pos hB, h_an, if_neg hC, if_pos hD], N5, e5⟩
        · skip
          refine Gl.go (fun _ k => XS.icmpYes X5.here hx rfl (pc0 := 63) (pc' := 70) rfl (hb hby d14_63) rfl (feq hD).2 (by decide) (by decide) k) ?_
          show Gl _ _ _ _ (T5.setTop (mkF m 70 #[.val (.ref av), .val (.int (0 : Int32)), .val (.int zv), .val (.int sl), .val (.int cls), .val (.ref aP), .val (.int pcls), .val (.int an), .val (.int en), .val (.int sl), .unset, .unset, .unset, .unset] []))
          refine Gl.go (fun _ k => XS.iconst X5.here hx rfl (hb hby d14_70) k) ?_
          show Gl _ _ _ _ (T5.setTop (mkF m 71 #[.val (.ref av), .val (.int (0 : Int32)), .val (.int zv), .val (.int sl), .val (.int cls), .val (.ref aP), .val (.int pcls), .val (.int an), .val (.int en), .val (.int sl), .unset, .unset, .unset, .unset] [(.int (0 : Int32))]))
          refine leafN X5 hx hlk (t := .boolean) Bd.returns (by simp) (hb hby d14_71) ?_ (by decide) (by decide)
          exact ⟨by rw [nar0, mpV, if_pos hA, h_en, if_pos hB, h_an, if_neg hC, if_neg hD], N5, e5⟩
    · skip
      refine Gl.go (fun _ k => XS.icmpYes X5.here hx rfl (pc0 := 51) (pc' := 72) rfl (hb hby d14_51) rfl (feq hB).2 (by decide) (by decide) k) ?_
      show Gl _ _ _ _ (T5.setTop (mkF m 72 #[.val (.ref av), .val (.int (0 : Int32)), .val (.int zv), .val (.int sl), .val (.int cls), .val (.ref aP), .val (.int pcls), .val (.int an), .val (.int en), .val (.int sl), .unset, .unset, .unset, .unset] []))
      have hlt := o_sl hB c2 ben bv
      have hs1 := o_sl1 c1 hlt ben bv
      refine Gl.go (fun _ k => XS.iloadN X5.here hx rfl (hb hby d14_72) rfl  k) ?_
      show Gl _ _ _ _ (T5.setTop (mkF m 73 #[.val (.ref av), .val (.int (0 : Int32)), .val (.int zv), .val (.int sl), .val (.int cls), .val (.ref aP), .val (.int pcls), .val (.int an), .val (.int en), .val (.int sl), .unset, .unset, .unset, .unset] [(.int sl)]))
      refine Gl.go (fun _ k => XS.istore X5.here hx rfl (hb hby d14_73) rfl (l' := #[.val (.ref av), .val (.int (0 : Int32)), .val (.int zv), .val (.int sl), .val (.int cls), .val (.ref aP), .val (.int pcls), .val (.int an), .val (.int en), .val (.int sl), .val (.int sl), .unset, .unset, .unset]) rfl k) ?_
      show Gl _ _ _ _ (T5.setTop (mkF m 75 #[.val (.ref av), .val (.int (0 : Int32)), .val (.int zv), .val (.int sl), .val (.int cls), .val (.ref aP), .val (.int pcls), .val (.int an), .val (.int en), .val (.int sl), .val (.int sl), .unset, .unset, .unset] []))
      refine Gl.go (fun _ k => XS.iinc X5.here hx rfl (hb hby d14_75) rfl (l' := #[.val (.ref av), .val (.int (0 : Int32)), .val (.int zv), .val (.int sl), .val (.int cls), .val (.ref aP), .val (.int pcls), .val (.int an), .val (.int en), .val (.int (sl + (1 : Int32))), .val (.int sl), .unset, .unset, .unset]) rfl k) ?_
      show Gl _ _ _ _ (T5.setTop (mkF m 78 #[.val (.ref av), .val (.int (0 : Int32)), .val (.int zv), .val (.int sl), .val (.int cls), .val (.ref aP), .val (.int pcls), .val (.int an), .val (.int en), .val (.int (sl + (1 : Int32))), .val (.int sl), .unset, .unset, .unset] []))
      refine Gl.go (fun _ k => XS.aloadN X5.here hx rfl (hb hby d14_78) rfl rfl  k) ?_
      show Gl _ _ _ _ (T5.setTop (mkF m 79 #[.val (.ref av), .val (.int (0 : Int32)), .val (.int zv), .val (.int sl), .val (.int cls), .val (.ref aP), .val (.int pcls), .val (.int an), .val (.int en), .val (.int (sl + (1 : Int32))), .val (.int sl), .unset, .unset, .unset] [(.ref av)]))
      refine Gl.go (fun _ k => XS.iload X5.here hx rfl (hb hby d14_79) rfl  k) ?_
      show Gl _ _ _ _ (T5.setTop (mkF m 81 #[.val (.ref av), .val (.int (0 : Int32)), .val (.int zv), .val (.int sl), .val (.int cls), .val (.ref aP), .val (.int pcls), .val (.int an), .val (.int en), .val (.int (sl + (1 : Int32))), .val (.int sl), .unset, .unset, .unset] [(.int (sl + (1 : Int32))), (.ref av)]))
      refine Gl.go (fun _ k => XS.iload X5.here hx rfl (hb hby d14_81) rfl  k) ?_
      show Gl _ _ _ _ (T5.setTop (mkF m 83 #[.val (.ref av), .val (.int (0 : Int32)), .val (.int zv), .val (.int sl), .val (.int cls), .val (.ref aP), .val (.int pcls), .val (.int an), .val (.int en), .val (.int (sl + (1 : Int32))), .val (.int sl), .unset, .unset, .unset] [(.int en), (.int (sl + (1 : Int32))), (.ref av)]))
      obtain ⟨_, _, ⟨T7, L7, k7, n7⟩, -, X7, ⟨Lc7, hQ7, l7, y7, z7⟩, st7⟩ := Jvm.LawKit.callS X5 hx (y := (⟨"com/example/aloud/aloud/PathPattern", "wildcardOrEnd", "([BII)I"⟩ : MethodName)) hown (mvT hZ (hw _ (List.mem_of_getElem? (i := 49) rfl))) (mvT hZ (hw _ (List.mem_of_getElem? (i := 50) rfl))) (mvT hZ (hw _ (List.mem_of_getElem? (i := 13) rfl))) (mvT hZ (hw _ (List.mem_of_getElem? (i := 51) rfl))) (by decide) (backOf (W := 0) (rm_wi l Z a0 hw [] av kv zv lv (sl + (1 : Int32)) en h0 n0 Z0 Vv bv hs1.1 ben.2) hZ (hw _ (List.mem_of_getElem? (i := 51) rfl)) (hw _ (List.mem_of_getElem? (i := 13) rfl)) (by decide) (by decide)) (g := (mkF m 83 #[.val (.ref av), .val (.int (0 : Int32)), .val (.int zv), .val (.int sl), .val (.int cls), .val (.ref aP), .val (.int pcls), .val (.int an), .val (.int en), .val (.int (sl + (1 : Int32))), .val (.int sl), .unset, .unset, .unset] [(.int en), (.int (sl + (1 : Int32))), (.ref av)])) rfl (by rw [hml]; rfl) (argsL := [(.ref av), (.int (sl + (1 : Int32))), (.int en)]) (rest := []) (lenOf pd_0 rfl) rfl (by show 2 * 0 + _ ≤ _; exact Nat.le_of_eq rfl) (hb hby d14_83) (fun _ _ => ⟨rfl, e5, (by decide : 0 + 0 ≤ _), (by decide : 0 + 0 ≤ _)⟩)
      dsimp only [Pt.U, Pt.locs, Pt.cells, Pt.slots] at X7 l7 y7 z7 st7 hQ7
      subst l7 y7 z7
      obtain ⟨rfl, Nq7, e7⟩ := hQ7
      have N7 := Fr.app N5 Nq7
      refine Gl.go (fun _ k => st7 _ k) ?_
      show Gl _ _ _ _ (T7.setTop (mkF m 86 #[.val (.ref av), .val (.int (0 : Int32)), .val (.int zv), .val (.int sl), .val (.int cls), .val (.ref aP), .val (.int pcls), .val (.int an), .val (.int en), .val (.int (sl + (1 : Int32))), .val (.int sl), .unset, .unset, .unset] [(.int (wiV (gL lv) en 4 (sl + (1 : Int32))))]))
      refine Gl.go (fun _ k => XS.istore X7.here hx rfl (hb hby d14_86) rfl (l' := #[.val (.ref av), .val (.int (0 : Int32)), .val (.int zv), .val (.int sl), .val (.int cls), .val (.ref aP), .val (.int pcls), .val (.int an), .val (.int en), .val (.int (sl + (1 : Int32))), .val (.int sl), .val (.int (wiV (gL lv) en 4 (sl + (1 : Int32)))), .unset, .unset]) rfl k) ?_
      show Gl _ _ _ _ (T7.setTop (mkF m 88 #[.val (.ref av), .val (.int (0 : Int32)), .val (.int zv), .val (.int sl), .val (.int cls), .val (.ref aP), .val (.int pcls), .val (.int an), .val (.int en), .val (.int (sl + (1 : Int32))), .val (.int sl), .val (.int (wiV (gL lv) en 4 (sl + (1 : Int32)))), .unset, .unset] []))
      have LP : ∀ (k : Nat) (pos rs rn : Int32) (u : Slot) (Tl : State) (Ll : List Loc) (Xl : Stand p l e ({ frames := 4, cells := 0, slots := 0, locals := 75 } : Room) s m #[(.ref av), (.int (0 : Int32)), (.int zv), (.int sl), (.int cls), (.ref aP), (.int pcls)] below meth c Tl Ll 0 0) (el : Tl.heap = h0) (Nl : Fr n0 Ll), en.toInt ≤ rs.toInt + ((k : Nat) : Int) → 0 ≤ rs.toInt → rs.toInt ≤ rn.toInt → rn.toInt ≤ en.toInt → 0 ≤ pos.toInt → pos.toInt ≤ 4 → mpL zP (gL lP) (gL lv) an en k pos rs rn = (mpV zv (gL lv) sl cls zP (gL lP) pcls) → One u → Gl p.tables e below (QQof s (Q_mp Z av kv zv lv sl cls aP kP zP lP pcls h0 n0) 0 0) (Tl.setTop (mkF m 88 #[.val (.ref av), .val (.int (0 : Int32)), .val (.int zv), .val (.int sl), .val (.int cls), .val (.ref aP), .val (.int pcls), .val (.int an), .val (.int en), .val (.int rs), .val (.int pos), .val (.int rn), u, .unset] [])) := by
        intro k
        induction k with
        | zero =>
          intro pos rs rn u Tl Ll Xl el Nl q1 q2 q3 q4 q5 q6 q7 hu
          show Gl _ _ _ _ (Tl.setTop (mkF m 88 #[.val (.ref av), .val (.int (0 : Int32)), .val (.int zv), .val (.int sl), .val (.int cls), .val (.ref aP), .val (.int pcls), .val (.int an), .val (.int en), .val (.int rs), .val (.int pos), .val (.int rn), u, .unset] []))
          refine Gl.go (fun _ k => XS.iload Xl.here hx rfl (hb hby d14_88) rfl  k) ?_
          show Gl _ _ _ _ (Tl.setTop (mkF m 90 #[.val (.ref av), .val (.int (0 : Int32)), .val (.int zv), .val (.int sl), .val (.int cls), .val (.ref aP), .val (.int pcls), .val (.int an), .val (.int en), .val (.int rs), .val (.int pos), .val (.int rn), u, .unset] [(.int rn)]))
          refine Gl.go (fun _ k => XS.iload Xl.here hx rfl (hb hby d14_90) rfl  k) ?_
          show Gl _ _ _ _ (Tl.setTop (mkF m 92 #[.val (.ref av), .val (.int (0 : Int32)), .val (.int zv), .val (.int sl), .val (.int cls), .val (.ref aP), .val (.int pcls), .val (.int an), .val (.int en), .val (.int rs), .val (.int pos), .val (.int rn), u, .unset] [(.int en), (.int rn)]))
          refine Gl.go (fun _ k => XS.icmpYes Xl.here hx rfl (pc0 := 92) (pc' := 145) rfl (hb hby d14_92) rfl (flt (o_nlt3 q1 q3)).2.1 (by decide) (by decide) k) ?_
          show Gl _ _ _ _ (Tl.setTop (mkF m 145 #[.val (.ref av), .val (.int (0 : Int32)), .val (.int zv), .val (.int sl), .val (.int cls), .val (.ref aP), .val (.int pcls), .val (.int an), .val (.int en), .val (.int rs), .val (.int pos), .val (.int rn), u, .unset] []))
          rw [mpZ zP (gL lP) (gL lv) an en pos rs rn] at q7
          refine Gl.go (fun _ k => XS.iload Xl.here hx rfl (hb hby d14_145) rfl  k) ?_
          show Gl _ _ _ _ (Tl.setTop (mkF m 147 #[.val (.ref av), .val (.int (0 : Int32)), .val (.int zv), .val (.int sl), .val (.int cls), .val (.ref aP), .val (.int pcls), .val (.int an), .val (.int en), .val (.int rs), .val (.int pos), .val (.int rn), u, .unset] [(.int en)]))
          refine Gl.go (fun _ k => XS.iload Xl.here hx rfl (hb hby d14_147) rfl  k) ?_
          show Gl _ _ _ _ (Tl.setTop (mkF m 149 #[.val (.ref av), .val (.int (0 : Int32)), .val (.int zv), .val (.int sl), .val (.int cls), .val (.ref aP), .val (.int pcls), .val (.int an), .val (.int en), .val (.int rs), .val (.int pos), .val (.int rn), u, .unset] [(.int rs), (.int en)]))
          refine Gl.go (fun _ k => XS.isub Xl.here hx rfl (hb hby d14_149) rfl k) ?_
          show Gl _ _ _ _ (Tl.setTop (mkF m 150 #[.val (.ref av), .val (.int (0 : Int32)), .val (.int zv), .val (.int sl), .val (.int cls), .val (.ref aP), .val (.int pcls), .val (.int an), .val (.int en), .val (.int rs), .val (.int pos), .val (.int rn), u, .unset] [(.int (en - rs))]))
          refine Gl.go (fun _ k => XS.istoreS Xl.here hx rfl (hb hby d14_150) rfl (o := u) rfl hu k) ?_
          show Gl _ _ _ _ (Tl.setTop (mkF m 152 #[.val (.ref av), .val (.int (0 : Int32)), .val (.int zv), .val (.int sl), .val (.int cls), .val (.ref aP), .val (.int pcls), .val (.int an), .val (.int en), .val (.int rs), .val (.int pos), .val (.int rn), .val (.int (en - rs)), .unset] []))
          refine Gl.go (fun _ k => XS.iload Xl.here hx rfl (hb hby d14_152) rfl  k) ?_
          show Gl _ _ _ _ (Tl.setTop (mkF m 154 #[.val (.ref av), .val (.int (0 : Int32)), .val (.int zv), .val (.int sl), .val (.int cls), .val (.ref aP), .val (.int pcls), .val (.int an), .val (.int en), .val (.int rs), .val (.int pos), .val (.int rn), .val (.int (en - rs)), .unset] [(.int an)]))
          by_cases hC : an = (0 : Int32)
          · skip
            refine Gl.go (fun _ k => XS.ifYes Xl.here hx rfl (pc0 := 154) (pc' := 193) rfl (hb hby d14_154) rfl ((if0 _ _).trans (teq hC).1) (by decide) (by decide) k) ?_
            show Gl _ _ _ _ (Tl.setTop (mkF m 193 #[.val (.ref av), .val (.int (0 : Int32)), .val (.int zv), .val (.int sl), .val (.int cls), .val (.ref aP), .val (.int pcls), .val (.int an), .val (.int en), .val (.int rs), .val (.int pos), .val (.int rn), .val (.int (en - rs)), .unset] []))
            refine Gl.go (fun _ k => XS.aload Xl.here hx rfl (hb hby d14_193) rfl rfl  k) ?_
            show Gl _ _ _ _ (Tl.setTop (mkF m 195 #[.val (.ref av), .val (.int (0 : Int32)), .val (.int zv), .val (.int sl), .val (.int cls), .val (.ref aP), .val (.int pcls), .val (.int an), .val (.int en), .val (.int rs), .val (.int pos), .val (.int rn), .val (.int (en - rs)), .unset] [(.ref aP)]))
            refine Gl.go (fun _ k => XS.iload Xl.here hx rfl (hb hby d14_195) rfl  k) ?_
            show Gl _ _ _ _ (Tl.setTop (mkF m 197 #[.val (.ref av), .val (.int (0 : Int32)), .val (.int zv), .val (.int sl), .val (.int cls), .val (.ref aP), .val (.int pcls), .val (.int an), .val (.int en), .val (.int rs), .val (.int pos), .val (.int rn), .val (.int (en - rs)), .unset] [(.int pos), (.ref aP)]))
            refine Gl.go (fun _ k => XS.aloadN Xl.here hx rfl (hb hby d14_197) rfl rfl  k) ?_
            show Gl _ _ _ _ (Tl.setTop (mkF m 198 #[.val (.ref av), .val (.int (0 : Int32)), .val (.int zv), .val (.int sl), .val (.int cls), .val (.ref aP), .val (.int pcls), .val (.int an), .val (.int en), .val (.int rs), .val (.int pos), .val (.int rn), .val (.int (en - rs)), .unset] [(.ref av), (.int pos), (.ref aP)]))
            refine Gl.go (fun _ k => XS.iload Xl.here hx rfl (hb hby d14_198) rfl  k) ?_
            show Gl _ _ _ _ (Tl.setTop (mkF m 200 #[.val (.ref av), .val (.int (0 : Int32)), .val (.int zv), .val (.int sl), .val (.int cls), .val (.ref aP), .val (.int pcls), .val (.int an), .val (.int en), .val (.int rs), .val (.int pos), .val (.int rn), .val (.int (en - rs)), .unset] [(.int rs), (.ref av), (.int pos), (.ref aP)]))
            refine Gl.go (fun _ k => XS.iload Xl.here hx rfl (hb hby d14_200) rfl  k) ?_
            show Gl _ _ _ _ (Tl.setTop (mkF m 202 #[.val (.ref av), .val (.int (0 : Int32)), .val (.int zv), .val (.int sl), .val (.int cls), .val (.ref aP), .val (.int pcls), .val (.int an), .val (.int en), .val (.int rs), .val (.int pos), .val (.int rn), .val (.int (en - rs)), .unset] [(.int en), (.int rs), (.ref av), (.int pos), (.ref aP)]))
            obtain ⟨_, _, ⟨T8, L8, k8, n8⟩, -, X8, ⟨Lc8, hQ8, l8, y8, z8⟩, st8⟩ := Jvm.LawKit.callS Xl hx (y := (⟨"com/example/aloud/aloud/PathPattern", "indexOf", "([BI[BII)I"⟩ : MethodName)) hown (mvT hZ (hw _ (List.mem_of_getElem? (i := 52) rfl))) (mvT hZ (hw _ (List.mem_of_getElem? (i := 53) rfl))) (mvT hZ (hw _ (List.mem_of_getElem? (i := 13) rfl))) (mvT hZ (hw _ (List.mem_of_getElem? (i := 54) rfl))) (by decide) (backOf (W := 0) (rm_io l Z a0 hw [] aP kP zP lP av kv zv lv pos rs en h0 n0 Z0 VP bP Vv bv ⟨q5, q6⟩ ⟨q2, Int.le_trans q3 q4, ben.2⟩) hZ (hw _ (List.mem_of_getElem? (i := 54) rfl)) (hw _ (List.mem_of_getElem? (i := 13) rfl)) (by decide) (by decide)) (g := (mkF m 202 #[.val (.ref av), .val (.int (0 : Int32)), .val (.int zv), .val (.int sl), .val (.int cls), .val (.ref aP), .val (.int pcls), .val (.int an), .val (.int en), .val (.int rs), .val (.int pos), .val (.int rn), .val (.int (en - rs)), .unset] [(.int en), (.int rs), (.ref av), (.int pos), (.ref aP)])) rfl (by rw [hml]; rfl) (argsL := [(.ref aP), (.int pos), (.ref av), (.int rs), (.int en)]) (rest := []) (lenOf pd_2 rfl) rfl (by show 2 * 0 + _ ≤ _; exact Nat.le_of_eq rfl) (hb hby d14_202) (fun _ _ => ⟨rfl, el, (by decide : 0 + 0 ≤ _), (by decide : 0 + 0 ≤ _)⟩)
            dsimp only [Pt.U, Pt.locs, Pt.cells, Pt.slots] at X8 l8 y8 z8 st8 hQ8
            subst l8 y8 z8
            obtain ⟨rfl, Nq8, e8⟩ := hQ8
            have N8 := Fr.app Nl Nq8
            refine Gl.go (fun _ k => st8 _ k) ?_
            show Gl _ _ _ _ (T8.setTop (mkF m 205 #[.val (.ref av), .val (.int (0 : Int32)), .val (.int zv), .val (.int sl), .val (.int cls), .val (.ref aP), .val (.int pcls), .val (.int an), .val (.int en), .val (.int rs), .val (.int pos), .val (.int rn), .val (.int (en - rs)), .unset] [(.int (ioV zP (gL lP) (gL lv) pos rs en))]))
            by_cases hE : (ioV zP (gL lP) (gL lv) pos rs en) < (0 : Int32)
            · skip
              refine Gl.go (fun _ k => XS.ifYes X8.here hx rfl (pc0 := 205) (pc' := 212) rfl (hb hby d14_205) rfl ((if0 _ _).trans (tlt hE).1) (by decide) (by decide) k) ?_
              show Gl _ _ _ _ (T8.setTop (mkF m 212 #[.val (.ref av), .val (.int (0 : Int32)), .val (.int zv), .val (.int sl), .val (.int cls), .val (.ref aP), .val (.int pcls), .val (.int an), .val (.int en), .val (.int rs), .val (.int pos), .val (.int rn), .val (.int (en - rs)), .unset] []))
              refine Gl.go (fun _ k => XS.iconst X8.here hx rfl (hb hby d14_212) k) ?_
              show Gl _ _ _ _ (T8.setTop (mkF m 213 #[.val (.ref av), .val (.int (0 : Int32)), .val (.int zv), .val (.int sl), .val (.int cls), .val (.ref aP), .val (.int pcls), .val (.int an), .val (.int en), .val (.int rs), .val (.int pos), .val (.int rn), .val (.int (en - rs)), .unset] [(.int (0 : Int32))]))
              refine leafN X8 hx hlk (t := .boolean) Bd.returns (by simp) (hb hby d14_213) ?_ (by decide) (by decide)
              exact ⟨by rw [nar0, ← q7, mpT, if_pos hC, if_pos hE], N8, e8⟩
            · skip
              refine Gl.go (fun _ k => XS.ifNo X8.here hx rfl (hb hby d14_205) rfl ((if0 _ _).trans (flt hE).1) k) ?_
              show Gl _ _ _ _ (T8.setTop (mkF m 208 #[.val (.ref av), .val (.int (0 : Int32)), .val (.int zv), .val (.int sl), .val (.int cls), .val (.ref aP), .val (.int pcls), .val (.int an), .val (.int en), .val (.int rs), .val (.int pos), .val (.int rn), .val (.int (en - rs)), .unset] []))
              refine Gl.go (fun _ k => XS.iconst X8.here hx rfl (hb hby d14_208) k) ?_
              show Gl _ _ _ _ (T8.setTop (mkF m 209 #[.val (.ref av), .val (.int (0 : Int32)), .val (.int zv), .val (.int sl), .val (.int cls), .val (.ref aP), .val (.int pcls), .val (.int an), .val (.int en), .val (.int rs), .val (.int pos), .val (.int rn), .val (.int (en - rs)), .unset] [(.int (1 : Int32))]))
              refine Gl.go (fun _ k => XS.goto X8.here hx rfl (pc0 := 209) (pc' := 213) rfl (hb hby d14_209) (by decide) (by decide) k) ?_
              show Gl _ _ _ _ (T8.setTop (mkF m 213 #[.val (.ref av), .val (.int (0 : Int32)), .val (.int zv), .val (.int sl), .val (.int cls), .val (.ref aP), .val (.int pcls), .val (.int an), .val (.int en), .val (.int rs), .val (.int pos), .val (.int rn), .val (.int (en - rs)), .unset] [(.int (1 : Int32))]))
              refine leafN X8 hx hlk (t := .boolean) Bd.returns (by simp) (hb hby d14_213) ?_ (by decide) (by decide)
              exact ⟨by rw [nar1, ← q7, mpT, if_pos hC, if_neg hE], N8, e8⟩
          · skip
            refine Gl.go (fun _ k => XS.ifNo Xl.here hx rfl (hb hby d14_154) rfl ((if0 _ _).trans (feq hC).1) k) ?_
            show Gl _ _ _ _ (Tl.setTop (mkF m 157 #[.val (.ref av), .val (.int (0 : Int32)), .val (.int zv), .val (.int sl), .val (.int cls), .val (.ref aP), .val (.int pcls), .val (.int an), .val (.int en), .val (.int rs), .val (.int pos), .val (.int rn), .val (.int (en - rs)), .unset] []))
            refine Gl.go (fun _ k => XS.aload Xl.here hx rfl (hb hby d14_157) rfl rfl  k) ?_
            show Gl _ _ _ _ (Tl.setTop (mkF m 159 #[.val (.ref av), .val (.int (0 : Int32)), .val (.int zv), .val (.int sl), .val (.int cls), .val (.ref aP), .val (.int pcls), .val (.int an), .val (.int en), .val (.int rs), .val (.int pos), .val (.int rn), .val (.int (en - rs)), .unset] [(.ref aP)]))
            obtain ⟨cl9, Ar9, qA9, SA9, NA9, HA9, GA9⟩ := id VP
            refine Gl.go (fun _ k => Xl.arraylength hx (by rw [el]; exact Ar9.1) (State.isArrayOf_alike hZ.alike Ar9.2.1) (g := (mkF m 159 #[.val (.ref av), .val (.int (0 : Int32)), .val (.int zv), .val (.int sl), .val (.int cls), .val (.ref aP), .val (.int pcls), .val (.int an), .val (.int en), .val (.int rs), .val (.int pos), .val (.int rn), .val (.int (en - rs)), .unset] [(.ref aP)])) rfl rfl (hb hby d14_159) _ k) ?_
            rw [len_of SA9 NA9]
            show Gl _ _ _ _ (Tl.setTop (mkF m 160 #[.val (.ref av), .val (.int (0 : Int32)), .val (.int zv), .val (.int sl), .val (.int cls), .val (.ref aP), .val (.int pcls), .val (.int an), .val (.int en), .val (.int rs), .val (.int pos), .val (.int rn), .val (.int (en - rs)), .unset] [(.int zP)]))
            refine Gl.go (fun _ k => XS.iload Xl.here hx rfl (hb hby d14_160) rfl  k) ?_
            show Gl _ _ _ _ (Tl.setTop (mkF m 162 #[.val (.ref av), .val (.int (0 : Int32)), .val (.int zv), .val (.int sl), .val (.int cls), .val (.ref aP), .val (.int pcls), .val (.int an), .val (.int en), .val (.int rs), .val (.int pos), .val (.int rn), .val (.int (en - rs)), .unset] [(.int (en - rs)), (.int zP)]))
            refine Gl.go (fun _ k => XS.isub Xl.here hx rfl (hb hby d14_162) rfl k) ?_
            show Gl _ _ _ _ (Tl.setTop (mkF m 163 #[.val (.ref av), .val (.int (0 : Int32)), .val (.int zv), .val (.int sl), .val (.int cls), .val (.ref aP), .val (.int pcls), .val (.int an), .val (.int en), .val (.int rs), .val (.int pos), .val (.int rn), .val (.int (en - rs)), .unset] [(.int (zP - (en - rs)))]))
            refine Gl.go (fun _ k => XS.istore Xl.here hx rfl (hb hby d14_163) rfl (l' := #[.val (.ref av), .val (.int (0 : Int32)), .val (.int zv), .val (.int sl), .val (.int cls), .val (.ref aP), .val (.int pcls), .val (.int an), .val (.int en), .val (.int rs), .val (.int pos), .val (.int rn), .val (.int (en - rs)), .val (.int (zP - (en - rs)))]) rfl k) ?_
            show Gl _ _ _ _ (Tl.setTop (mkF m 165 #[.val (.ref av), .val (.int (0 : Int32)), .val (.int zv), .val (.int sl), .val (.int cls), .val (.ref aP), .val (.int pcls), .val (.int an), .val (.int en), .val (.int rs), .val (.int pos), .val (.int rn), .val (.int (en - rs)), .val (.int (zP - (en - rs)))] []))
            refine Gl.go (fun _ k => XS.iload Xl.here hx rfl (hb hby d14_165) rfl  k) ?_
            show Gl _ _ _ _ (Tl.setTop (mkF m 167 #[.val (.ref av), .val (.int (0 : Int32)), .val (.int zv), .val (.int sl), .val (.int cls), .val (.ref aP), .val (.int pcls), .val (.int an), .val (.int en), .val (.int rs), .val (.int pos), .val (.int rn), .val (.int (en - rs)), .val (.int (zP - (en - rs)))] [(.int (zP - (en - rs)))]))
            refine Gl.go (fun _ k => XS.iload Xl.here hx rfl (hb hby d14_167) rfl  k) ?_
            show Gl _ _ _ _ (Tl.setTop (mkF m 169 #[.val (.ref av), .val (.int (0 : Int32)), .val (.int zv), .val (.int sl), .val (.int cls), .val (.ref aP), .val (.int pcls), .val (.int an), .val (.int en), .val (.int rs), .val (.int pos), .val (.int rn), .val (.int (en - rs)), .val (.int (zP - (en - rs)))] [(.int pos), (.int (zP - (en - rs)))]))
            by_cases hE : (zP - (en - rs)) < pos
            · skip
              refine Gl.go (fun _ k => XS.icmpYes Xl.here hx rfl (pc0 := 169) (pc' := 191) rfl (hb hby d14_169) rfl (tlt hE).1 (by decide) (by decide) k) ?_
              show Gl _ _ _ _ (Tl.setTop (mkF m 191 #[.val (.ref av), .val (.int (0 : Int32)), .val (.int zv), .val (.int sl), .val (.int cls), .val (.ref aP), .val (.int pcls), .val (.int an), .val (.int en), .val (.int rs), .val (.int pos), .val (.int rn), .val (.int (en - rs)), .val (.int (zP - (en - rs)))] []))
              refine Gl.go (fun _ k => XS.iconst Xl.here hx rfl (hb hby d14_191) k) ?_
              show Gl _ _ _ _ (Tl.setTop (mkF m 192 #[.val (.ref av), .val (.int (0 : Int32)), .val (.int zv), .val (.int sl), .val (.int cls), .val (.ref aP), .val (.int pcls), .val (.int an), .val (.int en), .val (.int rs), .val (.int pos), .val (.int rn), .val (.int (en - rs)), .val (.int (zP - (en - rs)))] [(.int (0 : Int32))]))
              refine leafN Xl hx hlk (t := .boolean) Bd.returns (by simp) (hb hby d14_192) ?_ (by decide) (by decide)
              exact ⟨by rw [nar0, ← q7, mpT, if_neg hC, if_pos hE], Nl, el⟩
            · skip
              refine Gl.go (fun _ k => XS.icmpNo Xl.here hx rfl (hb hby d14_169) rfl (flt hE).1 k) ?_
              show Gl _ _ _ _ (Tl.setTop (mkF m 172 #[.val (.ref av), .val (.int (0 : Int32)), .val (.int zv), .val (.int sl), .val (.int cls), .val (.ref aP), .val (.int pcls), .val (.int an), .val (.int en), .val (.int rs), .val (.int pos), .val (.int rn), .val (.int (en - rs)), .val (.int (zP - (en - rs)))] []))
              have ht := o_tail hE q2 q3 q4 q5 ben bv bP
              refine Gl.go (fun _ k => XS.aload Xl.here hx rfl (hb hby d14_172) rfl rfl  k) ?_
              show Gl _ _ _ _ (Tl.setTop (mkF m 174 #[.val (.ref av), .val (.int (0 : Int32)), .val (.int zv), .val (.int sl), .val (.int cls), .val (.ref aP), .val (.int pcls), .val (.int an), .val (.int en), .val (.int rs), .val (.int pos), .val (.int rn), .val (.int (en - rs)), .val (.int (zP - (en - rs)))] [(.ref aP)]))
              refine Gl.go (fun _ k => XS.iload Xl.here hx rfl (hb hby d14_174) rfl  k) ?_
              show Gl _ _ _ _ (Tl.setTop (mkF m 176 #[.val (.ref av), .val (.int (0 : Int32)), .val (.int zv), .val (.int sl), .val (.int cls), .val (.ref aP), .val (.int pcls), .val (.int an), .val (.int en), .val (.int rs), .val (.int pos), .val (.int rn), .val (.int (en - rs)), .val (.int (zP - (en - rs)))] [(.int (zP - (en - rs))), (.ref aP)]))
              refine Gl.go (fun _ k => XS.aloadN Xl.here hx rfl (hb hby d14_176) rfl rfl  k) ?_
              show Gl _ _ _ _ (Tl.setTop (mkF m 177 #[.val (.ref av), .val (.int (0 : Int32)), .val (.int zv), .val (.int sl), .val (.int cls), .val (.ref aP), .val (.int pcls), .val (.int an), .val (.int en), .val (.int rs), .val (.int pos), .val (.int rn), .val (.int (en - rs)), .val (.int (zP - (en - rs)))] [(.ref av), (.int (zP - (en - rs))), (.ref aP)]))
              refine Gl.go (fun _ k => XS.iload Xl.here hx rfl (hb hby d14_177) rfl  k) ?_
              show Gl _ _ _ _ (Tl.setTop (mkF m 179 #[.val (.ref av), .val (.int (0 : Int32)), .val (.int zv), .val (.int sl), .val (.int cls), .val (.ref aP), .val (.int pcls), .val (.int an), .val (.int en), .val (.int rs), .val (.int pos), .val (.int rn), .val (.int (en - rs)), .val (.int (zP - (en - rs)))] [(.int rs), (.ref av), (.int (zP - (en - rs))), (.ref aP)]))
              refine Gl.go (fun _ k => XS.iload Xl.here hx rfl (hb hby d14_179) rfl  k) ?_
              show Gl _ _ _ _ (Tl.setTop (mkF m 181 #[.val (.ref av), .val (.int (0 : Int32)), .val (.int zv), .val (.int sl), .val (.int cls), .val (.ref aP), .val (.int pcls), .val (.int an), .val (.int en), .val (.int rs), .val (.int pos), .val (.int rn), .val (.int (en - rs)), .val (.int (zP - (en - rs)))] [(.int (en - rs)), (.int rs), (.ref av), (.int (zP - (en - rs))), (.ref aP)]))
              obtain ⟨_, _, ⟨T10, L10, k10, n10⟩, -, X10, ⟨Lc10, hQ10, l10, y10, z10⟩, st10⟩ := Jvm.LawKit.callS Xl hx (y := (⟨"com/example/aloud/aloud/PathPattern", "occursAt", "([BI[BII)Z"⟩ : MethodName)) hown (mvT hZ (hw _ (List.mem_of_getElem? (i := 27) rfl))) (mvT hZ (hw _ (List.mem_of_getElem? (i := 28) rfl))) (mvT hZ (hw _ (List.mem_of_getElem? (i := 13) rfl))) (mvT hZ (hw _ (List.mem_of_getElem? (i := 29) rfl))) (by decide) (backOf (W := 0) (rm_oc l Z a0 hw [] aP kP zP lP av kv zv lv (zP - (en - rs)) rs (en - rs) h0 n0 Z0 VP bP Vv bv ht.1 ht.2.1 q2 ht.2.2) hZ (hw _ (List.mem_of_getElem? (i := 29) rfl)) (hw _ (List.mem_of_getElem? (i := 13) rfl)) (by decide) (by decide)) (g := (mkF m 181 #[.val (.ref av), .val (.int (0 : Int32)), .val (.int zv), .val (.int sl), .val (.int cls), .val (.ref aP), .val (.int pcls), .val (.int an), .val (.int en), .val (.int rs), .val (.int pos), .val (.int rn), .val (.int (en - rs)), .val (.int (zP - (en - rs)))] [(.int (en - rs)), (.int rs), (.ref av), (.int (zP - (en - rs))), (.ref aP)])) rfl (by rw [hml]; rfl) (argsL := [(.ref aP), (.int (zP - (en - rs))), (.ref av), (.int rs), (.int (en - rs))]) (rest := []) (lenOf pd_4 rfl) rfl (by show 2 * 0 + _ ≤ _; exact Nat.le_of_eq rfl) (hb hby d14_181) (fun _ _ => ⟨rfl, el, (by decide : 0 + 0 ≤ _), (by decide : 0 + 0 ≤ _)⟩)
              dsimp only [Pt.U, Pt.locs, Pt.cells, Pt.slots] at X10 l10 y10 z10 st10 hQ10
              subst l10 y10 z10
              obtain ⟨rfl, Nq10, e10⟩ := hQ10
              have N10 := Fr.app Nl Nq10
              refine Gl.go (fun _ k => st10 _ k) ?_
              show Gl _ _ _ _ (T10.setTop (mkF m 184 #[.val (.ref av), .val (.int (0 : Int32)), .val (.int zv), .val (.int sl), .val (.int cls), .val (.ref aP), .val (.int pcls), .val (.int an), .val (.int en), .val (.int rs), .val (.int pos), .val (.int rn), .val (.int (en - rs)), .val (.int (zP - (en - rs)))] [(.int (ocV zP (gL lP) (gL lv) (zP - (en - rs)) rs (en - rs)))]))
              by_cases hF : (ocV zP (gL lP) (gL lv) (zP - (en - rs)) rs (en - rs)) = (0 : Int32)
              · skip
                refine Gl.go (fun _ k => XS.ifYes X10.here hx rfl (pc0 := 184) (pc' := 191) rfl (hb hby d14_184) rfl ((if0 _ _).trans (teq hF).1) (by decide) (by decide) k) ?_
                show Gl _ _ _ _ (T10.setTop (mkF m 191 #[.val (.ref av), .val (.int (0 : Int32)), .val (.int zv), .val (.int sl), .val (.int cls), .val (.ref aP), .val (.int pcls), .val (.int an), .val (.int en), .val (.int rs), .val (.int pos), .val (.int rn), .val (.int (en - rs)), .val (.int (zP - (en - rs)))] []))
                refine Gl.go (fun _ k => XS.iconst X10.here hx rfl (hb hby d14_191) k) ?_
                show Gl _ _ _ _ (T10.setTop (mkF m 192 #[.val (.ref av), .val (.int (0 : Int32)), .val (.int zv), .val (.int sl), .val (.int cls), .val (.ref aP), .val (.int pcls), .val (.int an), .val (.int en), .val (.int rs), .val (.int pos), .val (.int rn), .val (.int (en - rs)), .val (.int (zP - (en - rs)))] [(.int (0 : Int32))]))
                refine leafN X10 hx hlk (t := .boolean) Bd.returns (by simp) (hb hby d14_192) ?_ (by decide) (by decide)
                exact ⟨by rw [nar0, ← q7, mpT, if_neg hC, if_neg hE, if_pos hF], N10, e10⟩
              · skip
                refine Gl.go (fun _ k => XS.ifNo X10.here hx rfl (hb hby d14_184) rfl ((if0 _ _).trans (feq hF).1) k) ?_
                show Gl _ _ _ _ (T10.setTop (mkF m 187 #[.val (.ref av), .val (.int (0 : Int32)), .val (.int zv), .val (.int sl), .val (.int cls), .val (.ref aP), .val (.int pcls), .val (.int an), .val (.int en), .val (.int rs), .val (.int pos), .val (.int rn), .val (.int (en - rs)), .val (.int (zP - (en - rs)))] []))
                refine Gl.go (fun _ k => XS.iconst X10.here hx rfl (hb hby d14_187) k) ?_
                show Gl _ _ _ _ (T10.setTop (mkF m 188 #[.val (.ref av), .val (.int (0 : Int32)), .val (.int zv), .val (.int sl), .val (.int cls), .val (.ref aP), .val (.int pcls), .val (.int an), .val (.int en), .val (.int rs), .val (.int pos), .val (.int rn), .val (.int (en - rs)), .val (.int (zP - (en - rs)))] [(.int (1 : Int32))]))
                refine Gl.go (fun _ k => XS.goto X10.here hx rfl (pc0 := 188) (pc' := 192) rfl (hb hby d14_188) (by decide) (by decide) k) ?_
                show Gl _ _ _ _ (T10.setTop (mkF m 192 #[.val (.ref av), .val (.int (0 : Int32)), .val (.int zv), .val (.int sl), .val (.int cls), .val (.ref aP), .val (.int pcls), .val (.int an), .val (.int en), .val (.int rs), .val (.int pos), .val (.int rn), .val (.int (en - rs)), .val (.int (zP - (en - rs)))] [(.int (1 : Int32))]))
                refine leafN X10 hx hlk (t := .boolean) Bd.returns (by simp) (hb hby d14_192) ?_ (by decide) (by decide)
                exact ⟨by rw [nar1, ← q7, mpT, if_neg hC, if_neg hE, if_neg hF], N10, e10⟩
        | succ k ih =>
          intro pos rs rn u Tl Ll Xl el Nl q1 q2 q3 q4 q5 q6 q7 hu
          show Gl _ _ _ _ (Tl.setTop (mkF m 88 #[.val (.ref av), .val (.int (0 : Int32)), .val (.int zv), .val (.int sl), .val (.int cls), .val (.ref aP), .val (.int pcls), .val (.int an), .val (.int en), .val (.int rs), .val (.int pos), .val (.int rn), u, .unset] []))
          refine Gl.go (fun _ k => XS.iload Xl.here hx rfl (hb hby d14_88) rfl  k) ?_
          show Gl _ _ _ _ (Tl.setTop (mkF m 90 #[.val (.ref av), .val (.int (0 : Int32)), .val (.int zv), .val (.int sl), .val (.int cls), .val (.ref aP), .val (.int pcls), .val (.int an), .val (.int en), .val (.int rs), .val (.int pos), .val (.int rn), u, .unset] [(.int rn)]))
          refine Gl.go (fun _ k => XS.iload Xl.here hx rfl (hb hby d14_90) rfl  k) ?_
          show Gl _ _ _ _ (Tl.setTop (mkF m 92 #[.val (.ref av), .val (.int (0 : Int32)), .val (.int zv), .val (.int sl), .val (.int cls), .val (.ref aP), .val (.int pcls), .val (.int an), .val (.int en), .val (.int rs), .val (.int pos), .val (.int rn), u, .unset] [(.int en), (.int rn)]))
          by_cases hD : rn < en
          · skip
            refine Gl.go (fun _ k => XS.icmpNo Xl.here hx rfl (hb hby d14_92) rfl (tlt hD).2.1 k) ?_
            show Gl _ _ _ _ (Tl.setTop (mkF m 95 #[.val (.ref av), .val (.int (0 : Int32)), .val (.int zv), .val (.int sl), .val (.int cls), .val (.ref aP), .val (.int pcls), .val (.int an), .val (.int en), .val (.int rs), .val (.int pos), .val (.int rn), u, .unset] []))
            refine Gl.go (fun _ k => XS.aload Xl.here hx rfl (hb hby d14_95) rfl rfl  k) ?_
            show Gl _ _ _ _ (Tl.setTop (mkF m 97 #[.val (.ref av), .val (.int (0 : Int32)), .val (.int zv), .val (.int sl), .val (.int cls), .val (.ref aP), .val (.int pcls), .val (.int an), .val (.int en), .val (.int rs), .val (.int pos), .val (.int rn), u, .unset] [(.ref aP)]))
            refine Gl.go (fun _ k => XS.iload Xl.here hx rfl (hb hby d14_97) rfl  k) ?_
            show Gl _ _ _ _ (Tl.setTop (mkF m 99 #[.val (.ref av), .val (.int (0 : Int32)), .val (.int zv), .val (.int sl), .val (.int cls), .val (.ref aP), .val (.int pcls), .val (.int an), .val (.int en), .val (.int rs), .val (.int pos), .val (.int rn), u, .unset] [(.int pos), (.ref aP)]))
            refine Gl.go (fun _ k => XS.aloadN Xl.here hx rfl (hb hby d14_99) rfl rfl  k) ?_
            show Gl _ _ _ _ (Tl.setTop (mkF m 100 #[.val (.ref av), .val (.int (0 : Int32)), .val (.int zv), .val (.int sl), .val (.int cls), .val (.ref aP), .val (.int pcls), .val (.int an), .val (.int en), .val (.int rs), .val (.int pos), .val (.int rn), u, .unset] [(.ref av), (.int pos), (.ref aP)]))
            refine Gl.go (fun _ k => XS.iload Xl.here hx rfl (hb hby d14_100) rfl  k) ?_
            show Gl _ _ _ _ (Tl.setTop (mkF m 102 #[.val (.ref av), .val (.int (0 : Int32)), .val (.int zv), .val (.int sl), .val (.int cls), .val (.ref aP), .val (.int pcls), .val (.int an), .val (.int en), .val (.int rs), .val (.int pos), .val (.int rn), u, .unset] [(.int rs), (.ref av), (.int pos), (.ref aP)]))
            refine Gl.go (fun _ k => XS.iload Xl.here hx rfl (hb hby d14_102) rfl  k) ?_
            show Gl _ _ _ _ (Tl.setTop (mkF m 104 #[.val (.ref av), .val (.int (0 : Int32)), .val (.int zv), .val (.int sl), .val (.int cls), .val (.ref aP), .val (.int pcls), .val (.int an), .val (.int en), .val (.int rs), .val (.int pos), .val (.int rn), u, .unset] [(.int rn), (.int rs), (.ref av), (.int pos), (.ref aP)]))
            obtain ⟨_, _, ⟨T11, L11, k11, n11⟩, -, X11, ⟨Lc11, hQ11, l11, y11, z11⟩, st11⟩ := Jvm.LawKit.callS Xl hx (y := (⟨"com/example/aloud/aloud/PathPattern", "indexOf", "([BI[BII)I"⟩ : MethodName)) hown (mvT hZ (hw _ (List.mem_of_getElem? (i := 52) rfl))) (mvT hZ (hw _ (List.mem_of_getElem? (i := 53) rfl))) (mvT hZ (hw _ (List.mem_of_getElem? (i := 13) rfl))) (mvT hZ (hw _ (List.mem_of_getElem? (i := 54) rfl))) (by decide) (backOf (W := 0) (rm_io l Z a0 hw [] aP kP zP lP av kv zv lv pos rs rn h0 n0 Z0 VP bP Vv bv ⟨q5, q6⟩ ⟨q2, q3, Int.le_trans q4 ben.2⟩) hZ (hw _ (List.mem_of_getElem? (i := 54) rfl)) (hw _ (List.mem_of_getElem? (i := 13) rfl)) (by decide) (by decide)) (g := (mkF m 104 #[.val (.ref av), .val (.int (0 : Int32)), .val (.int zv), .val (.int sl), .val (.int cls), .val (.ref aP), .val (.int pcls), .val (.int an), .val (.int en), .val (.int rs), .val (.int pos), .val (.int rn), u, .unset] [(.int rn), (.int rs), (.ref av), (.int pos), (.ref aP)])) rfl (by rw [hml]; rfl) (argsL := [(.ref aP), (.int pos), (.ref av), (.int rs), (.int rn)]) (rest := []) (lenOf pd_2 rfl) rfl (by show 2 * 0 + _ ≤ _; exact Nat.le_of_eq rfl) (hb hby d14_104) (fun _ _ => ⟨rfl, el, (by decide : 0 + 0 ≤ _), (by decide : 0 + 0 ≤ _)⟩)
            dsimp only [Pt.U, Pt.locs, Pt.cells, Pt.slots] at X11 l11 y11 z11 st11 hQ11
            subst l11 y11 z11
            obtain ⟨rfl, Nq11, e11⟩ := hQ11
            have N11 := Fr.app Nl Nq11
            refine Gl.go (fun _ k => st11 _ k) ?_
            show Gl _ _ _ _ (T11.setTop (mkF m 107 #[.val (.ref av), .val (.int (0 : Int32)), .val (.int zv), .val (.int sl), .val (.int cls), .val (.ref aP), .val (.int pcls), .val (.int an), .val (.int en), .val (.int rs), .val (.int pos), .val (.int rn), u, .unset] [(.int (ioV zP (gL lP) (gL lv) pos rs rn))]))
            refine Gl.go (fun _ k => XS.istoreS X11.here hx rfl (hb hby d14_107) rfl (o := u) rfl hu k) ?_
            show Gl _ _ _ _ (T11.setTop (mkF m 109 #[.val (.ref av), .val (.int (0 : Int32)), .val (.int zv), .val (.int sl), .val (.int cls), .val (.ref aP), .val (.int pcls), .val (.int an), .val (.int en), .val (.int rs), .val (.int pos), .val (.int rn), .val (.int (ioV zP (gL lP) (gL lv) pos rs rn)), .unset] []))
            refine Gl.go (fun _ k => XS.iload X11.here hx rfl (hb hby d14_109) rfl  k) ?_
            show Gl _ _ _ _ (T11.setTop (mkF m 111 #[.val (.ref av), .val (.int (0 : Int32)), .val (.int zv), .val (.int sl), .val (.int cls), .val (.ref aP), .val (.int pcls), .val (.int an), .val (.int en), .val (.int rs), .val (.int pos), .val (.int rn), .val (.int (ioV zP (gL lP) (gL lv) pos rs rn)), .unset] [(.int (ioV zP (gL lP) (gL lv) pos rs rn))]))
            by_cases hE : (ioV zP (gL lP) (gL lv) pos rs rn) < (0 : Int32)
            · skip
              refine Gl.go (fun _ k => XS.ifNo X11.here hx rfl (hb hby d14_111) rfl ((if0 _ _).trans (tlt hE).2.1) k) ?_
              show Gl _ _ _ _ (T11.setTop (mkF m 114 #[.val (.ref av), .val (.int (0 : Int32)), .val (.int zv), .val (.int sl), .val (.int cls), .val (.ref aP), .val (.int pcls), .val (.int an), .val (.int en), .val (.int rs), .val (.int pos), .val (.int rn), .val (.int (ioV zP (gL lP) (gL lv) pos rs rn)), .unset] []))
              refine Gl.go (fun _ k => XS.iconst X11.here hx rfl (hb hby d14_114) k) ?_
              show Gl _ _ _ _ (T11.setTop (mkF m 115 #[.val (.ref av), .val (.int (0 : Int32)), .val (.int zv), .val (.int sl), .val (.int cls), .val (.ref aP), .val (.int pcls), .val (.int an), .val (.int en), .val (.int rs), .val (.int pos), .val (.int rn), .val (.int (ioV zP (gL lP) (gL lv) pos rs rn)), .unset] [(.int (0 : Int32))]))
              refine leafN X11 hx hlk (t := .boolean) Bd.returns (by simp) (hb hby d14_115) ?_ (by decide) (by decide)
              exact ⟨by rw [nar0, ← q7, mpS zP (gL lP) (gL lv) an en k pos rs rn, if_pos hD, if_pos hE], N11, e11⟩
            · skip
              refine Gl.go (fun _ k => XS.ifYes X11.here hx rfl (pc0 := 111) (pc' := 116) rfl (hb hby d14_111) rfl ((if0 _ _).trans (flt hE).2.1) (by decide) (by decide) k) ?_
              show Gl _ _ _ _ (T11.setTop (mkF m 116 #[.val (.ref av), .val (.int (0 : Int32)), .val (.int zv), .val (.int sl), .val (.int cls), .val (.ref aP), .val (.int pcls), .val (.int an), .val (.int en), .val (.int rs), .val (.int pos), .val (.int rn), .val (.int (ioV zP (gL lP) (gL lv) pos rs rn)), .unset] []))
              have bio := own_io_b (gP := gL lP) (gR := gL lv) hE ⟨q5, q6⟩ ⟨q2, q3, Int.le_trans q4 ben.2⟩ bP bv
              have bnp := o_np bio q2 q3 q4 ben bv bP
              have brn := o_rn hD q2 q3 ben bv
              refine Gl.go (fun _ k => XS.iload X11.here hx rfl (hb hby d14_116) rfl  k) ?_
              show Gl _ _ _ _ (T11.setTop (mkF m 118 #[.val (.ref av), .val (.int (0 : Int32)), .val (.int zv), .val (.int sl), .val (.int cls), .val (.ref aP), .val (.int pcls), .val (.int an), .val (.int en), .val (.int rs), .val (.int pos), .val (.int rn), .val (.int (ioV zP (gL lP) (gL lv) pos rs rn)), .unset] [(.int (ioV zP (gL lP) (gL lv) pos rs rn))]))
              refine Gl.go (fun _ k => XS.iload X11.here hx rfl (hb hby d14_118) rfl  k) ?_
              show Gl _ _ _ _ (T11.setTop (mkF m 120 #[.val (.ref av), .val (.int (0 : Int32)), .val (.int zv), .val (.int sl), .val (.int cls), .val (.ref aP), .val (.int pcls), .val (.int an), .val (.int en), .val (.int rs), .val (.int pos), .val (.int rn), .val (.int (ioV zP (gL lP) (gL lv) pos rs rn)), .unset] [(.int rn), (.int (ioV zP (gL lP) (gL lv) pos rs rn))]))
              refine Gl.go (fun _ k => XS.iadd X11.here hx rfl (hb hby d14_120) rfl k) ?_
              show Gl _ _ _ _ (T11.setTop (mkF m 121 #[.val (.ref av), .val (.int (0 : Int32)), .val (.int zv), .val (.int sl), .val (.int cls), .val (.ref aP), .val (.int pcls), .val (.int an), .val (.int en), .val (.int rs), .val (.int pos), .val (.int rn), .val (.int (ioV zP (gL lP) (gL lv) pos rs rn)), .unset] [(.int ((ioV zP (gL lP) (gL lv) pos rs rn) + rn))]))
              refine Gl.go (fun _ k => XS.iload X11.here hx rfl (hb hby d14_121) rfl  k) ?_
              show Gl _ _ _ _ (T11.setTop (mkF m 123 #[.val (.ref av), .val (.int (0 : Int32)), .val (.int zv), .val (.int sl), .val (.int cls), .val (.ref aP), .val (.int pcls), .val (.int an), .val (.int en), .val (.int rs), .val (.int pos), .val (.int rn), .val (.int (ioV zP (gL lP) (gL lv) pos rs rn)), .unset] [(.int rs), (.int ((ioV zP (gL lP) (gL lv) pos rs rn) + rn))]))
              refine Gl.go (fun _ k => XS.isub X11.here hx rfl (hb hby d14_123) rfl k) ?_
              show Gl _ _ _ _ (T11.setTop (mkF m 124 #[.val (.ref av), .val (.int (0 : Int32)), .val (.int zv), .val (.int sl), .val (.int cls), .val (.ref aP), .val (.int pcls), .val (.int an), .val (.int en), .val (.int rs), .val (.int pos), .val (.int rn), .val (.int (ioV zP (gL lP) (gL lv) pos rs rn)), .unset] [(.int (((ioV zP (gL lP) (gL lv) pos rs rn) + rn) - rs))]))
              refine Gl.go (fun _ k => XS.istore X11.here hx rfl (hb hby d14_124) rfl (l' := #[.val (.ref av), .val (.int (0 : Int32)), .val (.int zv), .val (.int sl), .val (.int cls), .val (.ref aP), .val (.int pcls), .val (.int an), .val (.int en), .val (.int rs), .val (.int (((ioV zP (gL lP) (gL lv) pos rs rn) + rn) - rs)), .val (.int rn), .val (.int (ioV zP (gL lP) (gL lv) pos rs rn)), .unset]) rfl k) ?_
              show Gl _ _ _ _ (T11.setTop (mkF m 126 #[.val (.ref av), .val (.int (0 : Int32)), .val (.int zv), .val (.int sl), .val (.int cls), .val (.ref aP), .val (.int pcls), .val (.int an), .val (.int en), .val (.int rs), .val (.int (((ioV zP (gL lP) (gL lv) pos rs rn) + rn) - rs)), .val (.int rn), .val (.int (ioV zP (gL lP) (gL lv) pos rs rn)), .unset] []))
              refine Gl.go (fun _ k => XS.iload X11.here hx rfl (hb hby d14_126) rfl  k) ?_
              show Gl _ _ _ _ (T11.setTop (mkF m 128 #[.val (.ref av), .val (.int (0 : Int32)), .val (.int zv), .val (.int sl), .val (.int cls), .val (.ref aP), .val (.int pcls), .val (.int an), .val (.int en), .val (.int rs), .val (.int (((ioV zP (gL lP) (gL lv) pos rs rn) + rn) - rs)), .val (.int rn), .val (.int (ioV zP (gL lP) (gL lv) pos rs rn)), .unset] [(.int rn)]))
              refine Gl.go (fun _ k => XS.iconst X11.here hx rfl (hb hby d14_128) k) ?_
              show Gl _ _ _ _ (T11.setTop (mkF m 129 #[.val (.ref av), .val (.int (0 : Int32)), .val (.int zv), .val (.int sl), .val (.int cls), .val (.ref aP), .val (.int pcls), .val (.int an), .val (.int en), .val (.int rs), .val (.int (((ioV zP (gL lP) (gL lv) pos rs rn) + rn) - rs)), .val (.int rn), .val (.int (ioV zP (gL lP) (gL lv) pos rs rn)), .unset] [(.int (1 : Int32)), (.int rn)]))
              refine Gl.go (fun _ k => XS.iadd X11.here hx rfl (hb hby d14_129) rfl k) ?_
              show Gl _ _ _ _ (T11.setTop (mkF m 130 #[.val (.ref av), .val (.int (0 : Int32)), .val (.int zv), .val (.int sl), .val (.int cls), .val (.ref aP), .val (.int pcls), .val (.int an), .val (.int en), .val (.int rs), .val (.int (((ioV zP (gL lP) (gL lv) pos rs rn) + rn) - rs)), .val (.int rn), .val (.int (ioV zP (gL lP) (gL lv) pos rs rn)), .unset] [(.int (rn + (1 : Int32)))]))
              refine Gl.go (fun _ k => XS.istore X11.here hx rfl (hb hby d14_130) rfl (l' := #[.val (.ref av), .val (.int (0 : Int32)), .val (.int zv), .val (.int sl), .val (.int cls), .val (.ref aP), .val (.int pcls), .val (.int an), .val (.int en), .val (.int (rn + (1 : Int32))), .val (.int (((ioV zP (gL lP) (gL lv) pos rs rn) + rn) - rs)), .val (.int rn), .val (.int (ioV zP (gL lP) (gL lv) pos rs rn)), .unset]) rfl k) ?_
              show Gl _ _ _ _ (T11.setTop (mkF m 132 #[.val (.ref av), .val (.int (0 : Int32)), .val (.int zv), .val (.int sl), .val (.int cls), .val (.ref aP), .val (.int pcls), .val (.int an), .val (.int en), .val (.int (rn + (1 : Int32))), .val (.int (((ioV zP (gL lP) (gL lv) pos rs rn) + rn) - rs)), .val (.int rn), .val (.int (ioV zP (gL lP) (gL lv) pos rs rn)), .unset] []))
              refine Gl.go (fun _ k => XS.aloadN X11.here hx rfl (hb hby d14_132) rfl rfl  k) ?_
              show Gl _ _ _ _ (T11.setTop (mkF m 133 #[.val (.ref av), .val (.int (0 : Int32)), .val (.int zv), .val (.int sl), .val (.int cls), .val (.ref aP), .val (.int pcls), .val (.int an), .val (.int en), .val (.int (rn + (1 : Int32))), .val (.int (((ioV zP (gL lP) (gL lv) pos rs rn) + rn) - rs)), .val (.int rn), .val (.int (ioV zP (gL lP) (gL lv) pos rs rn)), .unset] [(.ref av)]))
              refine Gl.go (fun _ k => XS.iload X11.here hx rfl (hb hby d14_133) rfl  k) ?_
              show Gl _ _ _ _ (T11.setTop (mkF m 135 #[.val (.ref av), .val (.int (0 : Int32)), .val (.int zv), .val (.int sl), .val (.int cls), .val (.ref aP), .val (.int pcls), .val (.int an), .val (.int en), .val (.int (rn + (1 : Int32))), .val (.int (((ioV zP (gL lP) (gL lv) pos rs rn) + rn) - rs)), .val (.int rn), .val (.int (ioV zP (gL lP) (gL lv) pos rs rn)), .unset] [(.int (rn + (1 : Int32))), (.ref av)]))
              refine Gl.go (fun _ k => XS.iload X11.here hx rfl (hb hby d14_135) rfl  k) ?_
              show Gl _ _ _ _ (T11.setTop (mkF m 137 #[.val (.ref av), .val (.int (0 : Int32)), .val (.int zv), .val (.int sl), .val (.int cls), .val (.ref aP), .val (.int pcls), .val (.int an), .val (.int en), .val (.int (rn + (1 : Int32))), .val (.int (((ioV zP (gL lP) (gL lv) pos rs rn) + rn) - rs)), .val (.int rn), .val (.int (ioV zP (gL lP) (gL lv) pos rs rn)), .unset] [(.int en), (.int (rn + (1 : Int32))), (.ref av)]))
              obtain ⟨_, _, ⟨T12, L12, k12, n12⟩, -, X12, ⟨Lc12, hQ12, l12, y12, z12⟩, st12⟩ := Jvm.LawKit.callS X11 hx (y := (⟨"com/example/aloud/aloud/PathPattern", "wildcardOrEnd", "([BII)I"⟩ : MethodName)) hown (mvT hZ (hw _ (List.mem_of_getElem? (i := 49) rfl))) (mvT hZ (hw _ (List.mem_of_getElem? (i := 50) rfl))) (mvT hZ (hw _ (List.mem_of_getElem? (i := 13) rfl))) (mvT hZ (hw _ (List.mem_of_getElem? (i := 51) rfl))) (by decide) (backOf (W := 0) (rm_wi l Z a0 hw [] av kv zv lv (rn + (1 : Int32)) en h0 n0 Z0 Vv bv brn.1 ben.2) hZ (hw _ (List.mem_of_getElem? (i := 51) rfl)) (hw _ (List.mem_of_getElem? (i := 13) rfl)) (by decide) (by decide)) (g := (mkF m 137 #[.val (.ref av), .val (.int (0 : Int32)), .val (.int zv), .val (.int sl), .val (.int cls), .val (.ref aP), .val (.int pcls), .val (.int an), .val (.int en), .val (.int (rn + (1 : Int32))), .val (.int (((ioV zP (gL lP) (gL lv) pos rs rn) + rn) - rs)), .val (.int rn), .val (.int (ioV zP (gL lP) (gL lv) pos rs rn)), .unset] [(.int en), (.int (rn + (1 : Int32))), (.ref av)])) rfl (by rw [hml]; rfl) (argsL := [(.ref av), (.int (rn + (1 : Int32))), (.int en)]) (rest := []) (lenOf pd_0 rfl) rfl (by show 2 * 0 + _ ≤ _; exact Nat.le_of_eq rfl) (hb hby d14_137) (fun _ _ => ⟨rfl, e11, (by decide : 0 + 0 ≤ _), (by decide : 0 + 0 ≤ _)⟩)
              dsimp only [Pt.U, Pt.locs, Pt.cells, Pt.slots] at X12 l12 y12 z12 st12 hQ12
              subst l12 y12 z12
              obtain ⟨rfl, Nq12, e12⟩ := hQ12
              have N12 := Fr.app N11 Nq12
              refine Gl.go (fun _ k => st12 _ k) ?_
              show Gl _ _ _ _ (T12.setTop (mkF m 140 #[.val (.ref av), .val (.int (0 : Int32)), .val (.int zv), .val (.int sl), .val (.int cls), .val (.ref aP), .val (.int pcls), .val (.int an), .val (.int en), .val (.int (rn + (1 : Int32))), .val (.int (((ioV zP (gL lP) (gL lv) pos rs rn) + rn) - rs)), .val (.int rn), .val (.int (ioV zP (gL lP) (gL lv) pos rs rn)), .unset] [(.int (wiV (gL lv) en 4 (rn + (1 : Int32))))]))
              refine Gl.go (fun _ k => XS.istore X12.here hx rfl (hb hby d14_140) rfl (l' := #[.val (.ref av), .val (.int (0 : Int32)), .val (.int zv), .val (.int sl), .val (.int cls), .val (.ref aP), .val (.int pcls), .val (.int an), .val (.int en), .val (.int (rn + (1 : Int32))), .val (.int (((ioV zP (gL lP) (gL lv) pos rs rn) + rn) - rs)), .val (.int (wiV (gL lv) en 4 (rn + (1 : Int32)))), .val (.int (ioV zP (gL lP) (gL lv) pos rs rn)), .unset]) rfl k) ?_
              show Gl _ _ _ _ (T12.setTop (mkF m 142 #[.val (.ref av), .val (.int (0 : Int32)), .val (.int zv), .val (.int sl), .val (.int cls), .val (.ref aP), .val (.int pcls), .val (.int an), .val (.int en), .val (.int (rn + (1 : Int32))), .val (.int (((ioV zP (gL lP) (gL lv) pos rs rn) + rn) - rs)), .val (.int (wiV (gL lv) en 4 (rn + (1 : Int32)))), .val (.int (ioV zP (gL lP) (gL lv) pos rs rn)), .unset] []))
              refine Gl.go (fun _ k => XS.goto X12.here hx rfl (pc0 := 142) (pc' := 88) rfl (hb hby d14_142) (by decide) (by decide) k) ?_
              show Gl _ _ _ _ (T12.setTop (mkF m 88 #[.val (.ref av), .val (.int (0 : Int32)), .val (.int zv), .val (.int sl), .val (.int cls), .val (.ref aP), .val (.int pcls), .val (.int an), .val (.int en), .val (.int (rn + (1 : Int32))), .val (.int (((ioV zP (gL lP) (gL lv) pos rs rn) + rn) - rs)), .val (.int (wiV (gL lv) en 4 (rn + (1 : Int32)))), .val (.int (ioV zP (gL lP) (gL lv) pos rs rn)), .unset] []))
              rw [mpS zP (gL lP) (gL lv) an en k pos rs rn, if_pos hD, if_neg hE] at q7
              have bwi := own_wi_b (gL lv) en 4 (rn + (1 : Int32)) brn.1 brn.2 (Int.le_trans ben.2 bv.2)
              exact ih (((ioV zP (gL lP) (gL lv) pos rs rn) + rn) - rs) (rn + (1 : Int32)) (wiV (gL lv) en 4 (rn + (1 : Int32))) (.val (.int (ioV zP (gL lP) (gL lv) pos rs rn))) T12 _ X12 e12 N12 (o_m1 q1 q3 hD q2 ben bv) brn.1 bwi.1 bwi.2 bnp.1 bnp.2 q7 (One.val rfl)
          · skip
            refine Gl.go (fun _ k => XS.icmpYes Xl.here hx rfl (pc0 := 92) (pc' := 145) rfl (hb hby d14_92) rfl (flt hD).2.1 (by decide) (by decide) k) ?_
            show Gl _ _ _ _ (Tl.setTop (mkF m 145 #[.val (.ref av), .val (.int (0 : Int32)), .val (.int zv), .val (.int sl), .val (.int cls), .val (.ref aP), .val (.int pcls), .val (.int an), .val (.int en), .val (.int rs), .val (.int pos), .val (.int rn), u, .unset] []))
            rw [mpS zP (gL lP) (gL lv) an en k pos rs rn, if_neg hD] at q7
            refine Gl.go (fun _ k => XS.iload Xl.here hx rfl (hb hby d14_145) rfl  k) ?_
            show Gl _ _ _ _ (Tl.setTop (mkF m 147 #[.val (.ref av), .val (.int (0 : Int32)), .val (.int zv), .val (.int sl), .val (.int cls), .val (.ref aP), .val (.int pcls), .val (.int an), .val (.int en), .val (.int rs), .val (.int pos), .val (.int rn), u, .unset] [(.int en)]))
            refine Gl.go (fun _ k => XS.iload Xl.here hx rfl (hb hby d14_147) rfl  k) ?_
            show Gl _ _ _ _ (Tl.setTop (mkF m 149 #[.val (.ref av), .val (.int (0 : Int32)), .val (.int zv), .val (.int sl), .val (.int cls), .val (.ref aP), .val (.int pcls), .val (.int an), .val (.int en), .val (.int rs), .val (.int pos), .val (.int rn), u, .unset] [(.int rs), (.int en)]))
            refine Gl.go (fun _ k => XS.isub Xl.here hx rfl (hb hby d14_149) rfl k) ?_
            show Gl _ _ _ _ (Tl.setTop (mkF m 150 #[.val (.ref av), .val (.int (0 : Int32)), .val (.int zv), .val (.int sl), .val (.int cls), .val (.ref aP), .val (.int pcls), .val (.int an), .val (.int en), .val (.int rs), .val (.int pos), .val (.int rn), u, .unset] [(.int (en - rs))]))
            refine Gl.go (fun _ k => XS.istoreS Xl.here hx rfl (hb hby d14_150) rfl (o := u) rfl hu k) ?_
            show Gl _ _ _ _ (Tl.setTop (mkF m 152 #[.val (.ref av), .val (.int (0 : Int32)), .val (.int zv), .val (.int sl), .val (.int cls), .val (.ref aP), .val (.int pcls), .val (.int an), .val (.int en), .val (.int rs), .val (.int pos), .val (.int rn), .val (.int (en - rs)), .unset] []))
            refine Gl.go (fun _ k => XS.iload Xl.here hx rfl (hb hby d14_152) rfl  k) ?_
            show Gl _ _ _ _ (Tl.setTop (mkF m 154 #[.val (.ref av), .val (.int (0 : Int32)), .val (.int zv), .val (.int sl), .val (.int cls), .val (.ref aP), .val (.int pcls), .val (.int an), .val (.int en), .val (.int rs), .val (.int pos), .val (.int rn), .val (.int (en - rs)), .unset] [(.int an)]))
            by_cases hC : an = (0 : Int32)
            · skip
              refine Gl.go (fun _ k => XS.ifYes Xl.here hx rfl (pc0 := 154) (pc' := 193) rfl (hb hby d14_154) rfl ((if0 _ _).trans (teq hC).1) (by decide) (by decide) k) ?_
              show Gl _ _ _ _ (Tl.setTop (mkF m 193 #[.val (.ref av), .val (.int (0 : Int32)), .val (.int zv), .val (.int sl), .val (.int cls), .val (.ref aP), .val (.int pcls), .val (.int an), .val (.int en), .val (.int rs), .val (.int pos), .val (.int rn), .val (.int (en - rs)), .unset] []))
              refine Gl.go (fun _ k => XS.aload Xl.here hx rfl (hb hby d14_193) rfl rfl  k) ?_
              show Gl _ _ _ _ (Tl.setTop (mkF m 195 #[.val (.ref av), .val (.int (0 : Int32)), .val (.int zv), .val (.int sl), .val (.int cls), .val (.ref aP), .val (.int pcls), .val (.int an), .val (.int en), .val (.int rs), .val (.int pos), .val (.int rn), .val (.int (en - rs)), .unset] [(.ref aP)]))
              refine Gl.go (fun _ k => XS.iload Xl.here hx rfl (hb hby d14_195) rfl  k) ?_
              show Gl _ _ _ _ (Tl.setTop (mkF m 197 #[.val (.ref av), .val (.int (0 : Int32)), .val (.int zv), .val (.int sl), .val (.int cls), .val (.ref aP), .val (.int pcls), .val (.int an), .val (.int en), .val (.int rs), .val (.int pos), .val (.int rn), .val (.int (en - rs)), .unset] [(.int pos), (.ref aP)]))
              refine Gl.go (fun _ k => XS.aloadN Xl.here hx rfl (hb hby d14_197) rfl rfl  k) ?_
              show Gl _ _ _ _ (Tl.setTop (mkF m 198 #[.val (.ref av), .val (.int (0 : Int32)), .val (.int zv), .val (.int sl), .val (.int cls), .val (.ref aP), .val (.int pcls), .val (.int an), .val (.int en), .val (.int rs), .val (.int pos), .val (.int rn), .val (.int (en - rs)), .unset] [(.ref av), (.int pos), (.ref aP)]))
              refine Gl.go (fun _ k => XS.iload Xl.here hx rfl (hb hby d14_198) rfl  k) ?_
              show Gl _ _ _ _ (Tl.setTop (mkF m 200 #[.val (.ref av), .val (.int (0 : Int32)), .val (.int zv), .val (.int sl), .val (.int cls), .val (.ref aP), .val (.int pcls), .val (.int an), .val (.int en), .val (.int rs), .val (.int pos), .val (.int rn), .val (.int (en - rs)), .unset] [(.int rs), (.ref av), (.int pos), (.ref aP)]))
              refine Gl.go (fun _ k => XS.iload Xl.here hx rfl (hb hby d14_200) rfl  k) ?_
              show Gl _ _ _ _ (Tl.setTop (mkF m 202 #[.val (.ref av), .val (.int (0 : Int32)), .val (.int zv), .val (.int sl), .val (.int cls), .val (.ref aP), .val (.int pcls), .val (.int an), .val (.int en), .val (.int rs), .val (.int pos), .val (.int rn), .val (.int (en - rs)), .unset] [(.int en), (.int rs), (.ref av), (.int pos), (.ref aP)]))
              obtain ⟨_, _, ⟨T13, L13, k13, n13⟩, -, X13, ⟨Lc13, hQ13, l13, y13, z13⟩, st13⟩ := Jvm.LawKit.callS Xl hx (y := (⟨"com/example/aloud/aloud/PathPattern", "indexOf", "([BI[BII)I"⟩ : MethodName)) hown (mvT hZ (hw _ (List.mem_of_getElem? (i := 52) rfl))) (mvT hZ (hw _ (List.mem_of_getElem? (i := 53) rfl))) (mvT hZ (hw _ (List.mem_of_getElem? (i := 13) rfl))) (mvT hZ (hw _ (List.mem_of_getElem? (i := 54) rfl))) (by decide) (backOf (W := 0) (rm_io l Z a0 hw [] aP kP zP lP av kv zv lv pos rs en h0 n0 Z0 VP bP Vv bv ⟨q5, q6⟩ ⟨q2, Int.le_trans q3 q4, ben.2⟩) hZ (hw _ (List.mem_of_getElem? (i := 54) rfl)) (hw _ (List.mem_of_getElem? (i := 13) rfl)) (by decide) (by decide)) (g := (mkF m 202 #[.val (.ref av), .val (.int (0 : Int32)), .val (.int zv), .val (.int sl), .val (.int cls), .val (.ref aP), .val (.int pcls), .val (.int an), .val (.int en), .val (.int rs), .val (.int pos), .val (.int rn), .val (.int (en - rs)), .unset] [(.int en), (.int rs), (.ref av), (.int pos), (.ref aP)])) rfl (by rw [hml]; rfl) (argsL := [(.ref aP), (.int pos), (.ref av), (.int rs), (.int en)]) (rest := []) (lenOf pd_2 rfl) rfl (by show 2 * 0 + _ ≤ _; exact Nat.le_of_eq rfl) (hb hby d14_202) (fun _ _ => ⟨rfl, el, (by decide : 0 + 0 ≤ _), (by decide : 0 + 0 ≤ _)⟩)
              dsimp only [Pt.U, Pt.locs, Pt.cells, Pt.slots] at X13 l13 y13 z13 st13 hQ13
              subst l13 y13 z13
              obtain ⟨rfl, Nq13, e13⟩ := hQ13
              have N13 := Fr.app Nl Nq13
              refine Gl.go (fun _ k => st13 _ k) ?_
              show Gl _ _ _ _ (T13.setTop (mkF m 205 #[.val (.ref av), .val (.int (0 : Int32)), .val (.int zv), .val (.int sl), .val (.int cls), .val (.ref aP), .val (.int pcls), .val (.int an), .val (.int en), .val (.int rs), .val (.int pos), .val (.int rn), .val (.int (en - rs)), .unset] [(.int (ioV zP (gL lP) (gL lv) pos rs en))]))
              by_cases hE : (ioV zP (gL lP) (gL lv) pos rs en) < (0 : Int32)
              · skip
                refine Gl.go (fun _ k => XS.ifYes X13.here hx rfl (pc0 := 205) (pc' := 212) rfl (hb hby d14_205) rfl ((if0 _ _).trans (tlt hE).1) (by decide) (by decide) k) ?_
                show Gl _ _ _ _ (T13.setTop (mkF m 212 #[.val (.ref av), .val (.int (0 : Int32)), .val (.int zv), .val (.int sl), .val (.int cls), .val (.ref aP), .val (.int pcls), .val (.int an), .val (.int en), .val (.int rs), .val (.int pos), .val (.int rn), .val (.int (en - rs)), .unset] []))
                refine Gl.go (fun _ k => XS.iconst X13.here hx rfl (hb hby d14_212) k) ?_
                show Gl _ _ _ _ (T13.setTop (mkF m 213 #[.val (.ref av), .val (.int (0 : Int32)), .val (.int zv), .val (.int sl), .val (.int cls), .val (.ref aP), .val (.int pcls), .val (.int an), .val (.int en), .val (.int rs), .val (.int pos), .val (.int rn), .val (.int (en - rs)), .unset] [(.int (0 : Int32))]))
                refine leafN X13 hx hlk (t := .boolean) Bd.returns (by simp) (hb hby d14_213) ?_ (by decide) (by decide)
                exact ⟨by rw [nar0, ← q7, mpT, if_pos hC, if_pos hE], N13, e13⟩
              · skip
                refine Gl.go (fun _ k => XS.ifNo X13.here hx rfl (hb hby d14_205) rfl ((if0 _ _).trans (flt hE).1) k) ?_
                show Gl _ _ _ _ (T13.setTop (mkF m 208 #[.val (.ref av), .val (.int (0 : Int32)), .val (.int zv), .val (.int sl), .val (.int cls), .val (.ref aP), .val (.int pcls), .val (.int an), .val (.int en), .val (.int rs), .val (.int pos), .val (.int rn), .val (.int (en - rs)), .unset] []))
                refine Gl.go (fun _ k => XS.iconst X13.here hx rfl (hb hby d14_208) k) ?_
                show Gl _ _ _ _ (T13.setTop (mkF m 209 #[.val (.ref av), .val (.int (0 : Int32)), .val (.int zv), .val (.int sl), .val (.int cls), .val (.ref aP), .val (.int pcls), .val (.int an), .val (.int en), .val (.int rs), .val (.int pos), .val (.int rn), .val (.int (en - rs)), .unset] [(.int (1 : Int32))]))
                refine Gl.go (fun _ k => XS.goto X13.here hx rfl (pc0 := 209) (pc' := 213) rfl (hb hby d14_209) (by decide) (by decide) k) ?_
                show Gl _ _ _ _ (T13.setTop (mkF m 213 #[.val (.ref av), .val (.int (0 : Int32)), .val (.int zv), .val (.int sl), .val (.int cls), .val (.ref aP), .val (.int pcls), .val (.int an), .val (.int en), .val (.int rs), .val (.int pos), .val (.int rn), .val (.int (en - rs)), .unset] [(.int (1 : Int32))]))
                refine leafN X13 hx hlk (t := .boolean) Bd.returns (by simp) (hb hby d14_213) ?_ (by decide) (by decide)
                exact ⟨by rw [nar1, ← q7, mpT, if_pos hC, if_neg hE], N13, e13⟩
            · skip
              refine Gl.go (fun _ k => XS.ifNo Xl.here hx rfl (hb hby d14_154) rfl ((if0 _ _).trans (feq hC).1) k) ?_
              show Gl _ _ _ _ (Tl.setTop (mkF m 157 #[.val (.ref av), .val (.int (0 : Int32)), .val (.int zv), .val (.int sl), .val (.int cls), .val (.ref aP), .val (.int pcls), .val (.int an), .val (.int en), .val (.int rs), .val (.int pos), .val (.int rn), .val (.int (en - rs)), .unset] []))
              refine Gl.go (fun _ k => XS.aload Xl.here hx rfl (hb hby d14_157) rfl rfl  k) ?_
              show Gl _ _ _ _ (Tl.setTop (mkF m 159 #[.val (.ref av), .val (.int (0 : Int32)), .val (.int zv), .val (.int sl), .val (.int cls), .val (.ref aP), .val (.int pcls), .val (.int an), .val (.int en), .val (.int rs), .val (.int pos), .val (.int rn), .val (.int (en - rs)), .unset] [(.ref aP)]))
              obtain ⟨cl14, Ar14, qA14, SA14, NA14, HA14, GA14⟩ := id VP
              refine Gl.go (fun _ k => Xl.arraylength hx (by rw [el]; exact Ar14.1) (State.isArrayOf_alike hZ.alike Ar14.2.1) (g := (mkF m 159 #[.val (.ref av), .val (.int (0 : Int32)), .val (.int zv), .val (.int sl), .val (.int cls), .val (.ref aP), .val (.int pcls), .val (.int an), .val (.int en), .val (.int rs), .val (.int pos), .val (.int rn), .val (.int (en - rs)), .unset] [(.ref aP)])) rfl rfl (hb hby d14_159) _ k) ?_
              rw [len_of SA14 NA14]
              show Gl _ _ _ _ (Tl.setTop (mkF m 160 #[.val (.ref av), .val (.int (0 : Int32)), .val (.int zv), .val (.int sl), .val (.int cls), .val (.ref aP), .val (.int pcls), .val (.int an), .val (.int en), .val (.int rs), .val (.int pos), .val (.int rn), .val (.int (en - rs)), .unset] [(.int zP)]))
              refine Gl.go (fun _ k => XS.iload Xl.here hx rfl (hb hby d14_160) rfl  k) ?_
              show Gl _ _ _ _ (Tl.setTop (mkF m 162 #[.val (.ref av), .val (.int (0 : Int32)), .val (.int zv), .val (.int sl), .val (.int cls), .val (.ref aP), .val (.int pcls), .val (.int an), .val (.int en), .val (.int rs), .val (.int pos), .val (.int rn), .val (.int (en - rs)), .unset] [(.int (en - rs)), (.int zP)]))
              refine Gl.go (fun _ k => XS.isub Xl.here hx rfl (hb hby d14_162) rfl k) ?_
              show Gl _ _ _ _ (Tl.setTop (mkF m 163 #[.val (.ref av), .val (.int (0 : Int32)), .val (.int zv), .val (.int sl), .val (.int cls), .val (.ref aP), .val (.int pcls), .val (.int an), .val (.int en), .val (.int rs), .val (.int pos), .val (.int rn), .val (.int (en - rs)), .unset] [(.int (zP - (en - rs)))]))
              refine Gl.go (fun _ k => XS.istore Xl.here hx rfl (hb hby d14_163) rfl (l' := #[.val (.ref av), .val (.int (0 : Int32)), .val (.int zv), .val (.int sl), .val (.int cls), .val (.ref aP), .val (.int pcls), .val (.int an), .val (.int en), .val (.int rs), .val (.int pos), .val (.int rn), .val (.int (en - rs)), .val (.int (zP - (en - rs)))]) rfl k) ?_
              show Gl _ _ _ _ (Tl.setTop (mkF m 165 #[.val (.ref av), .val (.int (0 : Int32)), .val (.int zv), .val (.int sl), .val (.int cls), .val (.ref aP), .val (.int pcls), .val (.int an), .val (.int en), .val (.int rs), .val (.int pos), .val (.int rn), .val (.int (en - rs)), .val (.int (zP - (en - rs)))] []))
              refine Gl.go (fun _ k => XS.iload Xl.here hx rfl (hb hby d14_165) rfl  k) ?_
              show Gl _ _ _ _ (Tl.setTop (mkF m 167 #[.val (.ref av), .val (.int (0 : Int32)), .val (.int zv), .val (.int sl), .val (.int cls), .val (.ref aP), .val (.int pcls), .val (.int an), .val (.int en), .val (.int rs), .val (.int pos), .val (.int rn), .val (.int (en - rs)), .val (.int (zP - (en - rs)))] [(.int (zP - (en - rs)))]))
              refine Gl.go (fun _ k => XS.iload Xl.here hx rfl (hb hby d14_167) rfl  k) ?_
              show Gl _ _ _ _ (Tl.setTop (mkF m 169 #[.val (.ref av), .val (.int (0 : Int32)), .val (.int zv), .val (.int sl), .val (.int cls), .val (.ref aP), .val (.int pcls), .val (.int an), .val (.int en), .val (.int rs), .val (.int pos), .val (.int rn), .val (.int (en - rs)), .val (.int (zP - (en - rs)))] [(.int pos), (.int (zP - (en - rs)))]))
              by_cases hE : (zP - (en - rs)) < pos
              · skip
                refine Gl.go (fun _ k => XS.icmpYes Xl.here hx rfl (pc0 := 169) (pc' := 191) rfl (hb hby d14_169) rfl (tlt hE).1 (by decide) (by decide) k) ?_
                show Gl _ _ _ _ (Tl.setTop (mkF m 191 #[.val (.ref av), .val (.int (0 : Int32)), .val (.int zv), .val (.int sl), .val (.int cls), .val (.ref aP), .val (.int pcls), .val (.int an), .val (.int en), .val (.int rs), .val (.int pos), .val (.int rn), .val (.int (en - rs)), .val (.int (zP - (en - rs)))] []))
                refine Gl.go (fun _ k => XS.iconst Xl.here hx rfl (hb hby d14_191) k) ?_
                show Gl _ _ _ _ (Tl.setTop (mkF m 192 #[.val (.ref av), .val (.int (0 : Int32)), .val (.int zv), .val (.int sl), .val (.int cls), .val (.ref aP), .val (.int pcls), .val (.int an), .val (.int en), .val (.int rs), .val (.int pos), .val (.int rn), .val (.int (en - rs)), .val (.int (zP - (en - rs)))] [(.int (0 : Int32))]))
                refine leafN Xl hx hlk (t := .boolean) Bd.returns (by simp) (hb hby d14_192) ?_ (by decide) (by decide)
                exact ⟨by rw [nar0, ← q7, mpT, if_neg hC, if_pos hE], Nl, el⟩
              · skip
                refine Gl.go (fun _ k => XS.icmpNo Xl.here hx rfl (hb hby d14_169) rfl (flt hE).1 k) ?_
                show Gl _ _ _ _ (Tl.setTop (mkF m 172 #[.val (.ref av), .val (.int (0 : Int32)), .val (.int zv), .val (.int sl), .val (.int cls), .val (.ref aP), .val (.int pcls), .val (.int an), .val (.int en), .val (.int rs), .val (.int pos), .val (.int rn), .val (.int (en - rs)), .val (.int (zP - (en - rs)))] []))
                have ht := o_tail hE q2 q3 q4 q5 ben bv bP
                refine Gl.go (fun _ k => XS.aload Xl.here hx rfl (hb hby d14_172) rfl rfl  k) ?_
                show Gl _ _ _ _ (Tl.setTop (mkF m 174 #[.val (.ref av), .val (.int (0 : Int32)), .val (.int zv), .val (.int sl), .val (.int cls), .val (.ref aP), .val (.int pcls), .val (.int an), .val (.int en), .val (.int rs), .val (.int pos), .val (.int rn), .val (.int (en - rs)), .val (.int (zP - (en - rs)))] [(.ref aP)]))
                refine Gl.go (fun _ k => XS.iload Xl.here hx rfl (hb hby d14_174) rfl  k) ?_
                show Gl _ _ _ _ (Tl.setTop (mkF m 176 #[.val (.ref av), .val (.int (0 : Int32)), .val (.int zv), .val (.int sl), .val (.int cls), .val (.ref aP), .val (.int pcls), .val (.int an), .val (.int en), .val (.int rs), .val (.int pos), .val (.int rn), .val (.int (en - rs)), .val (.int (zP - (en - rs)))] [(.int (zP - (en - rs))), (.ref aP)]))
                refine Gl.go (fun _ k => XS.aloadN Xl.here hx rfl (hb hby d14_176) rfl rfl  k) ?_
                show Gl _ _ _ _ (Tl.setTop (mkF m 177 #[.val (.ref av), .val (.int (0 : Int32)), .val (.int zv), .val (.int sl), .val (.int cls), .val (.ref aP), .val (.int pcls), .val (.int an), .val (.int en), .val (.int rs), .val (.int pos), .val (.int rn), .val (.int (en - rs)), .val (.int (zP - (en - rs)))] [(.ref av), (.int (zP - (en - rs))), (.ref aP)]))
                refine Gl.go (fun _ k => XS.iload Xl.here hx rfl (hb hby d14_177) rfl  k) ?_
                show Gl _ _ _ _ (Tl.setTop (mkF m 179 #[.val (.ref av), .val (.int (0 : Int32)), .val (.int zv), .val (.int sl), .val (.int cls), .val (.ref aP), .val (.int pcls), .val (.int an), .val (.int en), .val (.int rs), .val (.int pos), .val (.int rn), .val (.int (en - rs)), .val (.int (zP - (en - rs)))] [(.int rs), (.ref av), (.int (zP - (en - rs))), (.ref aP)]))
                refine Gl.go (fun _ k => XS.iload Xl.here hx rfl (hb hby d14_179) rfl  k) ?_
                show Gl _ _ _ _ (Tl.setTop (mkF m 181 #[.val (.ref av), .val (.int (0 : Int32)), .val (.int zv), .val (.int sl), .val (.int cls), .val (.ref aP), .val (.int pcls), .val (.int an), .val (.int en), .val (.int rs), .val (.int pos), .val (.int rn), .val (.int (en - rs)), .val (.int (zP - (en - rs)))] [(.int (en - rs)), (.int rs), (.ref av), (.int (zP - (en - rs))), (.ref aP)]))
                obtain ⟨_, _, ⟨T15, L15, k15, n15⟩, -, X15, ⟨Lc15, hQ15, l15, y15, z15⟩, st15⟩ := Jvm.LawKit.callS Xl hx (y := (⟨"com/example/aloud/aloud/PathPattern", "occursAt", "([BI[BII)Z"⟩ : MethodName)) hown (mvT hZ (hw _ (List.mem_of_getElem? (i := 27) rfl))) (mvT hZ (hw _ (List.mem_of_getElem? (i := 28) rfl))) (mvT hZ (hw _ (List.mem_of_getElem? (i := 13) rfl))) (mvT hZ (hw _ (List.mem_of_getElem? (i := 29) rfl))) (by decide) (backOf (W := 0) (rm_oc l Z a0 hw [] aP kP zP lP av kv zv lv (zP - (en - rs)) rs (en - rs) h0 n0 Z0 VP bP Vv bv ht.1 ht.2.1 q2 ht.2.2) hZ (hw _ (List.mem_of_getElem? (i := 29) rfl)) (hw _ (List.mem_of_getElem? (i := 13) rfl)) (by decide) (by decide)) (g := (mkF m 181 #[.val (.ref av), .val (.int (0 : Int32)), .val (.int zv), .val (.int sl), .val (.int cls), .val (.ref aP), .val (.int pcls), .val (.int an), .val (.int en), .val (.int rs), .val (.int pos), .val (.int rn), .val (.int (en - rs)), .val (.int (zP - (en - rs)))] [(.int (en - rs)), (.int rs), (.ref av), (.int (zP - (en - rs))), (.ref aP)])) rfl (by rw [hml]; rfl) (argsL := [(.ref aP), (.int (zP - (en - rs))), (.ref av), (.int rs), (.int (en - rs))]) (rest := []) (lenOf pd_4 rfl) rfl (by show 2 * 0 + _ ≤ _; exact Nat.le_of_eq rfl) (hb hby d14_181) (fun _ _ => ⟨rfl, el, (by decide : 0 + 0 ≤ _), (by decide : 0 + 0 ≤ _)⟩)
                dsimp only [Pt.U, Pt.locs, Pt.cells, Pt.slots] at X15 l15 y15 z15 st15 hQ15
                subst l15 y15 z15
                obtain ⟨rfl, Nq15, e15⟩ := hQ15
                have N15 := Fr.app Nl Nq15
                refine Gl.go (fun _ k => st15 _ k) ?_
                show Gl _ _ _ _ (T15.setTop (mkF m 184 #[.val (.ref av), .val (.int (0 : Int32)), .val (.int zv), .val (.int sl), .val (.int cls), .val (.ref aP), .val (.int pcls), .val (.int an), .val (.int en), .val (.int rs), .val (.int pos), .val (.int rn), .val (.int (en - rs)), .val (.int (zP - (en - rs)))] [(.int (ocV zP (gL lP) (gL lv) (zP - (en - rs)) rs (en - rs)))]))
                by_cases hF : (ocV zP (gL lP) (gL lv) (zP - (en - rs)) rs (en - rs)) = (0 : Int32)
                · skip
                  refine Gl.go (fun _ k => XS.ifYes X15.here hx rfl (pc0 := 184) (pc' := 191) rfl (hb hby d14_184) rfl ((if0 _ _).trans (teq hF).1) (by decide) (by decide) k) ?_
                  show Gl _ _ _ _ (T15.setTop (mkF m 191 #[.val (.ref av), .val (.int (0 : Int32)), .val (.int zv), .val (.int sl), .val (.int cls), .val (.ref aP), .val (.int pcls), .val (.int an), .val (.int en), .val (.int rs), .val (.int pos), .val (.int rn), .val (.int (en - rs)), .val (.int (zP - (en - rs)))] []))
                  refine Gl.go (fun _ k => XS.iconst X15.here hx rfl (hb hby d14_191) k) ?_
                  show Gl _ _ _ _ (T15.setTop (mkF m 192 #[.val (.ref av), .val (.int (0 : Int32)), .val (.int zv), .val (.int sl), .val (.int cls), .val (.ref aP), .val (.int pcls), .val (.int an), .val (.int en), .val (.int rs), .val (.int pos), .val (.int rn), .val (.int (en - rs)), .val (.int (zP - (en - rs)))] [(.int (0 : Int32))]))
                  refine leafN X15 hx hlk (t := .boolean) Bd.returns (by simp) (hb hby d14_192) ?_ (by decide) (by decide)
                  exact ⟨by rw [nar0, ← q7, mpT, if_neg hC, if_neg hE, if_pos hF], N15, e15⟩
                · skip
                  refine Gl.go (fun _ k => XS.ifNo X15.here hx rfl (hb hby d14_184) rfl ((if0 _ _).trans (feq hF).1) k) ?_
                  show Gl _ _ _ _ (T15.setTop (mkF m 187 #[.val (.ref av), .val (.int (0 : Int32)), .val (.int zv), .val (.int sl), .val (.int cls), .val (.ref aP), .val (.int pcls), .val (.int an), .val (.int en), .val (.int rs), .val (.int pos), .val (.int rn), .val (.int (en - rs)), .val (.int (zP - (en - rs)))] []))
                  refine Gl.go (fun _ k => XS.iconst X15.here hx rfl (hb hby d14_187) k) ?_
                  show Gl _ _ _ _ (T15.setTop (mkF m 188 #[.val (.ref av), .val (.int (0 : Int32)), .val (.int zv), .val (.int sl), .val (.int cls), .val (.ref aP), .val (.int pcls), .val (.int an), .val (.int en), .val (.int rs), .val (.int pos), .val (.int rn), .val (.int (en - rs)), .val (.int (zP - (en - rs)))] [(.int (1 : Int32))]))
                  refine Gl.go (fun _ k => XS.goto X15.here hx rfl (pc0 := 188) (pc' := 192) rfl (hb hby d14_188) (by decide) (by decide) k) ?_
                  show Gl _ _ _ _ (T15.setTop (mkF m 192 #[.val (.ref av), .val (.int (0 : Int32)), .val (.int zv), .val (.int sl), .val (.int cls), .val (.ref aP), .val (.int pcls), .val (.int an), .val (.int en), .val (.int rs), .val (.int pos), .val (.int rn), .val (.int (en - rs)), .val (.int (zP - (en - rs)))] [(.int (1 : Int32))]))
                  refine leafN X15 hx hlk (t := .boolean) Bd.returns (by simp) (hb hby d14_192) ?_ (by decide) (by decide)
                  exact ⟨by rw [nar1, ← q7, mpT, if_neg hC, if_neg hE, if_neg hF], N15, e15⟩
      have bwi := own_wi_b (gL lv) en 4 (sl + (1 : Int32)) hs1.1 hs1.2 (Int.le_trans ben.2 bv.2)
      exact LP 4 sl (sl + (1 : Int32)) (wiV (gL lv) en 4 (sl + (1 : Int32))) .unset T7 _ X7 e7 N7 (o_4 hs1.1 ben.2 bv) hs1.1 bwi.1 bwi.2 c1 (Int.le_trans c2 (Int.le_trans ben.2 bv.2)) (by rw [mpV, if_pos hA, h_en, if_neg hB, h_an]) One.u
  · skip
    refine Gl.go (fun _ k => XS.ifNo X0.here hx rfl (hb hby d14_7) rfl ((if0 _ _).trans (feq hA).1) k) ?_
    show Gl _ _ _ _ (s₁.setTop (mkF m 10 #[.val (.ref av), .val (.int (0 : Int32)), .val (.int zv), .val (.int sl), .val (.int cls), .val (.ref aP), .val (.int pcls), .unset, .unset, .unset, .unset, .unset, .unset, .unset] []))
    refine Gl.go (fun _ k => XS.iconst X0.here hx rfl (hb hby d14_10) k) ?_
    show Gl _ _ _ _ (s₁.setTop (mkF m 11 #[.val (.ref av), .val (.int (0 : Int32)), .val (.int zv), .val (.int sl), .val (.int cls), .val (.ref aP), .val (.int pcls), .unset, .unset, .unset, .unset, .unset, .unset, .unset] [(.int (0 : Int32))]))
    refine leafN X0 hx hlk (t := .boolean) Bd.returns (by simp) (hb hby d14_11) ?_ (by decide) (by decide)
    exact ⟨by rw [nar0, mpV, if_neg hA], N0, e0⟩
def Q_ma (Z : State) (av : Addr) (kv : ClassId) (zv : Int32) (lv : List Int32) (aP : Addr) (kP : ClassId) (zP : Int32) (lP : List Int32) (h0 : Heap) (n0 : Nat) (v : Option Value) (h : Heap) (L : List Loc) : Prop := v = some (.int (maV zv (gL lv) zP (gL lP))) ∧ Fr n0 L ∧ h = h0
set_option maxRecDepth 65536 in
set_option maxHeartbeats 40000000 in
theorem rm_ma (l : Launch) (Z : State) (a0 : Array Value) (hw : ∀ d ∈ tables_1, d.before a0 Z = true) (ws : List Jvm.Cond) (av : Addr) (kv : ClassId) (zv : Int32) (lv : List Int32) (aP : Addr) (kP : ClassId) (zP : Int32) (lP : List Int32) (h0 : Heap) (n0 : Nat) (Z0 : n0 ≤ h0.size) (Vv : Arv Z h0 av kv .byte zv (lv.map Value.int) (.int (0 : Int32))) (bv : 0 ≤ zv.toInt ∧ zv.toInt ≤ 4) (VP : Arv Z h0 aP kP .byte zP (lP.map Value.int) (.int (0 : Int32))) (bP : 0 ≤ zP.toInt ∧ zP.toInt ≤ 4) :
    MetFree l (⟨"com/example/aloud/aloud/PathPattern", "matches", "([B[B)Z"⟩ : MethodName) (head1 (Jvm.Cond.code (⟨"com/example/aloud/aloud/PathPattern", "matches", "([B[B)Z"⟩ : MethodName) prog_15_method_10_code 4 (some .boolean) :: ws) ({ frames := 5, cells := 0, slots := 0, locals := 100 } : Room)) (fun aa U => aa = #[(.ref av), (.ref aP)] ∧ Z.Warmed39 U.vm ∧ U.heap = h0) (fun _ _ _ _ _ => True) (fun _ U o U' => ∃ v L, o = .returned v ∧ Q_ma Z av kv zv lv aP kP zP lP h0 n0 v U'.heap L ∧ FrameEnd U o U' L ({ frames := 5, cells := 0, slots := 0, locals := 100 } : Room).cells ({ frames := 5, cells := 0, slots := 0, locals := 100 } : Room).slots) := by
  refine MetFree.of_bodySF (plainFor_of_name pn_0) hisR ?_
  intro p e s m args below meth c s₁ Bd hml0 hP hK
  obtain ⟨rfl, hZ, hh⟩ := hP
  have hx := Bd.exec
  have hby := Bd.bytes
  have hml : c.maxLocals = 4 := hml0
  have hown : s.vm.findClass "com/example/aloud/aloud/PathPattern" = some m.cls := findClass_of_methodNamed Bd.named
  have hnm := (name_of_methodNamed Bd.named Bd.method).1
  have hlk : meth.locks = false := BodyLoose.notSynchronized Bd
  have X0 : Stand p l e ({ frames := 5, cells := 0, slots := 0, locals := 100 } : Room) s m #[(.ref av), (.ref aP)] below meth c s₁ [] 0 0 := Stand.of_body Bd
  have e0 : s₁.heap = h0 := by rw [← hh, Bd.state]; rfl
  have N0 := Fr.nil n0
  have K0 : Keep h0 h0 [] := Keep.refl _ _
  show Gl p.tables e below (QQof s (Q_ma Z av kv zv lv aP kP zP lP h0 n0) 0 0) (s₁.setTop (entryFrame m #[(.ref av), (.ref aP)] 4))
  refine Gl.go (fun t k => castTop (ef_ma m av aP) k) ?_
  show Gl _ _ _ _ (s₁.setTop (mkF m 0 #[.val (.ref av), .val (.ref aP), .unset, .unset] []))
  refine Gl.go (fun _ k => XS.aloadN X0.here hx rfl (hb hby d5_0) rfl rfl  k) ?_
  show Gl _ _ _ _ (s₁.setTop (mkF m 1 #[.val (.ref av), .val (.ref aP), .unset, .unset] [(.ref av)]))
  obtain ⟨_, _, ⟨T1, L1, k1, n1⟩, -, X1, ⟨Lc1, hQ1, l1, y1, z1⟩, st1⟩ := Jvm.LawKit.callS X0 hx (y := (⟨"com/example/aloud/aloud/PathPattern", "literalStartLength", "([B)I"⟩ : MethodName)) hown (mvT hZ (hw _ (List.mem_of_getElem? (i := 18) rfl))) (mvT hZ (hw _ (List.mem_of_getElem? (i := 19) rfl))) (mvT hZ (hw _ (List.mem_of_getElem? (i := 13) rfl))) (mvT hZ (hw _ (List.mem_of_getElem? (i := 20) rfl))) (by decide) (backOf (W := 0) (rm_ls l Z a0 hw [] av kv zv lv h0 n0 Z0 Vv bv) hZ (hw _ (List.mem_of_getElem? (i := 20) rfl)) (hw _ (List.mem_of_getElem? (i := 13) rfl)) (by decide) (by decide)) (g := (mkF m 1 #[.val (.ref av), .val (.ref aP), .unset, .unset] [(.ref av)])) rfl (by rw [hml]; rfl) (argsL := [(.ref av)]) (rest := []) (lenOf pd_5 rfl) rfl (by show 2 * 0 + _ ≤ _; exact Nat.le_of_eq rfl) (hb hby d5_1) (fun _ _ => ⟨rfl, e0, (by decide : 0 + 0 ≤ _), (by decide : 0 + 0 ≤ _)⟩)
  dsimp only [Pt.U, Pt.locs, Pt.cells, Pt.slots] at X1 l1 y1 z1 st1 hQ1
  subst l1 y1 z1
  obtain ⟨rfl, Nq1, e1⟩ := hQ1
  have N1 := Fr.app N0 Nq1
  refine Gl.go (fun _ k => st1 _ k) ?_
  show Gl _ _ _ _ (T1.setTop (mkF m 4 #[.val (.ref av), .val (.ref aP), .unset, .unset] [(.int (wiV (gL lv) (reV zv (gL lv)) 4 (0 : Int32)))]))
  have bsl := own_sl_b (g := gL lv) bv
  generalize h_sl : (wiV (gL lv) (reV zv (gL lv)) 4 (0 : Int32)) = sl at bsl ⊢
  show Gl _ _ _ _ (T1.setTop (mkF m 4 #[.val (.ref av), .val (.ref aP), .unset, .unset] [(.int sl)]))
  refine Gl.go (fun _ k => XS.istoreN X1.here hx rfl (hb hby d5_4) rfl (l' := #[.val (.ref av), .val (.ref aP), .val (.int sl), .unset]) rfl k) ?_
  show Gl _ _ _ _ (T1.setTop (mkF m 5 #[.val (.ref av), .val (.ref aP), .val (.int sl), .unset] []))
  refine Gl.go (fun _ k => XS.aloadN X1.here hx rfl (hb hby d5_5) rfl rfl  k) ?_
  show Gl _ _ _ _ (T1.setTop (mkF m 6 #[.val (.ref av), .val (.ref aP), .val (.int sl), .unset] [(.ref av)]))
  refine Gl.go (fun _ k => XS.iloadN X1.here hx rfl (hb hby d5_6) rfl  k) ?_
  show Gl _ _ _ _ (T1.setTop (mkF m 7 #[.val (.ref av), .val (.ref aP), .val (.int sl), .unset] [(.int sl), (.ref av)]))
  obtain ⟨_, _, ⟨T2, L2, k2, n2⟩, -, X2, ⟨Lc2, hQ2, l2, y2, z2⟩, st2⟩ := Jvm.LawKit.callS X1 hx (y := (⟨"com/example/aloud/aloud/PathPattern", "classesAfterWildcards", "([BI)C"⟩ : MethodName)) hown (mvT hZ (hw _ (List.mem_of_getElem? (i := 24) rfl))) (mvT hZ (hw _ (List.mem_of_getElem? (i := 25) rfl))) (mvT hZ (hw _ (List.mem_of_getElem? (i := 13) rfl))) (mvT hZ (hw _ (List.mem_of_getElem? (i := 26) rfl))) (by decide) (backOf (W := 0) (rm_ca l Z a0 hw [] av kv zv lv sl h0 n0 Z0 Vv bv bsl.1) hZ (hw _ (List.mem_of_getElem? (i := 26) rfl)) (hw _ (List.mem_of_getElem? (i := 13) rfl)) (by decide) (by decide)) (g := (mkF m 7 #[.val (.ref av), .val (.ref aP), .val (.int sl), .unset] [(.int sl), (.ref av)])) rfl (by rw [hml]; rfl) (argsL := [(.ref av), (.int sl)]) (rest := []) (lenOf pd_6 rfl) rfl (by show 2 * 0 + _ ≤ _; exact Nat.le_of_eq rfl) (hb hby d5_7) (fun _ _ => ⟨rfl, e1, (by decide : 0 + 0 ≤ _), (by decide : 0 + 0 ≤ _)⟩)
  dsimp only [Pt.U, Pt.locs, Pt.cells, Pt.slots] at X2 l2 y2 z2 st2 hQ2
  subst l2 y2 z2
  obtain ⟨rfl, Nq2, e2⟩ := hQ2
  have N2 := Fr.app N1 Nq2
  refine Gl.go (fun _ k => st2 _ k) ?_
  show Gl _ _ _ _ (T2.setTop (mkF m 10 #[.val (.ref av), .val (.ref aP), .val (.int sl), .unset] [(.int (chV (caV (gL lv) (reV zv (gL lv)) 4 sl (0 : Int32))))]))
  generalize h_cz : (chV (caV (gL lv) (reV zv (gL lv)) 4 sl (0 : Int32))) = cz at ⊢
  show Gl _ _ _ _ (T2.setTop (mkF m 10 #[.val (.ref av), .val (.ref aP), .val (.int sl), .unset] [(.int cz)]))
  refine Gl.go (fun _ k => XS.istoreN X2.here hx rfl (hb hby d5_10) rfl (l' := #[.val (.ref av), .val (.ref aP), .val (.int sl), .val (.int cz)]) rfl k) ?_
  show Gl _ _ _ _ (T2.setTop (mkF m 11 #[.val (.ref av), .val (.ref aP), .val (.int sl), .val (.int cz)] []))
  refine Gl.go (fun _ k => XS.aloadN X2.here hx rfl (hb hby d5_11) rfl rfl  k) ?_
  show Gl _ _ _ _ (T2.setTop (mkF m 12 #[.val (.ref av), .val (.ref aP), .val (.int sl), .val (.int cz)] [(.ref aP)]))
  refine Gl.go (fun _ k => XS.iconst X2.here hx rfl (hb hby d5_12) k) ?_
  show Gl _ _ _ _ (T2.setTop (mkF m 13 #[.val (.ref av), .val (.ref aP), .val (.int sl), .val (.int cz)] [(.int (0 : Int32)), (.ref aP)]))
  refine Gl.go (fun _ k => XS.aloadN X2.here hx rfl (hb hby d5_13) rfl rfl  k) ?_
  show Gl _ _ _ _ (T2.setTop (mkF m 14 #[.val (.ref av), .val (.ref aP), .val (.int sl), .val (.int cz)] [(.ref av), (.int (0 : Int32)), (.ref aP)]))
  refine Gl.go (fun _ k => XS.iconst X2.here hx rfl (hb hby d5_14) k) ?_
  show Gl _ _ _ _ (T2.setTop (mkF m 15 #[.val (.ref av), .val (.ref aP), .val (.int sl), .val (.int cz)] [(.int (0 : Int32)), (.ref av), (.int (0 : Int32)), (.ref aP)]))
  refine Gl.go (fun _ k => XS.iloadN X2.here hx rfl (hb hby d5_15) rfl  k) ?_
  show Gl _ _ _ _ (T2.setTop (mkF m 16 #[.val (.ref av), .val (.ref aP), .val (.int sl), .val (.int cz)] [(.int sl), (.int (0 : Int32)), (.ref av), (.int (0 : Int32)), (.ref aP)]))
  have b3 := own_re_b (g := gL lv) bv
  obtain ⟨_, _, ⟨T3, L3, k3, n3⟩, -, X3, ⟨Lc3, hQ3, l3, y3, z3⟩, st3⟩ := Jvm.LawKit.callS X2 hx (y := (⟨"com/example/aloud/aloud/PathPattern", "occursAt", "([BI[BII)Z"⟩ : MethodName)) hown (mvT hZ (hw _ (List.mem_of_getElem? (i := 27) rfl))) (mvT hZ (hw _ (List.mem_of_getElem? (i := 28) rfl))) (mvT hZ (hw _ (List.mem_of_getElem? (i := 13) rfl))) (mvT hZ (hw _ (List.mem_of_getElem? (i := 29) rfl))) (by decide) (backOf (W := 0) (rm_oc l Z a0 hw [] aP kP zP lP av kv zv lv (0 : Int32) (0 : Int32) sl h0 n0 Z0 VP bP Vv bv ⟨by decide, by decide⟩ bsl.1 (by decide) (o_00 bsl b3)) hZ (hw _ (List.mem_of_getElem? (i := 29) rfl)) (hw _ (List.mem_of_getElem? (i := 13) rfl)) (by decide) (by decide)) (g := (mkF m 16 #[.val (.ref av), .val (.ref aP), .val (.int sl), .val (.int cz)] [(.int sl), (.int (0 : Int32)), (.ref av), (.int (0 : Int32)), (.ref aP)])) rfl (by rw [hml]; rfl) (argsL := [(.ref aP), (.int (0 : Int32)), (.ref av), (.int (0 : Int32)), (.int sl)]) (rest := []) (lenOf pd_4 rfl) rfl (by show 2 * 0 + _ ≤ _; exact Nat.le_of_eq rfl) (hb hby d5_16) (fun _ _ => ⟨rfl, e2, (by decide : 0 + 0 ≤ _), (by decide : 0 + 0 ≤ _)⟩)
  dsimp only [Pt.U, Pt.locs, Pt.cells, Pt.slots] at X3 l3 y3 z3 st3 hQ3
  subst l3 y3 z3
  obtain ⟨rfl, Nq3, e3⟩ := hQ3
  have N3 := Fr.app N2 Nq3
  refine Gl.go (fun _ k => st3 _ k) ?_
  show Gl _ _ _ _ (T3.setTop (mkF m 19 #[.val (.ref av), .val (.ref aP), .val (.int sl), .val (.int cz)] [(.int (ocV zP (gL lP) (gL lv) (0 : Int32) (0 : Int32) sl))]))
  by_cases hA : (ocV zP (gL lP) (gL lv) (0 : Int32) (0 : Int32) sl) = (0 : Int32)
  · skip
    refine Gl.go (fun _ k => XS.ifYes X3.here hx rfl (pc0 := 19) (pc' := 43) rfl (hb hby d5_19) rfl ((if0 _ _).trans (teq hA).1) (by decide) (by decide) k) ?_
    show Gl _ _ _ _ (T3.setTop (mkF m 43 #[.val (.ref av), .val (.ref aP), .val (.int sl), .val (.int cz)] []))
    refine Gl.go (fun _ k => XS.iconst X3.here hx rfl (hb hby d5_43) k) ?_
    show Gl _ _ _ _ (T3.setTop (mkF m 44 #[.val (.ref av), .val (.ref aP), .val (.int sl), .val (.int cz)] [(.int (0 : Int32))]))
    refine leafN X3 hx hlk (t := .boolean) Bd.returns (by simp) (hb hby d5_44) ?_ (by decide) (by decide)
    exact ⟨by rw [nar0, maV, h_sl, if_pos hA], N3, e3⟩
  · skip
    refine Gl.go (fun _ k => XS.ifNo X3.here hx rfl (hb hby d5_19) rfl ((if0 _ _).trans (feq hA).1) k) ?_
    show Gl _ _ _ _ (T3.setTop (mkF m 22 #[.val (.ref av), .val (.ref aP), .val (.int sl), .val (.int cz)] []))
    refine Gl.go (fun _ k => XS.aloadN X3.here hx rfl (hb hby d5_22) rfl rfl  k) ?_
    show Gl _ _ _ _ (T3.setTop (mkF m 23 #[.val (.ref av), .val (.ref aP), .val (.int sl), .val (.int cz)] [(.ref av)]))
    refine Gl.go (fun _ k => XS.iconst X3.here hx rfl (hb hby d5_23) k) ?_
    show Gl _ _ _ _ (T3.setTop (mkF m 24 #[.val (.ref av), .val (.ref aP), .val (.int sl), .val (.int cz)] [(.int (0 : Int32)), (.ref av)]))
    refine Gl.go (fun _ k => XS.aloadN X3.here hx rfl (hb hby d5_24) rfl rfl  k) ?_
    show Gl _ _ _ _ (T3.setTop (mkF m 25 #[.val (.ref av), .val (.ref aP), .val (.int sl), .val (.int cz)] [(.ref av), (.int (0 : Int32)), (.ref av)]))
    obtain ⟨cl4, Ar4, qA4, SA4, NA4, HA4, GA4⟩ := id Vv
    refine Gl.go (fun _ k => X3.arraylength hx (by rw [e3]; exact Ar4.1) (State.isArrayOf_alike hZ.alike Ar4.2.1) (g := (mkF m 25 #[.val (.ref av), .val (.ref aP), .val (.int sl), .val (.int cz)] [(.ref av), (.int (0 : Int32)), (.ref av)])) rfl rfl (hb hby d5_25) _ k) ?_
    rw [len_of SA4 NA4]
    show Gl _ _ _ _ (T3.setTop (mkF m 26 #[.val (.ref av), .val (.ref aP), .val (.int sl), .val (.int cz)] [(.int zv), (.int (0 : Int32)), (.ref av)]))
    refine Gl.go (fun _ k => XS.iloadN X3.here hx rfl (hb hby d5_26) rfl  k) ?_
    show Gl _ _ _ _ (T3.setTop (mkF m 27 #[.val (.ref av), .val (.ref aP), .val (.int sl), .val (.int cz)] [(.int sl), (.int zv), (.int (0 : Int32)), (.ref av)]))
    refine Gl.go (fun _ k => XS.iloadN X3.here hx rfl (hb hby d5_27) rfl  k) ?_
    show Gl _ _ _ _ (T3.setTop (mkF m 28 #[.val (.ref av), .val (.ref aP), .val (.int sl), .val (.int cz)] [(.int cz), (.int sl), (.int zv), (.int (0 : Int32)), (.ref av)]))
    refine Gl.go (fun _ k => XS.aloadN X3.here hx rfl (hb hby d5_28) rfl rfl  k) ?_
    show Gl _ _ _ _ (T3.setTop (mkF m 29 #[.val (.ref av), .val (.ref aP), .val (.int sl), .val (.int cz)] [(.ref aP), (.int cz), (.int sl), (.int zv), (.int (0 : Int32)), (.ref av)]))
    refine Gl.go (fun _ k => XS.aloadN X3.here hx rfl (hb hby d5_29) rfl rfl  k) ?_
    show Gl _ _ _ _ (T3.setTop (mkF m 30 #[.val (.ref av), .val (.ref aP), .val (.int sl), .val (.int cz)] [(.ref aP), (.ref aP), (.int cz), (.int sl), (.int zv), (.int (0 : Int32)), (.ref av)]))
    obtain ⟨_, _, ⟨T5, L5, k5, n5⟩, -, X5, ⟨Lc5, hQ5, l5, y5, z5⟩, st5⟩ := Jvm.LawKit.callS X3 hx (y := (⟨"com/example/aloud/aloud/PathPattern", "byteClasses", "([B)C"⟩ : MethodName)) hown (mvT hZ (hw _ (List.mem_of_getElem? (i := 41) rfl))) (mvT hZ (hw _ (List.mem_of_getElem? (i := 42) rfl))) (mvT hZ (hw _ (List.mem_of_getElem? (i := 13) rfl))) (mvT hZ (hw _ (List.mem_of_getElem? (i := 43) rfl))) (by decide) (backOf (W := 6) (rm_bc l Z a0 hw [] aP kP zP lP h0 n0 Z0 VP bP) hZ (hw _ (List.mem_of_getElem? (i := 43) rfl)) (hw _ (List.mem_of_getElem? (i := 13) rfl)) (by decide) (by decide)) (g := (mkF m 30 #[.val (.ref av), .val (.ref aP), .val (.int sl), .val (.int cz)] [(.ref aP), (.ref aP), (.int cz), (.int sl), (.int zv), (.int (0 : Int32)), (.ref av)])) rfl (by rw [hml]; rfl) (argsL := [(.ref aP)]) (rest := [(.ref aP), (.int cz), (.int sl), (.int zv), (.int (0 : Int32)), (.ref av)]) (lenOf pd_7 rfl) rfl (by show 2 * 0 + _ ≤ _; exact Nat.le_of_eq rfl) (hb hby d5_30) (fun _ _ => ⟨rfl, e3, (by decide : 0 + 0 ≤ _), (by decide : 0 + 0 ≤ _)⟩)
    dsimp only [Pt.U, Pt.locs, Pt.cells, Pt.slots] at X5 l5 y5 z5 st5 hQ5
    subst l5 y5 z5
    obtain ⟨rfl, Nq5, e5⟩ := hQ5
    have N5 := Fr.app N3 Nq5
    refine Gl.go (fun _ k => st5 _ k) ?_
    show Gl _ _ _ _ (T5.setTop (mkF m 33 #[.val (.ref av), .val (.ref aP), .val (.int sl), .val (.int cz)] [(.int (chV (bcV (gL lP) zP 4 (0 : Int32) (0 : Int32)))), (.ref aP), (.int cz), (.int sl), (.int zv), (.int (0 : Int32)), (.ref av)]))
    obtain ⟨_, _, ⟨T6, L6, k6, n6⟩, -, X6, ⟨Lc6, hQ6, l6, y6, z6⟩, st6⟩ := Jvm.LawKit.callS X5 hx (y := (⟨"com/example/aloud/aloud/PathPattern", "matchesPastStart", "([BIIIC[BC)Z"⟩ : MethodName)) hown (mvT hZ (hw _ (List.mem_of_getElem? (i := 44) rfl))) (mvT hZ (hw _ (List.mem_of_getElem? (i := 45) rfl))) (mvT hZ (hw _ (List.mem_of_getElem? (i := 13) rfl))) (mvT hZ (hw _ (List.mem_of_getElem? (i := 46) rfl))) (by decide) (backOf (W := 0) (rm_mp l Z a0 hw [] av kv zv lv sl cz aP kP zP lP (chV (bcV (gL lP) zP 4 (0 : Int32) (0 : Int32))) h0 n0 Z0 Vv bv VP bP bsl.1 bsl.2) hZ (hw _ (List.mem_of_getElem? (i := 46) rfl)) (hw _ (List.mem_of_getElem? (i := 13) rfl)) (by decide) (by decide)) (g := (mkF m 33 #[.val (.ref av), .val (.ref aP), .val (.int sl), .val (.int cz)] [(.int (chV (bcV (gL lP) zP 4 (0 : Int32) (0 : Int32)))), (.ref aP), (.int cz), (.int sl), (.int zv), (.int (0 : Int32)), (.ref av)])) rfl (by rw [hml]; rfl) (argsL := [(.ref av), (.int (0 : Int32)), (.int zv), (.int sl), (.int cz), (.ref aP), (.int (chV (bcV (gL lP) zP 4 (0 : Int32) (0 : Int32))))]) (rest := []) (lenOf pd_8 rfl) rfl (by show 2 * 0 + _ ≤ _; exact Nat.le_of_eq rfl) (hb hby d5_33) (fun _ _ => ⟨rfl, e5, (by decide : 0 + 0 ≤ _), (by decide : 0 + 0 ≤ _)⟩)
    dsimp only [Pt.U, Pt.locs, Pt.cells, Pt.slots] at X6 l6 y6 z6 st6 hQ6
    subst l6 y6 z6
    obtain ⟨rfl, Nq6, e6⟩ := hQ6
    have N6 := Fr.app N5 Nq6
    refine Gl.go (fun _ k => st6 _ k) ?_
    show Gl _ _ _ _ (T6.setTop (mkF m 36 #[.val (.ref av), .val (.ref aP), .val (.int sl), .val (.int cz)] [(.int (mpV zv (gL lv) sl cz zP (gL lP) (chV (bcV (gL lP) zP 4 (0 : Int32) (0 : Int32)))))]))
    by_cases hB : (mpV zv (gL lv) sl cz zP (gL lP) (chV (bcV (gL lP) zP 4 (0 : Int32) (0 : Int32)))) = (0 : Int32)
    · skip
      refine Gl.go (fun _ k => XS.ifYes X6.here hx rfl (pc0 := 36) (pc' := 43) rfl (hb hby d5_36) rfl ((if0 _ _).trans (teq hB).1) (by decide) (by decide) k) ?_
      show Gl _ _ _ _ (T6.setTop (mkF m 43 #[.val (.ref av), .val (.ref aP), .val (.int sl), .val (.int cz)] []))
      refine Gl.go (fun _ k => XS.iconst X6.here hx rfl (hb hby d5_43) k) ?_
      show Gl _ _ _ _ (T6.setTop (mkF m 44 #[.val (.ref av), .val (.ref aP), .val (.int sl), .val (.int cz)] [(.int (0 : Int32))]))
      refine leafN X6 hx hlk (t := .boolean) Bd.returns (by simp) (hb hby d5_44) ?_ (by decide) (by decide)
      exact ⟨by rw [nar0, maV, h_sl, if_neg hA, h_cz, if_pos hB], N6, e6⟩
    · skip
      refine Gl.go (fun _ k => XS.ifNo X6.here hx rfl (hb hby d5_36) rfl ((if0 _ _).trans (feq hB).1) k) ?_
      show Gl _ _ _ _ (T6.setTop (mkF m 39 #[.val (.ref av), .val (.ref aP), .val (.int sl), .val (.int cz)] []))
      refine Gl.go (fun _ k => XS.iconst X6.here hx rfl (hb hby d5_39) k) ?_
      show Gl _ _ _ _ (T6.setTop (mkF m 40 #[.val (.ref av), .val (.ref aP), .val (.int sl), .val (.int cz)] [(.int (1 : Int32))]))
      refine Gl.go (fun _ k => XS.goto X6.here hx rfl (pc0 := 40) (pc' := 44) rfl (hb hby d5_40) (by decide) (by decide) k) ?_
      show Gl _ _ _ _ (T6.setTop (mkF m 44 #[.val (.ref av), .val (.ref aP), .val (.int sl), .val (.int cz)] [(.int (1 : Int32))]))
      refine leafN X6 hx hlk (t := .boolean) Bd.returns (by simp) (hb hby d5_44) ?_ (by decide) (by decide)
      exact ⟨by rw [nar1, maV, h_sl, if_neg hA, h_cz, if_neg hB], N6, e6⟩
def Q_np (Z : State) (av : Addr) (kv : ClassId) (zv : Int32) (lv : List Int32) (rR : Addr) (kR : ClassId) (h0 : Heap) (n0 : Nat) (v : Option Value) (h : Heap) (L : List Loc) : Prop := v = some (.int (npV zv (gL lv))) ∧ Fr n0 L ∧ h = h0
set_option maxRecDepth 65536 in
set_option maxHeartbeats 40000000 in
theorem rm_np (l : Launch) (Z : State) (a0 : Array Value) (hw : ∀ d ∈ tables_1, d.before a0 Z = true) (ws : List Jvm.Cond) (av : Addr) (kv : ClassId) (zv : Int32) (lv : List Int32) (rR : Addr) (kR : ClassId) (h0 : Heap) (n0 : Nat) (Z0 : n0 ≤ h0.size) (Vv : Arv Z h0 av kv .byte zv (lv.map Value.int) (.int (0 : Int32))) (bv : 0 ≤ zv.toInt ∧ zv.toInt ≤ 4) (SR : Sta Z h0 "com/example/aloud/aloud/PathPattern" "ROOT" "[B" (.ref rR)) (VR : Arv Z h0 rR kR .byte (1 : Int32) [(.int (47 : Int32))] (.int (0 : Int32))) :
    MetFree l (⟨"com/example/aloud/aloud/PathPattern", "matchesNoPath", "([B)Z"⟩ : MethodName) (head1 (Jvm.Cond.code (⟨"com/example/aloud/aloud/PathPattern", "matchesNoPath", "([B)Z"⟩ : MethodName) prog_15_method_3_code 1 (some .boolean) :: ws) ({ frames := 0, cells := 0, slots := 0, locals := 0 } : Room)) (fun aa U => aa = #[(.ref av)] ∧ Z.Warmed39 U.vm ∧ U.heap = h0) (fun _ _ _ _ _ => True) (fun _ U o U' => ∃ v L, o = .returned v ∧ Q_np Z av kv zv lv rR kR h0 n0 v U'.heap L ∧ FrameEnd U o U' L ({ frames := 0, cells := 0, slots := 0, locals := 0 } : Room).cells ({ frames := 0, cells := 0, slots := 0, locals := 0 } : Room).slots) := by
  refine MetFree.of_bodySF (plainFor_of_name pn_0) hisR ?_
  intro p e s m args below meth c s₁ Bd hml0 hP hK
  obtain ⟨rfl, hZ, hh⟩ := hP
  have hx := Bd.exec
  have hby := Bd.bytes
  have hml : c.maxLocals = 1 := hml0
  have hown : s.vm.findClass "com/example/aloud/aloud/PathPattern" = some m.cls := findClass_of_methodNamed Bd.named
  have hnm := (name_of_methodNamed Bd.named Bd.method).1
  have hlk : meth.locks = false := BodyLoose.notSynchronized Bd
  have X0 : Stand p l e ({ frames := 0, cells := 0, slots := 0, locals := 0 } : Room) s m #[(.ref av)] below meth c s₁ [] 0 0 := Stand.of_body Bd
  have e0 : s₁.heap = h0 := by rw [← hh, Bd.state]; rfl
  have N0 := Fr.nil n0
  have K0 : Keep h0 h0 [] := Keep.refl _ _
  show Gl p.tables e below (QQof s (Q_np Z av kv zv lv rR kR h0 n0) 0 0) (s₁.setTop (entryFrame m #[(.ref av)] 1))
  refine Gl.go (fun t k => castTop (ef_np m av) k) ?_
  show Gl _ _ _ _ (s₁.setTop (mkF m 0 #[.val (.ref av)] []))
  refine Gl.go (fun _ k => XS.aloadN X0.here hx rfl (hb hby d4_0) rfl rfl  k) ?_
  show Gl _ _ _ _ (s₁.setTop (mkF m 1 #[.val (.ref av)] [(.ref av)]))
  obtain ⟨cl1, Ar1, qA1, SA1, NA1, HA1, GA1⟩ := id Vv
  refine Gl.go (fun _ k => X0.arraylength hx (by rw [e0]; exact Ar1.1) (State.isArrayOf_alike hZ.alike Ar1.2.1) (g := (mkF m 1 #[.val (.ref av)] [(.ref av)])) rfl rfl (hb hby d4_1) _ k) ?_
  rw [len_of SA1 NA1]
  show Gl _ _ _ _ (s₁.setTop (mkF m 2 #[.val (.ref av)] [(.int zv)]))
  by_cases hA : (0 : Int32) < zv
  · skip
    refine Gl.go (fun _ k => XS.ifNo X0.here hx rfl (hb hby d4_2) rfl ((if0 _ _).trans (tlt hA).2.2.2) k) ?_
    show Gl _ _ _ _ (s₁.setTop (mkF m 5 #[.val (.ref av)] []))
    refine Gl.go (fun _ k => XS.aloadN X0.here hx rfl (hb hby d4_5) rfl rfl  k) ?_
    show Gl _ _ _ _ (s₁.setTop (mkF m 6 #[.val (.ref av)] [(.ref av)]))
    refine Gl.go (fun _ k => XS.iconst X0.here hx rfl (hb hby d4_6) k) ?_
    show Gl _ _ _ _ (s₁.setTop (mkF m 7 #[.val (.ref av)] [(.int (0 : Int32)), (.ref av)]))
    obtain ⟨cl2, Ar2, qA2, SA2, NA2, HA2, GA2⟩ := id Vv
    have hin2 := inb_of (j := (0 : Int32)) SA2 ⟨by decide, hA⟩
    have hat2 : cl2.slots[((0 : Int32)).toNatClampNeg]? = some (.int (gL lv (0 : Int32))) := HA2.at hin2 (own_gl lv (0 : Int32))
    refine Gl.go (fun _ k => X0.baloadBytes hx (j := (0 : Int32)) (v := (.int (gL lv (0 : Int32)))) (by rw [e0]; exact Ar2.1) (State.isArrayOf_alike hZ.alike Ar2.2.1) Ar2.2.2 hin2 hat2 (g := (mkF m 7 #[.val (.ref av)] [(.int (0 : Int32)), (.ref av)])) rfl rfl (hb hby d4_7) _ k) ?_
    show Gl _ _ _ _ (s₁.setTop (mkF m 8 #[.val (.ref av)] [(.int (gL lv (0 : Int32)))]))
    obtain ⟨T3, X3, e3, st3⟩ := getS2 X0 hx hZ hown (host := "") (Or.inl (hw _ (List.mem_of_getElem? (i := 47) rfl))) Via.refl e0 SR (g := (mkF m 8 #[.val (.ref av)] [(.int (gL lv (0 : Int32)))])) rfl (hb hby d4_8)
    refine Gl.go (fun _ k => st3 _ k) ?_
    show Gl _ _ _ _ (T3.setTop (mkF m 11 #[.val (.ref av)] [(.ref rR), (.int (gL lv (0 : Int32)))]))
    refine Gl.go (fun _ k => XS.iconst X3.here hx rfl (hb hby d4_11) k) ?_
    show Gl _ _ _ _ (T3.setTop (mkF m 12 #[.val (.ref av)] [(.int (0 : Int32)), (.ref rR), (.int (gL lv (0 : Int32)))]))
    obtain ⟨cl4, Ar4, qA4, SA4, NA4, HA4, GA4⟩ := id VR
    have hin4 := inb_of (j := (0 : Int32)) SA4 ⟨by decide, by decide⟩
    have hat4 : cl4.slots[((0 : Int32)).toNatClampNeg]? = some (.int (47 : Int32)) := HA4.at hin4 rfl
    refine Gl.go (fun _ k => X3.baloadBytes hx (j := (0 : Int32)) (v := (.int (47 : Int32))) (by rw [e3]; exact Ar4.1) (State.isArrayOf_alike hZ.alike Ar4.2.1) Ar4.2.2 hin4 hat4 (g := (mkF m 12 #[.val (.ref av)] [(.int (0 : Int32)), (.ref rR), (.int (gL lv (0 : Int32)))])) rfl rfl (hb hby d4_12) _ k) ?_
    show Gl _ _ _ _ (T3.setTop (mkF m 13 #[.val (.ref av)] [(.int (47 : Int32)), (.int (gL lv (0 : Int32)))]))
    by_cases hB : (gL lv (0 : Int32)) = (47 : Int32)
    · skip
      refine Gl.go (fun _ k => XS.icmpYes X3.here hx rfl (pc0 := 13) (pc' := 28) rfl (hb hby d4_13) rfl (teq hB).1 (by decide) (by decide) k) ?_
      show Gl _ _ _ _ (T3.setTop (mkF m 28 #[.val (.ref av)] []))
      refine Gl.go (fun _ k => XS.iconst X3.here hx rfl (hb hby d4_28) k) ?_
      show Gl _ _ _ _ (T3.setTop (mkF m 29 #[.val (.ref av)] [(.int (0 : Int32))]))
      refine leafN X3 hx hlk (t := .boolean) Bd.returns (by simp) (hb hby d4_29) ?_ (by decide) (by decide)
      exact ⟨by rw [nar0, npV, if_pos hA, if_pos hB], N0, e3⟩
    · skip
      refine Gl.go (fun _ k => XS.icmpNo X3.here hx rfl (hb hby d4_13) rfl (feq hB).1 k) ?_
      show Gl _ _ _ _ (T3.setTop (mkF m 16 #[.val (.ref av)] []))
      refine Gl.go (fun _ k => XS.aloadN X3.here hx rfl (hb hby d4_16) rfl rfl  k) ?_
      show Gl _ _ _ _ (T3.setTop (mkF m 17 #[.val (.ref av)] [(.ref av)]))
      refine Gl.go (fun _ k => XS.iconst X3.here hx rfl (hb hby d4_17) k) ?_
      show Gl _ _ _ _ (T3.setTop (mkF m 18 #[.val (.ref av)] [(.int (0 : Int32)), (.ref av)]))
      obtain ⟨cl5, Ar5, qA5, SA5, NA5, HA5, GA5⟩ := id Vv
      have hin5 := inb_of (j := (0 : Int32)) SA5 ⟨by decide, hA⟩
      have hat5 : cl5.slots[((0 : Int32)).toNatClampNeg]? = some (.int (gL lv (0 : Int32))) := HA5.at hin5 (own_gl lv (0 : Int32))
      refine Gl.go (fun _ k => X3.baloadBytes hx (j := (0 : Int32)) (v := (.int (gL lv (0 : Int32)))) (by rw [e3]; exact Ar5.1) (State.isArrayOf_alike hZ.alike Ar5.2.1) Ar5.2.2 hin5 hat5 (g := (mkF m 18 #[.val (.ref av)] [(.int (0 : Int32)), (.ref av)])) rfl rfl (hb hby d4_18) _ k) ?_
      show Gl _ _ _ _ (T3.setTop (mkF m 19 #[.val (.ref av)] [(.int (gL lv (0 : Int32)))]))
      refine Gl.go (fun _ k => XS.bipush X3.here hx rfl (hb hby d4_19) k) ?_
      show Gl _ _ _ _ (T3.setTop (mkF m 21 #[.val (.ref av)] [(.int (42 : Int32)), (.int (gL lv (0 : Int32)))]))
      by_cases hC : (gL lv (0 : Int32)) = (42 : Int32)
      · skip
        refine Gl.go (fun _ k => XS.icmpYes X3.here hx rfl (pc0 := 21) (pc' := 28) rfl (hb hby d4_21) rfl (teq hC).1 (by decide) (by decide) k) ?_
        show Gl _ _ _ _ (T3.setTop (mkF m 28 #[.val (.ref av)] []))
        refine Gl.go (fun _ k => XS.iconst X3.here hx rfl (hb hby d4_28) k) ?_
        show Gl _ _ _ _ (T3.setTop (mkF m 29 #[.val (.ref av)] [(.int (0 : Int32))]))
        refine leafN X3 hx hlk (t := .boolean) Bd.returns (by simp) (hb hby d4_29) ?_ (by decide) (by decide)
        exact ⟨by rw [nar0, npV, if_pos hA, if_neg hB, if_pos hC], N0, e3⟩
      · skip
        refine Gl.go (fun _ k => XS.icmpNo X3.here hx rfl (hb hby d4_21) rfl (feq hC).1 k) ?_
        show Gl _ _ _ _ (T3.setTop (mkF m 24 #[.val (.ref av)] []))
        refine Gl.go (fun _ k => XS.iconst X3.here hx rfl (hb hby d4_24) k) ?_
        show Gl _ _ _ _ (T3.setTop (mkF m 25 #[.val (.ref av)] [(.int (1 : Int32))]))
        refine Gl.go (fun _ k => XS.goto X3.here hx rfl (pc0 := 25) (pc' := 29) rfl (hb hby d4_25) (by decide) (by decide) k) ?_
        show Gl _ _ _ _ (T3.setTop (mkF m 29 #[.val (.ref av)] [(.int (1 : Int32))]))
        refine leafN X3 hx hlk (t := .boolean) Bd.returns (by simp) (hb hby d4_29) ?_ (by decide) (by decide)
        exact ⟨by rw [nar1, npV, if_pos hA, if_neg hB, if_neg hC], N0, e3⟩
  · skip
    refine Gl.go (fun _ k => XS.ifYes X0.here hx rfl (pc0 := 2) (pc' := 28) rfl (hb hby d4_2) rfl ((if0 _ _).trans (flt hA).2.2.2) (by decide) (by decide) k) ?_
    show Gl _ _ _ _ (s₁.setTop (mkF m 28 #[.val (.ref av)] []))
    refine Gl.go (fun _ k => XS.iconst X0.here hx rfl (hb hby d4_28) k) ?_
    show Gl _ _ _ _ (s₁.setTop (mkF m 29 #[.val (.ref av)] [(.int (0 : Int32))]))
    refine leafN X0 hx hlk (t := .boolean) Bd.returns (by simp) (hb hby d4_29) ?_ (by decide) (by decide)
    exact ⟨by rw [nar0, npV, if_neg hA], N0, e0⟩
def Q_pk (Z : State) (xx : Int32) (h0 : Heap) (n0 : Nat) (v : Option Value) (h : Heap) (L : List Loc) : Prop := v = some (.int (pkV xx)) ∧ Fr n0 L ∧ h = h0
set_option maxRecDepth 65536 in
set_option maxHeartbeats 40000000 in
theorem rm_pk (l : Launch) (Z : State) (a0 : Array Value) (hw : ∀ d ∈ tables_1, d.before a0 Z = true) (ws : List Jvm.Cond) (xx : Int32) (h0 : Heap) (n0 : Nat) (Z0 : n0 ≤ h0.size)  :
    MetFree l (⟨"com/example/aloud/aloud/PathPatternMatchesNoPathPinLaw", "pick", "(I)B"⟩ : MethodName) (head1 (Jvm.Cond.code (⟨"com/example/aloud/aloud/PathPatternMatchesNoPathPinLaw", "pick", "(I)B"⟩ : MethodName) method_2_code 2 (some .byte) :: ws) ({ frames := 0, cells := 0, slots := 0, locals := 0 } : Room)) (fun aa U => aa = #[(.int xx)] ∧ Z.Warmed39 U.vm ∧ U.heap = h0) (fun _ _ _ _ _ => True) (fun _ U o U' => ∃ v L, o = .returned v ∧ Q_pk Z xx h0 n0 v U'.heap L ∧ FrameEnd U o U' L ({ frames := 0, cells := 0, slots := 0, locals := 0 } : Room).cells ({ frames := 0, cells := 0, slots := 0, locals := 0 } : Room).slots) := by
  refine MetFree.of_bodySF (plainFor_of_name pn_3) hisR ?_
  intro p e s m args below meth c s₁ Bd hml0 hP hK
  obtain ⟨rfl, hZ, hh⟩ := hP
  have hx := Bd.exec
  have hby := Bd.bytes
  have hml : c.maxLocals = 2 := hml0
  have hown : s.vm.findClass "com/example/aloud/aloud/PathPatternMatchesNoPathPinLaw" = some m.cls := findClass_of_methodNamed Bd.named
  have hnm := (name_of_methodNamed Bd.named Bd.method).1
  have hlk : meth.locks = false := BodyLoose.notSynchronized Bd
  have X0 : Stand p l e ({ frames := 0, cells := 0, slots := 0, locals := 0 } : Room) s m #[(.int xx)] below meth c s₁ [] 0 0 := Stand.of_body Bd
  have e0 : s₁.heap = h0 := by rw [← hh, Bd.state]; rfl
  have N0 := Fr.nil n0
  have K0 : Keep h0 h0 [] := Keep.refl _ _
  show Gl p.tables e below (QQof s (Q_pk Z xx h0 n0) 0 0) (s₁.setTop (entryFrame m #[(.int xx)] 2))
  refine Gl.go (fun t k => castTop (ef_pk m xx) k) ?_
  show Gl _ _ _ _ (s₁.setTop (mkF m 0 #[.val (.int xx), .unset] []))
  refine Gl.go (fun _ k => XS.iloadN X0.here hx rfl (hb hby d1_0) rfl  k) ?_
  show Gl _ _ _ _ (s₁.setTop (mkF m 1 #[.val (.int xx), .unset] [(.int xx)]))
  refine Gl.go (fun _ k => XS.iconst X0.here hx rfl (hb hby d1_1) k) ?_
  show Gl _ _ _ _ (s₁.setTop (mkF m 2 #[.val (.int xx), .unset] [(.int (3 : Int32)), (.int xx)]))
  refine Gl.go (fun _ k => XS.iand X0.here hx rfl (hb hby d1_2) rfl k) ?_
  show Gl _ _ _ _ (s₁.setTop (mkF m 3 #[.val (.int xx), .unset] [(.int (xx &&& (3 : Int32)))]))
  refine Gl.go (fun _ k => XS.istoreN X0.here hx rfl (hb hby d1_3) rfl (l' := #[.val (.int xx), .val (.int (xx &&& (3 : Int32)))]) rfl k) ?_
  show Gl _ _ _ _ (s₁.setTop (mkF m 4 #[.val (.int xx), .val (.int (xx &&& (3 : Int32)))] []))
  refine Gl.go (fun _ k => XS.iloadN X0.here hx rfl (hb hby d1_4) rfl  k) ?_
  show Gl _ _ _ _ (s₁.setTop (mkF m 5 #[.val (.int xx), .val (.int (xx &&& (3 : Int32)))] [(.int (xx &&& (3 : Int32)))]))
  by_cases hq5 : (xx &&& (3 : Int32)) = (0 : Int32)
  · skip
    refine Gl.go (fun _ k => XS.ifNo X0.here hx rfl (hb hby d1_5) rfl ((if0 _ _).trans (teq hq5).2) k) ?_
    show Gl _ _ _ _ (s₁.setTop (mkF m 8 #[.val (.int xx), .val (.int (xx &&& (3 : Int32)))] []))
    refine Gl.go (fun _ k => XS.bipush X0.here hx rfl (hb hby d1_8) k) ?_
    show Gl _ _ _ _ (s₁.setTop (mkF m 10 #[.val (.int xx), .val (.int (xx &&& (3 : Int32)))] [(.int (47 : Int32))]))
    refine leafN X0 hx hlk (t := .byte) Bd.returns (by simp) (hb hby d1_10) ?_ (by decide) (by decide)
    exact ⟨by rw [pkV, if_pos hq5], N0, e0⟩
  · skip
    refine Gl.go (fun _ k => XS.ifYes X0.here hx rfl (pc0 := 5) (pc' := 11) rfl (hb hby d1_5) rfl ((if0 _ _).trans (feq hq5).2) (by decide) (by decide) k) ?_
    show Gl _ _ _ _ (s₁.setTop (mkF m 11 #[.val (.int xx), .val (.int (xx &&& (3 : Int32)))] []))
    refine Gl.go (fun _ k => XS.iloadN X0.here hx rfl (hb hby d1_11) rfl  k) ?_
    show Gl _ _ _ _ (s₁.setTop (mkF m 12 #[.val (.int xx), .val (.int (xx &&& (3 : Int32)))] [(.int (xx &&& (3 : Int32)))]))
    refine Gl.go (fun _ k => XS.iconst X0.here hx rfl (hb hby d1_12) k) ?_
    show Gl _ _ _ _ (s₁.setTop (mkF m 13 #[.val (.int xx), .val (.int (xx &&& (3 : Int32)))] [(.int (1 : Int32)), (.int (xx &&& (3 : Int32)))]))
    by_cases hq13 : (xx &&& (3 : Int32)) = (1 : Int32)
    · skip
      refine Gl.go (fun _ k => XS.icmpNo X0.here hx rfl (hb hby d1_13) rfl (teq hq13).2 k) ?_
      show Gl _ _ _ _ (s₁.setTop (mkF m 16 #[.val (.int xx), .val (.int (xx &&& (3 : Int32)))] []))
      refine Gl.go (fun _ k => XS.bipush X0.here hx rfl (hb hby d1_16) k) ?_
      show Gl _ _ _ _ (s₁.setTop (mkF m 18 #[.val (.int xx), .val (.int (xx &&& (3 : Int32)))] [(.int (42 : Int32))]))
      refine leafN X0 hx hlk (t := .byte) Bd.returns (by simp) (hb hby d1_18) ?_ (by decide) (by decide)
      exact ⟨by rw [pkV, if_neg hq5, if_pos hq13], N0, e0⟩
    · skip
      refine Gl.go (fun _ k => XS.icmpYes X0.here hx rfl (pc0 := 13) (pc' := 19) rfl (hb hby d1_13) rfl (feq hq13).2 (by decide) (by decide) k) ?_
      show Gl _ _ _ _ (s₁.setTop (mkF m 19 #[.val (.int xx), .val (.int (xx &&& (3 : Int32)))] []))
      refine Gl.go (fun _ k => XS.iloadN X0.here hx rfl (hb hby d1_19) rfl  k) ?_
      show Gl _ _ _ _ (s₁.setTop (mkF m 20 #[.val (.int xx), .val (.int (xx &&& (3 : Int32)))] [(.int (xx &&& (3 : Int32)))]))
      refine Gl.go (fun _ k => XS.iconst X0.here hx rfl (hb hby d1_20) k) ?_
      show Gl _ _ _ _ (s₁.setTop (mkF m 21 #[.val (.int xx), .val (.int (xx &&& (3 : Int32)))] [(.int (2 : Int32)), (.int (xx &&& (3 : Int32)))]))
      by_cases hq21 : (xx &&& (3 : Int32)) = (2 : Int32)
      · skip
        refine Gl.go (fun _ k => XS.icmpNo X0.here hx rfl (hb hby d1_21) rfl (teq hq21).2 k) ?_
        show Gl _ _ _ _ (s₁.setTop (mkF m 24 #[.val (.int xx), .val (.int (xx &&& (3 : Int32)))] []))
        refine Gl.go (fun _ k => XS.bipush X0.here hx rfl (hb hby d1_24) k) ?_
        show Gl _ _ _ _ (s₁.setTop (mkF m 26 #[.val (.int xx), .val (.int (xx &&& (3 : Int32)))] [(.int (36 : Int32))]))
        refine leafN X0 hx hlk (t := .byte) Bd.returns (by simp) (hb hby d1_26) ?_ (by decide) (by decide)
        exact ⟨by rw [pkV, if_neg hq5, if_neg hq13, if_pos hq21], N0, e0⟩
      · skip
        refine Gl.go (fun _ k => XS.icmpYes X0.here hx rfl (pc0 := 21) (pc' := 27) rfl (hb hby d1_21) rfl (feq hq21).2 (by decide) (by decide) k) ?_
        show Gl _ _ _ _ (s₁.setTop (mkF m 27 #[.val (.int xx), .val (.int (xx &&& (3 : Int32)))] []))
        refine Gl.go (fun _ k => XS.iloadN X0.here hx rfl (hb hby d1_27) rfl  k) ?_
        show Gl _ _ _ _ (s₁.setTop (mkF m 28 #[.val (.int xx), .val (.int (xx &&& (3 : Int32)))] [(.int xx)]))
        refine Gl.go (fun _ k => XS.iconst X0.here hx rfl (hb hby d1_28) k) ?_
        show Gl _ _ _ _ (s₁.setTop (mkF m 29 #[.val (.int xx), .val (.int (xx &&& (3 : Int32)))] [(.int (2 : Int32)), (.int xx)]))
        refine Gl.go (fun _ k => XS.ishr X0.here hx rfl (hb hby d1_29) rfl k) ?_
        show Gl _ _ _ _ (s₁.setTop (mkF m 30 #[.val (.int xx), .val (.int (xx &&& (3 : Int32)))] [(.int (xx >>> ((2 : Int32) &&& 31)))]))
        refine Gl.go (fun _ k => XS.i2b X0.here hx rfl (hb hby d1_30) rfl k) ?_
        show Gl _ _ _ _ (s₁.setTop (mkF m 31 #[.val (.int xx), .val (.int (xx &&& (3 : Int32)))] [(.int ((xx >>> ((2 : Int32) &&& 31)).toInt8.toInt32))]))
        refine leafN X0 hx hlk (t := .byte) Bd.returns (by simp) (hb hby d1_31) ?_ (by decide) (by decide)
        exact ⟨by rw [pkV, if_neg hq5, if_neg hq13, if_neg hq21], N0, e0⟩
def Q_ol (Z : State) (qq y0 y1 y2 y3 : Int32) (h0 : Heap) (n0 : Nat) (v : Option Value) (h : Heap) (L : List Loc) : Prop := ∃ b, v = some (.ref b) ∧ Fr n0 L ∧ Keep h0 h [] ∧ h0.size ≤ b ∧ ∃ kk, Arv Z h b kk .byte (olZ qq) ((olL qq y0 y1 y2 y3).map Value.int) (.int (0 : Int32))
set_option maxRecDepth 65536 in
set_option maxHeartbeats 40000000 in
theorem rm_ol (l : Launch) (Z : State) (a0 : Array Value) (hw : ∀ d ∈ tables_1, d.before a0 Z = true) (ws : List Jvm.Cond) (qq y0 y1 y2 y3 : Int32) (h0 : Heap) (n0 : Nat) (Z0 : n0 ≤ h0.size)  :
    MetFree l (⟨"com/example/aloud/aloud/PathPatternMatchesNoPathPinLaw", "ofLen", "(IBBBB)[B"⟩ : MethodName) (head1 (Jvm.Cond.code (⟨"com/example/aloud/aloud/PathPatternMatchesNoPathPinLaw", "ofLen", "(IBBBB)[B"⟩ : MethodName) method_3_code 5 (some (.array .byte)) :: ws) ({ frames := 0, cells := 1, slots := 4, locals := 0 } : Room)) (fun aa U => aa = #[(.int qq), (.int y0), (.int y1), (.int y2), (.int y3)] ∧ Z.Warmed39 U.vm ∧ U.heap = h0) (fun _ _ _ _ _ => True) (fun _ U o U' => ∃ v L, o = .returned v ∧ Q_ol Z qq y0 y1 y2 y3 h0 n0 v U'.heap L ∧ FrameEnd U o U' L ({ frames := 0, cells := 1, slots := 4, locals := 0 } : Room).cells ({ frames := 0, cells := 1, slots := 4, locals := 0 } : Room).slots) := by
  refine MetFree.of_bodySF (plainFor_of_name pn_3) hisR ?_
  intro p e s m args below meth c s₁ Bd hml0 hP hK
  obtain ⟨rfl, hZ, hh⟩ := hP
  have hx := Bd.exec
  have hby := Bd.bytes
  have hml : c.maxLocals = 5 := hml0
  have hown : s.vm.findClass "com/example/aloud/aloud/PathPatternMatchesNoPathPinLaw" = some m.cls := findClass_of_methodNamed Bd.named
  have hnm := (name_of_methodNamed Bd.named Bd.method).1
  have hlk : meth.locks = false := BodyLoose.notSynchronized Bd
  have X0 : Stand p l e ({ frames := 0, cells := 1, slots := 4, locals := 0 } : Room) s m #[(.int qq), (.int y0), (.int y1), (.int y2), (.int y3)] below meth c s₁ [] 0 0 := Stand.of_body Bd
  have e0 : s₁.heap = h0 := by rw [← hh, Bd.state]; rfl
  have N0 := Fr.nil n0
  have K0 : Keep h0 h0 [] := Keep.refl _ _
  show Gl p.tables e below (QQof s (Q_ol Z qq y0 y1 y2 y3 h0 n0) 1 4) (s₁.setTop (entryFrame m #[(.int qq), (.int y0), (.int y1), (.int y2), (.int y3)] 5))
  refine Gl.go (fun t k => castTop (ef_ol m qq y0 y1 y2 y3) k) ?_
  show Gl _ _ _ _ (s₁.setTop (mkF m 0 #[.val (.int qq), .val (.int y0), .val (.int y1), .val (.int y2), .val (.int y3)] []))
  refine Gl.go (fun _ k => XS.iloadN X0.here hx rfl (hb hby d2_0) rfl  k) ?_
  show Gl _ _ _ _ (s₁.setTop (mkF m 1 #[.val (.int qq), .val (.int y0), .val (.int y1), .val (.int y2), .val (.int y3)] [(.int qq)]))
  by_cases hq1 : (0 : Int32) < qq
  · skip
    refine Gl.go (fun _ k => XS.ifYes X0.here hx rfl (pc0 := 1) (pc' := 8) rfl (hb hby d2_1) rfl ((if0 _ _).trans (tlt hq1).2.2.1) (by decide) (by decide) k) ?_
    show Gl _ _ _ _ (s₁.setTop (mkF m 8 #[.val (.int qq), .val (.int y0), .val (.int y1), .val (.int y2), .val (.int y3)] []))
    refine Gl.go (fun _ k => XS.iloadN X0.here hx rfl (hb hby d2_8) rfl  k) ?_
    show Gl _ _ _ _ (s₁.setTop (mkF m 9 #[.val (.int qq), .val (.int y0), .val (.int y1), .val (.int y2), .val (.int y3)] [(.int qq)]))
    refine Gl.go (fun _ k => XS.iconst X0.here hx rfl (hb hby d2_9) k) ?_
    show Gl _ _ _ _ (s₁.setTop (mkF m 10 #[.val (.int qq), .val (.int y0), .val (.int y1), .val (.int y2), .val (.int y3)] [(.int (1 : Int32)), (.int qq)]))
    by_cases hq10 : qq = (1 : Int32)
    · skip
      refine Gl.go (fun _ k => XS.icmpNo X0.here hx rfl (hb hby d2_10) rfl (teq hq10).2 k) ?_
      show Gl _ _ _ _ (s₁.setTop (mkF m 13 #[.val (.int qq), .val (.int y0), .val (.int y1), .val (.int y2), .val (.int y3)] []))
      refine Gl.go (fun _ k => XS.iconst X0.here hx rfl (hb hby d2_13) k) ?_
      show Gl _ _ _ _ (s₁.setTop (mkF m 14 #[.val (.int qq), .val (.int y0), .val (.int y1), .val (.int y2), .val (.int y3)] [(.int (1 : Int32))]))
      obtain ⟨T1, h1, cA1, X1, e1, E1, A1, st1⟩ := newP X0 hx hZ (hw _ (List.mem_of_getElem? (i := 7) rfl)) e0 (g := (mkF m 14 #[.val (.int qq), .val (.int y0), .val (.int y1), .val (.int y2), .val (.int y3)] [(.int (1 : Int32))])) rfl (hb hby d2_14) rfl (by decide) (cap := 1) (by decide) (by decide) (by decide) (by decide)
      obtain ⟨b1, g1⟩ : ∃ z, z = h0.size := ⟨_, rfl⟩
      rw [← g1] at A1 st1
      have g_b1 : n0 ≤ b1 := Nat.le_trans Z0 (Nat.le_of_eq g1.symm)
      have sz_b1 : h0.size ≤ b1 := Nat.le_trans K0.1 (Nat.le_of_eq g1.symm)
      have SZ1 : n0 ≤ h1.size := Nat.le_trans Z0 E1.1
      have K1 : Keep h0 h1 [] := K0.ext E1
      have V_b1_1 : Arv Z h1 b1 cA1 .byte (1 : Int32) [(.int (0 : Int32))] (.int (0 : Int32)) := (Arv.new A1 (by decide)).pad (pad_rep [] _ 1)
      refine Gl.go (fun _ k => st1 _ k) ?_
      show Gl _ _ _ _ (T1.setTop (mkF m 16 #[.val (.int qq), .val (.int y0), .val (.int y1), .val (.int y2), .val (.int y3)] [(.ref b1)]))
      refine Gl.go (fun _ k => XS.dup X1.here hx rfl (hb hby d2_16) rfl rfl k) ?_
      show Gl _ _ _ _ (T1.setTop (mkF m 17 #[.val (.int qq), .val (.int y0), .val (.int y1), .val (.int y2), .val (.int y3)] [(.ref b1), (.ref b1)]))
      refine Gl.go (fun _ k => XS.iconst X1.here hx rfl (hb hby d2_17) k) ?_
      show Gl _ _ _ _ (T1.setTop (mkF m 18 #[.val (.int qq), .val (.int y0), .val (.int y1), .val (.int y2), .val (.int y3)] [(.int (0 : Int32)), (.ref b1), (.ref b1)]))
      refine Gl.go (fun _ k => XS.iloadN X1.here hx rfl (hb hby d2_18) rfl  k) ?_
      show Gl _ _ _ _ (T1.setTop (mkF m 19 #[.val (.int qq), .val (.int y0), .val (.int y1), .val (.int y2), .val (.int y3)] [(.int y0), (.int (0 : Int32)), (.ref b1), (.ref b1)]))
      obtain ⟨cl2, Ar2, qA2, SA2, NA2, HA2, GA2⟩ := id V_b1_1
      obtain ⟨T2, h2, X2, e2, W2, st2⟩ := stB X1 hx hZ e1 Ar2 (j := (0 : Int32)) (inb_of SA2 ⟨by decide, by decide⟩) (g := (mkF m 19 #[.val (.int qq), .val (.int y0), .val (.int y1), .val (.int y2), .val (.int y3)] [(.int y0), (.int (0 : Int32)), (.ref b1), (.ref b1)])) rfl rfl (hb hby d2_19)
      have SZ2 : n0 ≤ h2.size := by rw [Wr.size W2]; exact SZ1
      have K2 : Keep h0 h2 [] := K1.wr W2 (Or.inr sz_b1)
      have N2 := Fr.snoc X2 N0 g_b1
      have V_b1_2 : Arv Z h2 b1 cA1 .byte (1 : Int32) [(.int (nar .byte y0))] (.int (0 : Int32)) := Arv.set Ar2 qA2 SA2 NA2 HA2 GA2 (fits_nar_byte _) W2 0 rfl (Nat.le_of_ble_eq_true rfl)
      refine Gl.go (fun _ k => st2 _ k) ?_
      show Gl _ _ _ _ (T2.setTop (mkF m 20 #[.val (.int qq), .val (.int y0), .val (.int y1), .val (.int y2), .val (.int y3)] [(.ref b1)]))
      refine leafA X2 hx hlk Bd.returns rfl rfl (hb hby d2_20) ?_ (by decide) (by decide)
      rw [e2]
      exact ⟨b1, rfl, N2, K2, sz_b1, cA1, by simp only [olZ, olL, if_pos hq1, if_pos hq10]; exact V_b1_2⟩
    · skip
      refine Gl.go (fun _ k => XS.icmpYes X0.here hx rfl (pc0 := 10) (pc' := 21) rfl (hb hby d2_10) rfl (feq hq10).2 (by decide) (by decide) k) ?_
      show Gl _ _ _ _ (s₁.setTop (mkF m 21 #[.val (.int qq), .val (.int y0), .val (.int y1), .val (.int y2), .val (.int y3)] []))
      refine Gl.go (fun _ k => XS.iloadN X0.here hx rfl (hb hby d2_21) rfl  k) ?_
      show Gl _ _ _ _ (s₁.setTop (mkF m 22 #[.val (.int qq), .val (.int y0), .val (.int y1), .val (.int y2), .val (.int y3)] [(.int qq)]))
      refine Gl.go (fun _ k => XS.iconst X0.here hx rfl (hb hby d2_22) k) ?_
      show Gl _ _ _ _ (s₁.setTop (mkF m 23 #[.val (.int qq), .val (.int y0), .val (.int y1), .val (.int y2), .val (.int y3)] [(.int (2 : Int32)), (.int qq)]))
      by_cases hq23 : qq = (2 : Int32)
      · skip
        refine Gl.go (fun _ k => XS.icmpNo X0.here hx rfl (hb hby d2_23) rfl (teq hq23).2 k) ?_
        show Gl _ _ _ _ (s₁.setTop (mkF m 26 #[.val (.int qq), .val (.int y0), .val (.int y1), .val (.int y2), .val (.int y3)] []))
        refine Gl.go (fun _ k => XS.iconst X0.here hx rfl (hb hby d2_26) k) ?_
        show Gl _ _ _ _ (s₁.setTop (mkF m 27 #[.val (.int qq), .val (.int y0), .val (.int y1), .val (.int y2), .val (.int y3)] [(.int (2 : Int32))]))
        obtain ⟨T3, h3, cA3, X3, e3, E3, A3, st3⟩ := newP X0 hx hZ (hw _ (List.mem_of_getElem? (i := 7) rfl)) e0 (g := (mkF m 27 #[.val (.int qq), .val (.int y0), .val (.int y1), .val (.int y2), .val (.int y3)] [(.int (2 : Int32))])) rfl (hb hby d2_27) rfl (by decide) (cap := 2) (by decide) (by decide) (by decide) (by decide)
        obtain ⟨b3, g3⟩ : ∃ z, z = h0.size := ⟨_, rfl⟩
        rw [← g3] at A3 st3
        have g_b3 : n0 ≤ b3 := Nat.le_trans Z0 (Nat.le_of_eq g3.symm)
        have sz_b3 : h0.size ≤ b3 := Nat.le_trans K0.1 (Nat.le_of_eq g3.symm)
        have SZ3 : n0 ≤ h3.size := Nat.le_trans Z0 E3.1
        have K3 : Keep h0 h3 [] := K0.ext E3
        have V_b3_3 : Arv Z h3 b3 cA3 .byte (2 : Int32) [(.int (0 : Int32)), (.int (0 : Int32))] (.int (0 : Int32)) := (Arv.new A3 (by decide)).pad (pad_rep [] _ 2)
        refine Gl.go (fun _ k => st3 _ k) ?_
        show Gl _ _ _ _ (T3.setTop (mkF m 29 #[.val (.int qq), .val (.int y0), .val (.int y1), .val (.int y2), .val (.int y3)] [(.ref b3)]))
        refine Gl.go (fun _ k => XS.dup X3.here hx rfl (hb hby d2_29) rfl rfl k) ?_
        show Gl _ _ _ _ (T3.setTop (mkF m 30 #[.val (.int qq), .val (.int y0), .val (.int y1), .val (.int y2), .val (.int y3)] [(.ref b3), (.ref b3)]))
        refine Gl.go (fun _ k => XS.iconst X3.here hx rfl (hb hby d2_30) k) ?_
        show Gl _ _ _ _ (T3.setTop (mkF m 31 #[.val (.int qq), .val (.int y0), .val (.int y1), .val (.int y2), .val (.int y3)] [(.int (0 : Int32)), (.ref b3), (.ref b3)]))
        refine Gl.go (fun _ k => XS.iloadN X3.here hx rfl (hb hby d2_31) rfl  k) ?_
        show Gl _ _ _ _ (T3.setTop (mkF m 32 #[.val (.int qq), .val (.int y0), .val (.int y1), .val (.int y2), .val (.int y3)] [(.int y0), (.int (0 : Int32)), (.ref b3), (.ref b3)]))
        obtain ⟨cl4, Ar4, qA4, SA4, NA4, HA4, GA4⟩ := id V_b3_3
        obtain ⟨T4, h4, X4, e4, W4, st4⟩ := stB X3 hx hZ e3 Ar4 (j := (0 : Int32)) (inb_of SA4 ⟨by decide, by decide⟩) (g := (mkF m 32 #[.val (.int qq), .val (.int y0), .val (.int y1), .val (.int y2), .val (.int y3)] [(.int y0), (.int (0 : Int32)), (.ref b3), (.ref b3)])) rfl rfl (hb hby d2_32)
        have SZ4 : n0 ≤ h4.size := by rw [Wr.size W4]; exact SZ3
        have K4 : Keep h0 h4 [] := K3.wr W4 (Or.inr sz_b3)
        have N4 := Fr.snoc X4 N0 g_b3
        have V_b3_4 : Arv Z h4 b3 cA3 .byte (2 : Int32) [(.int (nar .byte y0)), (.int (0 : Int32))] (.int (0 : Int32)) := Arv.set Ar4 qA4 SA4 NA4 HA4 GA4 (fits_nar_byte _) W4 0 rfl (Nat.le_of_ble_eq_true rfl)
        refine Gl.go (fun _ k => st4 _ k) ?_
        show Gl _ _ _ _ (T4.setTop (mkF m 33 #[.val (.int qq), .val (.int y0), .val (.int y1), .val (.int y2), .val (.int y3)] [(.ref b3)]))
        refine Gl.go (fun _ k => XS.dup X4.here hx rfl (hb hby d2_33) rfl rfl k) ?_
        show Gl _ _ _ _ (T4.setTop (mkF m 34 #[.val (.int qq), .val (.int y0), .val (.int y1), .val (.int y2), .val (.int y3)] [(.ref b3), (.ref b3)]))
        refine Gl.go (fun _ k => XS.iconst X4.here hx rfl (hb hby d2_34) k) ?_
        show Gl _ _ _ _ (T4.setTop (mkF m 35 #[.val (.int qq), .val (.int y0), .val (.int y1), .val (.int y2), .val (.int y3)] [(.int (1 : Int32)), (.ref b3), (.ref b3)]))
        refine Gl.go (fun _ k => XS.iloadN X4.here hx rfl (hb hby d2_35) rfl  k) ?_
        show Gl _ _ _ _ (T4.setTop (mkF m 36 #[.val (.int qq), .val (.int y0), .val (.int y1), .val (.int y2), .val (.int y3)] [(.int y1), (.int (1 : Int32)), (.ref b3), (.ref b3)]))
        obtain ⟨cl5, Ar5, qA5, SA5, NA5, HA5, GA5⟩ := id V_b3_4
        obtain ⟨T5, h5, X5, e5, W5, st5⟩ := stB X4 hx hZ e4 Ar5 (j := (1 : Int32)) (inb_of SA5 ⟨by decide, by decide⟩) (g := (mkF m 36 #[.val (.int qq), .val (.int y0), .val (.int y1), .val (.int y2), .val (.int y3)] [(.int y1), (.int (1 : Int32)), (.ref b3), (.ref b3)])) rfl rfl (hb hby d2_36)
        have SZ5 : n0 ≤ h5.size := by rw [Wr.size W5]; exact SZ4
        have K5 : Keep h0 h5 [] := K4.wr W5 (Or.inr sz_b3)
        have N5 := Fr.snoc X5 N4 g_b3
        have V_b3_5 : Arv Z h5 b3 cA3 .byte (2 : Int32) [(.int (nar .byte y0)), (.int (nar .byte y1))] (.int (0 : Int32)) := Arv.set Ar5 qA5 SA5 NA5 HA5 GA5 (fits_nar_byte _) W5 1 rfl (Nat.le_of_ble_eq_true rfl)
        refine Gl.go (fun _ k => st5 _ k) ?_
        show Gl _ _ _ _ (T5.setTop (mkF m 37 #[.val (.int qq), .val (.int y0), .val (.int y1), .val (.int y2), .val (.int y3)] [(.ref b3)]))
        refine leafA X5 hx hlk Bd.returns rfl rfl (hb hby d2_37) ?_ (by decide) (by decide)
        rw [e5]
        exact ⟨b3, rfl, N5, K5, sz_b3, cA3, by simp only [olZ, olL, if_pos hq1, if_neg hq10, if_pos hq23]; exact V_b3_5⟩
      · skip
        refine Gl.go (fun _ k => XS.icmpYes X0.here hx rfl (pc0 := 23) (pc' := 38) rfl (hb hby d2_23) rfl (feq hq23).2 (by decide) (by decide) k) ?_
        show Gl _ _ _ _ (s₁.setTop (mkF m 38 #[.val (.int qq), .val (.int y0), .val (.int y1), .val (.int y2), .val (.int y3)] []))
        refine Gl.go (fun _ k => XS.iloadN X0.here hx rfl (hb hby d2_38) rfl  k) ?_
        show Gl _ _ _ _ (s₁.setTop (mkF m 39 #[.val (.int qq), .val (.int y0), .val (.int y1), .val (.int y2), .val (.int y3)] [(.int qq)]))
        refine Gl.go (fun _ k => XS.iconst X0.here hx rfl (hb hby d2_39) k) ?_
        show Gl _ _ _ _ (s₁.setTop (mkF m 40 #[.val (.int qq), .val (.int y0), .val (.int y1), .val (.int y2), .val (.int y3)] [(.int (3 : Int32)), (.int qq)]))
        by_cases hq40 : qq = (3 : Int32)
        · skip
          refine Gl.go (fun _ k => XS.icmpNo X0.here hx rfl (hb hby d2_40) rfl (teq hq40).2 k) ?_
          show Gl _ _ _ _ (s₁.setTop (mkF m 43 #[.val (.int qq), .val (.int y0), .val (.int y1), .val (.int y2), .val (.int y3)] []))
          refine Gl.go (fun _ k => XS.iconst X0.here hx rfl (hb hby d2_43) k) ?_
          show Gl _ _ _ _ (s₁.setTop (mkF m 44 #[.val (.int qq), .val (.int y0), .val (.int y1), .val (.int y2), .val (.int y3)] [(.int (3 : Int32))]))
          obtain ⟨T6, h6, cA6, X6, e6, E6, A6, st6⟩ := newP X0 hx hZ (hw _ (List.mem_of_getElem? (i := 7) rfl)) e0 (g := (mkF m 44 #[.val (.int qq), .val (.int y0), .val (.int y1), .val (.int y2), .val (.int y3)] [(.int (3 : Int32))])) rfl (hb hby d2_44) rfl (by decide) (cap := 3) (by decide) (by decide) (by decide) (by decide)
          obtain ⟨b6, g6⟩ : ∃ z, z = h0.size := ⟨_, rfl⟩
          rw [← g6] at A6 st6
          have g_b6 : n0 ≤ b6 := Nat.le_trans Z0 (Nat.le_of_eq g6.symm)
          have sz_b6 : h0.size ≤ b6 := Nat.le_trans K0.1 (Nat.le_of_eq g6.symm)
          have SZ6 : n0 ≤ h6.size := Nat.le_trans Z0 E6.1
          have K6 : Keep h0 h6 [] := K0.ext E6
          have V_b6_6 : Arv Z h6 b6 cA6 .byte (3 : Int32) [(.int (0 : Int32)), (.int (0 : Int32)), (.int (0 : Int32))] (.int (0 : Int32)) := (Arv.new A6 (by decide)).pad (pad_rep [] _ 3)
          refine Gl.go (fun _ k => st6 _ k) ?_
          show Gl _ _ _ _ (T6.setTop (mkF m 46 #[.val (.int qq), .val (.int y0), .val (.int y1), .val (.int y2), .val (.int y3)] [(.ref b6)]))
          refine Gl.go (fun _ k => XS.dup X6.here hx rfl (hb hby d2_46) rfl rfl k) ?_
          show Gl _ _ _ _ (T6.setTop (mkF m 47 #[.val (.int qq), .val (.int y0), .val (.int y1), .val (.int y2), .val (.int y3)] [(.ref b6), (.ref b6)]))
          refine Gl.go (fun _ k => XS.iconst X6.here hx rfl (hb hby d2_47) k) ?_
          show Gl _ _ _ _ (T6.setTop (mkF m 48 #[.val (.int qq), .val (.int y0), .val (.int y1), .val (.int y2), .val (.int y3)] [(.int (0 : Int32)), (.ref b6), (.ref b6)]))
          refine Gl.go (fun _ k => XS.iloadN X6.here hx rfl (hb hby d2_48) rfl  k) ?_
          show Gl _ _ _ _ (T6.setTop (mkF m 49 #[.val (.int qq), .val (.int y0), .val (.int y1), .val (.int y2), .val (.int y3)] [(.int y0), (.int (0 : Int32)), (.ref b6), (.ref b6)]))
          obtain ⟨cl7, Ar7, qA7, SA7, NA7, HA7, GA7⟩ := id V_b6_6
          obtain ⟨T7, h7, X7, e7, W7, st7⟩ := stB X6 hx hZ e6 Ar7 (j := (0 : Int32)) (inb_of SA7 ⟨by decide, by decide⟩) (g := (mkF m 49 #[.val (.int qq), .val (.int y0), .val (.int y1), .val (.int y2), .val (.int y3)] [(.int y0), (.int (0 : Int32)), (.ref b6), (.ref b6)])) rfl rfl (hb hby d2_49)
          have SZ7 : n0 ≤ h7.size := by rw [Wr.size W7]; exact SZ6
          have K7 : Keep h0 h7 [] := K6.wr W7 (Or.inr sz_b6)
          have N7 := Fr.snoc X7 N0 g_b6
          have V_b6_7 : Arv Z h7 b6 cA6 .byte (3 : Int32) [(.int (nar .byte y0)), (.int (0 : Int32)), (.int (0 : Int32))] (.int (0 : Int32)) := Arv.set Ar7 qA7 SA7 NA7 HA7 GA7 (fits_nar_byte _) W7 0 rfl (Nat.le_of_ble_eq_true rfl)
          refine Gl.go (fun _ k => st7 _ k) ?_
          show Gl _ _ _ _ (T7.setTop (mkF m 50 #[.val (.int qq), .val (.int y0), .val (.int y1), .val (.int y2), .val (.int y3)] [(.ref b6)]))
          refine Gl.go (fun _ k => XS.dup X7.here hx rfl (hb hby d2_50) rfl rfl k) ?_
          show Gl _ _ _ _ (T7.setTop (mkF m 51 #[.val (.int qq), .val (.int y0), .val (.int y1), .val (.int y2), .val (.int y3)] [(.ref b6), (.ref b6)]))
          refine Gl.go (fun _ k => XS.iconst X7.here hx rfl (hb hby d2_51) k) ?_
          show Gl _ _ _ _ (T7.setTop (mkF m 52 #[.val (.int qq), .val (.int y0), .val (.int y1), .val (.int y2), .val (.int y3)] [(.int (1 : Int32)), (.ref b6), (.ref b6)]))
          refine Gl.go (fun _ k => XS.iloadN X7.here hx rfl (hb hby d2_52) rfl  k) ?_
          show Gl _ _ _ _ (T7.setTop (mkF m 53 #[.val (.int qq), .val (.int y0), .val (.int y1), .val (.int y2), .val (.int y3)] [(.int y1), (.int (1 : Int32)), (.ref b6), (.ref b6)]))
          obtain ⟨cl8, Ar8, qA8, SA8, NA8, HA8, GA8⟩ := id V_b6_7
          obtain ⟨T8, h8, X8, e8, W8, st8⟩ := stB X7 hx hZ e7 Ar8 (j := (1 : Int32)) (inb_of SA8 ⟨by decide, by decide⟩) (g := (mkF m 53 #[.val (.int qq), .val (.int y0), .val (.int y1), .val (.int y2), .val (.int y3)] [(.int y1), (.int (1 : Int32)), (.ref b6), (.ref b6)])) rfl rfl (hb hby d2_53)
          have SZ8 : n0 ≤ h8.size := by rw [Wr.size W8]; exact SZ7
          have K8 : Keep h0 h8 [] := K7.wr W8 (Or.inr sz_b6)
          have N8 := Fr.snoc X8 N7 g_b6
          have V_b6_8 : Arv Z h8 b6 cA6 .byte (3 : Int32) [(.int (nar .byte y0)), (.int (nar .byte y1)), (.int (0 : Int32))] (.int (0 : Int32)) := Arv.set Ar8 qA8 SA8 NA8 HA8 GA8 (fits_nar_byte _) W8 1 rfl (Nat.le_of_ble_eq_true rfl)
          refine Gl.go (fun _ k => st8 _ k) ?_
          show Gl _ _ _ _ (T8.setTop (mkF m 54 #[.val (.int qq), .val (.int y0), .val (.int y1), .val (.int y2), .val (.int y3)] [(.ref b6)]))
          refine Gl.go (fun _ k => XS.dup X8.here hx rfl (hb hby d2_54) rfl rfl k) ?_
          show Gl _ _ _ _ (T8.setTop (mkF m 55 #[.val (.int qq), .val (.int y0), .val (.int y1), .val (.int y2), .val (.int y3)] [(.ref b6), (.ref b6)]))
          refine Gl.go (fun _ k => XS.iconst X8.here hx rfl (hb hby d2_55) k) ?_
          show Gl _ _ _ _ (T8.setTop (mkF m 56 #[.val (.int qq), .val (.int y0), .val (.int y1), .val (.int y2), .val (.int y3)] [(.int (2 : Int32)), (.ref b6), (.ref b6)]))
          refine Gl.go (fun _ k => XS.iloadN X8.here hx rfl (hb hby d2_56) rfl  k) ?_
          show Gl _ _ _ _ (T8.setTop (mkF m 57 #[.val (.int qq), .val (.int y0), .val (.int y1), .val (.int y2), .val (.int y3)] [(.int y2), (.int (2 : Int32)), (.ref b6), (.ref b6)]))
          obtain ⟨cl9, Ar9, qA9, SA9, NA9, HA9, GA9⟩ := id V_b6_8
          obtain ⟨T9, h9, X9, e9, W9, st9⟩ := stB X8 hx hZ e8 Ar9 (j := (2 : Int32)) (inb_of SA9 ⟨by decide, by decide⟩) (g := (mkF m 57 #[.val (.int qq), .val (.int y0), .val (.int y1), .val (.int y2), .val (.int y3)] [(.int y2), (.int (2 : Int32)), (.ref b6), (.ref b6)])) rfl rfl (hb hby d2_57)
          have SZ9 : n0 ≤ h9.size := by rw [Wr.size W9]; exact SZ8
          have K9 : Keep h0 h9 [] := K8.wr W9 (Or.inr sz_b6)
          have N9 := Fr.snoc X9 N8 g_b6
          have V_b6_9 : Arv Z h9 b6 cA6 .byte (3 : Int32) [(.int (nar .byte y0)), (.int (nar .byte y1)), (.int (nar .byte y2))] (.int (0 : Int32)) := Arv.set Ar9 qA9 SA9 NA9 HA9 GA9 (fits_nar_byte _) W9 2 rfl (Nat.le_of_ble_eq_true rfl)
          refine Gl.go (fun _ k => st9 _ k) ?_
          show Gl _ _ _ _ (T9.setTop (mkF m 58 #[.val (.int qq), .val (.int y0), .val (.int y1), .val (.int y2), .val (.int y3)] [(.ref b6)]))
          refine leafA X9 hx hlk Bd.returns rfl rfl (hb hby d2_58) ?_ (by decide) (by decide)
          rw [e9]
          exact ⟨b6, rfl, N9, K9, sz_b6, cA6, by simp only [olZ, olL, if_pos hq1, if_neg hq10, if_neg hq23, if_pos hq40]; exact V_b6_9⟩
        · skip
          refine Gl.go (fun _ k => XS.icmpYes X0.here hx rfl (pc0 := 40) (pc' := 59) rfl (hb hby d2_40) rfl (feq hq40).2 (by decide) (by decide) k) ?_
          show Gl _ _ _ _ (s₁.setTop (mkF m 59 #[.val (.int qq), .val (.int y0), .val (.int y1), .val (.int y2), .val (.int y3)] []))
          refine Gl.go (fun _ k => XS.iconst X0.here hx rfl (hb hby d2_59) k) ?_
          show Gl _ _ _ _ (s₁.setTop (mkF m 60 #[.val (.int qq), .val (.int y0), .val (.int y1), .val (.int y2), .val (.int y3)] [(.int (4 : Int32))]))
          obtain ⟨T10, h10, cA10, X10, e10, E10, A10, st10⟩ := newP X0 hx hZ (hw _ (List.mem_of_getElem? (i := 7) rfl)) e0 (g := (mkF m 60 #[.val (.int qq), .val (.int y0), .val (.int y1), .val (.int y2), .val (.int y3)] [(.int (4 : Int32))])) rfl (hb hby d2_60) rfl (by decide) (cap := 4) (by decide) (by decide) (by decide) (by decide)
          obtain ⟨b10, g10⟩ : ∃ z, z = h0.size := ⟨_, rfl⟩
          rw [← g10] at A10 st10
          have g_b10 : n0 ≤ b10 := Nat.le_trans Z0 (Nat.le_of_eq g10.symm)
          have sz_b10 : h0.size ≤ b10 := Nat.le_trans K0.1 (Nat.le_of_eq g10.symm)
          have SZ10 : n0 ≤ h10.size := Nat.le_trans Z0 E10.1
          have K10 : Keep h0 h10 [] := K0.ext E10
          have V_b10_10 : Arv Z h10 b10 cA10 .byte (4 : Int32) [(.int (0 : Int32)), (.int (0 : Int32)), (.int (0 : Int32)), (.int (0 : Int32))] (.int (0 : Int32)) := (Arv.new A10 (by decide)).pad (pad_rep [] _ 4)
          refine Gl.go (fun _ k => st10 _ k) ?_
          show Gl _ _ _ _ (T10.setTop (mkF m 62 #[.val (.int qq), .val (.int y0), .val (.int y1), .val (.int y2), .val (.int y3)] [(.ref b10)]))
          refine Gl.go (fun _ k => XS.dup X10.here hx rfl (hb hby d2_62) rfl rfl k) ?_
          show Gl _ _ _ _ (T10.setTop (mkF m 63 #[.val (.int qq), .val (.int y0), .val (.int y1), .val (.int y2), .val (.int y3)] [(.ref b10), (.ref b10)]))
          refine Gl.go (fun _ k => XS.iconst X10.here hx rfl (hb hby d2_63) k) ?_
          show Gl _ _ _ _ (T10.setTop (mkF m 64 #[.val (.int qq), .val (.int y0), .val (.int y1), .val (.int y2), .val (.int y3)] [(.int (0 : Int32)), (.ref b10), (.ref b10)]))
          refine Gl.go (fun _ k => XS.iloadN X10.here hx rfl (hb hby d2_64) rfl  k) ?_
          show Gl _ _ _ _ (T10.setTop (mkF m 65 #[.val (.int qq), .val (.int y0), .val (.int y1), .val (.int y2), .val (.int y3)] [(.int y0), (.int (0 : Int32)), (.ref b10), (.ref b10)]))
          obtain ⟨cl11, Ar11, qA11, SA11, NA11, HA11, GA11⟩ := id V_b10_10
          obtain ⟨T11, h11, X11, e11, W11, st11⟩ := stB X10 hx hZ e10 Ar11 (j := (0 : Int32)) (inb_of SA11 ⟨by decide, by decide⟩) (g := (mkF m 65 #[.val (.int qq), .val (.int y0), .val (.int y1), .val (.int y2), .val (.int y3)] [(.int y0), (.int (0 : Int32)), (.ref b10), (.ref b10)])) rfl rfl (hb hby d2_65)
          have SZ11 : n0 ≤ h11.size := by rw [Wr.size W11]; exact SZ10
          have K11 : Keep h0 h11 [] := K10.wr W11 (Or.inr sz_b10)
          have N11 := Fr.snoc X11 N0 g_b10
          have V_b10_11 : Arv Z h11 b10 cA10 .byte (4 : Int32) [(.int (nar .byte y0)), (.int (0 : Int32)), (.int (0 : Int32)), (.int (0 : Int32))] (.int (0 : Int32)) := Arv.set Ar11 qA11 SA11 NA11 HA11 GA11 (fits_nar_byte _) W11 0 rfl (Nat.le_of_ble_eq_true rfl)
          refine Gl.go (fun _ k => st11 _ k) ?_
          show Gl _ _ _ _ (T11.setTop (mkF m 66 #[.val (.int qq), .val (.int y0), .val (.int y1), .val (.int y2), .val (.int y3)] [(.ref b10)]))
          refine Gl.go (fun _ k => XS.dup X11.here hx rfl (hb hby d2_66) rfl rfl k) ?_
          show Gl _ _ _ _ (T11.setTop (mkF m 67 #[.val (.int qq), .val (.int y0), .val (.int y1), .val (.int y2), .val (.int y3)] [(.ref b10), (.ref b10)]))
          refine Gl.go (fun _ k => XS.iconst X11.here hx rfl (hb hby d2_67) k) ?_
          show Gl _ _ _ _ (T11.setTop (mkF m 68 #[.val (.int qq), .val (.int y0), .val (.int y1), .val (.int y2), .val (.int y3)] [(.int (1 : Int32)), (.ref b10), (.ref b10)]))
          refine Gl.go (fun _ k => XS.iloadN X11.here hx rfl (hb hby d2_68) rfl  k) ?_
          show Gl _ _ _ _ (T11.setTop (mkF m 69 #[.val (.int qq), .val (.int y0), .val (.int y1), .val (.int y2), .val (.int y3)] [(.int y1), (.int (1 : Int32)), (.ref b10), (.ref b10)]))
          obtain ⟨cl12, Ar12, qA12, SA12, NA12, HA12, GA12⟩ := id V_b10_11
          obtain ⟨T12, h12, X12, e12, W12, st12⟩ := stB X11 hx hZ e11 Ar12 (j := (1 : Int32)) (inb_of SA12 ⟨by decide, by decide⟩) (g := (mkF m 69 #[.val (.int qq), .val (.int y0), .val (.int y1), .val (.int y2), .val (.int y3)] [(.int y1), (.int (1 : Int32)), (.ref b10), (.ref b10)])) rfl rfl (hb hby d2_69)
          have SZ12 : n0 ≤ h12.size := by rw [Wr.size W12]; exact SZ11
          have K12 : Keep h0 h12 [] := K11.wr W12 (Or.inr sz_b10)
          have N12 := Fr.snoc X12 N11 g_b10
          have V_b10_12 : Arv Z h12 b10 cA10 .byte (4 : Int32) [(.int (nar .byte y0)), (.int (nar .byte y1)), (.int (0 : Int32)), (.int (0 : Int32))] (.int (0 : Int32)) := Arv.set Ar12 qA12 SA12 NA12 HA12 GA12 (fits_nar_byte _) W12 1 rfl (Nat.le_of_ble_eq_true rfl)
          refine Gl.go (fun _ k => st12 _ k) ?_
          show Gl _ _ _ _ (T12.setTop (mkF m 70 #[.val (.int qq), .val (.int y0), .val (.int y1), .val (.int y2), .val (.int y3)] [(.ref b10)]))
          refine Gl.go (fun _ k => XS.dup X12.here hx rfl (hb hby d2_70) rfl rfl k) ?_
          show Gl _ _ _ _ (T12.setTop (mkF m 71 #[.val (.int qq), .val (.int y0), .val (.int y1), .val (.int y2), .val (.int y3)] [(.ref b10), (.ref b10)]))
          refine Gl.go (fun _ k => XS.iconst X12.here hx rfl (hb hby d2_71) k) ?_
          show Gl _ _ _ _ (T12.setTop (mkF m 72 #[.val (.int qq), .val (.int y0), .val (.int y1), .val (.int y2), .val (.int y3)] [(.int (2 : Int32)), (.ref b10), (.ref b10)]))
          refine Gl.go (fun _ k => XS.iloadN X12.here hx rfl (hb hby d2_72) rfl  k) ?_
          show Gl _ _ _ _ (T12.setTop (mkF m 73 #[.val (.int qq), .val (.int y0), .val (.int y1), .val (.int y2), .val (.int y3)] [(.int y2), (.int (2 : Int32)), (.ref b10), (.ref b10)]))
          obtain ⟨cl13, Ar13, qA13, SA13, NA13, HA13, GA13⟩ := id V_b10_12
          obtain ⟨T13, h13, X13, e13, W13, st13⟩ := stB X12 hx hZ e12 Ar13 (j := (2 : Int32)) (inb_of SA13 ⟨by decide, by decide⟩) (g := (mkF m 73 #[.val (.int qq), .val (.int y0), .val (.int y1), .val (.int y2), .val (.int y3)] [(.int y2), (.int (2 : Int32)), (.ref b10), (.ref b10)])) rfl rfl (hb hby d2_73)
          have SZ13 : n0 ≤ h13.size := by rw [Wr.size W13]; exact SZ12
          have K13 : Keep h0 h13 [] := K12.wr W13 (Or.inr sz_b10)
          have N13 := Fr.snoc X13 N12 g_b10
          have V_b10_13 : Arv Z h13 b10 cA10 .byte (4 : Int32) [(.int (nar .byte y0)), (.int (nar .byte y1)), (.int (nar .byte y2)), (.int (0 : Int32))] (.int (0 : Int32)) := Arv.set Ar13 qA13 SA13 NA13 HA13 GA13 (fits_nar_byte _) W13 2 rfl (Nat.le_of_ble_eq_true rfl)
          refine Gl.go (fun _ k => st13 _ k) ?_
          show Gl _ _ _ _ (T13.setTop (mkF m 74 #[.val (.int qq), .val (.int y0), .val (.int y1), .val (.int y2), .val (.int y3)] [(.ref b10)]))
          refine Gl.go (fun _ k => XS.dup X13.here hx rfl (hb hby d2_74) rfl rfl k) ?_
          show Gl _ _ _ _ (T13.setTop (mkF m 75 #[.val (.int qq), .val (.int y0), .val (.int y1), .val (.int y2), .val (.int y3)] [(.ref b10), (.ref b10)]))
          refine Gl.go (fun _ k => XS.iconst X13.here hx rfl (hb hby d2_75) k) ?_
          show Gl _ _ _ _ (T13.setTop (mkF m 76 #[.val (.int qq), .val (.int y0), .val (.int y1), .val (.int y2), .val (.int y3)] [(.int (3 : Int32)), (.ref b10), (.ref b10)]))
          refine Gl.go (fun _ k => XS.iload X13.here hx rfl (hb hby d2_76) rfl  k) ?_
          show Gl _ _ _ _ (T13.setTop (mkF m 78 #[.val (.int qq), .val (.int y0), .val (.int y1), .val (.int y2), .val (.int y3)] [(.int y3), (.int (3 : Int32)), (.ref b10), (.ref b10)]))
          obtain ⟨cl14, Ar14, qA14, SA14, NA14, HA14, GA14⟩ := id V_b10_13
          obtain ⟨T14, h14, X14, e14, W14, st14⟩ := stB X13 hx hZ e13 Ar14 (j := (3 : Int32)) (inb_of SA14 ⟨by decide, by decide⟩) (g := (mkF m 78 #[.val (.int qq), .val (.int y0), .val (.int y1), .val (.int y2), .val (.int y3)] [(.int y3), (.int (3 : Int32)), (.ref b10), (.ref b10)])) rfl rfl (hb hby d2_78)
          have SZ14 : n0 ≤ h14.size := by rw [Wr.size W14]; exact SZ13
          have K14 : Keep h0 h14 [] := K13.wr W14 (Or.inr sz_b10)
          have N14 := Fr.snoc X14 N13 g_b10
          have V_b10_14 : Arv Z h14 b10 cA10 .byte (4 : Int32) [(.int (nar .byte y0)), (.int (nar .byte y1)), (.int (nar .byte y2)), (.int (nar .byte y3))] (.int (0 : Int32)) := Arv.set Ar14 qA14 SA14 NA14 HA14 GA14 (fits_nar_byte _) W14 3 rfl (Nat.le_of_ble_eq_true rfl)
          refine Gl.go (fun _ k => st14 _ k) ?_
          show Gl _ _ _ _ (T14.setTop (mkF m 79 #[.val (.int qq), .val (.int y0), .val (.int y1), .val (.int y2), .val (.int y3)] [(.ref b10)]))
          refine leafA X14 hx hlk Bd.returns rfl rfl (hb hby d2_79) ?_ (by decide) (by decide)
          rw [e14]
          exact ⟨b10, rfl, N14, K14, sz_b10, cA10, by simp only [olZ, olL, if_pos hq1, if_neg hq10, if_neg hq23, if_neg hq40]; exact V_b10_14⟩
  · skip
    refine Gl.go (fun _ k => XS.ifNo X0.here hx rfl (hb hby d2_1) rfl ((if0 _ _).trans (flt hq1).2.2.1) k) ?_
    show Gl _ _ _ _ (s₁.setTop (mkF m 4 #[.val (.int qq), .val (.int y0), .val (.int y1), .val (.int y2), .val (.int y3)] []))
    refine Gl.go (fun _ k => XS.iconst X0.here hx rfl (hb hby d2_4) k) ?_
    show Gl _ _ _ _ (s₁.setTop (mkF m 5 #[.val (.int qq), .val (.int y0), .val (.int y1), .val (.int y2), .val (.int y3)] [(.int (0 : Int32))]))
    obtain ⟨T15, h15, cA15, X15, e15, E15, A15, st15⟩ := newP X0 hx hZ (hw _ (List.mem_of_getElem? (i := 7) rfl)) e0 (g := (mkF m 5 #[.val (.int qq), .val (.int y0), .val (.int y1), .val (.int y2), .val (.int y3)] [(.int (0 : Int32))])) rfl (hb hby d2_5) rfl (by decide) (cap := 0) (by decide) (by decide) (by decide) (by decide)
    obtain ⟨b15, g15⟩ : ∃ z, z = h0.size := ⟨_, rfl⟩
    rw [← g15] at A15 st15
    have g_b15 : n0 ≤ b15 := Nat.le_trans Z0 (Nat.le_of_eq g15.symm)
    have sz_b15 : h0.size ≤ b15 := Nat.le_trans K0.1 (Nat.le_of_eq g15.symm)
    have SZ15 : n0 ≤ h15.size := Nat.le_trans Z0 E15.1
    have K15 : Keep h0 h15 [] := K0.ext E15
    have V_b15_15 : Arv Z h15 b15 cA15 .byte (0 : Int32) [] (.int (0 : Int32)) := (Arv.new A15 (by decide)).pad (pad_rep [] _ 0)
    refine Gl.go (fun _ k => st15 _ k) ?_
    show Gl _ _ _ _ (T15.setTop (mkF m 7 #[.val (.int qq), .val (.int y0), .val (.int y1), .val (.int y2), .val (.int y3)] [(.ref b15)]))
    refine leafA X15 hx hlk Bd.returns rfl rfl (hb hby d2_7) ?_ (by decide) (by decide)
    rw [e15]
    exact ⟨b15, rfl, N0, K15, sz_b15, cA15, by simp only [olZ, olL, if_neg hq1]; exact V_b15_15⟩
def Q_ad (Z : State) (a1 : Addr) (kA : ClassId) (lv : List Int32) (kk yy ii nn : Int32) (h0 : Heap) (n0 : Nat) (v : Option Value) (h : Heap) (L : List Loc) : Prop := v = some (.int (adK kk yy ii nn)) ∧ Fr n0 L ∧ Keep h0 h [a1] ∧ Arv Z h a1 kA .byte (4 : Int32) ((adL lv kk yy ii nn).map Value.int) (.int (0 : Int32))
set_option maxRecDepth 65536 in
set_option maxHeartbeats 40000000 in
theorem rm_ad (l : Launch) (Z : State) (a0 : Array Value) (hw : ∀ d ∈ tables_1, d.before a0 Z = true) (ws : List Jvm.Cond) (a1 : Addr) (kA : ClassId) (lv : List Int32) (kk yy ii nn : Int32) (h0 : Heap) (n0 : Nat) (Z0 : n0 ≤ h0.size) (V1 : Arv Z h0 a1 kA .byte (4 : Int32) (lv.map Value.int) (.int (0 : Int32))) (hl : lv.length = 4) (c1 : 0 ≤ kk.toInt ∧ kk.toInt ≤ 3) (g_a1 : n0 ≤ a1) :
    MetFree l (⟨"com/example/aloud/aloud/PathPatternMatchesNoPathPinLaw", "add", "([BIBII)I"⟩ : MethodName) (head1 (Jvm.Cond.code (⟨"com/example/aloud/aloud/PathPatternMatchesNoPathPinLaw", "add", "([BIBII)I"⟩ : MethodName) method_4_code 5 (some .int) :: ws) ({ frames := 0, cells := 0, slots := 0, locals := 0 } : Room)) (fun aa U => aa = #[(.ref a1), (.int kk), (.int yy), (.int ii), (.int nn)] ∧ Z.Warmed39 U.vm ∧ U.heap = h0) (fun _ _ _ _ _ => True) (fun _ U o U' => ∃ v L, o = .returned v ∧ Q_ad Z a1 kA lv kk yy ii nn h0 n0 v U'.heap L ∧ FrameEnd U o U' L ({ frames := 0, cells := 0, slots := 0, locals := 0 } : Room).cells ({ frames := 0, cells := 0, slots := 0, locals := 0 } : Room).slots) := by
  refine MetFree.of_bodySF (plainFor_of_name pn_3) hisR ?_
  intro p e s m args below meth c s₁ Bd hml0 hP hK
  obtain ⟨rfl, hZ, hh⟩ := hP
  have hx := Bd.exec
  have hby := Bd.bytes
  have hml : c.maxLocals = 5 := hml0
  have hown : s.vm.findClass "com/example/aloud/aloud/PathPatternMatchesNoPathPinLaw" = some m.cls := findClass_of_methodNamed Bd.named
  have hnm := (name_of_methodNamed Bd.named Bd.method).1
  have hlk : meth.locks = false := BodyLoose.notSynchronized Bd
  have X0 : Stand p l e ({ frames := 0, cells := 0, slots := 0, locals := 0 } : Room) s m #[(.ref a1), (.int kk), (.int yy), (.int ii), (.int nn)] below meth c s₁ [] 0 0 := Stand.of_body Bd
  have e0 : s₁.heap = h0 := by rw [← hh, Bd.state]; rfl
  have N0 := Fr.nil n0
  have K0 : Keep h0 h0 [a1] := Keep.refl _ _
  show Gl p.tables e below (QQof s (Q_ad Z a1 kA lv kk yy ii nn h0 n0) 0 0) (s₁.setTop (entryFrame m #[(.ref a1), (.int kk), (.int yy), (.int ii), (.int nn)] 5))
  refine Gl.go (fun t k => castTop (ef_ad m a1 kk yy ii nn) k) ?_
  show Gl _ _ _ _ (s₁.setTop (mkF m 0 #[.val (.ref a1), .val (.int kk), .val (.int yy), .val (.int ii), .val (.int nn)] []))
  refine Gl.go (fun _ k => XS.iloadN X0.here hx rfl (hb hby d3_0) rfl  k) ?_
  show Gl _ _ _ _ (s₁.setTop (mkF m 1 #[.val (.ref a1), .val (.int kk), .val (.int yy), .val (.int ii), .val (.int nn)] [(.int ii)]))
  refine Gl.go (fun _ k => XS.iload X0.here hx rfl (hb hby d3_1) rfl  k) ?_
  show Gl _ _ _ _ (s₁.setTop (mkF m 3 #[.val (.ref a1), .val (.int kk), .val (.int yy), .val (.int ii), .val (.int nn)] [(.int nn), (.int ii)]))
  by_cases hA : ii < nn
  · skip
    refine Gl.go (fun _ k => XS.icmpNo X0.here hx rfl (hb hby d3_3) rfl (tlt hA).2.1 k) ?_
    show Gl _ _ _ _ (s₁.setTop (mkF m 6 #[.val (.ref a1), .val (.int kk), .val (.int yy), .val (.int ii), .val (.int nn)] []))
    refine Gl.go (fun _ k => XS.iloadN X0.here hx rfl (hb hby d3_6) rfl  k) ?_
    show Gl _ _ _ _ (s₁.setTop (mkF m 7 #[.val (.ref a1), .val (.int kk), .val (.int yy), .val (.int ii), .val (.int nn)] [(.int yy)]))
    refine Gl.go (fun _ k => XS.bipush X0.here hx rfl (hb hby d3_7) k) ?_
    show Gl _ _ _ _ (s₁.setTop (mkF m 9 #[.val (.ref a1), .val (.int kk), .val (.int yy), .val (.int ii), .val (.int nn)] [(.int (42 : Int32)), (.int yy)]))
    by_cases hB : yy = (42 : Int32)
    · skip
      refine Gl.go (fun _ k => XS.icmpYes X0.here hx rfl (pc0 := 9) (pc' := 34) rfl (hb hby d3_9) rfl (teq hB).1 (by decide) (by decide) k) ?_
      show Gl _ _ _ _ (s₁.setTop (mkF m 34 #[.val (.ref a1), .val (.int kk), .val (.int yy), .val (.int ii), .val (.int nn)] []))
      refine Gl.go (fun _ k => XS.iloadN X0.here hx rfl (hb hby d3_34) rfl  k) ?_
      show Gl _ _ _ _ (s₁.setTop (mkF m 35 #[.val (.ref a1), .val (.int kk), .val (.int yy), .val (.int ii), .val (.int nn)] [(.int kk)]))
      refine leafI X0 hx hlk Bd.returns (hb hby d3_35) ?_ (by decide) (by decide)
      rw [e0]
      exact ⟨by rw [adK, if_pos hA, if_pos hB], N0, K0, by rw [adL, if_pos hA, if_pos hB]; exact V1⟩
    · skip
      refine Gl.go (fun _ k => XS.icmpNo X0.here hx rfl (hb hby d3_9) rfl (feq hB).1 k) ?_
      show Gl _ _ _ _ (s₁.setTop (mkF m 12 #[.val (.ref a1), .val (.int kk), .val (.int yy), .val (.int ii), .val (.int nn)] []))
      refine Gl.go (fun _ k => XS.iloadN X0.here hx rfl (hb hby d3_12) rfl  k) ?_
      show Gl _ _ _ _ (s₁.setTop (mkF m 13 #[.val (.ref a1), .val (.int kk), .val (.int yy), .val (.int ii), .val (.int nn)] [(.int ii)]))
      refine Gl.go (fun _ k => XS.iload X0.here hx rfl (hb hby d3_13) rfl  k) ?_
      show Gl _ _ _ _ (s₁.setTop (mkF m 15 #[.val (.ref a1), .val (.int kk), .val (.int yy), .val (.int ii), .val (.int nn)] [(.int nn), (.int ii)]))
      refine Gl.go (fun _ k => XS.iconst X0.here hx rfl (hb hby d3_15) k) ?_
      show Gl _ _ _ _ (s₁.setTop (mkF m 16 #[.val (.ref a1), .val (.int kk), .val (.int yy), .val (.int ii), .val (.int nn)] [(.int (1 : Int32)), (.int nn), (.int ii)]))
      refine Gl.go (fun _ k => XS.isub X0.here hx rfl (hb hby d3_16) rfl k) ?_
      show Gl _ _ _ _ (s₁.setTop (mkF m 17 #[.val (.ref a1), .val (.int kk), .val (.int yy), .val (.int ii), .val (.int nn)] [(.int (nn - (1 : Int32))), (.int ii)]))
      by_cases hC : ii = (nn - (1 : Int32))
      · skip
        refine Gl.go (fun _ k => XS.icmpNo X0.here hx rfl (hb hby d3_17) rfl (teq hC).2 k) ?_
        show Gl _ _ _ _ (s₁.setTop (mkF m 20 #[.val (.ref a1), .val (.int kk), .val (.int yy), .val (.int ii), .val (.int nn)] []))
        refine Gl.go (fun _ k => XS.iloadN X0.here hx rfl (hb hby d3_20) rfl  k) ?_
        show Gl _ _ _ _ (s₁.setTop (mkF m 21 #[.val (.ref a1), .val (.int kk), .val (.int yy), .val (.int ii), .val (.int nn)] [(.int yy)]))
        refine Gl.go (fun _ k => XS.bipush X0.here hx rfl (hb hby d3_21) k) ?_
        show Gl _ _ _ _ (s₁.setTop (mkF m 23 #[.val (.ref a1), .val (.int kk), .val (.int yy), .val (.int ii), .val (.int nn)] [(.int (36 : Int32)), (.int yy)]))
        by_cases hD : yy = (36 : Int32)
        · skip
          refine Gl.go (fun _ k => XS.icmpYes X0.here hx rfl (pc0 := 23) (pc' := 34) rfl (hb hby d3_23) rfl (teq hD).1 (by decide) (by decide) k) ?_
          show Gl _ _ _ _ (s₁.setTop (mkF m 34 #[.val (.ref a1), .val (.int kk), .val (.int yy), .val (.int ii), .val (.int nn)] []))
          refine Gl.go (fun _ k => XS.iloadN X0.here hx rfl (hb hby d3_34) rfl  k) ?_
          show Gl _ _ _ _ (s₁.setTop (mkF m 35 #[.val (.ref a1), .val (.int kk), .val (.int yy), .val (.int ii), .val (.int nn)] [(.int kk)]))
          refine leafI X0 hx hlk Bd.returns (hb hby d3_35) ?_ (by decide) (by decide)
          rw [e0]
          exact ⟨by rw [adK, if_pos hA, if_neg hB, if_pos hC, if_pos hD], N0, K0, by rw [adL, if_pos hA, if_neg hB, if_pos hC, if_pos hD]; exact V1⟩
        · skip
          refine Gl.go (fun _ k => XS.icmpNo X0.here hx rfl (hb hby d3_23) rfl (feq hD).1 k) ?_
          show Gl _ _ _ _ (s₁.setTop (mkF m 26 #[.val (.ref a1), .val (.int kk), .val (.int yy), .val (.int ii), .val (.int nn)] []))
          refine Gl.go (fun _ k => XS.aloadN X0.here hx rfl (hb hby d3_26) rfl rfl  k) ?_
          show Gl _ _ _ _ (s₁.setTop (mkF m 27 #[.val (.ref a1), .val (.int kk), .val (.int yy), .val (.int ii), .val (.int nn)] [(.ref a1)]))
          refine Gl.go (fun _ k => XS.iloadN X0.here hx rfl (hb hby d3_27) rfl  k) ?_
          show Gl _ _ _ _ (s₁.setTop (mkF m 28 #[.val (.ref a1), .val (.int kk), .val (.int yy), .val (.int ii), .val (.int nn)] [(.int kk), (.ref a1)]))
          refine Gl.go (fun _ k => XS.iloadN X0.here hx rfl (hb hby d3_28) rfl  k) ?_
          show Gl _ _ _ _ (s₁.setTop (mkF m 29 #[.val (.ref a1), .val (.int kk), .val (.int yy), .val (.int ii), .val (.int nn)] [(.int yy), (.int kk), (.ref a1)]))
          obtain ⟨cl1, Ar1, qA1, SA1, NA1, HA1, GA1⟩ := id V1
          obtain ⟨T1, h1, X1, e1, W1, st1⟩ := stB X0 hx hZ e0 Ar1 (j := kk) (inb_of SA1 (o_k4 c1)) (g := (mkF m 29 #[.val (.ref a1), .val (.int kk), .val (.int yy), .val (.int ii), .val (.int nn)] [(.int yy), (.int kk), (.ref a1)])) rfl rfl (hb hby d3_29)
          have SZ1 : n0 ≤ h1.size := by rw [Wr.size W1]; exact Z0
          have K1 : Keep h0 h1 [a1] := K0.wr W1 (Or.inl (List.mem_of_getElem? (i := 0) rfl))
          have N1 := Fr.snoc X1 N0 g_a1
          have V2 : Arv Z h1 a1 kA .byte (4 : Int32) ((lv.set kk.toNatClampNeg (nar .byte yy)).map Value.int) (.int (0 : Int32)) := by
            rw [List.map_set]
            exact Arv.set Ar1 qA1 SA1 NA1 HA1 GA1 (fits_nar_byte _) W1 kk.toNatClampNeg rfl (o_len hl c1)
          refine Gl.go (fun _ k => st1 _ k) ?_
          show Gl _ _ _ _ (T1.setTop (mkF m 30 #[.val (.ref a1), .val (.int kk), .val (.int yy), .val (.int ii), .val (.int nn)] []))
          refine Gl.go (fun _ k => XS.iloadN X1.here hx rfl (hb hby d3_30) rfl  k) ?_
          show Gl _ _ _ _ (T1.setTop (mkF m 31 #[.val (.ref a1), .val (.int kk), .val (.int yy), .val (.int ii), .val (.int nn)] [(.int kk)]))
          refine Gl.go (fun _ k => XS.iconst X1.here hx rfl (hb hby d3_31) k) ?_
          show Gl _ _ _ _ (T1.setTop (mkF m 32 #[.val (.ref a1), .val (.int kk), .val (.int yy), .val (.int ii), .val (.int nn)] [(.int (1 : Int32)), (.int kk)]))
          refine Gl.go (fun _ k => XS.iadd X1.here hx rfl (hb hby d3_32) rfl k) ?_
          show Gl _ _ _ _ (T1.setTop (mkF m 33 #[.val (.ref a1), .val (.int kk), .val (.int yy), .val (.int ii), .val (.int nn)] [(.int (kk + (1 : Int32)))]))
          refine leafI X1 hx hlk Bd.returns (hb hby d3_33) ?_ (by decide) (by decide)
          rw [e1]
          exact ⟨by rw [adK, if_pos hA, if_neg hB, if_pos hC, if_neg hD], N1, K1, by rw [adL, if_pos hA, if_neg hB, if_pos hC, if_neg hD]; exact V2⟩
      · skip
        refine Gl.go (fun _ k => XS.icmpYes X0.here hx rfl (pc0 := 17) (pc' := 26) rfl (hb hby d3_17) rfl (feq hC).2 (by decide) (by decide) k) ?_
        show Gl _ _ _ _ (s₁.setTop (mkF m 26 #[.val (.ref a1), .val (.int kk), .val (.int yy), .val (.int ii), .val (.int nn)] []))
        refine Gl.go (fun _ k => XS.aloadN X0.here hx rfl (hb hby d3_26) rfl rfl  k) ?_
        show Gl _ _ _ _ (s₁.setTop (mkF m 27 #[.val (.ref a1), .val (.int kk), .val (.int yy), .val (.int ii), .val (.int nn)] [(.ref a1)]))
        refine Gl.go (fun _ k => XS.iloadN X0.here hx rfl (hb hby d3_27) rfl  k) ?_
        show Gl _ _ _ _ (s₁.setTop (mkF m 28 #[.val (.ref a1), .val (.int kk), .val (.int yy), .val (.int ii), .val (.int nn)] [(.int kk), (.ref a1)]))
        refine Gl.go (fun _ k => XS.iloadN X0.here hx rfl (hb hby d3_28) rfl  k) ?_
        show Gl _ _ _ _ (s₁.setTop (mkF m 29 #[.val (.ref a1), .val (.int kk), .val (.int yy), .val (.int ii), .val (.int nn)] [(.int yy), (.int kk), (.ref a1)]))
        obtain ⟨cl2, Ar2, qA2, SA2, NA2, HA2, GA2⟩ := id V1
        obtain ⟨T2, h2, X2, e2, W2, st2⟩ := stB X0 hx hZ e0 Ar2 (j := kk) (inb_of SA2 (o_k4 c1)) (g := (mkF m 29 #[.val (.ref a1), .val (.int kk), .val (.int yy), .val (.int ii), .val (.int nn)] [(.int yy), (.int kk), (.ref a1)])) rfl rfl (hb hby d3_29)
        have SZ2 : n0 ≤ h2.size := by rw [Wr.size W2]; exact Z0
        have K2 : Keep h0 h2 [a1] := K0.wr W2 (Or.inl (List.mem_of_getElem? (i := 0) rfl))
        have N2 := Fr.snoc X2 N0 g_a1
        have V2 : Arv Z h2 a1 kA .byte (4 : Int32) ((lv.set kk.toNatClampNeg (nar .byte yy)).map Value.int) (.int (0 : Int32)) := by
          rw [List.map_set]
          exact Arv.set Ar2 qA2 SA2 NA2 HA2 GA2 (fits_nar_byte _) W2 kk.toNatClampNeg rfl (o_len hl c1)
        refine Gl.go (fun _ k => st2 _ k) ?_
        show Gl _ _ _ _ (T2.setTop (mkF m 30 #[.val (.ref a1), .val (.int kk), .val (.int yy), .val (.int ii), .val (.int nn)] []))
        refine Gl.go (fun _ k => XS.iloadN X2.here hx rfl (hb hby d3_30) rfl  k) ?_
        show Gl _ _ _ _ (T2.setTop (mkF m 31 #[.val (.ref a1), .val (.int kk), .val (.int yy), .val (.int ii), .val (.int nn)] [(.int kk)]))
        refine Gl.go (fun _ k => XS.iconst X2.here hx rfl (hb hby d3_31) k) ?_
        show Gl _ _ _ _ (T2.setTop (mkF m 32 #[.val (.ref a1), .val (.int kk), .val (.int yy), .val (.int ii), .val (.int nn)] [(.int (1 : Int32)), (.int kk)]))
        refine Gl.go (fun _ k => XS.iadd X2.here hx rfl (hb hby d3_32) rfl k) ?_
        show Gl _ _ _ _ (T2.setTop (mkF m 33 #[.val (.ref a1), .val (.int kk), .val (.int yy), .val (.int ii), .val (.int nn)] [(.int (kk + (1 : Int32)))]))
        refine leafI X2 hx hlk Bd.returns (hb hby d3_33) ?_ (by decide) (by decide)
        rw [e2]
        exact ⟨by rw [adK, if_pos hA, if_neg hB, if_neg hC], N2, K2, by rw [adL, if_pos hA, if_neg hB, if_neg hC]; exact V2⟩
  · skip
    refine Gl.go (fun _ k => XS.icmpYes X0.here hx rfl (pc0 := 3) (pc' := 34) rfl (hb hby d3_3) rfl (flt hA).2.1 (by decide) (by decide) k) ?_
    show Gl _ _ _ _ (s₁.setTop (mkF m 34 #[.val (.ref a1), .val (.int kk), .val (.int yy), .val (.int ii), .val (.int nn)] []))
    refine Gl.go (fun _ k => XS.iloadN X0.here hx rfl (hb hby d3_34) rfl  k) ?_
    show Gl _ _ _ _ (s₁.setTop (mkF m 35 #[.val (.ref a1), .val (.int kk), .val (.int yy), .val (.int ii), .val (.int nn)] [(.int kk)]))
    refine leafI X0 hx hlk Bd.returns (hb hby d3_35) ?_ (by decide) (by decide)
    rw [e0]
    exact ⟨by rw [adK, if_neg hA], N0, K0, by rw [adL, if_neg hA]; exact V1⟩
def Q_law (Z : State) (w0 w1 w2 w3 w4 w5 : Int32) (rR : Addr) (kR : ClassId) (h0 : Heap) (n0 : Nat) (v : Option Value) (h : Heap) (L : List Loc) : Prop := v = some (.int 1) ∧ Fr n0 L
set_option maxRecDepth 65536 in
set_option maxHeartbeats 40000000 in
theorem rm_law (l : Launch) (Z : State) (a0 : Array Value) (hw : ∀ d ∈ tables_1, d.before a0 Z = true) (ws : List Jvm.Cond) (w0 w1 w2 w3 w4 w5 : Int32) (rR : Addr) (kR : ClassId) (h0 : Heap) (n0 : Nat) (Z0 : n0 ≤ h0.size) (SR : Sta Z Z.heap "com/example/aloud/aloud/PathPattern" "ROOT" "[B" (.ref rR)) (VR : Arv Z Z.heap rR kR .byte (1 : Int32) [(.int (47 : Int32))] (.int (0 : Int32))) (O0 : Old Z n0 h0) :
    MetFree l x (head1 (Jvm.Cond.code x code maxLocals ret :: ws) room_1) (fun aa U => aa = #[(.int w0), (.int w1), (.int w2), (.int w3), (.int w4), (.int w5)] ∧ Z.Warmed39 U.vm ∧ U.heap = h0) (fun _ _ _ _ _ => True) (fun _ U o U' => ∃ v L, o = .returned v ∧ Q_law Z w0 w1 w2 w3 w4 w5 rR kR h0 n0 v U'.heap L ∧ FrameEnd U o U' L 4 16) := by
  refine MetFree.of_bodySF (plainFor_of_name pn_3) hisR ?_
  intro p e s m args below meth c s₁ Bd hml0 hP hK
  obtain ⟨rfl, hZ, hh⟩ := hP
  have hx := Bd.exec
  have hby := Bd.bytes
  have hml : c.maxLocals = 17 := hml0
  have hown : s.vm.findClass "com/example/aloud/aloud/PathPatternMatchesNoPathPinLaw" = some m.cls := findClass_of_methodNamed Bd.named
  have hnm := (name_of_methodNamed Bd.named Bd.method).1
  have hlk : meth.locks = false := BodyLoose.notSynchronized Bd
  have X0 : Stand p l e room_1 s m #[(.int w0), (.int w1), (.int w2), (.int w3), (.int w4), (.int w5)] below meth c s₁ [] 0 0 := Stand.of_body Bd
  have e0 : s₁.heap = h0 := by rw [← hh, Bd.state]; rfl
  have N0 := Fr.nil n0
  have K0 : Keep h0 h0 [] := Keep.refl _ _
  show Gl p.tables e below (QQof s (Q_law Z w0 w1 w2 w3 w4 w5 rR kR h0 n0) 4 16) (s₁.setTop (entryFrame m #[(.int w0), (.int w1), (.int w2), (.int w3), (.int w4), (.int w5)] maxLocals))
  refine Gl.go (fun t k => castTop (ef_law m w0 w1 w2 w3 w4 w5) k) ?_
  show Gl _ _ _ _ (s₁.setTop (mkF m 0 #[.val (.int w0), .val (.int w1), .val (.int w2), .val (.int w3), .val (.int w4), .val (.int w5), .unset, .unset, .unset, .unset, .unset, .unset, .unset, .unset, .unset, .unset, .unset] []))
  refine Gl.go (fun _ k => XS.iloadN X0.here hx rfl (hb hby at_0) rfl  k) ?_
  show Gl _ _ _ _ (s₁.setTop (mkF m 1 #[.val (.int w0), .val (.int w1), .val (.int w2), .val (.int w3), .val (.int w4), .val (.int w5), .unset, .unset, .unset, .unset, .unset, .unset, .unset, .unset, .unset, .unset, .unset] [(.int w0)]))
  refine Gl.go (fun _ k => XS.iconst X0.here hx rfl (hb hby at_1) k) ?_
  show Gl _ _ _ _ (s₁.setTop (mkF m 2 #[.val (.int w0), .val (.int w1), .val (.int w2), .val (.int w3), .val (.int w4), .val (.int w5), .unset, .unset, .unset, .unset, .unset, .unset, .unset, .unset, .unset, .unset, .unset] [(.int (3 : Int32)), (.int w0)]))
  refine Gl.go (fun _ k => XS.iand X0.here hx rfl (hb hby at_2) rfl k) ?_
  show Gl _ _ _ _ (s₁.setTop (mkF m 3 #[.val (.int w0), .val (.int w1), .val (.int w2), .val (.int w3), .val (.int w4), .val (.int w5), .unset, .unset, .unset, .unset, .unset, .unset, .unset, .unset, .unset, .unset, .unset] [(.int (w0 &&& (3 : Int32)))]))
  have hn4 := own_len w0
  generalize h_nn : (w0 &&& (3 : Int32)) = nn at hn4 ⊢
  show Gl _ _ _ _ (s₁.setTop (mkF m 3 #[.val (.int w0), .val (.int w1), .val (.int w2), .val (.int w3), .val (.int w4), .val (.int w5), .unset, .unset, .unset, .unset, .unset, .unset, .unset, .unset, .unset, .unset, .unset] [(.int nn)]))
  refine Gl.go (fun _ k => XS.istore X0.here hx rfl (hb hby at_3) rfl (l' := #[.val (.int w0), .val (.int w1), .val (.int w2), .val (.int w3), .val (.int w4), .val (.int w5), .val (.int nn), .unset, .unset, .unset, .unset, .unset, .unset, .unset, .unset, .unset, .unset]) rfl k) ?_
  show Gl _ _ _ _ (s₁.setTop (mkF m 5 #[.val (.int w0), .val (.int w1), .val (.int w2), .val (.int w3), .val (.int w4), .val (.int w5), .val (.int nn), .unset, .unset, .unset, .unset, .unset, .unset, .unset, .unset, .unset, .unset] []))
  refine Gl.go (fun _ k => XS.iloadN X0.here hx rfl (hb hby at_5) rfl  k) ?_
  show Gl _ _ _ _ (s₁.setTop (mkF m 6 #[.val (.int w0), .val (.int w1), .val (.int w2), .val (.int w3), .val (.int w4), .val (.int w5), .val (.int nn), .unset, .unset, .unset, .unset, .unset, .unset, .unset, .unset, .unset, .unset] [(.int w1)]))
  obtain ⟨_, _, ⟨T1, L1, k1, n1⟩, -, X1, ⟨Lc1, hQ1, l1, y1, z1⟩, st1⟩ := Jvm.LawKit.callS X0 hx (y := (⟨"com/example/aloud/aloud/PathPatternMatchesNoPathPinLaw", "pick", "(I)B"⟩ : MethodName)) hown (mvT hZ (hw _ (List.mem_of_getElem? (i := 0) rfl))) (mvT hZ (hw _ (List.mem_of_getElem? (i := 1) rfl))) (mvT hZ (hw _ (List.mem_of_getElem? (i := 2) rfl))) (mvT hZ (hw _ (List.mem_of_getElem? (i := 3) rfl))) (by decide) (backOf (W := 0) (rm_pk l Z a0 hw [] w1 h0 n0 Z0 ) hZ (hw _ (List.mem_of_getElem? (i := 3) rfl)) (hw _ (List.mem_of_getElem? (i := 2) rfl)) (by decide) (by decide)) (g := (mkF m 6 #[.val (.int w0), .val (.int w1), .val (.int w2), .val (.int w3), .val (.int w4), .val (.int w5), .val (.int nn), .unset, .unset, .unset, .unset, .unset, .unset, .unset, .unset, .unset, .unset] [(.int w1)])) rfl (by rw [hml]; rfl) (argsL := [(.int w1)]) (rest := []) (lenOf pd_9 rfl) rfl (by show 2 * 0 + _ ≤ _; exact Nat.le_of_eq rfl) (hb hby at_6) (fun _ _ => ⟨rfl, e0, (by decide : 0 + 0 ≤ _), (by decide : 0 + 0 ≤ _)⟩)
  dsimp only [Pt.U, Pt.locs, Pt.cells, Pt.slots] at X1 l1 y1 z1 st1 hQ1
  subst l1 y1 z1
  obtain ⟨rfl, Nq1, e1⟩ := hQ1
  have N1 := Fr.app N0 Nq1
  refine Gl.go (fun _ k => st1 _ k) ?_
  show Gl _ _ _ _ (T1.setTop (mkF m 9 #[.val (.int w0), .val (.int w1), .val (.int w2), .val (.int w3), .val (.int w4), .val (.int w5), .val (.int nn), .unset, .unset, .unset, .unset, .unset, .unset, .unset, .unset, .unset, .unset] [(.int (pkV w1))]))
  have hb0 := own_pkB w1
  generalize h_x0 : (pkV w1) = x0 at hb0 ⊢
  show Gl _ _ _ _ (T1.setTop (mkF m 9 #[.val (.int w0), .val (.int w1), .val (.int w2), .val (.int w3), .val (.int w4), .val (.int w5), .val (.int nn), .unset, .unset, .unset, .unset, .unset, .unset, .unset, .unset, .unset, .unset] [(.int x0)]))
  refine Gl.go (fun _ k => XS.istore X1.here hx rfl (hb hby at_9) rfl (l' := #[.val (.int w0), .val (.int w1), .val (.int w2), .val (.int w3), .val (.int w4), .val (.int w5), .val (.int nn), .val (.int x0), .unset, .unset, .unset, .unset, .unset, .unset, .unset, .unset, .unset]) rfl k) ?_
  show Gl _ _ _ _ (T1.setTop (mkF m 11 #[.val (.int w0), .val (.int w1), .val (.int w2), .val (.int w3), .val (.int w4), .val (.int w5), .val (.int nn), .val (.int x0), .unset, .unset, .unset, .unset, .unset, .unset, .unset, .unset, .unset] []))
  refine Gl.go (fun _ k => XS.iloadN X1.here hx rfl (hb hby at_11) rfl  k) ?_
  show Gl _ _ _ _ (T1.setTop (mkF m 12 #[.val (.int w0), .val (.int w1), .val (.int w2), .val (.int w3), .val (.int w4), .val (.int w5), .val (.int nn), .val (.int x0), .unset, .unset, .unset, .unset, .unset, .unset, .unset, .unset, .unset] [(.int w2)]))
  obtain ⟨_, _, ⟨T2, L2, k2, n2⟩, -, X2, ⟨Lc2, hQ2, l2, y2, z2⟩, st2⟩ := Jvm.LawKit.callS X1 hx (y := (⟨"com/example/aloud/aloud/PathPatternMatchesNoPathPinLaw", "pick", "(I)B"⟩ : MethodName)) hown (mvT hZ (hw _ (List.mem_of_getElem? (i := 0) rfl))) (mvT hZ (hw _ (List.mem_of_getElem? (i := 1) rfl))) (mvT hZ (hw _ (List.mem_of_getElem? (i := 2) rfl))) (mvT hZ (hw _ (List.mem_of_getElem? (i := 3) rfl))) (by decide) (backOf (W := 0) (rm_pk l Z a0 hw [] w2 h0 n0 Z0 ) hZ (hw _ (List.mem_of_getElem? (i := 3) rfl)) (hw _ (List.mem_of_getElem? (i := 2) rfl)) (by decide) (by decide)) (g := (mkF m 12 #[.val (.int w0), .val (.int w1), .val (.int w2), .val (.int w3), .val (.int w4), .val (.int w5), .val (.int nn), .val (.int x0), .unset, .unset, .unset, .unset, .unset, .unset, .unset, .unset, .unset] [(.int w2)])) rfl (by rw [hml]; rfl) (argsL := [(.int w2)]) (rest := []) (lenOf pd_9 rfl) rfl (by show 2 * 0 + _ ≤ _; exact Nat.le_of_eq rfl) (hb hby at_12) (fun _ _ => ⟨rfl, e1, (by decide : 0 + 0 ≤ _), (by decide : 0 + 0 ≤ _)⟩)
  dsimp only [Pt.U, Pt.locs, Pt.cells, Pt.slots] at X2 l2 y2 z2 st2 hQ2
  subst l2 y2 z2
  obtain ⟨rfl, Nq2, e2⟩ := hQ2
  have N2 := Fr.app N1 Nq2
  refine Gl.go (fun _ k => st2 _ k) ?_
  show Gl _ _ _ _ (T2.setTop (mkF m 15 #[.val (.int w0), .val (.int w1), .val (.int w2), .val (.int w3), .val (.int w4), .val (.int w5), .val (.int nn), .val (.int x0), .unset, .unset, .unset, .unset, .unset, .unset, .unset, .unset, .unset] [(.int (pkV w2))]))
  have hb1 := own_pkB w2
  generalize h_x1 : (pkV w2) = x1 at hb1 ⊢
  show Gl _ _ _ _ (T2.setTop (mkF m 15 #[.val (.int w0), .val (.int w1), .val (.int w2), .val (.int w3), .val (.int w4), .val (.int w5), .val (.int nn), .val (.int x0), .unset, .unset, .unset, .unset, .unset, .unset, .unset, .unset, .unset] [(.int x1)]))
  refine Gl.go (fun _ k => XS.istore X2.here hx rfl (hb hby at_15) rfl (l' := #[.val (.int w0), .val (.int w1), .val (.int w2), .val (.int w3), .val (.int w4), .val (.int w5), .val (.int nn), .val (.int x0), .val (.int x1), .unset, .unset, .unset, .unset, .unset, .unset, .unset, .unset]) rfl k) ?_
  show Gl _ _ _ _ (T2.setTop (mkF m 17 #[.val (.int w0), .val (.int w1), .val (.int w2), .val (.int w3), .val (.int w4), .val (.int w5), .val (.int nn), .val (.int x0), .val (.int x1), .unset, .unset, .unset, .unset, .unset, .unset, .unset, .unset] []))
  refine Gl.go (fun _ k => XS.iloadN X2.here hx rfl (hb hby at_17) rfl  k) ?_
  show Gl _ _ _ _ (T2.setTop (mkF m 18 #[.val (.int w0), .val (.int w1), .val (.int w2), .val (.int w3), .val (.int w4), .val (.int w5), .val (.int nn), .val (.int x0), .val (.int x1), .unset, .unset, .unset, .unset, .unset, .unset, .unset, .unset] [(.int w3)]))
  obtain ⟨_, _, ⟨T3, L3, k3, n3⟩, -, X3, ⟨Lc3, hQ3, l3, y3, z3⟩, st3⟩ := Jvm.LawKit.callS X2 hx (y := (⟨"com/example/aloud/aloud/PathPatternMatchesNoPathPinLaw", "pick", "(I)B"⟩ : MethodName)) hown (mvT hZ (hw _ (List.mem_of_getElem? (i := 0) rfl))) (mvT hZ (hw _ (List.mem_of_getElem? (i := 1) rfl))) (mvT hZ (hw _ (List.mem_of_getElem? (i := 2) rfl))) (mvT hZ (hw _ (List.mem_of_getElem? (i := 3) rfl))) (by decide) (backOf (W := 0) (rm_pk l Z a0 hw [] w3 h0 n0 Z0 ) hZ (hw _ (List.mem_of_getElem? (i := 3) rfl)) (hw _ (List.mem_of_getElem? (i := 2) rfl)) (by decide) (by decide)) (g := (mkF m 18 #[.val (.int w0), .val (.int w1), .val (.int w2), .val (.int w3), .val (.int w4), .val (.int w5), .val (.int nn), .val (.int x0), .val (.int x1), .unset, .unset, .unset, .unset, .unset, .unset, .unset, .unset] [(.int w3)])) rfl (by rw [hml]; rfl) (argsL := [(.int w3)]) (rest := []) (lenOf pd_9 rfl) rfl (by show 2 * 0 + _ ≤ _; exact Nat.le_of_eq rfl) (hb hby at_18) (fun _ _ => ⟨rfl, e2, (by decide : 0 + 0 ≤ _), (by decide : 0 + 0 ≤ _)⟩)
  dsimp only [Pt.U, Pt.locs, Pt.cells, Pt.slots] at X3 l3 y3 z3 st3 hQ3
  subst l3 y3 z3
  obtain ⟨rfl, Nq3, e3⟩ := hQ3
  have N3 := Fr.app N2 Nq3
  refine Gl.go (fun _ k => st3 _ k) ?_
  show Gl _ _ _ _ (T3.setTop (mkF m 21 #[.val (.int w0), .val (.int w1), .val (.int w2), .val (.int w3), .val (.int w4), .val (.int w5), .val (.int nn), .val (.int x0), .val (.int x1), .unset, .unset, .unset, .unset, .unset, .unset, .unset, .unset] [(.int (pkV w3))]))
  have hb2 := own_pkB w3
  generalize h_x2 : (pkV w3) = x2 at hb2 ⊢
  show Gl _ _ _ _ (T3.setTop (mkF m 21 #[.val (.int w0), .val (.int w1), .val (.int w2), .val (.int w3), .val (.int w4), .val (.int w5), .val (.int nn), .val (.int x0), .val (.int x1), .unset, .unset, .unset, .unset, .unset, .unset, .unset, .unset] [(.int x2)]))
  refine Gl.go (fun _ k => XS.istore X3.here hx rfl (hb hby at_21) rfl (l' := #[.val (.int w0), .val (.int w1), .val (.int w2), .val (.int w3), .val (.int w4), .val (.int w5), .val (.int nn), .val (.int x0), .val (.int x1), .val (.int x2), .unset, .unset, .unset, .unset, .unset, .unset, .unset]) rfl k) ?_
  show Gl _ _ _ _ (T3.setTop (mkF m 23 #[.val (.int w0), .val (.int w1), .val (.int w2), .val (.int w3), .val (.int w4), .val (.int w5), .val (.int nn), .val (.int x0), .val (.int x1), .val (.int x2), .unset, .unset, .unset, .unset, .unset, .unset, .unset] []))
  refine Gl.go (fun _ k => XS.iload X3.here hx rfl (hb hby at_23) rfl  k) ?_
  show Gl _ _ _ _ (T3.setTop (mkF m 25 #[.val (.int w0), .val (.int w1), .val (.int w2), .val (.int w3), .val (.int w4), .val (.int w5), .val (.int nn), .val (.int x0), .val (.int x1), .val (.int x2), .unset, .unset, .unset, .unset, .unset, .unset, .unset] [(.int nn)]))
  refine Gl.go (fun _ k => XS.iload X3.here hx rfl (hb hby at_25) rfl  k) ?_
  show Gl _ _ _ _ (T3.setTop (mkF m 27 #[.val (.int w0), .val (.int w1), .val (.int w2), .val (.int w3), .val (.int w4), .val (.int w5), .val (.int nn), .val (.int x0), .val (.int x1), .val (.int x2), .unset, .unset, .unset, .unset, .unset, .unset, .unset] [(.int x0), (.int nn)]))
  refine Gl.go (fun _ k => XS.iload X3.here hx rfl (hb hby at_27) rfl  k) ?_
  show Gl _ _ _ _ (T3.setTop (mkF m 29 #[.val (.int w0), .val (.int w1), .val (.int w2), .val (.int w3), .val (.int w4), .val (.int w5), .val (.int nn), .val (.int x0), .val (.int x1), .val (.int x2), .unset, .unset, .unset, .unset, .unset, .unset, .unset] [(.int x1), (.int x0), (.int nn)]))
  refine Gl.go (fun _ k => XS.iload X3.here hx rfl (hb hby at_29) rfl  k) ?_
  show Gl _ _ _ _ (T3.setTop (mkF m 31 #[.val (.int w0), .val (.int w1), .val (.int w2), .val (.int w3), .val (.int w4), .val (.int w5), .val (.int nn), .val (.int x0), .val (.int x1), .val (.int x2), .unset, .unset, .unset, .unset, .unset, .unset, .unset] [(.int x2), (.int x1), (.int x0), (.int nn)]))
  refine Gl.go (fun _ k => XS.iconst X3.here hx rfl (hb hby at_31) k) ?_
  show Gl _ _ _ _ (T3.setTop (mkF m 32 #[.val (.int w0), .val (.int w1), .val (.int w2), .val (.int w3), .val (.int w4), .val (.int w5), .val (.int nn), .val (.int x0), .val (.int x1), .val (.int x2), .unset, .unset, .unset, .unset, .unset, .unset, .unset] [(.int (0 : Int32)), (.int x2), (.int x1), (.int x0), (.int nn)]))
  obtain ⟨_, _, ⟨T4, L4, k4, n4⟩, -, X4, ⟨Lc4, hQ4, l4, y4, z4⟩, st4⟩ := Jvm.LawKit.callS X3 hx (y := (⟨"com/example/aloud/aloud/PathPatternMatchesNoPathPinLaw", "ofLen", "(IBBBB)[B"⟩ : MethodName)) hown (mvT hZ (hw _ (List.mem_of_getElem? (i := 4) rfl))) (mvT hZ (hw _ (List.mem_of_getElem? (i := 5) rfl))) (mvT hZ (hw _ (List.mem_of_getElem? (i := 2) rfl))) (mvT hZ (hw _ (List.mem_of_getElem? (i := 6) rfl))) (by decide) (backOf (W := 0) (rm_ol l Z a0 hw [] nn x0 x1 x2 (0 : Int32) h0 n0 Z0 ) hZ (hw _ (List.mem_of_getElem? (i := 6) rfl)) (hw _ (List.mem_of_getElem? (i := 2) rfl)) (by decide) (by decide)) (g := (mkF m 32 #[.val (.int w0), .val (.int w1), .val (.int w2), .val (.int w3), .val (.int w4), .val (.int w5), .val (.int nn), .val (.int x0), .val (.int x1), .val (.int x2), .unset, .unset, .unset, .unset, .unset, .unset, .unset] [(.int (0 : Int32)), (.int x2), (.int x1), (.int x0), (.int nn)])) rfl (by rw [hml]; rfl) (argsL := [(.int nn), (.int x0), (.int x1), (.int x2), (.int (0 : Int32))]) (rest := []) (lenOf pd_10 rfl) rfl (by show 2 * 0 + _ ≤ _; exact Nat.le_of_eq rfl) (hb hby at_32) (fun _ _ => ⟨rfl, e3, (by decide : 0 + 1 ≤ _), (by decide : 0 + 4 ≤ _)⟩)
  dsimp only [Pt.U, Pt.locs, Pt.cells, Pt.slots] at X4 l4 y4 z4 st4 hQ4
  subst l4 y4 z4
  obtain ⟨b4, rfl, Nq4, Kc4, gz4, kc4, Vc4⟩ := hQ4
  have N4 := Fr.app N3 Nq4
  refine Gl.go (fun _ k => st4 _ k) ?_
  have Ex4 := ext_of_keep Kc4
  have O__4 : Old Z n0 T4.heap := O0.ext Ex4
  have SZ4 : n0 ≤ T4.heap.size := Nat.le_trans Z0 Ex4.1
  have K4 : Keep h0 T4.heap [] := K0.ext Ex4
  show Gl _ _ _ _ (T4.setTop (mkF m 35 #[.val (.int w0), .val (.int w1), .val (.int w2), .val (.int w3), .val (.int w4), .val (.int w5), .val (.int nn), .val (.int x0), .val (.int x1), .val (.int x2), .unset, .unset, .unset, .unset, .unset, .unset, .unset] [(.ref b4)]))
  refine Gl.go (fun _ k => XS.astore X4.here hx rfl (hb hby at_35) rfl rfl (l' := #[.val (.int w0), .val (.int w1), .val (.int w2), .val (.int w3), .val (.int w4), .val (.int w5), .val (.int nn), .val (.int x0), .val (.int x1), .val (.int x2), .val (.ref b4), .unset, .unset, .unset, .unset, .unset, .unset]) rfl k) ?_
  show Gl _ _ _ _ (T4.setTop (mkF m 37 #[.val (.int w0), .val (.int w1), .val (.int w2), .val (.int w3), .val (.int w4), .val (.int w5), .val (.int nn), .val (.int x0), .val (.int x1), .val (.int x2), .val (.ref b4), .unset, .unset, .unset, .unset, .unset, .unset] []))
  refine Gl.go (fun _ k => XS.iconst X4.here hx rfl (hb hby at_37) k) ?_
  show Gl _ _ _ _ (T4.setTop (mkF m 38 #[.val (.int w0), .val (.int w1), .val (.int w2), .val (.int w3), .val (.int w4), .val (.int w5), .val (.int nn), .val (.int x0), .val (.int x1), .val (.int x2), .val (.ref b4), .unset, .unset, .unset, .unset, .unset, .unset] [(.int (4 : Int32))]))
  obtain ⟨T5, h5, cA5, X5, e5, E5, A5, st5⟩ := newP X4 hx hZ (hw _ (List.mem_of_getElem? (i := 7) rfl)) rfl (g := (mkF m 38 #[.val (.int w0), .val (.int w1), .val (.int w2), .val (.int w3), .val (.int w4), .val (.int w5), .val (.int nn), .val (.int x0), .val (.int x1), .val (.int x2), .val (.ref b4), .unset, .unset, .unset, .unset, .unset, .unset] [(.int (4 : Int32))])) rfl (hb hby at_38) rfl (by decide) (cap := 4) (by decide) (by decide) (by decide) (by decide)
  obtain ⟨b5, g5⟩ : ∃ z, z = T4.heap.size := ⟨_, rfl⟩
  rw [← g5] at A5 st5
  have g_b5 : n0 ≤ b5 := Nat.le_trans SZ4 (Nat.le_of_eq g5.symm)
  have sz_b5 : h0.size ≤ b5 := Nat.le_trans K4.1 (Nat.le_of_eq g5.symm)
  have ne_b4_b5 : b4 ≠ b5 := Nat.ne_of_lt (Nat.lt_of_lt_of_le Vc4.lt (Nat.le_of_eq g5.symm))
  have O__5 : Old Z n0 h5 := O__4.ext E5
  have V_b4_5 : Arv Z h5 b4 kc4 .byte (olZ nn) ((olL nn x0 x1 x2 (0 : Int32)).map Value.int) (.int (0 : Int32)) := Vc4.ext E5
  have SZ5 : n0 ≤ h5.size := Nat.le_trans SZ4 E5.1
  have K5 : Keep h0 h5 [] := K4.ext E5
  have V_b5_5 : Arv Z h5 b5 cA5 .byte (4 : Int32) [(.int (0 : Int32)), (.int (0 : Int32)), (.int (0 : Int32)), (.int (0 : Int32))] (.int (0 : Int32)) := (Arv.new A5 (by decide)).pad (pad_rep [] _ 4)
  refine Gl.go (fun _ k => st5 _ k) ?_
  show Gl _ _ _ _ (T5.setTop (mkF m 40 #[.val (.int w0), .val (.int w1), .val (.int w2), .val (.int w3), .val (.int w4), .val (.int w5), .val (.int nn), .val (.int x0), .val (.int x1), .val (.int x2), .val (.ref b4), .unset, .unset, .unset, .unset, .unset, .unset] [(.ref b5)]))
  refine Gl.go (fun _ k => XS.astore X5.here hx rfl (hb hby at_40) rfl rfl (l' := #[.val (.int w0), .val (.int w1), .val (.int w2), .val (.int w3), .val (.int w4), .val (.int w5), .val (.int nn), .val (.int x0), .val (.int x1), .val (.int x2), .val (.ref b4), .val (.ref b5), .unset, .unset, .unset, .unset, .unset]) rfl k) ?_
  show Gl _ _ _ _ (T5.setTop (mkF m 42 #[.val (.int w0), .val (.int w1), .val (.int w2), .val (.int w3), .val (.int w4), .val (.int w5), .val (.int nn), .val (.int x0), .val (.int x1), .val (.int x2), .val (.ref b4), .val (.ref b5), .unset, .unset, .unset, .unset, .unset] []))
  refine Gl.go (fun _ k => XS.iconst X5.here hx rfl (hb hby at_42) k) ?_
  show Gl _ _ _ _ (T5.setTop (mkF m 43 #[.val (.int w0), .val (.int w1), .val (.int w2), .val (.int w3), .val (.int w4), .val (.int w5), .val (.int nn), .val (.int x0), .val (.int x1), .val (.int x2), .val (.ref b4), .val (.ref b5), .unset, .unset, .unset, .unset, .unset] [(.int (0 : Int32))]))
  refine Gl.go (fun _ k => XS.istore X5.here hx rfl (hb hby at_43) rfl (l' := #[.val (.int w0), .val (.int w1), .val (.int w2), .val (.int w3), .val (.int w4), .val (.int w5), .val (.int nn), .val (.int x0), .val (.int x1), .val (.int x2), .val (.ref b4), .val (.ref b5), .val (.int (0 : Int32)), .unset, .unset, .unset, .unset]) rfl k) ?_
  show Gl _ _ _ _ (T5.setTop (mkF m 45 #[.val (.int w0), .val (.int w1), .val (.int w2), .val (.int w3), .val (.int w4), .val (.int w5), .val (.int nn), .val (.int x0), .val (.int x1), .val (.int x2), .val (.ref b4), .val (.ref b5), .val (.int (0 : Int32)), .unset, .unset, .unset, .unset] []))
  refine Gl.go (fun _ k => XS.iload X5.here hx rfl (hb hby at_45) rfl  k) ?_
  show Gl _ _ _ _ (T5.setTop (mkF m 47 #[.val (.int w0), .val (.int w1), .val (.int w2), .val (.int w3), .val (.int w4), .val (.int w5), .val (.int nn), .val (.int x0), .val (.int x1), .val (.int x2), .val (.ref b4), .val (.ref b5), .val (.int (0 : Int32)), .unset, .unset, .unset, .unset] [(.int nn)]))
  by_cases hA : nn = (0 : Int32)
  · skip
    refine Gl.go (fun _ k => XS.ifYes X5.here hx rfl (pc0 := 47) (pc' := 57) rfl (hb hby at_47) rfl ((if0 _ _).trans (teq hA).1) (by decide) (by decide) k) ?_
    show Gl _ _ _ _ (T5.setTop (mkF m 57 #[.val (.int w0), .val (.int w1), .val (.int w2), .val (.int w3), .val (.int w4), .val (.int w5), .val (.int nn), .val (.int x0), .val (.int x1), .val (.int x2), .val (.ref b4), .val (.ref b5), .val (.int (0 : Int32)), .unset, .unset, .unset, .unset] []))
    refine Gl.go (fun _ k => XS.aload X5.here hx rfl (hb hby at_57) rfl rfl  k) ?_
    show Gl _ _ _ _ (T5.setTop (mkF m 59 #[.val (.int w0), .val (.int w1), .val (.int w2), .val (.int w3), .val (.int w4), .val (.int w5), .val (.int nn), .val (.int x0), .val (.int x1), .val (.int x2), .val (.ref b4), .val (.ref b5), .val (.int (0 : Int32)), .unset, .unset, .unset, .unset] [(.ref b5)]))
    refine Gl.go (fun _ k => XS.iconst X5.here hx rfl (hb hby at_59) k) ?_
    show Gl _ _ _ _ (T5.setTop (mkF m 60 #[.val (.int w0), .val (.int w1), .val (.int w2), .val (.int w3), .val (.int w4), .val (.int w5), .val (.int nn), .val (.int x0), .val (.int x1), .val (.int x2), .val (.ref b4), .val (.ref b5), .val (.int (0 : Int32)), .unset, .unset, .unset, .unset] [(.int (0 : Int32)), (.ref b5)]))
    refine Gl.go (fun _ k => XS.bipush X5.here hx rfl (hb hby at_60) k) ?_
    show Gl _ _ _ _ (T5.setTop (mkF m 62 #[.val (.int w0), .val (.int w1), .val (.int w2), .val (.int w3), .val (.int w4), .val (.int w5), .val (.int nn), .val (.int x0), .val (.int x1), .val (.int x2), .val (.ref b4), .val (.ref b5), .val (.int (0 : Int32)), .unset, .unset, .unset, .unset] [(.int (47 : Int32)), (.int (0 : Int32)), (.ref b5)]))
    obtain ⟨cl6, Ar6, qA6, SA6, NA6, HA6, GA6⟩ := id V_b5_5
    obtain ⟨T6, h6, X6, e6, W6, st6⟩ := stB X5 hx hZ e5 Ar6 (j := (0 : Int32)) (inb_of SA6 ⟨by decide, by decide⟩) (g := (mkF m 62 #[.val (.int w0), .val (.int w1), .val (.int w2), .val (.int w3), .val (.int w4), .val (.int w5), .val (.int nn), .val (.int x0), .val (.int x1), .val (.int x2), .val (.ref b4), .val (.ref b5), .val (.int (0 : Int32)), .unset, .unset, .unset, .unset] [(.int (47 : Int32)), (.int (0 : Int32)), (.ref b5)])) rfl rfl (hb hby at_62)
    have O__6 : Old Z n0 h6 := O__5.wr W6 g_b5
    have V_b4_6 : Arv Z h6 b4 kc4 .byte (olZ nn) ((olL nn x0 x1 x2 (0 : Int32)).map Value.int) (.int (0 : Int32)) := V_b4_5.other W6 ne_b4_b5
    have SZ6 : n0 ≤ h6.size := by rw [Wr.size W6]; exact SZ5
    have K6 : Keep h0 h6 [] := K5.wr W6 (Or.inr sz_b5)
    have N6 := Fr.snoc X6 N4 g_b5
    have V_b5_6 : Arv Z h6 b5 cA5 .byte (4 : Int32) [(.int (nar .byte (47 : Int32))), (.int (0 : Int32)), (.int (0 : Int32)), (.int (0 : Int32))] (.int (0 : Int32)) := Arv.set Ar6 qA6 SA6 NA6 HA6 GA6 (fits_nar_byte _) W6 0 rfl (Nat.le_of_ble_eq_true rfl)
    refine Gl.go (fun _ k => st6 _ k) ?_
    show Gl _ _ _ _ (T6.setTop (mkF m 63 #[.val (.int w0), .val (.int w1), .val (.int w2), .val (.int w3), .val (.int w4), .val (.int w5), .val (.int nn), .val (.int x0), .val (.int x1), .val (.int x2), .val (.ref b4), .val (.ref b5), .val (.int (0 : Int32)), .unset, .unset, .unset, .unset] []))
    refine Gl.go (fun _ k => XS.iconst X6.here hx rfl (hb hby at_63) k) ?_
    show Gl _ _ _ _ (T6.setTop (mkF m 64 #[.val (.int w0), .val (.int w1), .val (.int w2), .val (.int w3), .val (.int w4), .val (.int w5), .val (.int nn), .val (.int x0), .val (.int x1), .val (.int x2), .val (.ref b4), .val (.ref b5), .val (.int (0 : Int32)), .unset, .unset, .unset, .unset] [(.int (1 : Int32))]))
    refine Gl.go (fun _ k => XS.istore X6.here hx rfl (hb hby at_64) rfl (l' := #[.val (.int w0), .val (.int w1), .val (.int w2), .val (.int w3), .val (.int w4), .val (.int w5), .val (.int nn), .val (.int x0), .val (.int x1), .val (.int x2), .val (.ref b4), .val (.ref b5), .val (.int (1 : Int32)), .unset, .unset, .unset, .unset]) rfl k) ?_
    show Gl _ _ _ _ (T6.setTop (mkF m 66 #[.val (.int w0), .val (.int w1), .val (.int w2), .val (.int w3), .val (.int w4), .val (.int w5), .val (.int nn), .val (.int x0), .val (.int x1), .val (.int x2), .val (.ref b4), .val (.ref b5), .val (.int (1 : Int32)), .unset, .unset, .unset, .unset] []))
    have VB : Arv Z h6 b5 cA5 .byte (4 : Int32) (([(nar .byte (47 : Int32)), (0 : Int32), (0 : Int32), (0 : Int32)] : List Int32).map Value.int) (.int (0 : Int32)) := V_b5_6
    have hlen0 : ([(nar .byte (47 : Int32)), (0 : Int32), (0 : Int32), (0 : Int32)] : List Int32).length = 4 := rfl
    have hk0 : 0 ≤ ((1 : Int32) : Int32).toInt ∧ ((1 : Int32) : Int32).toInt ≤ 1 := ⟨by decide, by decide⟩
    obtain ⟨l0, h_l0⟩ : ∃ q : List Int32, [(nar .byte (47 : Int32)), (0 : Int32), (0 : Int32), (0 : Int32)] = q := ⟨_, rfl⟩
    rw [h_l0] at VB hlen0
    refine Gl.go (fun _ k => XS.aload X6.here hx rfl (hb hby at_66) rfl rfl  k) ?_
    show Gl _ _ _ _ (T6.setTop (mkF m 68 #[.val (.int w0), .val (.int w1), .val (.int w2), .val (.int w3), .val (.int w4), .val (.int w5), .val (.int nn), .val (.int x0), .val (.int x1), .val (.int x2), .val (.ref b4), .val (.ref b5), .val (.int (1 : Int32)), .unset, .unset, .unset, .unset] [(.ref b5)]))
    refine Gl.go (fun _ k => XS.iload X6.here hx rfl (hb hby at_68) rfl  k) ?_
    show Gl _ _ _ _ (T6.setTop (mkF m 70 #[.val (.int w0), .val (.int w1), .val (.int w2), .val (.int w3), .val (.int w4), .val (.int w5), .val (.int nn), .val (.int x0), .val (.int x1), .val (.int x2), .val (.ref b4), .val (.ref b5), .val (.int (1 : Int32)), .unset, .unset, .unset, .unset] [(.int (1 : Int32)), (.ref b5)]))
    refine Gl.go (fun _ k => XS.iload X6.here hx rfl (hb hby at_70) rfl  k) ?_
    show Gl _ _ _ _ (T6.setTop (mkF m 72 #[.val (.int w0), .val (.int w1), .val (.int w2), .val (.int w3), .val (.int w4), .val (.int w5), .val (.int nn), .val (.int x0), .val (.int x1), .val (.int x2), .val (.ref b4), .val (.ref b5), .val (.int (1 : Int32)), .unset, .unset, .unset, .unset] [(.int x0), (.int (1 : Int32)), (.ref b5)]))
    refine Gl.go (fun _ k => XS.iconst X6.here hx rfl (hb hby at_72) k) ?_
    show Gl _ _ _ _ (T6.setTop (mkF m 73 #[.val (.int w0), .val (.int w1), .val (.int w2), .val (.int w3), .val (.int w4), .val (.int w5), .val (.int nn), .val (.int x0), .val (.int x1), .val (.int x2), .val (.ref b4), .val (.ref b5), .val (.int (1 : Int32)), .unset, .unset, .unset, .unset] [(.int (0 : Int32)), (.int x0), (.int (1 : Int32)), (.ref b5)]))
    refine Gl.go (fun _ k => XS.iload X6.here hx rfl (hb hby at_73) rfl  k) ?_
    show Gl _ _ _ _ (T6.setTop (mkF m 75 #[.val (.int w0), .val (.int w1), .val (.int w2), .val (.int w3), .val (.int w4), .val (.int w5), .val (.int nn), .val (.int x0), .val (.int x1), .val (.int x2), .val (.ref b4), .val (.ref b5), .val (.int (1 : Int32)), .unset, .unset, .unset, .unset] [(.int nn), (.int (0 : Int32)), (.int x0), (.int (1 : Int32)), (.ref b5)]))
    obtain ⟨_, _, ⟨T7, L7, k7, n7⟩, -, X7, ⟨Lc7, hQ7, l7, y7, z7⟩, st7⟩ := Jvm.LawKit.callS X6 hx (y := (⟨"com/example/aloud/aloud/PathPatternMatchesNoPathPinLaw", "add", "([BIBII)I"⟩ : MethodName)) hown (mvT hZ (hw _ (List.mem_of_getElem? (i := 8) rfl))) (mvT hZ (hw _ (List.mem_of_getElem? (i := 9) rfl))) (mvT hZ (hw _ (List.mem_of_getElem? (i := 2) rfl))) (mvT hZ (hw _ (List.mem_of_getElem? (i := 10) rfl))) (by decide) (backOf (W := 0) (rm_ad l Z a0 hw [] b5 cA5 l0 (1 : Int32) x0 (0 : Int32) nn h6 n0 SZ6 VB hlen0 (o_kb0 hk0) g_b5) hZ (hw _ (List.mem_of_getElem? (i := 10) rfl)) (hw _ (List.mem_of_getElem? (i := 2) rfl)) (by decide) (by decide)) (g := (mkF m 75 #[.val (.int w0), .val (.int w1), .val (.int w2), .val (.int w3), .val (.int w4), .val (.int w5), .val (.int nn), .val (.int x0), .val (.int x1), .val (.int x2), .val (.ref b4), .val (.ref b5), .val (.int (1 : Int32)), .unset, .unset, .unset, .unset] [(.int nn), (.int (0 : Int32)), (.int x0), (.int (1 : Int32)), (.ref b5)])) rfl (by rw [hml]; rfl) (argsL := [(.ref b5), (.int (1 : Int32)), (.int x0), (.int (0 : Int32)), (.int nn)]) (rest := []) (lenOf pd_11 rfl) rfl (by show 2 * 0 + _ ≤ _; exact Nat.le_of_eq rfl) (hb hby at_75) (fun _ _ => ⟨rfl, e6, (by decide : 2 + 0 ≤ _), (by decide : 8 + 0 ≤ _)⟩)
    dsimp only [Pt.U, Pt.locs, Pt.cells, Pt.slots] at X7 l7 y7 z7 st7 hQ7
    subst l7 y7 z7
    obtain ⟨rfl, Nq7, Kc7, Vc7⟩ := hQ7
    have N7 := Fr.app N6 Nq7
    refine Gl.go (fun _ k => st7 _ k) ?_
    have O__7 : Old Z n0 T7.heap := O__6.keep Kc7 (allS g_b5 all0)
    have V_b4_7 : Arv Z T7.heap b4 kc4 .byte (olZ nn) ((olL nn x0 x1 x2 (0 : Int32)).map Value.int) (.int (0 : Int32)) := V_b4_6.keep Kc7 (ninS ne_b4_b5 nin0)
    have SZ7 : n0 ≤ T7.heap.size := Nat.le_trans SZ6 Kc7.1
    have K7 : Keep h0 T7.heap [] := K6.trans Kc7 (allS (Or.inr sz_b5) all0)
    show Gl _ _ _ _ (T7.setTop (mkF m 78 #[.val (.int w0), .val (.int w1), .val (.int w2), .val (.int w3), .val (.int w4), .val (.int w5), .val (.int nn), .val (.int x0), .val (.int x1), .val (.int x2), .val (.ref b4), .val (.ref b5), .val (.int (1 : Int32)), .unset, .unset, .unset, .unset] [(.int (adK (1 : Int32) x0 (0 : Int32) nn))]))
    have hk1 := own_adK (k := (1 : Int32)) (y := x0) (i := (0 : Int32)) (n := nn) (o_kb0 hk0)
    have hlen1 := (own_adLen l0 (1 : Int32) x0 (0 : Int32) nn).trans hlen0
    have hz1 := own_ad0 (l := l0) (k := (1 : Int32)) (y := x0) (i := (0 : Int32)) (n := nn)
    generalize h_k1' : (adK (1 : Int32) x0 (0 : Int32) nn) = k1' at hk1 ⊢
    show Gl _ _ _ _ (T7.setTop (mkF m 78 #[.val (.int w0), .val (.int w1), .val (.int w2), .val (.int w3), .val (.int w4), .val (.int w5), .val (.int nn), .val (.int x0), .val (.int x1), .val (.int x2), .val (.ref b4), .val (.ref b5), .val (.int (1 : Int32)), .unset, .unset, .unset, .unset] [(.int k1')]))
    generalize h_l1 : (adL l0 (1 : Int32) x0 (0 : Int32) nn) = l1 at Vc7 hlen1 hz1
    have hkr1 := hk1
    have hk1 := o_kt0 hk0 hkr1
    refine Gl.go (fun _ k => XS.istore X7.here hx rfl (hb hby at_78) rfl (l' := #[.val (.int w0), .val (.int w1), .val (.int w2), .val (.int w3), .val (.int w4), .val (.int w5), .val (.int nn), .val (.int x0), .val (.int x1), .val (.int x2), .val (.ref b4), .val (.ref b5), .val (.int k1'), .unset, .unset, .unset, .unset]) rfl k) ?_
    show Gl _ _ _ _ (T7.setTop (mkF m 80 #[.val (.int w0), .val (.int w1), .val (.int w2), .val (.int w3), .val (.int w4), .val (.int w5), .val (.int nn), .val (.int x0), .val (.int x1), .val (.int x2), .val (.ref b4), .val (.ref b5), .val (.int k1'), .unset, .unset, .unset, .unset] []))
    refine Gl.go (fun _ k => XS.aload X7.here hx rfl (hb hby at_80) rfl rfl  k) ?_
    show Gl _ _ _ _ (T7.setTop (mkF m 82 #[.val (.int w0), .val (.int w1), .val (.int w2), .val (.int w3), .val (.int w4), .val (.int w5), .val (.int nn), .val (.int x0), .val (.int x1), .val (.int x2), .val (.ref b4), .val (.ref b5), .val (.int k1'), .unset, .unset, .unset, .unset] [(.ref b5)]))
    refine Gl.go (fun _ k => XS.iload X7.here hx rfl (hb hby at_82) rfl  k) ?_
    show Gl _ _ _ _ (T7.setTop (mkF m 84 #[.val (.int w0), .val (.int w1), .val (.int w2), .val (.int w3), .val (.int w4), .val (.int w5), .val (.int nn), .val (.int x0), .val (.int x1), .val (.int x2), .val (.ref b4), .val (.ref b5), .val (.int k1'), .unset, .unset, .unset, .unset] [(.int k1'), (.ref b5)]))
    refine Gl.go (fun _ k => XS.iload X7.here hx rfl (hb hby at_84) rfl  k) ?_
    show Gl _ _ _ _ (T7.setTop (mkF m 86 #[.val (.int w0), .val (.int w1), .val (.int w2), .val (.int w3), .val (.int w4), .val (.int w5), .val (.int nn), .val (.int x0), .val (.int x1), .val (.int x2), .val (.ref b4), .val (.ref b5), .val (.int k1'), .unset, .unset, .unset, .unset] [(.int x1), (.int k1'), (.ref b5)]))
    refine Gl.go (fun _ k => XS.iconst X7.here hx rfl (hb hby at_86) k) ?_
    show Gl _ _ _ _ (T7.setTop (mkF m 87 #[.val (.int w0), .val (.int w1), .val (.int w2), .val (.int w3), .val (.int w4), .val (.int w5), .val (.int nn), .val (.int x0), .val (.int x1), .val (.int x2), .val (.ref b4), .val (.ref b5), .val (.int k1'), .unset, .unset, .unset, .unset] [(.int (1 : Int32)), (.int x1), (.int k1'), (.ref b5)]))
    refine Gl.go (fun _ k => XS.iload X7.here hx rfl (hb hby at_87) rfl  k) ?_
    show Gl _ _ _ _ (T7.setTop (mkF m 89 #[.val (.int w0), .val (.int w1), .val (.int w2), .val (.int w3), .val (.int w4), .val (.int w5), .val (.int nn), .val (.int x0), .val (.int x1), .val (.int x2), .val (.ref b4), .val (.ref b5), .val (.int k1'), .unset, .unset, .unset, .unset] [(.int nn), (.int (1 : Int32)), (.int x1), (.int k1'), (.ref b5)]))
    obtain ⟨_, _, ⟨T8, L8, k8, n8⟩, -, X8, ⟨Lc8, hQ8, l8, y8, z8⟩, st8⟩ := Jvm.LawKit.callS X7 hx (y := (⟨"com/example/aloud/aloud/PathPatternMatchesNoPathPinLaw", "add", "([BIBII)I"⟩ : MethodName)) hown (mvT hZ (hw _ (List.mem_of_getElem? (i := 8) rfl))) (mvT hZ (hw _ (List.mem_of_getElem? (i := 9) rfl))) (mvT hZ (hw _ (List.mem_of_getElem? (i := 2) rfl))) (mvT hZ (hw _ (List.mem_of_getElem? (i := 10) rfl))) (by decide) (backOf (W := 0) (rm_ad l Z a0 hw [] b5 cA5 l1 k1' x1 (1 : Int32) nn T7.heap n0 SZ7 Vc7 hlen1 (o_kb1 hk1) g_b5) hZ (hw _ (List.mem_of_getElem? (i := 10) rfl)) (hw _ (List.mem_of_getElem? (i := 2) rfl)) (by decide) (by decide)) (g := (mkF m 89 #[.val (.int w0), .val (.int w1), .val (.int w2), .val (.int w3), .val (.int w4), .val (.int w5), .val (.int nn), .val (.int x0), .val (.int x1), .val (.int x2), .val (.ref b4), .val (.ref b5), .val (.int k1'), .unset, .unset, .unset, .unset] [(.int nn), (.int (1 : Int32)), (.int x1), (.int k1'), (.ref b5)])) rfl (by rw [hml]; rfl) (argsL := [(.ref b5), (.int k1'), (.int x1), (.int (1 : Int32)), (.int nn)]) (rest := []) (lenOf pd_11 rfl) rfl (by show 2 * 0 + _ ≤ _; exact Nat.le_of_eq rfl) (hb hby at_89) (fun _ _ => ⟨rfl, rfl, (by decide : 2 + 0 ≤ _), (by decide : 8 + 0 ≤ _)⟩)
    dsimp only [Pt.U, Pt.locs, Pt.cells, Pt.slots] at X8 l8 y8 z8 st8 hQ8
    subst l8 y8 z8
    obtain ⟨rfl, Nq8, Kc8, Vc8⟩ := hQ8
    have N8 := Fr.app N7 Nq8
    refine Gl.go (fun _ k => st8 _ k) ?_
    have O__8 : Old Z n0 T8.heap := O__7.keep Kc8 (allS g_b5 all0)
    have V_b4_8 : Arv Z T8.heap b4 kc4 .byte (olZ nn) ((olL nn x0 x1 x2 (0 : Int32)).map Value.int) (.int (0 : Int32)) := V_b4_7.keep Kc8 (ninS ne_b4_b5 nin0)
    have SZ8 : n0 ≤ T8.heap.size := Nat.le_trans SZ7 Kc8.1
    have K8 : Keep h0 T8.heap [] := K7.trans Kc8 (allS (Or.inr sz_b5) all0)
    show Gl _ _ _ _ (T8.setTop (mkF m 92 #[.val (.int w0), .val (.int w1), .val (.int w2), .val (.int w3), .val (.int w4), .val (.int w5), .val (.int nn), .val (.int x0), .val (.int x1), .val (.int x2), .val (.ref b4), .val (.ref b5), .val (.int k1'), .unset, .unset, .unset, .unset] [(.int (adK k1' x1 (1 : Int32) nn))]))
    have hk2 := own_adK (k := k1') (y := x1) (i := (1 : Int32)) (n := nn) (o_kb1 hk1)
    have hlen2 := (own_adLen l1 k1' x1 (1 : Int32) nn).trans hlen1
    have hz2 := own_ad0 (l := l1) (k := k1') (y := x1) (i := (1 : Int32)) (n := nn)
    generalize h_k2' : (adK k1' x1 (1 : Int32) nn) = k2' at hk2 ⊢
    show Gl _ _ _ _ (T8.setTop (mkF m 92 #[.val (.int w0), .val (.int w1), .val (.int w2), .val (.int w3), .val (.int w4), .val (.int w5), .val (.int nn), .val (.int x0), .val (.int x1), .val (.int x2), .val (.ref b4), .val (.ref b5), .val (.int k1'), .unset, .unset, .unset, .unset] [(.int k2')]))
    generalize h_l2 : (adL l1 k1' x1 (1 : Int32) nn) = l2 at Vc8 hlen2 hz2
    have hkr2 := hk2
    have hk2 := o_kt1 hk1 hkr2
    refine Gl.go (fun _ k => XS.istore X8.here hx rfl (hb hby at_92) rfl (l' := #[.val (.int w0), .val (.int w1), .val (.int w2), .val (.int w3), .val (.int w4), .val (.int w5), .val (.int nn), .val (.int x0), .val (.int x1), .val (.int x2), .val (.ref b4), .val (.ref b5), .val (.int k2'), .unset, .unset, .unset, .unset]) rfl k) ?_
    show Gl _ _ _ _ (T8.setTop (mkF m 94 #[.val (.int w0), .val (.int w1), .val (.int w2), .val (.int w3), .val (.int w4), .val (.int w5), .val (.int nn), .val (.int x0), .val (.int x1), .val (.int x2), .val (.ref b4), .val (.ref b5), .val (.int k2'), .unset, .unset, .unset, .unset] []))
    refine Gl.go (fun _ k => XS.aload X8.here hx rfl (hb hby at_94) rfl rfl  k) ?_
    show Gl _ _ _ _ (T8.setTop (mkF m 96 #[.val (.int w0), .val (.int w1), .val (.int w2), .val (.int w3), .val (.int w4), .val (.int w5), .val (.int nn), .val (.int x0), .val (.int x1), .val (.int x2), .val (.ref b4), .val (.ref b5), .val (.int k2'), .unset, .unset, .unset, .unset] [(.ref b5)]))
    refine Gl.go (fun _ k => XS.iload X8.here hx rfl (hb hby at_96) rfl  k) ?_
    show Gl _ _ _ _ (T8.setTop (mkF m 98 #[.val (.int w0), .val (.int w1), .val (.int w2), .val (.int w3), .val (.int w4), .val (.int w5), .val (.int nn), .val (.int x0), .val (.int x1), .val (.int x2), .val (.ref b4), .val (.ref b5), .val (.int k2'), .unset, .unset, .unset, .unset] [(.int k2'), (.ref b5)]))
    refine Gl.go (fun _ k => XS.iload X8.here hx rfl (hb hby at_98) rfl  k) ?_
    show Gl _ _ _ _ (T8.setTop (mkF m 100 #[.val (.int w0), .val (.int w1), .val (.int w2), .val (.int w3), .val (.int w4), .val (.int w5), .val (.int nn), .val (.int x0), .val (.int x1), .val (.int x2), .val (.ref b4), .val (.ref b5), .val (.int k2'), .unset, .unset, .unset, .unset] [(.int x2), (.int k2'), (.ref b5)]))
    refine Gl.go (fun _ k => XS.iconst X8.here hx rfl (hb hby at_100) k) ?_
    show Gl _ _ _ _ (T8.setTop (mkF m 101 #[.val (.int w0), .val (.int w1), .val (.int w2), .val (.int w3), .val (.int w4), .val (.int w5), .val (.int nn), .val (.int x0), .val (.int x1), .val (.int x2), .val (.ref b4), .val (.ref b5), .val (.int k2'), .unset, .unset, .unset, .unset] [(.int (2 : Int32)), (.int x2), (.int k2'), (.ref b5)]))
    refine Gl.go (fun _ k => XS.iload X8.here hx rfl (hb hby at_101) rfl  k) ?_
    show Gl _ _ _ _ (T8.setTop (mkF m 103 #[.val (.int w0), .val (.int w1), .val (.int w2), .val (.int w3), .val (.int w4), .val (.int w5), .val (.int nn), .val (.int x0), .val (.int x1), .val (.int x2), .val (.ref b4), .val (.ref b5), .val (.int k2'), .unset, .unset, .unset, .unset] [(.int nn), (.int (2 : Int32)), (.int x2), (.int k2'), (.ref b5)]))
    obtain ⟨_, _, ⟨T9, L9, k9, n9⟩, -, X9, ⟨Lc9, hQ9, l9, y9, z9⟩, st9⟩ := Jvm.LawKit.callS X8 hx (y := (⟨"com/example/aloud/aloud/PathPatternMatchesNoPathPinLaw", "add", "([BIBII)I"⟩ : MethodName)) hown (mvT hZ (hw _ (List.mem_of_getElem? (i := 8) rfl))) (mvT hZ (hw _ (List.mem_of_getElem? (i := 9) rfl))) (mvT hZ (hw _ (List.mem_of_getElem? (i := 2) rfl))) (mvT hZ (hw _ (List.mem_of_getElem? (i := 10) rfl))) (by decide) (backOf (W := 0) (rm_ad l Z a0 hw [] b5 cA5 l2 k2' x2 (2 : Int32) nn T8.heap n0 SZ8 Vc8 hlen2 (o_kb2 hk2) g_b5) hZ (hw _ (List.mem_of_getElem? (i := 10) rfl)) (hw _ (List.mem_of_getElem? (i := 2) rfl)) (by decide) (by decide)) (g := (mkF m 103 #[.val (.int w0), .val (.int w1), .val (.int w2), .val (.int w3), .val (.int w4), .val (.int w5), .val (.int nn), .val (.int x0), .val (.int x1), .val (.int x2), .val (.ref b4), .val (.ref b5), .val (.int k2'), .unset, .unset, .unset, .unset] [(.int nn), (.int (2 : Int32)), (.int x2), (.int k2'), (.ref b5)])) rfl (by rw [hml]; rfl) (argsL := [(.ref b5), (.int k2'), (.int x2), (.int (2 : Int32)), (.int nn)]) (rest := []) (lenOf pd_11 rfl) rfl (by show 2 * 0 + _ ≤ _; exact Nat.le_of_eq rfl) (hb hby at_103) (fun _ _ => ⟨rfl, rfl, (by decide : 2 + 0 ≤ _), (by decide : 8 + 0 ≤ _)⟩)
    dsimp only [Pt.U, Pt.locs, Pt.cells, Pt.slots] at X9 l9 y9 z9 st9 hQ9
    subst l9 y9 z9
    obtain ⟨rfl, Nq9, Kc9, Vc9⟩ := hQ9
    have N9 := Fr.app N8 Nq9
    refine Gl.go (fun _ k => st9 _ k) ?_
    have O__9 : Old Z n0 T9.heap := O__8.keep Kc9 (allS g_b5 all0)
    have V_b4_9 : Arv Z T9.heap b4 kc4 .byte (olZ nn) ((olL nn x0 x1 x2 (0 : Int32)).map Value.int) (.int (0 : Int32)) := V_b4_8.keep Kc9 (ninS ne_b4_b5 nin0)
    have SZ9 : n0 ≤ T9.heap.size := Nat.le_trans SZ8 Kc9.1
    have K9 : Keep h0 T9.heap [] := K8.trans Kc9 (allS (Or.inr sz_b5) all0)
    show Gl _ _ _ _ (T9.setTop (mkF m 106 #[.val (.int w0), .val (.int w1), .val (.int w2), .val (.int w3), .val (.int w4), .val (.int w5), .val (.int nn), .val (.int x0), .val (.int x1), .val (.int x2), .val (.ref b4), .val (.ref b5), .val (.int k2'), .unset, .unset, .unset, .unset] [(.int (adK k2' x2 (2 : Int32) nn))]))
    have hk3 := own_adK (k := k2') (y := x2) (i := (2 : Int32)) (n := nn) (o_kb2 hk2)
    have hlen3 := (own_adLen l2 k2' x2 (2 : Int32) nn).trans hlen2
    have hz3 := own_ad0 (l := l2) (k := k2') (y := x2) (i := (2 : Int32)) (n := nn)
    generalize h_k3' : (adK k2' x2 (2 : Int32) nn) = k3' at hk3 ⊢
    show Gl _ _ _ _ (T9.setTop (mkF m 106 #[.val (.int w0), .val (.int w1), .val (.int w2), .val (.int w3), .val (.int w4), .val (.int w5), .val (.int nn), .val (.int x0), .val (.int x1), .val (.int x2), .val (.ref b4), .val (.ref b5), .val (.int k2'), .unset, .unset, .unset, .unset] [(.int k3')]))
    generalize h_l3 : (adL l2 k2' x2 (2 : Int32) nn) = l3 at Vc9 hlen3 hz3
    have hkr3 := hk3
    have hk3 := o_kt2 hk2 hkr3
    refine Gl.go (fun _ k => XS.istore X9.here hx rfl (hb hby at_106) rfl (l' := #[.val (.int w0), .val (.int w1), .val (.int w2), .val (.int w3), .val (.int w4), .val (.int w5), .val (.int nn), .val (.int x0), .val (.int x1), .val (.int x2), .val (.ref b4), .val (.ref b5), .val (.int k3'), .unset, .unset, .unset, .unset]) rfl k) ?_
    show Gl _ _ _ _ (T9.setTop (mkF m 108 #[.val (.int w0), .val (.int w1), .val (.int w2), .val (.int w3), .val (.int w4), .val (.int w5), .val (.int nn), .val (.int x0), .val (.int x1), .val (.int x2), .val (.ref b4), .val (.ref b5), .val (.int k3'), .unset, .unset, .unset, .unset] []))
    refine Gl.go (fun _ k => XS.iload X9.here hx rfl (hb hby at_108) rfl  k) ?_
    show Gl _ _ _ _ (T9.setTop (mkF m 110 #[.val (.int w0), .val (.int w1), .val (.int w2), .val (.int w3), .val (.int w4), .val (.int w5), .val (.int nn), .val (.int x0), .val (.int x1), .val (.int x2), .val (.ref b4), .val (.ref b5), .val (.int k3'), .unset, .unset, .unset, .unset] [(.int k3')]))
    refine Gl.go (fun _ k => XS.aload X9.here hx rfl (hb hby at_110) rfl rfl  k) ?_
    show Gl _ _ _ _ (T9.setTop (mkF m 112 #[.val (.int w0), .val (.int w1), .val (.int w2), .val (.int w3), .val (.int w4), .val (.int w5), .val (.int nn), .val (.int x0), .val (.int x1), .val (.int x2), .val (.ref b4), .val (.ref b5), .val (.int k3'), .unset, .unset, .unset, .unset] [(.ref b5), (.int k3')]))
    refine Gl.go (fun _ k => XS.iconst X9.here hx rfl (hb hby at_112) k) ?_
    show Gl _ _ _ _ (T9.setTop (mkF m 113 #[.val (.int w0), .val (.int w1), .val (.int w2), .val (.int w3), .val (.int w4), .val (.int w5), .val (.int nn), .val (.int x0), .val (.int x1), .val (.int x2), .val (.ref b4), .val (.ref b5), .val (.int k3'), .unset, .unset, .unset, .unset] [(.int (0 : Int32)), (.ref b5), (.int k3')]))
    obtain ⟨cl10, Ar10, qA10, SA10, NA10, HA10, GA10⟩ := id Vc9
    have hin10 := inb_of (j := (0 : Int32)) SA10 ⟨by decide, by decide⟩
    have hat10 : cl10.slots[((0 : Int32)).toNatClampNeg]? = some (.int (gL l3 (0 : Int32))) := HA10.at hin10 (own_gl l3 (0 : Int32))
    refine Gl.go (fun _ k => X9.baloadBytes hx (j := (0 : Int32)) (v := (.int (gL l3 (0 : Int32)))) Ar10.1 (State.isArrayOf_alike hZ.alike Ar10.2.1) Ar10.2.2 hin10 hat10 (g := (mkF m 113 #[.val (.int w0), .val (.int w1), .val (.int w2), .val (.int w3), .val (.int w4), .val (.int w5), .val (.int nn), .val (.int x0), .val (.int x1), .val (.int x2), .val (.ref b4), .val (.ref b5), .val (.int k3'), .unset, .unset, .unset, .unset] [(.int (0 : Int32)), (.ref b5), (.int k3')])) rfl rfl (hb hby at_113) _ k) ?_
    show Gl _ _ _ _ (T9.setTop (mkF m 114 #[.val (.int w0), .val (.int w1), .val (.int w2), .val (.int w3), .val (.int w4), .val (.int w5), .val (.int nn), .val (.int x0), .val (.int x1), .val (.int x2), .val (.ref b4), .val (.ref b5), .val (.int k3'), .unset, .unset, .unset, .unset] [(.int (gL l3 (0 : Int32))), (.int k3')]))
    refine Gl.go (fun _ k => XS.aload X9.here hx rfl (hb hby at_114) rfl rfl  k) ?_
    show Gl _ _ _ _ (T9.setTop (mkF m 116 #[.val (.int w0), .val (.int w1), .val (.int w2), .val (.int w3), .val (.int w4), .val (.int w5), .val (.int nn), .val (.int x0), .val (.int x1), .val (.int x2), .val (.ref b4), .val (.ref b5), .val (.int k3'), .unset, .unset, .unset, .unset] [(.ref b5), (.int (gL l3 (0 : Int32))), (.int k3')]))
    refine Gl.go (fun _ k => XS.iconst X9.here hx rfl (hb hby at_116) k) ?_
    show Gl _ _ _ _ (T9.setTop (mkF m 117 #[.val (.int w0), .val (.int w1), .val (.int w2), .val (.int w3), .val (.int w4), .val (.int w5), .val (.int nn), .val (.int x0), .val (.int x1), .val (.int x2), .val (.ref b4), .val (.ref b5), .val (.int k3'), .unset, .unset, .unset, .unset] [(.int (1 : Int32)), (.ref b5), (.int (gL l3 (0 : Int32))), (.int k3')]))
    obtain ⟨cl11, Ar11, qA11, SA11, NA11, HA11, GA11⟩ := id Vc9
    have hin11 := inb_of (j := (1 : Int32)) SA11 ⟨by decide, by decide⟩
    have hat11 : cl11.slots[((1 : Int32)).toNatClampNeg]? = some (.int (gL l3 (1 : Int32))) := HA11.at hin11 (own_gl l3 (1 : Int32))
    refine Gl.go (fun _ k => X9.baloadBytes hx (j := (1 : Int32)) (v := (.int (gL l3 (1 : Int32)))) Ar11.1 (State.isArrayOf_alike hZ.alike Ar11.2.1) Ar11.2.2 hin11 hat11 (g := (mkF m 117 #[.val (.int w0), .val (.int w1), .val (.int w2), .val (.int w3), .val (.int w4), .val (.int w5), .val (.int nn), .val (.int x0), .val (.int x1), .val (.int x2), .val (.ref b4), .val (.ref b5), .val (.int k3'), .unset, .unset, .unset, .unset] [(.int (1 : Int32)), (.ref b5), (.int (gL l3 (0 : Int32))), (.int k3')])) rfl rfl (hb hby at_117) _ k) ?_
    show Gl _ _ _ _ (T9.setTop (mkF m 118 #[.val (.int w0), .val (.int w1), .val (.int w2), .val (.int w3), .val (.int w4), .val (.int w5), .val (.int nn), .val (.int x0), .val (.int x1), .val (.int x2), .val (.ref b4), .val (.ref b5), .val (.int k3'), .unset, .unset, .unset, .unset] [(.int (gL l3 (1 : Int32))), (.int (gL l3 (0 : Int32))), (.int k3')]))
    refine Gl.go (fun _ k => XS.aload X9.here hx rfl (hb hby at_118) rfl rfl  k) ?_
    show Gl _ _ _ _ (T9.setTop (mkF m 120 #[.val (.int w0), .val (.int w1), .val (.int w2), .val (.int w3), .val (.int w4), .val (.int w5), .val (.int nn), .val (.int x0), .val (.int x1), .val (.int x2), .val (.ref b4), .val (.ref b5), .val (.int k3'), .unset, .unset, .unset, .unset] [(.ref b5), (.int (gL l3 (1 : Int32))), (.int (gL l3 (0 : Int32))), (.int k3')]))
    refine Gl.go (fun _ k => XS.iconst X9.here hx rfl (hb hby at_120) k) ?_
    show Gl _ _ _ _ (T9.setTop (mkF m 121 #[.val (.int w0), .val (.int w1), .val (.int w2), .val (.int w3), .val (.int w4), .val (.int w5), .val (.int nn), .val (.int x0), .val (.int x1), .val (.int x2), .val (.ref b4), .val (.ref b5), .val (.int k3'), .unset, .unset, .unset, .unset] [(.int (2 : Int32)), (.ref b5), (.int (gL l3 (1 : Int32))), (.int (gL l3 (0 : Int32))), (.int k3')]))
    obtain ⟨cl12, Ar12, qA12, SA12, NA12, HA12, GA12⟩ := id Vc9
    have hin12 := inb_of (j := (2 : Int32)) SA12 ⟨by decide, by decide⟩
    have hat12 : cl12.slots[((2 : Int32)).toNatClampNeg]? = some (.int (gL l3 (2 : Int32))) := HA12.at hin12 (own_gl l3 (2 : Int32))
    refine Gl.go (fun _ k => X9.baloadBytes hx (j := (2 : Int32)) (v := (.int (gL l3 (2 : Int32)))) Ar12.1 (State.isArrayOf_alike hZ.alike Ar12.2.1) Ar12.2.2 hin12 hat12 (g := (mkF m 121 #[.val (.int w0), .val (.int w1), .val (.int w2), .val (.int w3), .val (.int w4), .val (.int w5), .val (.int nn), .val (.int x0), .val (.int x1), .val (.int x2), .val (.ref b4), .val (.ref b5), .val (.int k3'), .unset, .unset, .unset, .unset] [(.int (2 : Int32)), (.ref b5), (.int (gL l3 (1 : Int32))), (.int (gL l3 (0 : Int32))), (.int k3')])) rfl rfl (hb hby at_121) _ k) ?_
    show Gl _ _ _ _ (T9.setTop (mkF m 122 #[.val (.int w0), .val (.int w1), .val (.int w2), .val (.int w3), .val (.int w4), .val (.int w5), .val (.int nn), .val (.int x0), .val (.int x1), .val (.int x2), .val (.ref b4), .val (.ref b5), .val (.int k3'), .unset, .unset, .unset, .unset] [(.int (gL l3 (2 : Int32))), (.int (gL l3 (1 : Int32))), (.int (gL l3 (0 : Int32))), (.int k3')]))
    refine Gl.go (fun _ k => XS.aload X9.here hx rfl (hb hby at_122) rfl rfl  k) ?_
    show Gl _ _ _ _ (T9.setTop (mkF m 124 #[.val (.int w0), .val (.int w1), .val (.int w2), .val (.int w3), .val (.int w4), .val (.int w5), .val (.int nn), .val (.int x0), .val (.int x1), .val (.int x2), .val (.ref b4), .val (.ref b5), .val (.int k3'), .unset, .unset, .unset, .unset] [(.ref b5), (.int (gL l3 (2 : Int32))), (.int (gL l3 (1 : Int32))), (.int (gL l3 (0 : Int32))), (.int k3')]))
    refine Gl.go (fun _ k => XS.iconst X9.here hx rfl (hb hby at_124) k) ?_
    show Gl _ _ _ _ (T9.setTop (mkF m 125 #[.val (.int w0), .val (.int w1), .val (.int w2), .val (.int w3), .val (.int w4), .val (.int w5), .val (.int nn), .val (.int x0), .val (.int x1), .val (.int x2), .val (.ref b4), .val (.ref b5), .val (.int k3'), .unset, .unset, .unset, .unset] [(.int (3 : Int32)), (.ref b5), (.int (gL l3 (2 : Int32))), (.int (gL l3 (1 : Int32))), (.int (gL l3 (0 : Int32))), (.int k3')]))
    obtain ⟨cl13, Ar13, qA13, SA13, NA13, HA13, GA13⟩ := id Vc9
    have hin13 := inb_of (j := (3 : Int32)) SA13 ⟨by decide, by decide⟩
    have hat13 : cl13.slots[((3 : Int32)).toNatClampNeg]? = some (.int (gL l3 (3 : Int32))) := HA13.at hin13 (own_gl l3 (3 : Int32))
    refine Gl.go (fun _ k => X9.baloadBytes hx (j := (3 : Int32)) (v := (.int (gL l3 (3 : Int32)))) Ar13.1 (State.isArrayOf_alike hZ.alike Ar13.2.1) Ar13.2.2 hin13 hat13 (g := (mkF m 125 #[.val (.int w0), .val (.int w1), .val (.int w2), .val (.int w3), .val (.int w4), .val (.int w5), .val (.int nn), .val (.int x0), .val (.int x1), .val (.int x2), .val (.ref b4), .val (.ref b5), .val (.int k3'), .unset, .unset, .unset, .unset] [(.int (3 : Int32)), (.ref b5), (.int (gL l3 (2 : Int32))), (.int (gL l3 (1 : Int32))), (.int (gL l3 (0 : Int32))), (.int k3')])) rfl rfl (hb hby at_125) _ k) ?_
    show Gl _ _ _ _ (T9.setTop (mkF m 126 #[.val (.int w0), .val (.int w1), .val (.int w2), .val (.int w3), .val (.int w4), .val (.int w5), .val (.int nn), .val (.int x0), .val (.int x1), .val (.int x2), .val (.ref b4), .val (.ref b5), .val (.int k3'), .unset, .unset, .unset, .unset] [(.int (gL l3 (3 : Int32))), (.int (gL l3 (2 : Int32))), (.int (gL l3 (1 : Int32))), (.int (gL l3 (0 : Int32))), (.int k3')]))
    obtain ⟨_, _, ⟨T14, L14, k14, n14⟩, -, X14, ⟨Lc14, hQ14, l14, y14, z14⟩, st14⟩ := Jvm.LawKit.callS X9 hx (y := (⟨"com/example/aloud/aloud/PathPatternMatchesNoPathPinLaw", "ofLen", "(IBBBB)[B"⟩ : MethodName)) hown (mvT hZ (hw _ (List.mem_of_getElem? (i := 4) rfl))) (mvT hZ (hw _ (List.mem_of_getElem? (i := 5) rfl))) (mvT hZ (hw _ (List.mem_of_getElem? (i := 2) rfl))) (mvT hZ (hw _ (List.mem_of_getElem? (i := 6) rfl))) (by decide) (backOf (W := 0) (rm_ol l Z a0 hw [] k3' (gL l3 (0 : Int32)) (gL l3 (1 : Int32)) (gL l3 (2 : Int32)) (gL l3 (3 : Int32)) T9.heap n0 SZ9 ) hZ (hw _ (List.mem_of_getElem? (i := 6) rfl)) (hw _ (List.mem_of_getElem? (i := 2) rfl)) (by decide) (by decide)) (g := (mkF m 126 #[.val (.int w0), .val (.int w1), .val (.int w2), .val (.int w3), .val (.int w4), .val (.int w5), .val (.int nn), .val (.int x0), .val (.int x1), .val (.int x2), .val (.ref b4), .val (.ref b5), .val (.int k3'), .unset, .unset, .unset, .unset] [(.int (gL l3 (3 : Int32))), (.int (gL l3 (2 : Int32))), (.int (gL l3 (1 : Int32))), (.int (gL l3 (0 : Int32))), (.int k3')])) rfl (by rw [hml]; rfl) (argsL := [(.int k3'), (.int (gL l3 (0 : Int32))), (.int (gL l3 (1 : Int32))), (.int (gL l3 (2 : Int32))), (.int (gL l3 (3 : Int32)))]) (rest := []) (lenOf pd_10 rfl) rfl (by show 2 * 0 + _ ≤ _; exact Nat.le_of_eq rfl) (hb hby at_126) (fun _ _ => ⟨rfl, rfl, (by decide : 2 + 1 ≤ _), (by decide : 8 + 4 ≤ _)⟩)
    dsimp only [Pt.U, Pt.locs, Pt.cells, Pt.slots] at X14 l14 y14 z14 st14 hQ14
    subst l14 y14 z14
    obtain ⟨b14, rfl, Nq14, Kc14, gz14, kc14, Vc14⟩ := hQ14
    have N14 := Fr.app N9 Nq14
    refine Gl.go (fun _ k => st14 _ k) ?_
    have Ex14 := ext_of_keep Kc14
    have O__14 : Old Z n0 T14.heap := O__9.ext Ex14
    have V_b4_14 : Arv Z T14.heap b4 kc4 .byte (olZ nn) ((olL nn x0 x1 x2 (0 : Int32)).map Value.int) (.int (0 : Int32)) := V_b4_9.ext Ex14
    have V_b5_14 : Arv Z T14.heap b5 cA5 .byte (4 : Int32) (l3.map Value.int) (.int (0 : Int32)) := Vc9.ext Ex14
    have SZ14 : n0 ≤ T14.heap.size := Nat.le_trans SZ9 Ex14.1
    have K14 : Keep h0 T14.heap [] := K9.ext Ex14
    show Gl _ _ _ _ (T14.setTop (mkF m 129 #[.val (.int w0), .val (.int w1), .val (.int w2), .val (.int w3), .val (.int w4), .val (.int w5), .val (.int nn), .val (.int x0), .val (.int x1), .val (.int x2), .val (.ref b4), .val (.ref b5), .val (.int k3'), .unset, .unset, .unset, .unset] [(.ref b14)]))
    refine Gl.go (fun _ k => XS.astore X14.here hx rfl (hb hby at_129) rfl rfl (l' := #[.val (.int w0), .val (.int w1), .val (.int w2), .val (.int w3), .val (.int w4), .val (.int w5), .val (.int nn), .val (.int x0), .val (.int x1), .val (.int x2), .val (.ref b4), .val (.ref b5), .val (.int k3'), .val (.ref b14), .unset, .unset, .unset]) rfl k) ?_
    show Gl _ _ _ _ (T14.setTop (mkF m 131 #[.val (.int w0), .val (.int w1), .val (.int w2), .val (.int w3), .val (.int w4), .val (.int w5), .val (.int nn), .val (.int x0), .val (.int x1), .val (.int x2), .val (.ref b4), .val (.ref b5), .val (.int k3'), .val (.ref b14), .unset, .unset, .unset] []))
    refine Gl.go (fun _ k => XS.iconst X14.here hx rfl (hb hby at_131) k) ?_
    show Gl _ _ _ _ (T14.setTop (mkF m 132 #[.val (.int w0), .val (.int w1), .val (.int w2), .val (.int w3), .val (.int w4), .val (.int w5), .val (.int nn), .val (.int x0), .val (.int x1), .val (.int x2), .val (.ref b4), .val (.ref b5), .val (.int k3'), .val (.ref b14), .unset, .unset, .unset] [(.int (1 : Int32))]))
    refine Gl.go (fun _ k => XS.iloadN X14.here hx rfl (hb hby at_132) rfl  k) ?_
    show Gl _ _ _ _ (T14.setTop (mkF m 133 #[.val (.int w0), .val (.int w1), .val (.int w2), .val (.int w3), .val (.int w4), .val (.int w5), .val (.int nn), .val (.int x0), .val (.int x1), .val (.int x2), .val (.ref b4), .val (.ref b5), .val (.int k3'), .val (.ref b14), .unset, .unset, .unset] [(.int w0), (.int (1 : Int32))]))
    refine Gl.go (fun _ k => XS.iconst X14.here hx rfl (hb hby at_133) k) ?_
    show Gl _ _ _ _ (T14.setTop (mkF m 134 #[.val (.int w0), .val (.int w1), .val (.int w2), .val (.int w3), .val (.int w4), .val (.int w5), .val (.int nn), .val (.int x0), .val (.int x1), .val (.int x2), .val (.ref b4), .val (.ref b5), .val (.int k3'), .val (.ref b14), .unset, .unset, .unset] [(.int (2 : Int32)), (.int w0), (.int (1 : Int32))]))
    refine Gl.go (fun _ k => XS.iushr X14.here hx rfl (hb hby at_134) rfl k) ?_
    show Gl _ _ _ _ (T14.setTop (mkF m 135 #[.val (.int w0), .val (.int w1), .val (.int w2), .val (.int w3), .val (.int w4), .val (.int w5), .val (.int nn), .val (.int x0), .val (.int x1), .val (.int x2), .val (.ref b4), .val (.ref b5), .val (.int k3'), .val (.ref b14), .unset, .unset, .unset] [(.int ((w0.toUInt32 >>> ((2 : Int32) &&& 31).toUInt32).toInt32)), (.int (1 : Int32))]))
    refine Gl.go (fun _ k => XS.iconst X14.here hx rfl (hb hby at_135) k) ?_
    show Gl _ _ _ _ (T14.setTop (mkF m 136 #[.val (.int w0), .val (.int w1), .val (.int w2), .val (.int w3), .val (.int w4), .val (.int w5), .val (.int nn), .val (.int x0), .val (.int x1), .val (.int x2), .val (.ref b4), .val (.ref b5), .val (.int k3'), .val (.ref b14), .unset, .unset, .unset] [(.int (1 : Int32)), (.int ((w0.toUInt32 >>> ((2 : Int32) &&& 31).toUInt32).toInt32)), (.int (1 : Int32))]))
    refine Gl.go (fun _ k => XS.iand X14.here hx rfl (hb hby at_136) rfl k) ?_
    show Gl _ _ _ _ (T14.setTop (mkF m 137 #[.val (.int w0), .val (.int w1), .val (.int w2), .val (.int w3), .val (.int w4), .val (.int w5), .val (.int nn), .val (.int x0), .val (.int x1), .val (.int x2), .val (.ref b4), .val (.ref b5), .val (.int k3'), .val (.ref b14), .unset, .unset, .unset] [(.int (((w0.toUInt32 >>> ((2 : Int32) &&& 31).toUInt32).toInt32) &&& (1 : Int32))), (.int (1 : Int32))]))
    refine Gl.go (fun _ k => XS.iadd X14.here hx rfl (hb hby at_137) rfl k) ?_
    show Gl _ _ _ _ (T14.setTop (mkF m 138 #[.val (.int w0), .val (.int w1), .val (.int w2), .val (.int w3), .val (.int w4), .val (.int w5), .val (.int nn), .val (.int x0), .val (.int x1), .val (.int x2), .val (.ref b4), .val (.ref b5), .val (.int k3'), .val (.ref b14), .unset, .unset, .unset] [(.int ((1 : Int32) + (((w0.toUInt32 >>> ((2 : Int32) &&& 31).toUInt32).toInt32) &&& (1 : Int32))))]))
    refine Gl.go (fun _ k => XS.iloadN X14.here hx rfl (hb hby at_138) rfl  k) ?_
    show Gl _ _ _ _ (T14.setTop (mkF m 139 #[.val (.int w0), .val (.int w1), .val (.int w2), .val (.int w3), .val (.int w4), .val (.int w5), .val (.int nn), .val (.int x0), .val (.int x1), .val (.int x2), .val (.ref b4), .val (.ref b5), .val (.int k3'), .val (.ref b14), .unset, .unset, .unset] [(.int w0), (.int ((1 : Int32) + (((w0.toUInt32 >>> ((2 : Int32) &&& 31).toUInt32).toInt32) &&& (1 : Int32))))]))
    refine Gl.go (fun _ k => XS.iconst X14.here hx rfl (hb hby at_139) k) ?_
    show Gl _ _ _ _ (T14.setTop (mkF m 140 #[.val (.int w0), .val (.int w1), .val (.int w2), .val (.int w3), .val (.int w4), .val (.int w5), .val (.int nn), .val (.int x0), .val (.int x1), .val (.int x2), .val (.ref b4), .val (.ref b5), .val (.int k3'), .val (.ref b14), .unset, .unset, .unset] [(.int (3 : Int32)), (.int w0), (.int ((1 : Int32) + (((w0.toUInt32 >>> ((2 : Int32) &&& 31).toUInt32).toInt32) &&& (1 : Int32))))]))
    refine Gl.go (fun _ k => XS.iushr X14.here hx rfl (hb hby at_140) rfl k) ?_
    show Gl _ _ _ _ (T14.setTop (mkF m 141 #[.val (.int w0), .val (.int w1), .val (.int w2), .val (.int w3), .val (.int w4), .val (.int w5), .val (.int nn), .val (.int x0), .val (.int x1), .val (.int x2), .val (.ref b4), .val (.ref b5), .val (.int k3'), .val (.ref b14), .unset, .unset, .unset] [(.int ((w0.toUInt32 >>> ((3 : Int32) &&& 31).toUInt32).toInt32)), (.int ((1 : Int32) + (((w0.toUInt32 >>> ((2 : Int32) &&& 31).toUInt32).toInt32) &&& (1 : Int32))))]))
    refine Gl.go (fun _ k => XS.iconst X14.here hx rfl (hb hby at_141) k) ?_
    show Gl _ _ _ _ (T14.setTop (mkF m 142 #[.val (.int w0), .val (.int w1), .val (.int w2), .val (.int w3), .val (.int w4), .val (.int w5), .val (.int nn), .val (.int x0), .val (.int x1), .val (.int x2), .val (.ref b4), .val (.ref b5), .val (.int k3'), .val (.ref b14), .unset, .unset, .unset] [(.int (1 : Int32)), (.int ((w0.toUInt32 >>> ((3 : Int32) &&& 31).toUInt32).toInt32)), (.int ((1 : Int32) + (((w0.toUInt32 >>> ((2 : Int32) &&& 31).toUInt32).toInt32) &&& (1 : Int32))))]))
    refine Gl.go (fun _ k => XS.iand X14.here hx rfl (hb hby at_142) rfl k) ?_
    show Gl _ _ _ _ (T14.setTop (mkF m 143 #[.val (.int w0), .val (.int w1), .val (.int w2), .val (.int w3), .val (.int w4), .val (.int w5), .val (.int nn), .val (.int x0), .val (.int x1), .val (.int x2), .val (.ref b4), .val (.ref b5), .val (.int k3'), .val (.ref b14), .unset, .unset, .unset] [(.int (((w0.toUInt32 >>> ((3 : Int32) &&& 31).toUInt32).toInt32) &&& (1 : Int32))), (.int ((1 : Int32) + (((w0.toUInt32 >>> ((2 : Int32) &&& 31).toUInt32).toInt32) &&& (1 : Int32))))]))
    refine Gl.go (fun _ k => XS.iadd X14.here hx rfl (hb hby at_143) rfl k) ?_
    show Gl _ _ _ _ (T14.setTop (mkF m 144 #[.val (.int w0), .val (.int w1), .val (.int w2), .val (.int w3), .val (.int w4), .val (.int w5), .val (.int nn), .val (.int x0), .val (.int x1), .val (.int x2), .val (.ref b4), .val (.ref b5), .val (.int k3'), .val (.ref b14), .unset, .unset, .unset] [(.int (((1 : Int32) + (((w0.toUInt32 >>> ((2 : Int32) &&& 31).toUInt32).toInt32) &&& (1 : Int32))) + (((w0.toUInt32 >>> ((3 : Int32) &&& 31).toUInt32).toInt32) &&& (1 : Int32))))]))
    refine Gl.go (fun _ k => XS.istore X14.here hx rfl (hb hby at_144) rfl (l' := #[.val (.int w0), .val (.int w1), .val (.int w2), .val (.int w3), .val (.int w4), .val (.int w5), .val (.int nn), .val (.int x0), .val (.int x1), .val (.int x2), .val (.ref b4), .val (.ref b5), .val (.int k3'), .val (.ref b14), .val (.int (((1 : Int32) + (((w0.toUInt32 >>> ((2 : Int32) &&& 31).toUInt32).toInt32) &&& (1 : Int32))) + (((w0.toUInt32 >>> ((3 : Int32) &&& 31).toUInt32).toInt32) &&& (1 : Int32)))), .unset, .unset]) rfl k) ?_
    show Gl _ _ _ _ (T14.setTop (mkF m 146 #[.val (.int w0), .val (.int w1), .val (.int w2), .val (.int w3), .val (.int w4), .val (.int w5), .val (.int nn), .val (.int x0), .val (.int x1), .val (.int x2), .val (.ref b4), .val (.ref b5), .val (.int k3'), .val (.ref b14), .val (.int (((1 : Int32) + (((w0.toUInt32 >>> ((2 : Int32) &&& 31).toUInt32).toInt32) &&& (1 : Int32))) + (((w0.toUInt32 >>> ((3 : Int32) &&& 31).toUInt32).toInt32) &&& (1 : Int32)))), .unset, .unset] []))
    have hpl := own_pl ((w0.toUInt32 >>> ((2 : Int32) &&& 31).toUInt32).toInt32) ((w0.toUInt32 >>> ((3 : Int32) &&& 31).toUInt32).toInt32)
    generalize h_pl : (((1 : Int32) + (((w0.toUInt32 >>> ((2 : Int32) &&& 31).toUInt32).toInt32) &&& (1 : Int32))) + (((w0.toUInt32 >>> ((3 : Int32) &&& 31).toUInt32).toInt32) &&& (1 : Int32))) = pl at hpl ⊢
    show Gl _ _ _ _ (T14.setTop (mkF m 146 #[.val (.int w0), .val (.int w1), .val (.int w2), .val (.int w3), .val (.int w4), .val (.int w5), .val (.int nn), .val (.int x0), .val (.int x1), .val (.int x2), .val (.ref b4), .val (.ref b5), .val (.int k3'), .val (.ref b14), .val (.int pl), .unset, .unset] []))
    refine Gl.go (fun _ k => XS.iload X14.here hx rfl (hb hby at_146) rfl  k) ?_
    show Gl _ _ _ _ (T14.setTop (mkF m 148 #[.val (.int w0), .val (.int w1), .val (.int w2), .val (.int w3), .val (.int w4), .val (.int w5), .val (.int nn), .val (.int x0), .val (.int x1), .val (.int x2), .val (.ref b4), .val (.ref b5), .val (.int k3'), .val (.ref b14), .val (.int pl), .unset, .unset] [(.int pl)]))
    refine Gl.go (fun _ k => XS.bipush X14.here hx rfl (hb hby at_148) k) ?_
    show Gl _ _ _ _ (T14.setTop (mkF m 150 #[.val (.int w0), .val (.int w1), .val (.int w2), .val (.int w3), .val (.int w4), .val (.int w5), .val (.int nn), .val (.int x0), .val (.int x1), .val (.int x2), .val (.ref b4), .val (.ref b5), .val (.int k3'), .val (.ref b14), .val (.int pl), .unset, .unset] [(.int (47 : Int32)), (.int pl)]))
    refine Gl.go (fun _ k => XS.iload X14.here hx rfl (hb hby at_150) rfl  k) ?_
    show Gl _ _ _ _ (T14.setTop (mkF m 152 #[.val (.int w0), .val (.int w1), .val (.int w2), .val (.int w3), .val (.int w4), .val (.int w5), .val (.int nn), .val (.int x0), .val (.int x1), .val (.int x2), .val (.ref b4), .val (.ref b5), .val (.int k3'), .val (.ref b14), .val (.int pl), .unset, .unset] [(.int w4), (.int (47 : Int32)), (.int pl)]))
    obtain ⟨_, _, ⟨T15, L15, k15, n15⟩, -, X15, ⟨Lc15, hQ15, l15, y15, z15⟩, st15⟩ := Jvm.LawKit.callS X14 hx (y := (⟨"com/example/aloud/aloud/PathPatternMatchesNoPathPinLaw", "pick", "(I)B"⟩ : MethodName)) hown (mvT hZ (hw _ (List.mem_of_getElem? (i := 0) rfl))) (mvT hZ (hw _ (List.mem_of_getElem? (i := 1) rfl))) (mvT hZ (hw _ (List.mem_of_getElem? (i := 2) rfl))) (mvT hZ (hw _ (List.mem_of_getElem? (i := 3) rfl))) (by decide) (backOf (W := 2) (rm_pk l Z a0 hw [] w4 T14.heap n0 SZ14 ) hZ (hw _ (List.mem_of_getElem? (i := 3) rfl)) (hw _ (List.mem_of_getElem? (i := 2) rfl)) (by decide) (by decide)) (g := (mkF m 152 #[.val (.int w0), .val (.int w1), .val (.int w2), .val (.int w3), .val (.int w4), .val (.int w5), .val (.int nn), .val (.int x0), .val (.int x1), .val (.int x2), .val (.ref b4), .val (.ref b5), .val (.int k3'), .val (.ref b14), .val (.int pl), .unset, .unset] [(.int w4), (.int (47 : Int32)), (.int pl)])) rfl (by rw [hml]; rfl) (argsL := [(.int w4)]) (rest := [(.int (47 : Int32)), (.int pl)]) (lenOf pd_9 rfl) rfl (by show 2 * 0 + _ ≤ _; exact Nat.le_of_eq rfl) (hb hby at_152) (fun _ _ => ⟨rfl, rfl, (by decide : 3 + 0 ≤ _), (by decide : 12 + 0 ≤ _)⟩)
    dsimp only [Pt.U, Pt.locs, Pt.cells, Pt.slots] at X15 l15 y15 z15 st15 hQ15
    subst l15 y15 z15
    obtain ⟨rfl, Nq15, e15⟩ := hQ15
    have N15 := Fr.app N14 Nq15
    refine Gl.go (fun _ k => st15 _ k) ?_
    show Gl _ _ _ _ (T15.setTop (mkF m 155 #[.val (.int w0), .val (.int w1), .val (.int w2), .val (.int w3), .val (.int w4), .val (.int w5), .val (.int nn), .val (.int x0), .val (.int x1), .val (.int x2), .val (.ref b4), .val (.ref b5), .val (.int k3'), .val (.ref b14), .val (.int pl), .unset, .unset] [(.int (pkV w4)), (.int (47 : Int32)), (.int pl)]))
    generalize h_u1 : (pkV w4) = u1 at ⊢
    show Gl _ _ _ _ (T15.setTop (mkF m 155 #[.val (.int w0), .val (.int w1), .val (.int w2), .val (.int w3), .val (.int w4), .val (.int w5), .val (.int nn), .val (.int x0), .val (.int x1), .val (.int x2), .val (.ref b4), .val (.ref b5), .val (.int k3'), .val (.ref b14), .val (.int pl), .unset, .unset] [(.int u1), (.int (47 : Int32)), (.int pl)]))
    refine Gl.go (fun _ k => XS.iload X15.here hx rfl (hb hby at_155) rfl  k) ?_
    show Gl _ _ _ _ (T15.setTop (mkF m 157 #[.val (.int w0), .val (.int w1), .val (.int w2), .val (.int w3), .val (.int w4), .val (.int w5), .val (.int nn), .val (.int x0), .val (.int x1), .val (.int x2), .val (.ref b4), .val (.ref b5), .val (.int k3'), .val (.ref b14), .val (.int pl), .unset, .unset] [(.int w5), (.int u1), (.int (47 : Int32)), (.int pl)]))
    obtain ⟨_, _, ⟨T16, L16, k16, n16⟩, -, X16, ⟨Lc16, hQ16, l16, y16, z16⟩, st16⟩ := Jvm.LawKit.callS X15 hx (y := (⟨"com/example/aloud/aloud/PathPatternMatchesNoPathPinLaw", "pick", "(I)B"⟩ : MethodName)) hown (mvT hZ (hw _ (List.mem_of_getElem? (i := 0) rfl))) (mvT hZ (hw _ (List.mem_of_getElem? (i := 1) rfl))) (mvT hZ (hw _ (List.mem_of_getElem? (i := 2) rfl))) (mvT hZ (hw _ (List.mem_of_getElem? (i := 3) rfl))) (by decide) (backOf (W := 3) (rm_pk l Z a0 hw [] w5 T14.heap n0 SZ14 ) hZ (hw _ (List.mem_of_getElem? (i := 3) rfl)) (hw _ (List.mem_of_getElem? (i := 2) rfl)) (by decide) (by decide)) (g := (mkF m 157 #[.val (.int w0), .val (.int w1), .val (.int w2), .val (.int w3), .val (.int w4), .val (.int w5), .val (.int nn), .val (.int x0), .val (.int x1), .val (.int x2), .val (.ref b4), .val (.ref b5), .val (.int k3'), .val (.ref b14), .val (.int pl), .unset, .unset] [(.int w5), (.int u1), (.int (47 : Int32)), (.int pl)])) rfl (by rw [hml]; rfl) (argsL := [(.int w5)]) (rest := [(.int u1), (.int (47 : Int32)), (.int pl)]) (lenOf pd_9 rfl) rfl (by show 2 * 0 + _ ≤ _; exact Nat.le_of_eq rfl) (hb hby at_157) (fun _ _ => ⟨rfl, e15, (by decide : 3 + 0 ≤ _), (by decide : 12 + 0 ≤ _)⟩)
    dsimp only [Pt.U, Pt.locs, Pt.cells, Pt.slots] at X16 l16 y16 z16 st16 hQ16
    subst l16 y16 z16
    obtain ⟨rfl, Nq16, e16⟩ := hQ16
    have N16 := Fr.app N15 Nq16
    refine Gl.go (fun _ k => st16 _ k) ?_
    show Gl _ _ _ _ (T16.setTop (mkF m 160 #[.val (.int w0), .val (.int w1), .val (.int w2), .val (.int w3), .val (.int w4), .val (.int w5), .val (.int nn), .val (.int x0), .val (.int x1), .val (.int x2), .val (.ref b4), .val (.ref b5), .val (.int k3'), .val (.ref b14), .val (.int pl), .unset, .unset] [(.int (pkV w5)), (.int u1), (.int (47 : Int32)), (.int pl)]))
    generalize h_u2 : (pkV w5) = u2 at ⊢
    show Gl _ _ _ _ (T16.setTop (mkF m 160 #[.val (.int w0), .val (.int w1), .val (.int w2), .val (.int w3), .val (.int w4), .val (.int w5), .val (.int nn), .val (.int x0), .val (.int x1), .val (.int x2), .val (.ref b4), .val (.ref b5), .val (.int k3'), .val (.ref b14), .val (.int pl), .unset, .unset] [(.int u2), (.int u1), (.int (47 : Int32)), (.int pl)]))
    refine Gl.go (fun _ k => XS.iconst X16.here hx rfl (hb hby at_160) k) ?_
    show Gl _ _ _ _ (T16.setTop (mkF m 161 #[.val (.int w0), .val (.int w1), .val (.int w2), .val (.int w3), .val (.int w4), .val (.int w5), .val (.int nn), .val (.int x0), .val (.int x1), .val (.int x2), .val (.ref b4), .val (.ref b5), .val (.int k3'), .val (.ref b14), .val (.int pl), .unset, .unset] [(.int (0 : Int32)), (.int u2), (.int u1), (.int (47 : Int32)), (.int pl)]))
    obtain ⟨_, _, ⟨T17, L17, k17, n17⟩, -, X17, ⟨Lc17, hQ17, l17, y17, z17⟩, st17⟩ := Jvm.LawKit.callS X16 hx (y := (⟨"com/example/aloud/aloud/PathPatternMatchesNoPathPinLaw", "ofLen", "(IBBBB)[B"⟩ : MethodName)) hown (mvT hZ (hw _ (List.mem_of_getElem? (i := 4) rfl))) (mvT hZ (hw _ (List.mem_of_getElem? (i := 5) rfl))) (mvT hZ (hw _ (List.mem_of_getElem? (i := 2) rfl))) (mvT hZ (hw _ (List.mem_of_getElem? (i := 6) rfl))) (by decide) (backOf (W := 0) (rm_ol l Z a0 hw [] pl (47 : Int32) u1 u2 (0 : Int32) T14.heap n0 SZ14 ) hZ (hw _ (List.mem_of_getElem? (i := 6) rfl)) (hw _ (List.mem_of_getElem? (i := 2) rfl)) (by decide) (by decide)) (g := (mkF m 161 #[.val (.int w0), .val (.int w1), .val (.int w2), .val (.int w3), .val (.int w4), .val (.int w5), .val (.int nn), .val (.int x0), .val (.int x1), .val (.int x2), .val (.ref b4), .val (.ref b5), .val (.int k3'), .val (.ref b14), .val (.int pl), .unset, .unset] [(.int (0 : Int32)), (.int u2), (.int u1), (.int (47 : Int32)), (.int pl)])) rfl (by rw [hml]; rfl) (argsL := [(.int pl), (.int (47 : Int32)), (.int u1), (.int u2), (.int (0 : Int32))]) (rest := []) (lenOf pd_10 rfl) rfl (by show 2 * 0 + _ ≤ _; exact Nat.le_of_eq rfl) (hb hby at_161) (fun _ _ => ⟨rfl, e16, (by decide : 3 + 1 ≤ _), (by decide : 12 + 4 ≤ _)⟩)
    dsimp only [Pt.U, Pt.locs, Pt.cells, Pt.slots] at X17 l17 y17 z17 st17 hQ17
    subst l17 y17 z17
    obtain ⟨b17, rfl, Nq17, Kc17, gz17, kc17, Vc17⟩ := hQ17
    have N17 := Fr.app N16 Nq17
    refine Gl.go (fun _ k => st17 _ k) ?_
    have Ex17 := ext_of_keep Kc17
    have O__17 : Old Z n0 T17.heap := O__14.ext Ex17
    have V_b4_17 : Arv Z T17.heap b4 kc4 .byte (olZ nn) ((olL nn x0 x1 x2 (0 : Int32)).map Value.int) (.int (0 : Int32)) := V_b4_14.ext Ex17
    have V_b5_17 : Arv Z T17.heap b5 cA5 .byte (4 : Int32) (l3.map Value.int) (.int (0 : Int32)) := V_b5_14.ext Ex17
    have V_b14_17 : Arv Z T17.heap b14 kc14 .byte (olZ k3') ((olL k3' (gL l3 (0 : Int32)) (gL l3 (1 : Int32)) (gL l3 (2 : Int32)) (gL l3 (3 : Int32))).map Value.int) (.int (0 : Int32)) := Vc14.ext Ex17
    have SZ17 : n0 ≤ T17.heap.size := Nat.le_trans SZ14 Ex17.1
    have K17 : Keep h0 T17.heap [] := K14.ext Ex17
    show Gl _ _ _ _ (T17.setTop (mkF m 164 #[.val (.int w0), .val (.int w1), .val (.int w2), .val (.int w3), .val (.int w4), .val (.int w5), .val (.int nn), .val (.int x0), .val (.int x1), .val (.int x2), .val (.ref b4), .val (.ref b5), .val (.int k3'), .val (.ref b14), .val (.int pl), .unset, .unset] [(.ref b17)]))
    refine Gl.go (fun _ k => XS.astore X17.here hx rfl (hb hby at_164) rfl rfl (l' := #[.val (.int w0), .val (.int w1), .val (.int w2), .val (.int w3), .val (.int w4), .val (.int w5), .val (.int nn), .val (.int x0), .val (.int x1), .val (.int x2), .val (.ref b4), .val (.ref b5), .val (.int k3'), .val (.ref b14), .val (.int pl), .val (.ref b17), .unset]) rfl k) ?_
    show Gl _ _ _ _ (T17.setTop (mkF m 166 #[.val (.int w0), .val (.int w1), .val (.int w2), .val (.int w3), .val (.int w4), .val (.int w5), .val (.int nn), .val (.int x0), .val (.int x1), .val (.int x2), .val (.ref b4), .val (.ref b5), .val (.int k3'), .val (.ref b14), .val (.int pl), .val (.ref b17), .unset] []))
    refine Gl.go (fun _ k => XS.aload X17.here hx rfl (hb hby at_166) rfl rfl  k) ?_
    show Gl _ _ _ _ (T17.setTop (mkF m 168 #[.val (.int w0), .val (.int w1), .val (.int w2), .val (.int w3), .val (.int w4), .val (.int w5), .val (.int nn), .val (.int x0), .val (.int x1), .val (.int x2), .val (.ref b4), .val (.ref b5), .val (.int k3'), .val (.ref b14), .val (.int pl), .val (.ref b17), .unset] [(.ref b4)]))
    obtain ⟨_, _, ⟨T18, L18, k18, n18⟩, -, X18, ⟨Lc18, hQ18, l18, y18, z18⟩, st18⟩ := Jvm.LawKit.callS X17 hx (y := (⟨"com/example/aloud/aloud/PathPattern", "matchesNoPath", "([B)Z"⟩ : MethodName)) hown (mvT hZ (hw _ (List.mem_of_getElem? (i := 11) rfl))) (mvT hZ (hw _ (List.mem_of_getElem? (i := 12) rfl))) (mvT hZ (hw _ (List.mem_of_getElem? (i := 13) rfl))) (mvT hZ (hw _ (List.mem_of_getElem? (i := 14) rfl))) (by decide) (backOf (W := 0) (rm_np l Z a0 hw [] b4 kc4 (olZ nn) (olL nn x0 x1 x2 (0 : Int32)) rR kR T17.heap n0 SZ17 V_b4_17 (own_olZ nn) (SR.ext O__17.2) (VR.ext O__17.2)) hZ (hw _ (List.mem_of_getElem? (i := 14) rfl)) (hw _ (List.mem_of_getElem? (i := 13) rfl)) (by decide) (by decide)) (g := (mkF m 168 #[.val (.int w0), .val (.int w1), .val (.int w2), .val (.int w3), .val (.int w4), .val (.int w5), .val (.int nn), .val (.int x0), .val (.int x1), .val (.int x2), .val (.ref b4), .val (.ref b5), .val (.int k3'), .val (.ref b14), .val (.int pl), .val (.ref b17), .unset] [(.ref b4)])) rfl (by rw [hml]; rfl) (argsL := [(.ref b4)]) (rest := []) (lenOf pd_12 rfl) rfl (by show 2 * 0 + _ ≤ _; exact Nat.le_of_eq rfl) (hb hby at_168) (fun _ _ => ⟨rfl, rfl, (by decide : 4 + 0 ≤ _), (by decide : 16 + 0 ≤ _)⟩)
    dsimp only [Pt.U, Pt.locs, Pt.cells, Pt.slots] at X18 l18 y18 z18 st18 hQ18
    subst l18 y18 z18
    obtain ⟨rfl, Nq18, e18⟩ := hQ18
    have N18 := Fr.app N17 Nq18
    refine Gl.go (fun _ k => st18 _ k) ?_
    show Gl _ _ _ _ (T18.setTop (mkF m 171 #[.val (.int w0), .val (.int w1), .val (.int w2), .val (.int w3), .val (.int w4), .val (.int w5), .val (.int nn), .val (.int x0), .val (.int x1), .val (.int x2), .val (.ref b4), .val (.ref b5), .val (.int k3'), .val (.ref b14), .val (.int pl), .val (.ref b17), .unset] [(.int (npV (olZ nn) (gL (olL nn x0 x1 x2 (0 : Int32)))))]))
    refine Gl.go (fun _ k => XS.istore X18.here hx rfl (hb hby at_171) rfl (l' := #[.val (.int w0), .val (.int w1), .val (.int w2), .val (.int w3), .val (.int w4), .val (.int w5), .val (.int nn), .val (.int x0), .val (.int x1), .val (.int x2), .val (.ref b4), .val (.ref b5), .val (.int k3'), .val (.ref b14), .val (.int pl), .val (.ref b17), .val (.int (npV (olZ nn) (gL (olL nn x0 x1 x2 (0 : Int32)))))]) rfl k) ?_
    show Gl _ _ _ _ (T18.setTop (mkF m 173 #[.val (.int w0), .val (.int w1), .val (.int w2), .val (.int w3), .val (.int w4), .val (.int w5), .val (.int nn), .val (.int x0), .val (.int x1), .val (.int x2), .val (.ref b4), .val (.ref b5), .val (.int k3'), .val (.ref b14), .val (.int pl), .val (.ref b17), .val (.int (npV (olZ nn) (gL (olL nn x0 x1 x2 (0 : Int32)))))] []))
    refine Gl.go (fun _ k => XS.iload X18.here hx rfl (hb hby at_173) rfl  k) ?_
    show Gl _ _ _ _ (T18.setTop (mkF m 175 #[.val (.int w0), .val (.int w1), .val (.int w2), .val (.int w3), .val (.int w4), .val (.int w5), .val (.int nn), .val (.int x0), .val (.int x1), .val (.int x2), .val (.ref b4), .val (.ref b5), .val (.int k3'), .val (.ref b14), .val (.int pl), .val (.ref b17), .val (.int (npV (olZ nn) (gL (olL nn x0 x1 x2 (0 : Int32)))))] [(.int (npV (olZ nn) (gL (olL nn x0 x1 x2 (0 : Int32)))))]))
    by_cases hN : (npV (olZ nn) (gL (olL nn x0 x1 x2 (0 : Int32)))) = (0 : Int32)
    · skip
      refine Gl.go (fun _ k => XS.ifYes X18.here hx rfl (pc0 := 175) (pc' := 204) rfl (hb hby at_175) rfl ((if0 _ _).trans (teq hN).1) (by decide) (by decide) k) ?_
      show Gl _ _ _ _ (T18.setTop (mkF m 204 #[.val (.int w0), .val (.int w1), .val (.int w2), .val (.int w3), .val (.int w4), .val (.int w5), .val (.int nn), .val (.int x0), .val (.int x1), .val (.int x2), .val (.ref b4), .val (.ref b5), .val (.int k3'), .val (.ref b14), .val (.int pl), .val (.ref b17), .val (.int (npV (olZ nn) (gL (olL nn x0 x1 x2 (0 : Int32)))))] []))
      refine Gl.go (fun _ k => XS.aload X18.here hx rfl (hb hby at_204) rfl rfl  k) ?_
      show Gl _ _ _ _ (T18.setTop (mkF m 206 #[.val (.int w0), .val (.int w1), .val (.int w2), .val (.int w3), .val (.int w4), .val (.int w5), .val (.int nn), .val (.int x0), .val (.int x1), .val (.int x2), .val (.ref b4), .val (.ref b5), .val (.int k3'), .val (.ref b14), .val (.int pl), .val (.ref b17), .val (.int (npV (olZ nn) (gL (olL nn x0 x1 x2 (0 : Int32)))))] [(.ref b4)]))
      refine Gl.go (fun _ k => XS.aload X18.here hx rfl (hb hby at_206) rfl rfl  k) ?_
      show Gl _ _ _ _ (T18.setTop (mkF m 208 #[.val (.int w0), .val (.int w1), .val (.int w2), .val (.int w3), .val (.int w4), .val (.int w5), .val (.int nn), .val (.int x0), .val (.int x1), .val (.int x2), .val (.ref b4), .val (.ref b5), .val (.int k3'), .val (.ref b14), .val (.int pl), .val (.ref b17), .val (.int (npV (olZ nn) (gL (olL nn x0 x1 x2 (0 : Int32)))))] [(.ref b14), (.ref b4)]))
      obtain ⟨_, _, ⟨T19, L19, k19, n19⟩, -, X19, ⟨Lc19, hQ19, l19, y19, z19⟩, st19⟩ := Jvm.LawKit.callS X18 hx (y := (⟨"com/example/aloud/aloud/PathPattern", "matches", "([B[B)Z"⟩ : MethodName)) hown (mvT hZ (hw _ (List.mem_of_getElem? (i := 15) rfl))) (mvT hZ (hw _ (List.mem_of_getElem? (i := 16) rfl))) (mvT hZ (hw _ (List.mem_of_getElem? (i := 13) rfl))) (mvT hZ (hw _ (List.mem_of_getElem? (i := 17) rfl))) (by decide) (backOf (W := 0) (rm_ma l Z a0 hw [] b4 kc4 (olZ nn) (olL nn x0 x1 x2 (0 : Int32)) b14 kc14 (olZ k3') (olL k3' (gL l3 (0 : Int32)) (gL l3 (1 : Int32)) (gL l3 (2 : Int32)) (gL l3 (3 : Int32))) T17.heap n0 SZ17 V_b4_17 (own_olZ nn) V_b14_17 (own_olZ k3')) hZ (hw _ (List.mem_of_getElem? (i := 17) rfl)) (hw _ (List.mem_of_getElem? (i := 13) rfl)) (by decide) (by decide)) (g := (mkF m 208 #[.val (.int w0), .val (.int w1), .val (.int w2), .val (.int w3), .val (.int w4), .val (.int w5), .val (.int nn), .val (.int x0), .val (.int x1), .val (.int x2), .val (.ref b4), .val (.ref b5), .val (.int k3'), .val (.ref b14), .val (.int pl), .val (.ref b17), .val (.int (npV (olZ nn) (gL (olL nn x0 x1 x2 (0 : Int32)))))] [(.ref b14), (.ref b4)])) rfl (by rw [hml]; rfl) (argsL := [(.ref b4), (.ref b14)]) (rest := []) (lenOf pd_13 rfl) rfl (by show 2 * 0 + _ ≤ _; exact Nat.le_of_eq rfl) (hb hby at_208) (fun _ _ => ⟨rfl, e18, (by decide : 4 + 0 ≤ _), (by decide : 16 + 0 ≤ _)⟩)
      dsimp only [Pt.U, Pt.locs, Pt.cells, Pt.slots] at X19 l19 y19 z19 st19 hQ19
      subst l19 y19 z19
      obtain ⟨rfl, Nq19, e19⟩ := hQ19
      have N19 := Fr.app N18 Nq19
      refine Gl.go (fun _ k => st19 _ k) ?_
      show Gl _ _ _ _ (T19.setTop (mkF m 211 #[.val (.int w0), .val (.int w1), .val (.int w2), .val (.int w3), .val (.int w4), .val (.int w5), .val (.int nn), .val (.int x0), .val (.int x1), .val (.int x2), .val (.ref b4), .val (.ref b5), .val (.int k3'), .val (.ref b14), .val (.int pl), .val (.ref b17), .val (.int (npV (olZ nn) (gL (olL nn x0 x1 x2 (0 : Int32)))))] [(.int (maV (olZ nn) (gL (olL nn x0 x1 x2 (0 : Int32))) (olZ k3') (gL (olL k3' (gL l3 (0 : Int32)) (gL l3 (1 : Int32)) (gL l3 (2 : Int32)) (gL l3 (3 : Int32))))))]))
      refine leafN X19 hx hlk (t := .boolean) Bd.returns (by simp) (hb hby at_211) ?_ (by decide) (by decide)
      exact ⟨by rw [own_l2 h_k1' h_l1 h_k2' h_l2 h_k3' h_l3 (Or.inl ⟨hA, rfl, by rw [← h_l0, nb47]⟩) hn4 hb0 hb1 hb2 hN, nar1], N19⟩
    · skip
      refine Gl.go (fun _ k => XS.ifNo X18.here hx rfl (hb hby at_175) rfl ((if0 _ _).trans (feq hN).1) k) ?_
      show Gl _ _ _ _ (T18.setTop (mkF m 178 #[.val (.int w0), .val (.int w1), .val (.int w2), .val (.int w3), .val (.int w4), .val (.int w5), .val (.int nn), .val (.int x0), .val (.int x1), .val (.int x2), .val (.ref b4), .val (.ref b5), .val (.int k3'), .val (.ref b14), .val (.int pl), .val (.ref b17), .val (.int (npV (olZ nn) (gL (olL nn x0 x1 x2 (0 : Int32)))))] []))
      exact absurd (own_npA hA) hN
  · skip
    refine Gl.go (fun _ k => XS.ifNo X5.here hx rfl (hb hby at_47) rfl ((if0 _ _).trans (feq hA).1) k) ?_
    show Gl _ _ _ _ (T5.setTop (mkF m 50 #[.val (.int w0), .val (.int w1), .val (.int w2), .val (.int w3), .val (.int w4), .val (.int w5), .val (.int nn), .val (.int x0), .val (.int x1), .val (.int x2), .val (.ref b4), .val (.ref b5), .val (.int (0 : Int32)), .unset, .unset, .unset, .unset] []))
    refine Gl.go (fun _ k => XS.iload X5.here hx rfl (hb hby at_50) rfl  k) ?_
    show Gl _ _ _ _ (T5.setTop (mkF m 52 #[.val (.int w0), .val (.int w1), .val (.int w2), .val (.int w3), .val (.int w4), .val (.int w5), .val (.int nn), .val (.int x0), .val (.int x1), .val (.int x2), .val (.ref b4), .val (.ref b5), .val (.int (0 : Int32)), .unset, .unset, .unset, .unset] [(.int x0)]))
    refine Gl.go (fun _ k => XS.bipush X5.here hx rfl (hb hby at_52) k) ?_
    show Gl _ _ _ _ (T5.setTop (mkF m 54 #[.val (.int w0), .val (.int w1), .val (.int w2), .val (.int w3), .val (.int w4), .val (.int w5), .val (.int nn), .val (.int x0), .val (.int x1), .val (.int x2), .val (.ref b4), .val (.ref b5), .val (.int (0 : Int32)), .unset, .unset, .unset, .unset] [(.int (47 : Int32)), (.int x0)]))
    by_cases hB : x0 = (47 : Int32)
    · skip
      refine Gl.go (fun _ k => XS.icmpYes X5.here hx rfl (pc0 := 54) (pc' := 66) rfl (hb hby at_54) rfl (teq hB).1 (by decide) (by decide) k) ?_
      show Gl _ _ _ _ (T5.setTop (mkF m 66 #[.val (.int w0), .val (.int w1), .val (.int w2), .val (.int w3), .val (.int w4), .val (.int w5), .val (.int nn), .val (.int x0), .val (.int x1), .val (.int x2), .val (.ref b4), .val (.ref b5), .val (.int (0 : Int32)), .unset, .unset, .unset, .unset] []))
      have VB : Arv Z h5 b5 cA5 .byte (4 : Int32) (([(0 : Int32), (0 : Int32), (0 : Int32), (0 : Int32)] : List Int32).map Value.int) (.int (0 : Int32)) := V_b5_5
      have hlen0 : ([(0 : Int32), (0 : Int32), (0 : Int32), (0 : Int32)] : List Int32).length = 4 := rfl
      have hk0 : 0 ≤ ((0 : Int32) : Int32).toInt ∧ ((0 : Int32) : Int32).toInt ≤ 1 := ⟨by decide, by decide⟩
      obtain ⟨l0, h_l0⟩ : ∃ q : List Int32, [(0 : Int32), (0 : Int32), (0 : Int32), (0 : Int32)] = q := ⟨_, rfl⟩
      rw [h_l0] at VB hlen0
      refine Gl.go (fun _ k => XS.aload X5.here hx rfl (hb hby at_66) rfl rfl  k) ?_
      show Gl _ _ _ _ (T5.setTop (mkF m 68 #[.val (.int w0), .val (.int w1), .val (.int w2), .val (.int w3), .val (.int w4), .val (.int w5), .val (.int nn), .val (.int x0), .val (.int x1), .val (.int x2), .val (.ref b4), .val (.ref b5), .val (.int (0 : Int32)), .unset, .unset, .unset, .unset] [(.ref b5)]))
      refine Gl.go (fun _ k => XS.iload X5.here hx rfl (hb hby at_68) rfl  k) ?_
      show Gl _ _ _ _ (T5.setTop (mkF m 70 #[.val (.int w0), .val (.int w1), .val (.int w2), .val (.int w3), .val (.int w4), .val (.int w5), .val (.int nn), .val (.int x0), .val (.int x1), .val (.int x2), .val (.ref b4), .val (.ref b5), .val (.int (0 : Int32)), .unset, .unset, .unset, .unset] [(.int (0 : Int32)), (.ref b5)]))
      refine Gl.go (fun _ k => XS.iload X5.here hx rfl (hb hby at_70) rfl  k) ?_
      show Gl _ _ _ _ (T5.setTop (mkF m 72 #[.val (.int w0), .val (.int w1), .val (.int w2), .val (.int w3), .val (.int w4), .val (.int w5), .val (.int nn), .val (.int x0), .val (.int x1), .val (.int x2), .val (.ref b4), .val (.ref b5), .val (.int (0 : Int32)), .unset, .unset, .unset, .unset] [(.int x0), (.int (0 : Int32)), (.ref b5)]))
      refine Gl.go (fun _ k => XS.iconst X5.here hx rfl (hb hby at_72) k) ?_
      show Gl _ _ _ _ (T5.setTop (mkF m 73 #[.val (.int w0), .val (.int w1), .val (.int w2), .val (.int w3), .val (.int w4), .val (.int w5), .val (.int nn), .val (.int x0), .val (.int x1), .val (.int x2), .val (.ref b4), .val (.ref b5), .val (.int (0 : Int32)), .unset, .unset, .unset, .unset] [(.int (0 : Int32)), (.int x0), (.int (0 : Int32)), (.ref b5)]))
      refine Gl.go (fun _ k => XS.iload X5.here hx rfl (hb hby at_73) rfl  k) ?_
      show Gl _ _ _ _ (T5.setTop (mkF m 75 #[.val (.int w0), .val (.int w1), .val (.int w2), .val (.int w3), .val (.int w4), .val (.int w5), .val (.int nn), .val (.int x0), .val (.int x1), .val (.int x2), .val (.ref b4), .val (.ref b5), .val (.int (0 : Int32)), .unset, .unset, .unset, .unset] [(.int nn), (.int (0 : Int32)), (.int x0), (.int (0 : Int32)), (.ref b5)]))
      obtain ⟨_, _, ⟨T20, L20, k20, n20⟩, -, X20, ⟨Lc20, hQ20, l20, y20, z20⟩, st20⟩ := Jvm.LawKit.callS X5 hx (y := (⟨"com/example/aloud/aloud/PathPatternMatchesNoPathPinLaw", "add", "([BIBII)I"⟩ : MethodName)) hown (mvT hZ (hw _ (List.mem_of_getElem? (i := 8) rfl))) (mvT hZ (hw _ (List.mem_of_getElem? (i := 9) rfl))) (mvT hZ (hw _ (List.mem_of_getElem? (i := 2) rfl))) (mvT hZ (hw _ (List.mem_of_getElem? (i := 10) rfl))) (by decide) (backOf (W := 0) (rm_ad l Z a0 hw [] b5 cA5 l0 (0 : Int32) x0 (0 : Int32) nn h5 n0 SZ5 VB hlen0 (o_kb0 hk0) g_b5) hZ (hw _ (List.mem_of_getElem? (i := 10) rfl)) (hw _ (List.mem_of_getElem? (i := 2) rfl)) (by decide) (by decide)) (g := (mkF m 75 #[.val (.int w0), .val (.int w1), .val (.int w2), .val (.int w3), .val (.int w4), .val (.int w5), .val (.int nn), .val (.int x0), .val (.int x1), .val (.int x2), .val (.ref b4), .val (.ref b5), .val (.int (0 : Int32)), .unset, .unset, .unset, .unset] [(.int nn), (.int (0 : Int32)), (.int x0), (.int (0 : Int32)), (.ref b5)])) rfl (by rw [hml]; rfl) (argsL := [(.ref b5), (.int (0 : Int32)), (.int x0), (.int (0 : Int32)), (.int nn)]) (rest := []) (lenOf pd_11 rfl) rfl (by show 2 * 0 + _ ≤ _; exact Nat.le_of_eq rfl) (hb hby at_75) (fun _ _ => ⟨rfl, e5, (by decide : 2 + 0 ≤ _), (by decide : 8 + 0 ≤ _)⟩)
      dsimp only [Pt.U, Pt.locs, Pt.cells, Pt.slots] at X20 l20 y20 z20 st20 hQ20
      subst l20 y20 z20
      obtain ⟨rfl, Nq20, Kc20, Vc20⟩ := hQ20
      have N20 := Fr.app N4 Nq20
      refine Gl.go (fun _ k => st20 _ k) ?_
      have O__20 : Old Z n0 T20.heap := O__5.keep Kc20 (allS g_b5 all0)
      have V_b4_20 : Arv Z T20.heap b4 kc4 .byte (olZ nn) ((olL nn x0 x1 x2 (0 : Int32)).map Value.int) (.int (0 : Int32)) := V_b4_5.keep Kc20 (ninS ne_b4_b5 nin0)
      have SZ20 : n0 ≤ T20.heap.size := Nat.le_trans SZ5 Kc20.1
      have K20 : Keep h0 T20.heap [] := K5.trans Kc20 (allS (Or.inr sz_b5) all0)
      show Gl _ _ _ _ (T20.setTop (mkF m 78 #[.val (.int w0), .val (.int w1), .val (.int w2), .val (.int w3), .val (.int w4), .val (.int w5), .val (.int nn), .val (.int x0), .val (.int x1), .val (.int x2), .val (.ref b4), .val (.ref b5), .val (.int (0 : Int32)), .unset, .unset, .unset, .unset] [(.int (adK (0 : Int32) x0 (0 : Int32) nn))]))
      have hk1 := own_adK (k := (0 : Int32)) (y := x0) (i := (0 : Int32)) (n := nn) (o_kb0 hk0)
      have hlen1 := (own_adLen l0 (0 : Int32) x0 (0 : Int32) nn).trans hlen0
      have hz1 := own_ad0 (l := l0) (k := (0 : Int32)) (y := x0) (i := (0 : Int32)) (n := nn)
      generalize h_k1' : (adK (0 : Int32) x0 (0 : Int32) nn) = k1' at hk1 ⊢
      show Gl _ _ _ _ (T20.setTop (mkF m 78 #[.val (.int w0), .val (.int w1), .val (.int w2), .val (.int w3), .val (.int w4), .val (.int w5), .val (.int nn), .val (.int x0), .val (.int x1), .val (.int x2), .val (.ref b4), .val (.ref b5), .val (.int (0 : Int32)), .unset, .unset, .unset, .unset] [(.int k1')]))
      generalize h_l1 : (adL l0 (0 : Int32) x0 (0 : Int32) nn) = l1 at Vc20 hlen1 hz1
      have hkr1 := hk1
      have hk1 := o_kt0 hk0 hkr1
      refine Gl.go (fun _ k => XS.istore X20.here hx rfl (hb hby at_78) rfl (l' := #[.val (.int w0), .val (.int w1), .val (.int w2), .val (.int w3), .val (.int w4), .val (.int w5), .val (.int nn), .val (.int x0), .val (.int x1), .val (.int x2), .val (.ref b4), .val (.ref b5), .val (.int k1'), .unset, .unset, .unset, .unset]) rfl k) ?_
      show Gl _ _ _ _ (T20.setTop (mkF m 80 #[.val (.int w0), .val (.int w1), .val (.int w2), .val (.int w3), .val (.int w4), .val (.int w5), .val (.int nn), .val (.int x0), .val (.int x1), .val (.int x2), .val (.ref b4), .val (.ref b5), .val (.int k1'), .unset, .unset, .unset, .unset] []))
      refine Gl.go (fun _ k => XS.aload X20.here hx rfl (hb hby at_80) rfl rfl  k) ?_
      show Gl _ _ _ _ (T20.setTop (mkF m 82 #[.val (.int w0), .val (.int w1), .val (.int w2), .val (.int w3), .val (.int w4), .val (.int w5), .val (.int nn), .val (.int x0), .val (.int x1), .val (.int x2), .val (.ref b4), .val (.ref b5), .val (.int k1'), .unset, .unset, .unset, .unset] [(.ref b5)]))
      refine Gl.go (fun _ k => XS.iload X20.here hx rfl (hb hby at_82) rfl  k) ?_
      show Gl _ _ _ _ (T20.setTop (mkF m 84 #[.val (.int w0), .val (.int w1), .val (.int w2), .val (.int w3), .val (.int w4), .val (.int w5), .val (.int nn), .val (.int x0), .val (.int x1), .val (.int x2), .val (.ref b4), .val (.ref b5), .val (.int k1'), .unset, .unset, .unset, .unset] [(.int k1'), (.ref b5)]))
      refine Gl.go (fun _ k => XS.iload X20.here hx rfl (hb hby at_84) rfl  k) ?_
      show Gl _ _ _ _ (T20.setTop (mkF m 86 #[.val (.int w0), .val (.int w1), .val (.int w2), .val (.int w3), .val (.int w4), .val (.int w5), .val (.int nn), .val (.int x0), .val (.int x1), .val (.int x2), .val (.ref b4), .val (.ref b5), .val (.int k1'), .unset, .unset, .unset, .unset] [(.int x1), (.int k1'), (.ref b5)]))
      refine Gl.go (fun _ k => XS.iconst X20.here hx rfl (hb hby at_86) k) ?_
      show Gl _ _ _ _ (T20.setTop (mkF m 87 #[.val (.int w0), .val (.int w1), .val (.int w2), .val (.int w3), .val (.int w4), .val (.int w5), .val (.int nn), .val (.int x0), .val (.int x1), .val (.int x2), .val (.ref b4), .val (.ref b5), .val (.int k1'), .unset, .unset, .unset, .unset] [(.int (1 : Int32)), (.int x1), (.int k1'), (.ref b5)]))
      refine Gl.go (fun _ k => XS.iload X20.here hx rfl (hb hby at_87) rfl  k) ?_
      show Gl _ _ _ _ (T20.setTop (mkF m 89 #[.val (.int w0), .val (.int w1), .val (.int w2), .val (.int w3), .val (.int w4), .val (.int w5), .val (.int nn), .val (.int x0), .val (.int x1), .val (.int x2), .val (.ref b4), .val (.ref b5), .val (.int k1'), .unset, .unset, .unset, .unset] [(.int nn), (.int (1 : Int32)), (.int x1), (.int k1'), (.ref b5)]))
      obtain ⟨_, _, ⟨T21, L21, k21, n21⟩, -, X21, ⟨Lc21, hQ21, l21, y21, z21⟩, st21⟩ := Jvm.LawKit.callS X20 hx (y := (⟨"com/example/aloud/aloud/PathPatternMatchesNoPathPinLaw", "add", "([BIBII)I"⟩ : MethodName)) hown (mvT hZ (hw _ (List.mem_of_getElem? (i := 8) rfl))) (mvT hZ (hw _ (List.mem_of_getElem? (i := 9) rfl))) (mvT hZ (hw _ (List.mem_of_getElem? (i := 2) rfl))) (mvT hZ (hw _ (List.mem_of_getElem? (i := 10) rfl))) (by decide) (backOf (W := 0) (rm_ad l Z a0 hw [] b5 cA5 l1 k1' x1 (1 : Int32) nn T20.heap n0 SZ20 Vc20 hlen1 (o_kb1 hk1) g_b5) hZ (hw _ (List.mem_of_getElem? (i := 10) rfl)) (hw _ (List.mem_of_getElem? (i := 2) rfl)) (by decide) (by decide)) (g := (mkF m 89 #[.val (.int w0), .val (.int w1), .val (.int w2), .val (.int w3), .val (.int w4), .val (.int w5), .val (.int nn), .val (.int x0), .val (.int x1), .val (.int x2), .val (.ref b4), .val (.ref b5), .val (.int k1'), .unset, .unset, .unset, .unset] [(.int nn), (.int (1 : Int32)), (.int x1), (.int k1'), (.ref b5)])) rfl (by rw [hml]; rfl) (argsL := [(.ref b5), (.int k1'), (.int x1), (.int (1 : Int32)), (.int nn)]) (rest := []) (lenOf pd_11 rfl) rfl (by show 2 * 0 + _ ≤ _; exact Nat.le_of_eq rfl) (hb hby at_89) (fun _ _ => ⟨rfl, rfl, (by decide : 2 + 0 ≤ _), (by decide : 8 + 0 ≤ _)⟩)
      dsimp only [Pt.U, Pt.locs, Pt.cells, Pt.slots] at X21 l21 y21 z21 st21 hQ21
      subst l21 y21 z21
      obtain ⟨rfl, Nq21, Kc21, Vc21⟩ := hQ21
      have N21 := Fr.app N20 Nq21
      refine Gl.go (fun _ k => st21 _ k) ?_
      have O__21 : Old Z n0 T21.heap := O__20.keep Kc21 (allS g_b5 all0)
      have V_b4_21 : Arv Z T21.heap b4 kc4 .byte (olZ nn) ((olL nn x0 x1 x2 (0 : Int32)).map Value.int) (.int (0 : Int32)) := V_b4_20.keep Kc21 (ninS ne_b4_b5 nin0)
      have SZ21 : n0 ≤ T21.heap.size := Nat.le_trans SZ20 Kc21.1
      have K21 : Keep h0 T21.heap [] := K20.trans Kc21 (allS (Or.inr sz_b5) all0)
      show Gl _ _ _ _ (T21.setTop (mkF m 92 #[.val (.int w0), .val (.int w1), .val (.int w2), .val (.int w3), .val (.int w4), .val (.int w5), .val (.int nn), .val (.int x0), .val (.int x1), .val (.int x2), .val (.ref b4), .val (.ref b5), .val (.int k1'), .unset, .unset, .unset, .unset] [(.int (adK k1' x1 (1 : Int32) nn))]))
      have hk2 := own_adK (k := k1') (y := x1) (i := (1 : Int32)) (n := nn) (o_kb1 hk1)
      have hlen2 := (own_adLen l1 k1' x1 (1 : Int32) nn).trans hlen1
      have hz2 := own_ad0 (l := l1) (k := k1') (y := x1) (i := (1 : Int32)) (n := nn)
      generalize h_k2' : (adK k1' x1 (1 : Int32) nn) = k2' at hk2 ⊢
      show Gl _ _ _ _ (T21.setTop (mkF m 92 #[.val (.int w0), .val (.int w1), .val (.int w2), .val (.int w3), .val (.int w4), .val (.int w5), .val (.int nn), .val (.int x0), .val (.int x1), .val (.int x2), .val (.ref b4), .val (.ref b5), .val (.int k1'), .unset, .unset, .unset, .unset] [(.int k2')]))
      generalize h_l2 : (adL l1 k1' x1 (1 : Int32) nn) = l2 at Vc21 hlen2 hz2
      have hkr2 := hk2
      have hk2 := o_kt1 hk1 hkr2
      refine Gl.go (fun _ k => XS.istore X21.here hx rfl (hb hby at_92) rfl (l' := #[.val (.int w0), .val (.int w1), .val (.int w2), .val (.int w3), .val (.int w4), .val (.int w5), .val (.int nn), .val (.int x0), .val (.int x1), .val (.int x2), .val (.ref b4), .val (.ref b5), .val (.int k2'), .unset, .unset, .unset, .unset]) rfl k) ?_
      show Gl _ _ _ _ (T21.setTop (mkF m 94 #[.val (.int w0), .val (.int w1), .val (.int w2), .val (.int w3), .val (.int w4), .val (.int w5), .val (.int nn), .val (.int x0), .val (.int x1), .val (.int x2), .val (.ref b4), .val (.ref b5), .val (.int k2'), .unset, .unset, .unset, .unset] []))
      refine Gl.go (fun _ k => XS.aload X21.here hx rfl (hb hby at_94) rfl rfl  k) ?_
      show Gl _ _ _ _ (T21.setTop (mkF m 96 #[.val (.int w0), .val (.int w1), .val (.int w2), .val (.int w3), .val (.int w4), .val (.int w5), .val (.int nn), .val (.int x0), .val (.int x1), .val (.int x2), .val (.ref b4), .val (.ref b5), .val (.int k2'), .unset, .unset, .unset, .unset] [(.ref b5)]))
      refine Gl.go (fun _ k => XS.iload X21.here hx rfl (hb hby at_96) rfl  k) ?_
      show Gl _ _ _ _ (T21.setTop (mkF m 98 #[.val (.int w0), .val (.int w1), .val (.int w2), .val (.int w3), .val (.int w4), .val (.int w5), .val (.int nn), .val (.int x0), .val (.int x1), .val (.int x2), .val (.ref b4), .val (.ref b5), .val (.int k2'), .unset, .unset, .unset, .unset] [(.int k2'), (.ref b5)]))
      refine Gl.go (fun _ k => XS.iload X21.here hx rfl (hb hby at_98) rfl  k) ?_
      show Gl _ _ _ _ (T21.setTop (mkF m 100 #[.val (.int w0), .val (.int w1), .val (.int w2), .val (.int w3), .val (.int w4), .val (.int w5), .val (.int nn), .val (.int x0), .val (.int x1), .val (.int x2), .val (.ref b4), .val (.ref b5), .val (.int k2'), .unset, .unset, .unset, .unset] [(.int x2), (.int k2'), (.ref b5)]))
      refine Gl.go (fun _ k => XS.iconst X21.here hx rfl (hb hby at_100) k) ?_
      show Gl _ _ _ _ (T21.setTop (mkF m 101 #[.val (.int w0), .val (.int w1), .val (.int w2), .val (.int w3), .val (.int w4), .val (.int w5), .val (.int nn), .val (.int x0), .val (.int x1), .val (.int x2), .val (.ref b4), .val (.ref b5), .val (.int k2'), .unset, .unset, .unset, .unset] [(.int (2 : Int32)), (.int x2), (.int k2'), (.ref b5)]))
      refine Gl.go (fun _ k => XS.iload X21.here hx rfl (hb hby at_101) rfl  k) ?_
      show Gl _ _ _ _ (T21.setTop (mkF m 103 #[.val (.int w0), .val (.int w1), .val (.int w2), .val (.int w3), .val (.int w4), .val (.int w5), .val (.int nn), .val (.int x0), .val (.int x1), .val (.int x2), .val (.ref b4), .val (.ref b5), .val (.int k2'), .unset, .unset, .unset, .unset] [(.int nn), (.int (2 : Int32)), (.int x2), (.int k2'), (.ref b5)]))
      obtain ⟨_, _, ⟨T22, L22, k22, n22⟩, -, X22, ⟨Lc22, hQ22, l22, y22, z22⟩, st22⟩ := Jvm.LawKit.callS X21 hx (y := (⟨"com/example/aloud/aloud/PathPatternMatchesNoPathPinLaw", "add", "([BIBII)I"⟩ : MethodName)) hown (mvT hZ (hw _ (List.mem_of_getElem? (i := 8) rfl))) (mvT hZ (hw _ (List.mem_of_getElem? (i := 9) rfl))) (mvT hZ (hw _ (List.mem_of_getElem? (i := 2) rfl))) (mvT hZ (hw _ (List.mem_of_getElem? (i := 10) rfl))) (by decide) (backOf (W := 0) (rm_ad l Z a0 hw [] b5 cA5 l2 k2' x2 (2 : Int32) nn T21.heap n0 SZ21 Vc21 hlen2 (o_kb2 hk2) g_b5) hZ (hw _ (List.mem_of_getElem? (i := 10) rfl)) (hw _ (List.mem_of_getElem? (i := 2) rfl)) (by decide) (by decide)) (g := (mkF m 103 #[.val (.int w0), .val (.int w1), .val (.int w2), .val (.int w3), .val (.int w4), .val (.int w5), .val (.int nn), .val (.int x0), .val (.int x1), .val (.int x2), .val (.ref b4), .val (.ref b5), .val (.int k2'), .unset, .unset, .unset, .unset] [(.int nn), (.int (2 : Int32)), (.int x2), (.int k2'), (.ref b5)])) rfl (by rw [hml]; rfl) (argsL := [(.ref b5), (.int k2'), (.int x2), (.int (2 : Int32)), (.int nn)]) (rest := []) (lenOf pd_11 rfl) rfl (by show 2 * 0 + _ ≤ _; exact Nat.le_of_eq rfl) (hb hby at_103) (fun _ _ => ⟨rfl, rfl, (by decide : 2 + 0 ≤ _), (by decide : 8 + 0 ≤ _)⟩)
      dsimp only [Pt.U, Pt.locs, Pt.cells, Pt.slots] at X22 l22 y22 z22 st22 hQ22
      subst l22 y22 z22
      obtain ⟨rfl, Nq22, Kc22, Vc22⟩ := hQ22
      have N22 := Fr.app N21 Nq22
      refine Gl.go (fun _ k => st22 _ k) ?_
      have O__22 : Old Z n0 T22.heap := O__21.keep Kc22 (allS g_b5 all0)
      have V_b4_22 : Arv Z T22.heap b4 kc4 .byte (olZ nn) ((olL nn x0 x1 x2 (0 : Int32)).map Value.int) (.int (0 : Int32)) := V_b4_21.keep Kc22 (ninS ne_b4_b5 nin0)
      have SZ22 : n0 ≤ T22.heap.size := Nat.le_trans SZ21 Kc22.1
      have K22 : Keep h0 T22.heap [] := K21.trans Kc22 (allS (Or.inr sz_b5) all0)
      show Gl _ _ _ _ (T22.setTop (mkF m 106 #[.val (.int w0), .val (.int w1), .val (.int w2), .val (.int w3), .val (.int w4), .val (.int w5), .val (.int nn), .val (.int x0), .val (.int x1), .val (.int x2), .val (.ref b4), .val (.ref b5), .val (.int k2'), .unset, .unset, .unset, .unset] [(.int (adK k2' x2 (2 : Int32) nn))]))
      have hk3 := own_adK (k := k2') (y := x2) (i := (2 : Int32)) (n := nn) (o_kb2 hk2)
      have hlen3 := (own_adLen l2 k2' x2 (2 : Int32) nn).trans hlen2
      have hz3 := own_ad0 (l := l2) (k := k2') (y := x2) (i := (2 : Int32)) (n := nn)
      generalize h_k3' : (adK k2' x2 (2 : Int32) nn) = k3' at hk3 ⊢
      show Gl _ _ _ _ (T22.setTop (mkF m 106 #[.val (.int w0), .val (.int w1), .val (.int w2), .val (.int w3), .val (.int w4), .val (.int w5), .val (.int nn), .val (.int x0), .val (.int x1), .val (.int x2), .val (.ref b4), .val (.ref b5), .val (.int k2'), .unset, .unset, .unset, .unset] [(.int k3')]))
      generalize h_l3 : (adL l2 k2' x2 (2 : Int32) nn) = l3 at Vc22 hlen3 hz3
      have hkr3 := hk3
      have hk3 := o_kt2 hk2 hkr3
      refine Gl.go (fun _ k => XS.istore X22.here hx rfl (hb hby at_106) rfl (l' := #[.val (.int w0), .val (.int w1), .val (.int w2), .val (.int w3), .val (.int w4), .val (.int w5), .val (.int nn), .val (.int x0), .val (.int x1), .val (.int x2), .val (.ref b4), .val (.ref b5), .val (.int k3'), .unset, .unset, .unset, .unset]) rfl k) ?_
      show Gl _ _ _ _ (T22.setTop (mkF m 108 #[.val (.int w0), .val (.int w1), .val (.int w2), .val (.int w3), .val (.int w4), .val (.int w5), .val (.int nn), .val (.int x0), .val (.int x1), .val (.int x2), .val (.ref b4), .val (.ref b5), .val (.int k3'), .unset, .unset, .unset, .unset] []))
      refine Gl.go (fun _ k => XS.iload X22.here hx rfl (hb hby at_108) rfl  k) ?_
      show Gl _ _ _ _ (T22.setTop (mkF m 110 #[.val (.int w0), .val (.int w1), .val (.int w2), .val (.int w3), .val (.int w4), .val (.int w5), .val (.int nn), .val (.int x0), .val (.int x1), .val (.int x2), .val (.ref b4), .val (.ref b5), .val (.int k3'), .unset, .unset, .unset, .unset] [(.int k3')]))
      refine Gl.go (fun _ k => XS.aload X22.here hx rfl (hb hby at_110) rfl rfl  k) ?_
      show Gl _ _ _ _ (T22.setTop (mkF m 112 #[.val (.int w0), .val (.int w1), .val (.int w2), .val (.int w3), .val (.int w4), .val (.int w5), .val (.int nn), .val (.int x0), .val (.int x1), .val (.int x2), .val (.ref b4), .val (.ref b5), .val (.int k3'), .unset, .unset, .unset, .unset] [(.ref b5), (.int k3')]))
      refine Gl.go (fun _ k => XS.iconst X22.here hx rfl (hb hby at_112) k) ?_
      show Gl _ _ _ _ (T22.setTop (mkF m 113 #[.val (.int w0), .val (.int w1), .val (.int w2), .val (.int w3), .val (.int w4), .val (.int w5), .val (.int nn), .val (.int x0), .val (.int x1), .val (.int x2), .val (.ref b4), .val (.ref b5), .val (.int k3'), .unset, .unset, .unset, .unset] [(.int (0 : Int32)), (.ref b5), (.int k3')]))
      obtain ⟨cl23, Ar23, qA23, SA23, NA23, HA23, GA23⟩ := id Vc22
      have hin23 := inb_of (j := (0 : Int32)) SA23 ⟨by decide, by decide⟩
      have hat23 : cl23.slots[((0 : Int32)).toNatClampNeg]? = some (.int (gL l3 (0 : Int32))) := HA23.at hin23 (own_gl l3 (0 : Int32))
      refine Gl.go (fun _ k => X22.baloadBytes hx (j := (0 : Int32)) (v := (.int (gL l3 (0 : Int32)))) Ar23.1 (State.isArrayOf_alike hZ.alike Ar23.2.1) Ar23.2.2 hin23 hat23 (g := (mkF m 113 #[.val (.int w0), .val (.int w1), .val (.int w2), .val (.int w3), .val (.int w4), .val (.int w5), .val (.int nn), .val (.int x0), .val (.int x1), .val (.int x2), .val (.ref b4), .val (.ref b5), .val (.int k3'), .unset, .unset, .unset, .unset] [(.int (0 : Int32)), (.ref b5), (.int k3')])) rfl rfl (hb hby at_113) _ k) ?_
      show Gl _ _ _ _ (T22.setTop (mkF m 114 #[.val (.int w0), .val (.int w1), .val (.int w2), .val (.int w3), .val (.int w4), .val (.int w5), .val (.int nn), .val (.int x0), .val (.int x1), .val (.int x2), .val (.ref b4), .val (.ref b5), .val (.int k3'), .unset, .unset, .unset, .unset] [(.int (gL l3 (0 : Int32))), (.int k3')]))
      refine Gl.go (fun _ k => XS.aload X22.here hx rfl (hb hby at_114) rfl rfl  k) ?_
      show Gl _ _ _ _ (T22.setTop (mkF m 116 #[.val (.int w0), .val (.int w1), .val (.int w2), .val (.int w3), .val (.int w4), .val (.int w5), .val (.int nn), .val (.int x0), .val (.int x1), .val (.int x2), .val (.ref b4), .val (.ref b5), .val (.int k3'), .unset, .unset, .unset, .unset] [(.ref b5), (.int (gL l3 (0 : Int32))), (.int k3')]))
      refine Gl.go (fun _ k => XS.iconst X22.here hx rfl (hb hby at_116) k) ?_
      show Gl _ _ _ _ (T22.setTop (mkF m 117 #[.val (.int w0), .val (.int w1), .val (.int w2), .val (.int w3), .val (.int w4), .val (.int w5), .val (.int nn), .val (.int x0), .val (.int x1), .val (.int x2), .val (.ref b4), .val (.ref b5), .val (.int k3'), .unset, .unset, .unset, .unset] [(.int (1 : Int32)), (.ref b5), (.int (gL l3 (0 : Int32))), (.int k3')]))
      obtain ⟨cl24, Ar24, qA24, SA24, NA24, HA24, GA24⟩ := id Vc22
      have hin24 := inb_of (j := (1 : Int32)) SA24 ⟨by decide, by decide⟩
      have hat24 : cl24.slots[((1 : Int32)).toNatClampNeg]? = some (.int (gL l3 (1 : Int32))) := HA24.at hin24 (own_gl l3 (1 : Int32))
      refine Gl.go (fun _ k => X22.baloadBytes hx (j := (1 : Int32)) (v := (.int (gL l3 (1 : Int32)))) Ar24.1 (State.isArrayOf_alike hZ.alike Ar24.2.1) Ar24.2.2 hin24 hat24 (g := (mkF m 117 #[.val (.int w0), .val (.int w1), .val (.int w2), .val (.int w3), .val (.int w4), .val (.int w5), .val (.int nn), .val (.int x0), .val (.int x1), .val (.int x2), .val (.ref b4), .val (.ref b5), .val (.int k3'), .unset, .unset, .unset, .unset] [(.int (1 : Int32)), (.ref b5), (.int (gL l3 (0 : Int32))), (.int k3')])) rfl rfl (hb hby at_117) _ k) ?_
      show Gl _ _ _ _ (T22.setTop (mkF m 118 #[.val (.int w0), .val (.int w1), .val (.int w2), .val (.int w3), .val (.int w4), .val (.int w5), .val (.int nn), .val (.int x0), .val (.int x1), .val (.int x2), .val (.ref b4), .val (.ref b5), .val (.int k3'), .unset, .unset, .unset, .unset] [(.int (gL l3 (1 : Int32))), (.int (gL l3 (0 : Int32))), (.int k3')]))
      refine Gl.go (fun _ k => XS.aload X22.here hx rfl (hb hby at_118) rfl rfl  k) ?_
      show Gl _ _ _ _ (T22.setTop (mkF m 120 #[.val (.int w0), .val (.int w1), .val (.int w2), .val (.int w3), .val (.int w4), .val (.int w5), .val (.int nn), .val (.int x0), .val (.int x1), .val (.int x2), .val (.ref b4), .val (.ref b5), .val (.int k3'), .unset, .unset, .unset, .unset] [(.ref b5), (.int (gL l3 (1 : Int32))), (.int (gL l3 (0 : Int32))), (.int k3')]))
      refine Gl.go (fun _ k => XS.iconst X22.here hx rfl (hb hby at_120) k) ?_
      show Gl _ _ _ _ (T22.setTop (mkF m 121 #[.val (.int w0), .val (.int w1), .val (.int w2), .val (.int w3), .val (.int w4), .val (.int w5), .val (.int nn), .val (.int x0), .val (.int x1), .val (.int x2), .val (.ref b4), .val (.ref b5), .val (.int k3'), .unset, .unset, .unset, .unset] [(.int (2 : Int32)), (.ref b5), (.int (gL l3 (1 : Int32))), (.int (gL l3 (0 : Int32))), (.int k3')]))
      obtain ⟨cl25, Ar25, qA25, SA25, NA25, HA25, GA25⟩ := id Vc22
      have hin25 := inb_of (j := (2 : Int32)) SA25 ⟨by decide, by decide⟩
      have hat25 : cl25.slots[((2 : Int32)).toNatClampNeg]? = some (.int (gL l3 (2 : Int32))) := HA25.at hin25 (own_gl l3 (2 : Int32))
      refine Gl.go (fun _ k => X22.baloadBytes hx (j := (2 : Int32)) (v := (.int (gL l3 (2 : Int32)))) Ar25.1 (State.isArrayOf_alike hZ.alike Ar25.2.1) Ar25.2.2 hin25 hat25 (g := (mkF m 121 #[.val (.int w0), .val (.int w1), .val (.int w2), .val (.int w3), .val (.int w4), .val (.int w5), .val (.int nn), .val (.int x0), .val (.int x1), .val (.int x2), .val (.ref b4), .val (.ref b5), .val (.int k3'), .unset, .unset, .unset, .unset] [(.int (2 : Int32)), (.ref b5), (.int (gL l3 (1 : Int32))), (.int (gL l3 (0 : Int32))), (.int k3')])) rfl rfl (hb hby at_121) _ k) ?_
      show Gl _ _ _ _ (T22.setTop (mkF m 122 #[.val (.int w0), .val (.int w1), .val (.int w2), .val (.int w3), .val (.int w4), .val (.int w5), .val (.int nn), .val (.int x0), .val (.int x1), .val (.int x2), .val (.ref b4), .val (.ref b5), .val (.int k3'), .unset, .unset, .unset, .unset] [(.int (gL l3 (2 : Int32))), (.int (gL l3 (1 : Int32))), (.int (gL l3 (0 : Int32))), (.int k3')]))
      refine Gl.go (fun _ k => XS.aload X22.here hx rfl (hb hby at_122) rfl rfl  k) ?_
      show Gl _ _ _ _ (T22.setTop (mkF m 124 #[.val (.int w0), .val (.int w1), .val (.int w2), .val (.int w3), .val (.int w4), .val (.int w5), .val (.int nn), .val (.int x0), .val (.int x1), .val (.int x2), .val (.ref b4), .val (.ref b5), .val (.int k3'), .unset, .unset, .unset, .unset] [(.ref b5), (.int (gL l3 (2 : Int32))), (.int (gL l3 (1 : Int32))), (.int (gL l3 (0 : Int32))), (.int k3')]))
      refine Gl.go (fun _ k => XS.iconst X22.here hx rfl (hb hby at_124) k) ?_
      show Gl _ _ _ _ (T22.setTop (mkF m 125 #[.val (.int w0), .val (.int w1), .val (.int w2), .val (.int w3), .val (.int w4), .val (.int w5), .val (.int nn), .val (.int x0), .val (.int x1), .val (.int x2), .val (.ref b4), .val (.ref b5), .val (.int k3'), .unset, .unset, .unset, .unset] [(.int (3 : Int32)), (.ref b5), (.int (gL l3 (2 : Int32))), (.int (gL l3 (1 : Int32))), (.int (gL l3 (0 : Int32))), (.int k3')]))
      obtain ⟨cl26, Ar26, qA26, SA26, NA26, HA26, GA26⟩ := id Vc22
      have hin26 := inb_of (j := (3 : Int32)) SA26 ⟨by decide, by decide⟩
      have hat26 : cl26.slots[((3 : Int32)).toNatClampNeg]? = some (.int (gL l3 (3 : Int32))) := HA26.at hin26 (own_gl l3 (3 : Int32))
      refine Gl.go (fun _ k => X22.baloadBytes hx (j := (3 : Int32)) (v := (.int (gL l3 (3 : Int32)))) Ar26.1 (State.isArrayOf_alike hZ.alike Ar26.2.1) Ar26.2.2 hin26 hat26 (g := (mkF m 125 #[.val (.int w0), .val (.int w1), .val (.int w2), .val (.int w3), .val (.int w4), .val (.int w5), .val (.int nn), .val (.int x0), .val (.int x1), .val (.int x2), .val (.ref b4), .val (.ref b5), .val (.int k3'), .unset, .unset, .unset, .unset] [(.int (3 : Int32)), (.ref b5), (.int (gL l3 (2 : Int32))), (.int (gL l3 (1 : Int32))), (.int (gL l3 (0 : Int32))), (.int k3')])) rfl rfl (hb hby at_125) _ k) ?_
      show Gl _ _ _ _ (T22.setTop (mkF m 126 #[.val (.int w0), .val (.int w1), .val (.int w2), .val (.int w3), .val (.int w4), .val (.int w5), .val (.int nn), .val (.int x0), .val (.int x1), .val (.int x2), .val (.ref b4), .val (.ref b5), .val (.int k3'), .unset, .unset, .unset, .unset] [(.int (gL l3 (3 : Int32))), (.int (gL l3 (2 : Int32))), (.int (gL l3 (1 : Int32))), (.int (gL l3 (0 : Int32))), (.int k3')]))
      obtain ⟨_, _, ⟨T27, L27, k27, n27⟩, -, X27, ⟨Lc27, hQ27, l27, y27, z27⟩, st27⟩ := Jvm.LawKit.callS X22 hx (y := (⟨"com/example/aloud/aloud/PathPatternMatchesNoPathPinLaw", "ofLen", "(IBBBB)[B"⟩ : MethodName)) hown (mvT hZ (hw _ (List.mem_of_getElem? (i := 4) rfl))) (mvT hZ (hw _ (List.mem_of_getElem? (i := 5) rfl))) (mvT hZ (hw _ (List.mem_of_getElem? (i := 2) rfl))) (mvT hZ (hw _ (List.mem_of_getElem? (i := 6) rfl))) (by decide) (backOf (W := 0) (rm_ol l Z a0 hw [] k3' (gL l3 (0 : Int32)) (gL l3 (1 : Int32)) (gL l3 (2 : Int32)) (gL l3 (3 : Int32)) T22.heap n0 SZ22 ) hZ (hw _ (List.mem_of_getElem? (i := 6) rfl)) (hw _ (List.mem_of_getElem? (i := 2) rfl)) (by decide) (by decide)) (g := (mkF m 126 #[.val (.int w0), .val (.int w1), .val (.int w2), .val (.int w3), .val (.int w4), .val (.int w5), .val (.int nn), .val (.int x0), .val (.int x1), .val (.int x2), .val (.ref b4), .val (.ref b5), .val (.int k3'), .unset, .unset, .unset, .unset] [(.int (gL l3 (3 : Int32))), (.int (gL l3 (2 : Int32))), (.int (gL l3 (1 : Int32))), (.int (gL l3 (0 : Int32))), (.int k3')])) rfl (by rw [hml]; rfl) (argsL := [(.int k3'), (.int (gL l3 (0 : Int32))), (.int (gL l3 (1 : Int32))), (.int (gL l3 (2 : Int32))), (.int (gL l3 (3 : Int32)))]) (rest := []) (lenOf pd_10 rfl) rfl (by show 2 * 0 + _ ≤ _; exact Nat.le_of_eq rfl) (hb hby at_126) (fun _ _ => ⟨rfl, rfl, (by decide : 2 + 1 ≤ _), (by decide : 8 + 4 ≤ _)⟩)
      dsimp only [Pt.U, Pt.locs, Pt.cells, Pt.slots] at X27 l27 y27 z27 st27 hQ27
      subst l27 y27 z27
      obtain ⟨b27, rfl, Nq27, Kc27, gz27, kc27, Vc27⟩ := hQ27
      have N27 := Fr.app N22 Nq27
      refine Gl.go (fun _ k => st27 _ k) ?_
      have Ex27 := ext_of_keep Kc27
      have O__27 : Old Z n0 T27.heap := O__22.ext Ex27
      have V_b4_27 : Arv Z T27.heap b4 kc4 .byte (olZ nn) ((olL nn x0 x1 x2 (0 : Int32)).map Value.int) (.int (0 : Int32)) := V_b4_22.ext Ex27
      have V_b5_27 : Arv Z T27.heap b5 cA5 .byte (4 : Int32) (l3.map Value.int) (.int (0 : Int32)) := Vc22.ext Ex27
      have SZ27 : n0 ≤ T27.heap.size := Nat.le_trans SZ22 Ex27.1
      have K27 : Keep h0 T27.heap [] := K22.ext Ex27
      show Gl _ _ _ _ (T27.setTop (mkF m 129 #[.val (.int w0), .val (.int w1), .val (.int w2), .val (.int w3), .val (.int w4), .val (.int w5), .val (.int nn), .val (.int x0), .val (.int x1), .val (.int x2), .val (.ref b4), .val (.ref b5), .val (.int k3'), .unset, .unset, .unset, .unset] [(.ref b27)]))
      refine Gl.go (fun _ k => XS.astore X27.here hx rfl (hb hby at_129) rfl rfl (l' := #[.val (.int w0), .val (.int w1), .val (.int w2), .val (.int w3), .val (.int w4), .val (.int w5), .val (.int nn), .val (.int x0), .val (.int x1), .val (.int x2), .val (.ref b4), .val (.ref b5), .val (.int k3'), .val (.ref b27), .unset, .unset, .unset]) rfl k) ?_
      show Gl _ _ _ _ (T27.setTop (mkF m 131 #[.val (.int w0), .val (.int w1), .val (.int w2), .val (.int w3), .val (.int w4), .val (.int w5), .val (.int nn), .val (.int x0), .val (.int x1), .val (.int x2), .val (.ref b4), .val (.ref b5), .val (.int k3'), .val (.ref b27), .unset, .unset, .unset] []))
      refine Gl.go (fun _ k => XS.iconst X27.here hx rfl (hb hby at_131) k) ?_
      show Gl _ _ _ _ (T27.setTop (mkF m 132 #[.val (.int w0), .val (.int w1), .val (.int w2), .val (.int w3), .val (.int w4), .val (.int w5), .val (.int nn), .val (.int x0), .val (.int x1), .val (.int x2), .val (.ref b4), .val (.ref b5), .val (.int k3'), .val (.ref b27), .unset, .unset, .unset] [(.int (1 : Int32))]))
      refine Gl.go (fun _ k => XS.iloadN X27.here hx rfl (hb hby at_132) rfl  k) ?_
      show Gl _ _ _ _ (T27.setTop (mkF m 133 #[.val (.int w0), .val (.int w1), .val (.int w2), .val (.int w3), .val (.int w4), .val (.int w5), .val (.int nn), .val (.int x0), .val (.int x1), .val (.int x2), .val (.ref b4), .val (.ref b5), .val (.int k3'), .val (.ref b27), .unset, .unset, .unset] [(.int w0), (.int (1 : Int32))]))
      refine Gl.go (fun _ k => XS.iconst X27.here hx rfl (hb hby at_133) k) ?_
      show Gl _ _ _ _ (T27.setTop (mkF m 134 #[.val (.int w0), .val (.int w1), .val (.int w2), .val (.int w3), .val (.int w4), .val (.int w5), .val (.int nn), .val (.int x0), .val (.int x1), .val (.int x2), .val (.ref b4), .val (.ref b5), .val (.int k3'), .val (.ref b27), .unset, .unset, .unset] [(.int (2 : Int32)), (.int w0), (.int (1 : Int32))]))
      refine Gl.go (fun _ k => XS.iushr X27.here hx rfl (hb hby at_134) rfl k) ?_
      show Gl _ _ _ _ (T27.setTop (mkF m 135 #[.val (.int w0), .val (.int w1), .val (.int w2), .val (.int w3), .val (.int w4), .val (.int w5), .val (.int nn), .val (.int x0), .val (.int x1), .val (.int x2), .val (.ref b4), .val (.ref b5), .val (.int k3'), .val (.ref b27), .unset, .unset, .unset] [(.int ((w0.toUInt32 >>> ((2 : Int32) &&& 31).toUInt32).toInt32)), (.int (1 : Int32))]))
      refine Gl.go (fun _ k => XS.iconst X27.here hx rfl (hb hby at_135) k) ?_
      show Gl _ _ _ _ (T27.setTop (mkF m 136 #[.val (.int w0), .val (.int w1), .val (.int w2), .val (.int w3), .val (.int w4), .val (.int w5), .val (.int nn), .val (.int x0), .val (.int x1), .val (.int x2), .val (.ref b4), .val (.ref b5), .val (.int k3'), .val (.ref b27), .unset, .unset, .unset] [(.int (1 : Int32)), (.int ((w0.toUInt32 >>> ((2 : Int32) &&& 31).toUInt32).toInt32)), (.int (1 : Int32))]))
      refine Gl.go (fun _ k => XS.iand X27.here hx rfl (hb hby at_136) rfl k) ?_
      show Gl _ _ _ _ (T27.setTop (mkF m 137 #[.val (.int w0), .val (.int w1), .val (.int w2), .val (.int w3), .val (.int w4), .val (.int w5), .val (.int nn), .val (.int x0), .val (.int x1), .val (.int x2), .val (.ref b4), .val (.ref b5), .val (.int k3'), .val (.ref b27), .unset, .unset, .unset] [(.int (((w0.toUInt32 >>> ((2 : Int32) &&& 31).toUInt32).toInt32) &&& (1 : Int32))), (.int (1 : Int32))]))
      refine Gl.go (fun _ k => XS.iadd X27.here hx rfl (hb hby at_137) rfl k) ?_
      show Gl _ _ _ _ (T27.setTop (mkF m 138 #[.val (.int w0), .val (.int w1), .val (.int w2), .val (.int w3), .val (.int w4), .val (.int w5), .val (.int nn), .val (.int x0), .val (.int x1), .val (.int x2), .val (.ref b4), .val (.ref b5), .val (.int k3'), .val (.ref b27), .unset, .unset, .unset] [(.int ((1 : Int32) + (((w0.toUInt32 >>> ((2 : Int32) &&& 31).toUInt32).toInt32) &&& (1 : Int32))))]))
      refine Gl.go (fun _ k => XS.iloadN X27.here hx rfl (hb hby at_138) rfl  k) ?_
      show Gl _ _ _ _ (T27.setTop (mkF m 139 #[.val (.int w0), .val (.int w1), .val (.int w2), .val (.int w3), .val (.int w4), .val (.int w5), .val (.int nn), .val (.int x0), .val (.int x1), .val (.int x2), .val (.ref b4), .val (.ref b5), .val (.int k3'), .val (.ref b27), .unset, .unset, .unset] [(.int w0), (.int ((1 : Int32) + (((w0.toUInt32 >>> ((2 : Int32) &&& 31).toUInt32).toInt32) &&& (1 : Int32))))]))
      refine Gl.go (fun _ k => XS.iconst X27.here hx rfl (hb hby at_139) k) ?_
      show Gl _ _ _ _ (T27.setTop (mkF m 140 #[.val (.int w0), .val (.int w1), .val (.int w2), .val (.int w3), .val (.int w4), .val (.int w5), .val (.int nn), .val (.int x0), .val (.int x1), .val (.int x2), .val (.ref b4), .val (.ref b5), .val (.int k3'), .val (.ref b27), .unset, .unset, .unset] [(.int (3 : Int32)), (.int w0), (.int ((1 : Int32) + (((w0.toUInt32 >>> ((2 : Int32) &&& 31).toUInt32).toInt32) &&& (1 : Int32))))]))
      refine Gl.go (fun _ k => XS.iushr X27.here hx rfl (hb hby at_140) rfl k) ?_
      show Gl _ _ _ _ (T27.setTop (mkF m 141 #[.val (.int w0), .val (.int w1), .val (.int w2), .val (.int w3), .val (.int w4), .val (.int w5), .val (.int nn), .val (.int x0), .val (.int x1), .val (.int x2), .val (.ref b4), .val (.ref b5), .val (.int k3'), .val (.ref b27), .unset, .unset, .unset] [(.int ((w0.toUInt32 >>> ((3 : Int32) &&& 31).toUInt32).toInt32)), (.int ((1 : Int32) + (((w0.toUInt32 >>> ((2 : Int32) &&& 31).toUInt32).toInt32) &&& (1 : Int32))))]))
      refine Gl.go (fun _ k => XS.iconst X27.here hx rfl (hb hby at_141) k) ?_
      show Gl _ _ _ _ (T27.setTop (mkF m 142 #[.val (.int w0), .val (.int w1), .val (.int w2), .val (.int w3), .val (.int w4), .val (.int w5), .val (.int nn), .val (.int x0), .val (.int x1), .val (.int x2), .val (.ref b4), .val (.ref b5), .val (.int k3'), .val (.ref b27), .unset, .unset, .unset] [(.int (1 : Int32)), (.int ((w0.toUInt32 >>> ((3 : Int32) &&& 31).toUInt32).toInt32)), (.int ((1 : Int32) + (((w0.toUInt32 >>> ((2 : Int32) &&& 31).toUInt32).toInt32) &&& (1 : Int32))))]))
      refine Gl.go (fun _ k => XS.iand X27.here hx rfl (hb hby at_142) rfl k) ?_
      show Gl _ _ _ _ (T27.setTop (mkF m 143 #[.val (.int w0), .val (.int w1), .val (.int w2), .val (.int w3), .val (.int w4), .val (.int w5), .val (.int nn), .val (.int x0), .val (.int x1), .val (.int x2), .val (.ref b4), .val (.ref b5), .val (.int k3'), .val (.ref b27), .unset, .unset, .unset] [(.int (((w0.toUInt32 >>> ((3 : Int32) &&& 31).toUInt32).toInt32) &&& (1 : Int32))), (.int ((1 : Int32) + (((w0.toUInt32 >>> ((2 : Int32) &&& 31).toUInt32).toInt32) &&& (1 : Int32))))]))
      refine Gl.go (fun _ k => XS.iadd X27.here hx rfl (hb hby at_143) rfl k) ?_
      show Gl _ _ _ _ (T27.setTop (mkF m 144 #[.val (.int w0), .val (.int w1), .val (.int w2), .val (.int w3), .val (.int w4), .val (.int w5), .val (.int nn), .val (.int x0), .val (.int x1), .val (.int x2), .val (.ref b4), .val (.ref b5), .val (.int k3'), .val (.ref b27), .unset, .unset, .unset] [(.int (((1 : Int32) + (((w0.toUInt32 >>> ((2 : Int32) &&& 31).toUInt32).toInt32) &&& (1 : Int32))) + (((w0.toUInt32 >>> ((3 : Int32) &&& 31).toUInt32).toInt32) &&& (1 : Int32))))]))
      refine Gl.go (fun _ k => XS.istore X27.here hx rfl (hb hby at_144) rfl (l' := #[.val (.int w0), .val (.int w1), .val (.int w2), .val (.int w3), .val (.int w4), .val (.int w5), .val (.int nn), .val (.int x0), .val (.int x1), .val (.int x2), .val (.ref b4), .val (.ref b5), .val (.int k3'), .val (.ref b27), .val (.int (((1 : Int32) + (((w0.toUInt32 >>> ((2 : Int32) &&& 31).toUInt32).toInt32) &&& (1 : Int32))) + (((w0.toUInt32 >>> ((3 : Int32) &&& 31).toUInt32).toInt32) &&& (1 : Int32)))), .unset, .unset]) rfl k) ?_
      show Gl _ _ _ _ (T27.setTop (mkF m 146 #[.val (.int w0), .val (.int w1), .val (.int w2), .val (.int w3), .val (.int w4), .val (.int w5), .val (.int nn), .val (.int x0), .val (.int x1), .val (.int x2), .val (.ref b4), .val (.ref b5), .val (.int k3'), .val (.ref b27), .val (.int (((1 : Int32) + (((w0.toUInt32 >>> ((2 : Int32) &&& 31).toUInt32).toInt32) &&& (1 : Int32))) + (((w0.toUInt32 >>> ((3 : Int32) &&& 31).toUInt32).toInt32) &&& (1 : Int32)))), .unset, .unset] []))
      have hpl := own_pl ((w0.toUInt32 >>> ((2 : Int32) &&& 31).toUInt32).toInt32) ((w0.toUInt32 >>> ((3 : Int32) &&& 31).toUInt32).toInt32)
      generalize h_pl : (((1 : Int32) + (((w0.toUInt32 >>> ((2 : Int32) &&& 31).toUInt32).toInt32) &&& (1 : Int32))) + (((w0.toUInt32 >>> ((3 : Int32) &&& 31).toUInt32).toInt32) &&& (1 : Int32))) = pl at hpl ⊢
      show Gl _ _ _ _ (T27.setTop (mkF m 146 #[.val (.int w0), .val (.int w1), .val (.int w2), .val (.int w3), .val (.int w4), .val (.int w5), .val (.int nn), .val (.int x0), .val (.int x1), .val (.int x2), .val (.ref b4), .val (.ref b5), .val (.int k3'), .val (.ref b27), .val (.int pl), .unset, .unset] []))
      refine Gl.go (fun _ k => XS.iload X27.here hx rfl (hb hby at_146) rfl  k) ?_
      show Gl _ _ _ _ (T27.setTop (mkF m 148 #[.val (.int w0), .val (.int w1), .val (.int w2), .val (.int w3), .val (.int w4), .val (.int w5), .val (.int nn), .val (.int x0), .val (.int x1), .val (.int x2), .val (.ref b4), .val (.ref b5), .val (.int k3'), .val (.ref b27), .val (.int pl), .unset, .unset] [(.int pl)]))
      refine Gl.go (fun _ k => XS.bipush X27.here hx rfl (hb hby at_148) k) ?_
      show Gl _ _ _ _ (T27.setTop (mkF m 150 #[.val (.int w0), .val (.int w1), .val (.int w2), .val (.int w3), .val (.int w4), .val (.int w5), .val (.int nn), .val (.int x0), .val (.int x1), .val (.int x2), .val (.ref b4), .val (.ref b5), .val (.int k3'), .val (.ref b27), .val (.int pl), .unset, .unset] [(.int (47 : Int32)), (.int pl)]))
      refine Gl.go (fun _ k => XS.iload X27.here hx rfl (hb hby at_150) rfl  k) ?_
      show Gl _ _ _ _ (T27.setTop (mkF m 152 #[.val (.int w0), .val (.int w1), .val (.int w2), .val (.int w3), .val (.int w4), .val (.int w5), .val (.int nn), .val (.int x0), .val (.int x1), .val (.int x2), .val (.ref b4), .val (.ref b5), .val (.int k3'), .val (.ref b27), .val (.int pl), .unset, .unset] [(.int w4), (.int (47 : Int32)), (.int pl)]))
      obtain ⟨_, _, ⟨T28, L28, k28, n28⟩, -, X28, ⟨Lc28, hQ28, l28, y28, z28⟩, st28⟩ := Jvm.LawKit.callS X27 hx (y := (⟨"com/example/aloud/aloud/PathPatternMatchesNoPathPinLaw", "pick", "(I)B"⟩ : MethodName)) hown (mvT hZ (hw _ (List.mem_of_getElem? (i := 0) rfl))) (mvT hZ (hw _ (List.mem_of_getElem? (i := 1) rfl))) (mvT hZ (hw _ (List.mem_of_getElem? (i := 2) rfl))) (mvT hZ (hw _ (List.mem_of_getElem? (i := 3) rfl))) (by decide) (backOf (W := 2) (rm_pk l Z a0 hw [] w4 T27.heap n0 SZ27 ) hZ (hw _ (List.mem_of_getElem? (i := 3) rfl)) (hw _ (List.mem_of_getElem? (i := 2) rfl)) (by decide) (by decide)) (g := (mkF m 152 #[.val (.int w0), .val (.int w1), .val (.int w2), .val (.int w3), .val (.int w4), .val (.int w5), .val (.int nn), .val (.int x0), .val (.int x1), .val (.int x2), .val (.ref b4), .val (.ref b5), .val (.int k3'), .val (.ref b27), .val (.int pl), .unset, .unset] [(.int w4), (.int (47 : Int32)), (.int pl)])) rfl (by rw [hml]; rfl) (argsL := [(.int w4)]) (rest := [(.int (47 : Int32)), (.int pl)]) (lenOf pd_9 rfl) rfl (by show 2 * 0 + _ ≤ _; exact Nat.le_of_eq rfl) (hb hby at_152) (fun _ _ => ⟨rfl, rfl, (by decide : 3 + 0 ≤ _), (by decide : 12 + 0 ≤ _)⟩)
      dsimp only [Pt.U, Pt.locs, Pt.cells, Pt.slots] at X28 l28 y28 z28 st28 hQ28
      subst l28 y28 z28
      obtain ⟨rfl, Nq28, e28⟩ := hQ28
      have N28 := Fr.app N27 Nq28
      refine Gl.go (fun _ k => st28 _ k) ?_
      show Gl _ _ _ _ (T28.setTop (mkF m 155 #[.val (.int w0), .val (.int w1), .val (.int w2), .val (.int w3), .val (.int w4), .val (.int w5), .val (.int nn), .val (.int x0), .val (.int x1), .val (.int x2), .val (.ref b4), .val (.ref b5), .val (.int k3'), .val (.ref b27), .val (.int pl), .unset, .unset] [(.int (pkV w4)), (.int (47 : Int32)), (.int pl)]))
      generalize h_u1 : (pkV w4) = u1 at ⊢
      show Gl _ _ _ _ (T28.setTop (mkF m 155 #[.val (.int w0), .val (.int w1), .val (.int w2), .val (.int w3), .val (.int w4), .val (.int w5), .val (.int nn), .val (.int x0), .val (.int x1), .val (.int x2), .val (.ref b4), .val (.ref b5), .val (.int k3'), .val (.ref b27), .val (.int pl), .unset, .unset] [(.int u1), (.int (47 : Int32)), (.int pl)]))
      refine Gl.go (fun _ k => XS.iload X28.here hx rfl (hb hby at_155) rfl  k) ?_
      show Gl _ _ _ _ (T28.setTop (mkF m 157 #[.val (.int w0), .val (.int w1), .val (.int w2), .val (.int w3), .val (.int w4), .val (.int w5), .val (.int nn), .val (.int x0), .val (.int x1), .val (.int x2), .val (.ref b4), .val (.ref b5), .val (.int k3'), .val (.ref b27), .val (.int pl), .unset, .unset] [(.int w5), (.int u1), (.int (47 : Int32)), (.int pl)]))
      obtain ⟨_, _, ⟨T29, L29, k29, n29⟩, -, X29, ⟨Lc29, hQ29, l29, y29, z29⟩, st29⟩ := Jvm.LawKit.callS X28 hx (y := (⟨"com/example/aloud/aloud/PathPatternMatchesNoPathPinLaw", "pick", "(I)B"⟩ : MethodName)) hown (mvT hZ (hw _ (List.mem_of_getElem? (i := 0) rfl))) (mvT hZ (hw _ (List.mem_of_getElem? (i := 1) rfl))) (mvT hZ (hw _ (List.mem_of_getElem? (i := 2) rfl))) (mvT hZ (hw _ (List.mem_of_getElem? (i := 3) rfl))) (by decide) (backOf (W := 3) (rm_pk l Z a0 hw [] w5 T27.heap n0 SZ27 ) hZ (hw _ (List.mem_of_getElem? (i := 3) rfl)) (hw _ (List.mem_of_getElem? (i := 2) rfl)) (by decide) (by decide)) (g := (mkF m 157 #[.val (.int w0), .val (.int w1), .val (.int w2), .val (.int w3), .val (.int w4), .val (.int w5), .val (.int nn), .val (.int x0), .val (.int x1), .val (.int x2), .val (.ref b4), .val (.ref b5), .val (.int k3'), .val (.ref b27), .val (.int pl), .unset, .unset] [(.int w5), (.int u1), (.int (47 : Int32)), (.int pl)])) rfl (by rw [hml]; rfl) (argsL := [(.int w5)]) (rest := [(.int u1), (.int (47 : Int32)), (.int pl)]) (lenOf pd_9 rfl) rfl (by show 2 * 0 + _ ≤ _; exact Nat.le_of_eq rfl) (hb hby at_157) (fun _ _ => ⟨rfl, e28, (by decide : 3 + 0 ≤ _), (by decide : 12 + 0 ≤ _)⟩)
      dsimp only [Pt.U, Pt.locs, Pt.cells, Pt.slots] at X29 l29 y29 z29 st29 hQ29
      subst l29 y29 z29
      obtain ⟨rfl, Nq29, e29⟩ := hQ29
      have N29 := Fr.app N28 Nq29
      refine Gl.go (fun _ k => st29 _ k) ?_
      show Gl _ _ _ _ (T29.setTop (mkF m 160 #[.val (.int w0), .val (.int w1), .val (.int w2), .val (.int w3), .val (.int w4), .val (.int w5), .val (.int nn), .val (.int x0), .val (.int x1), .val (.int x2), .val (.ref b4), .val (.ref b5), .val (.int k3'), .val (.ref b27), .val (.int pl), .unset, .unset] [(.int (pkV w5)), (.int u1), (.int (47 : Int32)), (.int pl)]))
      generalize h_u2 : (pkV w5) = u2 at ⊢
      show Gl _ _ _ _ (T29.setTop (mkF m 160 #[.val (.int w0), .val (.int w1), .val (.int w2), .val (.int w3), .val (.int w4), .val (.int w5), .val (.int nn), .val (.int x0), .val (.int x1), .val (.int x2), .val (.ref b4), .val (.ref b5), .val (.int k3'), .val (.ref b27), .val (.int pl), .unset, .unset] [(.int u2), (.int u1), (.int (47 : Int32)), (.int pl)]))
      refine Gl.go (fun _ k => XS.iconst X29.here hx rfl (hb hby at_160) k) ?_
      show Gl _ _ _ _ (T29.setTop (mkF m 161 #[.val (.int w0), .val (.int w1), .val (.int w2), .val (.int w3), .val (.int w4), .val (.int w5), .val (.int nn), .val (.int x0), .val (.int x1), .val (.int x2), .val (.ref b4), .val (.ref b5), .val (.int k3'), .val (.ref b27), .val (.int pl), .unset, .unset] [(.int (0 : Int32)), (.int u2), (.int u1), (.int (47 : Int32)), (.int pl)]))
      obtain ⟨_, _, ⟨T30, L30, k30, n30⟩, -, X30, ⟨Lc30, hQ30, l30, y30, z30⟩, st30⟩ := Jvm.LawKit.callS X29 hx (y := (⟨"com/example/aloud/aloud/PathPatternMatchesNoPathPinLaw", "ofLen", "(IBBBB)[B"⟩ : MethodName)) hown (mvT hZ (hw _ (List.mem_of_getElem? (i := 4) rfl))) (mvT hZ (hw _ (List.mem_of_getElem? (i := 5) rfl))) (mvT hZ (hw _ (List.mem_of_getElem? (i := 2) rfl))) (mvT hZ (hw _ (List.mem_of_getElem? (i := 6) rfl))) (by decide) (backOf (W := 0) (rm_ol l Z a0 hw [] pl (47 : Int32) u1 u2 (0 : Int32) T27.heap n0 SZ27 ) hZ (hw _ (List.mem_of_getElem? (i := 6) rfl)) (hw _ (List.mem_of_getElem? (i := 2) rfl)) (by decide) (by decide)) (g := (mkF m 161 #[.val (.int w0), .val (.int w1), .val (.int w2), .val (.int w3), .val (.int w4), .val (.int w5), .val (.int nn), .val (.int x0), .val (.int x1), .val (.int x2), .val (.ref b4), .val (.ref b5), .val (.int k3'), .val (.ref b27), .val (.int pl), .unset, .unset] [(.int (0 : Int32)), (.int u2), (.int u1), (.int (47 : Int32)), (.int pl)])) rfl (by rw [hml]; rfl) (argsL := [(.int pl), (.int (47 : Int32)), (.int u1), (.int u2), (.int (0 : Int32))]) (rest := []) (lenOf pd_10 rfl) rfl (by show 2 * 0 + _ ≤ _; exact Nat.le_of_eq rfl) (hb hby at_161) (fun _ _ => ⟨rfl, e29, (by decide : 3 + 1 ≤ _), (by decide : 12 + 4 ≤ _)⟩)
      dsimp only [Pt.U, Pt.locs, Pt.cells, Pt.slots] at X30 l30 y30 z30 st30 hQ30
      subst l30 y30 z30
      obtain ⟨b30, rfl, Nq30, Kc30, gz30, kc30, Vc30⟩ := hQ30
      have N30 := Fr.app N29 Nq30
      refine Gl.go (fun _ k => st30 _ k) ?_
      have Ex30 := ext_of_keep Kc30
      have O__30 : Old Z n0 T30.heap := O__27.ext Ex30
      have V_b4_30 : Arv Z T30.heap b4 kc4 .byte (olZ nn) ((olL nn x0 x1 x2 (0 : Int32)).map Value.int) (.int (0 : Int32)) := V_b4_27.ext Ex30
      have V_b5_30 : Arv Z T30.heap b5 cA5 .byte (4 : Int32) (l3.map Value.int) (.int (0 : Int32)) := V_b5_27.ext Ex30
      have V_b27_30 : Arv Z T30.heap b27 kc27 .byte (olZ k3') ((olL k3' (gL l3 (0 : Int32)) (gL l3 (1 : Int32)) (gL l3 (2 : Int32)) (gL l3 (3 : Int32))).map Value.int) (.int (0 : Int32)) := Vc27.ext Ex30
      have SZ30 : n0 ≤ T30.heap.size := Nat.le_trans SZ27 Ex30.1
      have K30 : Keep h0 T30.heap [] := K27.ext Ex30
      show Gl _ _ _ _ (T30.setTop (mkF m 164 #[.val (.int w0), .val (.int w1), .val (.int w2), .val (.int w3), .val (.int w4), .val (.int w5), .val (.int nn), .val (.int x0), .val (.int x1), .val (.int x2), .val (.ref b4), .val (.ref b5), .val (.int k3'), .val (.ref b27), .val (.int pl), .unset, .unset] [(.ref b30)]))
      refine Gl.go (fun _ k => XS.astore X30.here hx rfl (hb hby at_164) rfl rfl (l' := #[.val (.int w0), .val (.int w1), .val (.int w2), .val (.int w3), .val (.int w4), .val (.int w5), .val (.int nn), .val (.int x0), .val (.int x1), .val (.int x2), .val (.ref b4), .val (.ref b5), .val (.int k3'), .val (.ref b27), .val (.int pl), .val (.ref b30), .unset]) rfl k) ?_
      show Gl _ _ _ _ (T30.setTop (mkF m 166 #[.val (.int w0), .val (.int w1), .val (.int w2), .val (.int w3), .val (.int w4), .val (.int w5), .val (.int nn), .val (.int x0), .val (.int x1), .val (.int x2), .val (.ref b4), .val (.ref b5), .val (.int k3'), .val (.ref b27), .val (.int pl), .val (.ref b30), .unset] []))
      refine Gl.go (fun _ k => XS.aload X30.here hx rfl (hb hby at_166) rfl rfl  k) ?_
      show Gl _ _ _ _ (T30.setTop (mkF m 168 #[.val (.int w0), .val (.int w1), .val (.int w2), .val (.int w3), .val (.int w4), .val (.int w5), .val (.int nn), .val (.int x0), .val (.int x1), .val (.int x2), .val (.ref b4), .val (.ref b5), .val (.int k3'), .val (.ref b27), .val (.int pl), .val (.ref b30), .unset] [(.ref b4)]))
      obtain ⟨_, _, ⟨T31, L31, k31, n31⟩, -, X31, ⟨Lc31, hQ31, l31, y31, z31⟩, st31⟩ := Jvm.LawKit.callS X30 hx (y := (⟨"com/example/aloud/aloud/PathPattern", "matchesNoPath", "([B)Z"⟩ : MethodName)) hown (mvT hZ (hw _ (List.mem_of_getElem? (i := 11) rfl))) (mvT hZ (hw _ (List.mem_of_getElem? (i := 12) rfl))) (mvT hZ (hw _ (List.mem_of_getElem? (i := 13) rfl))) (mvT hZ (hw _ (List.mem_of_getElem? (i := 14) rfl))) (by decide) (backOf (W := 0) (rm_np l Z a0 hw [] b4 kc4 (olZ nn) (olL nn x0 x1 x2 (0 : Int32)) rR kR T30.heap n0 SZ30 V_b4_30 (own_olZ nn) (SR.ext O__30.2) (VR.ext O__30.2)) hZ (hw _ (List.mem_of_getElem? (i := 14) rfl)) (hw _ (List.mem_of_getElem? (i := 13) rfl)) (by decide) (by decide)) (g := (mkF m 168 #[.val (.int w0), .val (.int w1), .val (.int w2), .val (.int w3), .val (.int w4), .val (.int w5), .val (.int nn), .val (.int x0), .val (.int x1), .val (.int x2), .val (.ref b4), .val (.ref b5), .val (.int k3'), .val (.ref b27), .val (.int pl), .val (.ref b30), .unset] [(.ref b4)])) rfl (by rw [hml]; rfl) (argsL := [(.ref b4)]) (rest := []) (lenOf pd_12 rfl) rfl (by show 2 * 0 + _ ≤ _; exact Nat.le_of_eq rfl) (hb hby at_168) (fun _ _ => ⟨rfl, rfl, (by decide : 4 + 0 ≤ _), (by decide : 16 + 0 ≤ _)⟩)
      dsimp only [Pt.U, Pt.locs, Pt.cells, Pt.slots] at X31 l31 y31 z31 st31 hQ31
      subst l31 y31 z31
      obtain ⟨rfl, Nq31, e31⟩ := hQ31
      have N31 := Fr.app N30 Nq31
      refine Gl.go (fun _ k => st31 _ k) ?_
      show Gl _ _ _ _ (T31.setTop (mkF m 171 #[.val (.int w0), .val (.int w1), .val (.int w2), .val (.int w3), .val (.int w4), .val (.int w5), .val (.int nn), .val (.int x0), .val (.int x1), .val (.int x2), .val (.ref b4), .val (.ref b5), .val (.int k3'), .val (.ref b27), .val (.int pl), .val (.ref b30), .unset] [(.int (npV (olZ nn) (gL (olL nn x0 x1 x2 (0 : Int32)))))]))
      refine Gl.go (fun _ k => XS.istore X31.here hx rfl (hb hby at_171) rfl (l' := #[.val (.int w0), .val (.int w1), .val (.int w2), .val (.int w3), .val (.int w4), .val (.int w5), .val (.int nn), .val (.int x0), .val (.int x1), .val (.int x2), .val (.ref b4), .val (.ref b5), .val (.int k3'), .val (.ref b27), .val (.int pl), .val (.ref b30), .val (.int (npV (olZ nn) (gL (olL nn x0 x1 x2 (0 : Int32)))))]) rfl k) ?_
      show Gl _ _ _ _ (T31.setTop (mkF m 173 #[.val (.int w0), .val (.int w1), .val (.int w2), .val (.int w3), .val (.int w4), .val (.int w5), .val (.int nn), .val (.int x0), .val (.int x1), .val (.int x2), .val (.ref b4), .val (.ref b5), .val (.int k3'), .val (.ref b27), .val (.int pl), .val (.ref b30), .val (.int (npV (olZ nn) (gL (olL nn x0 x1 x2 (0 : Int32)))))] []))
      refine Gl.go (fun _ k => XS.iload X31.here hx rfl (hb hby at_173) rfl  k) ?_
      show Gl _ _ _ _ (T31.setTop (mkF m 175 #[.val (.int w0), .val (.int w1), .val (.int w2), .val (.int w3), .val (.int w4), .val (.int w5), .val (.int nn), .val (.int x0), .val (.int x1), .val (.int x2), .val (.ref b4), .val (.ref b5), .val (.int k3'), .val (.ref b27), .val (.int pl), .val (.ref b30), .val (.int (npV (olZ nn) (gL (olL nn x0 x1 x2 (0 : Int32)))))] [(.int (npV (olZ nn) (gL (olL nn x0 x1 x2 (0 : Int32)))))]))
      by_cases hN : (npV (olZ nn) (gL (olL nn x0 x1 x2 (0 : Int32)))) = (0 : Int32)
      · skip
        refine Gl.go (fun _ k => XS.ifYes X31.here hx rfl (pc0 := 175) (pc' := 204) rfl (hb hby at_175) rfl ((if0 _ _).trans (teq hN).1) (by decide) (by decide) k) ?_
        show Gl _ _ _ _ (T31.setTop (mkF m 204 #[.val (.int w0), .val (.int w1), .val (.int w2), .val (.int w3), .val (.int w4), .val (.int w5), .val (.int nn), .val (.int x0), .val (.int x1), .val (.int x2), .val (.ref b4), .val (.ref b5), .val (.int k3'), .val (.ref b27), .val (.int pl), .val (.ref b30), .val (.int (npV (olZ nn) (gL (olL nn x0 x1 x2 (0 : Int32)))))] []))
        refine Gl.go (fun _ k => XS.aload X31.here hx rfl (hb hby at_204) rfl rfl  k) ?_
        show Gl _ _ _ _ (T31.setTop (mkF m 206 #[.val (.int w0), .val (.int w1), .val (.int w2), .val (.int w3), .val (.int w4), .val (.int w5), .val (.int nn), .val (.int x0), .val (.int x1), .val (.int x2), .val (.ref b4), .val (.ref b5), .val (.int k3'), .val (.ref b27), .val (.int pl), .val (.ref b30), .val (.int (npV (olZ nn) (gL (olL nn x0 x1 x2 (0 : Int32)))))] [(.ref b4)]))
        refine Gl.go (fun _ k => XS.aload X31.here hx rfl (hb hby at_206) rfl rfl  k) ?_
        show Gl _ _ _ _ (T31.setTop (mkF m 208 #[.val (.int w0), .val (.int w1), .val (.int w2), .val (.int w3), .val (.int w4), .val (.int w5), .val (.int nn), .val (.int x0), .val (.int x1), .val (.int x2), .val (.ref b4), .val (.ref b5), .val (.int k3'), .val (.ref b27), .val (.int pl), .val (.ref b30), .val (.int (npV (olZ nn) (gL (olL nn x0 x1 x2 (0 : Int32)))))] [(.ref b27), (.ref b4)]))
        obtain ⟨_, _, ⟨T32, L32, k32, n32⟩, -, X32, ⟨Lc32, hQ32, l32, y32, z32⟩, st32⟩ := Jvm.LawKit.callS X31 hx (y := (⟨"com/example/aloud/aloud/PathPattern", "matches", "([B[B)Z"⟩ : MethodName)) hown (mvT hZ (hw _ (List.mem_of_getElem? (i := 15) rfl))) (mvT hZ (hw _ (List.mem_of_getElem? (i := 16) rfl))) (mvT hZ (hw _ (List.mem_of_getElem? (i := 13) rfl))) (mvT hZ (hw _ (List.mem_of_getElem? (i := 17) rfl))) (by decide) (backOf (W := 0) (rm_ma l Z a0 hw [] b4 kc4 (olZ nn) (olL nn x0 x1 x2 (0 : Int32)) b27 kc27 (olZ k3') (olL k3' (gL l3 (0 : Int32)) (gL l3 (1 : Int32)) (gL l3 (2 : Int32)) (gL l3 (3 : Int32))) T30.heap n0 SZ30 V_b4_30 (own_olZ nn) V_b27_30 (own_olZ k3')) hZ (hw _ (List.mem_of_getElem? (i := 17) rfl)) (hw _ (List.mem_of_getElem? (i := 13) rfl)) (by decide) (by decide)) (g := (mkF m 208 #[.val (.int w0), .val (.int w1), .val (.int w2), .val (.int w3), .val (.int w4), .val (.int w5), .val (.int nn), .val (.int x0), .val (.int x1), .val (.int x2), .val (.ref b4), .val (.ref b5), .val (.int k3'), .val (.ref b27), .val (.int pl), .val (.ref b30), .val (.int (npV (olZ nn) (gL (olL nn x0 x1 x2 (0 : Int32)))))] [(.ref b27), (.ref b4)])) rfl (by rw [hml]; rfl) (argsL := [(.ref b4), (.ref b27)]) (rest := []) (lenOf pd_13 rfl) rfl (by show 2 * 0 + _ ≤ _; exact Nat.le_of_eq rfl) (hb hby at_208) (fun _ _ => ⟨rfl, e31, (by decide : 4 + 0 ≤ _), (by decide : 16 + 0 ≤ _)⟩)
        dsimp only [Pt.U, Pt.locs, Pt.cells, Pt.slots] at X32 l32 y32 z32 st32 hQ32
        subst l32 y32 z32
        obtain ⟨rfl, Nq32, e32⟩ := hQ32
        have N32 := Fr.app N31 Nq32
        refine Gl.go (fun _ k => st32 _ k) ?_
        show Gl _ _ _ _ (T32.setTop (mkF m 211 #[.val (.int w0), .val (.int w1), .val (.int w2), .val (.int w3), .val (.int w4), .val (.int w5), .val (.int nn), .val (.int x0), .val (.int x1), .val (.int x2), .val (.ref b4), .val (.ref b5), .val (.int k3'), .val (.ref b27), .val (.int pl), .val (.ref b30), .val (.int (npV (olZ nn) (gL (olL nn x0 x1 x2 (0 : Int32)))))] [(.int (maV (olZ nn) (gL (olL nn x0 x1 x2 (0 : Int32))) (olZ k3') (gL (olL k3' (gL l3 (0 : Int32)) (gL l3 (1 : Int32)) (gL l3 (2 : Int32)) (gL l3 (3 : Int32))))))]))
        refine leafN X32 hx hlk (t := .boolean) Bd.returns (by simp) (hb hby at_211) ?_ (by decide) (by decide)
        exact ⟨by rw [own_l2 h_k1' h_l1 h_k2' h_l2 h_k3' h_l3 (Or.inr (Or.inl ⟨hA, hB, rfl, h_l0.symm⟩)) hn4 hb0 hb1 hb2 hN, nar1], N32⟩
      · skip
        refine Gl.go (fun _ k => XS.ifNo X31.here hx rfl (hb hby at_175) rfl ((if0 _ _).trans (feq hN).1) k) ?_
        show Gl _ _ _ _ (T31.setTop (mkF m 178 #[.val (.int w0), .val (.int w1), .val (.int w2), .val (.int w3), .val (.int w4), .val (.int w5), .val (.int nn), .val (.int x0), .val (.int x1), .val (.int x2), .val (.ref b4), .val (.ref b5), .val (.int k3'), .val (.ref b27), .val (.int pl), .val (.ref b30), .val (.int (npV (olZ nn) (gL (olL nn x0 x1 x2 (0 : Int32)))))] []))
        exact absurd (own_npB hA hB hn4) hN
    · skip
      refine Gl.go (fun _ k => XS.icmpNo X5.here hx rfl (hb hby at_54) rfl (feq hB).1 k) ?_
      show Gl _ _ _ _ (T5.setTop (mkF m 57 #[.val (.int w0), .val (.int w1), .val (.int w2), .val (.int w3), .val (.int w4), .val (.int w5), .val (.int nn), .val (.int x0), .val (.int x1), .val (.int x2), .val (.ref b4), .val (.ref b5), .val (.int (0 : Int32)), .unset, .unset, .unset, .unset] []))
      refine Gl.go (fun _ k => XS.aload X5.here hx rfl (hb hby at_57) rfl rfl  k) ?_
      show Gl _ _ _ _ (T5.setTop (mkF m 59 #[.val (.int w0), .val (.int w1), .val (.int w2), .val (.int w3), .val (.int w4), .val (.int w5), .val (.int nn), .val (.int x0), .val (.int x1), .val (.int x2), .val (.ref b4), .val (.ref b5), .val (.int (0 : Int32)), .unset, .unset, .unset, .unset] [(.ref b5)]))
      refine Gl.go (fun _ k => XS.iconst X5.here hx rfl (hb hby at_59) k) ?_
      show Gl _ _ _ _ (T5.setTop (mkF m 60 #[.val (.int w0), .val (.int w1), .val (.int w2), .val (.int w3), .val (.int w4), .val (.int w5), .val (.int nn), .val (.int x0), .val (.int x1), .val (.int x2), .val (.ref b4), .val (.ref b5), .val (.int (0 : Int32)), .unset, .unset, .unset, .unset] [(.int (0 : Int32)), (.ref b5)]))
      refine Gl.go (fun _ k => XS.bipush X5.here hx rfl (hb hby at_60) k) ?_
      show Gl _ _ _ _ (T5.setTop (mkF m 62 #[.val (.int w0), .val (.int w1), .val (.int w2), .val (.int w3), .val (.int w4), .val (.int w5), .val (.int nn), .val (.int x0), .val (.int x1), .val (.int x2), .val (.ref b4), .val (.ref b5), .val (.int (0 : Int32)), .unset, .unset, .unset, .unset] [(.int (47 : Int32)), (.int (0 : Int32)), (.ref b5)]))
      obtain ⟨cl33, Ar33, qA33, SA33, NA33, HA33, GA33⟩ := id V_b5_5
      obtain ⟨T33, h33, X33, e33, W33, st33⟩ := stB X5 hx hZ e5 Ar33 (j := (0 : Int32)) (inb_of SA33 ⟨by decide, by decide⟩) (g := (mkF m 62 #[.val (.int w0), .val (.int w1), .val (.int w2), .val (.int w3), .val (.int w4), .val (.int w5), .val (.int nn), .val (.int x0), .val (.int x1), .val (.int x2), .val (.ref b4), .val (.ref b5), .val (.int (0 : Int32)), .unset, .unset, .unset, .unset] [(.int (47 : Int32)), (.int (0 : Int32)), (.ref b5)])) rfl rfl (hb hby at_62)
      have O__33 : Old Z n0 h33 := O__5.wr W33 g_b5
      have V_b4_33 : Arv Z h33 b4 kc4 .byte (olZ nn) ((olL nn x0 x1 x2 (0 : Int32)).map Value.int) (.int (0 : Int32)) := V_b4_5.other W33 ne_b4_b5
      have SZ33 : n0 ≤ h33.size := by rw [Wr.size W33]; exact SZ5
      have K33 : Keep h0 h33 [] := K5.wr W33 (Or.inr sz_b5)
      have N33 := Fr.snoc X33 N4 g_b5
      have V_b5_33 : Arv Z h33 b5 cA5 .byte (4 : Int32) [(.int (nar .byte (47 : Int32))), (.int (0 : Int32)), (.int (0 : Int32)), (.int (0 : Int32))] (.int (0 : Int32)) := Arv.set Ar33 qA33 SA33 NA33 HA33 GA33 (fits_nar_byte _) W33 0 rfl (Nat.le_of_ble_eq_true rfl)
      refine Gl.go (fun _ k => st33 _ k) ?_
      show Gl _ _ _ _ (T33.setTop (mkF m 63 #[.val (.int w0), .val (.int w1), .val (.int w2), .val (.int w3), .val (.int w4), .val (.int w5), .val (.int nn), .val (.int x0), .val (.int x1), .val (.int x2), .val (.ref b4), .val (.ref b5), .val (.int (0 : Int32)), .unset, .unset, .unset, .unset] []))
      refine Gl.go (fun _ k => XS.iconst X33.here hx rfl (hb hby at_63) k) ?_
      show Gl _ _ _ _ (T33.setTop (mkF m 64 #[.val (.int w0), .val (.int w1), .val (.int w2), .val (.int w3), .val (.int w4), .val (.int w5), .val (.int nn), .val (.int x0), .val (.int x1), .val (.int x2), .val (.ref b4), .val (.ref b5), .val (.int (0 : Int32)), .unset, .unset, .unset, .unset] [(.int (1 : Int32))]))
      refine Gl.go (fun _ k => XS.istore X33.here hx rfl (hb hby at_64) rfl (l' := #[.val (.int w0), .val (.int w1), .val (.int w2), .val (.int w3), .val (.int w4), .val (.int w5), .val (.int nn), .val (.int x0), .val (.int x1), .val (.int x2), .val (.ref b4), .val (.ref b5), .val (.int (1 : Int32)), .unset, .unset, .unset, .unset]) rfl k) ?_
      show Gl _ _ _ _ (T33.setTop (mkF m 66 #[.val (.int w0), .val (.int w1), .val (.int w2), .val (.int w3), .val (.int w4), .val (.int w5), .val (.int nn), .val (.int x0), .val (.int x1), .val (.int x2), .val (.ref b4), .val (.ref b5), .val (.int (1 : Int32)), .unset, .unset, .unset, .unset] []))
      have VB : Arv Z h33 b5 cA5 .byte (4 : Int32) (([(nar .byte (47 : Int32)), (0 : Int32), (0 : Int32), (0 : Int32)] : List Int32).map Value.int) (.int (0 : Int32)) := V_b5_33
      have hlen0 : ([(nar .byte (47 : Int32)), (0 : Int32), (0 : Int32), (0 : Int32)] : List Int32).length = 4 := rfl
      have hk0 : 0 ≤ ((1 : Int32) : Int32).toInt ∧ ((1 : Int32) : Int32).toInt ≤ 1 := ⟨by decide, by decide⟩
      obtain ⟨l0, h_l0⟩ : ∃ q : List Int32, [(nar .byte (47 : Int32)), (0 : Int32), (0 : Int32), (0 : Int32)] = q := ⟨_, rfl⟩
      rw [h_l0] at VB hlen0
      refine Gl.go (fun _ k => XS.aload X33.here hx rfl (hb hby at_66) rfl rfl  k) ?_
      show Gl _ _ _ _ (T33.setTop (mkF m 68 #[.val (.int w0), .val (.int w1), .val (.int w2), .val (.int w3), .val (.int w4), .val (.int w5), .val (.int nn), .val (.int x0), .val (.int x1), .val (.int x2), .val (.ref b4), .val (.ref b5), .val (.int (1 : Int32)), .unset, .unset, .unset, .unset] [(.ref b5)]))
      refine Gl.go (fun _ k => XS.iload X33.here hx rfl (hb hby at_68) rfl  k) ?_
      show Gl _ _ _ _ (T33.setTop (mkF m 70 #[.val (.int w0), .val (.int w1), .val (.int w2), .val (.int w3), .val (.int w4), .val (.int w5), .val (.int nn), .val (.int x0), .val (.int x1), .val (.int x2), .val (.ref b4), .val (.ref b5), .val (.int (1 : Int32)), .unset, .unset, .unset, .unset] [(.int (1 : Int32)), (.ref b5)]))
      refine Gl.go (fun _ k => XS.iload X33.here hx rfl (hb hby at_70) rfl  k) ?_
      show Gl _ _ _ _ (T33.setTop (mkF m 72 #[.val (.int w0), .val (.int w1), .val (.int w2), .val (.int w3), .val (.int w4), .val (.int w5), .val (.int nn), .val (.int x0), .val (.int x1), .val (.int x2), .val (.ref b4), .val (.ref b5), .val (.int (1 : Int32)), .unset, .unset, .unset, .unset] [(.int x0), (.int (1 : Int32)), (.ref b5)]))
      refine Gl.go (fun _ k => XS.iconst X33.here hx rfl (hb hby at_72) k) ?_
      show Gl _ _ _ _ (T33.setTop (mkF m 73 #[.val (.int w0), .val (.int w1), .val (.int w2), .val (.int w3), .val (.int w4), .val (.int w5), .val (.int nn), .val (.int x0), .val (.int x1), .val (.int x2), .val (.ref b4), .val (.ref b5), .val (.int (1 : Int32)), .unset, .unset, .unset, .unset] [(.int (0 : Int32)), (.int x0), (.int (1 : Int32)), (.ref b5)]))
      refine Gl.go (fun _ k => XS.iload X33.here hx rfl (hb hby at_73) rfl  k) ?_
      show Gl _ _ _ _ (T33.setTop (mkF m 75 #[.val (.int w0), .val (.int w1), .val (.int w2), .val (.int w3), .val (.int w4), .val (.int w5), .val (.int nn), .val (.int x0), .val (.int x1), .val (.int x2), .val (.ref b4), .val (.ref b5), .val (.int (1 : Int32)), .unset, .unset, .unset, .unset] [(.int nn), (.int (0 : Int32)), (.int x0), (.int (1 : Int32)), (.ref b5)]))
      obtain ⟨_, _, ⟨T34, L34, k34, n34⟩, -, X34, ⟨Lc34, hQ34, l34, y34, z34⟩, st34⟩ := Jvm.LawKit.callS X33 hx (y := (⟨"com/example/aloud/aloud/PathPatternMatchesNoPathPinLaw", "add", "([BIBII)I"⟩ : MethodName)) hown (mvT hZ (hw _ (List.mem_of_getElem? (i := 8) rfl))) (mvT hZ (hw _ (List.mem_of_getElem? (i := 9) rfl))) (mvT hZ (hw _ (List.mem_of_getElem? (i := 2) rfl))) (mvT hZ (hw _ (List.mem_of_getElem? (i := 10) rfl))) (by decide) (backOf (W := 0) (rm_ad l Z a0 hw [] b5 cA5 l0 (1 : Int32) x0 (0 : Int32) nn h33 n0 SZ33 VB hlen0 (o_kb0 hk0) g_b5) hZ (hw _ (List.mem_of_getElem? (i := 10) rfl)) (hw _ (List.mem_of_getElem? (i := 2) rfl)) (by decide) (by decide)) (g := (mkF m 75 #[.val (.int w0), .val (.int w1), .val (.int w2), .val (.int w3), .val (.int w4), .val (.int w5), .val (.int nn), .val (.int x0), .val (.int x1), .val (.int x2), .val (.ref b4), .val (.ref b5), .val (.int (1 : Int32)), .unset, .unset, .unset, .unset] [(.int nn), (.int (0 : Int32)), (.int x0), (.int (1 : Int32)), (.ref b5)])) rfl (by rw [hml]; rfl) (argsL := [(.ref b5), (.int (1 : Int32)), (.int x0), (.int (0 : Int32)), (.int nn)]) (rest := []) (lenOf pd_11 rfl) rfl (by show 2 * 0 + _ ≤ _; exact Nat.le_of_eq rfl) (hb hby at_75) (fun _ _ => ⟨rfl, e33, (by decide : 2 + 0 ≤ _), (by decide : 8 + 0 ≤ _)⟩)
      dsimp only [Pt.U, Pt.locs, Pt.cells, Pt.slots] at X34 l34 y34 z34 st34 hQ34
      subst l34 y34 z34
      obtain ⟨rfl, Nq34, Kc34, Vc34⟩ := hQ34
      have N34 := Fr.app N33 Nq34
      refine Gl.go (fun _ k => st34 _ k) ?_
      have O__34 : Old Z n0 T34.heap := O__33.keep Kc34 (allS g_b5 all0)
      have V_b4_34 : Arv Z T34.heap b4 kc4 .byte (olZ nn) ((olL nn x0 x1 x2 (0 : Int32)).map Value.int) (.int (0 : Int32)) := V_b4_33.keep Kc34 (ninS ne_b4_b5 nin0)
      have SZ34 : n0 ≤ T34.heap.size := Nat.le_trans SZ33 Kc34.1
      have K34 : Keep h0 T34.heap [] := K33.trans Kc34 (allS (Or.inr sz_b5) all0)
      show Gl _ _ _ _ (T34.setTop (mkF m 78 #[.val (.int w0), .val (.int w1), .val (.int w2), .val (.int w3), .val (.int w4), .val (.int w5), .val (.int nn), .val (.int x0), .val (.int x1), .val (.int x2), .val (.ref b4), .val (.ref b5), .val (.int (1 : Int32)), .unset, .unset, .unset, .unset] [(.int (adK (1 : Int32) x0 (0 : Int32) nn))]))
      have hk1 := own_adK (k := (1 : Int32)) (y := x0) (i := (0 : Int32)) (n := nn) (o_kb0 hk0)
      have hlen1 := (own_adLen l0 (1 : Int32) x0 (0 : Int32) nn).trans hlen0
      have hz1 := own_ad0 (l := l0) (k := (1 : Int32)) (y := x0) (i := (0 : Int32)) (n := nn)
      generalize h_k1' : (adK (1 : Int32) x0 (0 : Int32) nn) = k1' at hk1 ⊢
      show Gl _ _ _ _ (T34.setTop (mkF m 78 #[.val (.int w0), .val (.int w1), .val (.int w2), .val (.int w3), .val (.int w4), .val (.int w5), .val (.int nn), .val (.int x0), .val (.int x1), .val (.int x2), .val (.ref b4), .val (.ref b5), .val (.int (1 : Int32)), .unset, .unset, .unset, .unset] [(.int k1')]))
      generalize h_l1 : (adL l0 (1 : Int32) x0 (0 : Int32) nn) = l1 at Vc34 hlen1 hz1
      have hkr1 := hk1
      have hk1 := o_kt0 hk0 hkr1
      refine Gl.go (fun _ k => XS.istore X34.here hx rfl (hb hby at_78) rfl (l' := #[.val (.int w0), .val (.int w1), .val (.int w2), .val (.int w3), .val (.int w4), .val (.int w5), .val (.int nn), .val (.int x0), .val (.int x1), .val (.int x2), .val (.ref b4), .val (.ref b5), .val (.int k1'), .unset, .unset, .unset, .unset]) rfl k) ?_
      show Gl _ _ _ _ (T34.setTop (mkF m 80 #[.val (.int w0), .val (.int w1), .val (.int w2), .val (.int w3), .val (.int w4), .val (.int w5), .val (.int nn), .val (.int x0), .val (.int x1), .val (.int x2), .val (.ref b4), .val (.ref b5), .val (.int k1'), .unset, .unset, .unset, .unset] []))
      refine Gl.go (fun _ k => XS.aload X34.here hx rfl (hb hby at_80) rfl rfl  k) ?_
      show Gl _ _ _ _ (T34.setTop (mkF m 82 #[.val (.int w0), .val (.int w1), .val (.int w2), .val (.int w3), .val (.int w4), .val (.int w5), .val (.int nn), .val (.int x0), .val (.int x1), .val (.int x2), .val (.ref b4), .val (.ref b5), .val (.int k1'), .unset, .unset, .unset, .unset] [(.ref b5)]))
      refine Gl.go (fun _ k => XS.iload X34.here hx rfl (hb hby at_82) rfl  k) ?_
      show Gl _ _ _ _ (T34.setTop (mkF m 84 #[.val (.int w0), .val (.int w1), .val (.int w2), .val (.int w3), .val (.int w4), .val (.int w5), .val (.int nn), .val (.int x0), .val (.int x1), .val (.int x2), .val (.ref b4), .val (.ref b5), .val (.int k1'), .unset, .unset, .unset, .unset] [(.int k1'), (.ref b5)]))
      refine Gl.go (fun _ k => XS.iload X34.here hx rfl (hb hby at_84) rfl  k) ?_
      show Gl _ _ _ _ (T34.setTop (mkF m 86 #[.val (.int w0), .val (.int w1), .val (.int w2), .val (.int w3), .val (.int w4), .val (.int w5), .val (.int nn), .val (.int x0), .val (.int x1), .val (.int x2), .val (.ref b4), .val (.ref b5), .val (.int k1'), .unset, .unset, .unset, .unset] [(.int x1), (.int k1'), (.ref b5)]))
      refine Gl.go (fun _ k => XS.iconst X34.here hx rfl (hb hby at_86) k) ?_
      show Gl _ _ _ _ (T34.setTop (mkF m 87 #[.val (.int w0), .val (.int w1), .val (.int w2), .val (.int w3), .val (.int w4), .val (.int w5), .val (.int nn), .val (.int x0), .val (.int x1), .val (.int x2), .val (.ref b4), .val (.ref b5), .val (.int k1'), .unset, .unset, .unset, .unset] [(.int (1 : Int32)), (.int x1), (.int k1'), (.ref b5)]))
      refine Gl.go (fun _ k => XS.iload X34.here hx rfl (hb hby at_87) rfl  k) ?_
      show Gl _ _ _ _ (T34.setTop (mkF m 89 #[.val (.int w0), .val (.int w1), .val (.int w2), .val (.int w3), .val (.int w4), .val (.int w5), .val (.int nn), .val (.int x0), .val (.int x1), .val (.int x2), .val (.ref b4), .val (.ref b5), .val (.int k1'), .unset, .unset, .unset, .unset] [(.int nn), (.int (1 : Int32)), (.int x1), (.int k1'), (.ref b5)]))
      obtain ⟨_, _, ⟨T35, L35, k35, n35⟩, -, X35, ⟨Lc35, hQ35, l35, y35, z35⟩, st35⟩ := Jvm.LawKit.callS X34 hx (y := (⟨"com/example/aloud/aloud/PathPatternMatchesNoPathPinLaw", "add", "([BIBII)I"⟩ : MethodName)) hown (mvT hZ (hw _ (List.mem_of_getElem? (i := 8) rfl))) (mvT hZ (hw _ (List.mem_of_getElem? (i := 9) rfl))) (mvT hZ (hw _ (List.mem_of_getElem? (i := 2) rfl))) (mvT hZ (hw _ (List.mem_of_getElem? (i := 10) rfl))) (by decide) (backOf (W := 0) (rm_ad l Z a0 hw [] b5 cA5 l1 k1' x1 (1 : Int32) nn T34.heap n0 SZ34 Vc34 hlen1 (o_kb1 hk1) g_b5) hZ (hw _ (List.mem_of_getElem? (i := 10) rfl)) (hw _ (List.mem_of_getElem? (i := 2) rfl)) (by decide) (by decide)) (g := (mkF m 89 #[.val (.int w0), .val (.int w1), .val (.int w2), .val (.int w3), .val (.int w4), .val (.int w5), .val (.int nn), .val (.int x0), .val (.int x1), .val (.int x2), .val (.ref b4), .val (.ref b5), .val (.int k1'), .unset, .unset, .unset, .unset] [(.int nn), (.int (1 : Int32)), (.int x1), (.int k1'), (.ref b5)])) rfl (by rw [hml]; rfl) (argsL := [(.ref b5), (.int k1'), (.int x1), (.int (1 : Int32)), (.int nn)]) (rest := []) (lenOf pd_11 rfl) rfl (by show 2 * 0 + _ ≤ _; exact Nat.le_of_eq rfl) (hb hby at_89) (fun _ _ => ⟨rfl, rfl, (by decide : 2 + 0 ≤ _), (by decide : 8 + 0 ≤ _)⟩)
      dsimp only [Pt.U, Pt.locs, Pt.cells, Pt.slots] at X35 l35 y35 z35 st35 hQ35
      subst l35 y35 z35
      obtain ⟨rfl, Nq35, Kc35, Vc35⟩ := hQ35
      have N35 := Fr.app N34 Nq35
      refine Gl.go (fun _ k => st35 _ k) ?_
      have O__35 : Old Z n0 T35.heap := O__34.keep Kc35 (allS g_b5 all0)
      have V_b4_35 : Arv Z T35.heap b4 kc4 .byte (olZ nn) ((olL nn x0 x1 x2 (0 : Int32)).map Value.int) (.int (0 : Int32)) := V_b4_34.keep Kc35 (ninS ne_b4_b5 nin0)
      have SZ35 : n0 ≤ T35.heap.size := Nat.le_trans SZ34 Kc35.1
      have K35 : Keep h0 T35.heap [] := K34.trans Kc35 (allS (Or.inr sz_b5) all0)
      show Gl _ _ _ _ (T35.setTop (mkF m 92 #[.val (.int w0), .val (.int w1), .val (.int w2), .val (.int w3), .val (.int w4), .val (.int w5), .val (.int nn), .val (.int x0), .val (.int x1), .val (.int x2), .val (.ref b4), .val (.ref b5), .val (.int k1'), .unset, .unset, .unset, .unset] [(.int (adK k1' x1 (1 : Int32) nn))]))
      have hk2 := own_adK (k := k1') (y := x1) (i := (1 : Int32)) (n := nn) (o_kb1 hk1)
      have hlen2 := (own_adLen l1 k1' x1 (1 : Int32) nn).trans hlen1
      have hz2 := own_ad0 (l := l1) (k := k1') (y := x1) (i := (1 : Int32)) (n := nn)
      generalize h_k2' : (adK k1' x1 (1 : Int32) nn) = k2' at hk2 ⊢
      show Gl _ _ _ _ (T35.setTop (mkF m 92 #[.val (.int w0), .val (.int w1), .val (.int w2), .val (.int w3), .val (.int w4), .val (.int w5), .val (.int nn), .val (.int x0), .val (.int x1), .val (.int x2), .val (.ref b4), .val (.ref b5), .val (.int k1'), .unset, .unset, .unset, .unset] [(.int k2')]))
      generalize h_l2 : (adL l1 k1' x1 (1 : Int32) nn) = l2 at Vc35 hlen2 hz2
      have hkr2 := hk2
      have hk2 := o_kt1 hk1 hkr2
      refine Gl.go (fun _ k => XS.istore X35.here hx rfl (hb hby at_92) rfl (l' := #[.val (.int w0), .val (.int w1), .val (.int w2), .val (.int w3), .val (.int w4), .val (.int w5), .val (.int nn), .val (.int x0), .val (.int x1), .val (.int x2), .val (.ref b4), .val (.ref b5), .val (.int k2'), .unset, .unset, .unset, .unset]) rfl k) ?_
      show Gl _ _ _ _ (T35.setTop (mkF m 94 #[.val (.int w0), .val (.int w1), .val (.int w2), .val (.int w3), .val (.int w4), .val (.int w5), .val (.int nn), .val (.int x0), .val (.int x1), .val (.int x2), .val (.ref b4), .val (.ref b5), .val (.int k2'), .unset, .unset, .unset, .unset] []))
      refine Gl.go (fun _ k => XS.aload X35.here hx rfl (hb hby at_94) rfl rfl  k) ?_
      show Gl _ _ _ _ (T35.setTop (mkF m 96 #[.val (.int w0), .val (.int w1), .val (.int w2), .val (.int w3), .val (.int w4), .val (.int w5), .val (.int nn), .val (.int x0), .val (.int x1), .val (.int x2), .val (.ref b4), .val (.ref b5), .val (.int k2'), .unset, .unset, .unset, .unset] [(.ref b5)]))
      refine Gl.go (fun _ k => XS.iload X35.here hx rfl (hb hby at_96) rfl  k) ?_
      show Gl _ _ _ _ (T35.setTop (mkF m 98 #[.val (.int w0), .val (.int w1), .val (.int w2), .val (.int w3), .val (.int w4), .val (.int w5), .val (.int nn), .val (.int x0), .val (.int x1), .val (.int x2), .val (.ref b4), .val (.ref b5), .val (.int k2'), .unset, .unset, .unset, .unset] [(.int k2'), (.ref b5)]))
      refine Gl.go (fun _ k => XS.iload X35.here hx rfl (hb hby at_98) rfl  k) ?_
      show Gl _ _ _ _ (T35.setTop (mkF m 100 #[.val (.int w0), .val (.int w1), .val (.int w2), .val (.int w3), .val (.int w4), .val (.int w5), .val (.int nn), .val (.int x0), .val (.int x1), .val (.int x2), .val (.ref b4), .val (.ref b5), .val (.int k2'), .unset, .unset, .unset, .unset] [(.int x2), (.int k2'), (.ref b5)]))
      refine Gl.go (fun _ k => XS.iconst X35.here hx rfl (hb hby at_100) k) ?_
      show Gl _ _ _ _ (T35.setTop (mkF m 101 #[.val (.int w0), .val (.int w1), .val (.int w2), .val (.int w3), .val (.int w4), .val (.int w5), .val (.int nn), .val (.int x0), .val (.int x1), .val (.int x2), .val (.ref b4), .val (.ref b5), .val (.int k2'), .unset, .unset, .unset, .unset] [(.int (2 : Int32)), (.int x2), (.int k2'), (.ref b5)]))
      refine Gl.go (fun _ k => XS.iload X35.here hx rfl (hb hby at_101) rfl  k) ?_
      show Gl _ _ _ _ (T35.setTop (mkF m 103 #[.val (.int w0), .val (.int w1), .val (.int w2), .val (.int w3), .val (.int w4), .val (.int w5), .val (.int nn), .val (.int x0), .val (.int x1), .val (.int x2), .val (.ref b4), .val (.ref b5), .val (.int k2'), .unset, .unset, .unset, .unset] [(.int nn), (.int (2 : Int32)), (.int x2), (.int k2'), (.ref b5)]))
      obtain ⟨_, _, ⟨T36, L36, k36, n36⟩, -, X36, ⟨Lc36, hQ36, l36, y36, z36⟩, st36⟩ := Jvm.LawKit.callS X35 hx (y := (⟨"com/example/aloud/aloud/PathPatternMatchesNoPathPinLaw", "add", "([BIBII)I"⟩ : MethodName)) hown (mvT hZ (hw _ (List.mem_of_getElem? (i := 8) rfl))) (mvT hZ (hw _ (List.mem_of_getElem? (i := 9) rfl))) (mvT hZ (hw _ (List.mem_of_getElem? (i := 2) rfl))) (mvT hZ (hw _ (List.mem_of_getElem? (i := 10) rfl))) (by decide) (backOf (W := 0) (rm_ad l Z a0 hw [] b5 cA5 l2 k2' x2 (2 : Int32) nn T35.heap n0 SZ35 Vc35 hlen2 (o_kb2 hk2) g_b5) hZ (hw _ (List.mem_of_getElem? (i := 10) rfl)) (hw _ (List.mem_of_getElem? (i := 2) rfl)) (by decide) (by decide)) (g := (mkF m 103 #[.val (.int w0), .val (.int w1), .val (.int w2), .val (.int w3), .val (.int w4), .val (.int w5), .val (.int nn), .val (.int x0), .val (.int x1), .val (.int x2), .val (.ref b4), .val (.ref b5), .val (.int k2'), .unset, .unset, .unset, .unset] [(.int nn), (.int (2 : Int32)), (.int x2), (.int k2'), (.ref b5)])) rfl (by rw [hml]; rfl) (argsL := [(.ref b5), (.int k2'), (.int x2), (.int (2 : Int32)), (.int nn)]) (rest := []) (lenOf pd_11 rfl) rfl (by show 2 * 0 + _ ≤ _; exact Nat.le_of_eq rfl) (hb hby at_103) (fun _ _ => ⟨rfl, rfl, (by decide : 2 + 0 ≤ _), (by decide : 8 + 0 ≤ _)⟩)
      dsimp only [Pt.U, Pt.locs, Pt.cells, Pt.slots] at X36 l36 y36 z36 st36 hQ36
      subst l36 y36 z36
      obtain ⟨rfl, Nq36, Kc36, Vc36⟩ := hQ36
      have N36 := Fr.app N35 Nq36
      refine Gl.go (fun _ k => st36 _ k) ?_
      have O__36 : Old Z n0 T36.heap := O__35.keep Kc36 (allS g_b5 all0)
      have V_b4_36 : Arv Z T36.heap b4 kc4 .byte (olZ nn) ((olL nn x0 x1 x2 (0 : Int32)).map Value.int) (.int (0 : Int32)) := V_b4_35.keep Kc36 (ninS ne_b4_b5 nin0)
      have SZ36 : n0 ≤ T36.heap.size := Nat.le_trans SZ35 Kc36.1
      have K36 : Keep h0 T36.heap [] := K35.trans Kc36 (allS (Or.inr sz_b5) all0)
      show Gl _ _ _ _ (T36.setTop (mkF m 106 #[.val (.int w0), .val (.int w1), .val (.int w2), .val (.int w3), .val (.int w4), .val (.int w5), .val (.int nn), .val (.int x0), .val (.int x1), .val (.int x2), .val (.ref b4), .val (.ref b5), .val (.int k2'), .unset, .unset, .unset, .unset] [(.int (adK k2' x2 (2 : Int32) nn))]))
      have hk3 := own_adK (k := k2') (y := x2) (i := (2 : Int32)) (n := nn) (o_kb2 hk2)
      have hlen3 := (own_adLen l2 k2' x2 (2 : Int32) nn).trans hlen2
      have hz3 := own_ad0 (l := l2) (k := k2') (y := x2) (i := (2 : Int32)) (n := nn)
      generalize h_k3' : (adK k2' x2 (2 : Int32) nn) = k3' at hk3 ⊢
      show Gl _ _ _ _ (T36.setTop (mkF m 106 #[.val (.int w0), .val (.int w1), .val (.int w2), .val (.int w3), .val (.int w4), .val (.int w5), .val (.int nn), .val (.int x0), .val (.int x1), .val (.int x2), .val (.ref b4), .val (.ref b5), .val (.int k2'), .unset, .unset, .unset, .unset] [(.int k3')]))
      generalize h_l3 : (adL l2 k2' x2 (2 : Int32) nn) = l3 at Vc36 hlen3 hz3
      have hkr3 := hk3
      have hk3 := o_kt2 hk2 hkr3
      refine Gl.go (fun _ k => XS.istore X36.here hx rfl (hb hby at_106) rfl (l' := #[.val (.int w0), .val (.int w1), .val (.int w2), .val (.int w3), .val (.int w4), .val (.int w5), .val (.int nn), .val (.int x0), .val (.int x1), .val (.int x2), .val (.ref b4), .val (.ref b5), .val (.int k3'), .unset, .unset, .unset, .unset]) rfl k) ?_
      show Gl _ _ _ _ (T36.setTop (mkF m 108 #[.val (.int w0), .val (.int w1), .val (.int w2), .val (.int w3), .val (.int w4), .val (.int w5), .val (.int nn), .val (.int x0), .val (.int x1), .val (.int x2), .val (.ref b4), .val (.ref b5), .val (.int k3'), .unset, .unset, .unset, .unset] []))
      refine Gl.go (fun _ k => XS.iload X36.here hx rfl (hb hby at_108) rfl  k) ?_
      show Gl _ _ _ _ (T36.setTop (mkF m 110 #[.val (.int w0), .val (.int w1), .val (.int w2), .val (.int w3), .val (.int w4), .val (.int w5), .val (.int nn), .val (.int x0), .val (.int x1), .val (.int x2), .val (.ref b4), .val (.ref b5), .val (.int k3'), .unset, .unset, .unset, .unset] [(.int k3')]))
      refine Gl.go (fun _ k => XS.aload X36.here hx rfl (hb hby at_110) rfl rfl  k) ?_
      show Gl _ _ _ _ (T36.setTop (mkF m 112 #[.val (.int w0), .val (.int w1), .val (.int w2), .val (.int w3), .val (.int w4), .val (.int w5), .val (.int nn), .val (.int x0), .val (.int x1), .val (.int x2), .val (.ref b4), .val (.ref b5), .val (.int k3'), .unset, .unset, .unset, .unset] [(.ref b5), (.int k3')]))
      refine Gl.go (fun _ k => XS.iconst X36.here hx rfl (hb hby at_112) k) ?_
      show Gl _ _ _ _ (T36.setTop (mkF m 113 #[.val (.int w0), .val (.int w1), .val (.int w2), .val (.int w3), .val (.int w4), .val (.int w5), .val (.int nn), .val (.int x0), .val (.int x1), .val (.int x2), .val (.ref b4), .val (.ref b5), .val (.int k3'), .unset, .unset, .unset, .unset] [(.int (0 : Int32)), (.ref b5), (.int k3')]))
      obtain ⟨cl37, Ar37, qA37, SA37, NA37, HA37, GA37⟩ := id Vc36
      have hin37 := inb_of (j := (0 : Int32)) SA37 ⟨by decide, by decide⟩
      have hat37 : cl37.slots[((0 : Int32)).toNatClampNeg]? = some (.int (gL l3 (0 : Int32))) := HA37.at hin37 (own_gl l3 (0 : Int32))
      refine Gl.go (fun _ k => X36.baloadBytes hx (j := (0 : Int32)) (v := (.int (gL l3 (0 : Int32)))) Ar37.1 (State.isArrayOf_alike hZ.alike Ar37.2.1) Ar37.2.2 hin37 hat37 (g := (mkF m 113 #[.val (.int w0), .val (.int w1), .val (.int w2), .val (.int w3), .val (.int w4), .val (.int w5), .val (.int nn), .val (.int x0), .val (.int x1), .val (.int x2), .val (.ref b4), .val (.ref b5), .val (.int k3'), .unset, .unset, .unset, .unset] [(.int (0 : Int32)), (.ref b5), (.int k3')])) rfl rfl (hb hby at_113) _ k) ?_
      show Gl _ _ _ _ (T36.setTop (mkF m 114 #[.val (.int w0), .val (.int w1), .val (.int w2), .val (.int w3), .val (.int w4), .val (.int w5), .val (.int nn), .val (.int x0), .val (.int x1), .val (.int x2), .val (.ref b4), .val (.ref b5), .val (.int k3'), .unset, .unset, .unset, .unset] [(.int (gL l3 (0 : Int32))), (.int k3')]))
      refine Gl.go (fun _ k => XS.aload X36.here hx rfl (hb hby at_114) rfl rfl  k) ?_
      show Gl _ _ _ _ (T36.setTop (mkF m 116 #[.val (.int w0), .val (.int w1), .val (.int w2), .val (.int w3), .val (.int w4), .val (.int w5), .val (.int nn), .val (.int x0), .val (.int x1), .val (.int x2), .val (.ref b4), .val (.ref b5), .val (.int k3'), .unset, .unset, .unset, .unset] [(.ref b5), (.int (gL l3 (0 : Int32))), (.int k3')]))
      refine Gl.go (fun _ k => XS.iconst X36.here hx rfl (hb hby at_116) k) ?_
      show Gl _ _ _ _ (T36.setTop (mkF m 117 #[.val (.int w0), .val (.int w1), .val (.int w2), .val (.int w3), .val (.int w4), .val (.int w5), .val (.int nn), .val (.int x0), .val (.int x1), .val (.int x2), .val (.ref b4), .val (.ref b5), .val (.int k3'), .unset, .unset, .unset, .unset] [(.int (1 : Int32)), (.ref b5), (.int (gL l3 (0 : Int32))), (.int k3')]))
      obtain ⟨cl38, Ar38, qA38, SA38, NA38, HA38, GA38⟩ := id Vc36
      have hin38 := inb_of (j := (1 : Int32)) SA38 ⟨by decide, by decide⟩
      have hat38 : cl38.slots[((1 : Int32)).toNatClampNeg]? = some (.int (gL l3 (1 : Int32))) := HA38.at hin38 (own_gl l3 (1 : Int32))
      refine Gl.go (fun _ k => X36.baloadBytes hx (j := (1 : Int32)) (v := (.int (gL l3 (1 : Int32)))) Ar38.1 (State.isArrayOf_alike hZ.alike Ar38.2.1) Ar38.2.2 hin38 hat38 (g := (mkF m 117 #[.val (.int w0), .val (.int w1), .val (.int w2), .val (.int w3), .val (.int w4), .val (.int w5), .val (.int nn), .val (.int x0), .val (.int x1), .val (.int x2), .val (.ref b4), .val (.ref b5), .val (.int k3'), .unset, .unset, .unset, .unset] [(.int (1 : Int32)), (.ref b5), (.int (gL l3 (0 : Int32))), (.int k3')])) rfl rfl (hb hby at_117) _ k) ?_
      show Gl _ _ _ _ (T36.setTop (mkF m 118 #[.val (.int w0), .val (.int w1), .val (.int w2), .val (.int w3), .val (.int w4), .val (.int w5), .val (.int nn), .val (.int x0), .val (.int x1), .val (.int x2), .val (.ref b4), .val (.ref b5), .val (.int k3'), .unset, .unset, .unset, .unset] [(.int (gL l3 (1 : Int32))), (.int (gL l3 (0 : Int32))), (.int k3')]))
      refine Gl.go (fun _ k => XS.aload X36.here hx rfl (hb hby at_118) rfl rfl  k) ?_
      show Gl _ _ _ _ (T36.setTop (mkF m 120 #[.val (.int w0), .val (.int w1), .val (.int w2), .val (.int w3), .val (.int w4), .val (.int w5), .val (.int nn), .val (.int x0), .val (.int x1), .val (.int x2), .val (.ref b4), .val (.ref b5), .val (.int k3'), .unset, .unset, .unset, .unset] [(.ref b5), (.int (gL l3 (1 : Int32))), (.int (gL l3 (0 : Int32))), (.int k3')]))
      refine Gl.go (fun _ k => XS.iconst X36.here hx rfl (hb hby at_120) k) ?_
      show Gl _ _ _ _ (T36.setTop (mkF m 121 #[.val (.int w0), .val (.int w1), .val (.int w2), .val (.int w3), .val (.int w4), .val (.int w5), .val (.int nn), .val (.int x0), .val (.int x1), .val (.int x2), .val (.ref b4), .val (.ref b5), .val (.int k3'), .unset, .unset, .unset, .unset] [(.int (2 : Int32)), (.ref b5), (.int (gL l3 (1 : Int32))), (.int (gL l3 (0 : Int32))), (.int k3')]))
      obtain ⟨cl39, Ar39, qA39, SA39, NA39, HA39, GA39⟩ := id Vc36
      have hin39 := inb_of (j := (2 : Int32)) SA39 ⟨by decide, by decide⟩
      have hat39 : cl39.slots[((2 : Int32)).toNatClampNeg]? = some (.int (gL l3 (2 : Int32))) := HA39.at hin39 (own_gl l3 (2 : Int32))
      refine Gl.go (fun _ k => X36.baloadBytes hx (j := (2 : Int32)) (v := (.int (gL l3 (2 : Int32)))) Ar39.1 (State.isArrayOf_alike hZ.alike Ar39.2.1) Ar39.2.2 hin39 hat39 (g := (mkF m 121 #[.val (.int w0), .val (.int w1), .val (.int w2), .val (.int w3), .val (.int w4), .val (.int w5), .val (.int nn), .val (.int x0), .val (.int x1), .val (.int x2), .val (.ref b4), .val (.ref b5), .val (.int k3'), .unset, .unset, .unset, .unset] [(.int (2 : Int32)), (.ref b5), (.int (gL l3 (1 : Int32))), (.int (gL l3 (0 : Int32))), (.int k3')])) rfl rfl (hb hby at_121) _ k) ?_
      show Gl _ _ _ _ (T36.setTop (mkF m 122 #[.val (.int w0), .val (.int w1), .val (.int w2), .val (.int w3), .val (.int w4), .val (.int w5), .val (.int nn), .val (.int x0), .val (.int x1), .val (.int x2), .val (.ref b4), .val (.ref b5), .val (.int k3'), .unset, .unset, .unset, .unset] [(.int (gL l3 (2 : Int32))), (.int (gL l3 (1 : Int32))), (.int (gL l3 (0 : Int32))), (.int k3')]))
      refine Gl.go (fun _ k => XS.aload X36.here hx rfl (hb hby at_122) rfl rfl  k) ?_
      show Gl _ _ _ _ (T36.setTop (mkF m 124 #[.val (.int w0), .val (.int w1), .val (.int w2), .val (.int w3), .val (.int w4), .val (.int w5), .val (.int nn), .val (.int x0), .val (.int x1), .val (.int x2), .val (.ref b4), .val (.ref b5), .val (.int k3'), .unset, .unset, .unset, .unset] [(.ref b5), (.int (gL l3 (2 : Int32))), (.int (gL l3 (1 : Int32))), (.int (gL l3 (0 : Int32))), (.int k3')]))
      refine Gl.go (fun _ k => XS.iconst X36.here hx rfl (hb hby at_124) k) ?_
      show Gl _ _ _ _ (T36.setTop (mkF m 125 #[.val (.int w0), .val (.int w1), .val (.int w2), .val (.int w3), .val (.int w4), .val (.int w5), .val (.int nn), .val (.int x0), .val (.int x1), .val (.int x2), .val (.ref b4), .val (.ref b5), .val (.int k3'), .unset, .unset, .unset, .unset] [(.int (3 : Int32)), (.ref b5), (.int (gL l3 (2 : Int32))), (.int (gL l3 (1 : Int32))), (.int (gL l3 (0 : Int32))), (.int k3')]))
      obtain ⟨cl40, Ar40, qA40, SA40, NA40, HA40, GA40⟩ := id Vc36
      have hin40 := inb_of (j := (3 : Int32)) SA40 ⟨by decide, by decide⟩
      have hat40 : cl40.slots[((3 : Int32)).toNatClampNeg]? = some (.int (gL l3 (3 : Int32))) := HA40.at hin40 (own_gl l3 (3 : Int32))
      refine Gl.go (fun _ k => X36.baloadBytes hx (j := (3 : Int32)) (v := (.int (gL l3 (3 : Int32)))) Ar40.1 (State.isArrayOf_alike hZ.alike Ar40.2.1) Ar40.2.2 hin40 hat40 (g := (mkF m 125 #[.val (.int w0), .val (.int w1), .val (.int w2), .val (.int w3), .val (.int w4), .val (.int w5), .val (.int nn), .val (.int x0), .val (.int x1), .val (.int x2), .val (.ref b4), .val (.ref b5), .val (.int k3'), .unset, .unset, .unset, .unset] [(.int (3 : Int32)), (.ref b5), (.int (gL l3 (2 : Int32))), (.int (gL l3 (1 : Int32))), (.int (gL l3 (0 : Int32))), (.int k3')])) rfl rfl (hb hby at_125) _ k) ?_
      show Gl _ _ _ _ (T36.setTop (mkF m 126 #[.val (.int w0), .val (.int w1), .val (.int w2), .val (.int w3), .val (.int w4), .val (.int w5), .val (.int nn), .val (.int x0), .val (.int x1), .val (.int x2), .val (.ref b4), .val (.ref b5), .val (.int k3'), .unset, .unset, .unset, .unset] [(.int (gL l3 (3 : Int32))), (.int (gL l3 (2 : Int32))), (.int (gL l3 (1 : Int32))), (.int (gL l3 (0 : Int32))), (.int k3')]))
      obtain ⟨_, _, ⟨T41, L41, k41, n41⟩, -, X41, ⟨Lc41, hQ41, l41, y41, z41⟩, st41⟩ := Jvm.LawKit.callS X36 hx (y := (⟨"com/example/aloud/aloud/PathPatternMatchesNoPathPinLaw", "ofLen", "(IBBBB)[B"⟩ : MethodName)) hown (mvT hZ (hw _ (List.mem_of_getElem? (i := 4) rfl))) (mvT hZ (hw _ (List.mem_of_getElem? (i := 5) rfl))) (mvT hZ (hw _ (List.mem_of_getElem? (i := 2) rfl))) (mvT hZ (hw _ (List.mem_of_getElem? (i := 6) rfl))) (by decide) (backOf (W := 0) (rm_ol l Z a0 hw [] k3' (gL l3 (0 : Int32)) (gL l3 (1 : Int32)) (gL l3 (2 : Int32)) (gL l3 (3 : Int32)) T36.heap n0 SZ36 ) hZ (hw _ (List.mem_of_getElem? (i := 6) rfl)) (hw _ (List.mem_of_getElem? (i := 2) rfl)) (by decide) (by decide)) (g := (mkF m 126 #[.val (.int w0), .val (.int w1), .val (.int w2), .val (.int w3), .val (.int w4), .val (.int w5), .val (.int nn), .val (.int x0), .val (.int x1), .val (.int x2), .val (.ref b4), .val (.ref b5), .val (.int k3'), .unset, .unset, .unset, .unset] [(.int (gL l3 (3 : Int32))), (.int (gL l3 (2 : Int32))), (.int (gL l3 (1 : Int32))), (.int (gL l3 (0 : Int32))), (.int k3')])) rfl (by rw [hml]; rfl) (argsL := [(.int k3'), (.int (gL l3 (0 : Int32))), (.int (gL l3 (1 : Int32))), (.int (gL l3 (2 : Int32))), (.int (gL l3 (3 : Int32)))]) (rest := []) (lenOf pd_10 rfl) rfl (by show 2 * 0 + _ ≤ _; exact Nat.le_of_eq rfl) (hb hby at_126) (fun _ _ => ⟨rfl, rfl, (by decide : 2 + 1 ≤ _), (by decide : 8 + 4 ≤ _)⟩)
      dsimp only [Pt.U, Pt.locs, Pt.cells, Pt.slots] at X41 l41 y41 z41 st41 hQ41
      subst l41 y41 z41
      obtain ⟨b41, rfl, Nq41, Kc41, gz41, kc41, Vc41⟩ := hQ41
      have N41 := Fr.app N36 Nq41
      refine Gl.go (fun _ k => st41 _ k) ?_
      have Ex41 := ext_of_keep Kc41
      have O__41 : Old Z n0 T41.heap := O__36.ext Ex41
      have V_b4_41 : Arv Z T41.heap b4 kc4 .byte (olZ nn) ((olL nn x0 x1 x2 (0 : Int32)).map Value.int) (.int (0 : Int32)) := V_b4_36.ext Ex41
      have V_b5_41 : Arv Z T41.heap b5 cA5 .byte (4 : Int32) (l3.map Value.int) (.int (0 : Int32)) := Vc36.ext Ex41
      have SZ41 : n0 ≤ T41.heap.size := Nat.le_trans SZ36 Ex41.1
      have K41 : Keep h0 T41.heap [] := K36.ext Ex41
      show Gl _ _ _ _ (T41.setTop (mkF m 129 #[.val (.int w0), .val (.int w1), .val (.int w2), .val (.int w3), .val (.int w4), .val (.int w5), .val (.int nn), .val (.int x0), .val (.int x1), .val (.int x2), .val (.ref b4), .val (.ref b5), .val (.int k3'), .unset, .unset, .unset, .unset] [(.ref b41)]))
      refine Gl.go (fun _ k => XS.astore X41.here hx rfl (hb hby at_129) rfl rfl (l' := #[.val (.int w0), .val (.int w1), .val (.int w2), .val (.int w3), .val (.int w4), .val (.int w5), .val (.int nn), .val (.int x0), .val (.int x1), .val (.int x2), .val (.ref b4), .val (.ref b5), .val (.int k3'), .val (.ref b41), .unset, .unset, .unset]) rfl k) ?_
      show Gl _ _ _ _ (T41.setTop (mkF m 131 #[.val (.int w0), .val (.int w1), .val (.int w2), .val (.int w3), .val (.int w4), .val (.int w5), .val (.int nn), .val (.int x0), .val (.int x1), .val (.int x2), .val (.ref b4), .val (.ref b5), .val (.int k3'), .val (.ref b41), .unset, .unset, .unset] []))
      refine Gl.go (fun _ k => XS.iconst X41.here hx rfl (hb hby at_131) k) ?_
      show Gl _ _ _ _ (T41.setTop (mkF m 132 #[.val (.int w0), .val (.int w1), .val (.int w2), .val (.int w3), .val (.int w4), .val (.int w5), .val (.int nn), .val (.int x0), .val (.int x1), .val (.int x2), .val (.ref b4), .val (.ref b5), .val (.int k3'), .val (.ref b41), .unset, .unset, .unset] [(.int (1 : Int32))]))
      refine Gl.go (fun _ k => XS.iloadN X41.here hx rfl (hb hby at_132) rfl  k) ?_
      show Gl _ _ _ _ (T41.setTop (mkF m 133 #[.val (.int w0), .val (.int w1), .val (.int w2), .val (.int w3), .val (.int w4), .val (.int w5), .val (.int nn), .val (.int x0), .val (.int x1), .val (.int x2), .val (.ref b4), .val (.ref b5), .val (.int k3'), .val (.ref b41), .unset, .unset, .unset] [(.int w0), (.int (1 : Int32))]))
      refine Gl.go (fun _ k => XS.iconst X41.here hx rfl (hb hby at_133) k) ?_
      show Gl _ _ _ _ (T41.setTop (mkF m 134 #[.val (.int w0), .val (.int w1), .val (.int w2), .val (.int w3), .val (.int w4), .val (.int w5), .val (.int nn), .val (.int x0), .val (.int x1), .val (.int x2), .val (.ref b4), .val (.ref b5), .val (.int k3'), .val (.ref b41), .unset, .unset, .unset] [(.int (2 : Int32)), (.int w0), (.int (1 : Int32))]))
      refine Gl.go (fun _ k => XS.iushr X41.here hx rfl (hb hby at_134) rfl k) ?_
      show Gl _ _ _ _ (T41.setTop (mkF m 135 #[.val (.int w0), .val (.int w1), .val (.int w2), .val (.int w3), .val (.int w4), .val (.int w5), .val (.int nn), .val (.int x0), .val (.int x1), .val (.int x2), .val (.ref b4), .val (.ref b5), .val (.int k3'), .val (.ref b41), .unset, .unset, .unset] [(.int ((w0.toUInt32 >>> ((2 : Int32) &&& 31).toUInt32).toInt32)), (.int (1 : Int32))]))
      refine Gl.go (fun _ k => XS.iconst X41.here hx rfl (hb hby at_135) k) ?_
      show Gl _ _ _ _ (T41.setTop (mkF m 136 #[.val (.int w0), .val (.int w1), .val (.int w2), .val (.int w3), .val (.int w4), .val (.int w5), .val (.int nn), .val (.int x0), .val (.int x1), .val (.int x2), .val (.ref b4), .val (.ref b5), .val (.int k3'), .val (.ref b41), .unset, .unset, .unset] [(.int (1 : Int32)), (.int ((w0.toUInt32 >>> ((2 : Int32) &&& 31).toUInt32).toInt32)), (.int (1 : Int32))]))
      refine Gl.go (fun _ k => XS.iand X41.here hx rfl (hb hby at_136) rfl k) ?_
      show Gl _ _ _ _ (T41.setTop (mkF m 137 #[.val (.int w0), .val (.int w1), .val (.int w2), .val (.int w3), .val (.int w4), .val (.int w5), .val (.int nn), .val (.int x0), .val (.int x1), .val (.int x2), .val (.ref b4), .val (.ref b5), .val (.int k3'), .val (.ref b41), .unset, .unset, .unset] [(.int (((w0.toUInt32 >>> ((2 : Int32) &&& 31).toUInt32).toInt32) &&& (1 : Int32))), (.int (1 : Int32))]))
      refine Gl.go (fun _ k => XS.iadd X41.here hx rfl (hb hby at_137) rfl k) ?_
      show Gl _ _ _ _ (T41.setTop (mkF m 138 #[.val (.int w0), .val (.int w1), .val (.int w2), .val (.int w3), .val (.int w4), .val (.int w5), .val (.int nn), .val (.int x0), .val (.int x1), .val (.int x2), .val (.ref b4), .val (.ref b5), .val (.int k3'), .val (.ref b41), .unset, .unset, .unset] [(.int ((1 : Int32) + (((w0.toUInt32 >>> ((2 : Int32) &&& 31).toUInt32).toInt32) &&& (1 : Int32))))]))
      refine Gl.go (fun _ k => XS.iloadN X41.here hx rfl (hb hby at_138) rfl  k) ?_
      show Gl _ _ _ _ (T41.setTop (mkF m 139 #[.val (.int w0), .val (.int w1), .val (.int w2), .val (.int w3), .val (.int w4), .val (.int w5), .val (.int nn), .val (.int x0), .val (.int x1), .val (.int x2), .val (.ref b4), .val (.ref b5), .val (.int k3'), .val (.ref b41), .unset, .unset, .unset] [(.int w0), (.int ((1 : Int32) + (((w0.toUInt32 >>> ((2 : Int32) &&& 31).toUInt32).toInt32) &&& (1 : Int32))))]))
      refine Gl.go (fun _ k => XS.iconst X41.here hx rfl (hb hby at_139) k) ?_
      show Gl _ _ _ _ (T41.setTop (mkF m 140 #[.val (.int w0), .val (.int w1), .val (.int w2), .val (.int w3), .val (.int w4), .val (.int w5), .val (.int nn), .val (.int x0), .val (.int x1), .val (.int x2), .val (.ref b4), .val (.ref b5), .val (.int k3'), .val (.ref b41), .unset, .unset, .unset] [(.int (3 : Int32)), (.int w0), (.int ((1 : Int32) + (((w0.toUInt32 >>> ((2 : Int32) &&& 31).toUInt32).toInt32) &&& (1 : Int32))))]))
      refine Gl.go (fun _ k => XS.iushr X41.here hx rfl (hb hby at_140) rfl k) ?_
      show Gl _ _ _ _ (T41.setTop (mkF m 141 #[.val (.int w0), .val (.int w1), .val (.int w2), .val (.int w3), .val (.int w4), .val (.int w5), .val (.int nn), .val (.int x0), .val (.int x1), .val (.int x2), .val (.ref b4), .val (.ref b5), .val (.int k3'), .val (.ref b41), .unset, .unset, .unset] [(.int ((w0.toUInt32 >>> ((3 : Int32) &&& 31).toUInt32).toInt32)), (.int ((1 : Int32) + (((w0.toUInt32 >>> ((2 : Int32) &&& 31).toUInt32).toInt32) &&& (1 : Int32))))]))
      refine Gl.go (fun _ k => XS.iconst X41.here hx rfl (hb hby at_141) k) ?_
      show Gl _ _ _ _ (T41.setTop (mkF m 142 #[.val (.int w0), .val (.int w1), .val (.int w2), .val (.int w3), .val (.int w4), .val (.int w5), .val (.int nn), .val (.int x0), .val (.int x1), .val (.int x2), .val (.ref b4), .val (.ref b5), .val (.int k3'), .val (.ref b41), .unset, .unset, .unset] [(.int (1 : Int32)), (.int ((w0.toUInt32 >>> ((3 : Int32) &&& 31).toUInt32).toInt32)), (.int ((1 : Int32) + (((w0.toUInt32 >>> ((2 : Int32) &&& 31).toUInt32).toInt32) &&& (1 : Int32))))]))
      refine Gl.go (fun _ k => XS.iand X41.here hx rfl (hb hby at_142) rfl k) ?_
      show Gl _ _ _ _ (T41.setTop (mkF m 143 #[.val (.int w0), .val (.int w1), .val (.int w2), .val (.int w3), .val (.int w4), .val (.int w5), .val (.int nn), .val (.int x0), .val (.int x1), .val (.int x2), .val (.ref b4), .val (.ref b5), .val (.int k3'), .val (.ref b41), .unset, .unset, .unset] [(.int (((w0.toUInt32 >>> ((3 : Int32) &&& 31).toUInt32).toInt32) &&& (1 : Int32))), (.int ((1 : Int32) + (((w0.toUInt32 >>> ((2 : Int32) &&& 31).toUInt32).toInt32) &&& (1 : Int32))))]))
      refine Gl.go (fun _ k => XS.iadd X41.here hx rfl (hb hby at_143) rfl k) ?_
      show Gl _ _ _ _ (T41.setTop (mkF m 144 #[.val (.int w0), .val (.int w1), .val (.int w2), .val (.int w3), .val (.int w4), .val (.int w5), .val (.int nn), .val (.int x0), .val (.int x1), .val (.int x2), .val (.ref b4), .val (.ref b5), .val (.int k3'), .val (.ref b41), .unset, .unset, .unset] [(.int (((1 : Int32) + (((w0.toUInt32 >>> ((2 : Int32) &&& 31).toUInt32).toInt32) &&& (1 : Int32))) + (((w0.toUInt32 >>> ((3 : Int32) &&& 31).toUInt32).toInt32) &&& (1 : Int32))))]))
      refine Gl.go (fun _ k => XS.istore X41.here hx rfl (hb hby at_144) rfl (l' := #[.val (.int w0), .val (.int w1), .val (.int w2), .val (.int w3), .val (.int w4), .val (.int w5), .val (.int nn), .val (.int x0), .val (.int x1), .val (.int x2), .val (.ref b4), .val (.ref b5), .val (.int k3'), .val (.ref b41), .val (.int (((1 : Int32) + (((w0.toUInt32 >>> ((2 : Int32) &&& 31).toUInt32).toInt32) &&& (1 : Int32))) + (((w0.toUInt32 >>> ((3 : Int32) &&& 31).toUInt32).toInt32) &&& (1 : Int32)))), .unset, .unset]) rfl k) ?_
      show Gl _ _ _ _ (T41.setTop (mkF m 146 #[.val (.int w0), .val (.int w1), .val (.int w2), .val (.int w3), .val (.int w4), .val (.int w5), .val (.int nn), .val (.int x0), .val (.int x1), .val (.int x2), .val (.ref b4), .val (.ref b5), .val (.int k3'), .val (.ref b41), .val (.int (((1 : Int32) + (((w0.toUInt32 >>> ((2 : Int32) &&& 31).toUInt32).toInt32) &&& (1 : Int32))) + (((w0.toUInt32 >>> ((3 : Int32) &&& 31).toUInt32).toInt32) &&& (1 : Int32)))), .unset, .unset] []))
      have hpl := own_pl ((w0.toUInt32 >>> ((2 : Int32) &&& 31).toUInt32).toInt32) ((w0.toUInt32 >>> ((3 : Int32) &&& 31).toUInt32).toInt32)
      generalize h_pl : (((1 : Int32) + (((w0.toUInt32 >>> ((2 : Int32) &&& 31).toUInt32).toInt32) &&& (1 : Int32))) + (((w0.toUInt32 >>> ((3 : Int32) &&& 31).toUInt32).toInt32) &&& (1 : Int32))) = pl at hpl ⊢
      show Gl _ _ _ _ (T41.setTop (mkF m 146 #[.val (.int w0), .val (.int w1), .val (.int w2), .val (.int w3), .val (.int w4), .val (.int w5), .val (.int nn), .val (.int x0), .val (.int x1), .val (.int x2), .val (.ref b4), .val (.ref b5), .val (.int k3'), .val (.ref b41), .val (.int pl), .unset, .unset] []))
      refine Gl.go (fun _ k => XS.iload X41.here hx rfl (hb hby at_146) rfl  k) ?_
      show Gl _ _ _ _ (T41.setTop (mkF m 148 #[.val (.int w0), .val (.int w1), .val (.int w2), .val (.int w3), .val (.int w4), .val (.int w5), .val (.int nn), .val (.int x0), .val (.int x1), .val (.int x2), .val (.ref b4), .val (.ref b5), .val (.int k3'), .val (.ref b41), .val (.int pl), .unset, .unset] [(.int pl)]))
      refine Gl.go (fun _ k => XS.bipush X41.here hx rfl (hb hby at_148) k) ?_
      show Gl _ _ _ _ (T41.setTop (mkF m 150 #[.val (.int w0), .val (.int w1), .val (.int w2), .val (.int w3), .val (.int w4), .val (.int w5), .val (.int nn), .val (.int x0), .val (.int x1), .val (.int x2), .val (.ref b4), .val (.ref b5), .val (.int k3'), .val (.ref b41), .val (.int pl), .unset, .unset] [(.int (47 : Int32)), (.int pl)]))
      refine Gl.go (fun _ k => XS.iload X41.here hx rfl (hb hby at_150) rfl  k) ?_
      show Gl _ _ _ _ (T41.setTop (mkF m 152 #[.val (.int w0), .val (.int w1), .val (.int w2), .val (.int w3), .val (.int w4), .val (.int w5), .val (.int nn), .val (.int x0), .val (.int x1), .val (.int x2), .val (.ref b4), .val (.ref b5), .val (.int k3'), .val (.ref b41), .val (.int pl), .unset, .unset] [(.int w4), (.int (47 : Int32)), (.int pl)]))
      obtain ⟨_, _, ⟨T42, L42, k42, n42⟩, -, X42, ⟨Lc42, hQ42, l42, y42, z42⟩, st42⟩ := Jvm.LawKit.callS X41 hx (y := (⟨"com/example/aloud/aloud/PathPatternMatchesNoPathPinLaw", "pick", "(I)B"⟩ : MethodName)) hown (mvT hZ (hw _ (List.mem_of_getElem? (i := 0) rfl))) (mvT hZ (hw _ (List.mem_of_getElem? (i := 1) rfl))) (mvT hZ (hw _ (List.mem_of_getElem? (i := 2) rfl))) (mvT hZ (hw _ (List.mem_of_getElem? (i := 3) rfl))) (by decide) (backOf (W := 2) (rm_pk l Z a0 hw [] w4 T41.heap n0 SZ41 ) hZ (hw _ (List.mem_of_getElem? (i := 3) rfl)) (hw _ (List.mem_of_getElem? (i := 2) rfl)) (by decide) (by decide)) (g := (mkF m 152 #[.val (.int w0), .val (.int w1), .val (.int w2), .val (.int w3), .val (.int w4), .val (.int w5), .val (.int nn), .val (.int x0), .val (.int x1), .val (.int x2), .val (.ref b4), .val (.ref b5), .val (.int k3'), .val (.ref b41), .val (.int pl), .unset, .unset] [(.int w4), (.int (47 : Int32)), (.int pl)])) rfl (by rw [hml]; rfl) (argsL := [(.int w4)]) (rest := [(.int (47 : Int32)), (.int pl)]) (lenOf pd_9 rfl) rfl (by show 2 * 0 + _ ≤ _; exact Nat.le_of_eq rfl) (hb hby at_152) (fun _ _ => ⟨rfl, rfl, (by decide : 3 + 0 ≤ _), (by decide : 12 + 0 ≤ _)⟩)
      dsimp only [Pt.U, Pt.locs, Pt.cells, Pt.slots] at X42 l42 y42 z42 st42 hQ42
      subst l42 y42 z42
      obtain ⟨rfl, Nq42, e42⟩ := hQ42
      have N42 := Fr.app N41 Nq42
      refine Gl.go (fun _ k => st42 _ k) ?_
      show Gl _ _ _ _ (T42.setTop (mkF m 155 #[.val (.int w0), .val (.int w1), .val (.int w2), .val (.int w3), .val (.int w4), .val (.int w5), .val (.int nn), .val (.int x0), .val (.int x1), .val (.int x2), .val (.ref b4), .val (.ref b5), .val (.int k3'), .val (.ref b41), .val (.int pl), .unset, .unset] [(.int (pkV w4)), (.int (47 : Int32)), (.int pl)]))
      generalize h_u1 : (pkV w4) = u1 at ⊢
      show Gl _ _ _ _ (T42.setTop (mkF m 155 #[.val (.int w0), .val (.int w1), .val (.int w2), .val (.int w3), .val (.int w4), .val (.int w5), .val (.int nn), .val (.int x0), .val (.int x1), .val (.int x2), .val (.ref b4), .val (.ref b5), .val (.int k3'), .val (.ref b41), .val (.int pl), .unset, .unset] [(.int u1), (.int (47 : Int32)), (.int pl)]))
      refine Gl.go (fun _ k => XS.iload X42.here hx rfl (hb hby at_155) rfl  k) ?_
      show Gl _ _ _ _ (T42.setTop (mkF m 157 #[.val (.int w0), .val (.int w1), .val (.int w2), .val (.int w3), .val (.int w4), .val (.int w5), .val (.int nn), .val (.int x0), .val (.int x1), .val (.int x2), .val (.ref b4), .val (.ref b5), .val (.int k3'), .val (.ref b41), .val (.int pl), .unset, .unset] [(.int w5), (.int u1), (.int (47 : Int32)), (.int pl)]))
      obtain ⟨_, _, ⟨T43, L43, k43, n43⟩, -, X43, ⟨Lc43, hQ43, l43, y43, z43⟩, st43⟩ := Jvm.LawKit.callS X42 hx (y := (⟨"com/example/aloud/aloud/PathPatternMatchesNoPathPinLaw", "pick", "(I)B"⟩ : MethodName)) hown (mvT hZ (hw _ (List.mem_of_getElem? (i := 0) rfl))) (mvT hZ (hw _ (List.mem_of_getElem? (i := 1) rfl))) (mvT hZ (hw _ (List.mem_of_getElem? (i := 2) rfl))) (mvT hZ (hw _ (List.mem_of_getElem? (i := 3) rfl))) (by decide) (backOf (W := 3) (rm_pk l Z a0 hw [] w5 T41.heap n0 SZ41 ) hZ (hw _ (List.mem_of_getElem? (i := 3) rfl)) (hw _ (List.mem_of_getElem? (i := 2) rfl)) (by decide) (by decide)) (g := (mkF m 157 #[.val (.int w0), .val (.int w1), .val (.int w2), .val (.int w3), .val (.int w4), .val (.int w5), .val (.int nn), .val (.int x0), .val (.int x1), .val (.int x2), .val (.ref b4), .val (.ref b5), .val (.int k3'), .val (.ref b41), .val (.int pl), .unset, .unset] [(.int w5), (.int u1), (.int (47 : Int32)), (.int pl)])) rfl (by rw [hml]; rfl) (argsL := [(.int w5)]) (rest := [(.int u1), (.int (47 : Int32)), (.int pl)]) (lenOf pd_9 rfl) rfl (by show 2 * 0 + _ ≤ _; exact Nat.le_of_eq rfl) (hb hby at_157) (fun _ _ => ⟨rfl, e42, (by decide : 3 + 0 ≤ _), (by decide : 12 + 0 ≤ _)⟩)
      dsimp only [Pt.U, Pt.locs, Pt.cells, Pt.slots] at X43 l43 y43 z43 st43 hQ43
      subst l43 y43 z43
      obtain ⟨rfl, Nq43, e43⟩ := hQ43
      have N43 := Fr.app N42 Nq43
      refine Gl.go (fun _ k => st43 _ k) ?_
      show Gl _ _ _ _ (T43.setTop (mkF m 160 #[.val (.int w0), .val (.int w1), .val (.int w2), .val (.int w3), .val (.int w4), .val (.int w5), .val (.int nn), .val (.int x0), .val (.int x1), .val (.int x2), .val (.ref b4), .val (.ref b5), .val (.int k3'), .val (.ref b41), .val (.int pl), .unset, .unset] [(.int (pkV w5)), (.int u1), (.int (47 : Int32)), (.int pl)]))
      generalize h_u2 : (pkV w5) = u2 at ⊢
      show Gl _ _ _ _ (T43.setTop (mkF m 160 #[.val (.int w0), .val (.int w1), .val (.int w2), .val (.int w3), .val (.int w4), .val (.int w5), .val (.int nn), .val (.int x0), .val (.int x1), .val (.int x2), .val (.ref b4), .val (.ref b5), .val (.int k3'), .val (.ref b41), .val (.int pl), .unset, .unset] [(.int u2), (.int u1), (.int (47 : Int32)), (.int pl)]))
      refine Gl.go (fun _ k => XS.iconst X43.here hx rfl (hb hby at_160) k) ?_
      show Gl _ _ _ _ (T43.setTop (mkF m 161 #[.val (.int w0), .val (.int w1), .val (.int w2), .val (.int w3), .val (.int w4), .val (.int w5), .val (.int nn), .val (.int x0), .val (.int x1), .val (.int x2), .val (.ref b4), .val (.ref b5), .val (.int k3'), .val (.ref b41), .val (.int pl), .unset, .unset] [(.int (0 : Int32)), (.int u2), (.int u1), (.int (47 : Int32)), (.int pl)]))
      obtain ⟨_, _, ⟨T44, L44, k44, n44⟩, -, X44, ⟨Lc44, hQ44, l44, y44, z44⟩, st44⟩ := Jvm.LawKit.callS X43 hx (y := (⟨"com/example/aloud/aloud/PathPatternMatchesNoPathPinLaw", "ofLen", "(IBBBB)[B"⟩ : MethodName)) hown (mvT hZ (hw _ (List.mem_of_getElem? (i := 4) rfl))) (mvT hZ (hw _ (List.mem_of_getElem? (i := 5) rfl))) (mvT hZ (hw _ (List.mem_of_getElem? (i := 2) rfl))) (mvT hZ (hw _ (List.mem_of_getElem? (i := 6) rfl))) (by decide) (backOf (W := 0) (rm_ol l Z a0 hw [] pl (47 : Int32) u1 u2 (0 : Int32) T41.heap n0 SZ41 ) hZ (hw _ (List.mem_of_getElem? (i := 6) rfl)) (hw _ (List.mem_of_getElem? (i := 2) rfl)) (by decide) (by decide)) (g := (mkF m 161 #[.val (.int w0), .val (.int w1), .val (.int w2), .val (.int w3), .val (.int w4), .val (.int w5), .val (.int nn), .val (.int x0), .val (.int x1), .val (.int x2), .val (.ref b4), .val (.ref b5), .val (.int k3'), .val (.ref b41), .val (.int pl), .unset, .unset] [(.int (0 : Int32)), (.int u2), (.int u1), (.int (47 : Int32)), (.int pl)])) rfl (by rw [hml]; rfl) (argsL := [(.int pl), (.int (47 : Int32)), (.int u1), (.int u2), (.int (0 : Int32))]) (rest := []) (lenOf pd_10 rfl) rfl (by show 2 * 0 + _ ≤ _; exact Nat.le_of_eq rfl) (hb hby at_161) (fun _ _ => ⟨rfl, e43, (by decide : 3 + 1 ≤ _), (by decide : 12 + 4 ≤ _)⟩)
      dsimp only [Pt.U, Pt.locs, Pt.cells, Pt.slots] at X44 l44 y44 z44 st44 hQ44
      subst l44 y44 z44
      obtain ⟨b44, rfl, Nq44, Kc44, gz44, kc44, Vc44⟩ := hQ44
      have N44 := Fr.app N43 Nq44
      refine Gl.go (fun _ k => st44 _ k) ?_
      have Ex44 := ext_of_keep Kc44
      have O__44 : Old Z n0 T44.heap := O__41.ext Ex44
      have V_b4_44 : Arv Z T44.heap b4 kc4 .byte (olZ nn) ((olL nn x0 x1 x2 (0 : Int32)).map Value.int) (.int (0 : Int32)) := V_b4_41.ext Ex44
      have V_b5_44 : Arv Z T44.heap b5 cA5 .byte (4 : Int32) (l3.map Value.int) (.int (0 : Int32)) := V_b5_41.ext Ex44
      have V_b41_44 : Arv Z T44.heap b41 kc41 .byte (olZ k3') ((olL k3' (gL l3 (0 : Int32)) (gL l3 (1 : Int32)) (gL l3 (2 : Int32)) (gL l3 (3 : Int32))).map Value.int) (.int (0 : Int32)) := Vc41.ext Ex44
      have SZ44 : n0 ≤ T44.heap.size := Nat.le_trans SZ41 Ex44.1
      have K44 : Keep h0 T44.heap [] := K41.ext Ex44
      show Gl _ _ _ _ (T44.setTop (mkF m 164 #[.val (.int w0), .val (.int w1), .val (.int w2), .val (.int w3), .val (.int w4), .val (.int w5), .val (.int nn), .val (.int x0), .val (.int x1), .val (.int x2), .val (.ref b4), .val (.ref b5), .val (.int k3'), .val (.ref b41), .val (.int pl), .unset, .unset] [(.ref b44)]))
      refine Gl.go (fun _ k => XS.astore X44.here hx rfl (hb hby at_164) rfl rfl (l' := #[.val (.int w0), .val (.int w1), .val (.int w2), .val (.int w3), .val (.int w4), .val (.int w5), .val (.int nn), .val (.int x0), .val (.int x1), .val (.int x2), .val (.ref b4), .val (.ref b5), .val (.int k3'), .val (.ref b41), .val (.int pl), .val (.ref b44), .unset]) rfl k) ?_
      show Gl _ _ _ _ (T44.setTop (mkF m 166 #[.val (.int w0), .val (.int w1), .val (.int w2), .val (.int w3), .val (.int w4), .val (.int w5), .val (.int nn), .val (.int x0), .val (.int x1), .val (.int x2), .val (.ref b4), .val (.ref b5), .val (.int k3'), .val (.ref b41), .val (.int pl), .val (.ref b44), .unset] []))
      refine Gl.go (fun _ k => XS.aload X44.here hx rfl (hb hby at_166) rfl rfl  k) ?_
      show Gl _ _ _ _ (T44.setTop (mkF m 168 #[.val (.int w0), .val (.int w1), .val (.int w2), .val (.int w3), .val (.int w4), .val (.int w5), .val (.int nn), .val (.int x0), .val (.int x1), .val (.int x2), .val (.ref b4), .val (.ref b5), .val (.int k3'), .val (.ref b41), .val (.int pl), .val (.ref b44), .unset] [(.ref b4)]))
      obtain ⟨_, _, ⟨T45, L45, k45, n45⟩, -, X45, ⟨Lc45, hQ45, l45, y45, z45⟩, st45⟩ := Jvm.LawKit.callS X44 hx (y := (⟨"com/example/aloud/aloud/PathPattern", "matchesNoPath", "([B)Z"⟩ : MethodName)) hown (mvT hZ (hw _ (List.mem_of_getElem? (i := 11) rfl))) (mvT hZ (hw _ (List.mem_of_getElem? (i := 12) rfl))) (mvT hZ (hw _ (List.mem_of_getElem? (i := 13) rfl))) (mvT hZ (hw _ (List.mem_of_getElem? (i := 14) rfl))) (by decide) (backOf (W := 0) (rm_np l Z a0 hw [] b4 kc4 (olZ nn) (olL nn x0 x1 x2 (0 : Int32)) rR kR T44.heap n0 SZ44 V_b4_44 (own_olZ nn) (SR.ext O__44.2) (VR.ext O__44.2)) hZ (hw _ (List.mem_of_getElem? (i := 14) rfl)) (hw _ (List.mem_of_getElem? (i := 13) rfl)) (by decide) (by decide)) (g := (mkF m 168 #[.val (.int w0), .val (.int w1), .val (.int w2), .val (.int w3), .val (.int w4), .val (.int w5), .val (.int nn), .val (.int x0), .val (.int x1), .val (.int x2), .val (.ref b4), .val (.ref b5), .val (.int k3'), .val (.ref b41), .val (.int pl), .val (.ref b44), .unset] [(.ref b4)])) rfl (by rw [hml]; rfl) (argsL := [(.ref b4)]) (rest := []) (lenOf pd_12 rfl) rfl (by show 2 * 0 + _ ≤ _; exact Nat.le_of_eq rfl) (hb hby at_168) (fun _ _ => ⟨rfl, rfl, (by decide : 4 + 0 ≤ _), (by decide : 16 + 0 ≤ _)⟩)
      dsimp only [Pt.U, Pt.locs, Pt.cells, Pt.slots] at X45 l45 y45 z45 st45 hQ45
      subst l45 y45 z45
      obtain ⟨rfl, Nq45, e45⟩ := hQ45
      have N45 := Fr.app N44 Nq45
      refine Gl.go (fun _ k => st45 _ k) ?_
      show Gl _ _ _ _ (T45.setTop (mkF m 171 #[.val (.int w0), .val (.int w1), .val (.int w2), .val (.int w3), .val (.int w4), .val (.int w5), .val (.int nn), .val (.int x0), .val (.int x1), .val (.int x2), .val (.ref b4), .val (.ref b5), .val (.int k3'), .val (.ref b41), .val (.int pl), .val (.ref b44), .unset] [(.int (npV (olZ nn) (gL (olL nn x0 x1 x2 (0 : Int32)))))]))
      refine Gl.go (fun _ k => XS.istore X45.here hx rfl (hb hby at_171) rfl (l' := #[.val (.int w0), .val (.int w1), .val (.int w2), .val (.int w3), .val (.int w4), .val (.int w5), .val (.int nn), .val (.int x0), .val (.int x1), .val (.int x2), .val (.ref b4), .val (.ref b5), .val (.int k3'), .val (.ref b41), .val (.int pl), .val (.ref b44), .val (.int (npV (olZ nn) (gL (olL nn x0 x1 x2 (0 : Int32)))))]) rfl k) ?_
      show Gl _ _ _ _ (T45.setTop (mkF m 173 #[.val (.int w0), .val (.int w1), .val (.int w2), .val (.int w3), .val (.int w4), .val (.int w5), .val (.int nn), .val (.int x0), .val (.int x1), .val (.int x2), .val (.ref b4), .val (.ref b5), .val (.int k3'), .val (.ref b41), .val (.int pl), .val (.ref b44), .val (.int (npV (olZ nn) (gL (olL nn x0 x1 x2 (0 : Int32)))))] []))
      refine Gl.go (fun _ k => XS.iload X45.here hx rfl (hb hby at_173) rfl  k) ?_
      show Gl _ _ _ _ (T45.setTop (mkF m 175 #[.val (.int w0), .val (.int w1), .val (.int w2), .val (.int w3), .val (.int w4), .val (.int w5), .val (.int nn), .val (.int x0), .val (.int x1), .val (.int x2), .val (.ref b4), .val (.ref b5), .val (.int k3'), .val (.ref b41), .val (.int pl), .val (.ref b44), .val (.int (npV (olZ nn) (gL (olL nn x0 x1 x2 (0 : Int32)))))] [(.int (npV (olZ nn) (gL (olL nn x0 x1 x2 (0 : Int32)))))]))
      by_cases hN : (npV (olZ nn) (gL (olL nn x0 x1 x2 (0 : Int32)))) = (0 : Int32)
      · skip
        refine Gl.go (fun _ k => XS.ifYes X45.here hx rfl (pc0 := 175) (pc' := 204) rfl (hb hby at_175) rfl ((if0 _ _).trans (teq hN).1) (by decide) (by decide) k) ?_
        show Gl _ _ _ _ (T45.setTop (mkF m 204 #[.val (.int w0), .val (.int w1), .val (.int w2), .val (.int w3), .val (.int w4), .val (.int w5), .val (.int nn), .val (.int x0), .val (.int x1), .val (.int x2), .val (.ref b4), .val (.ref b5), .val (.int k3'), .val (.ref b41), .val (.int pl), .val (.ref b44), .val (.int (npV (olZ nn) (gL (olL nn x0 x1 x2 (0 : Int32)))))] []))
        refine Gl.go (fun _ k => XS.aload X45.here hx rfl (hb hby at_204) rfl rfl  k) ?_
        show Gl _ _ _ _ (T45.setTop (mkF m 206 #[.val (.int w0), .val (.int w1), .val (.int w2), .val (.int w3), .val (.int w4), .val (.int w5), .val (.int nn), .val (.int x0), .val (.int x1), .val (.int x2), .val (.ref b4), .val (.ref b5), .val (.int k3'), .val (.ref b41), .val (.int pl), .val (.ref b44), .val (.int (npV (olZ nn) (gL (olL nn x0 x1 x2 (0 : Int32)))))] [(.ref b4)]))
        refine Gl.go (fun _ k => XS.aload X45.here hx rfl (hb hby at_206) rfl rfl  k) ?_
        show Gl _ _ _ _ (T45.setTop (mkF m 208 #[.val (.int w0), .val (.int w1), .val (.int w2), .val (.int w3), .val (.int w4), .val (.int w5), .val (.int nn), .val (.int x0), .val (.int x1), .val (.int x2), .val (.ref b4), .val (.ref b5), .val (.int k3'), .val (.ref b41), .val (.int pl), .val (.ref b44), .val (.int (npV (olZ nn) (gL (olL nn x0 x1 x2 (0 : Int32)))))] [(.ref b41), (.ref b4)]))
        obtain ⟨_, _, ⟨T46, L46, k46, n46⟩, -, X46, ⟨Lc46, hQ46, l46, y46, z46⟩, st46⟩ := Jvm.LawKit.callS X45 hx (y := (⟨"com/example/aloud/aloud/PathPattern", "matches", "([B[B)Z"⟩ : MethodName)) hown (mvT hZ (hw _ (List.mem_of_getElem? (i := 15) rfl))) (mvT hZ (hw _ (List.mem_of_getElem? (i := 16) rfl))) (mvT hZ (hw _ (List.mem_of_getElem? (i := 13) rfl))) (mvT hZ (hw _ (List.mem_of_getElem? (i := 17) rfl))) (by decide) (backOf (W := 0) (rm_ma l Z a0 hw [] b4 kc4 (olZ nn) (olL nn x0 x1 x2 (0 : Int32)) b41 kc41 (olZ k3') (olL k3' (gL l3 (0 : Int32)) (gL l3 (1 : Int32)) (gL l3 (2 : Int32)) (gL l3 (3 : Int32))) T44.heap n0 SZ44 V_b4_44 (own_olZ nn) V_b41_44 (own_olZ k3')) hZ (hw _ (List.mem_of_getElem? (i := 17) rfl)) (hw _ (List.mem_of_getElem? (i := 13) rfl)) (by decide) (by decide)) (g := (mkF m 208 #[.val (.int w0), .val (.int w1), .val (.int w2), .val (.int w3), .val (.int w4), .val (.int w5), .val (.int nn), .val (.int x0), .val (.int x1), .val (.int x2), .val (.ref b4), .val (.ref b5), .val (.int k3'), .val (.ref b41), .val (.int pl), .val (.ref b44), .val (.int (npV (olZ nn) (gL (olL nn x0 x1 x2 (0 : Int32)))))] [(.ref b41), (.ref b4)])) rfl (by rw [hml]; rfl) (argsL := [(.ref b4), (.ref b41)]) (rest := []) (lenOf pd_13 rfl) rfl (by show 2 * 0 + _ ≤ _; exact Nat.le_of_eq rfl) (hb hby at_208) (fun _ _ => ⟨rfl, e45, (by decide : 4 + 0 ≤ _), (by decide : 16 + 0 ≤ _)⟩)
        dsimp only [Pt.U, Pt.locs, Pt.cells, Pt.slots] at X46 l46 y46 z46 st46 hQ46
        subst l46 y46 z46
        obtain ⟨rfl, Nq46, e46⟩ := hQ46
        have N46 := Fr.app N45 Nq46
        refine Gl.go (fun _ k => st46 _ k) ?_
        show Gl _ _ _ _ (T46.setTop (mkF m 211 #[.val (.int w0), .val (.int w1), .val (.int w2), .val (.int w3), .val (.int w4), .val (.int w5), .val (.int nn), .val (.int x0), .val (.int x1), .val (.int x2), .val (.ref b4), .val (.ref b5), .val (.int k3'), .val (.ref b41), .val (.int pl), .val (.ref b44), .val (.int (npV (olZ nn) (gL (olL nn x0 x1 x2 (0 : Int32)))))] [(.int (maV (olZ nn) (gL (olL nn x0 x1 x2 (0 : Int32))) (olZ k3') (gL (olL k3' (gL l3 (0 : Int32)) (gL l3 (1 : Int32)) (gL l3 (2 : Int32)) (gL l3 (3 : Int32))))))]))
        refine leafN X46 hx hlk (t := .boolean) Bd.returns (by simp) (hb hby at_211) ?_ (by decide) (by decide)
        exact ⟨by rw [own_l2 h_k1' h_l1 h_k2' h_l2 h_k3' h_l3 (Or.inr (Or.inr ⟨hA, hB, rfl, by rw [← h_l0, nb47]⟩)) hn4 hb0 hb1 hb2 hN, nar1], N46⟩
      · skip
        refine Gl.go (fun _ k => XS.ifNo X45.here hx rfl (hb hby at_175) rfl ((if0 _ _).trans (feq hN).1) k) ?_
        show Gl _ _ _ _ (T45.setTop (mkF m 178 #[.val (.int w0), .val (.int w1), .val (.int w2), .val (.int w3), .val (.int w4), .val (.int w5), .val (.int nn), .val (.int x0), .val (.int x1), .val (.int x2), .val (.ref b4), .val (.ref b5), .val (.int k3'), .val (.ref b41), .val (.int pl), .val (.ref b44), .val (.int (npV (olZ nn) (gL (olL nn x0 x1 x2 (0 : Int32)))))] []))
        refine Gl.go (fun _ k => XS.aload X45.here hx rfl (hb hby at_178) rfl rfl  k) ?_
        show Gl _ _ _ _ (T45.setTop (mkF m 180 #[.val (.int w0), .val (.int w1), .val (.int w2), .val (.int w3), .val (.int w4), .val (.int w5), .val (.int nn), .val (.int x0), .val (.int x1), .val (.int x2), .val (.ref b4), .val (.ref b5), .val (.int k3'), .val (.ref b41), .val (.int pl), .val (.ref b44), .val (.int (npV (olZ nn) (gL (olL nn x0 x1 x2 (0 : Int32)))))] [(.ref b4)]))
        refine Gl.go (fun _ k => XS.aload X45.here hx rfl (hb hby at_180) rfl rfl  k) ?_
        show Gl _ _ _ _ (T45.setTop (mkF m 182 #[.val (.int w0), .val (.int w1), .val (.int w2), .val (.int w3), .val (.int w4), .val (.int w5), .val (.int nn), .val (.int x0), .val (.int x1), .val (.int x2), .val (.ref b4), .val (.ref b5), .val (.int k3'), .val (.ref b41), .val (.int pl), .val (.ref b44), .val (.int (npV (olZ nn) (gL (olL nn x0 x1 x2 (0 : Int32)))))] [(.ref b44), (.ref b4)]))
        obtain ⟨_, _, ⟨T47, L47, k47, n47⟩, -, X47, ⟨Lc47, hQ47, l47, y47, z47⟩, st47⟩ := Jvm.LawKit.callS X45 hx (y := (⟨"com/example/aloud/aloud/PathPattern", "matches", "([B[B)Z"⟩ : MethodName)) hown (mvT hZ (hw _ (List.mem_of_getElem? (i := 15) rfl))) (mvT hZ (hw _ (List.mem_of_getElem? (i := 16) rfl))) (mvT hZ (hw _ (List.mem_of_getElem? (i := 13) rfl))) (mvT hZ (hw _ (List.mem_of_getElem? (i := 17) rfl))) (by decide) (backOf (W := 0) (rm_ma l Z a0 hw [] b4 kc4 (olZ nn) (olL nn x0 x1 x2 (0 : Int32)) b44 kc44 (olZ pl) (olL pl (47 : Int32) u1 u2 (0 : Int32)) T44.heap n0 SZ44 V_b4_44 (own_olZ nn) Vc44 (own_olZ pl)) hZ (hw _ (List.mem_of_getElem? (i := 17) rfl)) (hw _ (List.mem_of_getElem? (i := 13) rfl)) (by decide) (by decide)) (g := (mkF m 182 #[.val (.int w0), .val (.int w1), .val (.int w2), .val (.int w3), .val (.int w4), .val (.int w5), .val (.int nn), .val (.int x0), .val (.int x1), .val (.int x2), .val (.ref b4), .val (.ref b5), .val (.int k3'), .val (.ref b41), .val (.int pl), .val (.ref b44), .val (.int (npV (olZ nn) (gL (olL nn x0 x1 x2 (0 : Int32)))))] [(.ref b44), (.ref b4)])) rfl (by rw [hml]; rfl) (argsL := [(.ref b4), (.ref b44)]) (rest := []) (lenOf pd_13 rfl) rfl (by show 2 * 0 + _ ≤ _; exact Nat.le_of_eq rfl) (hb hby at_182) (fun _ _ => ⟨rfl, e45, (by decide : 4 + 0 ≤ _), (by decide : 16 + 0 ≤ _)⟩)
        dsimp only [Pt.U, Pt.locs, Pt.cells, Pt.slots] at X47 l47 y47 z47 st47 hQ47
        subst l47 y47 z47
        obtain ⟨rfl, Nq47, e47⟩ := hQ47
        have N47 := Fr.app N45 Nq47
        refine Gl.go (fun _ k => st47 _ k) ?_
        show Gl _ _ _ _ (T47.setTop (mkF m 185 #[.val (.int w0), .val (.int w1), .val (.int w2), .val (.int w3), .val (.int w4), .val (.int w5), .val (.int nn), .val (.int x0), .val (.int x1), .val (.int x2), .val (.ref b4), .val (.ref b5), .val (.int k3'), .val (.ref b41), .val (.int pl), .val (.ref b44), .val (.int (npV (olZ nn) (gL (olL nn x0 x1 x2 (0 : Int32)))))] [(.int (maV (olZ nn) (gL (olL nn x0 x1 x2 (0 : Int32))) (olZ pl) (gL (olL pl (47 : Int32) u1 u2 (0 : Int32)))))]))
        refine Gl.go (fun _ k => XS.ifNo X47.here hx rfl (hb hby at_185) rfl ((if0 _ _).trans (teq (own_law1 (own_olZ nn) (own_olZ pl) (own_olP hpl) ((own_ol0 hpl).trans nb47) hN)).2) k) ?_
        show Gl _ _ _ _ (T47.setTop (mkF m 188 #[.val (.int w0), .val (.int w1), .val (.int w2), .val (.int w3), .val (.int w4), .val (.int w5), .val (.int nn), .val (.int x0), .val (.int x1), .val (.int x2), .val (.ref b4), .val (.ref b5), .val (.int k3'), .val (.ref b41), .val (.int pl), .val (.ref b44), .val (.int (npV (olZ nn) (gL (olL nn x0 x1 x2 (0 : Int32)))))] []))
        refine Gl.go (fun _ k => XS.aload X47.here hx rfl (hb hby at_188) rfl rfl  k) ?_
        show Gl _ _ _ _ (T47.setTop (mkF m 190 #[.val (.int w0), .val (.int w1), .val (.int w2), .val (.int w3), .val (.int w4), .val (.int w5), .val (.int nn), .val (.int x0), .val (.int x1), .val (.int x2), .val (.ref b4), .val (.ref b5), .val (.int k3'), .val (.ref b41), .val (.int pl), .val (.ref b44), .val (.int (npV (olZ nn) (gL (olL nn x0 x1 x2 (0 : Int32)))))] [(.ref b4)]))
        refine Gl.go (fun _ k => XS.aload X47.here hx rfl (hb hby at_190) rfl rfl  k) ?_
        show Gl _ _ _ _ (T47.setTop (mkF m 192 #[.val (.int w0), .val (.int w1), .val (.int w2), .val (.int w3), .val (.int w4), .val (.int w5), .val (.int nn), .val (.int x0), .val (.int x1), .val (.int x2), .val (.ref b4), .val (.ref b5), .val (.int k3'), .val (.ref b41), .val (.int pl), .val (.ref b44), .val (.int (npV (olZ nn) (gL (olL nn x0 x1 x2 (0 : Int32)))))] [(.ref b41), (.ref b4)]))
        obtain ⟨_, _, ⟨T48, L48, k48, n48⟩, -, X48, ⟨Lc48, hQ48, l48, y48, z48⟩, st48⟩ := Jvm.LawKit.callS X47 hx (y := (⟨"com/example/aloud/aloud/PathPattern", "matches", "([B[B)Z"⟩ : MethodName)) hown (mvT hZ (hw _ (List.mem_of_getElem? (i := 15) rfl))) (mvT hZ (hw _ (List.mem_of_getElem? (i := 16) rfl))) (mvT hZ (hw _ (List.mem_of_getElem? (i := 13) rfl))) (mvT hZ (hw _ (List.mem_of_getElem? (i := 17) rfl))) (by decide) (backOf (W := 0) (rm_ma l Z a0 hw [] b4 kc4 (olZ nn) (olL nn x0 x1 x2 (0 : Int32)) b41 kc41 (olZ k3') (olL k3' (gL l3 (0 : Int32)) (gL l3 (1 : Int32)) (gL l3 (2 : Int32)) (gL l3 (3 : Int32))) T44.heap n0 SZ44 V_b4_44 (own_olZ nn) V_b41_44 (own_olZ k3')) hZ (hw _ (List.mem_of_getElem? (i := 17) rfl)) (hw _ (List.mem_of_getElem? (i := 13) rfl)) (by decide) (by decide)) (g := (mkF m 192 #[.val (.int w0), .val (.int w1), .val (.int w2), .val (.int w3), .val (.int w4), .val (.int w5), .val (.int nn), .val (.int x0), .val (.int x1), .val (.int x2), .val (.ref b4), .val (.ref b5), .val (.int k3'), .val (.ref b41), .val (.int pl), .val (.ref b44), .val (.int (npV (olZ nn) (gL (olL nn x0 x1 x2 (0 : Int32)))))] [(.ref b41), (.ref b4)])) rfl (by rw [hml]; rfl) (argsL := [(.ref b4), (.ref b41)]) (rest := []) (lenOf pd_13 rfl) rfl (by show 2 * 0 + _ ≤ _; exact Nat.le_of_eq rfl) (hb hby at_192) (fun _ _ => ⟨rfl, e47, (by decide : 4 + 0 ≤ _), (by decide : 16 + 0 ≤ _)⟩)
        dsimp only [Pt.U, Pt.locs, Pt.cells, Pt.slots] at X48 l48 y48 z48 st48 hQ48
        subst l48 y48 z48
        obtain ⟨rfl, Nq48, e48⟩ := hQ48
        have N48 := Fr.app N47 Nq48
        refine Gl.go (fun _ k => st48 _ k) ?_
        show Gl _ _ _ _ (T48.setTop (mkF m 195 #[.val (.int w0), .val (.int w1), .val (.int w2), .val (.int w3), .val (.int w4), .val (.int w5), .val (.int nn), .val (.int x0), .val (.int x1), .val (.int x2), .val (.ref b4), .val (.ref b5), .val (.int k3'), .val (.ref b41), .val (.int pl), .val (.ref b44), .val (.int (npV (olZ nn) (gL (olL nn x0 x1 x2 (0 : Int32)))))] [(.int (maV (olZ nn) (gL (olL nn x0 x1 x2 (0 : Int32))) (olZ k3') (gL (olL k3' (gL l3 (0 : Int32)) (gL l3 (1 : Int32)) (gL l3 (2 : Int32)) (gL l3 (3 : Int32))))))]))
        have hk3p : (0 : Int32) < k3' := o_k3 hkr1 hkr2 hkr3
        have hw0 : gL l3 (0 : Int32) = (47 : Int32) := by rw [hz3 (o_g2 hkr1 hkr2), hz2 (o_g1 hkr1), hz1 o_g0, ← h_l0]; exact nb47
        refine Gl.go (fun _ k => XS.ifNo X48.here hx rfl (hb hby at_195) rfl ((if0 _ _).trans (teq (own_law1 (own_olZ nn) (own_olZ k3') (own_olP hk3p) ((own_ol0 hk3p).trans (by rw [hw0]; exact nb47)) hN)).2) k) ?_
        show Gl _ _ _ _ (T48.setTop (mkF m 198 #[.val (.int w0), .val (.int w1), .val (.int w2), .val (.int w3), .val (.int w4), .val (.int w5), .val (.int nn), .val (.int x0), .val (.int x1), .val (.int x2), .val (.ref b4), .val (.ref b5), .val (.int k3'), .val (.ref b41), .val (.int pl), .val (.ref b44), .val (.int (npV (olZ nn) (gL (olL nn x0 x1 x2 (0 : Int32)))))] []))
        refine Gl.go (fun _ k => XS.iconst X48.here hx rfl (hb hby at_198) k) ?_
        show Gl _ _ _ _ (T48.setTop (mkF m 199 #[.val (.int w0), .val (.int w1), .val (.int w2), .val (.int w3), .val (.int w4), .val (.int w5), .val (.int nn), .val (.int x0), .val (.int x1), .val (.int x2), .val (.ref b4), .val (.ref b5), .val (.int k3'), .val (.ref b41), .val (.int pl), .val (.ref b44), .val (.int (npV (olZ nn) (gL (olL nn x0 x1 x2 (0 : Int32)))))] [(.int (1 : Int32))]))
        refine Gl.go (fun _ k => XS.goto X48.here hx rfl (pc0 := 199) (pc' := 203) rfl (hb hby at_199) (by decide) (by decide) k) ?_
        show Gl _ _ _ _ (T48.setTop (mkF m 203 #[.val (.int w0), .val (.int w1), .val (.int w2), .val (.int w3), .val (.int w4), .val (.int w5), .val (.int nn), .val (.int x0), .val (.int x1), .val (.int x2), .val (.ref b4), .val (.ref b5), .val (.int k3'), .val (.ref b41), .val (.int pl), .val (.ref b44), .val (.int (npV (olZ nn) (gL (olL nn x0 x1 x2 (0 : Int32)))))] [(.int (1 : Int32))]))
        refine leafN X48 hx hlk (t := .boolean) Bd.returns (by simp) (hb hby at_203) ?_ (by decide) (by decide)
        exact ⟨rfl, N48⟩
set_option maxRecDepth 65536 in
set_option maxHeartbeats 40000000 in
theorem comes_1 {Post : Tables → Env → Array Value → State → Outcome → State → Prop} (hpost : ∀ tb e args s v u, (limb_1_1.after args s (.returned v) u = true ∧ limb_1_2.after args s (.returned v) u = true ∧ True) → FrameEnd s (.returned v) u (Jvm.fieldLocs frame_1_writes args s ++ Jvm.arrayLocs frame_1_arrays args s ++ Jvm.staticLocs frame_1_statics s) 16 128 → Post tb e args s (.returned v) u) :
    ArmFor flags0 classFile x code maxLocals ret World_1 tables_1 room_1 Calls_1 rest_1 Pre_1 Post := by
  intro l hfl _ _ p e ha hc hk s m args below hf hA hF happ hP
  obtain ⟨hcalls, hrest, hpre⟩ := hP
  obtain ⟨-, -, -, hnamed, -, -, -, hat⟩ := (Spec.applies_iff hf).mp happ
  obtain ⟨hg, hn⟩ := and_e (Cond.before_iff.mp (show (Jvm.Cond.and given_1 narrow_1).before args s = true from hpre))
  obtain ⟨hcount, hg0⟩ := and_e hg
  obtain ⟨hk0, hg1⟩ := and_e hg0
  obtain ⟨hk1, hg2⟩ := and_e hg1
  obtain ⟨hk2, hg3⟩ := and_e hg2
  obtain ⟨hk3, hg4⟩ := and_e hg3
  obtain ⟨hk4, hg5⟩ := and_e hg4
  have hk5 := hg5
  obtain ⟨w0, w1, w2, w3, w4, w5, rfl⟩ : ∃ w0 w1 w2 w3 w4 w5 : Value, args = #[w0, w1, w2, w3, w4, w5] := by
    have hs : args.size = 6 := by simpa [Cond.value, given_1] using hcount
    obtain ⟨L⟩ := args
    match L, hs with
    | [w0, w1, w2, w3, w4, w5], _ => exact ⟨w0, w1, w2, w3, w4, w5, rfl⟩
  have hw := fun d (hd : d ∈ tables_1) => atoms_spec (ws := Jvm.Cond.code x code maxLocals ret :: tables_1) hat d (List.mem_cons_of_mem _ hd)
  have hfit : Fit s := fun {y c} hc i hi => by
    obtain ⟨ha, rfl⟩ := Array.getElem?_eq_some_iff.mp hc
    have q := List.all_eq_true.mp ((Array.all_eq_true_iff_forall_mem.mp hF) _ (Array.getElem_mem ha)) i (List.mem_range.mpr hi)
    simpa [Array.getElem?_eq_getElem hi] using q
  obtain ⟨i0, ei0⟩ := is_v hk0
  obtain rfl : w0 = (.int i0) := Option.some.inj ei0
  obtain ⟨i1, ei1⟩ := is_v hk1
  obtain rfl : w1 = (.int i1) := Option.some.inj ei1
  obtain ⟨i2, ei2⟩ := is_v hk2
  obtain rfl : w2 = (.int i2) := Option.some.inj ei2
  obtain ⟨i3, ei3⟩ := is_v hk3
  obtain rfl : w3 = (.int i3) := Option.some.inj ei3
  obtain ⟨i4, ei4⟩ := is_v hk4
  obtain rfl : w4 = (.int i4) := Option.some.inj ei4
  obtain ⟨i5, ei5⟩ := is_v hk5
  obtain rfl : w5 = (.int i5) := Option.some.inj ei5
  obtain ⟨m1, hn⟩ := and_e hn
  obtain ⟨m2, m3⟩ := and_e hn
  obtain ⟨rR, evR⟩ := arr_v m1
  have SR : Sta s s.heap "com/example/aloud/aloud/PathPattern" "ROOT" "[B" (.ref rR) := Sta.start evR (Or.inr ⟨(hw _ (List.mem_of_getElem? (i := 13) rfl)), (hw _ (List.mem_of_getElem? (i := 48) rfl))⟩)
  obtain ⟨cl, Ar⟩ := Arr.start evR m1
  obtain ⟨l1, l2⟩ := arr_len evR Ar m2
  have y0 := arr_elem evR Ar (int_at m3)
  have V0 := Arv.start (vs := [(.int (47 : Int32))]) (dv := (.int (0 : Int32))) hfit Ar l1 l2 (by decide) rfl ⟨y0, trivial⟩
  obtain ⟨n, o, h1, h2, h3, _, L, rfl, ⟨rfl, N⟩, hq⟩ := rm_law l s _ hw tables_1 i0 i1 i2 i3 i4 i5 rR cl.cls s.heap s.heap.size (Nat.le_refl _) SR V0 (Old.start s) p e ha hc hk s m _ below hf ((Spec.applies_iff_loose hf).mp happ).1 ⟨rfl, State.Warmed39.refl s, rfl⟩ trivial
  refine ⟨n, _, h1, h2, h3, hpost _ _ _ _ _ _ ⟨Cond.after_iff.mpr rfl, Cond.after_iff.mpr (eq_i res_at (Term.int_eval (1)) rfl), trivial⟩ ⟨hq.1, hq.2.1, (hq.2.2.sift fun y hy => Or.inr (N y hy)).mono (by decide) (by decide)⟩⟩
theorem main_1_1 : Claimed_1_1 := comes_1 fun _ _ _ _ _ _ h hF => ⟨h.1, hF⟩
theorem main_1_2 : Claimed_1_2 := comes_1 fun _ _ _ _ _ _ h hF => ⟨h.2.1, hF⟩
end Jvm.Pilot.@@N@@
namespace Jvm.Pilot.@@N@@
open Jvm Jvm.ClassFile Sem Op Lib Jvm.Free Jvm.Stand Jvm.Pilot.@@N@@.Jvm.D
/-! MADE BY PROGRAM (witnessworld.py) out of the Statement's table words and the real class files: 11 classes; the members and pool entries that the words name. The judged class is class 1, her method 4. -/
namespace start1
open Jvm.ClassFile
def u (s : String) : CpInfo := .utf8 (stringToUtf16 s)
/-- a pool by its gaps: so many unusable entries, then the entry; so many at the end -/
def gap : Nat → List CpInfo → List CpInfo
  | 0, r => r
  | n + 1, r => .unusable :: gap n r
def poolList (es : List (Nat × CpInfo)) (last : Nat) : List CpInfo := es.foldr (fun e r => gap e.1 (e.2 :: r)) (gap last [])
def pool (es : List (Nat × CpInfo)) (last : Nat) : Array CpInfo := ⟨poolList es last⟩
def fileOf (pool : Array CpInfo) (this : Nat) (attrs : Array Attribute := #[]) (ms : Array MethodInfo := #[]) (fl : Nat := 33) (sup : Nat := 0) (ifs : Array Nat := #[]) (fds : Array FieldInfo := #[]) : ClassFile where
  minorVersion := 0
  majorVersion := 65
  constantPool := pool
  accessFlags := fl
  thisClass := this
  superClass := sup
  interfaces := ifs
  fields := fds
  methods := ms
  attributes := attrs
def plain (name : String) (sup : Option ClassId) : Class where
  name := name
  kind := .ordinary
  loader := none
  accessFlags := 33
  super := sup
  interfaces := #[]
  cf := none
  fields := #[]
  methods := #[]
  instanceTypes := #[]
  staticTypes := #[]
  resolved := #[]
  callSites := []
  init := .initialized
  statics := none
  mirror := none

def pool0 : Array CpInfo := pool [(5, u "<init>"), (0, u "()V"), (1, .class_ 10), (1, u "java/lang/Object")] 113

def k0m0 : Method := { name := "<init>", desc := "()V", sig := { parameters := [], returnType := none }, accessFlags := 1, code := none }
/-- java/lang/Object -/
def k0 : Class := { plain "java/lang/Object" none with
  accessFlags := 33
  interfaces := #[]
  cf := some (fileOf pool0 8 #[] #[{ accessFlags := 1, nameIndex := 5, descriptorIndex := 6, attributes := #[] }] 33 0 #[] #[])
  fields := #[]
  methods := #[k0m0]
  instanceTypes := #[]
  staticTypes := #[]
  resolved := Array.replicate 124 none
  statics := none }

def pool1 : Array CpInfo := pool [(2, .class_ 4), (1, u "java/lang/Object"), (0, u "<init>"), (0, u "()V"), (0, .methodref 8 9), (0, .class_ 10), (0, .nameAndType 11 12), (0, u "com/example/aloud/aloud/PathPatternMatchesNoPathPinLaw"), (0, u "pick"), (0, u "(I)B"), (0, .methodref 8 14), (0, .nameAndType 15 16), (0, u "ofLen"), (0, u "(IBBBB)[B"), (0, .methodref 8 18), (0, .nameAndType 19 20), (0, u "add"), (0, u "([BIBII)I"), (0, .methodref 22 23), (0, .class_ 24), (0, .nameAndType 25 26), (0, u "com/example/aloud/aloud/PathPattern"), (0, u "matchesNoPath"), (0, u "([B)Z"), (0, .methodref 22 28), (0, .nameAndType 29 30), (0, u "matches"), (0, u "([B[B)Z"), (3, u "law"), (0, u "(IIIIII)Z")] 4

def k1m0 : Method := { name := "<init>", desc := "()V", sig := { parameters := [], returnType := none }, accessFlags := 2, code := none }
def k1c1 : Code := { maxStack := 2, maxLocals := 2, code := method_2_code, exceptionTable := #[], attributes := #[] }
def k1m1 : Method := { name := "pick", desc := "(I)B", sig := { parameters := [.int], returnType := some .byte }, accessFlags := 10, code := some k1c1 }
def k1c2 : Code := { maxStack := 4, maxLocals := 5, code := method_3_code, exceptionTable := #[], attributes := #[] }
def k1m2 : Method := { name := "ofLen", desc := "(IBBBB)[B", sig := { parameters := [.int, .byte, .byte, .byte, .byte], returnType := some (.array .byte) }, accessFlags := 10, code := some k1c2 }
def k1c3 : Code := { maxStack := 3, maxLocals := 5, code := method_4_code, exceptionTable := #[], attributes := #[] }
def k1m3 : Method := { name := "add", desc := "([BIBII)I", sig := { parameters := [(.array .byte), .int, .byte, .int, .int], returnType := some .int }, accessFlags := 10, code := some k1c3 }
def k1c4 : Code := { maxStack := 6, maxLocals := 17, code := code, exceptionTable := #[], attributes := #[] }
def k1m4 : Method := { name := "law", desc := "(IIIIII)Z", sig := { parameters := [.int, .int, .int, .int, .int, .int], returnType := some .boolean }, accessFlags := 9, code := some k1c4 }
/-- com/example/aloud/aloud/PathPatternMatchesNoPathPinLaw -/
def k1 : Class := { plain "com/example/aloud/aloud/PathPatternMatchesNoPathPinLaw" (some 0) with
  accessFlags := 49
  interfaces := #[]
  cf := some (fileOf pool1 8 #[] #[{ accessFlags := 2, nameIndex := 5, descriptorIndex := 6, attributes := #[] }, { accessFlags := 10, nameIndex := 11, descriptorIndex := 12, attributes := #[] }, { accessFlags := 10, nameIndex := 15, descriptorIndex := 16, attributes := #[] }, { accessFlags := 10, nameIndex := 19, descriptorIndex := 20, attributes := #[] }, { accessFlags := 9, nameIndex := 34, descriptorIndex := 35, attributes := #[] }] 49 2 #[] #[])
  fields := #[]
  methods := #[k1m0, k1m1, k1m2, k1m3, k1m4]
  instanceTypes := #[]
  staticTypes := #[]
  resolved := Array.replicate 40 none
  statics := none }

def pool2 : Array CpInfo := pool [(2, .class_ 4), (1, u "java/lang/Object"), (0, u "<init>"), (0, u "()V"), (0, .fieldref 8 9), (0, .class_ 10), (0, .nameAndType 11 12), (0, u "com/example/aloud/aloud/PathPattern"), (0, u "ROOT"), (0, u "[B"), (2, u "matches"), (0, u "([B[B)Z"), (2, u "ROOT_AND_ONE_BYTE"), (0, .methodref 8 21), (0, .nameAndType 22 23), (0, u "runsEnd"), (0, u "([BII)I"), (0, .methodref 8 25), (0, .nameAndType 26 23), (0, u "wildcardOrEnd"), (0, .methodref 8 28), (0, .nameAndType 29 30), (0, u "literalStartLength"), (0, u "([B)I"), (0, .methodref 8 32), (0, .nameAndType 33 34), (0, u "classesAfterWildcards"), (0, u "([BI)C"), (0, .methodref 8 36), (0, .nameAndType 37 38), (0, u "occursAt"), (0, u "([BI[BII)Z"), (0, .methodref 8 40), (0, .nameAndType 41 42), (0, u "byteClasses"), (0, u "([B)C"), (0, .methodref 8 44), (0, .nameAndType 45 46), (0, u "matchesPastStart"), (0, u "([BIIIC[BC)Z"), (0, .methodref 8 48), (0, .nameAndType 49 50), (0, u "indexOf"), (0, u "([BI[BII)I"), (0, .methodref 52 53), (0, .class_ 54), (0, .nameAndType 55 56), (0, u "java/util/Arrays"), (0, u "equals"), (0, u "([BII[BII)Z"), (0, u "WILDCARD"), (0, u "B"), (2, u "END_ANCHOR"), (4, u "([B)Z"), (1, u "matchesNoPath")] 8

def k2m0 : Method := { name := "<init>", desc := "()V", sig := { parameters := [], returnType := none }, accessFlags := 2, code := none }
def k2c1 : Code := { maxStack := 3, maxLocals := 1, code := prog_15_method_3_code, exceptionTable := #[], attributes := #[] }
def k2m1 : Method := { name := "matchesNoPath", desc := "([B)Z", sig := { parameters := [(.array .byte)], returnType := some .boolean }, accessFlags := 8, code := some k2c1 }
def k2c2 : Code := { maxStack := 3, maxLocals := 3, code := prog_15_method_5_code, exceptionTable := #[], attributes := #[] }
def k2m2 : Method := { name := "literalStartLength", desc := "([B)I", sig := { parameters := [(.array .byte)], returnType := some .int }, accessFlags := 8, code := some k2c2 }
def k2c3 : Code := { maxStack := 4, maxLocals := 5, code := prog_15_method_6_code, exceptionTable := #[], attributes := #[] }
def k2m3 : Method := { name := "classesAfterWildcards", desc := "([BI)C", sig := { parameters := [(.array .byte), .int], returnType := some .char }, accessFlags := 8, code := some k2c3 }
def k2c4 : Code := { maxStack := 4, maxLocals := 6, code := prog_15_method_9_code, exceptionTable := #[], attributes := #[] }
def k2m4 : Method := { name := "byteClasses", desc := "([B)C", sig := { parameters := [(.array .byte)], returnType := some .char }, accessFlags := 8, code := some k2c4 }
def k2c5 : Code := { maxStack := 7, maxLocals := 4, code := prog_15_method_10_code, exceptionTable := #[], attributes := #[] }
def k2m5 : Method := { name := "matches", desc := "([B[B)Z", sig := { parameters := [(.array .byte), (.array .byte)], returnType := some .boolean }, accessFlags := 8, code := some k2c5 }
def k2c6 : Code := { maxStack := 5, maxLocals := 14, code := prog_15_method_11_code, exceptionTable := #[], attributes := #[] }
def k2m6 : Method := { name := "matchesPastStart", desc := "([BIIIC[BC)Z", sig := { parameters := [(.array .byte), .int, .int, .int, .char, (.array .byte), .char], returnType := some .boolean }, accessFlags := 8, code := some k2c6 }
def k2c7 : Code := { maxStack := 3, maxLocals := 3, code := prog_15_method_12_code, exceptionTable := #[], attributes := #[] }
def k2m7 : Method := { name := "runsEnd", desc := "([BII)I", sig := { parameters := [(.array .byte), .int, .int], returnType := some .int }, accessFlags := 10, code := some k2c7 }
def k2c8 : Code := { maxStack := 2, maxLocals := 4, code := prog_15_method_13_code, exceptionTable := #[], attributes := #[] }
def k2m8 : Method := { name := "wildcardOrEnd", desc := "([BII)I", sig := { parameters := [(.array .byte), .int, .int], returnType := some .int }, accessFlags := 10, code := some k2c8 }
def k2c9 : Code := { maxStack := 7, maxLocals := 6, code := prog_15_method_14_code, exceptionTable := #[], attributes := #[] }
def k2m9 : Method := { name := "occursAt", desc := "([BI[BII)Z", sig := { parameters := [(.array .byte), .int, (.array .byte), .int, .int], returnType := some .boolean }, accessFlags := 10, code := some k2c9 }
def k2c10 : Code := { maxStack := 5, maxLocals := 9, code := prog_15_method_15_code, exceptionTable := #[], attributes := #[] }
def k2m10 : Method := { name := "indexOf", desc := "([BI[BII)I", sig := { parameters := [(.array .byte), .int, (.array .byte), .int, .int], returnType := some .int }, accessFlags := 10, code := some k2c10 }
/-- com/example/aloud/aloud/PathPattern -/
def k2 : Class := { plain "com/example/aloud/aloud/PathPattern" (some 0) with
  accessFlags := 32
  interfaces := #[]
  cf := some (fileOf pool2 8 #[] #[{ accessFlags := 2, nameIndex := 5, descriptorIndex := 6, attributes := #[] }, { accessFlags := 8, nameIndex := 68, descriptorIndex := 66, attributes := #[] }, { accessFlags := 8, nameIndex := 29, descriptorIndex := 30, attributes := #[] }, { accessFlags := 8, nameIndex := 33, descriptorIndex := 34, attributes := #[] }, { accessFlags := 8, nameIndex := 41, descriptorIndex := 42, attributes := #[] }, { accessFlags := 8, nameIndex := 15, descriptorIndex := 16, attributes := #[] }, { accessFlags := 8, nameIndex := 45, descriptorIndex := 46, attributes := #[] }, { accessFlags := 10, nameIndex := 22, descriptorIndex := 23, attributes := #[] }, { accessFlags := 10, nameIndex := 26, descriptorIndex := 23, attributes := #[] }, { accessFlags := 10, nameIndex := 37, descriptorIndex := 38, attributes := #[] }, { accessFlags := 10, nameIndex := 49, descriptorIndex := 50, attributes := #[] }] 32 2 #[] #[{ accessFlags := 26, nameIndex := 57, descriptorIndex := 58, attributes := #[] }, { accessFlags := 24, nameIndex := 61, descriptorIndex := 58, attributes := #[] }, { accessFlags := 26, nameIndex := 11, descriptorIndex := 12, attributes := #[] }, { accessFlags := 26, nameIndex := 19, descriptorIndex := 12, attributes := #[] }])
  fields := #[{ name := "WILDCARD", type := .byte, accessFlags := 26, slot := 0, constantValue := 0 }, { name := "END_ANCHOR", type := .byte, accessFlags := 24, slot := 1, constantValue := 0 }, { name := "ROOT", type := (.array .byte), accessFlags := 26, slot := 2, constantValue := 0 }, { name := "ROOT_AND_ONE_BYTE", type := (.array .byte), accessFlags := 26, slot := 3, constantValue := 0 }]
  methods := #[k2m0, k2m1, k2m2, k2m3, k2m4, k2m5, k2m6, k2m7, k2m8, k2m9, k2m10]
  instanceTypes := #[]
  staticTypes := #[.byte, .byte, (.array .byte), (.array .byte)]
  resolved := Array.replicate 77 none
  statics := some 0 }

def pool3 : Array CpInfo := pool [(2, .class_ 4), (1, u "java/lang/Object"), (0, u "<init>"), (0, u "()V"), (6, .methodref 14 15), (0, .class_ 16), (0, .nameAndType 17 18), (0, u "java/util/Arrays"), (0, u "rangeCheck"), (0, u "(III)V"), (55, .class_ 76), (1, u "java/util/Arrays$NaturalOrder"), (36, .class_ 115), (1, u "java/util/Arrays$LegacyMergeSort"), (1, u "Z"), (128, .class_ 248), (1, u "jdk/internal/util/ArraysSupport"), (0, u "mismatch"), (25, .methodref 246 276), (0, .nameAndType 249 277), (0, u "([BI[BII)I"), (20, u "equals"), (76, .class_ 376), (0, u "java/util/Arrays$ArrayList"), (68, u "$assertionsDisabled"), (269, u "MIN_ARRAY_SORT_GRAN"), (0, u "I"), (2, u "INSERTIONSORT_THRESHOLD"), (111, u "([BII[BII)Z"), (143, .class_ 976), (0, u "java/util/Arrays$ArrayItr")] 52

def k3m0 : Method := { name := "<init>", desc := "()V", sig := { parameters := [], returnType := none }, accessFlags := 2, code := none }
def k3c1 : Code := { maxStack := 4, maxLocals := 3, code := jdk_65_method_30_code, exceptionTable := #[], attributes := #[] }
def k3m1 : Method := { name := "rangeCheck", desc := "(III)V", sig := { parameters := [.int, .int, .int], returnType := none }, accessFlags := 8, code := some k3c1 }
def k3c2 : Code := { maxStack := 5, maxLocals := 8, code := jdk_65_method_90_code, exceptionTable := #[], attributes := #[] }
def k3m2 : Method := { name := "equals", desc := "([BII[BII)Z", sig := { parameters := [(.array .byte), .int, .int, (.array .byte), .int, .int], returnType := some .boolean }, accessFlags := 9, code := some k3c2 }
/-- java/util/Arrays -/
def k3 : Class := { plain "java/util/Arrays" (some 0) with
  accessFlags := 49
  interfaces := #[]
  cf := some (fileOf pool3 14 #[.nestMembers #[975, 375, 113, 74]] #[{ accessFlags := 2, nameIndex := 5, descriptorIndex := 6, attributes := #[] }, { accessFlags := 8, nameIndex := 17, descriptorIndex := 18, attributes := #[] }, { accessFlags := 9, nameIndex := 298, descriptorIndex := 831, attributes := #[] }] 49 2 #[] #[{ accessFlags := 26, nameIndex := 715, descriptorIndex := 716, attributes := #[] }, { accessFlags := 26, nameIndex := 719, descriptorIndex := 716, attributes := #[] }, { accessFlags := 4120, nameIndex := 445, descriptorIndex := 117, attributes := #[] }])
  fields := #[{ name := "MIN_ARRAY_SORT_GRAN", type := .int, accessFlags := 26, slot := 0, constantValue := 0 }, { name := "INSERTIONSORT_THRESHOLD", type := .int, accessFlags := 26, slot := 1, constantValue := 0 }, { name := "$assertionsDisabled", type := .boolean, accessFlags := 4120, slot := 2, constantValue := 0 }]
  methods := #[k3m0, k3m1, k3m2]
  instanceTypes := #[]
  staticTypes := #[.int, .int, .boolean]
  resolved := Array.replicate 1029 none
  statics := none }

def pool4 : Array CpInfo := pool [(9, u "<init>"), (6, .class_ 18), (1, u "java/lang/Object"), (0, u "()V"), (1, .class_ 23), (1, u "jdk/internal/util/ArraysSupport"), (0, u "LOG2_ARRAY_LONG_INDEX_SCALE"), (0, u "I"), (2, u "U"), (0, u "Ljdk/internal/misc/Unsafe;"), (8, u "BIG_ENDIAN"), (0, u "Z"), (8, u "LOG2_BYTE_BIT_SIZE"), (4, u "LOG2_ARRAY_INT_INDEX_SCALE"), (54, u "JLA"), (0, u "Ljdk/internal/access/JavaLangAccess;"), (11, u "LOG2_ARRAY_BOOLEAN_INDEX_SCALE"), (9, u "LOG2_ARRAY_BYTE_INDEX_SCALE"), (5, u "LOG2_ARRAY_CHAR_INDEX_SCALE"), (5, u "LOG2_ARRAY_SHORT_INDEX_SCALE"), (5, u "mismatch"), (12, u "LOG2_ARRAY_FLOAT_INDEX_SCALE"), (24, u "LOG2_ARRAY_DOUBLE_INDEX_SCALE"), (89, u "T_BOOLEAN"), (2, u "T_CHAR"), (1, u "T_FLOAT"), (1, u "T_DOUBLE"), (1, u "T_BYTE"), (1, u "T_SHORT"), (1, u "T_INT"), (1, u "T_LONG"), (1, u "SOFT_MAX_ARRAY_LENGTH"), (42, u "([BI[BII)I")] 40

def k4m0 : Method := { name := "<init>", desc := "()V", sig := { parameters := [], returnType := none }, accessFlags := 2, code := none }
def k4c1 : Code := { maxStack := 8, maxLocals := 8, code := jdk_48_method_14_code, exceptionTable := #[], attributes := #[] }
def k4m1 : Method := { name := "mismatch", desc := "([BI[BII)I", sig := { parameters := [(.array .byte), .int, (.array .byte), .int, .int], returnType := some .int }, accessFlags := 9, code := some k4c1 }
/-- jdk/internal/util/ArraysSupport -/
def k4 : Class := { plain "jdk/internal/util/ArraysSupport" (some 0) with
  accessFlags := 33
  interfaces := #[]
  cf := some (fileOf pool4 21 #[] #[{ accessFlags := 2, nameIndex := 9, descriptorIndex := 19, attributes := #[] }, { accessFlags := 9, nameIndex := 149, descriptorIndex := 337, attributes := #[] }] 33 16 #[] #[{ accessFlags := 24, nameIndex := 28, descriptorIndex := 29, attributes := #[] }, { accessFlags := 26, nameIndex := 38, descriptorIndex := 39, attributes := #[] }, { accessFlags := 25, nameIndex := 121, descriptorIndex := 25, attributes := #[] }, { accessFlags := 25, nameIndex := 131, descriptorIndex := 25, attributes := #[] }, { accessFlags := 25, nameIndex := 137, descriptorIndex := 25, attributes := #[] }, { accessFlags := 25, nameIndex := 143, descriptorIndex := 25, attributes := #[] }, { accessFlags := 25, nameIndex := 53, descriptorIndex := 25, attributes := #[] }, { accessFlags := 25, nameIndex := 24, descriptorIndex := 25, attributes := #[] }, { accessFlags := 25, nameIndex := 162, descriptorIndex := 25, attributes := #[] }, { accessFlags := 25, nameIndex := 187, descriptorIndex := 25, attributes := #[] }, { accessFlags := 26, nameIndex := 48, descriptorIndex := 25, attributes := #[] }, { accessFlags := 25, nameIndex := 277, descriptorIndex := 25, attributes := #[] }, { accessFlags := 25, nameIndex := 280, descriptorIndex := 25, attributes := #[] }, { accessFlags := 25, nameIndex := 282, descriptorIndex := 25, attributes := #[] }, { accessFlags := 25, nameIndex := 284, descriptorIndex := 25, attributes := #[] }, { accessFlags := 25, nameIndex := 286, descriptorIndex := 25, attributes := #[] }, { accessFlags := 25, nameIndex := 288, descriptorIndex := 25, attributes := #[] }, { accessFlags := 25, nameIndex := 290, descriptorIndex := 25, attributes := #[] }, { accessFlags := 25, nameIndex := 292, descriptorIndex := 25, attributes := #[] }, { accessFlags := 26, nameIndex := 108, descriptorIndex := 109, attributes := #[] }, { accessFlags := 25, nameIndex := 294, descriptorIndex := 25, attributes := #[] }])
  fields := #[{ name := "U", type := (.object "jdk/internal/misc/Unsafe"), accessFlags := 24, slot := 0, constantValue := 0 }, { name := "BIG_ENDIAN", type := .boolean, accessFlags := 26, slot := 1, constantValue := 0 }, { name := "LOG2_ARRAY_BOOLEAN_INDEX_SCALE", type := .int, accessFlags := 25, slot := 2, constantValue := 0 }, { name := "LOG2_ARRAY_BYTE_INDEX_SCALE", type := .int, accessFlags := 25, slot := 3, constantValue := 0 }, { name := "LOG2_ARRAY_CHAR_INDEX_SCALE", type := .int, accessFlags := 25, slot := 4, constantValue := 0 }, { name := "LOG2_ARRAY_SHORT_INDEX_SCALE", type := .int, accessFlags := 25, slot := 5, constantValue := 0 }, { name := "LOG2_ARRAY_INT_INDEX_SCALE", type := .int, accessFlags := 25, slot := 6, constantValue := 0 }, { name := "LOG2_ARRAY_LONG_INDEX_SCALE", type := .int, accessFlags := 25, slot := 7, constantValue := 0 }, { name := "LOG2_ARRAY_FLOAT_INDEX_SCALE", type := .int, accessFlags := 25, slot := 8, constantValue := 0 }, { name := "LOG2_ARRAY_DOUBLE_INDEX_SCALE", type := .int, accessFlags := 25, slot := 9, constantValue := 0 }, { name := "LOG2_BYTE_BIT_SIZE", type := .int, accessFlags := 26, slot := 10, constantValue := 0 }, { name := "T_BOOLEAN", type := .int, accessFlags := 25, slot := 11, constantValue := 0 }, { name := "T_CHAR", type := .int, accessFlags := 25, slot := 12, constantValue := 0 }, { name := "T_FLOAT", type := .int, accessFlags := 25, slot := 13, constantValue := 0 }, { name := "T_DOUBLE", type := .int, accessFlags := 25, slot := 14, constantValue := 0 }, { name := "T_BYTE", type := .int, accessFlags := 25, slot := 15, constantValue := 0 }, { name := "T_SHORT", type := .int, accessFlags := 25, slot := 16, constantValue := 0 }, { name := "T_INT", type := .int, accessFlags := 25, slot := 17, constantValue := 0 }, { name := "T_LONG", type := .int, accessFlags := 25, slot := 18, constantValue := 0 }, { name := "JLA", type := (.object "jdk/internal/access/JavaLangAccess"), accessFlags := 26, slot := 19, constantValue := 0 }, { name := "SOFT_MAX_ARRAY_LENGTH", type := .int, accessFlags := 25, slot := 20, constantValue := 0 }]
  methods := #[k4m0, k4m1]
  instanceTypes := #[]
  staticTypes := #[(.object "jdk/internal/misc/Unsafe"), .boolean, .int, .int, .int, .int, .int, .int, .int, .int, .int, .int, .int, .int, .int, .int, .int, .int, .int, (.object "jdk/internal/access/JavaLangAccess"), .int]
  resolved := Array.replicate 378 none
  statics := none }

def pool5 : Array CpInfo := pool [(1, u "java/lang/Cloneable"), (0, .class_ 1), (0, u "java/lang/Object"), (0, .class_ 3)] 3

/-- java/lang/Cloneable -/
def k5 : Class := { plain "java/lang/Cloneable" (some 0) with
  accessFlags := 1537
  interfaces := #[]
  cf := some (fileOf pool5 2 #[] #[] 1537 4 #[] #[])
  fields := #[]
  methods := #[]
  instanceTypes := #[]
  staticTypes := #[]
  resolved := Array.replicate 8 none
  statics := none }

def pool6 : Array CpInfo := pool [(1, u "java/io/Serializable"), (0, .class_ 1), (0, u "java/lang/Object"), (0, .class_ 3)] 3

/-- java/io/Serializable -/
def k6 : Class := { plain "java/io/Serializable" (some 0) with
  accessFlags := 1537
  interfaces := #[]
  cf := some (fileOf pool6 2 #[] #[] 1537 4 #[] #[])
  fields := #[]
  methods := #[]
  instanceTypes := #[]
  staticTypes := #[]
  resolved := Array.replicate 8 none
  statics := none }

/-- the primitive byte -/
def k7 : Class := { plain "byte" none with kind := .primitive 'B', accessFlags := 0x411 }
/-- [B -/
def k8 : Class := { plain "[B" (some 0) with kind := .array 7 .byte, interfaces := #[5, 6], accessFlags := 1041 }

/-- the primitive int -/
def k9 : Class := { plain "int" none with kind := .primitive 'I', accessFlags := 0x411 }
/-- [I -/
def k10 : Class := { plain "[I" (some 0) with kind := .array 9 .int, interfaces := #[5, 6], accessFlags := 1041 }

def heap : Heap := #[{ cls := 2, slots := #[.int 0, .int 0, .ref 1, .null], vm := .statics 2 },
  { cls := 8, slots := #[.int 47], vm := .none }]
def classes : Array Class := #[k0, k1, k2, k3, k4, k5, k6, k7, k8, k9, k10]
def interned : List (Array UInt16 × Addr) := []
def slotsUsed : Nat := 5
def theMethod : MethodId := ⟨1, 4⟩
def args0 : Array Value := #[.int 5, .int 5, .int 5, .int 5, .int 5, .int 5]
def aboutOver (below : List Frame) : State where
  vm := { classes := classes, interned := interned.toArray }
  heap := heap
  slotsUsed := slotsUsed
  threads := #[{ frames := .invoking theMethod args0 :: below }]
def below0 : List Frame := [.native { method := ⟨0, 0⟩, args := #[] }]
def about1 : State := aboutOver below0
def p0 : Program := .bare "" "" ""
def e0 : Env := launch0.env 0 0 0
theorem w_frames : about1.frames = Frame.invoking theMethod args0 :: below0 := rfl
set_option maxRecDepth 65536 in
theorem w_args : argsFit about1.vm theMethod args0 = true := by decide +kernel
set_option maxRecDepth 65536 in
theorem w_heap : heapFits about1 = true := by decide +kernel
set_option maxRecDepth 65536 in
theorem w_runnable : about1.curStatus? = some .runnable := by decide +kernel
set_option maxRecDepth 65536 in
theorem w_alone : about1.alone = true := by decide +kernel
set_option maxRecDepth 65536 in
theorem w_named : about1.methodNamed? x = some theMethod := by decide +kernel
set_option maxRecDepth 65536 in
theorem w_hears : about1.hears theMethod below0 = true := by decide +kernel
set_option maxRecDepth 65536 in
theorem w_ripe : about1.ripe theMethod args0 below0 = true := by decide +kernel
theorem w_running : about1.status = .running := rfl
set_option maxRecDepth 65536 in
theorem w_room : about1.hasRoom e0.platform room_1 = true :=
  launch0.hasRoom_least _ room_1 (by decide +kernel) (by decide +kernel) (by decide +kernel) (by decide +kernel) (by decide +kernel) (by decide +kernel)
theorem allAtoms_all (ts : List Jvm.Cond) (a : Array Jvm.Value) (st : Jvm.State) : (allAtoms ts).before a st = ts.all (fun c => c.before a st) := by
  induction ts with
  | nil => rfl
  | cons c t ih =>
    show (Jvm.Cond.and c (allAtoms t)).before a st = _
    rw [Jvm.Cond.before_and, ih, List.all_cons]
def words1 : List Jvm.Cond := Jvm.Cond.code x code maxLocals ret :: tables_1
/-- a 'code' word, met by the world's own term for the bytes: nothing is compared byte by byte -/
theorem code_word {y : MethodName} {bytes : ByteArray} {mx : Nat} {rt : Option FieldType} {a : Array Value} {s : State} {m : MethodId} {meth : Method} {c : Code} (h1 : s.methodNamed? y = some m) (h2 : s.vm.method? m = some meth) (h3 : meth.code = some c) (h4 : c.code = bytes)
    (h5 : (c.maxLocals == mx && c.exceptionTable.isEmpty && decide (c.maxStack ≤ mostOperands) && decide (meth.sig.returnType = rt) && !meth.locks && decide (parseMethodDescriptor y.desc = some meth.sig)) = true) : (Jvm.Cond.code y bytes mx rt).before a s = true := by
  simp only [Bool.and_eq_true, beq_iff_eq, Bool.not_eq_true', decide_eq_true_eq] at h5
  obtain ⟨⟨⟨⟨⟨g1, g2⟩, g3⟩, g4⟩, g5⟩, g6⟩ := h5
  simp [Cond.before, Cond.holds, Cond.value, h1, h2, h3, h4, g1, g2, g3, g4, g5, g6]
def isCode : Jvm.Cond → Bool
  | .code _ _ _ _ => true
  | _ => false
theorem all_split {L : List Jvm.Cond} {P : Jvm.Cond → Bool} (h1 : L.all (fun c => isCode c || P c) = true) (h2 : ∀ c ∈ L.filter isCode, P c = true) : L.all P = true := by
  refine List.all_eq_true.mpr fun c hc => ?_
  have h := List.all_eq_true.mp h1 c hc
  rcases Bool.eq_false_or_eq_true (isCode c) with hi | hi
  · exact h2 c (List.mem_filter.mpr ⟨hc, hi⟩)
  · simpa [hi] using h
set_option maxRecDepth 65536 in
theorem w_c0 : (Jvm.Cond.code x code maxLocals ret).before args0 about1 = true := code_word (m := ⟨1, 4⟩) (meth := k1m4) (c := k1c4) (by decide +kernel) rfl rfl rfl (by decide +kernel)
set_option maxRecDepth 65536 in
theorem w_c1 : (Jvm.Cond.code ({ cls := "com/example/aloud/aloud/PathPatternMatchesNoPathPinLaw", name := "pick", desc := "(I)B" } : Jvm.MethodName) method_2_code (2 : Nat) (Option.some Jvm.ClassFile.FieldType.byte)).before args0 about1 = true := code_word (m := ⟨1, 1⟩) (meth := k1m1) (c := k1c1) (by decide +kernel) rfl rfl rfl (by decide +kernel)
set_option maxRecDepth 65536 in
theorem w_c2 : (Jvm.Cond.code ({ cls := "com/example/aloud/aloud/PathPatternMatchesNoPathPinLaw", name := "ofLen", desc := "(IBBBB)[B" } : Jvm.MethodName) method_3_code (5 : Nat) (Option.some (Jvm.ClassFile.FieldType.array Jvm.ClassFile.FieldType.byte))).before args0 about1 = true := code_word (m := ⟨1, 2⟩) (meth := k1m2) (c := k1c2) (by decide +kernel) rfl rfl rfl (by decide +kernel)
set_option maxRecDepth 65536 in
theorem w_c3 : (Jvm.Cond.code ({ cls := "com/example/aloud/aloud/PathPatternMatchesNoPathPinLaw", name := "add", desc := "([BIBII)I" } : Jvm.MethodName) method_4_code (5 : Nat) (Option.some Jvm.ClassFile.FieldType.int)).before args0 about1 = true := code_word (m := ⟨1, 3⟩) (meth := k1m3) (c := k1c3) (by decide +kernel) rfl rfl rfl (by decide +kernel)
set_option maxRecDepth 65536 in
theorem w_c4 : (Jvm.Cond.code ({ cls := "com/example/aloud/aloud/PathPattern", name := "matchesNoPath", desc := "([B)Z" } : Jvm.MethodName) prog_15_method_3_code (1 : Nat) (Option.some Jvm.ClassFile.FieldType.boolean)).before args0 about1 = true := code_word (m := ⟨2, 1⟩) (meth := k2m1) (c := k2c1) (by decide +kernel) rfl rfl rfl (by decide +kernel)
set_option maxRecDepth 65536 in
theorem w_c5 : (Jvm.Cond.code ({ cls := "com/example/aloud/aloud/PathPattern", name := "matches", desc := "([B[B)Z" } : Jvm.MethodName) prog_15_method_10_code (4 : Nat) (Option.some Jvm.ClassFile.FieldType.boolean)).before args0 about1 = true := code_word (m := ⟨2, 5⟩) (meth := k2m5) (c := k2c5) (by decide +kernel) rfl rfl rfl (by decide +kernel)
set_option maxRecDepth 65536 in
theorem w_c6 : (Jvm.Cond.code ({ cls := "com/example/aloud/aloud/PathPattern", name := "literalStartLength", desc := "([B)I" } : Jvm.MethodName) prog_15_method_5_code (3 : Nat) (Option.some Jvm.ClassFile.FieldType.int)).before args0 about1 = true := code_word (m := ⟨2, 2⟩) (meth := k2m2) (c := k2c2) (by decide +kernel) rfl rfl rfl (by decide +kernel)
set_option maxRecDepth 65536 in
theorem w_c7 : (Jvm.Cond.code ({ cls := "com/example/aloud/aloud/PathPattern", name := "runsEnd", desc := "([BII)I" } : Jvm.MethodName) prog_15_method_12_code (3 : Nat) (Option.some Jvm.ClassFile.FieldType.int)).before args0 about1 = true := code_word (m := ⟨2, 7⟩) (meth := k2m7) (c := k2c7) (by decide +kernel) rfl rfl rfl (by decide +kernel)
set_option maxRecDepth 65536 in
theorem w_c8 : (Jvm.Cond.code ({ cls := "com/example/aloud/aloud/PathPattern", name := "classesAfterWildcards", desc := "([BI)C" } : Jvm.MethodName) prog_15_method_6_code (5 : Nat) (Option.some Jvm.ClassFile.FieldType.char)).before args0 about1 = true := code_word (m := ⟨2, 3⟩) (meth := k2m3) (c := k2c3) (by decide +kernel) rfl rfl rfl (by decide +kernel)
set_option maxRecDepth 65536 in
theorem w_c9 : (Jvm.Cond.code ({ cls := "com/example/aloud/aloud/PathPattern", name := "occursAt", desc := "([BI[BII)Z" } : Jvm.MethodName) prog_15_method_14_code (6 : Nat) (Option.some Jvm.ClassFile.FieldType.boolean)).before args0 about1 = true := code_word (m := ⟨2, 9⟩) (meth := k2m9) (c := k2c9) (by decide +kernel) rfl rfl rfl (by decide +kernel)
set_option maxRecDepth 65536 in
theorem w_c10 : (Jvm.Cond.code ({ cls := "java/util/Arrays", name := "equals", desc := "([BII[BII)Z" } : Jvm.MethodName) jdk_65_method_90_code (8 : Nat) (Option.some Jvm.ClassFile.FieldType.boolean)).before args0 about1 = true := code_word (m := ⟨3, 2⟩) (meth := k3m2) (c := k3c2) (by decide +kernel) rfl rfl rfl (by decide +kernel)
set_option maxRecDepth 65536 in
theorem w_c11 : (Jvm.Cond.code ({ cls := "java/util/Arrays", name := "rangeCheck", desc := "(III)V" } : Jvm.MethodName) jdk_65_method_30_code (3 : Nat) (Option.none : Option Jvm.ClassFile.FieldType)).before args0 about1 = true := code_word (m := ⟨3, 1⟩) (meth := k3m1) (c := k3c1) (by decide +kernel) rfl rfl rfl (by decide +kernel)
set_option maxRecDepth 65536 in
theorem w_c12 : (Jvm.Cond.code ({ cls := "jdk/internal/util/ArraysSupport", name := "mismatch", desc := "([BI[BII)I" } : Jvm.MethodName) jdk_48_method_14_code (8 : Nat) (Option.some Jvm.ClassFile.FieldType.int)).before args0 about1 = true := code_word (m := ⟨4, 1⟩) (meth := k4m1) (c := k4c1) (by decide +kernel) rfl rfl rfl (by decide +kernel)
set_option maxRecDepth 65536 in
theorem w_c13 : (Jvm.Cond.code ({ cls := "com/example/aloud/aloud/PathPattern", name := "byteClasses", desc := "([B)C" } : Jvm.MethodName) prog_15_method_9_code (6 : Nat) (Option.some Jvm.ClassFile.FieldType.char)).before args0 about1 = true := code_word (m := ⟨2, 4⟩) (meth := k2m4) (c := k2c4) (by decide +kernel) rfl rfl rfl (by decide +kernel)
set_option maxRecDepth 65536 in
theorem w_c14 : (Jvm.Cond.code ({ cls := "com/example/aloud/aloud/PathPattern", name := "matchesPastStart", desc := "([BIIIC[BC)Z" } : Jvm.MethodName) prog_15_method_11_code (14 : Nat) (Option.some Jvm.ClassFile.FieldType.boolean)).before args0 about1 = true := code_word (m := ⟨2, 6⟩) (meth := k2m6) (c := k2c6) (by decide +kernel) rfl rfl rfl (by decide +kernel)
set_option maxRecDepth 65536 in
theorem w_c15 : (Jvm.Cond.code ({ cls := "com/example/aloud/aloud/PathPattern", name := "wildcardOrEnd", desc := "([BII)I" } : Jvm.MethodName) prog_15_method_13_code (4 : Nat) (Option.some Jvm.ClassFile.FieldType.int)).before args0 about1 = true := code_word (m := ⟨2, 8⟩) (meth := k2m8) (c := k2c8) (by decide +kernel) rfl rfl rfl (by decide +kernel)
set_option maxRecDepth 65536 in
theorem w_c16 : (Jvm.Cond.code ({ cls := "com/example/aloud/aloud/PathPattern", name := "indexOf", desc := "([BI[BII)I" } : Jvm.MethodName) prog_15_method_15_code (9 : Nat) (Option.some Jvm.ClassFile.FieldType.int)).before args0 about1 = true := code_word (m := ⟨2, 10⟩) (meth := k2m10) (c := k2c10) (by decide +kernel) rfl rfl rfl (by decide +kernel)
def codes1 : List Jvm.Cond := [Jvm.Cond.code x code maxLocals ret, Jvm.Cond.code ({ cls := "com/example/aloud/aloud/PathPatternMatchesNoPathPinLaw", name := "pick", desc := "(I)B" } : Jvm.MethodName) method_2_code (2 : Nat) (Option.some Jvm.ClassFile.FieldType.byte), Jvm.Cond.code ({ cls := "com/example/aloud/aloud/PathPatternMatchesNoPathPinLaw", name := "ofLen", desc := "(IBBBB)[B" } : Jvm.MethodName) method_3_code (5 : Nat) (Option.some (Jvm.ClassFile.FieldType.array Jvm.ClassFile.FieldType.byte)), Jvm.Cond.code ({ cls := "com/example/aloud/aloud/PathPatternMatchesNoPathPinLaw", name := "add", desc := "([BIBII)I" } : Jvm.MethodName) method_4_code (5 : Nat) (Option.some Jvm.ClassFile.FieldType.int), Jvm.Cond.code ({ cls := "com/example/aloud/aloud/PathPattern", name := "matchesNoPath", desc := "([B)Z" } : Jvm.MethodName) prog_15_method_3_code (1 : Nat) (Option.some Jvm.ClassFile.FieldType.boolean), Jvm.Cond.code ({ cls := "com/example/aloud/aloud/PathPattern", name := "matches", desc := "([B[B)Z" } : Jvm.MethodName) prog_15_method_10_code (4 : Nat) (Option.some Jvm.ClassFile.FieldType.boolean), Jvm.Cond.code ({ cls := "com/example/aloud/aloud/PathPattern", name := "literalStartLength", desc := "([B)I" } : Jvm.MethodName) prog_15_method_5_code (3 : Nat) (Option.some Jvm.ClassFile.FieldType.int), Jvm.Cond.code ({ cls := "com/example/aloud/aloud/PathPattern", name := "runsEnd", desc := "([BII)I" } : Jvm.MethodName) prog_15_method_12_code (3 : Nat) (Option.some Jvm.ClassFile.FieldType.int), Jvm.Cond.code ({ cls := "com/example/aloud/aloud/PathPattern", name := "classesAfterWildcards", desc := "([BI)C" } : Jvm.MethodName) prog_15_method_6_code (5 : Nat) (Option.some Jvm.ClassFile.FieldType.char), Jvm.Cond.code ({ cls := "com/example/aloud/aloud/PathPattern", name := "occursAt", desc := "([BI[BII)Z" } : Jvm.MethodName) prog_15_method_14_code (6 : Nat) (Option.some Jvm.ClassFile.FieldType.boolean), Jvm.Cond.code ({ cls := "java/util/Arrays", name := "equals", desc := "([BII[BII)Z" } : Jvm.MethodName) jdk_65_method_90_code (8 : Nat) (Option.some Jvm.ClassFile.FieldType.boolean), Jvm.Cond.code ({ cls := "java/util/Arrays", name := "rangeCheck", desc := "(III)V" } : Jvm.MethodName) jdk_65_method_30_code (3 : Nat) (Option.none : Option Jvm.ClassFile.FieldType), Jvm.Cond.code ({ cls := "jdk/internal/util/ArraysSupport", name := "mismatch", desc := "([BI[BII)I" } : Jvm.MethodName) jdk_48_method_14_code (8 : Nat) (Option.some Jvm.ClassFile.FieldType.int), Jvm.Cond.code ({ cls := "com/example/aloud/aloud/PathPattern", name := "byteClasses", desc := "([B)C" } : Jvm.MethodName) prog_15_method_9_code (6 : Nat) (Option.some Jvm.ClassFile.FieldType.char), Jvm.Cond.code ({ cls := "com/example/aloud/aloud/PathPattern", name := "matchesPastStart", desc := "([BIIIC[BC)Z" } : Jvm.MethodName) prog_15_method_11_code (14 : Nat) (Option.some Jvm.ClassFile.FieldType.boolean), Jvm.Cond.code ({ cls := "com/example/aloud/aloud/PathPattern", name := "wildcardOrEnd", desc := "([BII)I" } : Jvm.MethodName) prog_15_method_13_code (4 : Nat) (Option.some Jvm.ClassFile.FieldType.int), Jvm.Cond.code ({ cls := "com/example/aloud/aloud/PathPattern", name := "indexOf", desc := "([BI[BII)I" } : Jvm.MethodName) prog_15_method_15_code (9 : Nat) (Option.some Jvm.ClassFile.FieldType.int)]
set_option maxRecDepth 65536 in
theorem codes_eq : words1.filter isCode = codes1 := rfl
theorem w_codes : ∀ c ∈ words1.filter isCode, c.before args0 about1 = true := by
  rw [codes_eq]
  intro c hc
  simp only [codes1, List.mem_cons, List.not_mem_nil, or_false] at hc
  rcases hc with rfl | rfl | rfl | rfl | rfl | rfl | rfl | rfl | rfl | rfl | rfl | rfl | rfl | rfl | rfl | rfl | rfl
  · exact w_c0
  · exact w_c1
  · exact w_c2
  · exact w_c3
  · exact w_c4
  · exact w_c5
  · exact w_c6
  · exact w_c7
  · exact w_c8
  · exact w_c9
  · exact w_c10
  · exact w_c11
  · exact w_c12
  · exact w_c13
  · exact w_c14
  · exact w_c15
  · exact w_c16
set_option maxRecDepth 65536 in
theorem w_t1 : (words1.take 24).all (fun c => isCode c || c.before args0 about1) = true := by decide +kernel
set_option maxRecDepth 65536 in
theorem w_t2 : ((words1.drop 24).take 24).all (fun c => isCode c || c.before args0 about1) = true := by decide +kernel
set_option maxRecDepth 65536 in
theorem w_t3 : ((words1.drop 24).drop 24).all (fun c => isCode c || c.before args0 about1) = true := by decide +kernel
theorem w_tables : (allAtoms (Jvm.Cond.code x code maxLocals ret :: tables_1)).before args0 about1 = true := by
  rw [allAtoms_all]
  show words1.all (fun c => c.before args0 about1) = true
  refine all_split ?_ w_codes
  rw [← List.take_append_drop 24 words1, List.all_append, w_t1, ← List.take_append_drop 24 (words1.drop 24), List.all_append, w_t2, w_t3]
  rfl
set_option maxRecDepth 65536 in
theorem w_case : (Jvm.Cond.and given_1 narrow_1).before args0 about1 = true := by decide +kernel
theorem w_applies : (headSpec (Jvm.Cond.code x code maxLocals ret :: tables_1) room_1).applies x e0.platform about1 = true :=
  (Spec.applies_iff w_frames).mpr ⟨w_running, w_runnable, w_alone, w_named, w_hears, w_ripe, w_room, w_tables⟩
theorem atStart : AtStart classFile x code maxLocals ret World_1 tables_1 room_1 Calls_1 rest_1 Pre_1 launch0 p0 e0 about1 theMethod args0 below0 :=
  ⟨lists_1, trivial, launch0.admits_env _ _ _, launch0.least_env, fairChoices_fair.cas, fairChoices_fair.clock, w_frames, w_args, w_heap, w_applies, trivial, trivial, w_case⟩
end start1
theorem witness_1 : WitnessClaimed_1 := ⟨start1.p0, start1.e0, start1.about1, start1.theMethod, start1.args0, start1.below0, start1.atStart⟩
end Jvm.Pilot.@@N@@
